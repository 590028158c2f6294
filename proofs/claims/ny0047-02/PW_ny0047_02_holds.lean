import PyProof.Rows.All
import Wide.All
import OpenK.AllK
import Wide.FinOn
import PySem.Builtin.Sre.Common
import Lean
import PySem.Challenge.RW_ny0047_02
set_option Elab.async false
section
open PySem PySem.Calls PySem.W PyProof.Rows
open Sem (wp)
set_option Elab.async false
set_option maxRecDepth 100000
namespace Mine
noncomputable def Low (l : List (Code × Pos)) : Prop := (l.any fun c => c.1.isCaller) = true
noncomputable def HC (Γ : Ctx) : Prop := Γ.code.isCaller = true ∨ Low Γ.below

noncomputable def wpC {α : Type} (M : Model) (A : Around) (t : Sem α) (Q : α → Shared → Prop) (E : Value → Shared → Prop) (s : Shared) : Prop :=
  ∀ Γ p, Γ.In A → HC Γ → wp M Γ t (fun a _ s' => Q a s') (fun e _ s' => E e s') p s
noncomputable def codeC (M : Model) (A : Around) (c : Code) (R : Result → Shared → Prop) (s : Shared) : Prop :=
  ∀ Γ p, Γ.code = c → Γ.Below A → Low Γ.below → wpCode M Γ R p s

theorem low_cons {c : Code} {p : Pos} {l : List (Code × Pos)} : Low ((c, p) :: l) ↔ (c.isCaller = true ∨ Low l) := by
  unfold Low; rw [List.any_cons, Bool.or_eq_true]
theorem HC.low {Γ : Ctx} (h : HC Γ) (p : Pos) : Low ((Γ.code, p) :: Γ.below) := low_cons.mpr h
theorem HC.of_low {Γ : Ctx} (h : Low Γ.below) : HC Γ := .inr h

section
variable {α β : Type} {M : Model} {A : Around} {E : Value → Shared → Prop} {s : Shared}
theorem C_any {t : Sem α} {Q : α → Shared → Prop} (h : wpAny M A t Q E s) : wpC M A t Q E s := fun Γ p hΓ _ => h Γ p hΓ
theorem codeC_any {c : Code} {R : Result → Shared → Prop} (h : codeAny M A c R s) : codeC M A c R s := fun Γ p hc hΓ _ => h Γ p hc hΓ
theorem C_pure {a : α} {Q : α → Shared → Prop} (h : Q a s) : wpC M A (pure a) Q E s := fun _ _ _ _ => h
theorem C_throw {e : Value} {Q : α → Shared → Prop} (h : E e s) : wpC M A (throw e : Sem α) Q E s := fun _ _ _ _ => h
theorem C_mono {t : Sem α} {Q Q' : α → Shared → Prop} {E' : Value → Shared → Prop} (h : wpC M A t Q E s) (hQ : ∀ a s, Q a s → Q' a s) (hE : ∀ e s, E e s → E' e s) : wpC M A t Q' E' s :=
  fun Γ p hΓ hc => Sem.wp_mono M Γ t (fun a _ s => hQ a s) (fun e _ s => hE e s) p s (h Γ p hΓ hc)
theorem C_q {t : Sem α} {Q Q' : α → Shared → Prop} (h : wpC M A t Q E s) (hQ : ∀ a s, Q a s → Q' a s) : wpC M A t Q' E s := C_mono h hQ fun _ _ e => e
theorem C_bind {m : Sem α} {f : α → Sem β} {Q : β → Shared → Prop} (h : wpC M A m (fun a s' => wpC M A (f a) Q E s') E s) : wpC M A (m >>= f) Q E s := fun Γ p hΓ hc => by
  rw [Sem.wp_bind']
  exact Sem.wp_mono M Γ m (fun a p' s' h' => h' Γ p' hΓ hc) (fun _ _ _ h' => h') p s (h Γ p hΓ hc)
theorem C_onRaise {m : Sem α} {k : Value → Sem Unit} {Q : α → Shared → Prop} (h : wpC M A m Q (fun e s' => wpC M A (k e) (fun _ s'' => E e s'') E s') s) : wpC M A (m.onRaise k) Q E s := fun Γ p hΓ hc => by
  rw [Sem.wp_onRaise]
  exact Sem.wp_mono M Γ m (fun _ _ _ h' => h') (fun e p' s' h' => h' Γ p' hΓ hc) p s (h Γ p hΓ hc)
theorem C_attempt {m : Sem α} {Q : Except Value α → Shared → Prop} (h : wpC M A m (fun a => Q (.ok a)) (fun e => Q (.error e)) s) : wpC M A m.attempt Q E s := fun Γ p hΓ hc => by rw [Sem.wp_attempt]; exact h Γ p hΓ hc
theorem C_holding {vs : List Value} {m : Sem α} {Q : α → Shared → Prop} (h : wpC M A m Q E s) : wpC M A (holding vs m) Q E s := fun Γ p hΓ hc => by rw [Sem.wp_holding]; exact h Γ p hΓ hc
theorem C_keep {vs : List Value} {m : Sem α} {Q : α → Shared → Prop} (h : wpC M A m Q E s) : wpC M A (m.keep vs) Q E s := fun Γ p hΓ hc => by rw [Sem.wp_keep]; exact h Γ p hΓ hc
theorem C_standAt {pos : Pos} {Q : Unit → Shared → Prop} (h : Q () s) : wpC M A (standAt pos) Q E s := fun _ _ _ _ => h
theorem C_rule {tag : String} {Q : Unit → Shared → Prop} (h : Q () s) : wpC M A (rule tag) Q E s := fun _ _ _ _ => h
theorem C_point {Q : Unit → Shared → Prop} (h : Q () s) : wpC M A point Q E s := fun _ _ _ _ => h
theorem C_operate {vs : List Value} {m : Sem Value} {Q : Value → Shared → Prop} (h : wpC M A m Q E s) : wpC M A (operate vs m) Q E s := fun Γ p hΓ hc => by rw [Sem.wp_operate]; exact h Γ p hΓ hc
theorem C_stack {Q : List (Code × Pos) → Shared → Prop} (h : ∀ st : List (Code × Pos), Low st → Q st s) : wpC M A stack Q E s := fun Γ p _ hc => h _ (hc.low p)
theorem C_at {t : Sem α} {pos : Pos} {Q : α → Shared → Prop} (h : wpC M A t Q E s) : wpC M A (do standAt pos; t) Q E s := C_bind (C_standAt h)

theorem C_run {c : Code} {h : Option Value} {Q : Flow → Shared → Prop} (hc : codeC M (A.mark h) c (fun r s' => match r with | .ok f => Q f s' | .error e => E e s') s) (hnb : h ≠ some byPass := by intro x; cases x) :
    wpC M A (run c h) Q E s := fun Γ p hΓ hl => by rw [Sem.wp_run]; exact hc _ p rfl (hΓ.enter c h p hnb) (hl.low p)
theorem C_runValue {c : Code} {Q : Value → Shared → Prop} (hc : codeC M A c (fun r s' => match r with | .ok (.ret v) => Q v s' | .ok _ => False | .error e => E e s') s) : wpC M A (runValue c) Q E s :=
  fun Γ p hΓ hl => by rw [Sem.wp_runValue]; exact hc _ p rfl (hΓ.enter c none p (by intro x; cases x)) (hl.low p)
theorem C_call {f : Value} {pos : List Value} {kw : List (Str × Value)} {Q : Value → Shared → Prop} (hc : codeC M A (.call f ⟨pos, kw⟩) (fun r s' => match r with | .ok (.ret v) => Q v s' | .ok _ => False | .error e => E e s') s) :
    wpC M A (call f pos kw) Q E s := C_runValue hc
theorem C_runOwn {env : Env} {c : Code} {h : Option Value} {Q : Flow → Shared → Prop}
    (hc : codeC M (A.mark h) c (fun r s' => match r with | .ok f => Q f s' | .error e => cameBackBy M A env E e s') s) (hnb : h ≠ some byPass := by intro x; cases x) : wpC M A (runOwn c env h) Q E s := by
  unfold runOwn
  exact C_onRaise (C_mono (C_run (E := cameBackBy M A env E) hc hnb) (fun _ _ x => x) fun e s' x => C_any x)
theorem codeC_mono {c : Code} {R R' : Result → Shared → Prop} (h : codeC M A c R s) (hR : ∀ r s, R r s → R' r s) : codeC M A c R' s := fun Γ p hc hΓ hl => wpCode_mono hR (h Γ p hc hΓ hl)
theorem codeC_of_tree {c : Code} {R : Result → Shared → Prop}
    (h : wpC M (A.under c) (M.den c) (fun fin s' => match fin with | .done f => R (.ok f) s' | .again c' => c'.quiet = true ∧ codeC M A c' R s') (fun e s' => R (.error e) s') s) : codeC M A c R s := fun Γ p hc hΓ hl => by
  rw [wpCode_iff_wp, hc]
  refine Sem.wp_mono M Γ _ (fun fin p' s' h' => ?_) (fun _ _ _ h' => h') p s (h Γ p (hc ▸ hΓ.in) (.of_low hl))
  cases fin with
  | done f => exact h'
  | again c' => exact ⟨h'.1, h'.2 (Γ.goto c') p' rfl (hΓ.goto c') hl⟩
end
end Mine
end
section
open PySem PySem.Calls PySem.W PyProof.Rows
open Sem (wp)
set_option Elab.async false
set_option maxRecDepth 100000
namespace Mine
section
variable {M : Model} {A : Around} {E : Value → Shared → Prop} {s : Shared} {env : Env}
theorem C_nil {Q : Flow → Shared → Prop} (h : Q .next s) : wpC M A (execs [] env) Q E s := fun _ _ _ _ => h
theorem C_cons {st rest} {Q : Flow → Shared → Prop} (h : wpC M A (exec st env) (fun f s' => match f with | .next => wpC M A (execs rest env) Q E s' | f => Q f s') E s) : wpC M A (execs (st :: rest) env) Q E s := by
  rw [execs_cons]
  refine C_bind (C_q h fun f s' h' => ?_)
  cases f <;> first | exact h' | exact C_pure h'
theorem C_Expr {e pos} {Q : Flow → Shared → Prop} (h : wpC M A (eval e env) (fun v s' => match v with | .ref _ => False | _ => Q .next s') E s)
    (hi : interactive env = false := by rfl) (hs : swapsWith e none pos.line env = pure false := by rfl) : wpC M A (exec (.Expr e pos) env) Q E s := by
  rw [exec_Expr env e pos hi hs]
  refine C_bind (C_standAt (C_bind (C_q h fun v s' h' => ?_)))
  have hv : ∀ a, v ≠ .ref a := fun a hva => by subst hva; exact h'
  rw [dropValue_plain hv]
  refine C_pure ?_
  cases v <;> first | exact h' | exact (hv _ rfl).elim
theorem C_AssignName {x pos' value pos} {Q : Flow → Shared → Prop} (h : wpC M A (eval value env) (fun v s₁ => wpC M A (storeName env x v) (fun _ => Q .next) E s₁) E s)
    (hs : swapsWith value (some (.Name x pos')) pos.line env = pure false := by rfl) : wpC M A (exec (.Assign [.Name x pos'] value pos) env) Q E s := by
  rw [exec_Assign_Name env x pos' value pos hs]
  refine C_bind (C_standAt (C_bind (C_q h fun v s' h' => C_bind (C_standAt (C_bind ?_)))))
  unfold bindName
  exact C_bind (C_holding (C_point (C_bind (C_q h' fun _ _ x => C_point (C_pure x)))))
theorem C_If {test body orelse pos} {Q : Flow → Shared → Prop} (h : wpC M A (isTrue test env (eval test env)) (fun b s₂ => if b then wpC M A (execs body env) Q E s₂ else wpC M A (execs orelse env) Q E s₂) E s) :
    wpC M A (exec (.If test body orelse pos) env) Q E s := by
  rw [exec_If]
  refine C_bind (C_standAt (C_bind (C_q h fun b s₂ h₂ => ?_)))
  cases b <;> exact h₂
theorem C_Return {e pos} {Q : Flow → Shared → Prop} (h : wpC M A (eval e env) (fun v => Q (.ret v)) E s) : wpC M A (exec (.Return (some e) pos) env) Q E s := by
  rw [exec_Return_some]
  exact C_bind (C_standAt (C_bind (C_q h fun _ _ x => C_pure x)))
theorem C_Try {body : List Stmt} {h₀ : ExceptHandler} {hs : List ExceptHandler} {orelse : List Stmt} {pos : Pos} {Q : Flow → Shared → Prop}
    (h : wpC M A (execs body env) (fun f s₁ => match f with | .next => wpC M A (execs orelse env) Q E s₁ | f => Q f s₁)
      (fun e s₁ => wpC M A (noteFrame e env) (fun _ s₂ => wpC M A (setFlight e none) (fun _ s₃ => wpC M A (handleBy e env (h₀ :: hs)) Q E s₃) E s₂) E s₁) s) :
    wpC M A (exec (.Try body (h₀ :: hs) orelse [] pos) env) Q E s := by
  rw [arm_exec_Try]
  refine C_bind (C_standAt ?_)
  unfold tryStmt
  simp only [List.isEmpty_nil, if_true, List.isEmpty_cons, Bool.false_and, Bool.false_eq_true, if_false]
  refine C_bind (C_attempt (C_mono h (fun f s₁ h₁ => ?_) fun e s₁ h₁ => ?_))
  · cases f <;> first | exact h₁ | exact C_pure h₁
  · exact C_bind (C_q h₁ fun _ _ h₂ => C_bind h₂)

theorem C_BinOp {l op r pos} {Q : Value → Shared → Prop} (h : wpC M A (eval l env) (fun a s₁ => wpC M A (eval r env) (fun b s₂ => wpC M A (binaryOp op a b) Q E s₂) E s₁) E s) : wpC M A (eval (.BinOp l op r pos) env) Q E s := by
  rw [eval_BinOp]
  exact C_bind (C_q h fun a s₁ h₁ => C_bind (C_holding (C_q h₁ fun b s₂ h₂ => C_bind (C_standAt (C_operate h₂)))))
theorem C_isTrue_Compare1 {l op r pos whole} {Q : Bool → Shared → Prop} (h : wpC M A (eval l env) (fun a s₁ => wpC M A (eval r env) (fun b s₂ => wpC M A (compareOp op a b) (fun c s₃ => wpC M A (truthy c) Q E s₃) E s₂) E s₁) E s)
    (hm : behindInMarks op r = false := by with_unfolding_all rfl) : wpC M A (isTrue (.Compare l [op] [r] pos) env whole) Q E s := by
  rw [isTrue_Compare1, markedBehindIn_of_false hm]
  exact C_bind (C_q h fun a s₁ h₁ => C_bind (C_holding (C_q h₁ fun b s₂ h₂ => C_bind (C_standAt (C_bind (C_operate (C_q h₂ fun c s₃ h₃ => C_holding h₃)))))))
theorem C_isTrue_BoolOp {op : BoolOp} {values : List Expr} {pos : Pos} {whole : Sem Value} {Q : Bool → Shared → Prop} (h : wpC M A (allTrue op values env) Q E s) : wpC M A (isTrue (.BoolOp op values pos) env whole) Q E s := by rw [arm_isTrue_BoolOp]; exact h
theorem C_allTrue_Or_cons {x : Expr} {rest : List Expr} {Q : Bool → Shared → Prop} (h : wpC M A (isTrue x env (eval x env)) (fun b s₁ => if b then Q true s₁ else wpC M A (allTrue .Or rest env) Q E s₁) E s) : wpC M A (allTrue .Or (x :: rest) env) Q E s := by
  show wpC M A (do match BoolOp.Or, ← isTrue x env (eval x env) with | .And, false => pure false | .Or, true => pure true | _, _ => allTrue .Or rest env) Q E s
  refine C_bind (C_q h fun b s₁ h₁ => ?_)
  cases b
  · exact h₁
  · exact C_pure h₁
theorem C_allTrue_Or_nil {Q : Bool → Shared → Prop} (h : Q false s) : wpC M A (allTrue .Or [] env) Q E s := C_pure h

theorem C_items_nil {pos : Pos} {Q : List Value → Shared → Prop} (h : Q [] s) : wpC M A (spliced (backTo pos (starEach [] env))) Q E s := C_pure h
theorem C_items_cons {pos : Pos} {e : Expr} {rest : List Expr} {Q : List Value → Shared → Prop} (h : wpC M A (eval e env) (fun v s₁ => wpC M A (spliced (backTo pos (starEach rest env))) (fun vs s₂ => Q (v :: vs) s₂) E s₁) E s)
    (he : starEach (e :: rest) env = (false, eval e env) :: starEach rest env := by rfl) : wpC M A (spliced (backTo pos (starEach (e :: rest) env))) Q E s := by
  rw [he]
  show wpC M A (do
    let v ← eval e env
    let here ← (pure [v] : Sem (List Value))
    return here ++ (← holding here (spliced (backTo pos (starEach rest env))))) Q E s
  exact C_bind (C_q h fun v s₁ h₁ => C_bind (C_pure (C_bind (C_holding (C_q h₁ fun vs s₂ h₂ => C_pure h₂)))))
theorem C_Tuple {elts : List Expr} {k : Nat} {pos : Pos} {Q : Value → Shared → Prop} (h : wpC M A (spliced (backTo pos (starEach elts env)))
      (fun vs s₁ => vs.length ≤ sizeLine ∧ Q (.ref s₁.heap.objs.size) { s₁ with heap := s₁.heap.push { cls := .type "tuple", data := .seq vs.toArray } }) E s) : wpC M A (eval (.Tuple elts k pos) env) Q E s := by
  rw [arm_eval_Tuple]
  exact C_bind (C_standAt (C_bind (C_q h fun vs s₁ h₁ => C_any (wpAny_newObj_type h₁.2 (by show vs.toArray.size ≤ sizeLine; rw [List.size_toArray]; exact h₁.1)))))
theorem C_List {elts : List Expr} {pos : Pos} {Q : Value → Shared → Prop} (h : wpC M A (spliced (backTo pos (starEach elts env)))
      (fun vs s₁ => vs.length ≤ sizeLine ∧ Q (.ref s₁.heap.objs.size) { s₁ with heap := s₁.heap.push { cls := .type "list", data := .seq vs.toArray } }) E s) : wpC M A (eval (.List elts pos) env) Q E s := by
  rw [arm_eval_List]
  exact C_bind (C_standAt (C_bind (C_q h fun vs s₁ h₁ => C_any (wpAny_newObj_type h₁.2 (by show vs.toArray.size ≤ sizeLine; rw [List.size_toArray]; exact h₁.1)))))

theorem C_Call_Name {x : Str} {np pos : Pos} {args : List Expr} {Q : Value → Shared → Prop}
    (h : wpC M A (eval (.Name x np) env) (fun f s₁ => wpC M A (callWith pos f [] (backTo pos (starEach args env)) []) Q E s₁) E s) : wpC M A (eval (.Call (.Name x np) args [] pos) env) Q E s := by
  show wpC M A (do callWith pos (← eval (.Name x np) env) [] (backTo pos (starEach args env)) (backToKw pos (keywordEach [] env))) Q E s
  exact C_bind h
theorem C_evalArgs {f : Value} {pos : Pos} {e : Expr} {rest : List Expr} {Q : Args → Shared → Prop} (h : wpC M A (spliced (backTo pos (starEach (e :: rest) env))) (fun vs s' => Q ⟨vs, []⟩ s') E s)
    (he : starEach (e :: rest) env = (false, eval e env) :: starEach rest env := by rfl) : wpC M A (evalArgs f true (backTo pos (starEach (e :: rest) env)) []) Q E s := by
  unfold evalArgs
  rw [he] at h ⊢
  show wpC M A (spliced (backTo pos ((false, eval e env) :: starEach rest env)) >>= _) Q E s
  refine C_bind (C_q h fun vs s' h' => ?_)
  refine C_holding ?_
  exact C_bind (C_pure (C_bind (C_pure (C_pure h'))))
theorem C_callFn {pos : Pos} {a : Addr} {first : List Value} {args : List (Bool × Sem Value)} {Q : Value → Shared → Prop}
    (h : wpC M A (evalArgs (.ref a) true args []) (fun x s₁ => (∃ o fd, s₁.heap.get? a = some o ∧ o.data = .func fd) ∧ wpC M A (call (.ref a) (first ++ x.pos) x.kw) Q E s₁) E s) :
    wpC M A (callWith pos (.ref a) first args []) Q E s := by
  unfold callWith
  refine C_bind (C_holding (C_q h fun x s₁ h₁ => C_bind (C_standAt ?_)))
  obtain ⟨⟨o, fd, ho, hd⟩, hc⟩ := h₁
  have tail : ∀ {t : Sem Value}, wpC M A t Q E s₁ → wpC M A (t >>= fun r => holding [r] point >>= fun _ => pure r) Q E s₁ := fun ht => C_bind (C_q ht fun r s₂ hr => C_bind (C_holding (C_point (C_pure hr))))
  have hk : ∀ {Q' : Keeper → Shared → Prop}, Q' .frame s₁ → wpC M A (keeperOf (.ref a)) Q' E s₁ := fun hq => by
    unfold keeperOf
    refine C_any (wpAny_bind (wpAny_load ho ?_))
    rw [hd]; exact wpAny_pure hq
  refine C_bind (hk ?_)
  cases hs : args.any (·.1) <;> simp only [List.any_nil, Bool.or_false]
  · split
    · exact tail hc
    · exact tail (by unfold callMarked; exact C_keep hc)
  · exact tail (by unfold callMarked; exact C_keep hc)
theorem C_callBuiltin {pos : Pos} {f : Value} {first : List Value} {args : List (Bool × Sem Value)} {Q : Value → Shared → Prop} (hf : keeperOf f = pure .machine) (hplain : args.any (·.1) = false)
    (h : wpC M A (evalArgs f true args []) (fun x s₁ => wpC M A (call f (first ++ x.pos) x.kw) Q E s₁) E s) : wpC M A (callWith pos f first args []) Q E s := by
  unfold callWith
  refine C_bind (C_holding (C_q h fun x s₁ h₁ => C_bind (C_standAt ?_)))
  simp only [hplain, List.any_nil, Bool.or_false, hf]
  refine C_bind (C_pure ?_)
  exact C_bind (C_q h₁ fun r s₂ hr => C_bind (C_holding (C_point (C_pure hr))))
end

section
variable {prog : Program} {w : World} {A : Around} {E : Value → Shared → Prop} {s : Shared} {R : Result → Shared → Prop} {env : Env}
theorem codeC_func {body env} (h : wpC (model prog w) (A.deeper env) (execs body env) (fun f s' => R (.ok (.ret (match f with | .ret v => v | _ => .none))) s') (fun _ _ => False) s) : codeC (model prog w) A (.func body env) R s := by
  refine codeC_of_tree ?_
  show wpC _ (A.deeper env) (do point; match ← (execs body env).onRaise (leaving env) with | .ret v => ret v | _ => ret .none) _ _ s
  refine C_bind (C_point (C_bind (C_onRaise (C_mono h (fun f s' h' => ?_) fun _ _ h' => h'.elim))))
  cases f <;> exact C_pure h'
theorem codeC_call {a : Addr} {args : Args} {o : Obj} {fd : FuncData} {body : List Stmt} (hroom : A.depth < recursionLimit) (ho : s.heap.get? a = some o) (hd' : o.data = .func fd) (hco : fd.scope.isCoroutine = false) (hgen : fd.scope.isGenerator = false)
    (hbody : fd.body = .stmts body) (hcd : s.heap.CodeRec fd.code fd.qualname)
    (h : wpAny (model prog w) A.in1 (bindArgs fd args) (fun binds s₁ => wpAny (model prog w) A.in1 (newFunctionEnv fd.scope fd.globals fd.closure binds (fd.qualname ++ ".<locals>.") (some a) fd.code none fd.builtins)
        (fun env s₂ => s₂.heap.NoLimit ∧ codeC (model prog w) A (.func body env) R s₂) (fun e s' => R (.error e) s') s₁) (fun e s' => R (.error e) s') s) : codeC (model prog w) A (.call (.ref a) args) R s := by
  refine codeC_of_tree ?_
  show wpC _ A.in1 (callAny (.ref a) args) _ _ s
  simp only [callAny]
  refine C_any ?_
  refine wpAny_bind (wpAny_load ho ?_)
  obtain ⟨c, oc, vs, tq, hc, hoc, hdc, hq⟩ := hcd
  simp only [hd', callFunction, hco, hgen, hbody, hc]
  rw [hc] at h
  refine wpAny_bind (m := field (.ref c) 1) (wpAny_field hoc hdc hq (wpAny_bind (wpAny_pure ?_)))
  exact wpAny_bind (wpAny_mono h (fun binds s₁ h₁ => wpAny_bind (wpAny_mono h₁ (fun env s₂ h₂ => wpAny_bind (wpAny_enterFrame h₂.1 hroom (wpAny_pure (And.intro rfl h₂.2)))) fun _ _ h' => h')) fun _ _ h' => h')
theorem C_forLoop {target it body env} (I : Nat → Shared → Prop)
    (turn : ∀ n s, I n s → wpC (model prog w) A (pyNext it) (fun r s₁ => match r with
      | none => R (.ok .next) s₁
      | some v => wpC (model prog w) A (letOwnedTupleGo target it v) (fun _ s₁' => wpC (model prog w) A (assign target env v) (fun _ s₂ => wpC (model prog w) A (execs body env) (fun f s₃ => match f with
          | .next | .cont => ∃ m, m < n ∧ I m s₃
          | .brk => R (.ok .next) s₃
          | .ret v => R (.ok (.ret v)) s₃) (fun _ _ => False) s₂) (fun _ _ => False) s₁') (fun _ _ => False) s₁) (fun _ _ => False) s)
    (n : Nat) (h : I n s) : codeC (model prog w) A (.forLoop target it body [] env) R s := by
  induction n using Nat.strongRecOn generalizing s with
  | ind n ih =>
    refine codeC_of_tree ?_
    rw [Around.under_of_weight rfl]
    show wpC _ _ ((forTurn target it body [] env).onRaise (fun x => do noteFrame x env; theTreesLotGoes x)) _ _ s
    refine C_onRaise ?_
    simp only [forTurn]
    refine C_bind (C_standAt (C_bind (C_onRaise (C_mono (turn n s h) (fun r s₁ h₁ => ?_) fun _ _ h' => h'.elim))))
    cases r with
    | none => exact C_pure ⟨rfl, codeC_any (codeAny_block (wpAny_execs_nil h₁))⟩
    | some v =>
      refine C_bind (C_mono h₁ (fun _ s₁' h₁' => C_bind (C_mono h₁' (fun _ s₂ h₂ => C_bind (C_mono h₂ (fun f s₃ h₃ => ?_) fun _ _ h' => h'.elim)) fun _ _ h' => h'.elim)) fun _ _ h' => h'.elim)
      cases f with
      | next => obtain ⟨m, hm, hI⟩ := h₃; exact C_pure ⟨rfl, ih m hm hI⟩
      | cont => obtain ⟨m, hm, hI⟩ := h₃; exact C_pure ⟨rfl, ih m hm hI⟩
      | brk => exact C_pure h₃
      | ret v => exact C_pure h₃
theorem C_For {target iter body pos} {Q : Flow → Shared → Prop} (h : wpC (model prog w) A (eval iter env) (fun x s₁ => wpC (model prog w) A (pyIter x) (fun it s₂ =>
      codeC (model prog w) A (.forLoop target it body [] env) (fun r s' => match r with | .ok f => Q f s' | .error _ => False) s₂) E s₁) E s) (hs : ∀ x, foldedSetIterable iter env x = pure x := by intro _; rfl) :
    wpC (model prog w) A (exec (.For target iter body [] pos) env) Q E s := by
  rw [exec_For]
  refine C_bind (C_standAt (C_bind (C_q h fun x s₁ h₁ => ?_)))
  rw [hs x]
  refine C_bind (C_pure (C_bind (C_standAt (C_bind (C_holding (C_q h₁ fun it s₂ h₂ => C_runOwn (codeC_mono h₂ fun r s' hr => ?_)))))))
  cases r with
  | ok f => exact hr
  | error e => exact hr.elim
theorem C_whileLoop {test body env} (I : Nat → Shared → Prop)
    (turn : ∀ n s, I n s → wpC (model prog w) A (isTrue test env (eval test env)) (fun b s₂ => if b then wpC (model prog w) A (execs body env) (fun f s₃ => match f with
            | .next | .cont => ∃ m, m < n ∧ I m s₃
            | .brk => R (.ok .next) s₃
            | .ret v => R (.ok (.ret v)) s₃) (fun _ _ => False) s₂
        else R (.ok .next) s₂) (fun _ _ => False) s)
    (n : Nat) (h : I n s) : codeC (model prog w) A (.whileLoop test body [] env) R s := by
  induction n using Nat.strongRecOn generalizing s with
  | ind n ih =>
    refine codeC_of_tree ?_
    rw [Around.under_of_weight rfl]
    show wpC _ A ((whileTurn test body [] env).onRaise (fun x => do noteFrame x env; theTreesLotGoes x)) _ _ s
    refine C_onRaise ?_
    simp only [whileTurn]
    refine C_bind (C_mono (turn n s h) (fun b s₂ h₂ => ?_) fun _ _ h' => h'.elim)
    cases b with
    | false => exact C_bind (C_nil (C_pure h₂))
    | true =>
      simp only [if_true] at h₂ ⊢
      refine C_bind (C_mono h₂ (fun f s₃ h₃ => ?_) fun _ _ h' => h'.elim)
      cases f with
      | next => obtain ⟨m, hm, hI⟩ := h₃; exact C_pure ⟨rfl, ih m hm hI⟩
      | cont => obtain ⟨m, hm, hI⟩ := h₃; exact C_pure ⟨rfl, ih m hm hI⟩
      | brk => exact C_pure h₃
      | ret v => exact C_pure h₃
theorem C_While {test body pos} {Q : Flow → Shared → Prop} (h : codeC (model prog w) A (.whileLoop test body [] env) (fun r s' => match r with | .ok f => Q f s' | .error _ => False) s) : wpC (model prog w) A (exec (.While test body [] pos) env) Q E s := by
  rw [exec_While]
  refine C_bind (C_standAt (C_runOwn (codeC_mono h fun r s' hr => ?_)))
  cases r with
  | ok f => exact hr
  | error e => exact hr.elim
end
end Mine
end
section
open PySem PySem.Sre
namespace Mine
noncomputable def cvCode : Array Nat := #[14, 4, 0, 1, 4294967295, 17, 0, 7, 14, 24, 10, 1, 4294967295, 13, 5, 22, 48, 57, 0, 1, 15, 17, 15, 13, 11, 9, 0, 26624, 2147483648, 0, 0, 0, 0, 0, 0, 15, 2, 0, 17, 1, 1]

noncomputable def dig (c : Nat) : Bool := 48 ≤ c && c ≤ 57
noncomputable def sepC (c : Nat) : Bool := c == 43 || c == 45 || c == 46 || c == 95

noncomputable def f0 (s : Nat) (first : Bool) : Sre.Frame := { wait := .nextStart, pc := 5, pos := s, outermost := first }
noncomputable def kp : Sre.Kept := { lastmark := 0, lastindex := -1, whole := false, marks := #[] }
noncomputable def f1 (pc s : Nat) (first : Bool) : Sre.Frame := { wait := .nextBranch, pc := pc, pos := s, outermost := first, kept := kp }
noncomputable def f2 (s n : Nat) (first : Bool) : Sre.Frame := { wait := .giveBack, pc := 9, pos := s + n, outermost := first, count := n, kept := kp }

noncomputable def S0 (t : Array Nat) (lim s : Nat) (must first : Bool) (mk : Array (Option Nat)) (seen : Seen) : M :=
  { code := cvCode, text := t, lim, start := s, lastStart := lim, mustAdvance := must, pc := 5, pos := s, handed := s, outermost := first, marks := mk,
    lastmark := -1, lastindex := -1, frames := [f0 s first], weight := 1, seen }
variable {t : Array Nat} {lim s : Nat} {must first : Bool} {mk : Array (Option Nat)} {seen : Seen}
noncomputable def S1 (t : Array Nat) (lim s : Nat) (must first : Bool) (mk : Array (Option Nat)) (seen : Seen) : M :=
  { S0 t lim s must first mk seen with pc := 7, marks := mk.setIfInBounds 0 (some s), lastmark := 0 }
theorem step0 : (S0 t lim s must first mk seen).step = S1 t lim s must first mk (seen.add 17) := by rfl
noncomputable def S2 (t : Array Nat) (lim s : Nat) (must first : Bool) (mk : Array (Option Nat)) (seen : Seen) : M :=
  { S1 t lim s must first mk seen with pc := 9, frames := [f1 8 s first, f0 s first], weight := 2 }
theorem step1 : (S1 t lim s must first mk seen).step = S2 t lim s must first mk (seen.add 7) := by rfl

noncomputable def digs (t : Array Nat) : Nat → Nat → Nat
  | 0, _ => 0
  | n + 1, p => if dig (t.getD p 0) then digs t n (p + 1) + 1 else 0

theorem inSet_dig (c : Nat) (seen : Seen) : ∃ seen', inSet cvCode c 41 15 true seen = .ok (dig c, seen') := by
  show ∃ seen', (if (48 ≤ c && c ≤ 57) = true then Except.ok (true, seen.add 22) else inSet cvCode c 40 18 true (seen.add 22)) = _
  unfold dig
  cases h : (decide (48 ≤ c) && decide (c ≤ 57)) with
  | true => exact ⟨_, rfl⟩
  | false => exact ⟨_, rfl⟩
theorem accepts_dig (c : Nat) (seen : Seen) : ∃ seen', accepts cvCode 13 c seen = .ok (dig c, seen') := inSet_dig c seen

theorem run_dig (t : Array Nat) : ∀ (n p f : Nat) (seen : Seen), ∃ seen', Sre.run cvCode t 13 n p f seen = .ok (f + digs t n p, seen')
  | 0, p, f, seen => ⟨seen, rfl⟩
  | n + 1, p, f, seen => by
    obtain ⟨s1, h1⟩ := accepts_dig (t.getD p 0) seen
    simp only [Sre.run, h1, bind, Except.bind, digs]
    cases hd : dig (t.getD p 0) with
    | true =>
      obtain ⟨s2, h2⟩ := run_dig t n (p + 1) (f + 1) s1
      exact ⟨s2, by simp only [if_true, h2]; congr 2; omega⟩
    | false => exact ⟨s1, by simp [pure, Except.pure]⟩

noncomputable def S3 (t : Array Nat) (lim s n : Nat) (must first : Bool) (mk : Array (Option Nat)) (seen : Seen) : M :=
  { S2 t lim s must first mk seen with pc := 20, pos := s + n, handed := s + n, frames := [f2 s n first, f1 8 s first, f0 s first], weight := 3 }
theorem repeat_lim (hs : s ≤ lim) : (min 4294967295 ((lim : Int) - s).toNat) = min 4294967295 (lim - s) := by omega

theorem step2_yes (hs : s < lim) (hl : lim ≤ 4294967295) (n : Nat) (hn : digs t (lim - s) s = n + 1) : ∃ seen', (S2 t lim s must first mk seen).step = S3 t lim s (n + 1) must first mk seen' := by
  obtain ⟨s1, h1⟩ := run_dig t (min 4294967295 ((lim : Int) - s).toNat) s 0 ((seen.add 24).add 13)
  have e : min 4294967295 ((lim : Int) - s).toNat = lim - s := by omega
  refine ⟨s1, ?_⟩
  show (if ((1 : Nat) : Int) > (lim : Int) - s then _ else match Sre.run cvCode t 13 (min 4294967295 ((lim : Int) - s).toNat) s 0 ((seen.add 24).add 13) with | .error why => _ | .ok (n, seen) => _) = _
  rw [if_neg (by omega), h1, e, hn]
  simp only [Nat.zero_add]
  refine (if_neg (show ¬ n + 1 < 1 by omega)).trans ?_
  rfl
noncomputable def S2n (t : Array Nat) (lim s : Nat) (must first : Bool) (mk : Array (Option Nat)) (seen : Seen) : M :=
  { S2 t lim s must first mk seen with answer := some false }
theorem step2_no (hs : s ≤ lim) (hl : lim ≤ 4294967295) (hn : digs t (lim - s) s = 0) : ∃ seen', (S2 t lim s must first mk seen).step = S2n t lim s must first mk seen' := by
  by_cases h : lim = s
  · refine ⟨seen.add 24, ?_⟩
    show (if ((1 : Nat) : Int) > (lim : Int) - s then _ else _) = _
    rw [if_pos (by omega)]
    rfl
  · obtain ⟨s1, h1⟩ := run_dig t (min 4294967295 ((lim : Int) - s).toNat) s 0 ((seen.add 24).add 13)
    have e : min 4294967295 ((lim : Int) - s).toNat = lim - s := by omega
    refine ⟨s1, ?_⟩
    show (if ((1 : Nat) : Int) > (lim : Int) - s then _ else match Sre.run cvCode t 13 (min 4294967295 ((lim : Int) - s).toNat) s 0 ((seen.add 24).add 13) with | .error why => _ | .ok (n, seen) => _) = _
    rw [if_neg (by omega), h1, e, hn]
    rfl
structure Found (m : M) (t : Array Nat) (b e : Nat) : Prop where
  outcome : m.outcome = some .matched
  start : m.start = b
  handed : m.handed = e
  lastmark : m.lastmark = 1
  marks : ∃ rest, m.marks.toList = some b :: some e :: rest
theorem runFor_add (a b : Nat) (m : M) : M.runFor (a + b) m = M.runFor b (M.runFor a m) := by
  induction a generalizing m with
  | zero => simp [M.runFor]
  | succ a ih =>
    rw [Nat.add_right_comm]
    simp only [M.runFor]
    split
    · rename_i h
      cases b with
      | zero => rfl
      | succ b => simp [M.runFor, h]
    · exact ih _
theorem runFor_one {m : M} (h : m.outcome = none) : M.runFor 1 m = m.step := by simp [M.runFor, h]
theorem runFor_some {m : M} (h : m.outcome.isSome = true) (n : Nat) : M.runFor n m = m := by cases n <;> simp [M.runFor, h]

noncomputable def li : Int := if (1 % 2 == 1) = true then ((1 / 2 + 1 : Nat) : Int) else -1
theorem found_tail {m : M} {b e : Nat} (hc : m.code = cvCode) (hpc : m.pc = 38) (hpos : m.pos = e) (hst : m.start = b) (hlm : m.lastmark = 0) (hw : m.wholeText = false) (hme : (m.mustAdvance && e == b) = false)
    (ha : m.answer = none) (ho : m.outcome = none) (hmk : 2 ≤ m.marks.size) (hm0 : m.marks[0]? = some (some b)) (hf : m.frames = [f1 22 b first, f0 b first] ∨ ∃ n, m.frames = [f2 b n first, f1 8 b first, f0 b first]) :
    ∃ k, k ≤ 6 ∧ Found (M.runFor k m) t b e := by
  obtain ⟨code, text, lim, start, lastStart, wholeText, mustAdvance, pc, pos, handed, outermost, marks, lastmark, lastindex, loops, inner, frames, weight, answer, seen, outcome⟩ := m
  dsimp only at hc hpc hpos hst hlm hw hme ha ho hmk hm0 hf
  subst hc hpc hpos hst hlm hw ha ho
  have hmarks : ∃ rest, (marks.setIfInBounds 1 (some pos)).toList = some start :: some pos :: rest := by
    obtain ⟨l⟩ := marks
    match l, hmk, hm0 with
    | a :: b :: l, _, h => 
      have : a = some start := by simpa using h
      subst this
      exact ⟨l, rfl⟩
  have key : ∀ (seen : Seen) (lastindex : Int), M.runFor 1 (⟨cvCode, text, lim, start, lastStart, false, mustAdvance, 40, pos, handed, outermost, marks.setIfInBounds 1 (some pos), 1, lastindex, loops, inner, frames, weight, none, seen, none⟩ : M) =
      (⟨cvCode, text, lim, start, lastStart, false, mustAdvance, 40, pos, pos, outermost, marks.setIfInBounds 1 (some pos), 1, lastindex, loops, inner, frames, weight, some true, seen.add 1, none⟩ : M) := fun seen li => by
    show (if (outermost && ((false && pos != lim) || (mustAdvance && pos == start))) = true then _ else _) = _
    rw [hme]
    simp only [Bool.false_and, Bool.or_false, Bool.and_false, Bool.false_eq_true, if_false]
    rfl
  rcases hf with hf | ⟨n, hf⟩
  · subst hf
    refine ⟨5, by omega, ?_⟩
    rw [show (5 : Nat) = 1 + (1 + 3) from rfl, runFor_add, runFor_add]
    have e1 : M.runFor 1 (⟨cvCode, text, lim, start, lastStart, false, mustAdvance, 38, pos, handed, outermost, marks, 0, lastindex, loops, inner, [f1 22 start first, f0 start first], weight, none, seen, none⟩ : M) =
        (⟨cvCode, text, lim, start, lastStart, false, mustAdvance, 40, pos, handed, outermost, marks.setIfInBounds 1 (some pos), 1, li, loops, inner, [f1 22 start first, f0 start first], weight, none, seen.add 17, none⟩ : M) := by rfl
    rw [e1, key]
    exact ⟨rfl, rfl, rfl, rfl, hmarks⟩
  · subst hf
    refine ⟨6, by omega, ?_⟩
    rw [show (6 : Nat) = 1 + (1 + 4) from rfl, runFor_add, runFor_add]
    have e1 : M.runFor 1 (⟨cvCode, text, lim, start, lastStart, false, mustAdvance, 38, pos, handed, outermost, marks, 0, lastindex, loops, inner, [f2 start n first, f1 8 start first, f0 start first], weight, none, seen, none⟩ : M) =
        (⟨cvCode, text, lim, start, lastStart, false, mustAdvance, 40, pos, handed, outermost, marks.setIfInBounds 1 (some pos), 1, li, loops, inner, [f2 start n first, f1 8 start first, f0 start first], weight, none, seen.add 17, none⟩ : M) := by rfl
    rw [e1, key]
    exact ⟨rfl, rfl, rfl, rfl, hmarks⟩

noncomputable def sepSet (c : Nat) : Bool := c < 256 && (cvCode.getD (25 + (1 + c / 32)) 0).testBit (c % 32)
theorem sepSet_low : ∀ c, c < 256 → sepSet c = sepC c := by decide +kernel
theorem sepSet_eq (c : Nat) : sepSet c = sepC c := by
  by_cases h : c < 256
  · exact sepSet_low c h
  · have h1 : sepSet c = false := by simp [sepSet, h]
    have h2 : sepC c = false := by
      unfold sepC
      have e1 : (c == 43) = false := by simp; omega
      have e2 : (c == 45) = false := by simp; omega
      have e3 : (c == 46) = false := by simp; omega
      have e4 : (c == 95) = false := by simp; omega
      rw [e1, e2, e3, e4]; rfl
    rw [h1, h2]
theorem accepts_sep (c : Nat) (seen : Seen) : ∃ seen', accepts cvCode 23 c seen = .ok (sepC c, seen') := by
  show ∃ seen', (if (decide (c < 256) && (cvCode.getD (25 + (1 + c / 32)) 0).testBit (c % 32)) = true then Except.ok (true, seen.add 9) else inSet cvCode c 40 34 true (seen.add 9)) = _
  rw [← sepSet_eq c]
  unfold sepSet
  cases h : (decide (c < 256) && (cvCode.getD (25 + (1 + c / 32)) 0).testBit (c % 32)) with
  | true => exact ⟨_, rfl⟩
  | false => exact ⟨_, rfl⟩

noncomputable def S4 (t : Array Nat) (lim s : Nat) (must first : Bool) (mk : Array (Option Nat)) (seen : Seen) : M :=
  { S1 t lim s must first mk seen with pc := 23, frames := [f1 22 s first, f0 s first], weight := 2 }
theorem step2n : (S2n t lim s must first mk seen).step = S4 t lim s must first mk seen := by rfl
theorem step4_yes (hs : s < lim) (hc : sepC (t.getD s 0) = true) : ∃ seen', (S4 t lim s must first mk seen).step = { S4 t lim s must first mk seen' with pc := 35, pos := s + 1 } := by
  obtain ⟨s1, h1⟩ := accepts_sep (t.getD s 0) (seen.add 13)
  refine ⟨s1, ?_⟩
  show (if s ≥ lim then _ else match accepts cvCode 23 (t.getD s 0) (seen.add 13) with | .error why => _ | .ok (false, seen) => _ | .ok (true, seen) => _) = _
  rw [if_neg (by omega), h1, hc]
  rfl
theorem step4_no (hc : s < lim → sepC (t.getD s 0) = false) : ∃ seen', (S4 t lim s must first mk seen).step = { S4 t lim s must first mk seen' with answer := some false } := by
  by_cases hs : s < lim
  · obtain ⟨s1, h1⟩ := accepts_sep (t.getD s 0) (seen.add 13)
    refine ⟨s1, ?_⟩
    show (if s ≥ lim then _ else match accepts cvCode 23 (t.getD s 0) (seen.add 13) with | .error why => _ | .ok (false, seen) => _ | .ok (true, seen) => _) = _
    rw [if_neg (by omega), h1, hc hs]
    rfl
  · refine ⟨seen.add 13, ?_⟩
    show (if s ≥ lim then _ else _) = _
    rw [if_pos (by omega)]
    rfl
theorem step_on (hs : s < lim) : M.runFor 2 { S4 t lim s must first mk seen with answer := some false } = S0 t lim (s + 1) false false (mk.setIfInBounds 0 (some s)) seen := by
  have e1 : M.runFor 1 { S4 t lim s must first mk seen with answer := some false } = { S1 t lim s must first mk seen with pc := 22, frames := [f0 s first], weight := 1, answer := some false, lastmark := 0 } := by rfl
  rw [show (2 : Nat) = 1 + 1 from rfl, runFor_add, e1, runFor_one rfl]
  show (if s < lim then _ else _) = _
  rw [if_pos hs]
  rfl
theorem step_end : (M.runFor 3 { S4 t lim lim must first mk seen with answer := some false }).outcome = some .failed := by
  have e1 : M.runFor 1 { S4 t lim lim must first mk seen with answer := some false } = { S1 t lim lim must first mk seen with pc := 22, frames := [f0 lim first], weight := 1, answer := some false, lastmark := 0 } := by rfl
  rw [show (3 : Nat) = 1 + (1 + 1) from rfl, runFor_add, e1, runFor_add, runFor_one (m := { S1 t lim lim must first mk seen with pc := 22, frames := [f0 lim first], weight := 1, answer := some false, lastmark := 0 }) rfl]
  have e2 : M.step { S1 t lim lim must first mk seen with pc := 22, frames := [f0 lim first], weight := 1, answer := some false, lastmark := 0 } = { S1 t lim lim must first mk seen with pc := 5, frames := [], weight := 0, answer := some false, lastmark := 0 } := by
    show (if lim < lim then _ else _) = _
    rw [if_neg (Nat.lt_irrefl _)]
    rfl
  rw [e2]
  rfl

noncomputable def matchLen (t : Array Nat) (lim p : Nat) : Nat := if p < lim then (if dig (t.getD p 0) then digs t (lim - p) p else if sepC (t.getD p 0) then 1 else 0) else 0
noncomputable def nextMatch (t : Array Nat) (lim : Nat) : Nat → Nat → Option (Nat × Nat)
  | 0, _ => none
  | f + 1, p => if matchLen t lim p = 0 then nextMatch t lim f (p + 1) else some (p, p + matchLen t lim p)
theorem digs_zero {n p : Nat} (h : dig (t.getD p 0) = false) : digs t n p = 0 := by
  cases n with
  | zero => rfl
  | succ n => unfold digs; rw [h]; rfl
theorem digs_pos {n p : Nat} (h : dig (t.getD p 0) = true) : digs t (n + 1) p = digs t n (p + 1) + 1 := by
  rw [digs, h]; rfl

theorem attempt_yes (hs : s < lim) (hl : lim ≤ 4294967295) (hm : 2 ≤ mk.size) (h : matchLen t lim s ≠ 0) : ∃ k, k ≤ 12 ∧ Found (M.runFor k (S0 t lim s must first mk seen)) t s (s + matchLen t lim s) := by
  unfold matchLen at h ⊢
  rw [if_pos hs] at h ⊢
  have sz : 2 ≤ (mk.setIfInBounds 0 (some s)).size := by simpa using hm
  have h0 : (mk.setIfInBounds 0 (some s))[0]? = some (some s) := by
    obtain ⟨l⟩ := mk
    match l, hm with
    | a :: b :: l, _ => rfl
  cases hd : dig (t.getD s 0) with
  | true =>
    simp only [if_true]
    obtain ⟨n, hn⟩ : ∃ n, lim - s = n + 1 := ⟨lim - s - 1, by omega⟩
    have hn' : digs t (lim - s) s = digs t n (s + 1) + 1 := by rw [hn]; exact digs_pos hd
    obtain ⟨sn, h3⟩ := step2_yes (mk := mk) (must := must) (first := first) (seen := (seen.add 17).add 7) hs hl _ hn'
    obtain ⟨k, hk, hF⟩ := found_tail (t := t) (first := first) (m := { S3 t lim s (digs t n (s + 1) + 1) must first mk (sn.add 15) with pc := 38 }) (b := s) (e := s + (digs t n (s + 1) + 1)) rfl rfl rfl rfl rfl rfl
      (by have : (s + (digs t n (s + 1) + 1) == s) = false := by simp
          rw [this, Bool.and_false]) rfl rfl sz h0 (.inr ⟨_, rfl⟩)
    refine ⟨1 + (1 + (1 + (1 + k))), by omega, ?_⟩
    rw [runFor_add, runFor_one rfl, step0, runFor_add, runFor_one rfl, step1, runFor_add, runFor_one rfl, h3, runFor_add, hn']
    exact hF
  | false =>
    rw [hd] at h
    simp only [Bool.false_eq_true, if_false] at h ⊢
    cases hc : sepC (t.getD s 0) with
    | false => rw [hc] at h; exact absurd rfl h
    | true =>
      simp only [if_true]
      obtain ⟨sn, h3⟩ := step2_no (mk := mk) (must := must) (first := first) (seen := (seen.add 17).add 7) (Nat.le_of_lt hs) hl (digs_zero (t := t) (n := lim - s) hd)
      obtain ⟨sn2, h4⟩ := step4_yes (mk := mk) (must := must) (first := first) (seen := sn) hs hc
      obtain ⟨k, hk, hF⟩ := found_tail (t := t) (first := first) (m := { S4 t lim s must first mk (sn2.add 15) with pc := 38, pos := s + 1 }) (b := s) (e := s + 1) rfl rfl rfl rfl rfl rfl
        (by have : (s + 1 == s) = false := by simp
            rw [this, Bool.and_false]) rfl rfl sz h0 (.inl rfl)
      refine ⟨1 + (1 + (1 + (1 + (1 + (1 + k))))), Nat.le_trans (Nat.add_le_add_left (Nat.add_le_add_left (Nat.add_le_add_left (Nat.add_le_add_left (Nat.add_le_add_left (Nat.add_le_add_left hk 1) 1) 1) 1) 1) 1) (by decide), ?_⟩
      rw [runFor_add, runFor_one rfl, step0, runFor_add, runFor_one rfl, step1, runFor_add, runFor_one rfl, h3, runFor_add, runFor_one rfl, step2n, runFor_add, runFor_one rfl, h4, runFor_add]
      exact hF
theorem attempt_no (hs : s ≤ lim) (hl : lim ≤ 4294967295) (h : matchLen t lim s = 0) : ∃ seen', M.runFor 5 (S0 t lim s must first mk seen) = { S4 t lim s must first mk seen' with answer := some false } := by
  have hd : digs t (lim - s) s = 0 := by
    by_cases hs' : s < lim
    · unfold matchLen at h
      rw [if_pos hs'] at h
      cases hd : dig (t.getD s 0) with
      | true => rw [hd] at h; exact h
      | false => exact digs_zero hd
    · rw [show lim - s = 0 by omega]; rfl
  have hc : s < lim → sepC (t.getD s 0) = false := fun hs' => by
    unfold matchLen at h
    rw [if_pos hs'] at h
    cases hc : sepC (t.getD s 0) with
    | false => rfl
    | true =>
      cases hd' : dig (t.getD s 0) with
      | false => rw [hd', hc] at h; cases h
      | true =>
        obtain ⟨n, hn⟩ : ∃ n, lim - s = n + 1 := ⟨lim - s - 1, by omega⟩
        rw [hn, digs_pos hd'] at hd; cases hd
  obtain ⟨sn, h3⟩ := step2_no (mk := mk) (must := must) (first := first) (seen := (seen.add 17).add 7) hs hl hd
  obtain ⟨sn2, h4⟩ := step4_no (mk := mk) (must := must) (first := first) (seen := sn) hc
  refine ⟨sn2, ?_⟩
  rw [show (5 : Nat) = 1 + (1 + (1 + (1 + 1))) from rfl]
  rw [runFor_add, runFor_one rfl, step0, runFor_add, runFor_one rfl, step1, runFor_add, runFor_one rfl, h3, runFor_add, runFor_one (m := S2n t lim s must first mk sn) rfl, step2n, runFor_one rfl, h4]

theorem search_from (hl : lim ≤ 4294967295) : ∀ (f s : Nat) (must first : Bool) (mk : Array (Option Nat)) (seen : Seen), lim + 1 = s + f → s ≤ lim → 2 ≤ mk.size →
    ∃ k, k ≤ 7 * f + 12 ∧ (match nextMatch t lim f s with
      | some (b, e) => Found (M.runFor k (S0 t lim s must first mk seen)) t b e
      | none => (M.runFor k (S0 t lim s must first mk seen)).outcome = some .failed)
  | 0, s, _, _, _, _, hf, hs, _ => by omega
  | f + 1, s, must, first, mk, seen, hf, hs, hm => by
    unfold nextMatch
    by_cases h : matchLen t lim s = 0
    · rw [if_pos h]
      obtain ⟨sn, h5⟩ := attempt_no (mk := mk) (must := must) (first := first) (seen := seen) hs hl h
      by_cases hs' : s < lim
      · obtain ⟨k, hk, hF⟩ := search_from hl f (s + 1) false false (mk.setIfInBounds 0 (some s)) sn (by omega) (by omega) (by simpa using hm)
        refine ⟨5 + (2 + k), by omega, ?_⟩
        rw [runFor_add, h5, runFor_add, step_on hs']
        exact hF
      · have e : s = lim := by omega
        subst e
        have : f = 0 := by omega
        subst this
        refine ⟨5 + 3, by omega, ?_⟩
        show (M.runFor (5 + 3) _).outcome = _
        rw [runFor_add, h5]
        exact step_end
    · rw [if_neg h]
      have hs' : s < lim := by
        by_cases hs' : s < lim
        · exact hs'
        · exact absurd (by unfold matchLen; rw [if_neg hs']) h
      obtain ⟨k, hk, hF⟩ := attempt_yes (mk := mk) (must := must) (first := first) (seen := seen) hs' hl hm h
      exact ⟨k, by omega, hF⟩
end Mine
end
section
open PySem PySem.Sre PySem.Calls PySem.W PyProof.Rows PySem.Builtin PySem.Builtin.Re
set_option Elab.async false
set_option maxRecDepth 100000
namespace Mine
theorem slot_re_split : Slot "re.Pattern" "split" "re.Pattern.split" :=
  .of (owner := "re.Pattern") (n := "split") (by rw [typeLookup_type, builtinLookup_eq_fast]; kernel_rfl) (by decide +kernel) (by decide +kernel) (by decide +kernel)
    (by first | exact .inl (by decide +kernel) | exact .inr (by decide +kernel)) (by rw [isSubtype_type]; kernel_rfl)
theorem entry_re_split : entryFor table "re.Pattern.split" = some Builtin.«re.Pattern.split» := entryFor_of_tree (by kernel_rfl)
theorem args_re_split (a b : Value) : argsOk "re.Pattern.split" ⟨[a, b], []⟩ := by unfold argsOk; kernel_rfl
theorem type_re_split : typeOf (.builtin "re.Pattern.split") = pure (.type "method_descriptor") := by show builtinType _ = _; rw [builtinType_eq_fast]; kernel_rfl

inductive StrsAre : List Value → List Str → Prop where
  | nil : StrsAre [] []
  | cons {x : Str} {t : Tok} {vs : List Value} {xs : List Str} : StrsAre vs xs → StrsAre (.str x t :: vs) (x :: xs)

section
variable {Mo : Model} {A : Around} {E : Value → Shared → Prop} {s : Shared}

theorem drive_found : ∀ (n : Nat) (m : Sre.M) (k : Nat) {Q : Sre.M → Shared → Prop}, k ≤ 4 * n → (M.runFor k m).outcome.isSome = true → Q (M.runFor k m) s → 0 < n → wpAny Mo A (reDrive n m) Q E s
  | 0, _, _, _, _, _, _, h => absurd h (Nat.lt_irrefl _)
  | n + 1, m, k, Q, hk, ho, hq, _ => by
    show wpAny Mo A (if (M.runFor 4 m).outcome.isSome then pure (M.runFor 4 m) else do rule "sre.turn"; reDrive n (M.runFor 4 m)) Q E s
    by_cases h4 : k ≤ 4
    · have e : M.runFor 4 m = M.runFor k m := by
        rw [show 4 = k + (4 - k) by omega, runFor_add, runFor_some ho]
      rw [e, if_pos ho]
      exact wpAny_pure hq
    · have e : M.runFor k m = M.runFor (k - 4) (M.runFor 4 m) := by
        rw [← runFor_add]; congr 1; omega
      by_cases h : (M.runFor 4 m).outcome.isSome = true
      · rw [if_pos h]
        rw [e, runFor_some h] at hq
        exact wpAny_pure hq
      · rw [if_neg h]
        rw [e] at ho hq
        exact wpAny_bind (wpAny_rule (drive_found n _ (k - 4) (by omega) ho hq (by omega)))

theorem forIn_rules {α : Type} (l : List α) (f : α → PUnit → Sem (ForInStep PUnit)) {Q : PUnit → Shared → Prop} (hf : ∀ x u, ∀ (Q' : ForInStep PUnit → Shared → Prop), Q' (.yield ⟨⟩) s → wpAny Mo A (f x u) Q' E s) (h : Q ⟨⟩ s) : wpAny Mo A (forIn l ⟨⟩ f) Q E s := by
  induction l with
  | nil => rw [List.forIn_nil]; exact wpAny_pure h
  | cons x l ih =>
    rw [List.forIn_cons]
    exact wpAny_bind (hf x _ _ ih)

theorem runToEnd {m : Sre.M} {k : Nat} {Q : Option Sre.M → Shared → Prop} (hk : k ≤ 2 ^ 40) (ho : (M.runFor k m).outcome.isSome = true)
    (h : match (M.runFor k m).outcome with | some .matched => Q (some (M.runFor k m)) s | some .failed => Q none s | _ => False) : wpAny Mo A (reRunToEnd m) Q E s := by
  unfold reRunToEnd
  refine wpAny_bind (drive_found (2 ^ 64) m k (Nat.le_trans hk (by decide)) ho ?_ (by decide))
  refine wpAny_bind (forIn_rules _ _ (fun x u Q' hq => ?_) ?_)
  · by_cases hx : (M.runFor k m).seen.has x = true
    · rw [if_pos hx]; exact wpAny_bind (wpAny_rule (wpAny_pure hq))
    · rw [if_neg hx]; exact wpAny_pure hq
  · revert h
    cases (M.runFor k m).outcome with
    | none => intro h; cases h
    | some o => cases o <;> intro h <;> first | exact wpAny_pure h | cases h

theorem forSearch_eq (t : Array Nat) (pos lim : Nat) (must : Bool) (h : pos < lim) : forSearch cvCode t 1 pos lim must = S0 t lim pos must true #[none, none] (({} : Sre.Seen).add 14) := by
  show (if (pos > lim || decide (lim - pos < 1)) = true then _ else _) = _
  rw [if_neg (by simp; omega)]
  rfl
theorem forSearch_out (t : Array Nat) (pos lim : Nat) (must : Bool) (h : lim ≤ pos) : (M.runFor 1 (forSearch cvCode t 1 pos lim must)).outcome = some .failed := by
  have e : forSearch cvCode t 1 pos lim must = (if (pos > lim || decide (lim - pos < 1)) = true then _ else _) := rfl
  rw [e, if_pos (by simp; omega)]
  rfl

noncomputable def nextAt (t : Array Nat) (p : Nat) : Option (Nat × Nat) := if p < t.size then nextMatch t t.size (t.size + 1 - p) p else none

theorem nextFound {tg : ReTarget} {p : Nat} {must : Bool} {Q : Option Sre.M → Shared → Prop} (hc : tg.code = cvCode) (hg : tg.groups = 1) (hl : tg.lim = tg.text.size) (hs : tg.text.size ≤ 16777216)
    (h : match nextAt tg.text p with | some (b, e) => ∀ m, Found m tg.text b e → Q (some m) s | none => Q none s) : wpAny Mo A (reNextFound tg p must) Q E s := by
  unfold reNextFound
  rw [hc, hg, hl]
  unfold nextAt at h
  by_cases hp : p < tg.text.size
  · rw [if_pos hp] at h
    rw [forSearch_eq _ _ _ _ hp]
    obtain ⟨k, hk, hF⟩ := search_from (t := tg.text) (lim := tg.text.size) (by omega) (tg.text.size + 1 - p) p must true #[none, none] (({} : Sre.Seen).add 14) (by omega) (by omega) (by decide)
    have hk' : k ≤ 2 ^ 40 := by omega
    generalize S0 tg.text tg.text.size p must true #[none, none] (({} : Sre.Seen).add 14) = m0 at hF ⊢
    clear hk
    cases hn : nextMatch tg.text tg.text.size (tg.text.size + 1 - p) p with
    | none =>
      rw [hn] at h hF
      dsimp only at h hF
      refine runToEnd hk' (by rw [hF]; rfl) ?_
      rw [hF]; exact h
    | some be =>
      obtain ⟨b, e⟩ := be
      rw [hn] at h hF
      dsimp only at h hF
      refine runToEnd hk' (by rw [hF.outcome]; rfl) ?_
      rw [hF.outcome]; exact h _ hF
  · rw [if_neg hp] at h
    have ho := forSearch_out tg.text p tg.text.size must (by omega)
    refine runToEnd (k := 1) (by decide) (by rw [ho]; rfl) ?_
    rw [ho]; exact h
end
end Mine
end
section
open PySem PySem.Sre PySem.Calls PySem.W PyProof.Rows PySem.Builtin PySem.Builtin.Re
set_option Elab.async false
set_option maxRecDepth 100000
namespace Mine
theorem digs_le (t : Array Nat) : ∀ n p, digs t n p ≤ n
  | 0, _ => Nat.le_refl _
  | n + 1, p => by
    unfold digs
    split
    · have := digs_le t n (p + 1); omega
    · omega
theorem nextMatch_spec (t : Array Nat) (lim : Nat) : ∀ f p b e, nextMatch t lim f p = some (b, e) → p ≤ b ∧ b < e ∧ e ≤ lim ∧ b < lim
  | 0, _, _, _, h => by cases h
  | f + 1, p, b, e, h => by
    unfold nextMatch at h
    split at h
    · have := nextMatch_spec t lim f (p + 1) b e h; omega
    · rename_i hm
      injection h with h
      injection h with h1 h2
      subst h1 h2
      unfold matchLen at hm ⊢
      split at hm
      · rename_i hl
        rw [if_pos hl]
        split at hm
        · rename_i hd; rw [if_pos hd]; have := digs_le t (lim - p) p; omega
        · rename_i hd
          split at hm
          · rename_i hc; rw [if_neg hd, if_pos hc]; omega
          · exact absurd rfl hm
      · exact absurd rfl hm
theorem nextAt_spec {t : Array Nat} {p b e : Nat} (h : nextAt t p = some (b, e)) : p ≤ b ∧ b < e ∧ e ≤ t.size := by
  unfold nextAt at h
  split at h
  · have := nextMatch_spec _ _ _ _ _ _ h; omega
  · cases h
noncomputable def splitGo (t : Array Nat) : Nat → Nat → List Str
  | 0, p => [⟨t.extract p t.size⟩]
  | f + 1, p => match nextAt t p with
    | none => [⟨t.extract p t.size⟩]
    | some (b, e) => ⟨t.extract p b⟩ :: ⟨t.extract b e⟩ :: splitGo t f e
noncomputable def splitP (x : Str) : List Str := splitGo x.cps (x.cps.size + 1) 0

theorem splitGo_none {t : Array Nat} {p : Nat} (h : nextAt t p = none) (f : Nat) : splitGo t f p = [⟨t.extract p t.size⟩] := by
  cases f with
  | zero => rfl
  | succ f => unfold splitGo; rw [h]
theorem splitGo_some {t : Array Nat} {p b e : Nat} (h : nextAt t p = some (b, e)) (f : Nat) : splitGo t (f + 1) p = ⟨t.extract p b⟩ :: ⟨t.extract b e⟩ :: splitGo t f e := by
  conv => lhs; unfold splitGo
  rw [h]
theorem StrsAre.append {vs ws : List Value} {xs ys : List Str} (h : StrsAre vs xs) (k : StrsAre ws ys) : StrsAre (vs ++ ws) (xs ++ ys) := by
  induction h with
  | nil => exact k
  | cons _ ih => exact .cons ih
theorem StrsAre.length {vs : List Value} {xs : List Str} (h : StrsAre vs xs) : vs.length = xs.length := by
  induction h with
  | nil => rfl
  | cons _ ih => simp [ih]
section
variable {prog : Program} {w : World} {A : Around} {E : Value → Shared → Prop} {s : Shared}
theorem wpAny_reSlice {t : Array Nat} {b e : Nat} {Q : Value → Shared → Prop} (hs : t.size ≤ 16777216) (h : Q (.str ⟨t.extract b e⟩ s.toks) { s with toks := s.toks + 1 }) : wpAny (model prog w) A (reSlice t 0 b e) Q E s := by
  show wpAny (model prog w) A (mkStr ⟨t.extract b e⟩) Q E s
  refine wpAny_mkStr h ?_
  show (t.extract b e).size ≤ sizeLine
  rw [sizeLine_eq, Array.size_extract]; omega
theorem reNamed_split (v : Value) : reNamed "re.Pattern.split" "split" ["string", "maxsplit"] 1 [v] [] = pure [some v, none] := by rfl

theorem wholeTarget {pa ca : Addr} {x : Str} {tk : Tok} {op oc : Obj} {fs : Array Value} {its : Array Value} {n : Nat} {Q : ReTarget → Shared → Prop}
    (hp : s.heap.get? pa = some op) (hpd : op.data = .fields fs) (h6 : fs.getD 6 .none = rawInt 0) (h5 : fs.getD 5 .none = .ref ca) (h2 : fs.getD 2 .none = rawInt 1)
    (hc : s.heap.get? ca = some oc) (hcd : oc.data = .seq its n) (hcode : (its.map reRawOf).map (·.toNat) = cvCode)
    (h : Q { pattern := .ref pa, string := .str x tk, code := cvCode, text := x.cps, kind := 0, groups := 1, pos := 0, lim := x.cps.size } s) :
    wpAny (model prog w) A (reWholeTarget (.ref pa) (.str x tk)) Q E s := by
  unfold reWholeTarget
  refine wpAny_bind (wpAny_fieldsOf hp hpd ?_)
  refine wpAny_bind (m := reTextOf (.str x tk)) (wpAny_pure ?_)
  dsimp only
  rw [h6, h5, h2]
  show wpAny (model prog w) A (reNoCollectionInside (.str x tk) 0 >>= fun _ => _) Q E s
  refine wpAny_bind (wpAny_pure ?_)
  refine wpAny_bind (m := reRawItems (.ref ca)) ?_
  unfold reRawItems seqItems?
  refine wpAny_bind (wpAny_bind (wpAny_load hc ?_))
  rw [hcd]
  refine wpAny_pure (wpAny_pure (wpAny_pure ?_))
  show Q { pattern := .ref pa, string := .str x tk, code := (its.map reRawOf).map (·.toNat), text := x.cps, kind := 0, groups := 1, pos := 0, lim := x.cps.size } s
  rw [hcode]; exact h
theorem groups_one {tg : ReTarget} {m : Sre.M} {b e : Nat} {out : Array Value} {Q : Array Value → Shared → Prop} (F : Found m tg.text b e) (hk : tg.kind = 0) (hs : tg.text.size ≤ 16777216) (hbe : b < e)
    (h : Q (out.push (.str ⟨tg.text.extract b e⟩ s.toks)) { s with toks := s.toks + 1 }) :
    wpAny (model prog w) A (reMachineGroup tg m 1 (pure .none) >>= fun v => pure (ForInStep.yield (out.push v))) (fun r s' => match r with | .yield b => Q b s' | .done _ => False) E s := by
  unfold reMachineGroup
  rw [F.lastmark]
  obtain ⟨rest, hm⟩ := F.marks
  have e0 : m.marks.getD (2 * (1 - 1)) none = some b := by
    have : m.marks = ⟨some b :: some e :: rest⟩ := Array.ext' hm
    rw [this]; rfl
  have e1 : m.marks.getD (2 * (1 - 1) + 1) none = some e := by
    have : m.marks = ⟨some b :: some e :: rest⟩ := Array.ext' hm
    rw [this]; rfl
  rw [e0, e1]
  refine wpAny_bind ?_
  show wpAny (model prog w) A (if e < b then reWrongSpan else reSlice tg.text tg.kind b e) _ E s
  rw [if_neg (by omega), hk]
  exact wpAny_reSlice hs (wpAny_pure h)
theorem split_body {pa ca : Addr} {x : Str} {tk : Tok} {op oc : Obj} {fs : Array Value} {its : Array Value} {n : Nat} {Q : PySem.Fin → Shared → Prop}
    (hp : s.heap.get? pa = some op) (hpd : op.data = .fields fs) (h6 : fs.getD 6 .none = rawInt 0) (h5 : fs.getD 5 .none = .ref ca) (h2 : fs.getD 2 .none = rawInt 1)
    (hc : s.heap.get? ca = some oc) (hcd : oc.data = .seq its n) (hcode : (its.map reRawOf).map (·.toNat) = cvCode) (hsz : x.cps.size ≤ 1000000)
    (h : ∀ vs tk', StrsAre vs (splitP x) → Q (.done (.ret (.ref s.heap.objs.size))) { s with heap := s.heap.push { cls := .type "list", data := .seq vs.toArray }, toks := tk' }) :
    wpAny (model prog w) A (Builtin.«re.Pattern.split» ⟨[.ref pa, .str x tk], []⟩) Q E s := by
  unfold Builtin.«re.Pattern.split»
  show wpAny (model prog w) A (reNamed "re.Pattern.split" "split" ["string", "maxsplit"] 1 [.str x tk] [] >>= _) Q E s
  rw [reNamed_split]
  refine wpAny_bind (wpAny_pure ?_)
  refine wpAny_bind (wpAny_pure ?_)
  refine wpAny_bind (wholeTarget hp hpd h6 h5 h2 hc hcd hcode ?_)
  have hs' : x.cps.size ≤ 16777216 := by omega
  refine wpAny_bind (wpAny_forIn_list _ (fun rest st s' => ∃ vs xs tk', StrsAre vs xs ∧ st.1 = vs.toArray ∧ st.2.1 = st.2.2.1 ∧ s' = { s with toks := tk' } ∧ st.2.1 ≤ x.cps.size ∧
      xs.length + 2 * (x.cps.size - st.2.1) ≤ 2 * x.cps.size ∧
      (∃ f, xs ++ splitGo x.cps f st.2.1 = splitP x ∧ (if st.2.2.2.2.2 then nextAt x.cps st.2.1 = none else x.cps.size - st.2.1 < f ∧ x.cps.size - st.2.1 < rest.length)))
    _ ?turn ?fin _ _ ?start)
  case start =>
    refine ⟨[], [], s.toks, .nil, rfl, rfl, rfl, Nat.zero_le _, by show 0 + 2 * (x.cps.size - 0) ≤ _; omega, x.cps.size + 1, rfl, ?_⟩
    show (x.cps.size - 0 < x.cps.size + 1 ∧ x.cps.size - 0 < (List.range (2 * x.cps.size + 3)).length)
    rw [List.length_range]; omega
  case turn =>
    rintro u rest ⟨out, start, last, must, k, over⟩ s' ⟨vs, xs, tk', hA, e1, e2, rfl, hle, hlen, f, hf, hov⟩
    dsimp only at e1 e2 hle hlen hf hov ⊢
    subst e1 e2
    cases over with
    | true =>
      refine wpAny_pure ⟨vs, xs, tk', hA, rfl, rfl, rfl, hle, hlen, f, hf, ?_⟩
      exact hov
    | false =>
      simp only [Bool.false_eq_true, if_false] at hov
      refine wpAny_bind (m := reNextFound _ _ _) (nextFound rfl rfl rfl hs' ?_)
      cases hn : nextAt x.cps start with
      | none =>
        refine wpAny_pure ⟨vs, xs, tk', hA, rfl, rfl, rfl, hle, hlen, f, hf, ?_⟩
        exact hn
      | some be =>
        obtain ⟨b, e⟩ := be
        intro m F
        have sp := nextAt_spec hn
        dsimp only
        refine wpAny_bind ?_
        rw [F.start]
        refine wpAny_reSlice hs' ?_
        refine wpAny_bind ?_
        show wpAny (model prog w) A (forIn [0] (vs.toArray.push (.str ⟨x.cps.extract start b⟩ tk')) _) _ E _
        rw [List.forIn_cons]
        refine wpAny_bind (wpAny_mono (groups_one (Q := fun o s₂ => o = (vs.toArray.push (.str ⟨x.cps.extract start b⟩ tk')).push (.str ⟨x.cps.extract b e⟩ (tk' + 1)) ∧ s₂ = { s with toks := tk' + 1 + 1 }) F rfl hs' sp.2.1 ⟨rfl, rfl⟩) (fun r s₂ hr => ?_) fun _ _ z => z)
        cases r with
        | done o => exact hr.elim
        | yield o =>
        obtain ⟨ho, hs2⟩ := hr
        subst ho hs2
        dsimp only
        rw [List.forIn_nil]
        refine wpAny_pure (wpAny_pure ?_)
        rw [F.handed]
        have hA' := hA.append (.cons (x := ⟨x.cps.extract start b⟩) (t := tk') (.cons (x := ⟨x.cps.extract b e⟩) (t := tk' + 1) .nil))
        obtain ⟨f', rfl⟩ : ∃ f', f = f' + 1 := ⟨f - 1, by omega⟩
        rw [splitGo_some hn] at hf
        refine ⟨_, _, tk' + 1 + 1, hA', by simp, rfl, rfl, sp.2.2, ?_, f', ?_, ?_⟩
        · simp only [List.length_append, List.length_cons, List.length_nil]; omega
        · rw [← hf]; simp
        · simp only [Bool.false_eq_true, if_false]
          have := hov.2
          simp only [List.length_cons] at this
          omega
  case fin =>
    rintro ⟨out, start, last, must, k, over⟩ s' ⟨vs, xs, tk', hA, e1, e2, rfl, hle, hlen, f, hf, hov⟩
    dsimp only at e1 e2 hle hlen hf hov ⊢
    subst e1 e2
    cases over with
    | false => 
      simp only [Bool.false_eq_true, if_false, List.length_nil] at hov
      exact absurd hov.2 (Nat.not_lt_zero _)
    | true =>
      simp only [if_true] at hov
      rw [splitGo_none hov] at hf
      show wpAny (model prog w) A (reSlice x.cps 0 start x.cps.size >>= fun v => newList (vs.toArray.push v).toList >>= fun r => ret r) Q E _
      refine wpAny_bind (wpAny_reSlice hs' ?_)
      refine wpAny_bind ?_
      unfold newList
      have hA' := hA.append (.cons (x := ⟨x.cps.extract start x.cps.size⟩) (t := tk') .nil)
      rw [hf] at hA'
      have el : (vs.toArray.push (.str ⟨x.cps.extract start x.cps.size⟩ tk')).toList = vs ++ [.str ⟨x.cps.extract start x.cps.size⟩ tk'] := by simp
      rw [el]
      refine wpAny_newObj_type (wpAny_pure (h _ _ hA')) ?_
      show (vs ++ [Value.str ⟨x.cps.extract start x.cps.size⟩ tk']).toArray.size ≤ sizeLine
      rw [sizeLine_eq, List.size_toArray, List.length_append, hA.length]
      simp only [List.length_cons, List.length_nil]
      omega
end
end Mine
end
section
open PySem PySem.Calls PySem.W PyProof.Rows PySem.NumText
open Sem (wp)
set_option Elab.async false
set_option maxRecDepth 100000
namespace Mine
theorem typeCall_int_2 (a b : Value) : checkTypeCall "int" ⟨[a, b], []⟩ = pure () := by kernel_rfl
theorem newCall_int_2 (a b : Value) : checkBuiltinCall "int.__new__" ⟨[.type "int", a, b], []⟩ = pure () := by kernel_rfl
theorem args_object_init_3 (a b c : Value) : argsOk "object.__init__" ⟨[a, b, c], []⟩ := by unfold argsOk; kernel_rfl
section
variable {prog : Program} {w : World} {A : Around} {E : Value → Shared → Prop} {s : Shared}
theorem codeC_builtin {R : Result → Shared → Prop} {id : String} {args : Args} {b : Builtin} (hb : entryFor table id = some b)
    (h : wpC (model prog w) (A.under (.builtin id args)) (b args) (fun fin s' => match fin with | .done f => R (.ok f) s' | .again c' => c'.quiet = true ∧ codeC (model prog w) A c' R s') (fun e s' => R (.error e) s') s) :
    codeC (model prog w) A (.builtin id args) R s := by
  refine codeC_of_tree ?_
  show wpC _ _ (match entryFor table id with | some b => b args | none => unsupported ((withoutEnding? id "#data").getD id)) _ _ s
  rw [hb]; exact h
theorem C_int_raise {a b : Value} {Q : Value → Shared → Prop} (h : wpC (model prog w) A.in1 (call (.builtin "int.__new__") [.type "int", a, b]) (fun _ _ => False) E s) : wpC (model prog w) A (call (.type "int") [a, b]) Q E s := by
  obtain ⟨c, tl, hmro⟩ := F.called_int.mro
  have hmade := F.called_int.made
  have h2 := F.called_int.canCreate
  have h3 := typeCall_int_2 a b
  refine C_call (codeC_of_tree ?_)
  show wpC _ _ (callAny (.type "int") _) _ _ _
  refine C_pure ⟨Code.quiet_builtin _ (by decide +kernel), codeC_builtin F.entry_type_call ?_⟩
  rw [Around.under_plain (weight_type_call_type "int" [a, b] []) (units_type_call_type "int" [a, b] [])]
  unfold Builtin.«type.__call__»
  simp only [h2, h3, hmro, hmade, pure_bind, Bool.false_eq_true, if_false, List.isEmpty_cons]
  refine C_bind (C_holding (C_mono h (fun _ _ x => x.elim) fun _ _ x => x))
theorem C_builtin {id : String} {b : Builtin} {args : List Value} {Q : Value → Shared → Prop} (hp : plainId id = true) (hb : entryFor table id = some b) (hc : checkBuiltinCall id ⟨args, []⟩ = pure ())
    (h : wpC (model prog w) A.in1 (b ⟨args, []⟩) (fun fin s' => ∃ v, fin = .done (.ret v) ∧ Q v s') E s) : wpC (model prog w) A (call (.builtin id) args) Q E s := by
  refine C_call (codeC_of_tree ?_)
  show wpC _ A.in1 (do checkBuiltinCall id ⟨args, []⟩; again (.builtin id ⟨args, []⟩)) _ _ s
  rw [hc]
  refine C_bind (C_pure (C_pure ⟨plainId_quiet hp _, codeC_builtin hb ?_⟩))
  rw [Around.under_plainId hp]
  exact C_q h fun fin s' ⟨v, e, hq⟩ => by subst e; exact hq
end
theorem int_new_eq (x : PySem.Str) (u tb : Tok) : Builtin.«int.__new__» ⟨[.type "int", .str x u, .int 10 tb], []⟩ = ((int_private% "intFromText") (.str x u) (numTextOf x) 10 >>= fun v => ret v) := by
  have f1 := F.conv_sub_int
  have f2 := F.madeHere_int
  unfold Builtin.«int.__new__»
  simp only [f1, f2, pure_bind]
  kernel_rfl
noncomputable def refuse (x : PySem.Str) (u : Tok) : Sem Value := do
  rule "int.__new__.invalid-literal"
  let shown ← pyRepr (.str x u)
  let msg ← mkStr (PySem.Str.ofString (toString "invalid literal for int() with base " ++ toString 10 ++ toString ": ") ++ (⟨shown.cps.extract 0 200⟩ : PySem.Str))
  let refusal ← newExc (.type "ValueError") [msg]
  markTheRefusal ["int.__new__"] refusal
  raiseNew refusal
noncomputable def ift (x : PySem.Str) (u : Tok) (ok : Bool) (limit : Nat) (n : int_private% "Numeral") : Sem Value :=
  (int_private% "Numeral.casesOn") (motive := fun _ => Sem Value) n
    (refuse x u)
    (fun k => do
      rule "int.__new__.digit-limit"
      let _ : Unit ← raiseErrorMade "ValueError" (toString "Exceeds the limit (" ++ toString limit ++ toString " digits) for integer string conversion: value has " ++ toString k ++ toString " digits; use sys.set_int_max_str_digits() to increase the limit")
      refuse x u)
    (do
      let _ : Unit ← unsupported "int.__new__:text-by-_pylong"
      refuse x u)
    (fun i => if ok = true then mkInt i else refuse x u)
theorem ift_eq0 (x : PySem.Str) (u : Tok) (text : List Nat) :
    (int_private% "intFromText") (.str x u) text 10 = if (text.takeWhile (· != 0)).length ≤ 640 then
      (do let limit ← pure 0; ift x u ((text.takeWhile (· != 0)).length == text.length) limit ((int_private% "readNumeral") limit 10 (text.takeWhile (· != 0))))
      else (do let limit ← Builtin.intMaxStrDigits; ift x u ((text.takeWhile (· != 0)).length == text.length) limit ((int_private% "readNumeral") limit 10 (text.takeWhile (· != 0)))) := by
  kernel_rfl
theorem ift_eq (x : PySem.Str) (u : Tok) (text : List Nat) (h : (text.takeWhile (· != 0)).length ≤ 640) :
    (int_private% "intFromText") (.str x u) text 10 = ift x u ((text.takeWhile (· != 0)).length == text.length) 0 ((int_private% "readNumeral") 0 10 (text.takeWhile (· != 0))) := by
  rw [ift_eq0, if_pos h]; rfl

noncomputable def ltr (c : Nat) : Bool := (65 ≤ c && c ≤ 90) || (97 ≤ c && c ≤ 122)
theorem ltr_iff {c : Nat} : ltr c = true ↔ (65 ≤ c ∧ c ≤ 90) ∨ (97 ≤ c ∧ c ≤ 122) := by simp [ltr]

theorem all_low {x : PySem.Str} (h : ∀ c ∈ x.cps.toList, 1 ≤ c ∧ c < 128) : numTextOf x = x.cps.toList ∧ numSeenOf x = x.cps.toList := by
  have e : numTextOf x = x.cps.toList := if_pos (Array.all_eq_true_iff_forall_mem.mpr fun c hc => decide_eq_true (h c (by simpa using hc)).2)
  refine ⟨e, ?_⟩
  show (numTextOf x).takeWhile _ = _
  rw [e]
  exact takeWhile_all fun c hc => by have := (h c hc).1; simp; omega
theorem dropWhile_ltr {cs : List Nat} (h : ∀ c ∈ cs, ltr c = true) : cs.dropWhile blank = cs := by
  cases cs with
  | nil => rfl
  | cons c cs =>
    have := ltr_iff.mp (h c (List.mem_cons_self ..))
    exact dropWhile_of (by omega)
theorem read_ltr {x : PySem.Str} (h : ∀ c ∈ x.cps.toList, ltr c = true) (hne : x.cps.toList ≠ []) : (int_private% "readNumeral") 0 10 (numSeenOf x) = int_private% "Numeral.invalid" := by
  have low : ∀ c ∈ x.cps.toList, 1 ≤ c ∧ c < 128 := fun c hc => by have := ltr_iff.mp (h c hc); omega
  rw [(all_low low).2, readNumeral_ten]
  have hd : digits? 10 (core x.cps.toList) = none := by
    generalize x.cps.toList = cs at h hne
    cases cs with
    | nil => exact absurd rfl hne
    | cons c cs =>
      have hc := ltr_iff.mp (h c (List.mem_cons_self ..))
      have e1 : core (c :: cs) = c :: cs := by
        unfold core
        rw [dropWhile_ltr h, sign_of (by omega) (by omega)]
        have : (c :: cs).reverse.dropWhile blank = (c :: cs).reverse := dropWhile_ltr fun d hd => h d (List.mem_reverse.mp hd)
        rw [this, List.reverse_reverse]
      rw [e1]
      unfold digits?
      rw [List.foldlM_cons]
      have e2 : NumText.step 10 ((#[] : Array Nat), false) c = none := by
        unfold NumText.step
        have h95 : (c == 95) = false := by simp; omega
        rw [h95]
        simp only [Bool.false_eq_true, if_false]
        unfold digit?
        by_cases hlo : 97 ≤ c
        · have e3 : (decide (48 ≤ c) && decide (c ≤ 57)) = false := by simp; omega
          have e4 : (decide (97 ≤ c) && decide (c ≤ 122)) = true := by simp; omega
          rw [e3, e4]
          simp only [Bool.false_eq_true, if_false, if_true]
          rw [if_neg (by omega)]
        · have e3 : (decide (48 ≤ c) && decide (c ≤ 57)) = false := by simp; omega
          have e4 : (decide (97 ≤ c) && decide (c ≤ 122)) = false := by simp; omega
          have e5 : (decide (65 ≤ c) && decide (c ≤ 90)) = true := by simp; omega
          rw [e3, e4, e5]
          simp only [Bool.false_eq_true, if_false, if_true]
          rw [if_neg (by omega)]
      rw [e2]; rfl
  rw [hd]; rfl
section
variable {prog : Program} {w : World} {A : Around} {E : Value → Shared → Prop} {s : Shared}
theorem not_marked {own : List String} {e : Value} {Q : Unit → Shared → Prop} (h : Q () s) : wpC (model prog w) A (markTheRefusal own e) Q E s := by
  unfold markTheRefusal
  refine C_bind (C_stack fun st hl => ?_)
  have key : ∃ y z, pythonCodeMadeTheCall own (st.map (·.1)) = ((!((st.map (·.1)).any Code.isCaller)) && y && z) := ⟨_, _, rfl⟩
  obtain ⟨y, z, key⟩ := key
  have hc : (st.map (·.1)).any Code.isCaller = true := by rw [List.any_map]; exact hl
  have : pythonCodeMadeTheCall own (st.map (·.1)) = false := by rw [key, hc]; rfl
  rw [this]
  exact C_pure h
theorem newExc_value {msg : Value} {Q : Value → Shared → Prop} (h : Q (.ref (s.heap.objs.size + 1)) { s with heap := (s.heap.push { cls := .type "tuple", data := .seq #[msg] }).push { cls := .type "ValueError", data := .fields #[.ref s.heap.objs.size, .none, .none, .none, .bool false, .none] } }) :
    wpAny (model prog w) A (newExc (.type "ValueError") [msg]) Q E s := by
  unfold newExc newTuple
  refine wpAny_bind (wpAny_newObj_type ?_ (by show ([msg] : List Value).toArray.size ≤ sizeLine; rw [sizeLine_eq]; exact Nat.le_of_ble_eq_true rfl))
  refine wpAny_bind (m := firstArgMember _ _) (wpAny_of_eq (a := Value.none) (by simp only [firstArgMember, plainExc_ValueError.first]; rfl) ?_)
  rw [plainExc_ValueError.own]
  refine wpAny_newObj_type ?_
  rw [Heap.size_push]
  exact h
theorem C_int_bad {x : PySem.Str} {u tb : Tok} {Q : Value → Shared → Prop} (hh : A.handled = none) (h : ∀ c ∈ x.cps.toList, ltr c = true) (hne : x.cps.toList ≠ []) (hl : x.length ≤ 640) (hr : (reprText x).length ≤ sizeLine)
    (hE : ∀ msg tk', E (.ref (s.heap.objs.size + 1)) { s with heap := (s.heap.push { cls := .type "tuple", data := .seq #[msg] }).push { cls := .type "ValueError", data := .fields #[.ref s.heap.objs.size, .none, .none, .none, .bool false, .none] }, toks := tk' }) : wpC (model prog w) A (call (.type "int") [.str x u, .int 10 tb]) Q E s := by
  refine C_int_raise (C_builtin (by decide +kernel) F.entry_int_new (newCall_int_2 _ _) ?_)
  rw [int_new_eq, ift_eq x u _ (Nat.le_trans (seen_length x) hl), read_ltr h hne]
  refine C_bind ?_
  show wpC (model prog w) A.in1.in1 (refuse x u) _ _ s
  unfold refuse
  refine C_bind (C_rule (C_bind (C_any (wpAny_pyRepr_str ?_ hr))))
  refine C_bind (C_any (wpAny_mkStr ?_ ?_))
  · refine C_bind (C_any (newExc_value ?_))
    refine C_bind (not_marked (C_any (wpAny_raiseNew_none hh (hE _ _))))
  · rw [Str.length_append, sizeLine_eq]
    have e1 : (PySem.Str.ofString (toString "invalid literal for int() with base " ++ toString 10 ++ toString ": ")).length ≤ 100 := by decide +kernel
    have e2 : (⟨(reprText x).cps.extract 0 200⟩ : PySem.Str).length ≤ 200 := by
      show ((reprText x).cps.extract 0 200).size ≤ 200
      rw [Array.size_extract]; omega
    omega
theorem gives_int2 {x : PySem.Str} {u tb : Tok} {n : Int} (hl : x.length ≤ 640) (hn : PySem.intText? x = some n) : Gives (Builtin.«int.__new__» ⟨[.type "int", .str x u, .int 10 tb], []⟩) (.int n) :=
  .of_wp fun M A E s Q h => by
    have hs : (numSeenOf x).length ≤ 640 := Nat.le_trans (seen_length x) hl
    rcases read0 x hs with ⟨m, h1, h2, h3⟩ | ⟨h1, _⟩
    · rw [hn] at h1
      injection h1 with h1
      subst h1
      rw [int_new_eq, ift_eq x u _ hs, h3, h2]
      refine wpAny_bind ?_
      show wpAny M A (mkInt n) _ _ s
      exact wpAny_mkInt (wpAny_pure ⟨_, rfl, h⟩)
    · rw [hn] at h1
      cases h1
theorem int_text2 {x : PySem.Str} {u tb : Tok} {n : Int} {Q : Value → Shared → Prop} (hn : PySem.intText? x = some n) (hl : x.length ≤ 640) (h : Q (.int n s.toks) { s with toks := s.toks + 1 }) :
    wpAny (model prog w) A (call (.type "int") [.str x u, .int 10 tb]) Q E s :=
  callType_new F.called_int F.newNe_int (typeCall_int_2 _ _) (newCall_int_2 _ _) (fun obj => args_object_init_3 obj _ _) F.entry_int_new (gives_int2 hl hn).meets (show (Made.int n).post _ s from ⟨rfl, h⟩)
end
end Mine
end
section
open PySem PySem.Calls PySem.W PyProof.Rows
set_option Elab.async false
set_option maxRecDepth 100000
namespace Mine
structure Ext (N : Nat) (W : Addr → Prop) (s t : Shared) : Prop where
  low : ∀ b o, b < N → ¬ W b → s.heap.get? b = some o → t.heap.get? b = some o
  plain : ∀ b o, ¬ W b → s.heap.get? b = some o → (∀ es ep, o.data ≠ .dict es ep) → t.heap.get? b = some o
  slots : ∀ b o, ¬ W b → s.heap.get? b = some o → ∃ sl, t.heap.get? b = some { o with slots := sl }
  dom : ∀ b o, s.heap.get? b = some o → ∃ o', t.heap.get? b = some o'
  os : t.os = s.os
  gens : AllBare s.gens → AllBare t.gens

variable {N : Nat} {W : Addr → Prop} {s t u : Shared}
theorem Ext.refl : Ext N W s s := ⟨fun _ _ _ _ e => e, fun _ _ _ e _ => e, fun _ o _ e => ⟨o.slots, e⟩, fun _ _ e => ⟨_, e⟩, rfl, id⟩
theorem Ext.trans (x : Ext N W s t) (y : Ext N W t u) : Ext N W s u :=
  ⟨fun b o h1 h2 e => y.low b o h1 h2 (x.low b o h1 h2 e), fun b o h2 e hc => y.plain b o h2 (x.plain b o h2 e hc) hc,
   fun b o h2 e => let ⟨_, e1⟩ := x.slots b o h2 e; let ⟨sl, e2⟩ := y.slots b _ h2 e1; ⟨sl, e2⟩, fun b o e => let ⟨_, e1⟩ := x.dom b o e; y.dom b _ e1, y.os.trans x.os, fun g => y.gens (x.gens g)⟩
theorem Ext.mono {W' : Addr → Prop} (x : Ext N W s t) (h : ∀ b, W b → W' b) : Ext N W' s t :=
  ⟨fun b o h1 h2 e => x.low b o h1 (fun w => h2 (h b w)) e, fun b o h2 e hc => x.plain b o (fun w => h2 (h b w)) e hc, fun b o h2 e => x.slots b o (fun w => h2 (h b w)) e, x.dom, x.os, x.gens⟩
theorem Ext.trans' {W' : Addr → Prop} (x : Ext N W s t) (y : Ext N W' t u) (h : ∀ b, W' b → s.heap.get? b = none ∨ W b) : Ext N W s u :=
  have no : ∀ b o, ¬ W b → s.heap.get? b = some o → ¬ W' b := fun b o h2 e w => (h b w).elim (fun q => by rw [e] at q; cases q) h2
  ⟨fun b o h1 h2 e => y.low b o h1 (no b o h2 e) (x.low b o h1 h2 e), fun b o h2 e hc => y.plain b o (no b o h2 e) (x.plain b o h2 e hc) hc,
   fun b o h2 e => let ⟨_, e1⟩ := x.slots b o h2 e; let ⟨sl, e2⟩ := y.slots b _ (no b o h2 e) e1; ⟨sl, e2⟩, fun b o e => let ⟨_, e1⟩ := x.dom b o e; y.dom b _ e1, y.os.trans x.os, fun g => y.gens (x.gens g)⟩
theorem Ext.fresh (x : Ext N W s t) {a : Addr} (h : t.heap.objs.size ≤ a) : s.heap.get? a = none := by
  cases e : s.heap.get? a with
  | none => rfl
  | some o =>
    obtain ⟨o', e'⟩ := x.dom a o e
    exact absurd (Heap.lt_size e') (Nat.not_lt.mpr h)
theorem Ext.fresh' (x : Ext N W s t) {a : Addr} (h : t.heap.get? a = none) : s.heap.get? a = none := by
  cases e : s.heap.get? a with
  | none => rfl
  | some o =>
    obtain ⟨o', e'⟩ := x.dom a o e
    rw [h] at e'; cases e'
theorem Ext.keeps (x : Ext N W s t) {h' : Heap} {tk : Nat} (hk : ∀ b o, t.heap.get? b = some o → h'.get? b = some o) : Ext N W s { t with heap := h', toks := tk } :=
  ⟨fun b o h1 h2 e => hk _ _ (x.low b o h1 h2 e), fun b o h2 e hc => hk _ _ (x.plain b o h2 e hc), fun b o h2 e => let ⟨sl, e1⟩ := x.slots b o h2 e; ⟨sl, hk _ _ e1⟩, fun b o e => let ⟨_, e1⟩ := x.dom b o e; ⟨_, hk _ _ e1⟩, x.os, x.gens⟩
theorem Ext.push (x : Ext N W s t) (o : Obj) {tk : Nat} : Ext N W s { t with heap := t.heap.push o, toks := tk } := x.keeps (fun _ _ e => Heap.get?_push_of_some _ e)
theorem Ext.toks (x : Ext N W s t) (tk : Nat) : Ext N W s { t with toks := tk } := x.keeps (fun _ _ e => e)
theorem Ext.but (x : Ext N W s t) {h' : Heap} {a : Addr} {tk : Nat} (ha : s.heap.get? a = none ∨ (W a ∧ ∃ o, h'.get? a = some o)) (hs : Heap.ExtBut a t.heap h') : Ext N W s { t with heap := h', toks := tk } :=
  have ne : ∀ b o, ¬ W b → s.heap.get? b = some o → b ≠ a := fun b o h2 e q => ha.elim (fun z => by rw [← q, e] at z; cases z) fun w => h2 (q ▸ w.1)
  ⟨fun b o h1 h2 e => hs b _ (ne b o h2 e) (x.low b o h1 h2 e), fun b o h2 e hc => hs b _ (ne b o h2 e) (x.plain b o h2 e hc), fun b o h2 e => let ⟨sl, e1⟩ := x.slots b o h2 e; ⟨sl, hs b _ (ne b o h2 e) e1⟩,
   fun b o e => by
    by_cases q : b = a
    · subst q
      rcases ha with z | z
      · rw [e] at z; cases z
      · exact z.2
    · obtain ⟨_, e1⟩ := x.dom b o e
      exact ⟨_, hs b _ q e1⟩, x.os, x.gens⟩
theorem Ext.same (x : Ext N W s t) {h' : Heap} {a : Addr} {tk : Nat} (ha : s.heap.get? a = none ∨ (W a ∧ ∃ o, h'.get? a = some o)) (hs : Heap.SameBut a t.heap h') : Ext N W s { t with heap := h', toks := tk } :=
  x.but ha fun b o q e => (hs.2 b q).trans e
theorem Ext.marks (x : Ext N W s t) {h' : Heap} {S : List Addr} {tk : Nat} (hs : Heap.SlotsOnly S t.heap h') (hS : ∀ b ∈ S, N ≤ b ∧ ∀ o, t.heap.get? b = some o → ∃ es ep, o.data = .dict es ep) : Ext N W s { t with heap := h', toks := tk } :=
  ⟨fun b o h1 h2 e => (hs.2.1 b fun hb => Nat.lt_irrefl _ (Nat.lt_of_lt_of_le h1 (hS b hb).1)).trans (x.low b o h1 h2 e),
   fun b o h2 e hc => (hs.2.1 b fun hb => let ⟨es, ep, q⟩ := (hS b hb).2 o (x.plain b o h2 e hc); hc es ep q).trans (x.plain b o h2 e hc),
   fun b o h2 e => let ⟨_, e1⟩ := x.slots b o h2 e; let ⟨sl, e2⟩ := hs.2.2 b _ e1; ⟨sl, e2⟩, fun b o e => let ⟨_, e1⟩ := x.dom b o e; let ⟨sl, e2⟩ := hs.2.2 b _ e1; ⟨_, e2⟩, x.os, x.gens⟩
theorem Ext.ns {a : Addr} {m : Str → Option Value} (x : Ext N W s t) (hn : s.heap.Ns a m) (ha : ¬ W a) : t.heap.Ns a m := by
  obtain ⟨o, es, ep, ho, hd, r⟩ := hn
  obtain ⟨sl, e⟩ := x.slots a o ha ho
  exact ⟨_, es, ep, e, hd, r⟩
theorem Ext.frames {l : List Env} (x : Ext N W s t) (hl : s.heap.FunFrames {} l) (hw : ∀ b ∈ l.filterMap (·.frame), ¬ W b) : t.heap.FunFrames {} l := by
  induction l with
  | nil => trivial
  | cons env rest ih =>
    obtain ⟨hk, ⟨L, o, hf, hn, ho, hd⟩, hr⟩ := hl
    obtain ⟨sl, e⟩ := x.slots L o (hw L (by rw [List.filterMap_cons, hf]; exact List.mem_cons_self ..)) ho
    exact ⟨hk, ⟨L, _, hf, hn, e, hd⟩, ih hr fun b hb => hw b (by rw [List.filterMap_cons, hf]; exact List.mem_cons_of_mem _ hb)⟩

noncomputable def Base (h₀ : Heap) (Tab : Addr → Prop) (h : Heap) : Prop := ∀ b o, ¬ Tab b → h₀.get? b = some o → h.get? b = some o
theorem Base.ext {h₀ : Heap} {Tab : Addr → Prop} (b : Base h₀ Tab s.heap) (x : Ext N W s t) (hN : h₀.objs.size ≤ N) (hW : ∀ b, W b → N ≤ b ∨ Tab b) : Base h₀ Tab t.heap := fun a o ht e =>
  x.low a o (Nat.lt_of_lt_of_le (Heap.lt_size e) hN) (fun w => (hW a w).elim (fun q => Nat.lt_irrefl _ (Nat.lt_of_lt_of_le (Nat.lt_of_lt_of_le (Heap.lt_size e) hN) q)) ht) (b a o ht e)
theorem Base.ns {h₀ h : Heap} {Tab : Addr → Prop} {a : Addr} {m : Str → Option Value} (b : Base h₀ Tab h) (hn : h₀.Ns a m) (ha : ¬ Tab a) : h.Ns a m :=
  let ⟨o, es, ep, ho, r⟩ := hn; ⟨o, es, ep, b a o ha ho, r⟩
theorem Base.noLimit {h₀ h : Heap} {Tab : Addr → Prop} (b : Base h₀ Tab h) (hn : h₀.NoLimit) (ha : ¬ Tab cStatics) : h.NoLimit := let ⟨mc, x, y⟩ := hn; ⟨mc, b.ns x ha, y⟩
theorem Base.codeRec {h₀ h : Heap} {Tab : Addr → Prop} {c : Addr} {q : Str} (b : Base h₀ Tab h) (x : h₀.CodeRec (.ref c) q) (ha : ¬ Tab c) : h.CodeRec (.ref c) q := by
  obtain ⟨c', o, vs, t, e, g, r⟩ := x
  cases e
  exact ⟨c, o, vs, t, rfl, b _ _ ha g, r⟩

noncomputable def Lst (h : Heap) (a : Addr) (vs : List Value) : Prop := ∃ n, h.get? a = some ⟨.type "list", none, .seq vs.toArray n, #[]⟩
noncomputable def Tup (h : Heap) (a : Addr) (vs : List Value) : Prop := ∃ n, h.get? a = some ⟨.type "tuple", none, .seq vs.toArray n, #[]⟩
theorem Lst.isList {h : Heap} {a : Addr} {vs : List Value} (x : Lst h a vs) : h.IsList a vs.toArray := let ⟨n, e⟩ := x; ⟨_, e, rfl, n, rfl⟩
theorem Lst.ext {a : Addr} {vs : List Value} (l : Lst s.heap a vs) (x : Ext N W s t) (ha : ¬ W a) : Lst t.heap a vs := let ⟨n, e⟩ := l; ⟨n, x.plain _ _ ha e (fun _ _ q => by cases q)⟩
theorem Tup.ext {a : Addr} {vs : List Value} (l : Tup s.heap a vs) (x : Ext N W s t) (ha : ¬ W a) : Tup t.heap a vs := let ⟨n, e⟩ := l; ⟨n, x.plain _ _ ha e (fun _ _ q => by cases q)⟩
theorem Lst.new (h : Heap) (vs : List Value) : Lst (h.push { cls := .type "list", data := .seq vs.toArray }) h.objs.size vs := ⟨0, Heap.get?_push_size _ rfl⟩
theorem Tup.new (h : Heap) (vs : List Value) : Tup (h.push { cls := .type "tuple", data := .seq vs.toArray }) h.objs.size vs := ⟨0, Heap.get?_push_size _ rfl⟩
theorem Lst.push {h : Heap} {a : Addr} {vs : List Value} (l : Lst h a vs) (o : Obj) : Lst (h.push o) a vs := let ⟨n, e⟩ := l; ⟨n, Heap.get?_push_of_some _ e⟩
theorem Tup.push {h : Heap} {a : Addr} {vs : List Value} (l : Tup h a vs) (o : Obj) : Tup (h.push o) a vs := let ⟨n, e⟩ := l; ⟨n, Heap.get?_push_of_some _ e⟩
theorem Lst.same {h h' : Heap} {a b : Addr} {vs : List Value} (l : Lst h a vs) (hs : Heap.SameBut b h h') (hab : a ≠ b) : Lst h' a vs := let ⟨n, e⟩ := l; ⟨n, (hs.2 a hab).trans e⟩
theorem Tup.same {h h' : Heap} {a b : Addr} {vs : List Value} (l : Tup h a vs) (hs : Heap.SameBut b h h') (hab : a ≠ b) : Tup h' a vs := let ⟨n, e⟩ := l; ⟨n, (hs.2 a hab).trans e⟩
theorem Lst.lt {h : Heap} {a : Addr} {vs : List Value} (l : Lst h a vs) : a < h.objs.size := let ⟨_, e⟩ := l; Heap.lt_size e
section
variable {prog : Program} {w : World} {A : Around} {E : Value → Shared → Prop}
theorem Lst.map {h : Heap} {R : Addr} {vs : List Value} (l : Lst h R vs) (f : Array Value → Array Value) (ws : List Value) (hf : f vs.toArray = ws.toArray) : Lst (h.update R (Obj.mapSeq f)) R ws := by
  obtain ⟨n, e⟩ := l
  have := Heap.get?_update_self (Obj.mapSeq f) e rfl
  simp only [Obj.mapSeq, hf] at this
  exact ⟨_, this⟩
theorem extend_tuple {R T : Addr} {vs ts : List Value} {Q : Value → Shared → Prop} (hR : Lst s.heap R vs) (hT : Tup s.heap T ts) (hz : vs.length + ts.length ≤ 1000000)
    (h : ∀ h', Lst h' R (vs ++ ts) → Heap.SameBut R s.heap h' → Q .none { s with heap := h' }) : wpAny (model prog w) A (call (.builtin "list.extend") [.ref R, .ref T]) Q E s := by
  have hR' := hR
  obtain ⟨n, eR⟩ := hR
  obtain ⟨m, eT⟩ := hT
  refine wpAny_call_entry F.slot_list_extend (T := "list") ⟨_, eR, rfl⟩ F.entry_list_extend ?_ (F.args_list_extend_2 _ _)
  unfold Builtin.«list.extend»
  show wpAny (model prog w) A.in1 (Builtin.List.listExtendWith (.ref R) (.ref T) .none) _ _ s
  unfold Builtin.List.listExtendWith
  refine wpAny_bind (wpAny_typeOf (T := "tuple") ⟨_, eT, rfl⟩ ?_)
  have h1 : (Builtin.List.listSameRef (.ref R) (.ref T) || Value.type "tuple" == Value.type "list" || Value.type "tuple" == Value.type "tuple") = true := by simp
  simp only [h1, if_true]
  unfold Builtin.List.listItems
  refine wpAny_bind (wpAny_bind (wpAny_seqItems eT rfl (wpAny_pure ?_)))
  refine wpAny_bind (wpAny_bind (wpAny_seqItems eR rfl (wpAny_pure ?_)))
  have h2 : (!vs.toArray.isEmpty && Builtin.List.listTooLong (vs.toArray.size + ts.toArray.size)) = false := by
    have : Builtin.List.listTooLong (vs.toArray.size + ts.toArray.size) = false := by
      unfold Builtin.List.listTooLong
      refine decide_eq_false ?_
      show ¬ (_ > sizeLine)
      rw [sizeLine_eq, List.size_toArray, List.size_toArray]; omega
    rw [this, Bool.and_false]
  simp only [h2, Bool.false_eq_true, if_false]
  show wpAny _ A.in1 (updateSeq R (· ++ ts.toArray) >>= fun _ => ret .none) _ _ s
  refine wpAny_bind (wpAny_updateSeq eR rfl (wpAny_pure ⟨.none, rfl, h _ (hR'.map _ _ (by simp)) (Heap.SameBut.update ..)⟩) ?_)
  rw [sizeLine_eq]
  simp
  omega
end
end Mine
end
section
open PySem PySem.Calls PySem.W PyProof.Rows
set_option Elab.async false
set_option maxRecDepth 100000
namespace Mine
variable {N : Nat} {W : Addr → Prop} {s t u : Shared}
noncomputable def Frs (N : Nat) (h : Heap) (l : List Env) : Prop := h.FunFrames {} l ∧ ∀ b ∈ l.filterMap (·.frame), N ≤ b ∧ ∀ o, h.get? b = some o → ∃ es ep, o.data = .dict es ep
theorem Frs.ext {l : List Env} (f : Frs N s.heap l) (x : Ext N W s t) (hw : ∀ b ∈ l.filterMap (·.frame), ¬ W b) : Frs N t.heap l :=
  ⟨x.frames f.1 hw, fun b hb => ⟨(f.2 b hb).1, fun o ho => by
    obtain ⟨_, ob, hob, _⟩ := f.1.mem hb
    obtain ⟨sl, e⟩ := x.slots b ob (hw b hb) hob
    rw [e] at ho; cases ho
    exact (f.2 b hb).2 ob hob⟩⟩
theorem Frs.but {l : List Env} {h h' : Heap} {a : Addr} (f : Frs N h l) (hs : Heap.ExtBut a h h') (hw : a ∉ l.filterMap (·.frame)) : Frs N h' l := by
  refine ⟨?_, fun b hb => ⟨(f.2 b hb).1, fun o ho => ?_⟩⟩
  · obtain ⟨hl, -⟩ := f
    induction l with
    | nil => trivial
    | cons env rest ih =>
      obtain ⟨hk, ⟨L, o, hf, hn, ho, hd⟩, hr⟩ := hl
      rw [List.filterMap_cons, hf] at hw
      exact ⟨hk, ⟨L, o, hf, hn, hs L o (fun q => hw (q ▸ List.mem_cons_self ..)) ho, hd⟩, ih (fun q => hw (List.mem_cons_of_mem _ q)) hr⟩
  · obtain ⟨_, o', ho', _⟩ := f.1.mem hb
    rw [hs b o' (fun q => hw (q ▸ hb)) ho'] at ho
    injection ho with ho
    subst ho
    exact (f.2 b hb).2 _ ho'
theorem Frs.same {l : List Env} {h h' : Heap} {a : Addr} (f : Frs N h l) (hs : Heap.SameBut a h h') (hw : a ∉ l.filterMap (·.frame)) : Frs N h' l := f.but hs.extBut hw
section
variable {prog : Program} {w : World} {A : Around} {E : Value → Shared → Prop} {env : Env} {outer : List Env} {L : Addr}
theorem bare_base {h : Heap} : Heap.StaysIn {} h := fun b o e => by simp [Heap.get?] at e
theorem caught {e T : Addr} {tE : Expr} {b₀ : Stmt} {suite : List Stmt} {pos : Pos} {Q : Flow → Shared → Prop} (hfr : A.frames = some (env :: outer)) (hf : env.frame = some L) (F : Frs N t.heap (env :: outer)) (X : Ext N W s t)
    (he : t.heap.get? e = some { cls := .type "ValueError", data := .fields #[.ref T, .none, .none, .none, .bool false, .none] }) (hen : s.heap.get? e = none)
    (k : ∀ h' , Ext N W s { t with heap := h' } → Frs N h' (env :: outer) →
      wpAny (model prog w) (A.mark (some (.ref e))) (eval tE env) (fun c s₁ => c = .type "ValueError" ∧ s₁ = { t with heap := h' }) (fun _ _ => False) { t with heap := h' } ∧
      ∀ h'', Ext N W s { t with heap := h'' } → Frs N h'' (env :: outer) → wpAny (model prog w) (A.mark (some (.ref e))) (execs (b₀ :: suite) env) Q (fun _ _ => False) { t with heap := h'' }) :
    wpAny (model prog w) A (noteFrame (.ref e) env) (fun _ s₂ => wpAny (model prog w) A (setFlight (.ref e) none) (fun _ s₃ => wpAny (model prog w) A (handleBy (.ref e) env [.ExceptHandler (some tE) none (b₀ :: suite) pos]) Q E s₃) E s₂) E t := by
  have enf : e ∉ (env :: outer).filterMap (·.frame) := fun hm => by
    obtain ⟨es, ep, q⟩ := (F.2 e hm).2 _ he
    cases q
  unfold noteFrame
  simp only [hf]
  refine wpAny_bind (wpAny_field he rfl (x := .none) rfl ?_)
  rw [if_neg (by decide)]
  refine wpAny_bind (wpAny_frameOf_fun hfr F.1 hf fun h₁ hs₁ => ?_)
  have X₁ := X.marks (tk := t.toks) hs₁ F.2
  have F₁ : Frs N h₁ (env :: outer) := F.ext (t := { t with heap := h₁ }) (W := fun _ => False) (Ext.refl.marks hs₁ F.2) fun _ _ z => z
  have he₁ : h₁.get? e = some _ := (hs₁.2.1 e enf).trans he
  refine wpAny_bind (wpAny_entryPlaceOf fun pl hpl => ?_)
  unfold EntryCells.newEntry newFields
  refine wpAny_bind (wpAny_newObj_type ?_ (hpl.sizeOk5 _ _ _ _ _))
  obtain ⟨ts, hts, hsz⟩ : ∃ ts : Array Value, ([Value.none, .ref L, .none, rawInt L, .none] ++ (if pl.isEmpty then List.replicate 6 Value.none else pl)).toArray = ts ∧ 3 < ts.size :=
    ⟨_, rfl, by simp only [List.size_toArray, List.length_append, List.length_cons, List.length_nil]; omega⟩
  rw [hts]
  show wpAny (model prog w) A (setField (.ref e) 1 (.ref h₁.objs.size)) _ E { t with heap := h₁.push { cls := .type "traceback", data := .fields ts } }
  have X₂ := X₁.push (tk := t.toks) { cls := .type "traceback", data := .fields ts }
  have F₂ : Frs N (h₁.push { cls := .type "traceback", data := .fields ts }) (env :: outer) := F₁.ext (s := { t with heap := h₁ }) (t := { t with heap := h₁.push { cls := .type "traceback", data := .fields ts } }) (W := fun _ => False) (Ext.refl.push _) fun _ _ z => z
  have he₂ := Heap.get?_push_of_some (h := h₁) { cls := .type "traceback", data := .fields ts } he₁
  have hT₂ : (h₁.push { cls := .type "traceback", data := .fields ts }).get? h₁.objs.size = some _ := Heap.get?_push_size h₁ rfl
  have hnT : s.heap.get? h₁.objs.size = none := X₁.fresh (Nat.le_refl _)
  have hTe : h₁.objs.size ≠ e := Nat.ne_of_gt (Heap.lt_size he₁)
  have hTf : h₁.objs.size ∉ (env :: outer).filterMap (·.frame) := fun hm => by
    obtain ⟨_, o, ho, _⟩ := F₁.1.mem hm
    exact Nat.lt_irrefl _ (Heap.lt_size ho)
  generalize h₁.push { cls := .type "traceback", data := .fields ts } = h₂ at X₂ F₂ he₂ hT₂ ⊢
  generalize h₁.objs.size = tb at hT₂ hnT hTe hTf ⊢
  refine wpAny_setField he₂ rfl (Nat.le_of_ble_eq_true rfl) ?_
  have hs₃ : Heap.SameBut e h₂ (h₂.update e (Obj.mapFields (·.setIfInBounds 1 (.ref tb)))) := Heap.SameBut.update ..
  have he₃ := Heap.get?_update_self (Obj.mapFields (·.setIfInBounds 1 (Value.ref tb))) he₂ rfl
  have hT₃ := (hs₃.2 tb hTe).trans hT₂
  have X₃ := X₂.same (tk := t.toks) (.inl hen) hs₃
  have F₃ := F₂.same hs₃ enf
  dsimp only at X₃ F₃ he₃ hT₃ ⊢
  generalize h₂.update e (Obj.mapFields (·.setIfInBounds 1 (.ref tb))) = h₃ at X₃ F₃ he₃ hT₃ ⊢
  have fly : ∀ (h : Heap) (A' : Around) (Q' : Unit → Shared → Prop) (E' : Value → Shared → Prop) (ts' : Array Value), h.get? e = some (Obj.mapFields (·.setIfInBounds 1 (Value.ref tb)) { cls := .type "ValueError", data := .fields #[.ref T, .none, .none, .none, .bool false, .none] }) →
      h.get? tb = some { cls := .type "traceback", data := .fields ts' } → 3 < ts'.size →
      (∀ h', Heap.SameBut tb h h' → h'.get? tb = some { cls := .type "traceback", data := .fields (ts'.setIfInBounds 3 .none) } → Q' () { t with heap := h' }) → wpAny (model prog w) A' (setFlight (.ref e) none) Q' E' { t with heap := h } := by
    intro h A' Q' E' ts' h1 h2 h3 hq
    unfold setFlight
    refine wpAny_bind (wpAny_field h1 rfl (x := .ref tb) rfl ?_)
    rw [if_pos (show (Value.ref tb != Value.none) = true from by simp)]
    exact wpAny_setField h2 rfl h3 (hq _ (Heap.SameBut.update ..) (Heap.get?_update_self _ h2 rfl))
  refine fly h₃ _ _ _ ts he₃ hT₃ hsz fun h₄ hs₄ hT₄ => ?_
  have X₄ := X₃.same (tk := t.toks) (.inl hnT) hs₄
  have F₄ := F₃.same hs₄ hTf
  have he₄ := (hs₄.2 e (Ne.symm hTe)).trans he₃
  dsimp only at X₄ F₄
  obtain ⟨k1, k2⟩ := k h₄ X₄ F₄
  refine wpAny_handleBy_builtin (X := "ValueError") (T := "ValueError") (b := true) PySem.F.isExc_ValueError PySem.F.notTuple_ValueError PySem.F.self_ValueError (wpAny_mono k1 (fun c s₁ h₁ => ?_) fun _ _ z => z.elim)
  obtain ⟨rfl, rfl⟩ := h₁
  refine ⟨rfl, ⟨_, he₄, rfl⟩, ?_⟩
  simp only [if_true]
  refine fly h₄ _ _ _ _ he₄ hT₄ (by simpa using hsz) fun h₅ hs₅ hT₅ => ?_
  have X₅ := X₄.same (tk := t.toks) (.inl hnT) hs₅
  exact wpAny_mono (k2 h₅ X₅ (F₄.same hs₅ hTf)) (fun _ _ z => z) fun _ _ z => z.elim
end
end Mine
end
section
open PySem PySem.Calls PySem.W PyProof.Rows
set_option Elab.async false
set_option maxRecDepth 100000
namespace Mine
variable {N : Nat} {W W' : Addr → Prop} {s t u : Shared}
theorem Ext.drop (x : Ext N W s t) (h : ∀ b, W b → s.heap.get? b = none ∨ W' b) : Ext N W' s t := Ext.refl.trans' x h
theorem Frs.put {env : Env} {outer : List Env} {h h' : Heap} {L : Addr} {m : Str → Option Value} (f : Frs N h (env :: outer)) (hs : Heap.SameBut L h h') (hn : h'.Ns L m) : Frs N h' (env :: outer) := by
  obtain ⟨o', es, ep, ho', hd', -⟩ := hn
  have one : ∀ l : List Env, h.FunFrames {} l → h'.FunFrames {} l := by
    intro l
    induction l with
    | nil => intro _; trivial
    | cons e rest ih =>
      rintro ⟨hk, ⟨L', o, hf, hn, ho, hd⟩, hr⟩
      refine ⟨hk, ?_, ih hr⟩
      by_cases q : L' = L
      · subst q
        exact ⟨L', o', hf, hn, ho', fun vs z => by rw [hd'] at z; cases z⟩
      · exact ⟨L', o, hf, hn, (hs.2 L' q).trans ho, hd⟩
  refine ⟨one _ f.1, fun b hb => ⟨(f.2 b hb).1, fun o ho => ?_⟩⟩
  by_cases q : b = L
  · subst q
    rw [ho'] at ho; cases ho
    exact ⟨es, ep, hd'⟩
  · exact (f.2 b hb).2 o ((hs.2 b q).symm.trans ho)
structure Std (N : Nat) (env : Env) (outer : List Env) (s : Shared) (m : Str → Option Value) : Prop where
  frs : Frs N s.heap (env :: outer)
  ns : s.heap.Ns env.locals m
  fl : env.frame = some env.locals
  k : env.scope.kind = .function
  no : env.locals ∉ outer.filterMap (·.frame)
section
variable {env : Env} {outer : List Env} {m : Str → Option Value}
theorem Std.mem (S : Std N env outer s m) : env.locals ∈ (env :: outer).filterMap (·.frame) := by rw [List.filterMap_cons, S.fl]; exact List.mem_cons_self ..
theorem Std.low (S : Std N env outer s m) : N ≤ env.locals := (S.frs.2 _ S.mem).1
theorem Std.ext (S : Std N env outer s m) (x : Ext N W s t) (hw : ∀ b ∈ (env :: outer).filterMap (·.frame), ¬ W b) : Std N env outer t m :=
  ⟨S.frs.ext x hw, x.ns S.ns (hw _ S.mem), S.fl, S.k, S.no⟩
theorem Std.ext0 (S : Std N env outer s m) (x : Ext N (fun _ => False) s t) : Std N env outer t m := S.ext x fun _ _ z => z
theorem Std.off (S : Std N env outer s m) {a : Addr} {o : Obj} (ho : s.heap.get? a = some o) (hd : ∀ es ep, o.data ≠ .dict es ep) : a ∉ (env :: outer).filterMap (·.frame) := fun hm => by
  obtain ⟨es, ep, q⟩ := (S.frs.2 a hm).2 _ ho
  exact hd es ep q
theorem Std.lst (S : Std N env outer s m) {a : Addr} {vs : List Value} (l : Lst s.heap a vs) : a ∉ (env :: outer).filterMap (·.frame) := let ⟨_, e⟩ := l; S.off e fun _ _ q => by cases q
theorem Std.lstNe (S : Std N env outer s m) {a : Addr} {vs : List Value} (l : Lst s.heap a vs) : a ≠ env.locals := fun q => S.lst l (q ▸ S.mem)
theorem Std.tupNe (S : Std N env outer s m) {a : Addr} {vs : List Value} (l : Tup s.heap a vs) : a ≠ env.locals := fun q => let ⟨_, e⟩ := l; S.off e (fun _ _ q => by cases q) (q ▸ S.mem)
theorem Std.but (S : Std N env outer s m) {h' : Heap} {a : Addr} {tk : Nat} (hs : Heap.ExtBut a s.heap h') (ha : a ∉ (env :: outer).filterMap (·.frame)) : Std N env outer { s with heap := h', toks := tk } m :=
  ⟨S.frs.but hs ha, let ⟨o, es, ep, ho, r⟩ := S.ns; ⟨o, es, ep, hs _ _ (fun q => ha (q ▸ S.mem)) ho, r⟩, S.fl, S.k, S.no⟩
theorem Std.same (S : Std N env outer s m) {h' : Heap} {a : Addr} {tk : Nat} (hs : Heap.SameBut a s.heap h') (ha : a ∉ (env :: outer).filterMap (·.frame)) : Std N env outer { s with heap := h', toks := tk } m :=
  ⟨S.frs.same hs ha, S.ns.sameBut hs fun q => ha (q ▸ S.mem), S.fl, S.k, S.no⟩
theorem Lst.but {h h' : Heap} {a b : Addr} {vs : List Value} (l : Lst h a vs) (hs : Heap.ExtBut b h h') (hab : a ≠ b) : Lst h' a vs := let ⟨n, e⟩ := l; ⟨n, hs a _ hab e⟩
theorem Tup.but {h h' : Heap} {a b : Addr} {vs : List Value} (l : Tup h a vs) (hs : Heap.ExtBut b h h') (hab : a ≠ b) : Tup h' a vs := let ⟨n, e⟩ := l; ⟨n, hs a _ hab e⟩
theorem Std.toks (S : Std N env outer s m) (tk : Nat) : Std N env outer { s with toks := tk } m := ⟨S.frs, S.ns, S.fl, S.k, S.no⟩
theorem Std.push (S : Std N env outer s m) (o : Obj) {tk : Nat} : Std N env outer { s with heap := s.heap.push o, toks := tk } m := S.ext0 (Ext.refl.push o)
variable {prog : Program} {w : World} {A : Around} {E : Value → Shared → Prop}
theorem Std.ld {M : Model} {x : Str} {pos : Pos} {v : Value} {Q : Value → Shared → Prop} (S : Std N env outer s m) (hl : env.kindOf x = some .local) (hv : m x = some v) (h : Q v s) (hd : (x == ("__debug__" : Str)) = false := by decide) :
    wpAny M A (eval (.Name x pos) env) Q E s := wpAny_Name (wpAny_loadName_local S.k hl S.ns hv h) hd
theorem Std.st {M : Model} {x : Str} {v : Value} {Q : Unit → Shared → Prop} (S : Std N env outer s m) (hl : env.kindOf x = some .local)
    (h : ∀ t, Std N env outer t (fun y => if y = x then some v else m y) → Ext N (· = env.locals) s t → t.heap.objs.size = s.heap.objs.size → Q () t) : wpAny M A (storeName env x v) Q E s :=
  wpAny_storeName_local hl S.ns (fun h' hn hs => h _ ⟨S.frs.put hs hn, hn, S.fl, S.k, S.no⟩ (Ext.refl.same (.inr ⟨rfl, let ⟨o, _, _, ho, _⟩ := hn; ⟨o, ho⟩⟩) hs) hs.1) (by rw [S.k]; rfl)
theorem gname {M : Model} {x : Str} {pos : Pos} {v : Value} {mg : Str → Option Value} {Q : Value → Shared → Prop} (hk : env.scope.kind = .function) (hx : env.kindOf x = some .globalImplicit) (hg : s.heap.Ns env.globals mg) (hv : mg x = some v) (h : Q v s)
    (hd : (x == ("__debug__" : Str)) = false := by decide) : wpAny M A (eval (.Name x pos) env) Q E s := Name_function_global hk hx (loadGlobal_global hg hv h) hd
theorem bname {M : Model} {x : Str} {pos : Pos} {v : Value} {mg mb : Str → Option Value} {Q : Value → Shared → Prop} (hk : env.scope.kind = .function) (hx : env.kindOf x = some .globalImplicit) (hg : s.heap.Ns env.globals mg) (hm : mg x = none) (hb : s.heap.Ns env.builtins mb) (hv : mb x = some v) (h : Q v s)
    (hd : (x == ("__debug__" : Str)) = false := by decide) : wpAny M A (eval (.Name x pos) env) Q E s := Name_function_global hk hx (loadGlobal_builtin hg hm hb hv h) hd
structure EnvIs (fd : FuncData) (L a : Addr) (env : Env) : Prop where
  sc : env.scope = fd.scope
  gl : env.globals = fd.globals
  bi : env.builtins = fd.builtins
  ce : env.cells = fd.closure
  fn : env.func = some a
  lo : env.locals = L
  co : env.code = fd.code
  fr : env.frame = some L
theorem kd {env : Env} {sc : Scope} {x : Str} {k : NameKind} (h : env.scope = sc) (e : sc.names.lookup x = some k) : env.kindOf x = some k := by unfold Env.kindOf; rw [h]; exact e
theorem C_enter {a : Addr} {o : Obj} {fd : FuncData} {body : List Stmt} {vals : List Value} {binds : List (Str × Value)} {Q : Value → Shared → Prop}
    (hroom : A.depth < recursionLimit) (hF : Frs N s.heap outer) (hN : N ≤ s.heap.objs.size) (ho : s.heap.get? a = some o) (hdata : o.data = .func fd) (hbody : fd.body = .stmts body) (hlim : s.heap.NoLimit) (hcd : s.heap.CodeRec fd.code fd.qualname)
    (hbind : BindsTo s fd ⟨vals, []⟩ binds) (hcell : ∀ x ∈ fd.scope.names, x.2 ≠ .cell) (hloc : ∀ x ∈ binds, fd.scope.names.lookup x.1 = some .local)
    (h : ∀ env t, EnvIs fd s.heap.objs.size a env → Std N env outer t (fun x => binds.reverse.lookup x) → Ext N (fun _ => False) s t →
      wpC (model prog w) (A.deeper env) (execs body env) (fun f s' => Q (match f with | .ret v => v | _ => .none) s') (fun _ _ => False) t)
    (hco : fd.scope.isCoroutine = false := by rfl) (hgen : fd.scope.isGenerator = false := by rfl) (hk : fd.scope.kind = .function := by rfl) : wpC (model prog w) A (call (.ref a) vals) Q E s := by
  refine C_call (codeC_call hroom ho hdata hco hgen hbody hcd (hbind _ _ _ _ ?_))
  refine wpAny_newFunctionEnv hcell hloc (fun h₀ hns hsb => ⟨hlim.fresh _ hsb, codeC_func ?_⟩) hk
  have hkp : ∀ b o, s.heap.get? b = some o → h₀.get? b = some o := fun b o e => hsb.extBut b o (Nat.ne_of_lt (Heap.lt_size e)) (Heap.get?_push_of_some _ e)
  have X : Ext N (fun _ => False) s { s with heap := h₀, toks := s.toks + binds.length } := Ext.refl.keeps hkp
  have hno : s.heap.objs.size ∉ outer.filterMap (·.frame) := fun hm => by
    obtain ⟨_, o, ho, _⟩ := hF.1.mem hm
    exact Nat.lt_irrefl _ (Heap.lt_size ho)
  have F₁ := hF.ext X fun _ _ z => z
  refine C_mono (h (callEnv fd s.heap.objs.size a) _ ⟨rfl, rfl, rfl, rfl, rfl, rfl, rfl, rfl⟩ ⟨⟨Heap.FunFrames.cons (env := callEnv fd s.heap.objs.size a) (by show fd.scope.kind ≠ _; rw [hk]; intro q; cases q) rfl hns (by simp [Heap.get?]) F₁.1, fun b hb => ?_⟩, hns, rfl, hk, hno⟩ X) (fun _ _ z => z) fun _ _ z => z
  rw [List.filterMap_cons] at hb
  rcases List.mem_cons.mp hb with q | q
  · subst q
    obtain ⟨o', es, ep, ho', hd', -⟩ := hns
    exact ⟨hN, fun o ho => by rw [ho'] at ho; cases ho; exact ⟨es, ep, hd'⟩⟩
  · exact F₁.2 b q
end
end Mine
end
section
open PySem PySem.Calls PySem.W PyProof.Rows
set_option Elab.async false
set_option maxRecDepth 100000
namespace Mine
section
variable {prog : Program} {w : World} {A : Around} {E : Value → Shared → Prop} {s : Shared} {env : Env}
theorem C_Call_method {o : Expr} {name : Str} {apos pos : Pos} {args : List Expr} {T id : String} {Q : Value → Shared → Prop}
    (pa : PlainAttrs T) (slot : Slot T name id) (hty : typeOf (.builtin id) = pure (.type "method_descriptor"))
    (h : wpC (model prog w) A (eval o env) (fun ov s₁ => s₁.TypeIs ov T ∧ (∀ a, ov = .ref a → ∃ ob, s₁.heap.get? a = some ob ∧ ob.dict = none) ∧
      wpC (model prog w) A (callWith pos (.builtin id) [ov] (backTo pos (starEach args env)) []) Q E s₁) E s)
    (hbase : attributeBase o name env (eval o env) = eval o env := by rfl)
    (hfew : ((backTo pos (starEach args env)).all (fun x => !x.1) && (backToKw pos (keywordEach [] env)).all (fun x => x.1.isSome)
      && decide (args.length + ([] : List Keyword).length + (if ([] : List Keyword).isEmpty then 0 else 1) < 30)) = true := by rfl)
    (hline : (apos.endLine == pos.line) = true := by rfl) :
    wpC (model prog w) A (eval (.Call (.Attribute o name apos) args [] pos) env) Q E s := by
  rw [arm_eval_Call, hbase]
  refine C_bind (C_q h (fun ov s₁ h₁ => ?_))
  obtain ⟨hT, hd, hc⟩ := h₁
  refine C_bind (C_standAt ?_)
  have hform : methodCallForm (args.length + ([] : List Keyword).length) (backTo pos (starEach args env)) (backToKw pos (keywordEach [] env)) = true := hfew
  have hpos : methodCallPos true o env apos pos = pure pos := by unfold methodCallPos; simp [hline]
  unfold methodCall
  rw [hform]
  refine C_bind (C_holding (C_any (getMethod_builtin hT pa slot hty hd ?_)))
  rw [hpos]
  exact C_bind (C_pure hc)
theorem C_evalArgs0 {f : Value} {Q : Args → Shared → Prop} (h : Q ⟨[], []⟩ s) : wpC (model prog w) A (evalArgs f true [] []) Q E s := C_any (PySem.evalArgs_none h)
theorem C_any3 {α β γ : Type} {M : Model} {x : Sem α} {y : α → Sem β} {z : α → β → Sem γ} {Q : γ → Shared → Prop} (h : wpAny M A x (fun a s₁ => wpAny M A (y a) (fun b s₂ => wpAny M A (z a b) Q E s₂) E s₁) E s) :
    wpC M A x (fun a s₁ => wpC M A (y a) (fun b s₂ => wpC M A (z a b) Q E s₂) E s₁) E s :=
  C_any (wpAny_mono h (fun _ _ h₁ => C_any (wpAny_mono h₁ (fun _ _ h₂ => C_any h₂) fun _ _ e => e)) fun _ _ e => e)
theorem Lst.meth {a : Addr} {vs : List Value} (l : Lst s.heap a vs) : s.TypeIs (.ref a) "list" ∧ ∀ b, Value.ref a = .ref b → ∃ ob, s.heap.get? b = some ob ∧ ob.dict = none := by
  obtain ⟨n, e⟩ := l
  exact ⟨⟨_, e, rfl⟩, fun b q => by cases q; exact ⟨_, e, rfl⟩⟩
theorem Tup.isTuple {a : Addr} {vs : List Value} (l : Tup s.heap a vs) : s.TypeIs (.ref a) "tuple" := let ⟨_, e⟩ := l; ⟨_, e, rfl⟩
end
end Mine
end
section
open PySem PySem.Calls PySem.W PyProof.Rows
set_option Elab.async false
set_option maxRecDepth 100000
namespace Mine
noncomputable def top : List Stmt := PySem.Challenge.pw_ny0047_02.main.body
noncomputable def bodyOf : Option Stmt → List Stmt
  | some (.FunctionDef _ _ b _ _ _ _ _ _ _) => b
  | some (.ClassDef _ _ _ b _ _ _ _ _ _ _) => b
  | _ => []
noncomputable def scopeOf : Option Stmt → Scope
  | some (.FunctionDef _ _ _ _ _ _ s _ _ _) => s
  | _ => { kind := .function, names := [], isGenerator := false, isCoroutine := false, more := [] }
noncomputable def parsOf : Option Stmt → Arguments
  | some (.FunctionDef _ a _ _ _ _ _ _ _ _) => a
  | _ => { posonlyargs := [], args := [], vararg := none, kwonlyargs := [], kw_defaults := [], kwarg := none, defaults := [] }
noncomputable def cvAt : Option Stmt := top[5]?
noncomputable def aRe : Addr := 43
noncomputable def aCode : Addr := 42
noncomputable def aStages : Addr := 44
noncomputable def aCv : Addr := 51
noncomputable def aCvCode : Addr := 50
noncomputable def topN : Nat := 160
noncomputable def aAcc : Addr := 131
noncomputable def aAccNs : Addr := 130
noncomputable def aClassCell : Addr := 55
noncomputable def aInit : Addr := 68
noncomputable def aPush : Addr := 75
noncomputable def aPop : Addr := 91
noncomputable def aLen : Addr := 98
noncomputable def aStr : Addr := 105
noncomputable def aCount : Addr := 128
noncomputable def aInitCode : Addr := 67
noncomputable def aPushCode : Addr := 74
noncomputable def aPopCode : Addr := 90
noncomputable def aLenCode : Addr := 97
noncomputable def aStrCode : Addr := 104
noncomputable def aCountCode : Addr := 127
noncomputable def aBm : Addr := 4
noncomputable def aStrTab : Addr := 100
noncomputable def aLenTab : Addr := 93
noncomputable def aInitDfl : Addr := 60
noncomputable def accAt : List Stmt := bodyOf top[8]?
noncomputable def Tab (b : Addr) : Prop := b = 93 ∨ b = 100
noncomputable def Keep (h h' : Heap) : Prop := ∀ b o, b < topN → ¬ Tab b → h.get? b = some o → h'.get? b = some o
theorem Keep.of {N : Nat} {W : Addr → Prop} {s t : Shared} (X : Ext N W s t) (hN : topN ≤ N) (hW : ∀ b, W b → topN ≤ b ∨ Tab b) : Keep s.heap t.heap := fun b o h1 h2 e =>
  X.low b o (Nat.lt_of_lt_of_le h1 hN) (fun z => (hW b z).elim (fun q => Nat.lt_irrefl _ (Nat.lt_of_lt_of_le h1 q)) h2) e
theorem Keep.ns {h h' : Heap} {a : Addr} {m : Str → Option Value} (K : Keep h h') (hn : h.Ns a m) (ha : a < topN) (ht : ¬ Tab a) : h'.Ns a m := let ⟨o, es, ep, ho, r⟩ := hn; ⟨o, es, ep, K a o ha ht ho, r⟩
theorem Keep.lim {h h' : Heap} (K : Keep h h') (hn : h.NoLimit) : h'.NoLimit := let ⟨mc, x, y⟩ := hn; ⟨mc, K.ns x (by decide) (by unfold Tab; decide), y⟩
theorem Keep.code {h h' : Heap} {c : Addr} {q : Str} (K : Keep h h') (x : h.CodeRec (.ref c) q) (ha : c < topN) (ht : ¬ Tab c) : h'.CodeRec (.ref c) q := by
  obtain ⟨c', o, vs, t, e, g, r⟩ := x
  cases e
  exact ⟨c, o, vs, t, rfl, K _ _ ha ht g, r⟩
end Mine
end
section
open PySem PySem.Calls PySem.W PyProof.Rows
set_option Elab.async false
set_option maxRecDepth 100000
namespace Mine
inductive Itm where
  | i (n : Int)
  | s (x : Str)
  deriving DecidableEq
inductive ItmIs : Value → Itm → Prop where
  | i (n : Int) (t : Tok) : ItmIs (.int n t) (.i n)
  | s (x : Str) (t : Tok) : ItmIs (.str x t) (.s x)
inductive ItmsAre : List Value → List Itm → Prop where
  | nil : ItmsAre [] []
  | cons {v : Value} {a : Itm} {vs : List Value} {as : List Itm} : ItmIs v a → ItmsAre vs as → ItmsAre (v :: vs) (a :: as)
theorem ItmsAre.append {vs ws : List Value} {xs ys : List Itm} (h : ItmsAre vs xs) (k : ItmsAre ws ys) : ItmsAre (vs ++ ws) (xs ++ ys) := by
  induction h with
  | nil => exact k
  | cons a _ ih => exact .cons a ih
theorem ItmsAre.length {vs : List Value} {xs : List Itm} (h : ItmsAre vs xs) : vs.length = xs.length := by
  induction h with
  | nil => rfl
  | cons _ _ ih => simp [ih]
noncomputable def stagesL : List (Str × Int) := [("dev", 10), ("alpha", 20), ("a", 20), ("beta", 30), ("b", 30), ("c", 40), ("RC", 50), ("rc", 50), ("pl", 200), ("p", 200)]
noncomputable def stage (x : Str) : Int := (stagesL.lookup x).getD 0
noncomputable def signs : Str := "._+-"
noncomputable def cvP (v : Str) : List Itm := if Txt.contains signs v then [] else match PySem.intText? v with
  | some n => [.i 100, .i n]
  | none => [.i (stage v), .s v]
noncomputable def cv (x : Str) : List Itm := (splitP x).flatMap cvP
noncomputable def PartOk (v : Str) : Prop := v.cps.size ≤ 640 ∧ (Txt.contains signs v = true ∨ (∃ n, PySem.intText? v = some n) ∨ (PySem.intText? v = none ∧ v.cps.toList ≠ [] ∧ ∀ c ∈ v.cps.toList, ltr c = true))
structure CvTop (prog : Program) (w : World) (mg mb : Str → Option Value) (h : Heap) : Prop where
  g : h.Ns mainGlobals mg
  b : h.Ns builtinsNs mb
  re : mg "_twin_re_1" = some (.ref aRe)
  st : mg "_ver_stages" = some (.ref aStages)
  noInt : mg "int" = none
  noVe : mg "ValueError" = none
  int : mb "int" = some (.type "int")
  ve : mb "ValueError" = some (.type "ValueError")
  pat : ∃ op fs, h.get? aRe = some op ∧ op.cls = .type "re.Pattern" ∧ op.dict = none ∧ op.data = .fields fs ∧ fs.getD 6 .none = rawInt 0 ∧ fs.getD 5 .none = .ref aCode ∧ fs.getD 2 .none = rawInt 1
  code : ∃ oc its n, h.get? aCode = some oc ∧ oc.data = .seq its n ∧ (its.map PySem.Builtin.Re.reRawOf).map (·.toNat) = cvCode
  stg : ∃ f, h.MapOf (strKind prog w) aStages f ∧ ∀ x, match f x with | some v => ∃ tk, v = .int (stage x) tk | none => stage x = 0
  fn : ∃ o pm doc, h.get? aCv = some o ∧ o.data = .func (docDef "_comparable_version" (parsOf cvAt) (bodyOf cvAt) (scopeOf cvAt) pm (.ref aCvCode) doc) ∧ h.CodeRec (.ref aCvCode) "_comparable_version"
  lim : h.NoLimit
theorem CvTop.keep {prog : Program} {w : World} {mg mb : Str → Option Value} {h₀ h : Heap} (T : CvTop prog w mg mb h₀) (B : Keep h₀ h) : CvTop prog w mg mb h := by
  obtain ⟨g, b, re, st, noInt, noVe, int, ve, ⟨op, fs, h1, r1⟩, ⟨oc, its, n, h2, r2⟩, ⟨f, ⟨om, es, ep, h3, r3⟩, r3'⟩, ⟨o, pm, doc, h4, h5, h6⟩, lim⟩ := T
  exact ⟨B.ns g (by decide) (by unfold Tab; decide), B.ns b (by decide) (by unfold Tab; decide), re, st, noInt, noVe, int, ve, ⟨op, fs, B _ _ (by decide) (by unfold Tab; decide) h1, r1⟩, ⟨oc, its, n, B _ _ (by decide) (by unfold Tab; decide) h2, r2⟩,
    ⟨f, ⟨om, es, ep, B _ _ (by decide) (by unfold Tab; decide) h3, r3⟩, r3'⟩, ⟨o, pm, doc, B _ _ (by decide) (by unfold Tab; decide) h4, h5, B.code h6 (by decide) (by unfold Tab; decide)⟩, B.lim lim⟩
section
variable {prog : Program} {w : World} {A : Around} {E : Value → Shared → Prop} {s : Shared} {mg mb : Str → Option Value} {N : Nat} {outer : List Env}
noncomputable def forOf : Option Stmt → List Stmt
  | some (.For _ _ b _ _) => b
  | _ => []
noncomputable def cvFor : List Stmt := forOf (bodyOf cvAt)[2]?
theorem truth {M : Model} {b : Bool} {Q : Bool → Shared → Prop} (h : Q b s) : wpC M A (truthy (.bool b)) Q E s := C_any (wpAny_truthy_bool h)
theorem cv_turn {env : Env} {m : Str → Option Value} {v : Str} {tk : Tok} {R : Addr} {vs : List Value} (T : CvTop prog w mg mb s.heap) (hN : topN ≤ N) (hfr : A.frames = some (env :: outer)) (hh : A.handled = none) (hsc : env.scope = scopeOf cvAt) (hgl : env.globals = mainGlobals) (hbi : env.builtins = builtinsNs)
    (S : Std N env outer s m) (hv : m "v" = some (.str v tk)) (hr : m "result" = some (.ref R)) (hR : Lst s.heap R vs) (hz : vs.length ≤ 999998) (hp : PartOk v) :
    wpC (model prog w) A (execs cvFor env) (fun f t => f = .next ∧ ∃ m' us, Std N env outer t m' ∧ m' "result" = some (.ref R) ∧ Lst t.heap R (vs ++ us) ∧ ItmsAre us (cvP v) ∧ Ext N (fun b => b = env.locals ∨ b = R) s t) (fun _ _ => False) s := by
  obtain ⟨hl, hk⟩ := hp
  refine C_cons (C_If (C_isTrue_Compare1 (C_any (S.ld (kd hsc rfl) hv (C_any (Constant_str (C_any (SB.notContains (truth ?_)))))))))
  cases hc : Txt.contains (Str.ofString "._+-") v with
  | true =>
    refine C_nil ?_
    refine C_nil ⟨rfl, m, [], S.toks _, hr, by simpa using hR, ?_, Ext.refl.toks _⟩
    have : cvP v = [] := if_pos hc
    rw [this]; exact .nil
  | false =>
    have hk' : (∃ n, PySem.intText? v = some n) ∨ (PySem.intText? v = none ∧ v.cps.toList ≠ [] ∧ ∀ c ∈ v.cps.toList, ltr c = true) := hk.resolve_left (by rw [show Txt.contains signs v = false from hc]; exact Bool.false_ne_true)
    have S₁ := S.toks (s.toks + 1)
    generalize hs₁ : ({ s with toks := s.toks + 1 } : Shared) = s₁ at S₁ ⊢
    have X₁ : Ext N (fun b => b = env.locals ∨ b = R) s s₁ := hs₁ ▸ Ext.refl.toks _
    have hR₁ : Lst s₁.heap R vs := by rw [← hs₁]; exact hR
    have T₁ : CvTop prog w mg mb s₁.heap := by rw [← hs₁]; exact T
    refine C_cons (C_q (Q := fun f t => f = .next ∧ ∃ m' a b, Std N env outer t m' ∧ m' "result" = some (.ref R) ∧ m' "t" = some a ∧ m' "v" = some b ∧ ItmsAre [a, b] (cvP v) ∧ Ext N (fun b => b = env.locals) s₁ t) ?_ ?_)
    · refine C_Try (C_cons (C_AssignName (C_Call_Name (C_any (bname S.k (kd hsc rfl) (hgl ▸ T₁.g) T₁.noInt (hbi ▸ T₁.b) T₁.int (C_callBuiltin rfl rfl (C_evalArgs (C_items_cons (C_any (S₁.ld (kd hsc rfl) hv (C_items_cons (C_any (wpAny_Constant_int (C_items_nil ?_))))))))))))))
      rcases hk' with ⟨n, hn⟩ | ⟨hn, hne, hlt⟩
      · refine C_any (int_text2 hn hl (C_any (((S₁.toks _).toks _).st (kd hsc rfl) fun t₂ S₂ X₂ _ => ?_)))
        refine C_cons (C_AssignName (C_any (wpAny_Constant_int (C_any ((S₂.toks _).st (kd hsc rfl) fun t₃ S₃ X₃ _ => ?_)))))
        refine C_nil (C_nil ⟨rfl, _, _, _, S₃, (if_neg (by decide)).trans ((if_neg (by decide)).trans hr), if_pos rfl, (if_neg (by decide)).trans (if_pos rfl), ?_, ?_⟩)
        · have : cvP v = [.i 100, .i n] := by unfold cvP; rw [if_neg (by rw [show Txt.contains signs v = false from hc]; exact Bool.false_ne_true), hn]
          rw [this]
          exact .cons (.i _ _) (.cons (.i _ _) .nil)
        · exact ((((Ext.refl.toks _).toks _).trans X₂).toks _).trans X₃
      · have low : ∀ c ∈ v.cps.toList, c < 16 ^ 8 := fun c hcm => by have := ltr_iff.mp (hlt c hcm); omega
        have hrl : (reprText v).length ≤ sizeLine := by
          have := PySem.StrLaws.reprText_len v low
          rw [sizeLine_eq]
          have : v.length = v.cps.size := rfl
          omega
        refine C_int_bad hh hlt hne hl hrl fun msg tk' => ?_
        have X₂ : Ext N (fun _ => False) s₁ { s₁ with heap := (s₁.heap.push { cls := .type "tuple", data := .seq #[msg] }).push { cls := .type "ValueError", data := .fields #[.ref s₁.heap.objs.size, .none, .none, .none, .bool false, .none] }, toks := tk' } :=
          (Ext.refl.push _ (tk := s₁.toks)).push _
        have he₂ : ((s₁.heap.push { cls := .type "tuple", data := .seq #[msg] }).push { cls := .type "ValueError", data := .fields #[.ref s₁.heap.objs.size, .none, .none, .none, .bool false, .none] }).get? (s₁.heap.objs.size + 1) = some { cls := .type "ValueError", data := .fields #[.ref s₁.heap.objs.size, .none, .none, .none, .bool false, .none] } := by
          have := Heap.get?_push_size (s₁.heap.push { cls := .type "tuple", data := .seq #[msg] }) (o := { cls := .type "ValueError", data := .fields #[.ref s₁.heap.objs.size, .none, .none, .none, .bool false, .none] }) rfl
          rwa [Heap.size_push] at this
        have S₂ : Std N env outer { s₁ with heap := (s₁.heap.push { cls := .type "tuple", data := .seq #[msg] }).push { cls := .type "ValueError", data := .fields #[.ref s₁.heap.objs.size, .none, .none, .none, .bool false, .none] }, toks := tk' } m :=
          (S₁.push (tk := s₁.toks) _).push _
        refine C_any3 (caught (s := s₁) hfr S.fl S₂.frs X₂ he₂ (Heap.get?_none_of_le (Nat.le_succ _)) fun h₃ X₃ F₃ => ?_)
        have hWL : ∀ b, b = env.locals → topN ≤ b ∨ Tab b := fun b q => .inl (q ▸ Nat.le_trans hN S.low)
        have T₃ := T₁.keep (Keep.of X₃ hN nofun)
        refine ⟨bname S.k (kd hsc rfl) (hgl ▸ T₃.g) T₃.noVe (hbi ▸ T₃.b) T₃.ve ⟨rfl, rfl⟩, fun h₄ X₄ F₄ => ?_⟩
        have T₄ := T₁.keep (Keep.of X₄ hN nofun)
        obtain ⟨sf, hsf, hst⟩ := T₄.stg
        have S₄ := S₁.ext0 X₄
        refine wpAny_execs_cons (wpAny_Assign_Name (wpAny_Call_method rfl rfl rfl F.plainAttrs_dict F.slot_dict_get F.type_dict_get (gname S.k (kd hsc rfl) (hgl ▸ T₄.g) T₄.st ⟨hsf.typeIs, hsf.noDict, ?_⟩)))
        refine wpAny_dict_get2 (knd := strKind prog w) rfl ?_
        refine S₄.ld (kd hsc rfl) hv ?_
        rw [if_neg Bool.false_ne_true]
        refine wpAny_Constant_int ⟨v, sf, (by simp [PySem.strKind, Value.isStrOf]), hsf, ?_⟩
        have hg : ∀ u, ∃ tk₅, (sf v).getD (.int 0 u) = .int (stage v) tk₅ := fun u => by
          have hq := hst v
          cases e : sf v with
          | none => rw [e] at hq; exact ⟨u, by rw [show stage v = 0 from hq]; rfl⟩
          | some y => rw [e] at hq; obtain ⟨tk₅, rfl⟩ := hq; exact ⟨tk₅, rfl⟩
        obtain ⟨tk₅, hg⟩ := hg tk'
        refine ((S₄.toks _).toks _).st (kd hsc rfl) fun t₅ S₅ X₅ _ => ?_
        refine wpAny_execs_nil ⟨rfl, _, _, _, S₅, (if_neg (by decide)).trans hr, if_pos rfl, (if_neg (by decide)).trans hv, ?_, ?_⟩
        · have : cvP v = [.i (stage v), .s v] := by unfold cvP; rw [if_neg (by rw [show Txt.contains signs v = false from hc]; exact Bool.false_ne_true), hn]
          rw [this]
          refine .cons ?_ (.cons (.s _ _) .nil)
          show ItmIs ((sf v).getD (.int 0 tk')) _
          rw [hg]; exact .i _ _
        · exact (((X₄.mono nofun).toks _).toks _).trans X₅
    · rintro f t₂ ⟨rfl, m₂, a, b, S₂, hr₂, ht₂, hv₂, hab, X₂⟩
      have hR₂ : Lst t₂.heap R vs := hR₁.ext X₂ (S₁.lstNe hR₁)
      refine C_cons (C_Expr (C_Call_method F.plainAttrs_list F.slot_list_extend F.type_list_extend (C_any (S₂.ld (kd hsc rfl) hr₂ ⟨hR₂.meth.1, hR₂.meth.2, ?_⟩))) (by unfold interactive; rw [S.k]; rfl))
      refine C_callBuiltin rfl rfl (C_evalArgs (C_items_cons (C_Tuple (C_items_cons (C_any (S₂.ld (kd hsc rfl) ht₂ (C_items_cons (C_any (S₂.ld (kd hsc rfl) hv₂ (C_items_nil ⟨(by rw [sizeLine_eq]; exact Nat.le_of_ble_eq_true rfl), C_items_nil ?_⟩))))))))))
      have T₂ := Tup.new t₂.heap [a, b]
      have hR₃ := hR₂.push { cls := .type "tuple", data := .seq #[a, b] }
      have S₃ := S₂.push { cls := .type "tuple", data := .seq #[a, b] } (tk := t₂.toks)
      refine C_any (extend_tuple hR₃ T₂ (by simp; omega) fun h₄ hR₄ hs₄ => ?_)
      refine C_nil (C_nil ⟨rfl, m₂, [a, b], S₃.same hs₄ (S₃.lst hR₃), hr₂, hR₄, hab, ?_⟩)
      have X₃ : Ext N (fun b => b = env.locals ∨ b = R) s { t₂ with heap := t₂.heap.push { cls := .type "tuple", data := .seq #[a, b] }, toks := t₂.toks } := (X₁.trans (X₂.mono fun _ q => .inl q)).push _
      exact X₃.same (.inr ⟨.inr rfl, let ⟨_, e⟩ := hR₄; ⟨_, e⟩⟩) hs₄
end
end Mine
end
section
open PySem PySem.Calls PySem.W PyProof.Rows
set_option Elab.async false
set_option maxRecDepth 100000
namespace Mine
theorem plainAttrs_re : PlainAttrs "re.Pattern" :=
  ⟨⟨"object.__getattribute__", by rw [typeLookup_type, builtinLookup_eq_fast]; kernel_rfl, by decide +kernel⟩, by rw [typeLookup_type, builtinLookup_eq_fast]; kernel_rfl⟩
section
variable {prog : Program} {w : World} {A : Around} {E : Value → Shared → Prop} {s : Shared} {mg mb : Str → Option Value} {N : Nat} {outer : List Env}
theorem StrsAre.get {vs : List Value} {xs : List Str} (h : StrsAre vs xs) : vs.length = xs.length ∧ ∀ (i : Nat) (x : Str), xs[i]? = some x → ∃ t : Tok, vs[i]? = some (Value.str x t) := by
  induction h with
  | nil => exact ⟨rfl, fun i x e => by simp at e⟩
  | cons h ih =>
    refine ⟨by simp [ih.1], fun i y e => ?_⟩
    cases i with
    | zero => simp at e; subst e; exact ⟨_, rfl⟩
    | succ i => exact ih.2 i y (by simpa using e)
theorem cv_call {x : Str} {tk : Tok} {Q : Value → Shared → Prop} (T : CvTop prog w mg mb s.heap) (hN : topN ≤ N) (hNs : N ≤ s.heap.objs.size) (hroom : A.depth < recursionLimit) (hh : A.handled = none)
    (F : Frs N s.heap outer) (hfr : A.frames = some outer) (hl : x.cps.size ≤ 640) (hp : ∀ v ∈ splitP x, PartOk v) (hpl : (splitP x).length ≤ 10000)
    (h : ∀ t a vs, Ext N (fun _ => False) s t → Lst t.heap a vs → ItmsAre vs (cv x) → s.heap.get? a = none → Q (.ref a) t) : wpC (model prog w) A (call (.ref aCv) [.str x tk]) Q E s := by
  obtain ⟨o, pm, doc, ho, hd, hcd⟩ := T.fn
  refine C_enter (binds := [("version", .str x tk)]) hroom F hNs ho hd rfl T.lim hcd (BindsTo.of_eq (by rfl)) (show ∀ y ∈ (scopeOf cvAt).names, y.2 ≠ .cell by decide) (locs rfl) fun env t₀ V S₀ X₀ => ?_
  have hA' : (A.deeper env).frames = some (env :: outer) := Around.frames_deeper hfr
  have hh' : (A.deeper env).handled = none := hh
  have hsc : env.scope = scopeOf cvAt := V.sc
  have hgl : env.globals = mainGlobals := V.gl
  have hbi : env.builtins = builtinsNs := V.bi
  have hlo : env.locals = s.heap.objs.size := V.lo
  have hWL : ∀ b, b = env.locals → topN ≤ b ∨ Tab b := fun b q => .inl (q ▸ Nat.le_trans hN S₀.low)
  clear V
  have T₀ := T.keep (Keep.of X₀ hN nofun)
  generalize A.deeper env = A' at hA' hh' ⊢
  have hv₀ : (fun y => List.lookup y [((Str.ofString "version"), Value.str x tk)].reverse) (Str.ofString "version") = some (.str x tk) := rfl
  generalize (fun y => List.lookup y [((Str.ofString "version"), Value.str x tk)].reverse) = m₀ at S₀ hv₀ ⊢
  refine C_cons (C_AssignName (C_any (gname S₀.k (kd hsc rfl) (hgl ▸ T₀.g) T₀.re (C_any (S₀.st (kd hsc rfl) fun t₁ S₁ X₁ _ => ?_)))))
  refine C_cons (C_AssignName (C_List (C_items_nil ⟨Nat.zero_le _, C_any ((S₁.push _).st (kd hsc rfl) fun t₂ S₂ X₂ _ => ?_)⟩)))
  have hRf : t₀.heap.get? t₁.heap.objs.size = none := X₁.fresh (Nat.le_refl _)
  have hR₂ : Lst t₂.heap t₁.heap.objs.size [] := (Lst.new t₁.heap []).ext X₂ (Nat.ne_of_gt S₁.ns.lt)
  have hr₂ : (fun y => if y = Str.ofString "result" then some (.ref t₁.heap.objs.size) else if y = Str.ofString "component_re" then some (Value.ref aRe) else m₀ y) (Str.ofString "result") = some (.ref t₁.heap.objs.size) := if_pos rfl
  have hc₂ : (fun y => if y = Str.ofString "result" then some (.ref t₁.heap.objs.size) else if y = Str.ofString "component_re" then some (Value.ref aRe) else m₀ y) (Str.ofString "component_re") = some (.ref aRe) := (if_neg (by decide)).trans (if_pos rfl)
  have hv₂ : (fun y => if y = Str.ofString "result" then some (.ref t₁.heap.objs.size) else if y = Str.ofString "component_re" then some (Value.ref aRe) else m₀ y) (Str.ofString "version") = some (.str x tk) := (if_neg (by decide)).trans ((if_neg (by decide)).trans hv₀)
  have X₀₂ : Ext N (· = env.locals) t₀ t₂ := (X₁.push _).trans X₂
  generalize (fun y => if y = Str.ofString "result" then some (.ref t₁.heap.objs.size) else if y = Str.ofString "component_re" then some (Value.ref aRe) else m₀ y) = m₂ at S₂ hr₂ hc₂ hv₂
  generalize t₁.heap.objs.size = R at hRf hR₂ hr₂
  clear X₂ X₁ S₁ hv₀
  have T₂ := T₀.keep (Keep.of X₀₂ hN hWL)
  obtain ⟨op, fs, hop, hcls, hdict, hfs, h6, h5, h2⟩ := T₂.pat
  obtain ⟨oc, its, nn, hoc, hocd, hcode⟩ := T₂.code
  refine C_cons (C_For (C_Call_method plainAttrs_re slot_re_split type_re_split (C_any (S₂.ld (kd hsc rfl) hc₂ ⟨⟨op, hop, hcls⟩, fun b q => by cases q; exact ⟨op, hop, hdict⟩, ?_⟩))))
  refine C_callBuiltin rfl rfl (C_evalArgs (C_items_cons (C_any (S₂.ld (kd hsc rfl) hv₂ (C_items_nil ?_)))))
  refine C_any (wpAny_call_entry slot_re_split (T := "re.Pattern") ⟨op, hop, hcls⟩ entry_re_split (split_body hop hfs h6 h5 h2 hoc hocd hcode (by omega) fun vs tk' hvs => ⟨_, rfl, ?_⟩) (args_re_split _ _))
  have hlf : t₀.heap.get? t₂.heap.objs.size = none := X₀₂.fresh (Nat.le_refl _)
  have hRl : R ≠ t₂.heap.objs.size := Nat.ne_of_lt hR₂.lt
  have S₃ := S₂.push { cls := .type "list", data := .seq vs.toArray } (tk := tk')
  have X₀₃ := X₀₂.push { cls := .type "list", data := .seq vs.toArray } (tk := tk')
  generalize hg : ({ t₂ with heap := t₂.heap.push { cls := .type "list", data := .seq vs.toArray }, toks := tk' } : Shared) = t₃ at S₃ X₀₃ ⊢
  have hl₃ : Lst t₃.heap t₂.heap.objs.size vs := by rw [← hg]; exact Lst.new t₂.heap vs
  have hR₃ : Lst t₃.heap R [] := by rw [← hg]; exact hR₂.push { cls := .type "list", data := .seq vs.toArray }
  generalize t₂.heap.objs.size = l at hlf hRl hl₃ ⊢
  clear hg
  refine C_any (wpAny_pyIter_list hl₃.isList ?_)
  have hif : t₀.heap.get? t₃.heap.objs.size = none := X₀₃.fresh (Nat.le_refl _)
  have S₄ := S₃.push { cls := .type "list_iterator", data := .fields #[.ref l, .int 0 0] } (tk := t₃.toks)
  have X₀₄ := X₀₃.push { cls := .type "list_iterator", data := .fields #[.ref l, .int 0 0] } (tk := t₃.toks)
  generalize hg : ({ t₃ with heap := t₃.heap.push { cls := .type "list_iterator", data := .fields #[.ref l, .int 0 0] } } : Shared) = t₄ at S₄ X₀₄ ⊢
  have hl₄ : Lst t₄.heap l vs := by rw [← hg]; exact hl₃.push _
  have hR₄ : Lst t₄.heap R [] := by rw [← hg]; exact hR₃.push _
  have hi₄ : t₄.heap.IsListIter t₃.heap.objs.size l 0 := by rw [← hg]; exact ⟨_, Heap.get?_push_size _ rfl, rfl, rfl⟩
  generalize t₃.heap.objs.size = it at hif hi₄ ⊢
  clear hg S₃ X₀₃ hl₃ hR₃ t₃
  obtain ⟨hlen, hget⟩ := hvs.get
  refine C_forLoop (fun n t => ∃ j m us, j + n = (splitP x).length ∧ Std N env outer t m ∧ m "result" = some (.ref R) ∧ Lst t.heap R us ∧ ItmsAre us (((splitP x).take j).flatMap cvP) ∧ us.length ≤ 2 * j ∧ Lst t.heap l vs ∧ t.heap.IsListIter it l j ∧ Ext N (· = env.locals) t₀ t)
    ?_ (splitP x).length ⟨0, m₂, [], by simp, S₄, hr₂, hR₄, by simpa using .nil, by simp, hl₄, hi₄, X₀₄⟩
  rintro n t ⟨j, m, us, hj, S, hr, hR, hus, hul, hl', hi, X⟩
  have itR : R ≠ it := fun q => by
    obtain ⟨_, e1⟩ := hR; obtain ⟨_, e2, _, e3⟩ := hi
    rw [q, e2] at e1; cases e1; cases e3
  have itl : l ≠ it := fun q => by
    obtain ⟨_, e1⟩ := hl'; obtain ⟨_, e2, _, e3⟩ := hi
    rw [q, e2] at e1; cases e1; cases e3
  have itF : it ∉ (env :: outer).filterMap (·.frame) := let ⟨_, e2, _, e3⟩ := hi; S.off e2 fun _ _ q => by rw [e3] at q; cases q
  cases hx : (splitP x)[j]? with
  | none =>
    have hj' : (splitP x).length ≤ j := List.getElem?_eq_none_iff.mp hx
    refine C_any (wpAny_pyNext_list_end hh' hi hl'.isList (by simp; omega) fun h' hb => ?_)
    have S' := S.but (tk := t.toks) hb itF
    have X' := X.but (tk := t.toks) (.inl hif) hb
    refine C_cons (C_Return (C_any (S'.ld (kd hsc rfl) hr ?_)))
    have ht : (splitP x).take j = splitP x := List.take_of_length_le hj'
    rw [ht] at hus
    exact h _ R us (X₀.trans' X' fun b q => .inl (by subst q; rw [hlo]; exact Heap.get?_none_of_le (Nat.le_refl _))) (hR.but hb itR) hus (X₀.fresh' hRf)
  | some v =>
    have hj' : j < (splitP x).length := (List.getElem?_eq_some_iff.mp hx).1
    obtain ⟨tv, hv⟩ := hget j v hx
    refine C_any (wpAny_pyNext_list_item hi hl'.isList (x := .str v tv) (by simpa using hv) fun h' hi' hs' => ?_)
    have S' := S.same (tk := t.toks) hs' itF
    have X' := X.same (tk := t.toks) (.inl hif) hs'
    have hR' := hR.same hs' itR
    have hl'' := hl'.same hs' itl
    generalize hg : ({ t with heap := h' } : Shared) = t' at S' X' ⊢
    have hR₁ : Lst t'.heap R us := by rw [← hg]; exact hR'
    have hl₁ : Lst t'.heap l vs := by rw [← hg]; exact hl''
    have hi₁ : t'.heap.IsListIter it l (j + 1) := by rw [← hg]; exact hi'
    clear hg hs' hi' hR' hl''
    refine C_pure ?_
    rw [arm_assign_Name]
    refine C_bind (C_standAt ?_)
    refine C_any (wpAny_bindName (S'.st (kd hsc rfl) fun t₅ S₅ X₅ _ => ?_))
    have T₅ := T₀.keep (Keep.of (X'.trans X₅) hN hWL)
    have hR₅ := hR₁.ext X₅ (S'.lstNe hR₁)
    have hl₅ := hl₁.ext X₅ (S'.lstNe hl₁)
    have hi₅ : t₅.heap.IsListIter it l (j + 1) := by
      obtain ⟨o, e1, e2, e3⟩ := hi₁
      exact ⟨o, X₅.plain _ _ (fun q => itF (q ▸ S.mem)) e1 (fun _ _ q => by rw [e3] at q; cases q), e2, e3⟩
    refine C_mono (cv_turn T₅ hN hA' hh' hsc hgl hbi S₅ (if_pos rfl) ((if_neg (by decide)).trans hr) hR₅ (by omega) (hp v (List.mem_of_getElem? hx))) (fun f t₆ h₆ => ?_) fun _ _ z => z
    obtain ⟨rfl, m₆, ws, S₆, hr₆, hR₆, hws, X₆⟩ := h₆
    have tk1 : (splitP x).take (j + 1) = (splitP x).take j ++ [v] := by
      rw [List.take_add_one, hx]; rfl
    refine ⟨n - 1, by omega, j + 1, m₆, us ++ ws, by omega, S₆, hr₆, hR₆, ?_, ?_, ?_, ?_, ?_⟩
    · rw [tk1, List.flatMap_append]
      exact hus.append (by simpa using hws)
    · have := hws.length
      have h2 : (cvP v).length ≤ 2 := by
        unfold cvP
        split
        · simp
        · split <;> simp
      simp; omega
    · exact hl₅.ext X₆ fun q => q.elim (S₅.lstNe hl₅) fun z => hRl z.symm
    · obtain ⟨o, e1, e2, e3⟩ := hi₅
      exact ⟨o, X₆.plain _ _ (fun q => q.elim (fun z => itF (z ▸ S.mem)) fun z => itR z.symm) e1 (fun _ _ q => by rw [e3] at q; cases q), e2, e3⟩
    · exact (X'.trans X₅).trans' X₆ fun b q => q.elim .inr fun z => .inl (z ▸ hRf)
end
end Mine
end
section
open PySem PySem.Calls PySem.W PyProof.Rows
set_option Elab.async false
set_option maxRecDepth 100000
namespace Mine
structure AccCls (mC : Str → Option Value) (h : Heap) : Prop where
  cls : ∃ oC cd, h.get? aAcc = some oC ∧ oC.data = .cls cd ∧ cd.mro = [.ref aAcc, .type "list", .type "object"] ∧ cd.ns = aAccNs
  qn : ∃ oC cd, h.get? aAcc = some oC ∧ oC.data = .cls cd ∧ cd.qualname = "_Accumulator" ∧ oC.cls = .type "type"
  dc : ∃ oC cd, h.get? aAcc = some oC ∧ oC.data = .cls cd ∧ cd.hasDict = true
  ns : h.Ns aAccNs mC
  ga : mC "__getattribute__" = none
  gat : mC "__getattr__" = none
structure Pil (h : Heap) (p d : Addr) (vs : List Value) (head : Value) : Prop where
  ob : ∃ n sl, h.get? p = some ⟨.ref aAcc, some d, .seq vs.toArray n, sl⟩
  ns : ∃ mI, h.Ns d mI ∧ mI "_initial_size" = some head ∧ ∀ x : Str, x ≠ "_initial_size" → mI x = none
section
variable {M : Model} {A : Around} {E : Value → Shared → Prop} {s : Shared} {mC : Str → Option Value} {p d : Addr} {vs : List Value} {head : Value}
theorem look_acc {n : Str} {r : Option Value} {Q : Option Value → Shared → Prop} (T : AccCls mC s.heap) (hl : typeLookup (.type "list") n = pure r) (hq : Q ((mC n).or r) s) : wpAny M A (typeLookup (.ref aAcc) n) Q E s := by
  obtain ⟨oC, cd, ho, hd, hm, hn⟩ := T.cls
  have hcd : ∀ {α : Type} {k : ClassData → Sem α} {Q' : α → Shared → Prop}, wpAny M A (k cd) Q' E s → wpAny M A (classData aAcc >>= k) Q' E s := fun h => by
    unfold classData
    refine wpAny_bind (wpAny_bind (wpAny_load ho ?_))
    rw [hd]; exact wpAny_pure h
  rw [typeLookup_eq]
  show wpAny M A ((classData aAcc >>= fun c => pure c.mro) >>= _) Q E s
  refine wpAny_bind (hcd (wpAny_pure ?_))
  rw [hm, lookupAlong_cons]
  show wpAny M A ((classData aAcc >>= fun c => nsGet c.ns n) >>= _) Q E s
  refine wpAny_bind (hcd ?_)
  rw [hn]
  refine wpAny_nsGet T.ns ?_
  have hrest : lookupAlong [.type "list", .type "object"] n = pure r := by
    rw [typeLookup_eq, F.mro_list] at hl; exact hl
  cases e : mC n with
  | some v => rw [e] at hq; exact wpAny_pure hq
  | none => rw [e] at hq; exact wpAny_of_eq hrest hq
theorem special_acc {n : Str} {r : Option Value} {Q : Option Value → Shared → Prop} (T : AccCls mC s.heap) (P : Pil s.heap p d vs head) (hl : typeLookup (.type "list") n = pure r) (hq : Q ((mC n).or r) s) : wpAny M A (specialOf (.ref p) n) Q E s := by
  obtain ⟨k, sl, e⟩ := P.ob
  unfold specialOf
  refine wpAny_bind ?_
  show wpAny M A (loadPart p (some headPart) >>= fun o => pure o.cls) _ E s
  exact wpAny_bind (wpAny_loadPart e (wpAny_pure (look_acc T hl hq)))
theorem isInst_acc {Q : Bool → Shared → Prop} (T : AccCls mC s.heap) (P : Pil s.heap p d vs head) (hq : Q true s) : wpAny M A (isInstance (.ref p) (.type "list")) Q E s := by
  obtain ⟨k, sl, e⟩ := P.ob
  obtain ⟨oC, cd, ho, hd, hm, hn⟩ := T.cls
  unfold isInstance
  refine wpAny_bind ?_
  show wpAny M A (loadPart p (some headPart) >>= fun o => pure o.cls) _ E s
  refine wpAny_bind (wpAny_loadPart e (wpAny_pure ?_))
  unfold isSubtype
  refine wpAny_bind ?_
  show wpAny M A (classData aAcc >>= fun c => pure c.mro) _ E s
  unfold classData
  refine wpAny_bind (wpAny_bind (wpAny_load ho ?_))
  rw [hd]
  refine wpAny_pure (wpAny_pure ?_)
  rw [hm]
  exact wpAny_pure hq
theorem method_acc {name : Str} {r f : Value} {pl : Sem Bool} {r₀ : Option Value} {Q : Value × List Value → Shared → Prop} (T : AccCls mC s.heap) (P : Pil s.heap p d vs head) (hl : typeLookup (.type "list") name = pure r₀) (hf : (mC name).or r₀ = some f)
    (ht : ∀ Q' : Value → Shared → Prop, Q' r s → wpAny M A (typeOf f) Q' E s) (hr : (r != .type "function" && r != .type "method_descriptor" && r != .type "wrapper_descriptor") = false) (hn : name ≠ "_initial_size")
    (h : Q (f, [.ref p]) s) : wpAny M A (getMethod (.ref p) name pl) Q E s := by
  obtain ⟨k, sl, e⟩ := P.ob
  obtain ⟨mI, hI, -, hI'⟩ := P.ns
  obtain ⟨g, hg, hcan⟩ := F.plainAttrs_list.ga
  unfold getMethod
  refine wpAny_bind (special_acc T P hg ?_)
  rw [T.ga]
  show wpAny M A (if (Manifest.canonical g != "object.__getattribute__") = true then _ else _) Q E s
  rw [hcan, if_neg Bool.false_ne_true]
  refine wpAny_bind (special_acc T P F.plainAttrs_list.noGetattr ?_)
  rw [T.gat]
  refine wpAny_bind (special_acc T P hl ?_)
  rw [hf]
  refine wpAny_bind (ht _ ?_)
  simp only [hr, Bool.false_eq_true, if_false]
  refine wpAny_bind (wpAny_loadPart e ?_)
  refine wpAny_bind (wpAny_nsGet hI ?_)
  rw [hI' name hn]
  exact wpAny_bind (wpAny_rule (wpAny_pure h))
end
section
variable {prog : Program} {w : World} {A : Around} {E : Value → Shared → Prop} {s : Shared} {mC : Str → Option Value} {p d : Addr} {vs : List Value} {head : Value}
theorem call_acc {id n : String} {b : Builtin} {rest : List Value} {Q : Value → Shared → Prop} (T : AccCls mC s.heap) (P : Pil s.heap p d vs head) (hsplit : splitId id = some ("list", n))
    (hkind : (Manifest.find? "list").bind (·.attrs.lookup n) = some .slot ∨ (Manifest.find? "list").bind (·.attrs.lookup n) = some .method) (hp : plainId id = true) (hb : entryFor table id = some b) (ha : argsOk id ⟨.ref p :: rest, []⟩)
    (hc : wpAny (model prog w) A.in1 (b ⟨.ref p :: rest, []⟩) (fun fin s' => ∃ v, fin = .done (.ret v) ∧ Q v s') E s) : wpAny (model prog w) A (call (.builtin id) (.ref p :: rest)) Q E s := by
  have hk : builtinKind id = (Manifest.find? "list").bind (·.attrs.lookup n) := by simp only [builtinKind, hsplit]
  refine wpAny_call (codeAny_call_builtin hp hb ?_)
  have hfin := wpAny_mono hc (Q' := fun fin s' => match fin with
      | .done f => (match (Except.ok f : Result) with | .ok (.ret v) => Q v s' | .ok _ => False | .error e => E e s')
      | .again c' => c'.quiet = true ∧ codeAny (model prog w) A c' (fun r s' => match r with | .ok (.ret v) => Q v s' | .ok _ => False | .error e => E e s') s')
    (fun fin s' h' => by obtain ⟨v, rfl, hv⟩ := h'; exact hv) fun _ _ h' => h'
  rcases hkind with h | h <;>
  · simp only [checkBuiltinCall, hk, h, hsplit]
    refine wpAny_bind (isInst_acc T P ?_)
    simp only [Bool.not_true, Bool.false_eq_true, if_false]
    cases hsig : Manifest.signature? id with
    | none => exact wpAny_pure hfin
    | some sig =>
      simp only [argsOk, hsig] at ha
      have h2 : Bind.checkArgs id sig ⟨.ref p :: rest, []⟩ = pure () := ha
      show wpAny _ A.in1 (Bind.checkArgs id sig ⟨.ref p :: rest, []⟩) _ _ s
      rw [h2]; exact wpAny_pure hfin
end
noncomputable def IsFn (h : Heap) (a code : Addr) (q : Str) (st : Option Stmt) (clo : List (Str × Addr)) (dfl : Value) : Prop :=
  ∃ o nm pm doc ct, h.get? a = some o ∧ o.cls = .type "function" ∧ o.data = .func { name := nm, qualname := q, params := parsOf st, body := .stmts (bodyOf st), scope := scopeOf st, globals := mainGlobals, closure := clo, defaults := dfl, kwdefaults := .none, doc := doc, pyModule := pm, annotations := none, code := .ref code, closureTuple := ct, builtins := builtinsNs } ∧ h.CodeRec (.ref code) q
theorem IsFn.keep {h h' : Heap} {a code : Addr} {q : Str} {st : Option Stmt} {clo : List (Str × Addr)} {dfl : Value} (x : IsFn h a code q st clo dfl) (K : Keep h h') (h1 : a < topN) (h2 : ¬ Tab a) (h3 : code < topN) (h4 : ¬ Tab code) : IsFn h' a code q st clo dfl :=
  let ⟨o, nm, pm, doc, ct, ho, r1, r2, hc⟩ := x; ⟨o, nm, pm, doc, ct, K _ _ h1 h2 ho, r1, r2, K.code hc h3 h4⟩
section
variable {prog : Program} {w : World} {A : Around} {E : Value → Shared → Prop} {s : Shared} {N : Nat} {outer : List Env}
structure Room (st : Option Stmt) (clo : List (Str × Addr)) (code L a : Addr) (env : Env) : Prop where
  sc : env.scope = scopeOf st
  gl : env.globals = mainGlobals
  bi : env.builtins = builtinsNs
  ce : env.cells = clo
  fn : env.func = some a
  lo : env.locals = L
  co : env.code = .ref code
  fr : env.frame = some L
theorem A_enter {a code : Addr} {q : Str} {st : Option Stmt} {clo : List (Str × Addr)} {dfl : Value} {vals : List Value} {binds : List (Str × Value)} {Q : Value → Shared → Prop}
    (hroom : A.depth < recursionLimit) (hF : Frs N s.heap outer) (hN : N ≤ s.heap.objs.size) (f : IsFn s.heap a code q st clo dfl) (hlim : s.heap.NoLimit)
    (hbind : ∀ fd : FuncData, fd.params = parsOf st → fd.defaults = dfl → fd.kwdefaults = .none → fd.scope = scopeOf st → BindsTo s fd ⟨vals, []⟩ binds)
    (hcell : ∀ x ∈ (scopeOf st).names, x.2 ≠ .cell) (hloc : ∀ x ∈ binds, (scopeOf st).names.lookup x.1 = some .local)
    (h : ∀ env t, Room st clo code s.heap.objs.size a env → env.qual = q ++ ".<locals>." → Std N env outer t (fun x => binds.reverse.lookup x) → Ext N (fun _ => False) s t → s.heap.objs.size < t.heap.objs.size →
      wpAny (model prog w) (A.deeper env) (execs (bodyOf st) env) (fun f s' => Q (match f with | .ret v => v | _ => .none) s') (fun _ _ => False) t)
    (hco : (scopeOf st).isCoroutine = false := by rfl) (hgen : (scopeOf st).isGenerator = false := by rfl) (hk : (scopeOf st).kind = .function := by rfl) : wpAny (model prog w) A (call (.ref a) vals) Q E s := by
  obtain ⟨o, nm, pm, doc, ct, ho, -, hd, hcd⟩ := f
  refine wpAny_call (codeAny_call_function hroom ho hd hco hgen rfl hcd (hbind _ rfl rfl rfl rfl _ _ _ _ ?_))
  refine wpAny_newFunctionEnv hcell hloc (fun h₀ hns hsb => ⟨hlim.fresh _ hsb, codeAny_func ?_⟩) hk
  have hkp : ∀ b o, s.heap.get? b = some o → h₀.get? b = some o := fun b o e => hsb.extBut b o (Nat.ne_of_lt (Heap.lt_size e)) (Heap.get?_push_of_some _ e)
  have X : Ext N (fun _ => False) s { s with heap := h₀, toks := s.toks + binds.length } := Ext.refl.keeps hkp
  have hno : s.heap.objs.size ∉ outer.filterMap (·.frame) := fun hm => by
    obtain ⟨_, o, ho, _⟩ := hF.1.mem hm
    exact Nat.lt_irrefl _ (Heap.lt_size ho)
  have F₁ := hF.ext X fun _ _ z => z
  refine wpAny_mono (h _ _ ⟨rfl, rfl, rfl, rfl, rfl, rfl, rfl, rfl⟩ rfl ⟨⟨Heap.FunFrames.cons (by show (scopeOf st).kind ≠ _; rw [hk]; intro q; cases q) rfl hns (by simp [Heap.get?]) F₁.1, fun b hb => ?_⟩, hns, rfl, hk, hno⟩ X hns.lt) (fun _ _ z => z) fun _ _ z => z.elim
  rw [List.filterMap_cons] at hb
  rcases List.mem_cons.mp hb with q | q
  · subst q
    obtain ⟨o', es, ep, ho', hd', -⟩ := hns
    exact ⟨hN, fun o ho => by rw [ho'] at ho; cases ho; exact ⟨es, ep, hd'⟩⟩
  · exact F₁.2 b q
end
end Mine
end
section
open PySem PySem.Calls PySem.W PyProof.Rows
set_option Elab.async false
set_option maxRecDepth 100000
namespace Mine
section
variable {M : Model} {A : Around} {E : Value → Shared → Prop} {s : Shared} {env : Env}
theorem A_items_nil {pos : Pos} {Q : List Value → Shared → Prop} (h : Q [] s) : wpAny M A (spliced (backTo pos (starEach [] env))) Q E s := wpAny_pure h
theorem A_items_cons {pos : Pos} {e : Expr} {rest : List Expr} {Q : List Value → Shared → Prop} (h : wpAny M A (eval e env) (fun v s₁ => wpAny M A (spliced (backTo pos (starEach rest env))) (fun vs s₂ => Q (v :: vs) s₂) E s₁) E s)
    (he : starEach (e :: rest) env = (false, eval e env) :: starEach rest env := by rfl) : wpAny M A (spliced (backTo pos (starEach (e :: rest) env))) Q E s := by
  rw [he]
  show wpAny M A (do
    let v ← eval e env
    let here ← (pure [v] : Sem (List Value))
    return here ++ (← holding here (spliced (backTo pos (starEach rest env))))) Q E s
  exact wpAny_bind (wpAny_mono h (fun v s₁ h₁ => wpAny_bind (wpAny_pure (wpAny_bind (wpAny_holding (wpAny_mono h₁ (fun vs s₂ h₂ => wpAny_pure h₂) fun _ _ e => e))))) fun _ _ e => e)
theorem A_Tuple {elts : List Expr} {k : Nat} {pos : Pos} {Q : Value → Shared → Prop} (h : wpAny M A (spliced (backTo pos (starEach elts env)))
      (fun vs s₁ => vs.length ≤ sizeLine ∧ Q (.ref s₁.heap.objs.size) { s₁ with heap := s₁.heap.push { cls := .type "tuple", data := .seq vs.toArray } }) E s) : wpAny M A (eval (.Tuple elts k pos) env) Q E s := by
  rw [arm_eval_Tuple]
  exact wpAny_bind (wpAny_standAt (wpAny_bind (wpAny_mono h (fun vs s₁ h₁ => wpAny_newObj_type h₁.2 (by show vs.toArray.size ≤ sizeLine; rw [List.size_toArray]; exact h₁.1)) fun _ _ e => e)))
theorem A_evalArgs {f : Value} {pos : Pos} {e : Expr} {rest : List Expr} {Q : Args → Shared → Prop} (h : wpAny M A (spliced (backTo pos (starEach (e :: rest) env))) (fun vs s' => Q ⟨vs, []⟩ s') E s)
    (he : starEach (e :: rest) env = (false, eval e env) :: starEach rest env := by rfl) : wpAny M A (evalArgs f true (backTo pos (starEach (e :: rest) env)) []) Q E s := by
  unfold evalArgs
  rw [he] at h ⊢
  show wpAny M A (spliced (backTo pos ((false, eval e env) :: starEach rest env)) >>= _) Q E s
  refine wpAny_bind (wpAny_mono h (fun vs s' h' => ?_) fun _ _ e => e)
  refine wpAny_holding ?_
  exact wpAny_bind (wpAny_pure (wpAny_bind (wpAny_pure (wpAny_pure h'))))
theorem A_callFn {pos : Pos} {a : Addr} {first : List Value} {args : List (Bool × Sem Value)} {Q : Value → Shared → Prop}
    (h : wpAny M A (evalArgs (.ref a) true args []) (fun x s₁ => (∃ o fd, s₁.heap.get? a = some o ∧ o.data = .func fd) ∧ wpAny M A (call (.ref a) (first ++ x.pos) x.kw) Q E s₁) E s) :
    wpAny M A (callWith pos (.ref a) first args []) Q E s := by
  unfold callWith
  refine wpAny_bind (wpAny_holding (wpAny_mono h (fun x s₁ h₁ => wpAny_bind (wpAny_standAt ?_)) fun _ _ e => e))
  obtain ⟨⟨o, fd, ho, hd⟩, hc⟩ := h₁
  have tail : ∀ {t : Sem Value}, wpAny M A t Q E s₁ → wpAny M A (t >>= fun r => holding [r] point >>= fun _ => pure r) Q E s₁ := fun ht => wpAny_bind (wpAny_mono ht (fun r s₂ hr => wpAny_bind (wpAny_holding (wpAny_point (wpAny_pure hr)))) fun _ _ e => e)
  have hk : ∀ {Q' : Keeper → Shared → Prop}, Q' .frame s₁ → wpAny M A (keeperOf (.ref a)) Q' E s₁ := fun hq => by
    unfold keeperOf
    refine wpAny_bind (wpAny_load ho ?_)
    rw [hd]; exact wpAny_pure hq
  refine wpAny_bind (hk ?_)
  cases hs : args.any (·.1) <;> simp only [List.any_nil, Bool.or_false]
  · split
    · exact tail hc
    · exact tail (by unfold callMarked; exact wpAny_keep hc)
  · exact tail (by unfold callMarked; exact wpAny_keep hc)
theorem A_Call_attr {o : Expr} {name : Str} {apos pos : Pos} {args : List Expr} {Q : Value → Shared → Prop}
    (h : wpAny M A (attributeBase o name env (eval o env)) (fun ov s₁ => ∃ f first, (∀ (pl : Sem Bool) (Q' : Value × List Value → Shared → Prop), Q' (f, first) s₁ → wpAny M A (getMethod ov name pl) Q' E s₁) ∧
      wpAny M A (callWith pos f first (backTo pos (starEach args env)) []) Q E s₁) E s)
    (hfew : ((backTo pos (starEach args env)).all (fun x => !x.1) && (backToKw pos (keywordEach [] env)).all (fun x => x.1.isSome)
      && decide (args.length + ([] : List Keyword).length + (if ([] : List Keyword).isEmpty then 0 else 1) < 30)) = true := by rfl)
    (hline : (apos.endLine == pos.line) = true := by rfl) :
    wpAny M A (eval (.Call (.Attribute o name apos) args [] pos) env) Q E s := by
  rw [arm_eval_Call]
  refine wpAny_bind (wpAny_mono h (fun ov s₁ h₁ => ?_) fun _ _ e => e)
  obtain ⟨f, first, hg, hc⟩ := h₁
  refine wpAny_bind (wpAny_standAt ?_)
  have hform : methodCallForm (args.length + ([] : List Keyword).length) (backTo pos (starEach args env)) (backToKw pos (keywordEach [] env)) = true := hfew
  have hpos : methodCallPos true o env apos pos = pure pos := by unfold methodCallPos; simp [hline]
  unfold methodCall
  rw [hform]
  refine wpAny_bind (wpAny_holding (hg _ _ ?_))
  exact wpAny_bind (wpAny_of_eq hpos hc)
end
theorem Pil.ext {N : Nat} {W : Addr → Prop} {s t : Shared} {p d : Addr} {vs : List Value} {head : Value} (P : Pil s.heap p d vs head) (X : Ext N W s t) (hp : ¬ W p) (hd : ¬ W d) : Pil t.heap p d vs head := by
  obtain ⟨⟨n, sl, e⟩, mI, hI, r⟩ := P
  exact ⟨⟨n, sl, X.plain _ _ hp e (fun _ _ q => by cases q)⟩, mI, X.ns hI hd, r⟩
theorem AccCls.keep {mC : Str → Option Value} {h h' : Heap} (T : AccCls mC h) (K : Keep h h') : AccCls mC h' := by
  obtain ⟨⟨oC, cd, h1, r⟩, ⟨oC', cd', h1', r'⟩, ⟨oD, cdD, h1D, rD⟩, hn, a, b⟩ := T
  exact ⟨⟨oC, cd, K _ _ (by decide) (by unfold Tab; decide) h1, r⟩, ⟨oC', cd', K _ _ (by decide) (by unfold Tab; decide) h1', r'⟩, ⟨oD, cdD, K _ _ (by decide) (by unfold Tab; decide) h1D, rD⟩, K.ns hn (by decide) (by unfold Tab; decide), a, b⟩
section
variable {prog : Program} {w : World} {A : Around} {E : Value → Shared → Prop} {s : Shared} {N : Nat} {outer : List Env} {mC : Str → Option Value} {p d : Addr} {vs : List Value} {head : Value}
theorem Pil.map {h : Heap} (P : Pil h p d vs head) (f : Array Value → Array Value) (ws : List Value) (hf : f vs.toArray = ws.toArray) : Pil (h.update p (Obj.mapSeq f)) p d ws head := by
  obtain ⟨⟨n, sl, e⟩, mI, hI, r⟩ := P
  have hpd : d ≠ p := fun q => by
    obtain ⟨o, _, _, h1, h2, _⟩ := hI
    rw [q, e] at h1; cases h1; cases h2
  have := Heap.get?_update_self (Obj.mapSeq f) e rfl
  simp only [Obj.mapSeq, hf] at this
  exact ⟨⟨_, sl, this⟩, mI, hI.sameBut (Heap.SameBut.update ..) hpd, r⟩
theorem append_acc {x : Value} {Q : Value → Shared → Prop} (T : AccCls mC s.heap) (P : Pil s.heap p d vs head) (hz : vs.length ≤ 100000)
    (h : ∀ h', Pil h' p d (vs ++ [x]) head → Heap.SameBut p s.heap h' → Q .none { s with heap := h' }) : wpAny (model prog w) A (call (.builtin "list.append") [.ref p, x]) Q E s := by
  obtain ⟨n, sl, e⟩ := P.ob
  refine call_acc (n := "append") T P (by decide +kernel) (.inr (by decide +kernel)) F.slot_list_append.plain F.entry_list_append (F.args_list_append_2 _ _) ?_
  show wpAny (model prog w) A.in1 (updateSeq p (·.push x) >>= fun _ => ret .none) _ _ s
  refine wpAny_bind (wpAny_updateSeq e rfl (wpAny_pure ⟨.none, rfl, h _ (P.map _ _ (by simp)) (Heap.SameBut.update ..)⟩) ?_)
  rw [sizeLine_eq]
  simp
  omega
end
end Mine
end
section
open PySem PySem.Calls PySem.W PyProof.Rows
set_option Elab.async false
set_option maxRecDepth 100000
namespace Mine
structure AccTop (mg mb mC : Str → Option Value) (h : Heap) : Prop where
  c : AccCls mC h
  g : h.Ns mainGlobals mg
  b : h.Ns builtinsNs mb
  lim : h.NoLimit
  cell : h.IsCell aClassCell (some (.ref aAcc))
  push : mC "push" = some (.ref aPush)
  pop : mC "pop" = some (.ref aPop)
  count : mC "part_count" = some (.ref aCount)
  len : mC "__len__" = some (.ref aLen)
  str : mC "__str__" = some (.ref aStr)
  app : mC "append" = none
  iter : mC "__iter__" = none
  empty : ∃ tk, mg "EMPTYSTRING" = some (.str "" tk)
  bmod : ∃ ob, mg "__builtins__" = some (.ref aBm) ∧ h.get? aBm = some ob ∧ ob.cls = .type "module" ∧ ob.dict = some builtinsNs ∧ ob.data = .plain
  nsum : mg "sum" = none
  bsum : mb "sum" = some (.builtin "sum")
  nlen : mg "len" = none
  blen : mb "len" = some (.builtin "len")
  inis : mC "_initial_size" = none
  sup : mg "super" = none
  bsup : mb "super" = some (.type "super")
  init : mC "__init__" = some (.ref aInit)
  setn : mC "__setattr__" = none
  finit : IsFn h aInit aInitCode "_Accumulator.__init__" accAt[0]? [("__class__", aClassCell)] (.ref aInitDfl)
  dfl : ∃ o its n, h.get? aInitDfl = some o ∧ o.data = .seq its n ∧ its.size = 1
  fpush : IsFn h aPush aPushCode "_Accumulator.push" accAt[1]? [] .none
  fpop : IsFn h aPop aPopCode "_Accumulator.pop" accAt[3]? [("__class__", aClassCell)] .none
  flen : IsFn h aLen aLenCode "_Accumulator.__len__" accAt[4]? [] .none
  fstr : IsFn h aStr aStrCode "_Accumulator.__str__" accAt[5]? [] .none
  fcount : IsFn h aCount aCountCode "_Accumulator.part_count" accAt[8]? [("__class__", aClassCell)] .none
theorem AccTop.keep {mg mb mC : Str → Option Value} {h h' : Heap} (T : AccTop mg mb mC h) (K : Keep h h') : AccTop mg mb mC h' where
  c := T.c.keep K
  g := K.ns T.g (by decide) (by unfold Tab; decide)
  b := K.ns T.b (by decide) (by unfold Tab; decide)
  lim := K.lim T.lim
  cell := let ⟨o, ho, r⟩ := T.cell; ⟨o, K _ _ (by decide) (by unfold Tab; decide) ho, r⟩
  push := T.push
  pop := T.pop
  count := T.count
  len := T.len
  str := T.str
  app := T.app
  iter := T.iter
  empty := T.empty
  bmod := let ⟨ob, h1, h2, r⟩ := T.bmod; ⟨ob, h1, K _ _ (by decide) (by unfold Tab; decide) h2, r⟩
  nsum := T.nsum
  bsum := T.bsum
  nlen := T.nlen
  blen := T.blen
  inis := T.inis
  sup := T.sup
  bsup := T.bsup
  init := T.init
  setn := T.setn
  finit := T.finit.keep K (by decide) (by unfold Tab; decide) (by decide) (by unfold Tab; decide)
  dfl := let ⟨o, its, n, ho, r⟩ := T.dfl; ⟨o, its, n, K _ _ (by decide) (by unfold Tab; decide) ho, r⟩
  fpush := T.fpush.keep K (by decide) (by unfold Tab; decide) (by decide) (by unfold Tab; decide)
  fpop := T.fpop.keep K (by decide) (by unfold Tab; decide) (by decide) (by unfold Tab; decide)
  flen := T.flen.keep K (by decide) (by unfold Tab; decide) (by decide) (by unfold Tab; decide)
  fstr := T.fstr.keep K (by decide) (by unfold Tab; decide) (by decide) (by unfold Tab; decide)
  fcount := T.fcount.keep K (by decide) (by unfold Tab; decide) (by decide) (by unfold Tab; decide)
section
variable {prog : Program} {w : World} {A : Around} {E : Value → Shared → Prop} {s : Shared} {N : Nat} {outer : List Env} {mg mb mC : Str → Option Value} {p d : Addr} {vs : List Value} {head : Value}
theorem quietEnv {env : Env} (h : env.scope.kind = .function) : interactive env = false := by unfold interactive; rw [h]; rfl
theorem IsFn.func {h : Heap} {a code : Addr} {q : Str} {st : Option Stmt} {clo : List (Str × Addr)} {dfl : Value} (x : IsFn h a code q st clo dfl) : ∃ o fd, h.get? a = some o ∧ o.data = .func fd := let ⟨o, _, _, _, _, ho, _, hd, _⟩ := x; ⟨o, _, ho, hd⟩
theorem IsFn.type {M : Model} {a code : Addr} {q : Str} {st : Option Stmt} {clo : List (Str × Addr)} {dfl : Value} (x : IsFn s.heap a code q st clo dfl) (Q' : Value → Shared → Prop) (hq : Q' (.type "function") s) : wpAny M A (typeOf (.ref a)) Q' E s := by
  obtain ⟨o, _, _, _, _, ho, hc, _⟩ := x
  show wpAny M A (loadPart a (some headPart) >>= fun o => pure o.cls) _ E s
  exact wpAny_bind (wpAny_loadPart ho (wpAny_pure (hc ▸ hq)))
theorem push_call {a b : Value} {Q : Value → Shared → Prop} (T : AccTop mg mb mC s.heap) (P : Pil s.heap p d vs head) (hN : topN ≤ N) (hNs : N ≤ s.heap.objs.size) (hroom : A.depth < recursionLimit) (hF : Frs N s.heap outer) (hz : vs.length ≤ 100000)
    (h : ∀ t u, Pil t.heap p d (vs ++ [.ref u]) head → Tup t.heap u [a, b] → s.heap.get? u = none → Ext N (· = p) s t → Q .none t) : wpAny (model prog w) A (call (.ref aPush) [.ref p, a, b]) Q E s := by
  refine A_enter (binds := [("self", .ref p), ("fws", a), ("string", b)]) hroom hF hNs T.fpush T.lim (fun fd h1 h2 h3 _ => BindsTo.of_eq ?_) (by decide) (locs rfl) fun env t₀ V _ S₀ X₀ _ => ?_
  · obtain ⟨nm, qn, pr, bd, sc, gl, cl, df, kw, dc, pm, an, co, ct, bi⟩ := fd
    simp only at h1 h2 h3
    subst h1 h2 h3
    rfl
  have hsc := V.sc
  have P₀ := P.ext X₀ id id
  have T₀ := T.keep (Keep.of X₀ hN nofun)
  refine wpAny_execs_cons (wpAny_Expr (A_Call_attr (S₀.ld (kd hsc rfl) (v := .ref p) rfl ⟨.builtin "list.append", [.ref p], fun pl Q' hq => method_acc T₀.c P₀ F.slot_list_append.lookup (by rw [T₀.app]; rfl) (fun Q'' h => wpAny_of_eq F.type_list_append h) rfl (by decide) hq, ?_⟩)) (quietEnv S₀.k))
  refine callWith_builtin rfl (A_evalArgs (A_items_cons (A_Tuple (A_items_cons (S₀.ld (kd hsc rfl) (v := a) rfl (A_items_cons (S₀.ld (kd hsc rfl) (v := b) rfl (A_items_nil ⟨(by rw [sizeLine_eq]; exact Nat.le_of_ble_eq_true rfl), A_items_nil ?_⟩))))))))
  have X₁ : Ext N (fun _ => False) s { t₀ with heap := t₀.heap.push { cls := .type "tuple", data := .seq #[a, b] }, toks := t₀.toks } := X₀.push _
  have P₁ := P.ext X₁ id id
  have T₁ := T.keep (Keep.of X₁ hN nofun)
  have hu : s.heap.get? t₀.heap.objs.size = none := X₀.fresh (Nat.le_refl _)
  have hup : t₀.heap.objs.size ≠ p := fun q => by obtain ⟨_, _, e⟩ := P.ob; rw [q, e] at hu; cases hu
  refine append_acc T₁.c P₁ hz fun h' P' hs' => ?_
  refine wpAny_execs_nil (h _ _ P' ((Tup.new t₀.heap [a, b]).same hs' hup) hu ?_)
  exact (X₁.mono nofun).same (.inr ⟨rfl, let ⟨_, _, e⟩ := P'.ob; ⟨_, e⟩⟩) hs'
end
end Mine
end
section
open PySem PySem.Calls PySem.W PyProof.Rows
set_option Elab.async false
set_option maxRecDepth 100000
namespace Mine
theorem slot_wd_get : Slot "wrapper_descriptor" "__get__" "wrapper_descriptor.__get__" :=
  .of (owner := "wrapper_descriptor") (n := "__get__") (by rw [typeLookup_type, builtinLookup_eq_fast]; kernel_rfl) (by decide +kernel) (by decide +kernel) (by decide +kernel)
    (by first | exact .inl (by decide +kernel) | exact .inr (by decide +kernel)) (by rw [isSubtype_type]; kernel_rfl)
theorem entry_wd_get : entryFor table "wrapper_descriptor.__get__" = some Builtin.«wrapper_descriptor.__get__» := entryFor_of_tree (by kernel_rfl)
theorem args_wd_get (a b c : Value) : argsOk "wrapper_descriptor.__get__" ⟨[a, b, c], []⟩ := by unfold argsOk; kernel_rfl
theorem slot_md_get : Slot "method_descriptor" "__get__" "method_descriptor.__get__" :=
  .of (owner := "method_descriptor") (n := "__get__") (by rw [typeLookup_type, builtinLookup_eq_fast]; kernel_rfl) (by decide +kernel) (by decide +kernel) (by decide +kernel)
    (by first | exact .inl (by decide +kernel) | exact .inr (by decide +kernel)) (by rw [isSubtype_type]; kernel_rfl)
theorem entry_md_get : entryFor table "method_descriptor.__get__" = some Builtin.«method_descriptor.__get__» := entryFor_of_tree (by kernel_rfl)
theorem args_md_get (a b c : Value) : argsOk "method_descriptor.__get__" ⟨[a, b, c], []⟩ := by unfold argsOk; kernel_rfl
noncomputable def NoThird (h : Heap) : Prop := ∃ mc, h.Ns cStatics mc ∧ mc "thirdparty.any" = none
section
variable {prog : Program} {w : World} {A : Around} {E : Value → Shared → Prop} {s : Shared} {mC : Str → Option Value} {p d : Addr} {vs : List Value} {head : Value}
theorem not_opaque {a b : String} {C : Addr} {Q : Unit → Shared → Prop} {M : Model} (h : NoThird s.heap) (hq : Q () s) : wpAny M A (notOfAnOpaqueClass a b (.ref C)) Q E s := by
  obtain ⟨mc, hn, he⟩ := h
  unfold notOfAnOpaqueClass opaqueClassAbove anyOpaqueLoaded
  refine wpAny_bind ?_
  show wpAny M A ((nsGet cStatics _ >>= fun r => pure r.isSome) >>= _) _ E s
  refine wpAny_bind (wpAny_bind (wpAny_nsGet hn ?_))
  rw [he]
  exact wpAny_pure (wpAny_pure (wpAny_pure hq))
theorem bind_len {Q : Value → Shared → Prop} (T : AccCls mC s.heap) (P : Pil s.heap p d vs head)
    (h : Q (.ref s.heap.objs.size) { s with heap := s.heap.push { cls := .type "method-wrapper", data := .fields #[.builtin "list.__len__", .ref p] } }) : wpAny (model prog w) A (call (.builtin "wrapper_descriptor.__get__") [.builtin "list.__len__", .ref p, .ref aAcc]) Q E s := by
  refine wpAny_call_entry slot_wd_get (T := "wrapper_descriptor") (show typeOf _ = _ by show builtinType _ = _; rw [builtinType_eq_fast]; kernel_rfl) entry_wd_get ?_ (args_wd_get _ _ _)
  unfold Builtin.«wrapper_descriptor.__get__»
  refine wpAny_bind (wpAny_of_eq (a := (.builtin "list.__len__", some (.ref p), some (.ref aAcc))) (by rfl) ?_)
  refine wpAny_bind (wpAny_bind (wpAny_of_eq (a := ((Str.ofString "__len__"), Value.type "list")) (by kernel_rfl) ?_))
  refine wpAny_bind (isInst_acc T P ?_)
  refine wpAny_pure ?_
  exact wpAny_bind (wpAny_newObj_type (wpAny_pure ⟨_, rfl, h⟩) (by size_fits))
theorem bind_pop {Q : Value → Shared → Prop} (T : AccCls mC s.heap) (P : Pil s.heap p d vs head)
    (h : Q (.ref s.heap.objs.size) { s with heap := s.heap.push { cls := .type "builtin_function_or_method", data := .fields #[.builtin "list.pop", .ref p] } }) : wpAny (model prog w) A (call (.builtin "method_descriptor.__get__") [.builtin "list.pop", .ref p, .ref aAcc]) Q E s := by
  refine wpAny_call_entry slot_md_get (T := "method_descriptor") (show typeOf _ = _ by show builtinType _ = _; rw [builtinType_eq_fast]; kernel_rfl) entry_md_get ?_ (args_md_get _ _ _)
  unfold Builtin.«method_descriptor.__get__»
  refine wpAny_bind (wpAny_of_eq (a := (.builtin "list.pop", some (.ref p), some (.ref aAcc))) (by rfl) ?_)
  have hc : Manifest.toldItsClass.contains "list.pop" = false := by decide +kernel
  simp only [hc, Bool.false_eq_true, if_false]
  refine wpAny_bind (wpAny_bind (wpAny_of_eq (a := ((Str.ofString "pop"), Value.type "list")) (by kernel_rfl) ?_))
  refine wpAny_bind (isInst_acc T P ?_)
  refine wpAny_pure ?_
  exact wpAny_bind (wpAny_newObj_type (wpAny_pure ⟨_, rfl, h⟩) (by size_fits))
theorem super_ga {so : Addr} {name : Str} {id gid bt : String} {tk : Tok} {Q : PySem.Fin → Shared → Prop} (T : AccCls mC s.heap) (P : Pil s.heap p d vs head) (h3 : NoThird s.heap)
    (hso : s.heap.get? so = some { cls := .type "super", dict := none, data := .fields #[.ref aAcc, .ref p, .ref aAcc], slots := #[] }) (hn : (name == ("__class__" : Str)) = false)
    (hown : classOwn (.type "list") name = pure (some (.builtin id))) (ht : typeOf (.builtin id) = pure (.type bt)) (hg : typeLookup (.type bt) "__get__" = pure (some (.builtin gid)))
    (hb : wpAny (model prog w) A (call (.builtin gid) [.builtin id, .ref p, .ref aAcc]) (fun v s' => Q (.done (.ret v)) s') E s) :
    wpAny (model prog w) A (Builtin.«super.__getattribute__» ⟨[.ref so, .str name tk], []⟩) Q E s := by
  have hpa : p ≠ aAcc := fun q => by
    obtain ⟨_, _, e⟩ := P.ob
    obtain ⟨_, _, e1, e2, _⟩ := T.cls
    rw [q, e1] at e; cases e; cases e2
  have hne : (Value.ref p == Value.ref aAcc) = false := by simp [hpa]
  obtain ⟨oC, cd, ho, hd, hm, hns⟩ := T.cls
  unfold Builtin.«super.__getattribute__»
  refine wpAny_bind (wpAny_of_eq (a := some name) (by rfl) ?_)
  refine wpAny_bind (wpAny_of_eq (a := some name) (by rfl) ?_)
  refine wpAny_bind (wpAny_field hso rfl (x := .ref aAcc) rfl ?_)
  refine wpAny_bind (wpAny_field hso rfl (x := .ref p) rfl ?_)
  refine wpAny_bind (wpAny_field hso rfl (x := .ref aAcc) rfl ?_)
  simp only [hn, Bool.or_false]
  rw [if_neg (show ¬ ((Value.ref aAcc == Value.none) = true) from Bool.false_ne_true)]
  refine wpAny_bind (not_opaque h3 ?_)
  rw [if_neg (show ¬ ((Value.ref aAcc == Value.type "module") = true) from Bool.false_ne_true)]
  refine wpAny_bind ?_
  show wpAny (model prog w) A (classData aAcc >>= fun c => pure c.mro) _ E s
  unfold classData
  refine wpAny_bind (wpAny_bind (wpAny_load ho ?_))
  rw [hd]
  refine wpAny_pure (wpAny_pure ?_)
  rw [hm, show List.drop 1 (List.dropWhile (fun x => x != Value.ref aAcc) [.ref aAcc, .type "list", .type "object"]) = [.type "list", .type "object"] from by rfl, List.forIn_cons]
  refine wpAny_bind (wpAny_bind (wpAny_bind (wpAny_of_eq hown ?_)))
  refine wpAny_bind (wpAny_of_eq ht (wpAny_bind (wpAny_of_eq hg ?_)))
  dsimp only
  rw [hne, if_neg Bool.false_ne_true]
  refine wpAny_bind (wpAny_holding (wpAny_mono hb (fun v s' h' => ?_) fun _ _ e => e))
  exact wpAny_bind (wpAny_pure (wpAny_pure (wpAny_pure (wpAny_pure h'))))
theorem super_method {so : Addr} {name : Str} {id gid bt kt : String} {pl : Sem Bool} {Q : Value × List Value → Shared → Prop} (T : AccCls mC s.heap) (P : Pil s.heap p d vs head) (h3 : NoThird s.heap)
    (hso : s.heap.get? so = some { cls := .type "super", dict := none, data := .fields #[.ref aAcc, .ref p, .ref aAcc], slots := #[] }) (hn : (name == ("__class__" : Str)) = false)
    (hown : classOwn (.type "list") name = pure (some (.builtin id))) (ht : typeOf (.builtin id) = pure (.type bt)) (hg : typeLookup (.type bt) "__get__" = pure (some (.builtin gid)))
    (hb : ∀ (A' : Around) (s' : Shared) (Q' : Value → Shared → Prop), s'.heap = s.heap → Q' (.ref s'.heap.objs.size) { s' with heap := s'.heap.push { cls := .type kt, data := .fields #[.builtin id, .ref p] } } → wpAny (model prog w) A' (call (.builtin gid) [.builtin id, .ref p, .ref aAcc]) Q' (fun _ _ => False) s')
    (h : Q (.ref s.heap.objs.size, []) { s with heap := s.heap.push { cls := .type kt, data := .fields #[.builtin id, .ref p] }, toks := s.toks + 1 }) : wpAny (model prog w) A (getMethod (.ref so) name pl) Q E s := by
  have hlk := PySem.F.ks_slot_super_ga.lookup
  have hcan := PySem.F.ks_canon_super_ga
  have hT : ∀ tk, ({ s with toks := tk } : Shared).TypeIs (.ref so) "super" := fun _ => ⟨_, hso, rfl⟩
  unfold getMethod
  refine wpAny_bind (wpAny_specialOf (hT s.toks) hlk ?_)
  show wpAny _ _ (if (Manifest.canonical "super.__getattribute__" != "object.__getattribute__") = true then _ else _) _ _ _
  rw [if_pos hcan]
  unfold getAttr getAttrBy
  refine wpAny_bind (wpAny_bind (wpAny_mkText (wpAny_holding (wpAny_bind (wpAny_typeOf (hT _) (wpAny_bind (wpAny_of_eq hlk ?_)))))))
  show wpAny _ _ (getAttrByItsOwn (.ref so) (.str name s.toks) (.type "super") (.builtin "super.__getattribute__") true false) _ _ _
  unfold getAttrByItsOwn hookBefore callGetattribute boundAndCalled
  refine wpAny_bind (wpAny_of_eq (show (if onTheHeap (.type "super") then typeLookup (.type "super") "__getattr__" else pure none) = pure none from rfl) ?_)
  refine wpAny_bind (wpAny_attempt (wpAny_holding ?_))
  show wpAny _ _ (bindSpecial (.builtin "super.__getattribute__") (.ref so) >>= _) _ _ _
  refine wpAny_bind (wpAny_of_eq (PySem.F.ks_slot_super_ga.bind _) ?_)
  refine wpAny_mono (Q := fun v s' => v = .ref s.heap.objs.size ∧ s' = { s with heap := s.heap.push { cls := .type kt, data := .fields #[.builtin id, .ref p] }, toks := s.toks + 1 }) (E := fun _ _ => False)
    (wpAny_call_entry PySem.F.ks_slot_super_ga (hT _) PySem.F.ks_entry_super_ga (super_ga (s := { s with toks := s.toks + 1 }) T P h3 hso hn hown ht hg (hb _ _ _ rfl ⟨_, rfl, rfl, rfl⟩)) (PySem.F.ks_gaArgs_super _ _)) (fun v s' hv => ?_) fun _ _ z => z.elim
  obtain ⟨rfl, rfl⟩ := hv
  exact wpAny_pure (wpAny_pure h)
theorem looks_isSub {M : Model} {h : Heap} {x : Value} (T : AccCls mC h) (hx : [Value.ref aAcc, .type "list", .type "object"].contains x = true) : Looks M h (isSubtype (.ref aAcc) x) true := fun A Q E s k q => by
  obtain ⟨oC, cd, ho, hd, hm, hn⟩ := T.cls
  unfold isSubtype
  refine wpAny_bind ?_
  show wpAny M A (classData aAcc >>= fun c => pure c.mro) _ E s
  unfold classData
  refine wpAny_bind (wpAny_bind (wpAny_load (k _ _ ho) ?_))
  rw [hd]
  refine wpAny_pure (wpAny_pure ?_)
  rw [hm]
  show wpAny M A (pure ([Value.ref aAcc, .type "list", .type "object"].contains x)) Q E s
  rw [hx]
  exact wpAny_pure q
end
end Mine
end
section
open PySem PySem.Calls PySem.W PyProof.Rows
set_option Elab.async false
set_option maxRecDepth 100000
namespace Mine
noncomputable def FileOk (prog : Program) (h : Heap) (code : Addr) : Prop := (∃ oc vs tf, h.get? code = some oc ∧ oc.data = .fields vs ∧ vs[2]? = some (.str prog.main.file tf)) ∧ (prog.main.scope.names.lookup ("super" : Str)).isSome = false
theorem FileOk.keep {prog : Program} {h h' : Heap} {c : Addr} (x : FileOk prog h c) (K : Keep h h') (h1 : c < topN) (h2 : ¬ Tab c) : FileOk prog h' c := let ⟨⟨oc, vs, tf, e, r⟩, q⟩ := x; ⟨⟨oc, vs, tf, K _ _ h1 h2 e, r⟩, q⟩
theorem NoThird.keep {h h' : Heap} (x : NoThird h) (K : Keep h h') : NoThird h' := let ⟨mc, hn, r⟩ := x; ⟨mc, K.ns hn (by decide) (by unfold Tab; decide), r⟩
section
variable {prog : Program} {w : World} {A : Around} {E : Value → Shared → Prop} {s : Shared} {N : Nat} {outer : List Env} {mg mb mC : Str → Option Value} {p d : Addr} {vs : List Value} {head : Value}
theorem A_enterAt {a code : Addr} {q : Str} {st : Option Stmt} {clo : List (Str × Addr)} {dfl : Value} {vals : List Value} {binds : List (Str × Value)} {Q : Value → Shared → Prop}
    (hroom : A.depth < recursionLimit) (hF : Frs N s.heap outer) (hN : N ≤ s.heap.objs.size) (f : IsFn s.heap a code q st clo dfl) (hlim : s.heap.NoLimit)
    (hbind : ∀ fd : FuncData, fd.params = parsOf st → fd.defaults = dfl → fd.kwdefaults = .none → fd.scope = scopeOf st → BindsTo s fd ⟨vals, []⟩ binds)
    (hcell : ∀ x ∈ (scopeOf st).names, x.2 ≠ .cell) (hloc : ∀ x ∈ binds, (scopeOf st).names.lookup x.1 = some .local)
    (h : ∀ env t, Room st clo code s.heap.objs.size a env → env.qual = q ++ ".<locals>." → Std N env outer t (fun x => binds.reverse.lookup x) → Ext N (fun _ => False) s t → s.heap.objs.size < t.heap.objs.size →
      PySem.wpAt (model prog w) (A.deeper env) (.func (bodyOf st) env) (execs (bodyOf st) env) (fun f s' => Q (match f with | .ret v => v | _ => .none) s') (fun _ _ => False) t)
    (hco : (scopeOf st).isCoroutine = false := by rfl) (hgen : (scopeOf st).isGenerator = false := by rfl) (hk : (scopeOf st).kind = .function := by rfl) : wpAny (model prog w) A (call (.ref a) vals) Q E s := by
  obtain ⟨o, nm, pm, doc, ct, ho, -, hd, hcd⟩ := f
  refine wpAny_call (codeAny_call_function hroom ho hd hco hgen rfl hcd (hbind _ rfl rfl rfl rfl _ _ _ _ ?_))
  refine wpAny_newFunctionEnv hcell hloc (fun h₀ hns hsb => ⟨hlim.fresh _ hsb, ks_codeAny_funcAt ?_⟩) hk
  have hkp : ∀ b o, s.heap.get? b = some o → h₀.get? b = some o := fun b o e => hsb.extBut b o (Nat.ne_of_lt (Heap.lt_size e)) (Heap.get?_push_of_some _ e)
  have X : Ext N (fun _ => False) s { s with heap := h₀, toks := s.toks + binds.length } := Ext.refl.keeps hkp
  have hno : s.heap.objs.size ∉ outer.filterMap (·.frame) := fun hm => by
    obtain ⟨_, o, ho, _⟩ := hF.1.mem hm
    exact Nat.lt_irrefl _ (Heap.lt_size ho)
  have F₁ := hF.ext X fun _ _ z => z
  refine ks_wpAt_mono (h (newEnv (scopeOf st) s.heap.objs.size mainGlobals clo (q ++ ".<locals>.") (some a) (.ref code) none builtinsNs) _ ⟨rfl, rfl, rfl, rfl, rfl, rfl, rfl, rfl⟩ rfl ⟨⟨Heap.FunFrames.cons (by show (scopeOf st).kind ≠ _; rw [hk]; intro q; cases q) rfl hns (by simp [Heap.get?]) F₁.1, fun b hb => ?_⟩, hns, rfl, hk, hno⟩ X hns.lt) (fun _ _ z => z) fun _ _ z => z.elim
  rw [List.filterMap_cons] at hb
  rcases List.mem_cons.mp hb with q | q
  · subst q
    obtain ⟨o', es, ep, ho', hd', -⟩ := hns
    exact ⟨hN, fun o ho => by rw [ho'] at ho; cases ho; exact ⟨es, ep, hd'⟩⟩
  · exact F₁.2 b q
theorem loadName_builtin {M : Model} {env : Env} {x : Str} {v : Value} {Q : Value → Shared → Prop} (hk : env.scope.kind = .function) (hx : env.kindOf x = some .globalImplicit) (hg : s.heap.Ns env.globals mg) (hm : mg x = none) (hb : s.heap.Ns env.builtins mb) (hv : mb x = some v) (h : Q v s) : wpAny M A (loadName env x) Q E s := by
  unfold loadName
  simp only [Env.blockKind, hk, hx, ScopeKind.isAnnotationScope, Bool.false_and, Bool.false_eq_true, if_false]
  exact loadGlobal_builtin hg hm hb hv h
theorem super_here {env : Env} {m : Str → Option Value} {st : Option Stmt} {body : List Stmt} {a code L : Addr} {q : Str} {dfl : Value} {ar : Arg} {p0 p1 : Pos} {attr : Str} {whole : Sem Value} {Q : Value → Shared → Prop} (T : AccTop mg mb mC s.heap) (P : Pil s.heap p d vs head)
    (hf : FileOk prog s.heap code) (f : IsFn s.heap a code q st [("__class__", aClassCell)] dfl) (V : Room st [("__class__", aClassCell)] code L a env) (S : Std N env outer s m)
    (hks : (scopeOf st).names.lookup (Str.ofString "super") = some .globalImplicit) (hkc : (scopeOf st).names.lookup (Str.ofString "__class__") = some .free) (hat : (attr == ("__class__" : Str)) = false) (hp : ((parsOf st).posonlyargs ++ (parsOf st).args).head? = some ar)
    (hl : (scopeOf st).names.lookup ar.arg = some .local) (hv : m ar.arg = some (.ref p))
    (h : ∀ t so, t.heap.get? so = some { cls := .type "super", dict := none, data := .fields #[.ref aAcc, .ref p, .ref aAcc], slots := #[] } → Ext N (fun _ => False) s t → Q (.ref so) t) :
    PySem.wpAt (model prog w) A (.func body env) (attributeBase (.Call (.Name "super" p0) [] [] p1) attr env whole) Q E s := by
  obtain ⟨⟨oc, cvs, tf, hoc, hcd, h2⟩, htop⟩ := hf
  obtain ⟨o, nm, pm, doc, ct, ho, -, hd, -⟩ := f
  refine ks_wpAt_super_base (kd V.sc hks) (kd V.sc hkc) hat V.fn ho hd hp V.co hoc hcd h2 (by simp) htop ?_
  refine loadName_builtin S.k (kd V.sc hks) (V.gl ▸ T.g) T.sup (V.bi ▸ T.b) T.bsup ⟨rfl, ?_⟩
  refine wpAny_loadName_free S.k (kd V.sc hkc) (c := aClassCell) (by rw [V.ce]; rfl) T.cell ?_
  refine wpAny_loadName_local S.k (kd V.sc hl) S.ns hv ?_
  obtain ⟨oC, cd, h1, h2', -⟩ := T.c.cls
  obtain ⟨n, sl, e⟩ := P.ob
  obtain ⟨hp', g, dr, tk, os⟩ := s
  refine ks_wpAny_isType_cls h1 h2' ⟨rfl, ?_⟩
  refine ks_wpAny_call_super h1 h2' e rfl (fun c q => by cases q) (looks_isSub T.c (by decide)) fun h' hso hk => ?_
  exact h _ _ hso (Ext.refl.keeps (tk := tk) hk)
end
end Mine
end
section
open PySem PySem.Calls PySem.W PyProof.Rows
set_option Elab.async false
set_option maxRecDepth 100000
namespace Mine
theorem checkArgs_len (v : Value) : checkBoundCall "list.__len__" ⟨[v], []⟩ = pure () := by kernel_rfl
section
variable {prog : Program} {w : World} {A : Around} {E : Value → Shared → Prop} {s : Shared} {N : Nat} {outer : List Env} {mg mb mC : Str → Option Value} {p d : Addr} {vs : List Value} {head : Value} {env : Env}
theorem A_callBound {pos : Pos} {b : Addr} {id kt : String} {B : Builtin} {x : Value} {Q : Value → Shared → Prop} (hb : s.heap.get? b = some { cls := .type kt, data := .fields #[.builtin id, x] }) (hkt : kt = "method-wrapper" ∨ kt = "builtin_function_or_method")
    (hp : plainId id = true) (hB : entryFor table id = some B) (hc : ∀ (A' : Around) (E' : Value → Shared → Prop) (Q' : Unit → Shared → Prop), Q' () s → wpAny (model prog w) A' (checkBoundCall id ⟨[x], []⟩) Q' E' s)
    (h : wpAny (model prog w) A.in1 (B ⟨[x], []⟩) (fun fin s' => ∃ v, fin = .done (.ret v) ∧ Q v s') E s) : wpAny (model prog w) A (callWith pos (.ref b) [] (backTo pos (starEach [] env)) []) Q E s := by
  unfold callWith
  refine wpAny_bind (wpAny_holding (PySem.evalArgs_none (wpAny_bind (wpAny_standAt ?_))))
  have hk : ∀ {Q' : Keeper → Shared → Prop}, Q' .machine s → wpAny (model prog w) A (keeperOf (.ref b)) Q' E s := fun hq => by
    unfold keeperOf
    refine wpAny_bind (wpAny_load hb ?_)
    rcases hkt with rfl | rfl <;> exact wpAny_pure hq
  refine wpAny_bind (hk ?_)
  show wpAny (model prog w) A (call (.ref b) [] [] >>= fun r => holding [r] point >>= fun _ => pure r) Q E s
  refine wpAny_bind (wpAny_call (codeAny_of_tree ?_))
  show wpAny _ A.in1 (callAny (.ref b) ⟨[], []⟩) _ _ s
  unfold callAny
  refine wpAny_bind (wpAny_load hb ?_)
  have go : wpAny (model prog w) A.in1 (checkBoundCall id ⟨[x], []⟩ >>= fun _ => again (.builtin id ⟨[x], []⟩))
      (fun fin s' => match fin with
        | .done f => (match (Except.ok f : Result) with | .ok (.ret v) => wpAny (model prog w) A (holding [v] point >>= fun _ => pure v) Q E s' | .ok _ => False | .error e => E e s')
        | .again c' => c'.quiet = true ∧ codeAny (model prog w) A c' (fun r s' => match r with | .ok (.ret v) => wpAny (model prog w) A (holding [v] point >>= fun _ => pure v) Q E s' | .ok _ => False | .error e => E e s') s') (fun e s' => E e s') s := by
    refine wpAny_bind (hc _ _ _ (wpAny_pure ⟨plainId_quiet hp _, codeAny_builtin hB ?_⟩))
    rw [Around.under_plainId hp]
    refine wpAny_mono h (fun fin s' h' => ?_) fun _ _ e => e
    obtain ⟨v, rfl, hv⟩ := h'
    exact wpAny_bind (wpAny_holding (wpAny_point (wpAny_pure hv)))
  rcases hkt with rfl | rfl <;> exact go
theorem len_acc_body {A' : Around} {Q : PySem.Fin → Shared → Prop} (P : Pil s.heap p d vs head) (h : Q (.done (.ret (.int vs.length s.toks))) { s with toks := s.toks + 1 }) : wpAny (model prog w) A' (Builtin.«list.__len__» ⟨[.ref p], []⟩) Q E s := by
  obtain ⟨n, sl, e⟩ := P.ob
  unfold Builtin.«list.__len__»
  refine wpAny_bind (wpAny_of_eq (a := (.ref p, [])) (by rfl) ?_)
  refine wpAny_bind ?_
  unfold seqSize
  refine wpAny_bind (wpAny_loadPart e (wpAny_pure ?_))
  show wpAny (model prog w) A' (mkInt (vs.toArray.size : Nat) >>= fun v => ret v) Q E s
  rw [List.size_toArray]
  exact wpAny_bind (wpAny_mkInt (wpAny_pure h))
theorem own_len : classOwn (.type "list") "__len__" = pure (some (.builtin "list.__len__")) := by kernel_rfl
theorem own_pop : classOwn (.type "list") "pop" = pure (some (.builtin "list.pop")) := by kernel_rfl
theorem type_len : typeOf (.builtin "list.__len__") = pure (.type "wrapper_descriptor") := by show builtinType _ = _; rw [builtinType_eq_fast]; kernel_rfl
theorem count_call {Q : Value → Shared → Prop} (T : AccTop mg mb mC s.heap) (P : Pil s.heap p d vs head) (hf : FileOk prog s.heap aCountCode) (h3 : NoThird s.heap) (hN : topN ≤ N) (hNs : N ≤ s.heap.objs.size) (hroom : A.depth < recursionLimit) (hF : Frs N s.heap outer)
    (h : ∀ t tk, Ext N (fun _ => False) s t → Q (.int vs.length tk) t) : wpAny (model prog w) A (call (.ref aCount) [.ref p]) Q E s := by
  refine A_enterAt (binds := [("self", .ref p)]) hroom hF hNs T.fcount T.lim (fun fd h1 h2 h3 _ => BindsTo.of_eq ?_) (by decide) (locs rfl) fun env t₀ V _ S₀ X₀ _ => ?_
  · obtain ⟨nm, qn, pr, bd, sc, gl, cl, df, kw, dc, pm, an, co, ct, bi⟩ := fd
    simp only at h1 h2 h3
    subst h1 h2 h3
    rfl
  have K₀ := Keep.of X₀ hN nofun
  have P₀ := P.ext X₀ id id
  have T₀ := T.keep K₀
  refine ks_wpAt_execs_cons (ks_wpAt_Return_some (ks_wpAt_MethodCall (super_here T₀ P₀ (hf.keep K₀ (by decide) (by unfold Tab; decide)) T₀.fcount V S₀ rfl rfl (by decide) rfl rfl rfl fun t₁ so hso X₁ => ?_)))
  have X₁' := X₀.trans X₁
  have K₁ := Keep.of X₁' hN nofun
  have P₁ := P.ext X₁' id id
  have T₁ := T.keep K₁
  refine super_method (id := "list.__len__") (kt := "method-wrapper") T₁.c P₁ (h3.keep K₁) hso (by decide) own_len type_len slot_wd_get.lookup (fun A' s' Q' e hq => ?_) ?_
  · exact bind_len (by rw [e]; exact T₁.c) (by rw [e]; exact P₁) hq
  · have X₂ : Ext N (fun _ => False) s { t₁ with heap := t₁.heap.push { cls := .type "method-wrapper", data := .fields #[.builtin "list.__len__", .ref p] }, toks := t₁.toks + 1 } := X₁'.push _
    have P₂ := P.ext X₂ id id
    refine A_callBound (Heap.get?_push_size _ rfl) (.inl rfl) PySem.F.slot_list_len.plain PySem.F.entry_list_len (fun A' E' Q' hq => wpAny_of_eq (checkArgs_len _) hq) (len_acc_body P₂ ⟨_, rfl, h _ _ (X₂.toks _)⟩)
end
end Mine
end
section
open PySem PySem.Calls PySem.W PyProof.Rows
set_option Elab.async false
set_option maxRecDepth 100000
namespace Mine
theorem checkArgs_pop (v : Value) : (match Manifest.signature? "list.pop" with | some sig => Bind.checkArgs "list.pop" { sig with full := toString ((Str.ofString "_Accumulator").toString) ++ toString "." ++ toString (Bind.lastOf "list.pop") } ⟨[v], []⟩ | none => pure ()) = pure () := by kernel_rfl
section
variable {prog : Program} {w : World} {A : Around} {E : Value → Shared → Prop} {s : Shared} {N : Nat} {outer : List Env} {mg mb mC : Str → Option Value} {p d : Addr} {vs : List Value} {head : Value} {env : Env}
theorem notInst_acc {x : Value} {Q : Bool → Shared → Prop} (T : AccCls mC s.heap) (P : Pil s.heap p d vs head) (hx : [Value.ref aAcc, .type "list", .type "object"].contains x = false) (hq : Q false s) : wpAny (model prog w) A (isInstance (.ref p) x) Q E s := by
  obtain ⟨k, sl, e⟩ := P.ob
  obtain ⟨oC, cd, ho, hd, hm, hn⟩ := T.cls
  unfold isInstance
  refine wpAny_bind ?_
  show wpAny (model prog w) A (loadPart p (some headPart) >>= fun o => pure o.cls) _ E s
  refine wpAny_bind (wpAny_loadPart e (wpAny_pure ?_))
  unfold isSubtype
  refine wpAny_bind ?_
  show wpAny (model prog w) A (classData aAcc >>= fun c => pure c.mro) _ E s
  unfold classData
  refine wpAny_bind (wpAny_bind (wpAny_load ho ?_))
  rw [hd]
  refine wpAny_pure (wpAny_pure ?_)
  rw [hm]
  show wpAny (model prog w) A (pure ([Value.ref aAcc, .type "list", .type "object"].contains x)) Q E s
  rw [hx]
  exact wpAny_pure hq
theorem pop_body {A' : Around} {ws : List Value} {v : Value} {Q : PySem.Fin → Shared → Prop} (P : Pil s.heap p d (ws ++ [v]) head) (hz : ws.length ≤ 100000)
    (h : ∀ h', Pil h' p d ws head → Heap.SameBut p s.heap h' → Q (.done (.ret v)) { s with heap := h' }) : wpAny (model prog w) A' (Builtin.«list.pop» ⟨[.ref p], []⟩) Q E s := by
  obtain ⟨n, sl, e⟩ := P.ob
  unfold Builtin.«list.pop»
  refine wpAny_bind (wpAny_of_eq (a := (.ref p, [])) (by rfl) ?_)
  refine wpAny_bind (wpAny_pure ?_)
  show wpAny (model prog w) A' (Builtin.List.listItems (.ref p) >>= _) Q E s
  unfold Builtin.List.listItems
  refine wpAny_bind (wpAny_bind (wpAny_seqItems e rfl (wpAny_pure ?_)))
  have hne : (ws ++ [v]).toArray.isEmpty = false := by simp
  simp only [hne, Bool.false_eq_true, if_false]
  have hi : ((seqIndex? (-1) (ws ++ [v]).toArray.size).bind fun k => (ws ++ [v]).toArray[k]?.map (k, ·)) = some (ws.length, v) := by
    have : seqIndex? (-1) (ws ++ [v]).toArray.size = some ws.length := by
      unfold seqIndex?
      simp
      omega
    rw [this]
    simp
  simp only [hi]
  show wpAny (model prog w) A' (updateSeq p (fun x => x.eraseIdxIfInBounds ws.length) >>= fun _ => ret v) Q E s
  have hx : (ws ++ [v]).toArray.eraseIdxIfInBounds ws.length = ws.toArray := by
    simp
    rw [List.eraseIdx_append_of_length_le (Nat.le_refl _)]
    simp
  exact wpAny_bind (wpAny_updateSeq e rfl (wpAny_pure (h _ (P.map _ _ hx) (Heap.SameBut.update ..))) (by rw [sizeLine_eq, List.size_toArray, List.length_append]; simp; omega) (by rw [hx, sizeLine_eq, List.size_toArray]; omega))
theorem checkBound_pop {Q : Unit → Shared → Prop} (T : AccCls mC s.heap) (P : Pil s.heap p d vs head) (hq : Q () s) : wpAny (model prog w) A (checkBoundCall "list.pop" ⟨[.ref p], []⟩) Q E s := by
  obtain ⟨n, sl, e⟩ := P.ob
  obtain ⟨oC, cd, ho, hd, hqn, hct⟩ := T.qn
  unfold checkBoundCall
  have hs : ∃ sig, Manifest.signature? "list.pop" = some sig := by
    cases q : Manifest.signature? "list.pop" with
    | some x => exact ⟨x, rfl⟩
    | none => exact absurd q (by decide +kernel)
  obtain ⟨sig, hs⟩ := hs
  have hca := checkArgs_pop (.ref p)
  rw [hs] at hca
  rw [hs]
  have hk : builtinKind "list.pop" = some .method := by decide +kernel
  have hv : Manifest.varargsMethods.contains "list.pop" = false := by decide +kernel
  simp only [hk]
  rw [if_neg (by decide)]
  simp only [hv, Bool.false_or]
  refine wpAny_bind (notInst_acc (x := .type "module") T P (by decide) ?_)
  rw [if_neg Bool.false_ne_true]
  obtain ⟨hp, g, dr, tk, os⟩ := s
  refine wpAny_bind (ks_wpAny_isType_inst e (fun c q => by cases q) ?_)
  rw [if_neg Bool.false_ne_true]
  refine wpAny_bind ?_
  show wpAny (model prog w) A (loadPart p (some headPart) >>= fun o => pure o.cls) _ E _
  refine wpAny_bind (wpAny_loadPart e (wpAny_pure ?_))
  dsimp only
  refine wpAny_bind ?_
  unfold classData
  refine wpAny_bind (wpAny_load ho ?_)
  rw [hd]
  refine wpAny_pure ?_
  rw [hqn]
  refine wpAny_bind ?_
  show wpAny (model prog w) A (loadPart aAcc (some headPart) >>= fun o => pure o.cls) _ E _
  refine wpAny_bind (wpAny_loadPart ho (wpAny_pure ?_))
  rw [hct, if_pos (by rfl)]
  exact wpAny_of_eq hca hq
theorem pop_call {Q : Value → Shared → Prop} (T : AccTop mg mb mC s.heap) (P : Pil s.heap p d vs head) (hf : FileOk prog s.heap aCountCode) (hf' : FileOk prog s.heap aPopCode) (h3 : NoThird s.heap) (hN : topN ≤ N) (hNs : N ≤ s.heap.objs.size) (hroom : A.depth + 1 < recursionLimit) (hF : Frs N s.heap outer) (hz : vs.length ≤ 100000)
    (h0 : vs = [] → ∀ t u t1 t2, Tup t.heap u [.str "" t1, .str "" t2] → Pil t.heap p d vs head → s.heap.get? u = none → Ext N (fun _ => False) s t → Q (.ref u) t)
    (h1 : ∀ ws v, vs = ws ++ [v] → ∀ t, Pil t.heap p d ws head → Ext N (· = p) s t → Q v t) : wpAny (model prog w) A (call (.ref aPop) [.ref p]) Q E s := by
  refine A_enterAt (binds := [("self", .ref p)]) (Nat.lt_of_succ_lt hroom) hF hNs T.fpop T.lim (fun fd h1 h2 h3 _ => BindsTo.of_eq ?_) (by decide) (locs rfl) fun env t₀ V _ S₀ X₀ hsz => ?_
  · obtain ⟨nm, qn, pr, bd, sc, gl, cl, df, kw, dc, pm, an, co, ct, bi⟩ := fd
    simp only at h1 h2 h3
    subst h1 h2 h3
    rfl
  have hsc := V.sc
  have K₀ := Keep.of X₀ hN nofun
  have P₀ := P.ext X₀ id id
  have T₀ := T.keep K₀
  refine ks_wpAt_execs_cons (ks_wpAt_If (PySem.wpAt_of_wpAny ?_))
  refine wpAny_isTrue_Compare1 (A_Call_attr (S₀.ld (kd hsc rfl) (v := .ref p) rfl ⟨.ref aCount, [.ref p], fun pl Q' hq => method_acc T₀.c P₀ (r₀ := none) (by rw [typeLookup_type, builtinLookup_eq_fast]; kernel_rfl) (by rw [T₀.count]; rfl) (fun Q'' h => T₀.fcount.type Q'' h) rfl (by decide) hq, ?_⟩))
  refine A_callFn (PySem.evalArgs_none ⟨T₀.fcount.func, ?_⟩)
  refine count_call (N := N) T₀ P₀ (hf.keep K₀ (by decide) (by unfold Tab; decide)) (h3.keep K₀) hN (Nat.le_trans hNs (Nat.le_of_lt hsz)) hroom S₀.frs fun t₁ tk X₁ => ?_
  refine wpAny_Constant_int (eq_int (wpAny_truthy_bool ?_))
  have X₁' := (X₀.trans X₁).toks (t₁.toks + 1)
  have S₁ := (S₀.ext0 X₁).toks (t₁.toks + 1)
  generalize hg : ({ t₁ with toks := t₁.toks + 1 } : Shared) = t₂ at X₁' S₁ ⊢
  have K₁ := Keep.of X₁' hN nofun
  have P₁ := P.ext X₁' id id
  have T₁ := T.keep K₁
  clear hg
  rcases List.eq_nil_or_concat vs with hv | ⟨ws, v, hv⟩
  rotate_left
  rw [List.concat_eq_append] at hv
  rotate_left
  · rw [hv]
    refine ks_wpAt_execs_cons (ks_wpAt_Return_some (PySem.wpAt_of_wpAny (A_Tuple (A_items_cons (Constant_str (A_items_cons (Constant_str (A_items_nil ⟨(by rw [sizeLine_eq]; exact Nat.le_of_ble_eq_true rfl), ?_⟩))))))))
    refine h0 hv _ _ _ _ (Tup.new _ _) (by exact P.ext (((X₁'.toks _).toks _).push _ (tk := t₂.toks + 1 + 1)) id id) (X₁'.fresh (Nat.le_refl _)) (((X₁'.toks _).toks _).push _ (tk := t₂.toks + 1 + 1))
  · have hne : (((vs.length : Nat) : Int) == 0) = false := by rw [hv]; simp; omega
    rw [hne]
    refine PySem.wpAt_of_wpAny (wpAny_execs_nil ?_)
    refine ks_wpAt_execs_cons (ks_wpAt_Return_some (ks_wpAt_MethodCall (super_here T₁ P₁ (hf'.keep K₁ (by decide) (by unfold Tab; decide)) T₁.fpop V S₁ rfl rfl (by decide) rfl rfl rfl fun t₃ so hso X₃ => ?_)))
    have X₃' := X₁'.trans X₃
    have K₃ := Keep.of X₃' hN nofun
    have P₃ := P.ext X₃' id id
    have T₃ := T.keep K₃
    refine super_method (id := "list.pop") (kt := "builtin_function_or_method") T₃.c P₃ (h3.keep K₃) hso (by decide) own_pop PySem.F.type_list_pop slot_md_get.lookup (fun A' s' Q' e hq => ?_) ?_
    · exact bind_pop (by rw [e]; exact T₃.c) (by rw [e]; exact P₃) hq
    · have X₄ : Ext N (fun _ => False) s { t₃ with heap := t₃.heap.push { cls := .type "builtin_function_or_method", data := .fields #[.builtin "list.pop", .ref p] }, toks := t₃.toks + 1 } := X₃'.push _
      have P₄ := P.ext X₄ id id
      have T₄ := T.keep (Keep.of X₄ hN nofun)
      have P₄' := P₄
      rw [hv] at P₄'
      have hwl : ws.length ≤ 100000 := by rw [hv] at hz; simp at hz; omega
      refine A_callBound (Heap.get?_push_size _ rfl) (.inr rfl) PySem.F.slot_list_pop.plain PySem.F.entry_list_pop (fun A' E' Q' hq => checkBound_pop T₄.c P₄ hq) (pop_body P₄' hwl fun h' P' hs' => ⟨_, rfl, ?_⟩)
      exact h1 ws v hv _ P' ((X₄.mono nofun).same (tk := t₃.toks + 1) (.inr ⟨rfl, let ⟨_, _, e⟩ := P'.ob; ⟨_, e⟩⟩) hs')
end
end Mine
end
section
open PySem PySem.Calls PySem.W PyProof.Rows
set_option Elab.async false
set_option maxRecDepth 100000
namespace Mine
section
variable {prog : Program} {w : World} {A : Around} {E : Value → Shared → Prop} {s : Shared} {N : Nat} {outer : List Env} {mg mb mC : Str → Option Value} {p d : Addr} {vs : List Value} {head : Value} {env : Env}
theorem pyIter_acc {Q : Value → Shared → Prop} (T : AccCls mC s.heap) (hi : mC "__iter__" = none) (P : Pil s.heap p d vs head)
    (hQ : Q (.ref s.heap.objs.size) { s with heap := s.heap.push { cls := .type "list_iterator", data := .fields #[.ref p, .int 0 0] } }) : wpAny (model prog w) A (pyIter (.ref p)) Q E s := by
  unfold pyIter
  refine wpAny_bind (special_acc T P slot_list_iter.lookup ?_)
  rw [hi]
  show wpAny _ A (callSpecialIfBoundUnlessNone? (.ref p) "__iter__" _ >>= _) Q E s
  refine wpAny_bind ?_
  simp only [callSpecialIfBoundUnlessNone?, bindSpecialIfBound?]
  refine wpAny_holding (wpAny_bind (wpAny_bind (special_acc T P slot_list_iter.lookup ?_)))
  rw [hi]
  simp only [Option.none_or, slot_list_iter.bind]
  refine wpAny_bind (wpAny_askSetting (wpAny_ite ?_))
  have one : ∀ Q₁ : Value → Shared → Prop, Q₁ (.ref s.heap.objs.size) { s with heap := s.heap.push { cls := .type "list_iterator", data := .fields #[.ref p, .int 0 0] } } → wpAny (model prog w) A (call (.builtin "list.__iter__") [.ref p]) Q₁ E s := fun Q₁ h₁ => by
    refine call_acc (n := "__iter__") T P (by decide +kernel) (.inl (by decide +kernel)) slot_list_iter.plain entry_list_iter (args_list_iter _) ?_
    show wpAny _ _ (do ret (← newFields "list_iterator" [.ref p, rawInt 0])) _ _ s
    exact wpAny_bind (wpAny_newObj_type (wpAny_pure ⟨_, rfl, h₁⟩))
  split
  · refine wpAny_bind (wpAny_pure (wpAny_pure ?_))
    show wpAny (model prog w) A (call (.builtin "list.__iter__") [.ref p] >>= fun v => pure (some v)) _ E s
    exact wpAny_bind (one _ (wpAny_pure (wpAny_bind (wpAny_specialOf (T := "list_iterator") ⟨_, Heap.get?_push_size _ rfl, rfl⟩ slot_listiter_next.lookup (wpAny_pure hQ)))))
  · refine wpAny_tryCatch (wpAny_bind (wpAny_pure (wpAny_pure ?_)))
    show wpAny (model prog w) A (call (.builtin "list.__iter__") [.ref p] >>= fun v => pure (some v)) _ E s
    exact wpAny_bind (one _ (wpAny_pure (wpAny_bind (wpAny_specialOf (T := "list_iterator") ⟨_, Heap.get?_push_size _ rfl, rfl⟩ slot_listiter_next.lookup (wpAny_pure hQ)))))
theorem next_item {it l : Addr} {i : Nat} {o : Obj} {items : Array Value} {n : Nat} {x : Value} {Q : Option Value → Shared → Prop} (hit : s.heap.IsListIter it l i) (ho : s.heap.get? l = some o) (hd : o.data = .seq items n) (hx : items[i]? = some x)
    (hQ : ∀ h', h'.IsListIter it l (i + 1) → Heap.SameBut it s.heap h' → Q (some x) { s with heap := h' }) : wpAny (model prog w) A (pyNext (.ref it)) Q E s := by
  obtain ⟨oi, hoi, hc, hdi⟩ := id hit
  unfold pyNext
  refine wpAny_bind (wpAny_attempt (wpAny_callSpecial?_slot (name := Str.ofString "__next__") hit.typeIs slot_listiter_next
    (wpAny_call_entry slot_listiter_next hit.typeIs entry_listiter_next ?_ (args_listiter_next _))))
  show wpAny _ _ (field (.ref it) 0 >>= _) _ _ s
  refine wpAny_bind (wpAny_field hoi hdi (x := .ref l) rfl ?_)
  show wpAny _ _ (if (Value.ref l == Value.none) = true then _ else _) _ _ s
  rw [if_neg (show ¬ ((Value.ref l == Value.none) = true) from Bool.false_ne_true)]
  show wpAny _ _ (field (.ref it) 1 >>= _) _ _ s
  refine wpAny_bind (wpAny_field hoi hdi (x := .int i 0) rfl ?_)
  show wpAny _ _ (seqItems? (.ref l) >>= _) _ _ s
  refine wpAny_bind (wpAny_seqItems ho hd ?_)
  simp only [Int.toNat_natCast, hx]
  refine wpAny_bind (wpAny_setField hoi hdi (by simp) (wpAny_pure ⟨x, rfl, wpAny_pure (hQ _ ?_ (Heap.SameBut.update ..))⟩))
  exact ⟨_, Heap.get?_update_self _ hoi (Obj.isFreed_of_fields (Obj.data_mapFields hdi _)), (Obj.cls_mapFields ..).trans hc, by
    rw [Obj.data_mapFields hdi]; simp [rawInt]⟩
theorem next_end {it l : Addr} {i : Nat} {o : Obj} {items : Array Value} {n : Nat} {Q : Option Value → Shared → Prop} (hh : A.handled = none) (hit : s.heap.IsListIter it l i) (ho : s.heap.get? l = some o) (hd : o.data = .seq items n) (hx : items[i]? = none)
    (hQ : ∀ h', Heap.ExtBut it s.heap h' → Q none { s with heap := h' }) : wpAny (model prog w) A (pyNext (.ref it)) Q E s := by
  obtain ⟨oi, hoi, hc, hdi⟩ := id hit
  unfold pyNext
  refine wpAny_bind (wpAny_attempt (wpAny_callSpecial?_slot (name := Str.ofString "__next__") hit.typeIs slot_listiter_next
    (wpAny_call_entry slot_listiter_next hit.typeIs entry_listiter_next ?_ (args_listiter_next _))))
  show wpAny _ _ (field (.ref it) 0 >>= _) _ _ s
  refine wpAny_bind (wpAny_field hoi hdi (x := .ref l) rfl ?_)
  show wpAny _ _ (if (Value.ref l == Value.none) = true then _ else _) _ _ s
  rw [if_neg (show ¬ ((Value.ref l == Value.none) = true) from Bool.false_ne_true)]
  show wpAny _ _ (field (.ref it) 1 >>= _) _ _ s
  refine wpAny_bind (wpAny_field hoi hdi (x := .int i 0) rfl ?_)
  show wpAny _ _ (seqItems? (.ref l) >>= _) _ _ s
  refine wpAny_bind (wpAny_seqItems ho hd ?_)
  simp only [Int.toNat_natCast, hx]
  refine wpAny_bind (wpAny_rule (wpAny_bind (wpAny_setField hoi hdi (by simp) ?_)))
  show wpAny _ _ (newExc (.type "StopIteration") [] >>= _) _ _ _
  refine wpAny_bind ?_
  simp only [newExc, newTuple]
  refine wpAny_bind (wpAny_newObj_type ?_ (by size_fits))
  refine wpAny_bind (m := firstArgMember _ _) (wpAny_of_eq (a := Value.none) (by first | rfl | (simp only [firstArgMember]; rfl)) ?_)
  refine wpAny_newObj_type ?_ (by size_fits)
  simp only [raiseNew]
  refine wpAny_bind (wpAny_handled ?_)
  rw [show A.in1.handled = none from hh]
  refine wpAny_bind (wpAny_pure (wpAny_throw ?_))
  refine wpAny_bind (wpAny_isInstance (T := "StopIteration") (b := true) ⟨_, Heap.get?_push_size _ rfl, rfl⟩ isSubtype_stop ?_)
  exact wpAny_pure (hQ _ (((Heap.SameBut.update ..).extBut.push _).push _))
end
theorem walks_acc {prog : Program} {w : World} {A : Around} (hh : A.handled = none) (I p : Addr) (hne : p ≠ I) (items : Array Value) (Ts : Nat → Addr) (vals : Nat → Array Value)
    (hit : ∀ j, j < items.size → items[j]? = some (.ref (Ts j))) (hTI : ∀ j, j < items.size → Ts j ≠ I) :
    WalksU prog w A I (I :: p :: (List.range items.size).map Ts) [I] items.size (fun j v => j < items.size ∧ v = vals j)
      (fun j h => h.IsListIter I p j ∧ (∃ o n, h.get? p = some o ∧ o.data = .seq items n) ∧ ∀ k, k < items.size → h.IsTuple (Ts k) (vals k))
      (fun j T h => (j < items.size ∧ T = Ts j) ∧ h.IsListIter I p (j + 1) ∧ (∃ o n, h.get? p = some o ∧ o.data = .seq items n) ∧ ∀ k, k < items.size → h.IsTuple (Ts k) (vals k)) where
  sub := fun b hb => by simp at hb; simp [hb]
  frame := fun _ _ _ st hk => ⟨st.1.at fun o e => hk I (by simp) o e, (let ⟨o, n, e, r⟩ := st.2.1; ⟨o, n, hk p (by simp) o e, r⟩),
    fun k hk' => (st.2.2 k hk').at fun o e => hk (Ts k) (List.mem_cons_of_mem _ (List.mem_cons_of_mem _ (List.mem_map.mpr ⟨k, List.mem_range.mpr hk', rfl⟩))) o e⟩
  item := fun i s Q E hi st hQ => by
    obtain ⟨o, n, ho, hd⟩ := st.2.1
    refine next_item st.1 ho hd (x := .ref (Ts i)) (hit i hi) fun h' hit' hs' => ?_
    have tup : ∀ k, k < items.size → h'.IsTuple (Ts k) (vals k) := fun k hk' => (st.2.2 k hk').extBut hs'.extBut (hTI k hk')
    exact hQ (Ts i) (vals i) h' s.toks ⟨hi, rfl⟩ (tup i hi) ⟨⟨hi, rfl⟩, hit', ⟨o, n, hs'.extBut _ _ hne ho, hd⟩, tup⟩ fun b o hb e => hs'.extBut b o (fun h => hb (by simp [h])) e
  go := fun _ _ _ _ _ s Q _ hm hQ => wpAny_letOwnedTupleGo_listiter hm.2.1 (hQ s.heap hm.2 fun _ _ _ e => e)
  apart := fun j T _ hm hmem => by
    rcases List.mem_cons.mp hmem with e | e
    · exact hTI j hm.1.1 (hm.1.2 ▸ e)
    · cases e
  done := fun s Q E st hQ => by
    obtain ⟨o, n, ho, hd⟩ := st.2.1
    exact next_end hh st.1 ho hd (by simp) fun h' he' => hQ h' s.toks fun b o hb e => he' b o (fun h => hb (by simp [h])) e
  self := fun _ _ _ _ st hQ => wpAny_pyIter_listiter st.1 hQ
end Mine
end
section
open PySem PySem.Calls PySem.W PyProof.Rows
set_option Elab.async false
set_option maxRecDepth 100000
namespace Mine
noncomputable def Tb (h : Heap) (c P : Addr) : Prop := ∃ ps, h.IsCode c P ps ∧ h.TableAt c P ps
theorem Tb.up {h h' : Heap} {c P : Addr} (tb : Tb h c P) (hc : ∀ o, h.get? c = some o → h'.get? c = some o) (hP : ∀ o, h.get? P = some o → h'.get? P = some o) : Tb h' c P := by
  obtain ⟨ps, ⟨o, vs, file, tf, flags, tg, inF, text, tt, op, ho, r1, r2, r3, r4, r5, r6, hop, r7⟩, ⟨o', vs', h1, r8⟩, h2⟩ := tb
  exact ⟨ps, ⟨o, vs, file, tf, flags, tg, inF, text, tt, op, hc _ ho, r1, r2, r3, r4, r5, r6, hP _ hop, r7⟩, ⟨o', vs', hc _ h1, r8⟩, hP _ h2⟩
theorem Tb.ext {N : Nat} {W : Addr → Prop} {s t : Shared} {c P : Addr} (tb : Tb s.heap c P) (X : Ext N W s t) (hc : c < N) (hP : P < N) (h1 : ¬ W c) (h2 : ¬ W P) : Tb t.heap c P := tb.up (fun o e => X.low c o hc h1 e) fun o e => X.low P o hP h2 e
noncomputable def Prs (h : Heap) (vs : List Value) (ps : List (Str × Str)) : Prop := vs.length = ps.length ∧ ∀ (i : Nat) (a b : Str), ps[i]? = some (a, b) → ∃ (T : Addr) (t1 t2 : Tok), vs[i]? = some (.ref T) ∧ Tup h T [.str a t1, .str b t2]
theorem Ext.mk' {N : Nat} {W : Addr → Prop} {s t : Shared} (hk : ∀ b o, ¬ W b → s.heap.get? b = some o → t.heap.get? b = some o) (hd : ∀ b, W b → ∃ o, t.heap.get? b = some o) (hos : t.os = s.os) (hg : AllBare s.gens → AllBare t.gens) : Ext N W s t :=
  ⟨fun b o _ h2 e => hk b o h2 e, fun b o h2 e _ => hk b o h2 e, fun b o h2 e => ⟨o.slots, hk b o h2 e⟩, fun b o e => by
    by_cases q : W b
    · exact hd b q
    · exact ⟨o, hk b o q e⟩, hos, hg⟩
theorem Prs.ext {N : Nat} {W : Addr → Prop} {s t : Shared} {vs : List Value} {prs : List (Str × Str)} (hp : Prs s.heap vs prs) (X : Ext N W s t) (hW : ∀ b o, W b → s.heap.get? b = some o → ∀ xs n, o.data = .seq xs n → o.cls = .type "tuple" → False) : Prs t.heap vs prs :=
  ⟨hp.1, fun i a b e => let ⟨T, t1, t2, h1, h2⟩ := hp.2 i a b e; ⟨T, t1, t2, h1, h2.ext X fun q => let ⟨_, h3⟩ := h2; hW T _ q h3 _ _ rfl rfl⟩⟩
section
variable {prog : Program} {w : World} {A : Around} {E : Value → Shared → Prop} {s : Shared} {N : Nat} {outer : List Env} {mg mb mC : Str → Option Value} {p d : Addr} {vs : List Value} {head : Value} {env : Env}
theorem gcode {M : Model} {c P : Addr} {pos : Pos} {q : Str} {scope : Scope} {Q : Value → Shared → Prop} (hc : env.code = .ref c) (tb : Tb s.heap c P)
    (hq : ∀ code h' tk, Heap.ExtBut P s.heap h' → Tb h' c P → s.heap.objs.size ≤ h'.objs.size → Q code { s with heap := h', toks := tk }) : wpAny M A (genexprCode env pos q scope) Q E s := by
  obtain ⟨ps, h1, h2⟩ := tb
  cases e : codeAmong pos ps.toList with
  | some c' => exact wpAny_genexprCode_hit hc h1 e (hq c' s.heap s.toks (fun _ _ _ x => x) ⟨ps, h1, h2⟩ (Nat.le_refl _))
  | none => exact wpAny_genexprCodeX hc h1 h2 e fun c' h' tk hx hge hlt hcode _ htab _ => hq _ h' tk hx ⟨_, hcode, htab⟩ (Nat.le_trans hge (Nat.le_of_lt hlt))
theorem gen_pairs {m : Str → Option Value} {elt : Expr} {xa xb : Str} {pa pb pt ps : Pos} {kt : Nat} {scope : Scope} {pos : Pos} {c Pt : Addr} {prs : List (Str × Str)} {F : Nat → Value → Prop} {bm : Addr} {ob : Obj} {Q : Value → Shared → Prop}
    (S : Std N env outer s m) (T : AccTop mg mb mC s.heap) (P : Pil s.heap p d vs head) (hp : Prs s.heap vs prs) (hh : A.handled = none) (hroom : A.depth < recursionLimit) (hN : topN ≤ N)
    (hl : env.kindOf "self" = some .local) (hv : m "self" = some (.ref p)) (hgl : env.globals = mainGlobals) (hc : env.code = .ref c) (tb : Tb s.heap c Pt) (hPt : Pt < topN)
    (hbm : mg "__builtins__" = some (.ref bm)) (hbn : bm ≠ builtinsNs) (hob : s.heap.get? bm = some ob) (hcls : ob.cls = .type "module") (hdict : ob.dict = some builtinsNs) (hdata : ob.data = .plain)
    (hxa : scope.names.lookup xa = some .local) (hxb : scope.names.lookup xb = some .local) (hab : xa ≠ xb) (hcell : ∀ y ∈ scope.names, y.2 ≠ .cell) (h0 : scope.names.lookup (".0" : Str) = some NameKind.local) (hkind : scope.kind = .function) (hco : scope.isCoroutine = false) (hclos : closureFor scope env = pure [])
    (helt : ∀ (A' : Around) (E' : Value → Shared → Prop) (i : Nat) (a b : Str) (t1 t2 : Tok) (t : Shared) (m₂ : Str → Option Value) (C : Addr) (code : Value), A'.handled = none → A'.depth ≤ A.depth + 1 → prs[i]? = some (a, b) → t.heap.Ns C m₂ → m₂ xa = some (.str a t1) → m₂ xb = some (.str b t2) →
      (∀ x o, x < topN → x ≠ Pt → s.heap.get? x = some o → t.heap.get? x = some o) → wpAny (model prog w) A' (eval elt (genEnv scope [] C code builtinsNs env)) (fun y t' => F i y ∧ Keeps t t') E' t)
    (hQ : ∀ (a : Addr) (s₅ : Shared) (fp wr : List Addr) (g : Nat) (St : Nat → Shared → Prop), WalksS prog w A.in4 a fp wr (GenOnlyQ g) (passing (fun _ => true) vs.toArray.size 0).length (fun j y => ∃ i, (passing (fun _ => true) vs.toArray.size 0)[j]? = some i ∧ F i y) St → St 0 s₅ →
      (∀ i s', St i s' → s'.TypeIs (.ref a) "generator") → a ∈ fp → (∀ b ∈ fp, b < s₅.heap.objs.size) → (∀ b ∈ wr, s.heap.get? b = none) → Ext N (· = Pt) s s₅ → Tb s₅.heap c Pt → Q (.ref a) s₅) :
    wpAny (model prog w) A (eval (.GeneratorExp elt [⟨.Tuple [.Name xa pa, .Name xb pb] kt pt, .Name "self" ps, [], 0⟩] scope pos) env) Q E s := by
  obtain ⟨n, sl, hpo⟩ := P.ob
  have hpP : p ≠ Pt := fun q => by
    obtain ⟨_, _, _, h2⟩ := tb
    rw [q, h2] at hpo; cases hpo
  refine wpAny_GeneratorExp_walksQTD hh hco hclos hcell h0 hxa hxb hab hkind hroom (S.ld hl hv (pyIter_acc T.c T.iter P ⟨T.lim.push _, ?_⟩)) (fun _ => rfl)
  have offP : ∀ {b : Addr} {o : Obj}, s.heap.get? b = some o → (∀ xs, o.data ≠ .fields xs) → b ≠ Pt := fun {b o} e hd q => by
    obtain ⟨_, _, _, h2⟩ := tb
    rw [q, h2] at e; cases e; exact hd _ rfl
  have hPlt : Pt < s.heap.objs.size := let ⟨_, _, _, h2⟩ := tb; Heap.lt_size h2
  have tb₂ : Tb (s.heap.push { cls := .type "list_iterator", data := .fields #[.ref p, .int 0 0] }) c Pt := let ⟨q, h1, h2⟩ := tb; ⟨q, h1.keeps fun _ _ e => Heap.get?_push_of_some _ e, h2.keeps fun _ _ e => Heap.get?_push_of_some _ e⟩
  refine gcode hc tb₂ fun code h₃ tk₃ hx₃ tb₃ hsz₃ => ?_
  have up : ∀ b o, b ≠ Pt → s.heap.get? b = some o → h₃.get? b = some o := fun b o hb e => hx₃ b o hb (Heap.get?_push_of_some _ e)
  have hmgP : mainGlobals ≠ Pt := let ⟨o, es, ep, ho, hd, _⟩ := T.g; offP ho fun xs q => by rw [hd] at q; cases q
  have hg₃ : h₃.Ns env.globals mg := by rw [hgl]; exact let ⟨o, es, ep, ho, r⟩ := T.g; ⟨o, es, ep, up _ _ hmgP ho, r⟩
  refine wpAny_builtinsFor hg₃ hbm hbn (up _ _ (offP hob fun xs q => by rw [hdata] at q; cases q) hob) hcls hdict hdata ?_
  obtain ⟨hlen, hget⟩ := hp
  have hpr : ∀ j, j < vs.toArray.size → ∃ a b T t1 t2, prs[j]? = some (a, b) ∧ vs[j]? = some (.ref T) ∧ Tup s.heap T [.str a t1, .str b t2] := fun j hj => by
    have hj' : j < prs.length := by rw [← hlen]; simpa using hj
    obtain ⟨T, t1, t2, h1, h2⟩ := hget j (prs[j]).1 (prs[j]).2 (by rw [List.getElem?_eq_getElem hj'])
    exact ⟨_, _, T, t1, t2, by rw [List.getElem?_eq_getElem hj'], h1, h2⟩
  let Ts : Nat → Addr := fun j => match vs[j]? with | some (.ref T) => T | _ => 0
  let vals : Nat → Array Value := fun j => match s.heap.get? (Ts j) with | some o => (match o.data with | .seq xs _ => xs | _ => #[]) | none => #[]
  have hTs : ∀ j, j < vs.toArray.size → ∃ a b t1 t2, prs[j]? = some (a, b) ∧ vs[j]? = some (.ref (Ts j)) ∧ Tup s.heap (Ts j) [.str a t1, .str b t2] ∧ vals j = #[.str a t1, .str b t2] := fun j hj => by
    obtain ⟨a, b, T, t1, t2, h1, h2, h3⟩ := hpr j hj
    have e : Ts j = T := by show (match vs[j]? with | some (.ref T) => T | _ => 0) = T; rw [h2]
    refine ⟨a, b, t1, t2, h1, e ▸ h2, e ▸ h3, ?_⟩
    show (match s.heap.get? (Ts j) with | some o => (match o.data with | .seq xs _ => xs | _ => #[]) | none => #[]) = _
    rw [e]
    obtain ⟨k, h3⟩ := h3
    rw [h3]
  have hIs : s.heap.objs.size ≠ Pt := Nat.ne_of_gt hPlt
  have it₃ : h₃.IsListIter s.heap.objs.size p 0 := ⟨_, hx₃ _ _ hIs (Heap.get?_push_size _ rfl), rfl, rfl⟩
  have p₃ : ∃ o n, h₃.get? p = some o ∧ o.data = .seq vs.toArray n := ⟨_, n, up _ _ hpP hpo, rfl⟩
  have tu₃ : ∀ k, k < vs.toArray.size → h₃.IsTuple (Ts k) (vals k) := fun k hk => by
    obtain ⟨a, b, t1, t2, _, _, ⟨q, h3⟩, h4⟩ := hTs k hk
    exact ⟨_, up _ _ (offP h3 fun _ q => by cases q) h3, rfl, q, by rw [h4]⟩
  have hcS : cStatics < s.heap.objs.size := let ⟨_, hn, _⟩ := T.lim; hn.lt
  have hcP : cStatics ≠ Pt := let ⟨_, ⟨o, es, ep, ho, hd, _⟩, _⟩ := T.lim; offP ho fun xs q => by rw [hd] at q; cases q
  refine ⟨s.heap.objs.size, s.heap.objs.size :: p :: (List.range vs.toArray.size).map Ts, [s.heap.objs.size], vs.toArray.size, _, _, _, (fun _ => true), F, rfl, fun A' hA => walks_acc hA s.heap.objs.size p (Nat.ne_of_lt (Heap.lt_size hpo)) vs.toArray Ts vals (fun j hj => ?_) (fun j hj => ?_), fun i v hv => ?_, ⟨it₃, p₃, tu₃⟩, ?_, ?_, ?_, ?_, ?_⟩
  · obtain ⟨_, _, _, _, _, h2, _⟩ := hTs j hj
    simpa using h2
  · obtain ⟨_, _, _, _, _, _, ⟨_, h3⟩, _⟩ := hTs j hj
    exact Nat.ne_of_lt (Heap.lt_size h3)
  · obtain ⟨_, _, t1, t2, _, _, _, h4⟩ := hTs i hv.1
    exact ⟨_, _, hv.2.trans h4⟩
  · intro b hb
    rcases List.mem_cons.mp hb with rfl | hb
    · exact let ⟨_, e, _⟩ := it₃; Heap.lt_size e
    · rcases List.mem_cons.mp hb with rfl | hb
      · exact let ⟨_, _, e, _⟩ := p₃; Heap.lt_size e
      · obtain ⟨k, hk, rfl⟩ := List.mem_map.mp hb
        exact let ⟨_, e, _⟩ := tu₃ k (List.mem_range.mp hk); Heap.lt_size e
  · exact (T.lim.push _).extBut hx₃ hcP
  · intro hm
    rcases List.mem_cons.mp hm with q | q
    · exact Nat.ne_of_lt hcS q
    · cases q
  · intro href hhref
    refine ⟨fun A' E' i va vb s₂ m₂ _ _ _ _ _ _ _ _ => wpAny_pure ⟨rfl, s₂.heap, s₂.toks, rfl, fun _ _ e => e⟩, fun A' E' i va vb s₂ m₂ hA hD _ hPi _ hn hma hmb hkp => ?_⟩
    obtain ⟨a, b, t1, t2, h1, _, _, h4⟩ := hTs i hPi.1
    have hq := hPi.2.trans h4
    have ea : va = .str a t1 := by injection hq with hq; injection hq
    have eb : vb = .str b t2 := by injection hq with hq; injection hq with _ hq; injection hq
    subst ea eb
    refine helt A' E' i a b t1 t2 s₂ m₂ _ code hA hD h1 hn hma hmb fun x o hx hxP e => ?_
    have e₃ := up x o hxP e
    exact hkp x (List.mem_range.mpr (Heap.lt_size e₃)) (fun hm => by
      rcases List.mem_cons.mp hm with q | q
      · exact Nat.ne_of_lt (Heap.lt_size e) q
      · cases q) o (hhref _ _ e₃)
  · intro a h₅ tk gs hgb hag hsz₅ hk₅ W hat
    refine hQ a _ _ _ _ _ W hat (fun i s' st => st.1.typeIs) (List.mem_cons_self ..) (fun b hb => ?_) (fun b hb => ?_) ?_ ?_
    · show b < h₅.objs.size
      rw [hsz₅]
      rcases List.mem_cons.mp hb with rfl | hb
      · exact Nat.lt_succ_self _
      · rcases List.mem_cons.mp hb with rfl | hb
        · exact Nat.lt_succ_of_lt hag
        · exact Nat.lt_succ_of_lt (Nat.lt_trans (List.mem_range.mp hb) hag)
    · have hsz₃' : s.heap.objs.size ≤ h₃.objs.size := by
        rw [Heap.size_push] at hsz₃; omega
      rcases List.mem_cons.mp hb with rfl | hb
      · exact Heap.get?_none_of_le hsz₃'
      · rcases List.mem_cons.mp hb with rfl | hb
        · exact Heap.get?_none_of_le (Nat.le_refl _)
        · cases hb
    · refine Ext.mk' (fun b o hb e => hk₅ b o (up b o hb e)) (fun b hb => ?_) rfl fun g => AllBare.push g hgb
      subst hb
      obtain ⟨q, _, _, h2⟩ := tb₃
      exact ⟨_, hk₅ _ _ h2⟩
    · exact let ⟨q, h1, h2⟩ := tb₃; ⟨q, h1.keeps hk₅, h2.keeps hk₅⟩
end
end Mine
end
section
open PySem PySem.Calls PySem.W PyProof.Rows
set_option Elab.async false
set_option maxRecDepth 100000
namespace Mine
noncomputable def cat (l : List Str) : Str := ⟨(l.flatMap (·.cps.toList)).toArray⟩
theorem cat_nil : cat [] = "" := by rfl
theorem cat_cons (x : Str) (l : List Str) : cat (x :: l) = x ++ cat l := by
  show (⟨_⟩ : Str) = ⟨x.cps ++ _⟩
  simp [cat]
theorem join_cat (l : List Str) : Txt.join "" l = cat l := by
  show PySem.Builtin.Str.glued _ l = cat l
  rw [StrLaws.glued_eq_join]
  induction l with
  | nil => rfl
  | cons x r ih =>
    rw [cat_cons]
    cases r with
    | nil => show x = ⟨x.cps ++ #[]⟩; simp
    | cons y r =>
      rw [← ih]
      show x ++ Str.ofString "" ++ Str.join (Str.ofString "") (y :: r) = _
      have : x ++ Str.ofString "" = x := by show (⟨x.cps ++ #[]⟩ : Str) = x; simp
      rw [this]
noncomputable def ptext (prs : List (Str × Str)) : Str := cat (prs.map fun q => cat [q.1, q.2])
theorem Ext.moved {N : Nat} {W : Addr → Prop} {s t u : Shared} {wr : List Addr} {G : Array GenState → Array GenState → Prop} (x : Ext N W s t) (hw : ∀ b ∈ wr, s.heap.get? b = none) (hm : Moved wr G t u) (hg : AllBare t.gens → AllBare u.gens) : Ext N W s u :=
  have no : ∀ b o, s.heap.get? b = some o → b ∉ wr := fun b o e q => by rw [hw b q] at e; cases e
  ⟨fun b o h1 h2 e => hm.heap _ _ (no b o e) (x.low b o h1 h2 e), fun b o h2 e hc => hm.heap _ _ (no b o e) (x.plain b o h2 e hc), fun b o h2 e => let ⟨sl, e1⟩ := x.slots b o h2 e; ⟨sl, hm.heap _ _ (no b o e) e1⟩,
   fun b o e => let ⟨_, e1⟩ := x.dom b o e; ⟨_, hm.heap _ _ (no b o e) e1⟩, hm.os.trans x.os, fun g => hg (x.gens g)⟩
theorem le_sum_of {α : Type} {f : α → Nat} : ∀ {l : List α} {i : Nat} {x : α}, l[i]? = some x → f x ≤ (l.map f).sum
  | [], _, _, h => by simp at h
  | y :: l, 0, x, h => by simp at h; subst h; simp
  | y :: l, i + 1, x, h => by
    have := le_sum_of (f := f) (l := l) (i := i) (x := x) (by simpa using h)
    simp; omega
theorem passing_all (n : Nat) : passing (fun _ => true) n 0 = List.range n := by unfold passing; simp
theorem cat2_length (a b : Str) : (cat [a, b]).length = a.length + b.length := by
  show (cat [a, b]).cps.size = a.cps.size + b.cps.size
  simp [cat]
theorem texts_of {prs : List (Str × Str)} {vs : List Value} {l : List (Str × Tok)} (hlen : vs.length = prs.length)
    (hl : ItemsOf (fun j y => ∃ i, (passing (fun _ => true) vs.toArray.size 0)[j]? = some i ∧ ∃ a b tk, prs[i]? = some (a, b) ∧ y = .str (cat [a, b]) tk) (PySem.strValues l).toArray (passing (fun _ => true) vs.toArray.size 0).length) :
    l.map (·.1) = prs.map fun q => cat [q.1, q.2] := by
  rw [passing_all] at hl
  obtain ⟨h1, h2⟩ := hl
  have e1 : l.length = prs.length := by simpa [PySem.strValues, hlen] using h1
  refine List.ext_getElem? fun j => ?_
  by_cases hj : j < l.length
  · have hj' : j < prs.length := by omega
    obtain ⟨i, hi, a, b, tk, hp, hy⟩ := h2 j (.str (l[j]).1 (l[j]).2) (by simp [PySem.strValues, hj])
    have : i = j := by
      obtain ⟨_, q⟩ := List.getElem?_eq_some_iff.mp hi
      simpa using q.symm
    subst this
    rw [List.getElem?_map, List.getElem?_map, hp, List.getElem?_eq_getElem hj]
    simp
    injection hy
  · rw [List.getElem?_eq_none (by simp; omega), List.getElem?_eq_none (by simp; omega)]
section
variable {prog : Program} {w : World} {A : Around} {E : Value → Shared → Prop} {s : Shared} {N : Nat} {outer : List Env} {mg mb mC : Str → Option Value} {p d : Addr} {vs : List Value} {head : Value} {env : Env}
theorem str_call {prs : List (Str × Str)} {Q : Value → Shared → Prop} (T : AccTop mg mb mC s.heap) (P : Pil s.heap p d vs head) (hp : Prs s.heap vs prs) (tb : Tb s.heap aStrCode aStrTab) (hN : topN ≤ N) (hNs : N ≤ s.heap.objs.size) (hroom : A.depth + 1 < recursionLimit) (hh : A.handled = none) (hF : Frs N s.heap outer)
    (hz : (prs.map fun q => q.1.length + q.2.length).sum ≤ 100000) (hvz : vs.length ≤ 100000)
    (h : ∀ t tk, Ext N (· = aStrTab) s t → Tb t.heap aStrCode aStrTab → Q (.str (ptext prs) tk) t) : wpAny (model prog w) A (call (.ref aStr) [.ref p]) Q E s := by
  refine A_enter (binds := [("self", .ref p)]) (Nat.lt_of_succ_lt hroom) hF hNs T.fstr T.lim (fun fd h1 h2 h3 _ => BindsTo.of_eq ?_) (by decide) (locs rfl) fun env t₀ V _ S₀ X₀ _ => ?_
  · obtain ⟨nm, qn, pr, bd, sc, gl, cl, df, kw, dc, pm, an, co, ct, bi⟩ := fd
    simp only at h1 h2 h3
    subst h1 h2 h3
    rfl
  have hsc := V.sc
  have K₀ := Keep.of X₀ hN nofun
  have P₀ := P.ext X₀ id id
  have T₀ := T.keep K₀
  have hp₀ : Prs t₀.heap vs prs := ⟨hp.1, fun i a b e => let ⟨T, t1, t2, h1, h2⟩ := hp.2 i a b e; ⟨T, t1, t2, h1, h2.ext X₀ id⟩⟩
  have tb₀ : Tb t₀.heap aStrCode aStrTab := tb.ext X₀ (Nat.lt_of_lt_of_le (by decide) hN) (Nat.lt_of_lt_of_le (by decide) hN) id id
  obtain ⟨tkE, hE⟩ := T₀.empty
  obtain ⟨ob, hb1, hb2, hb3, hb4, hb5⟩ := T₀.bmod
  refine wpAny_execs_cons (wpAny_Return_some (wpAny_Call_method rfl rfl rfl PySem.F.plainAttrs_str PySem.F.slot_str_join PySem.F.type_str_join (gname S₀.k (kd hsc rfl) (V.gl ▸ T₀.g) hE ⟨typeIs_str _ _ _, nofun, ?_⟩)))
  refine callWith_builtin rfl (A_evalArgs (A_items_cons (gen_pairs (F := fun i y => ∃ a b tk, prs[i]? = some (a, b) ∧ y = .str (cat [a, b]) tk) S₀ T₀ P₀ hp₀ hh hroom hN (kd hsc rfl) rfl V.gl V.co tb₀ (by decide) hb1 (by decide) hb2 hb3 hb4 hb5 rfl rfl (by decide) (by decide) rfl rfl rfl (by rfl) ?_ ?_)))
  · intro A' E' i a b t1 t2 t m₂ C code hA hD hi hn hma hmb hk
    have hg : t.heap.Ns mainGlobals mg := let ⟨o, es, ep, ho, r⟩ := T₀.g; ⟨o, es, ep, hk _ _ (by decide) (by decide) ho, r⟩
    refine wpAny_Call_method rfl rfl rfl PySem.F.plainAttrs_str PySem.F.slot_str_join PySem.F.type_str_join (gname rfl rfl (V.gl ▸ hg) hE ⟨typeIs_str _ _ _, nofun, ?_⟩)
    refine callWith_builtin rfl (A_evalArgs (A_items_cons (A_Tuple (A_items_cons (wpAny_Name (wpAny_loadName_local rfl rfl hn hma (A_items_cons (wpAny_Name (wpAny_loadName_local rfl rfl hn hmb (A_items_nil ⟨(by rw [sizeLine_eq]; exact Nat.le_of_ble_eq_true rfl), A_items_nil ?_⟩))))))))))
    have hab : a.length + b.length ≤ 100000 := Nat.le_trans (le_sum_of (f := fun q => q.1.length + q.2.length) hi) hz
    refine join_tuple (ys := [a, b]) ⟨_, Heap.get?_push_size _ rfl, rfl, 0, rfl⟩ (.cons _ _ (.cons _ _ .nil)) ?_ fun t' k => ⟨⟨a, b, t', hi, by rw [join_cat]⟩, _, _, rfl, fun _ _ e => Heap.get?_push_of_some _ e⟩
    show ([a, b].map (·.length)).sum + 2 * 0 ≤ 16777216
    simp
    omega
  · intro a s₅ fp wr g St W hst hT hI hfp hwr X₅ tb₅
    refine A_items_nil ?_
    refine SC.joinGen W.of_in1.of_in1 hT hst hfp hI (fun i v hv => ?_) (fun s' l hm hl => ⟨?_, fun t' k => ?_⟩) ?_
    · obtain ⟨_, _, _, _, tk, _, rfl⟩ := hv
      exact ⟨_, _, rfl⟩
    · rw [texts_of hp.1 hl]
      refine joinOk_of ?_
      rw [List.map_map]
      have : (prs.map ((fun x : Str => x.length) ∘ fun q => cat [q.1, q.2])).sum = (prs.map fun q => q.1.length + q.2.length).sum := congrArg List.sum (List.map_congr_left fun q _ => cat2_length q.1 q.2)
      rw [this]
      show _ + _ * 0 ≤ _
      omega
    · rw [texts_of hp.1 hl, join_cat]
      have X' : Ext N (· = aStrTab) s { s' with toks := k } := (X₀.mono nofun).trans ((X₅.moved hwr hm fun g' => g'.movedS hm).toks k)
      refine h _ _ X' (tb₅.up (fun o e => hm.heap _ _ (fun q => ?_) e) fun o e => hm.heap _ _ (fun q => ?_) e)
      · obtain ⟨_, ⟨_, _, _, _, _, _, _, _, _, _, ho, _⟩, _⟩ := tb₀
        have := hwr _ q
        rw [ho] at this; cases this
      · obtain ⟨_, _, _, ho⟩ := tb₀
        have := hwr _ q
        rw [ho] at this; cases this
    · rw [passing_all]; simp; rw [sizeLine_eq]; omega
end
end Mine
end
section
open PySem PySem.Calls PySem.W PyProof.Rows
set_option Elab.async false
set_option maxRecDepth 100000
namespace Mine
section
variable {prog : Program} {w : World} {A : Around} {E : Value → Shared → Prop} {s : Shared} {N : Nat} {outer : List Env} {mg mb mC : Str → Option Value} {p d : Addr} {vs : List Value} {head : Value} {env : Env}
theorem special_own {name : Str} {f c : Addr} {q : Str} {st : Option Stmt} {clo : List (Str × Addr)} {dfl : Value} {r₀ : Option Value} {Q : Option Value → Shared → Prop} (T : AccCls mC s.heap) (P : Pil s.heap p d vs head) (hl : typeLookup (.type "list") name = pure r₀) (hf : mC name = some (.ref f)) (fn : IsFn s.heap f c q st clo dfl)
    (h : wpAny (model prog w) A (call (.ref f) [.ref p]) (fun v => Q (some v)) E s) : wpAny (model prog w) A (callSpecial? (.ref p) name) Q E s := by
  simp only [callSpecial?]
  refine wpAny_bind (special_acc T P hl ?_)
  rw [hf]
  simp only [Option.some_or]
  refine wpAny_holding (wpAny_bind ?_)
  unfold bindSpecial
  refine wpAny_bind (fn.type _ ?_)
  refine wpAny_pure ?_
  exact wpAny_bind (wpAny_mono h (fun v s' h' => wpAny_pure h') fun _ _ e => e)
open Builtin Builtin.Str in
theorem str_acc {prs : List (Str × Str)} {Q : Value → Shared → Prop} (T : AccTop mg mb mC s.heap) (P : Pil s.heap p d vs head) (hp : Prs s.heap vs prs) (tb : Tb s.heap aStrCode aStrTab) (hN : topN ≤ N) (hNs : N ≤ s.heap.objs.size) (hroom : A.depth + 1 < recursionLimit) (hu : A.in1.in1.units < cLine) (hh : A.handled = none) (hF : Frs N s.heap outer)
    (hz : (prs.map fun q => q.1.length + q.2.length).sum ≤ 100000) (hvz : vs.length ≤ 100000)
    (h : ∀ t tk, Ext N (· = aStrTab) s t → Tb t.heap aStrCode aStrTab → Q (.str (ptext prs) tk) t) : wpAny (model prog w) A (call (.type "str") [.ref p]) Q E s := by
  refine callType_codes (T := "str") (Bi := Builtin.«object.__init__») (Q₁ := fun r s₁ => ∃ y u, r = .str y u ∧ Q r s₁) PySem.F.called_str (PySem.F.typeCall_str_1 _) PySem.F.entry_object_init ?_ ?_
  · refine codeAny_of_tree ?_
    show wpAny _ A.in1.in1 (do checkBuiltinCall "str.__new__" ⟨[.type "str", .ref p], []⟩; again (.builtin "str.__new__" ⟨[.type "str", .ref p], []⟩)) _ _ s
    refine wpAny_bind (wpAny_of_eq (PySem.F.newCall_str_1 _) (wpAny_pure ⟨plainId_quiet (by decide +kernel) _, codeAny_builtin PySem.F.entry_str_new ?_⟩))
    rw [Around.under_plainId (by decide +kernel) _]
    rw [str_new_tree]
    refine wpAny_bind (wpAny_pure ?_)
    refine wpAny_bind (wpAny_of_eq isSubtype_str_str ?_)
    refine wpAny_bind ?_
    unfold PySem.Builtin.Str.strOf
    rw [show isExactStr (.ref p) = false from rfl]
    refine wpAny_bind (m := cRoomFor _ _) (wpAny_cRoomFor hu ?_)
    refine wpAny_bind (m := callSpecial? (.ref p) (Str.ofString "__str__")) (special_own (r₀ := some (.builtin "object.__str__")) T.c P (by rw [typeLookup_type, builtinLookup_eq_fast]; kernel_rfl) T.str T.fstr ?_)
    refine str_call T P hp tb hN hNs hroom hh hF hz hvz fun t tk X tb' => ?_
    exact wpAny_pure (wpAny_pure ⟨_, _, rfl, h t tk X tb'⟩)
  · rintro obj s₁ ⟨y, u, rfl, hq⟩
    exact ⟨typeIs_str _ _ _, PySem.F.args_object_init_2 _ _, object_init_meets PySem.F.called_str.init.lookup PySem.F.called_str.made (by decide) prog w A.in1 _ s₁ ⟨typeIs_str _ _ _, rfl, hq⟩⟩
end
end Mine
end
section
open PySem PySem.Calls PySem.W PyProof.Rows
set_option Elab.async false
set_option maxRecDepth 100000
namespace Mine
theorem entry_list_ga : entryFor table "list.__getattribute__" = some Builtin.«object.__getattribute__» := entryFor_alias (id' := "object.__getattribute__") (by kernel_rfl) (by decide +kernel) (by decide +kernel) (by kernel_rfl)
theorem slot_list_ga : Slot "list" "__getattribute__" "list.__getattribute__" :=
  .of (owner := "list") (n := "__getattribute__") (by rw [typeLookup_type, builtinLookup_eq_fast]; kernel_rfl) (by decide +kernel) (by decide +kernel) (by decide +kernel)
    (by first | exact .inl (by decide +kernel) | exact .inr (by decide +kernel)) (by rw [isSubtype_type]; kernel_rfl)
theorem args_list_ga (a b : Value) : argsOk "list.__getattribute__" ⟨[a, b], []⟩ := by unfold argsOk; kernel_rfl
section
variable {prog : Program} {w : World} {A : Around} {E : Value → Shared → Prop} {s : Shared} {N : Nat} {outer : List Env} {mg mb mC : Str → Option Value} {p d : Addr} {vs : List Value} {head : Value} {env : Env} {k : Int} {u : Tok}
theorem ga_body {tk : Tok} {Q : PySem.Fin → Shared → Prop} (T : AccCls mC s.heap) (hn : mC "_initial_size" = none) (P : Pil s.heap p d vs head) (h : Q (.done (.ret head)) s) : wpAny (model prog w) A (Builtin.«object.__getattribute__» ⟨[.ref p, .str "_initial_size" tk], []⟩) Q E s := by
  obtain ⟨n, sl, e⟩ := P.ob
  obtain ⟨mI, hI, hI1, -⟩ := P.ns
  obtain ⟨oC, cd, ho, hd, hdict⟩ := T.dc
  unfold Builtin.«object.__getattribute__»
  refine wpAny_bind (wpAny_of_eq (a := (.ref p, [.str "_initial_size" tk])) (by rfl) ?_)
  refine wpAny_bind (wpAny_of_eq (a := (Str.ofString "_initial_size")) (by rfl) ?_)
  refine wpAny_bind ?_
  show wpAny (model prog w) A (loadPart p (some headPart) >>= fun o => pure o.cls) _ E s
  refine wpAny_bind (wpAny_loadPart e (wpAny_pure ?_))
  refine wpAny_bind ?_
  unfold Builtin.ObjectAttr.find
  refine wpAny_bind (look_acc T (r := none) (by rw [typeLookup_type, builtinLookup_eq_fast]; kernel_rfl) ?_)
  rw [hn]
  refine wpAny_bind (wpAny_pure (wpAny_bind (wpAny_pure ?_)))
  show wpAny (model prog w) A (Builtin.ObjectAttr.ownThenClass (.ref p) _ none none) _ E s
  unfold Builtin.ObjectAttr.ownThenClass Builtin.ObjectAttr.inOwnDict Builtin.ObjectAttr.ownDict loadHead
  refine wpAny_bind (wpAny_bind (wpAny_bind (wpAny_loadPart e ?_)))
  show wpAny (model prog w) A (instanceDict p false) _ E s
  unfold instanceDict
  refine wpAny_bind (wpAny_loadPart e ?_)
  refine wpAny_bind ?_
  unfold classData
  refine wpAny_bind (wpAny_load ho ?_)
  rw [hd]
  refine wpAny_pure ?_
  rw [hdict]
  refine wpAny_pure ?_
  refine wpAny_nsGet hI ?_
  rw [hI1]
  exact wpAny_bind (wpAny_rule (wpAny_pure (wpAny_pure h)))
theorem attr_acc {ex : Bool} {Q : Value → Shared → Prop} (T : AccCls mC s.heap) (hn : mC "_initial_size" = none) (P : Pil s.heap p d vs (.int k u)) (h : Q (.int k u) { s with toks := s.toks + 1 }) : wpAny (model prog w) A (getAttr (.ref p) "_initial_size" ex) Q E s := by
  obtain ⟨n, sl, e⟩ := P.ob
  unfold getAttr getAttrBy
  refine wpAny_bind (wpAny_mkText (wpAny_holding (wpAny_bind ?_)))
  show wpAny (model prog w) A (loadPart p (some headPart) >>= fun o => pure o.cls) _ E _
  refine wpAny_bind (wpAny_loadPart e (wpAny_pure ?_))
  refine wpAny_bind (look_acc T slot_list_ga.lookup ?_)
  rw [T.ga]
  show wpAny (model prog w) A (getAttrByItsOwn (.ref p) (.str _ s.toks) (.ref aAcc) (.builtin "list.__getattribute__") true ex) _ _ _
  unfold getAttrByItsOwn hookBefore callGetattribute boundAndCalled
  refine wpAny_bind ?_
  show wpAny (model prog w) A (typeLookup (.ref aAcc) "__getattr__") _ _ _
  refine look_acc T PySem.F.plainAttrs_list.noGetattr ?_
  rw [T.gat]
  refine wpAny_bind (wpAny_attempt (wpAny_holding ?_))
  have : (ex && onTheHeap (.builtin "list.__getattribute__")) = false := by simp [onTheHeap]
  rw [this, if_neg Bool.false_ne_true]
  refine wpAny_bind (wpAny_of_eq (slot_list_ga.bind _) ?_)
  refine call_acc (n := "__getattribute__") T P (by decide +kernel) (.inl (by decide +kernel)) slot_list_ga.plain entry_list_ga (args_list_ga _ _) (ga_body T hn P ⟨_, rfl, ?_⟩)
  exact wpAny_pure h
end
end Mine
end
section
open PySem PySem.Calls PySem.W PyProof.Rows
set_option Elab.async false
set_option maxRecDepth 100000
namespace Mine
theorem walks_shift {prog : Program} {w : World} {A : Around} {I : Addr} {fp wr : List Addr} {G : Array GenState → Array GenState → Prop} {n : Nat} {P : Nat → Value → Prop} {St : Nat → Shared → Prop} (W : WalksS prog w A I fp wr G n P St) :
    WalksS prog w A I fp wr G (n + 1) (fun j v => match j with | 0 => False | j + 1 => P j v) (fun j s => match j with | 0 => False | j + 1 => St j s) where
  sub := W.sub
  grefl := W.grefl
  gtrans := W.gtrans
  frame := fun i s h' tk st ht hk => by
    cases i with
    | zero => exact st.elim
    | succ i => exact W.frame i s h' tk st ht hk
  item := fun i s Q E hi st hQ => by
    cases i with
    | zero => exact st.elim
    | succ i => exact W.item i s Q E (by omega) st hQ
  done := fun s Q E st hQ => W.done s Q E st hQ
  self := fun i s Q E st hQ => by
    cases i with
    | zero => exact st.elim
    | succ i => exact W.self i s Q E st hQ
noncomputable def valS (c : Int) (val : Nat → Int) : Nat → Int
  | 0 => c
  | j + 1 => val j
theorem preSum_valS (c : Int) (val : Nat → Int) : ∀ n, preSum (valS c val) (n + 1) = c + preSum val n
  | 0 => by simp [preSum, valS]
  | n + 1 => by
    show preSum (valS c val) (n + 1) + valS c val (n + 1) = c + (preSum val n + val n)
    rw [preSum_valS c val n]
    show c + preSum val n + val n = _
    omega
theorem args_sum2 (a b : Value) : argsOk "sum" ⟨[a, b], []⟩ := by unfold argsOk; kernel_rfl
section
variable {prog : Program} {w : World} {A : Around} {E : Value → Shared → Prop} {s : Shared}
theorem call_sum2 {I : Addr} {fp wr : List Addr} {G : Array GenState → Array GenState → Prop} {n : Nat} {P : Nat → Value → Prop} {St : Nat → Shared → Prop} {c : Int} {u : Tok} {Q : Value → Shared → Prop} (W : WalksS prog w A.in1 I fp wr G n P St) (hst : St 0 s) (hfp : ∀ b ∈ fp, b < s.heap.objs.size)
    (val : Nat → Int) (hval : ∀ i v, P i v → ∃ t, v = .int (val i) t) (h0 : InLong c) (hfit : ∀ j, j < n → InLong (val j) ∧ InLong (c + preSum val (j + 1)))
    (hQ : ∀ s' t', Moved wr G s s' → Q (.int (c + preSum val n) t') s') : wpAny (model prog w) A (call (.builtin "sum") [.ref I, .int c u]) Q E s := by
  refine call_function_tree PySem.F.kind_sum PySem.F.plain_sum PySem.F.entry_sum (args_sum2 _ _) ?_
  unfold Builtin.«sum»
  simp only [List.length_cons, List.length_nil]
  rw [if_neg (by decide)]
  refine wpAny_bind (wpAny_of_eq (show Builtin.Builtins.bindParams "sum" ["start"] 0 { pos := [.int c u] } = pure [some (.int c u)] from rfl) ?_)
  refine wpAny_bind (W.self 0 s _ _ hst ?_)
  have hc : (decide (-(2 ^ 63) ≤ c) && decide (c < 2 ^ 63)) = true := by simp only [Bool.and_eq_true, decide_eq_true_eq]; exact h0
  show wpAny _ A.in1 (if (_ : Bool) = true then _ else _) _ _ _
  split
  · refine wpAny_bind (wpAny_rule (wpAny_bind (wpAny_mkInt ?_)))
    refine wpAny_bind (wpAny_pure ?_)
    simp only [List.forIn_cons, List.forIn_nil]
    refine wpAny_bind (wpAny_bind (wpAny_bind (wpAny_isInstance (T := "int") (b := false) (typeIs_int _ _ _) PySem.sub_int_str ?_)))
    simp only [Bool.false_eq_true, if_false]
    refine wpAny_pure (wpAny_bind (wpAny_bind (wpAny_isInstance (T := "int") (b := false) (typeIs_int _ _ _) PySem.sub_int_bytes ?_)))
    simp only [Bool.false_eq_true, if_false]
    refine wpAny_pure (wpAny_bind (wpAny_bind (wpAny_isInstance (T := "int") (b := false) (typeIs_int _ _ _) PySem.sub_int_bytearray ?_)))
    simp only [Bool.false_eq_true, if_false]
    refine wpAny_pure (wpAny_pure ?_)
    refine wpAny_bind (wpAny_newObj_type ?_)
    have hSf : s.heap.objs.size ∉ fp := fun hm => Nat.lt_irrefl _ (hfp _ hm)
    have hone : preSum (valS c val) 1 = c := by simp [preSum, valS]
    refine wpAny_pure ⟨plainId_quiet PySem.F.plain_sum_loop _, codeAny_sum_loopS (walks_shift W) (valS c val) (fun i v hv => ?_) (fun j hj => ?_) s.heap.objs.size hSf n 1 _ s.toks 0 (by omega) (by omega)
      (W.frame 0 s _ _ hst (Nat.le_succ _) fun b _ o e => Heap.get?_push_of_some _ e) (by rw [hone]; exact Heap.get?_push_size _ rfl) fun s' t' hm => ?_⟩
    · cases i with
      | zero => exact hv.elim
      | succ i => exact hval i v hv
    · cases j with
      | zero => exact ⟨h0, by rw [hone]; exact h0⟩
      | succ j => rw [preSum_valS]; exact hfit j (by omega)
    · have := hQ s' t' (hm.drop_new (Nat.le_succ _))
      rw [← preSum_valS] at this
      exact this
  · rename_i hneg
    exact absurd hc hneg
end
end Mine
end
section
open PySem PySem.Calls PySem.W PyProof.Rows
set_option Elab.async false
set_option maxRecDepth 100000
namespace Mine
section
variable {M : Model} {A : Around} {E : Value → Shared → Prop} {s : Shared} {env : Env}
theorem A_Call_Name {x : Str} {np pos : Pos} {args : List Expr} {Q : Value → Shared → Prop}
    (h : wpAny M A (eval (.Name x np) env) (fun f s₁ => wpAny M A (callWith pos f [] (backTo pos (starEach args env)) []) Q E s₁) E s) : wpAny M A (eval (.Call (.Name x np) args [] pos) env) Q E s := by
  show wpAny M A (do callWith pos (← eval (.Name x np) env) [] (backTo pos (starEach args env)) (backToKw pos (keywordEach [] env))) Q E s
  exact wpAny_bind h
end
section
variable {prog : Program} {w : World} {A : Around} {E : Value → Shared → Prop} {s : Shared} {N : Nat} {outer : List Env} {mg mb mC : Str → Option Value} {p d : Addr} {vs : List Value} {env : Env} {k : Int} {u : Tok}
noncomputable def plen (prs : List (Str × Str)) : Nat := (prs.map fun q => q.1.length + q.2.length).sum
theorem preSum_eq (prs : List (Str × Str)) : ∀ n, n ≤ prs.length → preSum (fun i => match prs[i]? with | some q => ((q.1.length + q.2.length : Nat) : Int) | none => 0) n = (plen (prs.take n) : Int)
  | 0, _ => by simp [preSum, plen]
  | n + 1, h => by
    have hn : n < prs.length := by omega
    have e : prs[n]? = some prs[n] := List.getElem?_eq_getElem hn
    show preSum _ n + (match prs[n]? with | some q => ((q.1.length + q.2.length : Nat) : Int) | none => 0) = _
    rw [preSum_eq prs n (by omega), List.take_add_one, e]
    show ((plen (prs.take n) : Nat) : Int) + ((prs[n].1.length + prs[n].2.length : Nat) : Int) = ((plen (prs.take n ++ [prs[n]]) : Nat) : Int)
    have : plen (prs.take n ++ [prs[n]]) = plen (prs.take n) + (prs[n].1.length + prs[n].2.length) := by
      unfold plen
      rw [List.map_append, List.sum_append, List.map_cons, List.map_nil, List.sum_cons, List.sum_nil, Nat.add_zero]
    rw [this]
    omega
theorem plen_take (prs : List (Str × Str)) (n : Nat) : plen (prs.take n) ≤ plen prs := by
  have : plen prs = plen (prs.take n) + plen (prs.drop n) := by
    unfold plen
    rw [← List.sum_append, ← List.map_append, List.take_append_drop]
  omega
theorem len_call {prs : List (Str × Str)} {Q : Value → Shared → Prop} (T : AccTop mg mb mC s.heap) (P : Pil s.heap p d vs (.int k u)) (hp : Prs s.heap vs prs) (tb : Tb s.heap aLenCode aLenTab) (hN : topN ≤ N) (hNs : N ≤ s.heap.objs.size) (hroom : A.depth + 1 < recursionLimit) (hh : A.handled = none) (hF : Frs N s.heap outer)
    (hz : plen prs ≤ 100000) (hk : 0 ≤ k ∧ k ≤ 100000)
    (h : ∀ t tk, Ext N (· = aLenTab) s t → Tb t.heap aLenCode aLenTab → Q (.int (k + plen prs) tk) t) : wpAny (model prog w) A (call (.ref aLen) [.ref p]) Q E s := by
  refine A_enter (binds := [("self", .ref p)]) (Nat.lt_of_succ_lt hroom) hF hNs T.flen T.lim (fun fd h1 h2 h3 _ => BindsTo.of_eq ?_) (by decide) (locs rfl) fun env t₀ V _ S₀ X₀ _ => ?_
  · obtain ⟨nm, qn, pr, bd, sc, gl, cl, df, kw, dc, pm, an, co, ct, bi⟩ := fd
    simp only at h1 h2 h3
    subst h1 h2 h3
    rfl
  have hsc := V.sc
  have K₀ := Keep.of X₀ hN nofun
  have P₀ := P.ext X₀ id id
  have T₀ := T.keep K₀
  have hp₀ := hp.ext X₀ (fun _ _ z => z.elim)
  have tb₀ : Tb t₀.heap aLenCode aLenTab := tb.ext X₀ (Nat.lt_of_lt_of_le (by decide) hN) (Nat.lt_of_lt_of_le (by decide) hN) id id
  obtain ⟨ob, hb1, hb2, hb3, hb4, hb5⟩ := T₀.bmod
  refine wpAny_execs_cons (wpAny_Return_some (A_Call_Name (bname S₀.k (kd hsc rfl) (V.gl ▸ T₀.g) T₀.nsum (V.bi ▸ T₀.b) T₀.bsum ?_)))
  refine callWith_builtin rfl (A_evalArgs (A_items_cons (gen_pairs (F := fun i y => ∃ a b tk, prs[i]? = some (a, b) ∧ y = .int ((a.length + b.length : Nat) : Int) tk) S₀ T₀ P₀ hp₀ hh hroom hN (kd hsc rfl) rfl V.gl V.co tb₀ (by decide) hb1 (by decide) hb2 hb3 hb4 hb5 rfl rfl (by decide) (by decide) rfl rfl rfl (by rfl) ?_ ?_)))
  · intro A' E' i a b t1 t2 t m₂ C code hA hD hi hn hma hmb hk
    have hg : t.heap.Ns mainGlobals mg := let ⟨o, es, ep, ho, r⟩ := T₀.g; ⟨o, es, ep, hk _ _ (by decide) (by decide) ho, r⟩
    have hb : t.heap.Ns builtinsNs mb := let ⟨o, es, ep, ho, r⟩ := T₀.b; ⟨o, es, ep, hk _ _ (by decide) (by decide) ho, r⟩
    have hab : a.length + b.length ≤ 100000 := Nat.le_trans (le_sum_of (f := fun q => q.1.length + q.2.length) hi) hz
    refine wpAny_BinOp (A_Call_Name (bname rfl rfl (V.gl ▸ hg) T₀.nlen hb T₀.blen ?_))
    refine callWith_builtin rfl (A_evalArgs (A_items_cons (wpAny_Name (wpAny_loadName_local rfl rfl hn hma (A_items_nil (PySem.P.len_str (by omega) ?_))))))
    refine A_Call_Name (bname rfl rfl (V.gl ▸ hg) T₀.nlen hb T₀.blen ?_)
    refine callWith_builtin rfl (A_evalArgs (A_items_cons (wpAny_Name (wpAny_loadName_local rfl rfl hn hmb (A_items_nil (PySem.P.len_str (by omega) ?_))))))
    exact add_int ⟨⟨a, b, _, hi, by rw [Int.natCast_add]⟩, _, _, rfl, fun _ _ e => e⟩
  · intro a s₅ fp wr g St W hst hT hI hfp hwr X₅ tb₅
    refine A_items_cons ?_
    rw [arm_eval_Attribute]
    have S₅ := S₀.ext X₅ (fun b hb q => by
      have h1 := (S₀.frs.2 b hb).1
      rw [q] at h1
      exact absurd (Nat.lt_of_lt_of_le (show aLenTab < topN by decide) (Nat.le_trans hN h1)) (Nat.lt_irrefl _))
    refine wpAny_bind (S₅.ld (kd hsc rfl) (v := .ref p) rfl ?_)
    have hpT : p ≠ aLenTab := fun q => by
      obtain ⟨_, _, e⟩ := P₀.ob
      obtain ⟨_, _, _, e2⟩ := tb₀
      rw [q, e2] at e; cases e
    have hdT : d ≠ aLenTab := fun q => by
      obtain ⟨_, ⟨_, _, _, e, hd, _⟩, _⟩ := P₀.ns
      obtain ⟨_, _, _, e2⟩ := tb₀
      rw [q, e2] at e; cases e; cases hd
    have P₅ := P₀.ext X₅ hpT hdT
    have T₅ := T₀.keep (Keep.of X₅ hN fun b q => .inr (by rw [q]; unfold Tab; decide))
    refine wpAny_bind (wpAny_standAt (wpAny_bind (wpAny_holding (attr_acc T₅.c T₅.inis P₅ ?_))))
    refine wpAny_bind (wpAny_pure (wpAny_pure (A_items_nil ?_)))
    have hlen : (passing (fun _ => true) vs.toArray.size 0).length = prs.length := by rw [passing_all]; simp [hp.1]
    have hpos : ∀ n, ((plen (prs.take n) : Nat) : Int) ≤ 100000 := fun n => by have := plen_take prs n; omega
    refine call_sum2 (s := { s₅ with toks := s₅.toks + 1 }) W.of_in1.of_in1.of_in1 (W.frame 0 s₅ s₅.heap _ hst (Nat.le_succ _) fun _ _ _ e => e) hfp (fun i => match prs[i]? with | some q => ((q.1.length + q.2.length : Nat) : Int) | none => 0) (fun i v hv => ?_) ⟨by omega, by omega⟩ (fun j hj => ?_) fun s' t' hm => ?_
    · obtain ⟨i', hi', a', b', tk', h1, rfl⟩ := hv
      have : i' = i := by
        rw [passing_all] at hi'
        obtain ⟨_, q⟩ := List.getElem?_eq_some_iff.mp hi'
        simpa using q.symm
      subst this
      exact ⟨tk', by rw [h1]⟩
    · rw [hlen] at hj
      have e : prs[j]? = some prs[j] := List.getElem?_eq_getElem hj
      have h1 := le_sum_of (f := fun q : Str × Str => q.1.length + q.2.length) e
      have h2 : prs[j].1.length + prs[j].2.length ≤ 100000 := Nat.le_trans h1 hz
      rw [preSum_eq prs (j + 1) (by omega), e]
      have := hpos (j + 1)
      exact ⟨⟨by show _ ≤ ((prs[j].1.length + prs[j].2.length : Nat) : Int); omega, by show ((prs[j].1.length + prs[j].2.length : Nat) : Int) < _; omega⟩, by omega, by omega⟩
    · rw [hlen, preSum_eq prs prs.length (Nat.le_refl _), List.take_length]
      have X' : Ext N (· = aLenTab) s s' := (X₀.mono fun _ z => z.elim).trans ((X₅.toks (s₅.toks + 1)).moved hwr hm fun g' => g'.movedS hm)
      refine h _ _ X' (tb₅.up (fun o e => hm.heap _ _ (fun q => ?_) e) fun o e => hm.heap _ _ (fun q => ?_) e)
      · obtain ⟨_, ⟨_, _, _, _, _, _, _, _, _, _, ho, _⟩, _⟩ := tb₀
        have := hwr _ q
        rw [ho] at this; cases this
      · obtain ⟨_, _, _, ho⟩ := tb₀
        have := hwr _ q
        rw [ho] at this; cases this
end
end Mine
end
section
open PySem PySem.Calls PySem.W PyProof.Rows
set_option Elab.async false
set_option maxRecDepth 100000
namespace Mine
section
variable {prog : Program} {w : World} {A : Around} {E : Value → Shared → Prop} {s : Shared} {N : Nat} {outer : List Env} {mg mb mC : Str → Option Value} {p d : Addr} {vs : List Value} {env : Env} {k : Int} {u : Tok}
theorem len_acc {prs : List (Str × Str)} {Q : Value → Shared → Prop} (T : AccTop mg mb mC s.heap) (P : Pil s.heap p d vs (.int k u)) (hp : Prs s.heap vs prs) (tb : Tb s.heap aLenCode aLenTab) (hN : topN ≤ N) (hNs : N ≤ s.heap.objs.size) (hroom : A.depth + 1 < recursionLimit) (hh : A.handled = none) (hF : Frs N s.heap outer)
    (hz : plen prs ≤ 100000) (hk : 0 ≤ k ∧ k ≤ 100000)
    (h : ∀ t tk, Ext N (· = aLenTab) s t → Tb t.heap aLenCode aLenTab → Q (.int (k + plen prs) tk) t) : wpAny (model prog w) A (call (.builtin "len") [.ref p]) Q E s := by
  refine Calls.call_function_entry kind_len plain_len entry_len (args_len1 _) ?_
  unfold Builtin.«len»
  refine wpAny_bind (m := oneArg "len" _) (wpAny_pure ?_)
  refine wpAny_bind (m := callSpecial? (.ref p) (Str.ofString "__len__")) (special_own T.c P slot_list_len.lookup T.len T.flen ?_)
  refine len_call T P hp tb hN hNs hroom hh hF hz hk fun t tk X tb' => ?_
  refine wpAny_bind (wpAny_holding (wpAny_pure ?_))
  refine wpAny_bind (wpAny_letGo ?_)
  show wpAny _ _ (if k + ((plen prs : Nat) : Int) < 0 then _ else _) _ _ _
  rw [if_neg (by omega)]
  show wpAny _ _ (if k + ((plen prs : Nat) : Int) ≥ 2 ^ 63 then _ else _) _ _ _
  rw [if_neg (by omega)]
  exact wpAny_bind (wpAny_mkInt (wpAny_pure ⟨_, rfl, h _ _ (X.toks _) tb'⟩))
end
end Mine
end
section
open PySem PySem.Calls PySem.W PySem.W.X PyProof.Rows
set_option Elab.async false
set_option maxRecDepth 100000
namespace Mine
theorem ctor_end {s : Shared} {h : Heap} {news : List (Addr × Obj)} {a d : Addr} {dr : Drawn} {t tk : Nat} {Q : Value → Shared → Prop} {k : Int} {u : Tok} {n ep : Nat} {hash : Int} (D : Mem s.heap h [] news)
    (h1 : (a, (⟨.ref aAcc, some d, .seq #[] n, #[]⟩ : Obj)) ∈ news) (h2 : (d, (⟨.type "dict", none, .dict #[⟨hash, .str (Str.ofString "_initial_size") tk, .int k u⟩] ep, #[]⟩ : Obj)) ∈ news)
    (hq : ∀ t p d, Pil t.heap p d [] (.int k u) → (∀ b o, s.heap.get? b = some o → t.heap.get? b = some o) → t.os = s.os → t.gens = s.gens → s.heap.get? p = none → s.heap.get? d = none → Q (.ref p) t) : Q (.ref a) ⟨h, s.gens, dr, t, s.os⟩ := by
  refine hq _ a d ⟨⟨n, #[], (D.nw _ h1).1⟩, fun x => if x = Str.ofString "_initial_size" then some (.int k u) else none, ⟨_, _, ep, (D.nw _ h2).1, rfl, ?_, fun x => ?_⟩, if_pos rfl, fun x hx => if_neg hx⟩ (fun b o e => D.keep b o e ?_) rfl rfl (D.nw _ h1).2 (D.nw _ h2).2
  · intro e he
    simp at he
    subst he
    exact ⟨_, _, rfl⟩
  · unfold nsFind findBy
    by_cases q : x = Str.ofString "_initial_size"
    · subst q
      simp [Value.isStr]
    · have q' : (Str.ofString "_initial_size" == x) = false := beq_eq_false_iff_ne.mpr fun z => q z.symm
      simp [Value.isStr, q, q']
  · show (_ || true) = true
    rw [Bool.or_true]
end Mine
end
section
open PySem PySem.Calls PySem.W PyProof.Rows
set_option Elab.async false
set_option maxRecDepth 100000
namespace Mine
theorem args_list_new (C : Addr) (x : Value) : argsOk "list.__new__" ⟨[.ref C, x], []⟩ := by unfold argsOk; kernel_rfl
section
variable {prog : Program} {w : World} {A : Around} {E : Value → Shared → Prop} {h : Heap} {g : Array GenState} {d : Drawn} {t : Nat} {os : OsState}
variable {nm q : Str} {C N : Addr} {bs : List Value} {sn : List Str} {sub : List Value} {col : Option Bool} {dd : Option Addr} {k0 k1 k2 k3 k5 : Option Value}
theorem check_list_new {M : Model} {x : Value} {Q : Unit → Shared → Prop} (hC : h.get? C = some (excClassObj nm q C N bs [.type "list", .type "object"] true sn sub false col dd k0 k1 k2 k3 k5 "list.__new__")) (hq : Q () ⟨h, g, d, t, os⟩) :
    wpAny M A (checkBuiltinCall "list.__new__" ⟨[.ref C, x], []⟩) Q E ⟨h, g, d, t, os⟩ := by
  have hcont : (Value.ref C :: [Value.type "list", Value.type "object"]).contains (.type "list") = true := by rw [List.contains_cons, show [Value.type "list", Value.type "object"].contains (.type "list") = true from by decide, Bool.or_true]
  have hk : builtinKind "list.__new__" = some .builtinFn := by decide +kernel
  have hs : splitId "list.__new__" = some ("list", "__new__") := by decide +kernel
  have hargs : argsOk "list.__new__" ⟨[.ref C, x], []⟩ := args_list_new C x
  simp only [checkBuiltinCall, hk, hs]
  rw [if_pos (show (("__new__" : String) == "__new__") = true from rfl)]
  refine wpAny_bind (ks_wpAny_isType_cls hC rfl ?_)
  simp only [Bool.not_true, Bool.false_eq_true, if_false]
  refine wpAny_bind (wpAny_isSubtype_exc hC ?_)
  rw [hcont]
  simp only [Bool.not_true, Bool.false_eq_true, if_false]
  refine wpAny_bind (wpAny_staticBase_exc hC ?_)
  refine wpAny_bind (wpAny_madeBy_exc hC ?_)
  simp only [bne_self_eq_false, Bool.false_eq_true, if_false]
  cases hsig : Manifest.signature? "list.__new__" with
  | none => exact wpAny_pure hq
  | some sig =>
    simp only [argsOk, hsig] at hargs
    exact wpAny_of_eq hargs hq
theorem code_acc_new {x : Value} {R : Result → Shared → Prop} (hC : h.get? C = some (excClassObj nm q C N bs [.type "list", .type "object"] true sn sub false col dd k0 k1 k2 k3 k5 "list.__new__"))
    (hq : R (.ok (.ret (.ref (h.objs.size + 1)))) ⟨(h.push { cls := .type "dict", data := .dict #[] }).push { cls := .ref C, dict := some h.objs.size, data := .seq #[] }, g, d, t, os⟩) :
    codeAny (model prog w) A (.call (.builtin "list.__new__") ⟨[.ref C, x], []⟩) R ⟨h, g, d, t, os⟩ := by
  have hcont : (Value.ref C :: [Value.type "list", Value.type "object"]).contains (.type "list") = true := by rw [List.contains_cons, show [Value.type "list", Value.type "object"].contains (.type "list") = true from by decide, Bool.or_true]
  refine codeAny_of_tree ?_
  show wpAny _ A.in1 (do checkBuiltinCall "list.__new__" ⟨[.ref C, x], []⟩; again (.builtin "list.__new__" ⟨[.ref C, x], []⟩)) _ _ _
  refine wpAny_bind (check_list_new hC (wpAny_pure ⟨plainId_quiet PySem.F.plain_list_new _, codeAny_builtin_stack PySem.F.entry_list_new rfl fun p st => ?_⟩))
  rw [Around.under_plainId PySem.F.plain_list_new _]
  have hown := owner_list_new
  simp only [hown]
  refine wpAny_bind (ks_wpAny_isType_cls hC rfl ?_)
  simp only [Bool.not_true, Bool.false_eq_true, if_false]
  refine wpAny_bind (wpAny_isSubtype_exc hC ?_)
  rw [hcont]
  simp only [Bool.not_true, Bool.false_eq_true, if_false]
  refine wpAny_bind (wpAny_pure ?_)
  rw [if_neg (show ¬ ((!typeHasDict (Value.ref C)) = true) from Bool.false_ne_true)]
  refine wpAny_bind (wpAny_newObj_type ?_)
  dsimp only
  refine wpAny_bind ?_
  unfold newObj
  repeat wp_step
  show R _ _
  rw [Heap.size_push]
  exact hq
theorem call_acc_new {x : Value} {mN : Str → Option Value} {fI : Addr} {oI : Obj} {Q : Value → Shared → Prop} (hC : h.get? C = some (excClassObj nm q C N bs [.type "list", .type "object"] true sn sub false col dd k0 k1 k2 k3 k5 "list.__new__"))
    (hn : h.Ns N mN) (hi : mN "__init__" = some (.ref fI)) (hfI : h.get? fI = some oI) (hfc : oI.cls = .type "function")
    (hq : wpAny (model prog w) (A.under (.builtin "type.__call__" ⟨[.ref C, x], []⟩)) (call (.ref fI) [.ref (h.objs.size + 1), x]) (fun r s' => r = .none ∧ Q (.ref (h.objs.size + 1)) s') E
      ⟨(h.push { cls := .type "dict", data := .dict #[] }).push { cls := .ref C, dict := some h.objs.size, data := .seq #[] }, g, d, t, os⟩) :
    wpAny (model prog w) A (call (.ref C) [x]) Q E ⟨h, g, d, t, os⟩ := by
  have f1 := tc_lookup
  have f2 := tc_bind (.ref C)
  have hT : (⟨h, g, d, t, os⟩ : Shared).TypeIs (.ref C) "type" := ⟨_, hC, rfl⟩
  refine wpAny_call (codeAny_of_tree ?_)
  show wpAny _ _ (callAny (.ref C) _) _ _ _
  repeat (any_goals (first | assumption | with_reducible refine wpAny_loadPart_at hC ?_ | wp_step))
  refine ⟨rfl, ?_⟩
  refine codeAny_call_builtin_at (Code.quiet_builtin _ (by decide +kernel)) entry_typeCall (wpAny_check_type_call_sub hC ?_)
  show wpAny (model prog w) (A.under (Code.builtin "type.__call__" ⟨[.ref C, x], []⟩)) (Builtin.«type.__call__» ⟨[.ref C, x], []⟩) _ _ _
  generalize A.under (Code.builtin "type.__call__" ⟨[.ref C, x], []⟩) = A' at hq ⊢
  repeat (first | with_reducible refine wpAny_loadPart_at hC ?_ | with_reducible refine wpAny_madeBy_exc hC ?_ | wp_step)
  refine code_acc_new hC ?_
  show wpAny _ _ _ _ _ _
  have hC₁ := Heap.get?_push_of_some { cls := .ref C, dict := some h.objs.size, data := .seq #[] } (Heap.get?_push_of_some { cls := .type "dict", data := .dict #[] } hC)
  have hfI₁ := Heap.get?_push_of_some { cls := .ref C, dict := some h.objs.size, data := .seq #[] } (Heap.get?_push_of_some { cls := .type "dict", data := .dict #[] } hfI)
  have hn₁ : ((h.push { cls := .type "dict", data := .dict #[] }).push { cls := .ref C, dict := some h.objs.size, data := .seq #[] }).Ns N mN :=
    let ⟨o, es, ep, e, r⟩ := hn; ⟨o, es, ep, Heap.get?_push_of_some _ (Heap.get?_push_of_some _ e), r⟩
  have hget : ((h.push { cls := .type "dict", data := .dict #[] }).push { cls := .ref C, dict := some h.objs.size, data := .seq #[] }).get? (h.objs.size + 1) = some { cls := .ref C, dict := some h.objs.size, data := .seq #[] } := by heap_get
  have hcC : (Value.ref C :: [Value.type "list", Value.type "object"]).contains (.ref C) = true := by simp
  unfold isInstance
  repeat (first | with_reducible refine wpAny_loadPart_at hget ?_ | (with_reducible refine wpAny_isSubtype_exc hC₁ ?_; rw [hcC]) | wp_step)
  show wpAny _ _ (typeLookup (.ref C) _) _ _ _
  refine wpAny_typeLookup_exc hC₁ hn₁ PySem.F.mro_list PySem.F.slot_list_init.lookup ?_
  rw [hi]
  refine wpAny_holding (wpAny_bind ?_)
  unfold bindSpecial
  refine wpAny_bind (wpAny_typeOf (T := "function") ⟨_, hfI₁, hfc⟩ ?_)
  rw [if_pos (by decide)]
  refine wpAny_pure (wpAny_bind (wpAny_mono hq (fun r s' hr => ?_) fun _ _ x => x))
  obtain ⟨rfl, hQ⟩ := hr
  wp_walk
  exact hQ
end
end Mine
end
section
open PySem PySem.Calls PySem.W PyProof.Rows
set_option Elab.async false
set_option maxRecDepth 100000
namespace Mine
theorem sa_lookup : typeLookup (.type "list") "__setattr__" = pure (some (.builtin "object.__setattr__")) := by rw [typeLookup_type, builtinLookup_eq_fast]; kernel_rfl
theorem sa_refuse (self : Value) : refuseLoop self "__setattr__" [.type "list", .type "object"] = pure () := by kernel_rfl
section
variable {prog : Program} {w : World} {A : Around} {E : Value → Shared → Prop} {s : Shared} {mC : Str → Option Value} {p d : Addr} {v : Value} {dt : Data} {dd : Option Addr} {sl sd : Array (Option Value)}
theorem type_at {M : Model} {Q : Value → Shared → Prop} (e : s.heap.get? p = some ⟨.ref aAcc, dd, dt, sl⟩) (hq : Q (.ref aAcc) s) : wpAny M A (typeOf (.ref p)) Q E s := by
  show wpAny M A (loadPart p (some headPart) >>= fun o => pure o.cls) _ E s
  exact wpAny_bind (wpAny_loadPart e (wpAny_pure hq))
theorem mro_at {M : Model} {Q : List Value → Shared → Prop} (T : AccCls mC s.heap) (hq : Q [.ref aAcc, .type "list", .type "object"] s) : wpAny M A (mroOf (.ref aAcc)) Q E s := by
  obtain ⟨oC, cd, ho, hd, hm, hn⟩ := T.cls
  show wpAny M A (classData aAcc >>= fun c => pure c.mro) _ E s
  unfold classData
  refine wpAny_bind (wpAny_bind (wpAny_load ho ?_))
  rw [hd]
  exact wpAny_pure (wpAny_pure (hm ▸ hq))
theorem sub_at {M : Model} {x : Value} {Q : Bool → Shared → Prop} (T : AccCls mC s.heap) (hx : [Value.ref aAcc, .type "list", .type "object"].contains x = true) (hq : Q true s) : wpAny M A (isSubtype (.ref aAcc) x) Q E s := looks_isSub (M := M) T hx A Q E s (fun _ _ e => e) hq
theorem set_acc {Q : Unit → Shared → Prop} (T : AccCls mC s.heap) (hs : mC "__setattr__" = none) (hi : mC "_initial_size" = none) (e : s.heap.get? p = some ⟨.ref aAcc, some d, dt, sl⟩) (hod : s.heap.get? d = some { cls := .type "dict", data := .dict #[], slots := sd })
    (h : ∀ h' tk, h'.Ns d (fun x => if x = Str.ofString "_initial_size" then some v else none) → Heap.SameBut d s.heap h' → Q () { s with heap := h', toks := tk }) : wpAny (model prog w) A (setAttr (.ref p) "_initial_size" v) Q E s := by
  have SF := PySem.F.store_object
  unfold setAttr
  refine wpAny_bind (wpAny_mkText ?_)
  refine wpAny_bind ?_
  simp only [callSpecial?]
  refine wpAny_bind ?_
  unfold specialOf
  refine wpAny_bind (type_at e (look_acc T sa_lookup ?_))
  rw [hs]
  refine wpAny_holding (wpAny_bind (wpAny_of_eq (SF.slot.bind _) ?_))
  refine wpAny_bind (wpAny_call (codeAny_call_builtin SF.slot.plain SF.entry ?_))
  have sub : Looks (model prog w) s.heap (isInstance (.ref p) (.type "object")) true := fun A' Q' E' s' k q => by
    unfold isInstance
    exact wpAny_bind (type_at (k _ _ e) (looks_isSub T (by decide) A' Q' E' s' k q))
  refine @check_slot (model prog w) _ _ _ "object.__setattr__" "object" "__setattr__" (.ref p) [.str "_initial_size" s.toks, v] [] _ SF.kind SF.split sub (SF.args (.ref p) (.str "_initial_size" s.toks) v) ?_
  show wpAny (model prog w) A.in1 (Builtin.«object.__setattr__» ⟨[.ref p, .str "_initial_size" s.toks, v], []⟩) _ _ _
  rw [osa_eq, refuse_eq]
  refine wpAny_bind (wpAny_bind (type_at e (wpAny_bind (mro_at T ?_))))
  rw [refuseLoop_ref, sa_refuse]
  refine wpAny_pure (wpAny_bind (type_at e (wpAny_bind (look_acc T (r := none) (by rw [typeLookup_type, builtinLookup_eq_fast]; kernel_rfl) ?_))))
  rw [hi]
  refine wpAny_bind (wpAny_pure ?_)
  dsimp only
  obtain ⟨oC, cd, ho, hd, hdict⟩ := T.dc
  have hn : s.heap.Ns d (fun _ => none) := ⟨_, #[], 0, hod, rfl, fun e he => absurd he (by simp), fun _ => rfl⟩
  refine wpAny_bind (wpAny_pure (wpAny_bind (wpAny_bind (wpAny_loadPart e (wpAny_bind ?_)))))
  unfold classData
  refine wpAny_bind (wpAny_load ho ?_)
  rw [hd]
  refine wpAny_pure ?_
  rw [hdict]
  refine wpAny_pure (a := some d) (wpAny_bind (wpAny_pure (wpAny_bind ?_)))
  unfold nsSet
  refine wpAny_bind (wpAny_bind (wpAny_askSetting (wpAny_pure (wpAny_bind (wpAny_mkText (wpAny_bind (wpAny_loadPart hod ?_)))))))
  dsimp only
  rw [aRefKeyMayBeTheName_at, show (!(#[] : Array DictEntry).any (·.key.isStr (Str.ofString "_initial_size")) && (#[] : Array DictEntry).any (·.refKey)) = false from by simp]
  refine wpAny_updatePart hod ?_
  have put : ∀ (n : Str) (hs : Int) (k y : Value), Obj.putName n hs k y { cls := .type "dict", data := .dict #[], slots := sd } = { cls := .type "dict", data := .dict #[⟨hs, k, y⟩] 1, slots := sd } := fun n hs k y => by
    simp [Obj.putName_eq, Obj.putNameByArray]
  have D' := Heap.get?_update_self (Obj.putName (Str.ofString "_initial_size") (PyData.keyHash w.params (Str.ofString "_initial_size")) (.str (Str.ofString "_initial_size") (s.toks + 1)) v) hod (by rw [put]; rfl)
  rw [put] at D'
  refine wpAny_bind (wpAny_lookBehind D' (pastItsLine_dict (by rw [sizeLine_eq]; simp)) ?_)
  refine wpAny_pure (wpAny_pure (wpAny_pure (h _ _ ⟨_, _, 1, D', rfl, ?_, fun x => ?_⟩ (Heap.SameBut.update ..))))
  · intro e he
    simp at he
    subst he
    exact ⟨_, _, rfl⟩
  · unfold nsFind findBy
    by_cases q : x = Str.ofString "_initial_size"
    · subst q
      simp [Value.isStr]
    · have q' : (Str.ofString "_initial_size" == x) = false := beq_eq_false_iff_ne.mpr fun z => q z.symm
      simp [Value.isStr, q, q']
end
end Mine
end
section
open PySem PySem.Calls PySem.W PyProof.Rows
set_option Elab.async false
set_option maxRecDepth 100000
namespace Mine
theorem own_init : classOwn (.type "list") "__init__" = pure (some (.builtin "list.__init__")) := by kernel_rfl
theorem type_init : typeOf (.builtin "list.__init__") = pure (.type "wrapper_descriptor") := by show builtinType _ = _; rw [builtinType_eq_fast]; kernel_rfl
theorem checkArgs_init (v : Value) : checkBoundCall "list.__init__" ⟨[v], []⟩ = pure () := by kernel_rfl
section
variable {prog : Program} {w : World} {A : Around} {E : Value → Shared → Prop} {s : Shared} {N : Nat} {outer : List Env} {mg mb mC : Str → Option Value} {p d : Addr} {vs : List Value} {head : Value}
theorem bind_init {Q : Value → Shared → Prop} (T : AccCls mC s.heap) (P : Pil s.heap p d vs head)
    (h : Q (.ref s.heap.objs.size) { s with heap := s.heap.push { cls := .type "method-wrapper", data := .fields #[.builtin "list.__init__", .ref p] } }) : wpAny (model prog w) A (call (.builtin "wrapper_descriptor.__get__") [.builtin "list.__init__", .ref p, .ref aAcc]) Q E s := by
  refine wpAny_call_entry slot_wd_get (T := "wrapper_descriptor") type_init entry_wd_get ?_ (args_wd_get _ _ _)
  unfold Builtin.«wrapper_descriptor.__get__»
  refine wpAny_bind (wpAny_of_eq (a := (.builtin "list.__init__", some (.ref p), some (.ref aAcc))) (by rfl) ?_)
  refine wpAny_bind (wpAny_bind (wpAny_of_eq (a := ((Str.ofString "__init__"), Value.type "list")) (by kernel_rfl) ?_))
  refine wpAny_bind (isInst_acc T P ?_)
  refine wpAny_pure ?_
  exact wpAny_bind (wpAny_newObj_type (wpAny_pure ⟨_, rfl, h⟩) (by size_fits))
theorem init_body {A' : Around} {Q : PySem.Fin → Shared → Prop} (P : Pil s.heap p d [] head) (h : ∀ h', Pil h' p d [] head → Heap.SameBut p s.heap h' → Q (.done (.ret .none)) { s with heap := h' }) : wpAny (model prog w) A' (Builtin.«list.__init__» ⟨[.ref p], []⟩) Q E s := by
  obtain ⟨n, sl, e⟩ := P.ob
  unfold Builtin.«list.__init__»
  show wpAny (model prog w) A' (Builtin.List.listItems (.ref p) >>= _) Q E s
  unfold Builtin.List.listItems
  refine wpAny_bind (wpAny_bind (wpAny_seqItems e rfl (wpAny_pure ?_)))
  show wpAny (model prog w) A' (updateSeq p (fun _ => #[]) >>= _) Q E s
  refine wpAny_bind (wpAny_updateSeq e rfl ?_)
  refine wpAny_bind (wpAny_letGo (wpAny_pure (h _ (P.map _ _ (by simp)) (Heap.SameBut.update ..))))
end
end Mine
end
section
open PySem PySem.Calls PySem.W PyProof.Rows
set_option Elab.async false
set_option maxRecDepth 100000
namespace Mine
section
variable {prog : Program} {w : World} {A : Around} {E : Value → Shared → Prop} {s : Shared} {N : Nat} {outer : List Env} {mg mb mC : Str → Option Value} {p d : Addr} {vs : List Value} {x : Value}
theorem init_call {Q : Value → Shared → Prop} (T : AccTop mg mb mC s.heap) (hp : s.heap.get? p = some { cls := .ref aAcc, dict := some d, data := .seq #[] }) (hd : s.heap.get? d = some { cls := .type "dict", data := .dict #[] }) (hpN : N ≤ p) (hdN : N ≤ d)
    (hpf : p ∉ outer.filterMap (·.frame)) (hdf : d ∉ outer.filterMap (·.frame))
    (hf : FileOk prog s.heap aInitCode) (h3 : NoThird s.heap) (hN : topN ≤ N) (hNs : N ≤ s.heap.objs.size) (hroom : A.depth < recursionLimit) (hF : Frs N s.heap outer)
    (h : ∀ t, Pil t.heap p d [] x → Ext N (fun b => b = p ∨ b = d) s t → Q .none t) : wpAny (model prog w) A (call (.ref aInit) [.ref p, x]) Q E s := by
  obtain ⟨od, its, nd, hod, hits, hsz1⟩ := T.dfl
  obtain ⟨y, rfl⟩ : ∃ y, its = #[y] := by
    obtain ⟨l⟩ := its
    match l, hsz1 with
    | [y], _ => exact ⟨y, rfl⟩
  refine A_enterAt (binds := [("self", .ref p), ("initial_size", x)]) hroom hF hNs T.finit T.lim (fun fd h1 h2 h3 _ => ?_) (by decide) (locs rfl) fun env t₀ V _ S₀ X₀ _ => ?_
  · obtain ⟨nm, qn, pr, bd, sc, gl, cl, df, kw, dc, pm, an, co, ct, bi⟩ := fd
    simp only at h1 h2 h3
    subst h1 h2 h3
    exact BindsTo.of_defaults rfl hod hits (by rfl) (by rfl)
  have hsc := V.sc
  have K₀ := Keep.of X₀ hN nofun
  have T₀ := T.keep K₀
  have hp₀ := X₀.plain _ _ id hp (fun _ _ q => by cases q)
  obtain ⟨sd, hd₀⟩ := X₀.slots _ _ id hd
  refine ks_wpAt_execs_cons (ks_wpAt_Assign_Attr (PySem.wpAt_of_wpAny (S₀.ld (kd hsc rfl) (v := x) rfl (S₀.ld (kd hsc rfl) (v := .ref p) rfl (set_acc T₀.c T₀.setn T₀.inis hp₀ hd₀ fun h₁ tk₁ hn₁ hs₁ => ?_)))))
  have hpd : p ≠ d := fun q => by rw [q, hd] at hp; cases hp
  have hdF : d ∉ (env :: outer).filterMap (·.frame) := fun hm => by
    rw [List.filterMap_cons, V.fr] at hm
    rcases List.mem_cons.mp hm with q | q
    · exact absurd (Heap.lt_size hd) (by rw [q]; exact Nat.lt_irrefl _)
    · exact hdf q
  have hpF : p ∉ (env :: outer).filterMap (·.frame) := fun hm => by
    rw [List.filterMap_cons, V.fr] at hm
    rcases List.mem_cons.mp hm with q | q
    · exact absurd (Heap.lt_size hp) (by rw [q]; exact Nat.lt_irrefl _)
    · exact hpf q
  have S₁ := S₀.same (tk := tk₁) hs₁ hdF
  have X₁ : Ext N (fun b => b = p ∨ b = d) s { t₀ with heap := h₁, toks := tk₁ } := (X₀.mono fun _ z => z.elim).same (.inr ⟨.inr rfl, let ⟨o, _, _, e, _⟩ := hn₁; ⟨o, e⟩⟩) hs₁
  have P₁ : Pil h₁ p d [] x := ⟨⟨0, #[], (hs₁.2 p hpd).trans hp₀⟩, _, hn₁, if_pos rfl, fun y hy => if_neg hy⟩
  have K₁ : Keep s.heap h₁ := Keep.of X₁ hN fun b q => .inl (q.elim (fun z => by rw [z]; exact Nat.le_trans hN hpN) fun z => by rw [z]; exact Nat.le_trans hN hdN)
  have T₁ := T.keep K₁
  generalize hg : ({ t₀ with heap := h₁, toks := tk₁ } : Shared) = t₁ at S₁ X₁ ⊢
  have P₁' : Pil t₁.heap p d [] x := by rw [← hg]; exact P₁
  have K₁' : Keep s.heap t₁.heap := by rw [← hg]; exact K₁
  have T₁' := T.keep K₁'
  refine ks_wpAt_execs_cons (ks_wpAt_Expr_any (ks_wpAt_MethodCall (super_here T₁' P₁' (hf.keep K₁' (by decide) (by unfold Tab; decide)) T₁'.finit V S₁ rfl rfl (by decide) rfl rfl rfl fun t₂ so hso X₂ => ?_)) (quietEnv S₀.k))
  have P₂ := P₁'.ext X₂ id id
  have X₂' := X₁.trans (X₂.mono fun _ z => z.elim)
  have K₂ : Keep s.heap t₂.heap := Keep.of X₂' hN fun b q => .inl (q.elim (fun z => by rw [z]; exact Nat.le_trans hN hpN) fun z => by rw [z]; exact Nat.le_trans hN hdN)
  have T₂ := T.keep K₂
  refine super_method (id := "list.__init__") (kt := "method-wrapper") T₂.c P₂ (h3.keep K₂) hso (by decide) own_init type_init slot_wd_get.lookup (fun A' s' Q' e hq => ?_) ?_
  · exact bind_init (by rw [e]; exact T₂.c) (by rw [e]; exact P₂) hq
  · have X₃ : Ext N (fun b => b = p ∨ b = d) s { t₂ with heap := t₂.heap.push { cls := .type "method-wrapper", data := .fields #[.builtin "list.__init__", .ref p] }, toks := t₂.toks + 1 } := X₂'.push _
    have P₃ : Pil (t₂.heap.push { cls := .type "method-wrapper", data := .fields #[.builtin "list.__init__", .ref p] }) p d [] x := P₂.ext (N := N) (t := { t₂ with heap := t₂.heap.push { cls := .type "method-wrapper", data := .fields #[.builtin "list.__init__", .ref p] }, toks := t₂.toks + 1 }) (Ext.refl (W := fun _ => False) |>.push _) id id
    refine A_callBound (Heap.get?_push_size _ rfl) (.inl rfl) PySem.F.slot_list_init.plain PySem.F.entry_list_init (fun A' E' Q' hq => wpAny_of_eq (checkArgs_init _) hq) (init_body P₃ fun h' P' hs' => ⟨_, rfl, ?_⟩)
    exact PySem.wpAt_of_wpAny (wpAny_execs_nil (h _ P' (X₃.same (tk := t₂.toks + 1) (.inr ⟨.inl rfl, let ⟨_, _, e⟩ := P'.ob; ⟨_, e⟩⟩) hs')))
end
end Mine
end
section
open PySem PySem.Calls PySem.W PyProof.Rows
set_option Elab.async false
set_option maxRecDepth 100000
namespace Mine
noncomputable def Kp (F : Addr → Prop) (h h' : Heap) : Prop := ∀ b o, F b → h.get? b = some o → ((∀ es ep, o.data ≠ .dict es ep) → h'.get? b = some o) ∧ ∃ sl, h'.get? b = some { o with slots := sl }
theorem Kp.of_ext {N : Nat} {W : Addr → Prop} {s t : Shared} (X : Ext N W s t) : Kp (fun b => ¬ W b) s.heap t.heap := fun b o hb e => ⟨fun hd => X.plain b o hb e hd, X.slots b o hb e⟩
theorem Kp.of_keep {F : Addr → Prop} {h h' : Heap} (hk : ∀ b o, F b → h.get? b = some o → h'.get? b = some o) : Kp F h h' := fun b o hb e => ⟨fun _ => hk b o hb e, o.slots, hk b o hb e⟩
theorem Kp.of_but {a : Addr} {h h' : Heap} (hb : Heap.ExtBut a h h') : Kp (· ≠ a) h h' := .of_keep fun b o q e => hb b o q e
theorem Kp.mono {F G : Addr → Prop} {h h' : Heap} (k : Kp F h h') (hG : ∀ b, G b → F b) : Kp G h h' := fun b o hb e => k b o (hG b hb) e
theorem Kp.push {F : Addr → Prop} (h : Heap) (o : Obj) : Kp F h (h.push o) := .of_keep fun _ _ _ e => Heap.get?_push_of_some _ e
theorem Kp.refl {F : Addr → Prop} {h : Heap} : Kp F h h := .of_keep fun _ _ _ e => e
theorem Kp.trans {F : Addr → Prop} {h h' h'' : Heap} (k : Kp F h h') (l : Kp F h' h'') : Kp F h h'' := fun b o hb e => by
  obtain ⟨k1, sl, k2⟩ := k b o hb e
  obtain ⟨l1, sl', l2⟩ := l b _ hb k2
  exact ⟨fun hd => (l b o hb (k1 hd)).1 hd, sl', l2⟩
variable {F G : Addr → Prop} {h h' : Heap}
theorem Lst.kp {a : Addr} {vs : List Value} (l : Lst h a vs) (k : Kp F h h') (ha : F a) : Lst h' a vs := let ⟨n, e⟩ := l; ⟨n, (k a _ ha e).1 fun _ _ q => by cases q⟩
theorem Tup.kp {a : Addr} {vs : List Value} (l : Tup h a vs) (k : Kp F h h') (ha : F a) : Tup h' a vs := let ⟨n, e⟩ := l; ⟨n, (k a _ ha e).1 fun _ _ q => by cases q⟩
theorem ns_kp {a : Addr} {m : Str → Option Value} (l : h.Ns a m) (k : Kp F h h') (ha : F a) : h'.Ns a m := let ⟨o, es, ep, e, hd, r⟩ := l; let ⟨_, e'⟩ := (k a o ha e).2; ⟨_, es, ep, e', hd, r⟩
theorem cell_kp {a : Addr} {v : Option Value} (l : h.IsCell a v) (k : Kp F h h') (ha : F a) : h'.IsCell a v := let ⟨o, e, hd⟩ := l; ⟨o, (k a o ha e).1 (fun _ _ q => by rw [hd] at q; cases q), hd⟩
theorem Frs.kp {N : Nat} {l : List Env} (f : Frs N h l) (k : Kp F h h') (hw : ∀ b ∈ l.filterMap (·.frame), F b) : Frs N h' l := by
  refine ⟨?_, fun b hb => ⟨(f.2 b hb).1, fun o ho => ?_⟩⟩
  · obtain ⟨hl, -⟩ := f
    induction l with
    | nil => trivial
    | cons env rest ih =>
      obtain ⟨hk, ⟨L, o, hf, hn, ho, hd⟩, hr⟩ := hl
      rw [List.filterMap_cons, hf] at hw
      obtain ⟨sl, e⟩ := (k L o (hw L (List.mem_cons_self ..)) ho).2
      exact ⟨hk, ⟨L, _, hf, hn, e, hd⟩, ih (fun b q => hw b (List.mem_cons_of_mem _ q)) hr⟩
  · obtain ⟨_, o', ho', _⟩ := f.1.mem hb
    obtain ⟨sl, e⟩ := (k b o' (hw b hb) ho').2
    rw [e] at ho; cases ho
    exact (f.2 b hb).2 o' ho'
mutual
inductive Rd (F : Addr → Prop) (h : Heap) : Value → PyData → Prop
  | bool (b : Bool) : Rd F h (.bool b) (.bool b)
  | int (i : Int) (t : Tok) : Rd F h (.int i t) (.int i)
  | str (x : Str) (t : Tok) : Rd F h (.str x t) (.str x)
  | list {a : Addr} {vs : List Value} {xs : List PyData} : F a → Lst h a vs → RdAll F h vs xs → Rd F h (.ref a) (.list xs)
  | tuple {a : Addr} {vs : List Value} {xs : List PyData} : F a → Tup h a vs → RdAll F h vs xs → Rd F h (.ref a) (.tuple xs)
inductive RdAll (F : Addr → Prop) (h : Heap) : List Value → List PyData → Prop
  | nil : RdAll F h [] []
  | cons {v : Value} {d : PyData} {vs : List Value} {ds : List PyData} : Rd F h v d → RdAll F h vs ds → RdAll F h (v :: vs) (d :: ds)
end
mutual
theorem Rd.mono (hG : ∀ b, F b → G b) : ∀ {v : Value} {d : PyData}, Rd F h v d → Rd G h v d
  | _, _, .bool b => .bool b
  | _, _, .int i t => .int i t
  | _, _, .str x t => .str x t
  | _, _, .list a l r => .list (hG _ a) l (RdAll.mono hG r)
  | _, _, .tuple a l r => .tuple (hG _ a) l (RdAll.mono hG r)
theorem RdAll.mono (hG : ∀ b, F b → G b) : ∀ {vs : List Value} {ds : List PyData}, RdAll F h vs ds → RdAll G h vs ds
  | _, _, .nil => .nil
  | _, _, .cons a b => .cons (Rd.mono hG a) (RdAll.mono hG b)
end
mutual
theorem Rd.kp (k : Kp F h h') : ∀ {v : Value} {d : PyData}, Rd F h v d → Rd F h' v d
  | _, _, .bool b => .bool b
  | _, _, .int i t => .int i t
  | _, _, .str x t => .str x t
  | _, _, .list a l r => .list a (l.kp k a) (RdAll.kp k r)
  | _, _, .tuple a l r => .tuple a (l.kp k a) (RdAll.kp k r)
theorem RdAll.kp (k : Kp F h h') : ∀ {vs : List Value} {ds : List PyData}, RdAll F h vs ds → RdAll F h' vs ds
  | _, _, .nil => .nil
  | _, _, .cons a b => .cons (Rd.kp k a) (RdAll.kp k b)
end
theorem Rd.kp' {v : Value} {d : PyData} (r : Rd F h v d) (k : Kp G h h') (hF : ∀ b, F b → G b) : Rd F h' v d := r.kp (k.mono hF)
theorem RdAll.kp' {vs : List Value} {ds : List PyData} (r : RdAll F h vs ds) (k : Kp G h h') (hF : ∀ b, F b → G b) : RdAll F h' vs ds := r.kp (k.mono hF)
mutual
theorem Rd.live : ∀ {v : Value} {d : PyData}, Rd F h v d → Rd (fun a => F a ∧ ∃ o, h.get? a = some o) h v d
  | _, _, .bool b => .bool b
  | _, _, .int i t => .int i t
  | _, _, .str x t => .str x t
  | _, _, .list a l r => .list ⟨a, let ⟨_, e⟩ := l; ⟨_, e⟩⟩ l (RdAll.live r)
  | _, _, .tuple a l r => .tuple ⟨a, let ⟨_, e⟩ := l; ⟨_, e⟩⟩ l (RdAll.live r)
theorem RdAll.live : ∀ {vs : List Value} {ds : List PyData}, RdAll F h vs ds → RdAll (fun a => F a ∧ ∃ o, h.get? a = some o) h vs ds
  | _, _, .nil => .nil
  | _, _, .cons a b => .cons (Rd.live a) (RdAll.live b)
end
mutual
theorem Rd.reads : ∀ {v : Value} {d : PyData}, Rd F h v d → ∃ as, Reads h v d as
  | _, _, .bool b => ⟨_, .bool b⟩
  | _, _, .int i t => ⟨_, .int i t⟩
  | _, _, .str x t => ⟨_, .str x t⟩
  | _, _, .list _ l r => let ⟨_, e⟩ := l; let ⟨_, q⟩ := RdAll.reads r; ⟨_, .list e rfl rfl (by simpa using q)⟩
  | _, _, .tuple _ l r => let ⟨_, e⟩ := l; let ⟨_, q⟩ := RdAll.reads r; ⟨_, .tuple e rfl rfl (by simpa using q)⟩
theorem RdAll.reads : ∀ {vs : List Value} {ds : List PyData}, RdAll F h vs ds → ∃ as, ReadsAll h vs ds as
  | _, _, .nil => ⟨_, .nil⟩
  | _, _, .cons a b => let ⟨_, p⟩ := Rd.reads a; let ⟨_, q⟩ := RdAll.reads b; ⟨_, .cons p q⟩
end
theorem RdAll.length {vs : List Value} {ds : List PyData} (r : RdAll F h vs ds) : vs.length = ds.length := by
  induction vs generalizing ds with
  | nil => cases r; rfl
  | cons v vs ih => cases r with | cons a b => simp [ih b]
theorem RdAll.append {vs ws : List Value} {ds es : List PyData} (r : RdAll F h vs ds) (q : RdAll F h ws es) : RdAll F h (vs ++ ws) (ds ++ es) := by
  induction vs generalizing ds with
  | nil => cases r; exact q
  | cons v vs ih => cases r with | cons a b => exact .cons a (ih b)
theorem RdAll.one {v : Value} {d : PyData} (r : Rd F h v d) : RdAll F h [v] [d] := .cons r .nil
theorem RdAll.take {vs : List Value} {ds : List PyData} (r : RdAll F h vs ds) (k : Nat) : RdAll F h (vs.take k) (ds.take k) := by
  induction vs generalizing ds k with
  | nil => cases r; simpa using .nil
  | cons v vs ih =>
    cases r with | cons a b =>
    cases k with
    | zero => exact .nil
    | succ k => exact .cons a (ih b k)
theorem RdAll.drop {vs : List Value} {ds : List PyData} (r : RdAll F h vs ds) (k : Nat) : RdAll F h (vs.drop k) (ds.drop k) := by
  induction vs generalizing ds k with
  | nil => cases r; simpa using .nil
  | cons v vs ih =>
    cases r with | cons a b =>
    cases k with
    | zero => exact .cons a b
    | succ k => exact ih b k
theorem RdAll.get {vs : List Value} {ds : List PyData} (r : RdAll F h vs ds) {i : Nat} {d : PyData} (e : ds[i]? = some d) : ∃ v, vs[i]? = some v ∧ Rd F h v d := by
  induction vs generalizing ds i with
  | nil => cases r; simp at e
  | cons v vs ih =>
    cases r with | cons a b =>
    cases i with
    | zero => simp at e; subst e; exact ⟨v, rfl, a⟩
    | succ i => exact ih b (by simpa using e)
theorem Rd.ext {N : Nat} {W : Addr → Prop} {s t : Shared} {v : Value} {d : PyData} (r : Rd F s.heap v d) (X : Ext N W s t) (hF : ∀ b, F b → ¬ W b) : Rd F t.heap v d := r.kp' (.of_ext X) hF
theorem RdAll.ext {N : Nat} {W : Addr → Prop} {s t : Shared} {v : List Value} {d : List PyData} (r : RdAll F s.heap v d) (X : Ext N W s t) (hF : ∀ b, F b → ¬ W b) : RdAll F t.heap v d := r.kp' (.of_ext X) hF
theorem Rd.list_inv {v : Value} {xs : List PyData} (r : Rd F h v (.list xs)) : ∃ a vs, v = .ref a ∧ F a ∧ Lst h a vs ∧ RdAll F h vs xs := by cases r with | list a l q => exact ⟨_, _, rfl, a, l, q⟩
theorem Rd.tuple_inv {v : Value} {xs : List PyData} (r : Rd F h v (.tuple xs)) : ∃ a vs, v = .ref a ∧ F a ∧ Tup h a vs ∧ RdAll F h vs xs := by cases r with | tuple a l q => exact ⟨_, _, rfl, a, l, q⟩
theorem Rd.str_inv {v : Value} {x : Str} (r : Rd F h v (.str x)) : ∃ t, v = .str x t := by cases r; exact ⟨_, rfl⟩
theorem Rd.int_inv {v : Value} {x : Int} (r : Rd F h v (.int x)) : ∃ t, v = .int x t := by cases r; exact ⟨_, rfl⟩
noncomputable def OffSq (o : Obj) : Prop := (∀ vs n, o ≠ ⟨.type "list", none, .seq vs n, #[]⟩) ∧ ∀ vs n, o ≠ ⟨.type "tuple", none, .seq vs n, #[]⟩
theorem offSq_data {o : Obj} (h : ∀ vs n, o.data ≠ .seq vs n) : OffSq o := ⟨fun _ _ q => h _ _ (by rw [q]), fun _ _ q => h _ _ (by rw [q])⟩
theorem offSq_cls {o : Obj} (h1 : o.cls ≠ .type "list") (h2 : o.cls ≠ .type "tuple") : OffSq o := ⟨fun _ _ q => h1 (by rw [q]), fun _ _ q => h2 (by rw [q])⟩
theorem Rd.notSeq_both {W : Addr → Prop} (hW : ∀ a o, W a → h.get? a = some o → OffSq o) : (∀ {v : Value} {d : PyData}, Rd F h v d → Rd (fun a => F a ∧ ¬ W a) h v d) ∧ ∀ {v : List Value} {d : List PyData}, RdAll F h v d → RdAll (fun a => F a ∧ ¬ W a) h v d := by
  have key : (∀ a vs, Lst h a vs → ¬ W a) ∧ (∀ a vs, Tup h a vs → ¬ W a) := ⟨fun a vs ⟨_, e⟩ w => (hW a _ w e).1 _ _ rfl, fun a vs ⟨_, e⟩ w => (hW a _ w e).2 _ _ rfl⟩
  obtain ⟨k1, k2⟩ := key
  constructor
  · intro v d r
    refine Rd.rec (motive_1 := fun v d _ => Rd (fun a => F a ∧ ¬ W a) h v d) (motive_2 := fun v d _ => RdAll (fun a => F a ∧ ¬ W a) h v d) ?_ ?_ ?_ ?_ ?_ ?_ ?_ r
    · exact fun b => .bool b
    · exact fun i t => .int i t
    · exact fun i t => .str i t
    · exact fun a l _ q => .list ⟨a, k1 _ _ l⟩ l q
    · exact fun a l _ q => .tuple ⟨a, k2 _ _ l⟩ l q
    · exact .nil
    · exact fun _ _ a b => .cons a b
  · intro v d r
    refine RdAll.rec (motive_1 := fun v d _ => Rd (fun a => F a ∧ ¬ W a) h v d) (motive_2 := fun v d _ => RdAll (fun a => F a ∧ ¬ W a) h v d) ?_ ?_ ?_ ?_ ?_ ?_ ?_ r
    · exact fun b => .bool b
    · exact fun i t => .int i t
    · exact fun i t => .str i t
    · exact fun a l _ q => .list ⟨a, k1 _ _ l⟩ l q
    · exact fun a l _ q => .tuple ⟨a, k2 _ _ l⟩ l q
    · exact .nil
    · exact fun _ _ a b => .cons a b
theorem Rd.extK {N : Nat} {W : Addr → Prop} {s t : Shared} {v : Value} {d : PyData} (r : Rd F s.heap v d) (X : Ext N W s t) (hW : ∀ a o, W a → s.heap.get? a = some o → OffSq o) : Rd F t.heap v d :=
  (((Rd.notSeq_both hW).1 r).ext X fun _ q => q.2).mono fun _ q => q.1
theorem RdAll.extK {N : Nat} {W : Addr → Prop} {s t : Shared} {v : List Value} {d : List PyData} (r : RdAll F s.heap v d) (X : Ext N W s t) (hW : ∀ a o, W a → s.heap.get? a = some o → OffSq o) : RdAll F t.heap v d :=
  (((Rd.notSeq_both hW).2 r).ext X fun _ q => q.2).mono fun _ q => q.1
end Mine
end
section
open PySem PySem.Calls PySem.W PyProof.Rows
set_option Elab.async false
set_option maxRecDepth 100000
namespace Mine
noncomputable def upd (m : Str → Option Value) (x : Str) (v : Value) : Str → Option Value := fun y => if y = x then some v else m y
theorem upd_same {m : Str → Option Value} {x : Str} {v : Value} : upd m x v x = some v := if_pos rfl
theorem upd_ne {m : Str → Option Value} {x y : Str} {v : Value} (h : y ≠ x) : upd m x v y = m y := if_neg h
noncomputable def OffFr (o : Obj) : Prop := (∀ es ep, o.data ≠ .dict es ep) ∧ ∀ v, o.data ≠ .cell v
structure Sd (N : Nat) (env : Env) (fs : List Env) (s : Shared) (m : Str → Option Value) : Prop where
  frs : Frs N s.heap fs
  ns : ∃ ml, s.heap.Ns env.locals ml ∧ ∀ x, env.kindOf x = some .local → ml x = m x
  cel : ∀ x c, env.cells.lookup x = some c → s.heap.IsCell c (m x)
  lo : N ≤ env.locals
  clo : ∀ x c, env.cells.lookup x = some c → N ≤ c
  apart : ∀ x y c, env.cells.lookup x = some c → env.cells.lookup y = some c → x = y
  sep : ∀ x c, env.cells.lookup x = some c → env.kindOf x ≠ some .local
  k : env.scope.kind = .function
section
variable {N : Nat} {W : Addr → Prop} {s t : Shared} {env : Env} {fs : List Env} {m : Str → Option Value} {M : Model} {A : Around} {E : Value → Shared → Prop}
theorem Frs.dict {h : Heap} {l : List Env} (f : Frs N h l) {b : Addr} (hb : b ∈ l.filterMap (·.frame)) : ∃ o es ep, h.get? b = some o ∧ o.data = .dict es ep := by
  obtain ⟨_, o, ho, _⟩ := f.1.mem hb
  obtain ⟨es, ep, q⟩ := (f.2 b hb).2 o ho
  exact ⟨o, es, ep, ho, q⟩
theorem Sd.kp {F : Addr → Prop} (S : Sd N env fs s m) (k : Kp F s.heap t.heap) (hF : ∀ b o, s.heap.get? b = some o → ¬ OffFr o → F b) : Sd N env fs t m := by
  obtain ⟨ml, hn, hml⟩ := S.ns
  refine ⟨S.frs.kp k fun b hb => ?_, ⟨ml, ns_kp hn k ?_, hml⟩, fun x c hc => cell_kp (S.cel x c hc) k ?_, S.lo, S.clo, S.apart, S.sep, S.k⟩
  · obtain ⟨o, es, ep, ho, hd⟩ := S.frs.dict hb
    exact hF b o ho fun q => q.1 es ep hd
  · obtain ⟨o, es, ep, ho, hd, _⟩ := hn
    exact hF _ o ho fun q => q.1 es ep hd
  · obtain ⟨o, ho, hd⟩ := S.cel x c hc
    exact hF _ o ho fun q => q.2 _ hd
theorem Sd.kpOld {F : Addr → Prop} {s₀ : Shared} {m₀ : Str → Option Value} (S : Sd N env fs s m) (S₀ : Sd N env fs s₀ m₀) (k : Kp F s.heap t.heap) (hF : ∀ b o, s₀.heap.get? b = some o → F b) : Sd N env fs t m := by
  obtain ⟨ml, hn, hml⟩ := S.ns
  refine ⟨S.frs.kp k fun b hb => ?_, ⟨ml, ns_kp hn k ?_, hml⟩, fun x c hc => cell_kp (S.cel x c hc) k ?_, S.lo, S.clo, S.apart, S.sep, S.k⟩
  · obtain ⟨o, _, _, ho, _⟩ := S₀.frs.dict hb
    exact hF b o ho
  · obtain ⟨_, ⟨o, _, _, ho, _⟩, _⟩ := S₀.ns
    exact hF _ o ho
  · obtain ⟨o, ho, _⟩ := S₀.cel x c hc
    exact hF _ o ho
theorem Sd.ext (S : Sd N env fs s m) (X : Ext N W s t) (hW : ∀ b o, W b → s.heap.get? b = some o → OffFr o) : Sd N env fs t m :=
  S.kp (.of_ext X) fun b o e hn w => hn (hW b o w e)
theorem Sd.ext0 (S : Sd N env fs s m) (X : Ext N (fun _ => False) s t) : Sd N env fs t m := S.ext X fun _ _ z => z.elim
theorem Sd.toks (S : Sd N env fs s m) (tk : Nat) : Sd N env fs { s with toks := tk } m := ⟨S.frs, S.ns, S.cel, S.lo, S.clo, S.apart, S.sep, S.k⟩
theorem Sd.push (S : Sd N env fs s m) (o : Obj) {tk : Nat} : Sd N env fs { s with heap := s.heap.push o, toks := tk } m := S.ext0 (Ext.refl.push o)
theorem Sd.but (S : Sd N env fs s m) {h' : Heap} {a : Addr} {tk : Nat} (hs : Heap.ExtBut a s.heap h') (ha : ∀ o, s.heap.get? a = some o → OffFr o) : Sd N env fs { s with heap := h', toks := tk } m :=
  S.kp (t := { s with heap := h', toks := tk }) (.of_but hs) fun b o e hn q => hn (ha o (q ▸ e))
theorem Sd.same (S : Sd N env fs s m) {h' : Heap} {a : Addr} {tk : Nat} (hs : Heap.SameBut a s.heap h') (ha : ∀ o, s.heap.get? a = some o → OffFr o) : Sd N env fs { s with heap := h', toks := tk } m := S.but hs.extBut ha
theorem off_lst {h : Heap} {a : Addr} {vs : List Value} (l : Lst h a vs) : ∀ o, h.get? a = some o → OffFr o := fun o e => by
  obtain ⟨_, e'⟩ := l
  rw [e'] at e; cases e
  exact ⟨(fun _ _ q => by cases q), (fun _ q => by cases q)⟩
theorem Sd.ld {x : Str} {pos : Pos} {v : Value} {Q : Value → Shared → Prop} (S : Sd N env fs s m) (hl : env.kindOf x = some .local) (hv : m x = some v) (h : Q v s) (hd : (x == ("__debug__" : Str)) = false := by decide) :
    wpAny M A (eval (.Name x pos) env) Q E s := let ⟨_, hn, hml⟩ := S.ns; wpAny_Name (wpAny_loadName_local S.k hl hn ((hml x hl).trans hv) h) hd
theorem Sd.ldc {x : Str} {pos : Pos} {v : Value} {c : Addr} {Q : Value → Shared → Prop} (S : Sd N env fs s m) (hl : env.kindOf x = some .cell) (hc : env.cells.lookup x = some c) (hv : m x = some v) (h : Q v s) (hd : (x == ("__debug__" : Str)) = false := by decide) :
    wpAny M A (eval (.Name x pos) env) Q E s := wpAny_Name (wpAny_loadName_cell S.k hl hc (hv ▸ S.cel x c hc) h) hd
theorem Frs.dict_put {l : List Env} {h h' : Heap} {L : Addr} {m : Str → Option Value} (f : Frs N h l) (hs : Heap.SameBut L h h') (hn : h'.Ns L m) : Frs N h' l := by
  obtain ⟨o', es, ep, ho', hd', -⟩ := hn
  have one : ∀ l : List Env, h.FunFrames {} l → h'.FunFrames {} l := by
    intro l
    induction l with
    | nil => intro _; trivial
    | cons e rest ih =>
      rintro ⟨hk, ⟨L', o, hf, hn, ho, hd⟩, hr⟩
      refine ⟨hk, ?_, ih hr⟩
      by_cases q : L' = L
      · subst q
        exact ⟨L', o', hf, hn, ho', fun vs z => by rw [hd'] at z; cases z⟩
      · exact ⟨L', o, hf, hn, (hs.2 L' q).trans ho, hd⟩
  refine ⟨one _ f.1, fun b hb => ⟨(f.2 b hb).1, fun o ho => ?_⟩⟩
  by_cases q : b = L
  · subst q
    rw [ho'] at ho; cases ho
    exact ⟨es, ep, hd'⟩
  · exact (f.2 b hb).2 o ((hs.2 b q).symm.trans ho)
theorem Sd.cellNe (S : Sd N env fs s m) {x : Str} {c : Addr} (hc : env.cells.lookup x = some c) : c ≠ env.locals := fun q => by
  obtain ⟨o, ho, hd⟩ := S.cel x c hc
  obtain ⟨_, ⟨o', _, _, ho', hd', _⟩, _⟩ := S.ns
  rw [q, ho'] at ho; cases ho
  rw [hd'] at hd; cases hd
theorem Sd.st {x : Str} {v : Value} {Q : Unit → Shared → Prop} (S : Sd N env fs s m) (hl : env.kindOf x = some .local)
    (h : ∀ t, Sd N env fs t (upd m x v) → Ext N (· = env.locals) s t → t.heap.objs.size = s.heap.objs.size → Q () t) : wpAny M A (storeName env x v) Q E s := by
  obtain ⟨ml, hns, hml⟩ := S.ns
  refine wpAny_storeName_local hl hns (fun h' hn hs => h _ ⟨S.frs.dict_put hs hn, ⟨_, hn, fun y hy => ?_⟩, fun y c hc => ?_, S.lo, S.clo, S.apart, S.sep, S.k⟩ (Ext.refl.same (.inr ⟨rfl, let ⟨o, _, _, ho, _⟩ := hn; ⟨o, ho⟩⟩) hs) hs.1) (by rw [S.k]; rfl)
  · unfold upd
    split
    · rfl
    · exact hml y hy
  · have hyx : y ≠ x := fun q => S.sep y c hc (q ▸ hl)
    rw [upd_ne hyx]
    exact (S.cel y c hc).sameBut hs (S.cellNe hc)
theorem Sd.st' {x : Str} {v : Value} {Q : Unit → Shared → Prop} (S : Sd N env fs s m) (hl : env.kindOf x = some .local)
    (h : ∀ h', Sd N env fs { s with heap := h', toks := s.toks + 1 } (upd m x v) → Heap.SameBut env.locals s.heap h' → Ext N (· = env.locals) s { s with heap := h', toks := s.toks + 1 } → Q () { s with heap := h', toks := s.toks + 1 }) : wpAny M A (storeName env x v) Q E s := by
  obtain ⟨ml, hns, hml⟩ := S.ns
  refine wpAny_storeName_local hl hns (fun h' hn hs => h h' ⟨S.frs.dict_put hs hn, ⟨_, hn, fun y hy => ?_⟩, fun y c hc => ?_, S.lo, S.clo, S.apart, S.sep, S.k⟩ hs (Ext.refl.same (.inr ⟨rfl, let ⟨o, _, _, ho, _⟩ := hn; ⟨o, ho⟩⟩) hs)) (by rw [S.k]; rfl)
  · unfold upd
    split
    · rfl
    · exact hml y hy
  · have hyx : y ≠ x := fun q => S.sep y c hc (q ▸ hl)
    rw [upd_ne hyx]
    exact (S.cel y c hc).sameBut hs (S.cellNe hc)
theorem Sd.stc {x : Str} {v : Value} {c : Addr} {Q : Unit → Shared → Prop} (S : Sd N env fs s m) (hl : env.kindOf x = some .cell) (hc : env.cells.lookup x = some c)
    (h : ∀ t, Sd N env fs t (upd m x v) → Ext N (· = c) s t → t.heap.objs.size = s.heap.objs.size → Q () t) : wpAny M A (storeName env x v) Q E s := by
  obtain ⟨ml, hns, hml⟩ := S.ns
  refine wpAny_storeName_cell S.k hl hc (S.cel x c hc) fun h' hc' hs => h _ ⟨S.frs.same hs fun hm => ?_, ⟨ml, hns.sameBut hs (Ne.symm (S.cellNe hc)), fun y hy => ?_⟩, fun y c' hy => ?_, S.lo, S.clo, S.apart, S.sep, S.k⟩ (Ext.refl.same (.inr ⟨rfl, let ⟨o, ho, _⟩ := hc'; ⟨o, ho⟩⟩) hs) hs.1
  · obtain ⟨o, ho, hd⟩ := S.cel x c hc
    obtain ⟨o', _, _, ho', hd'⟩ := S.frs.dict hm
    rw [ho'] at ho; cases ho
    rw [hd'] at hd; cases hd
  · have hyx : y ≠ x := fun q => S.sep x c hc (q ▸ hy)
    rw [upd_ne hyx]; exact hml y hy
  · by_cases q : y = x
    · subst q
      rw [hc] at hy; cases hy
      rw [upd_same]; exact hc'
    · rw [upd_ne q]
      exact (S.cel y c' hy).sameBut hs fun z => q (S.apart y x c (z ▸ hy) hc)
theorem Std.sd {outer : List Env} (S : Std N env outer s m) (hc : env.cells = []) : Sd N env (env :: outer) s m :=
  ⟨S.frs, ⟨m, S.ns, fun _ _ => rfl⟩, (fun x c h => by rw [hc] at h; cases h), S.low, (fun x c h => by rw [hc] at h; cases h), (fun x y c h => by rw [hc] at h; cases h), (fun x c h => by rw [hc] at h; cases h), S.k⟩
theorem Sd.g {x : Str} {pos : Pos} {v : Value} {mg : Str → Option Value} {Q : Value → Shared → Prop} (S : Sd N env fs s m) (hx : env.kindOf x = some .globalImplicit) (hg : s.heap.Ns env.globals mg) (hv : mg x = some v) (h : Q v s)
    (hd : (x == ("__debug__" : Str)) = false := by decide) : wpAny M A (eval (.Name x pos) env) Q E s := gname S.k hx hg hv h hd
theorem Sd.b {x : Str} {pos : Pos} {v : Value} {mg mb : Str → Option Value} {Q : Value → Shared → Prop} (S : Sd N env fs s m) (hx : env.kindOf x = some .globalImplicit) (hg : s.heap.Ns env.globals mg) (hm : mg x = none) (hb : s.heap.Ns env.builtins mb) (hv : mb x = some v) (h : Q v s)
    (hd : (x == ("__debug__" : Str)) = false := by decide) : wpAny M A (eval (.Name x pos) env) Q E s := bname S.k hx hg hm hb hv h hd
end
end Mine
end
section
open PySem PySem.Calls PySem.W PyProof.Rows
set_option Elab.async false
set_option maxRecDepth 100000
namespace Mine
noncomputable def itCls : List String := ["list_iterator", "tuple_iterator", "range_iterator", "str_iterator", "str_ascii_iterator"]
structure Src (prog : Program) (w : World) (A : Around) (I : Addr) (fp : List Addr) (n : Nat) (P : Nat → Value → Prop) (St : Nat → Heap → Prop) : Prop where
  w : Walks prog w A I fp [I] n P St
  mem : I ∈ fp
  nd : ∀ i h, St i h → ∀ b ∈ fp, ∃ o, h.get? b = some o ∧ OffFr o
  it : ∀ i h, St i h → ∃ o vs c, h.get? I = some o ∧ o.data = .fields vs ∧ o.cls = .type c ∧ c ∈ itCls
theorem off_fields {o : Obj} {vs : Array Value} (h : o.data = .fields vs) : OffFr o := ⟨(fun _ _ q => by rw [h] at q; cases q), (fun _ q => by rw [h] at q; cases q)⟩
theorem off_seq {o : Obj} {vs : Array Value} {n : Nat} (h : o.data = .seq vs n) : OffFr o := ⟨(fun _ _ q => by rw [h] at q; cases q), (fun _ q => by rw [h] at q; cases q)⟩
section
variable {prog : Program} {w : World} {A : Around}
theorem Src.list (hh : A.handled = none) (I l : Addr) (hne : l ≠ I) (items : Array Value) :
    Src prog w A I [I, l] items.size (fun i v => items[i]? = some v) (fun i h => h.IsListIter I l i ∧ h.IsList l items) :=
  ⟨Walks.list hh I l hne items, by simp, fun i h st b hb => by
    rcases List.mem_cons.mp hb with rfl | hb
    · obtain ⟨o, e, _, hd⟩ := st.1; exact ⟨o, e, off_fields hd⟩
    · obtain rfl := List.mem_singleton.mp hb
      obtain ⟨o, e, _, n, hd⟩ := st.2; exact ⟨o, e, off_seq hd⟩, fun i h st => by
    obtain ⟨o, e, hc, hd⟩ := st.1; exact ⟨o, _, _, e, hd, hc, by decide⟩⟩
theorem Src.tuple (hh : A.handled = none) (I l : Addr) (hne : l ≠ I) (items : Array Value) :
    Src prog w A I [I, l] items.size (fun i v => items[i]? = some v) (fun i h => h.IsTupleIter I l i ∧ h.IsTuple l items) :=
  ⟨Walks.tuple hh I l hne items, by simp, fun i h st b hb => by
    rcases List.mem_cons.mp hb with rfl | hb
    · obtain ⟨o, e, _, hd⟩ := st.1; exact ⟨o, e, off_fields hd⟩
    · obtain rfl := List.mem_singleton.mp hb
      obtain ⟨o, e, _, n, hd⟩ := st.2; exact ⟨o, e, off_seq hd⟩, fun i h st => by
    obtain ⟨o, e, hc, hd⟩ := st.1; exact ⟨o, _, _, e, hd, hc, by decide⟩⟩
theorem Src.range (hh : A.handled = none) (I : Addr) (a c : Int) (n : Nat) :
    Src prog w A I [I] n (fun i v => ∃ t, v = .int (a + i * c) t) (fun i h => IsRangeIter h I (a + (i : Nat) * c) ((n : Int) - (i : Nat)) c) :=
  ⟨Walks.range hh I a c n, by simp, fun i h st b hb => by
    obtain rfl := List.mem_singleton.mp hb
    exact ⟨_, st, off_fields rfl⟩, fun i h st => ⟨_, _, _, st, rfl, rfl, by decide⟩⟩
theorem src_str {E : Value → Shared → Prop} {s : Shared} {x : Str} {t : Tok} {Q : Value → Shared → Prop}
    (hQ : ∀ (o : Obj) (St : Nat → Heap → Prop), (∀ A' : Around, A'.handled = none → Src prog w A' s.heap.objs.size [s.heap.objs.size] x.cps.size (SignAt x) St) → St 0 (s.heap.push o) →
      Q (.ref s.heap.objs.size) { s with heap := s.heap.push o }) : wpAny (model prog w) A (pyIter (.str x t)) Q E s := by
  cases ha : x.cps.all (· < 128)
  · exact wpAny_pyIter_wide ha (hQ _ _ (fun A' hA => ⟨Walks.strWide hA _ x t, by simp, (fun i h st b hb => by
      obtain rfl := List.mem_singleton.mp hb
      obtain ⟨o, e, _, hd⟩ := st
      exact ⟨o, e, off_fields hd⟩), (fun i h st => by
      obtain ⟨o, e, hc, hd⟩ := st
      exact ⟨o, _, _, e, hd, hc, by decide⟩)⟩) ⟨_, Heap.get?_push_size _ rfl, rfl, rfl⟩)
  · exact wpAny_pyIter_ascii ha (hQ _ _ (fun A' hA => ⟨Walks.strAscii hA _ x t, by simp, (fun i h st b hb => by
      obtain rfl := List.mem_singleton.mp hb
      obtain ⟨o, e, _, hd⟩ := st
      exact ⟨o, e, off_fields hd⟩), (fun i h st => by
      obtain ⟨o, e, hc, hd⟩ := st
      exact ⟨o, _, _, e, hd, hc, by decide⟩)⟩) ⟨_, Heap.get?_push_size _ rfl, rfl, rfl⟩)
variable {E : Value → Shared → Prop} {s t : Shared} {I : Addr} {fp : List Addr} {n : Nat} {P : Nat → Value → Prop} {St : Nat → Heap → Prop} {N : Nat} {env : Env} {fs : List Env} {W : Addr → Prop} {R : Result → Shared → Prop}
theorem Src.go (S : Src prog w A I fp n P St) {i : Nat} (st : St i s.heap) {target : Expr} {v : Value} {Q : Unit → Shared → Prop} (h : Q () s) : wpAny (model prog w) A (letOwnedTupleGo target (.ref I) v) Q E s := by
  obtain ⟨o, vs, c, ho, hd, hc, hm⟩ := S.it i s.heap st
  have hcl : ∀ b : Bool, (["enumerate", "zip", "dict_itemiterator", "dict_reverseitemiterator", "odict_iterator", "itertools.zip_longest", "itertools.pairwise"].contains c && b) = false := fun b => by
    have : ["enumerate", "zip", "dict_itemiterator", "dict_reverseitemiterator", "odict_iterator", "itertools.zip_longest", "itertools.pairwise"].contains c = false := by
      unfold itCls at hm
      simp only [List.mem_cons, List.not_mem_nil, or_false] at hm
      rcases hm with rfl | rfl | rfl | rfl | rfl <;> decide
    rw [this]; rfl
  unfold letOwnedTupleGo
  cases target <;> first
    | exact wpAny_pure h
    | (cases v <;> first
        | exact wpAny_pure h
        | (refine wpAny_bind (wpAny_load ho ?_)
           rw [hc, hd]
           simp only [hcl, Bool.false_eq_true, if_false]
           exact wpAny_pure h))
theorem Src.frame (S : Src prog w A I fp n P St) {i : Nat} (st : St i s.heap) (X : Ext N W s t) (hW : ∀ b ∈ fp, ¬ W b) : St i t.heap :=
  S.w.frame i _ _ st fun b hb o e => X.plain b o (hW b hb) e fun es ep q => by
    obtain ⟨o', e', hoff⟩ := S.nd i _ st b hb
    rw [e'] at e; cases e
    exact hoff.1 es ep q
theorem for_src {target : Expr} {body : List Stmt} {m : Str → Option Value} {t₀ : Shared} (J : Nat → Shared → (Str → Option Value) → Prop) (hI : Src prog w A I fp n P St) (S : Sd N env fs s m) (hst : St 0 s.heap) (X : Ext N W t₀ s) (hIf : t₀.heap.get? I = none)
    (hfp : ∀ b ∈ fp, ¬ W b) (hJ : J 0 s m) (stab : ∀ i t t' m, J i t m → Kp (· ≠ I) t.heap t'.heap → J i t' m)
    (turn : ∀ i t m v, i < n → P i v → J i t m → Sd N env fs t m → Ext N W t₀ t →
      wpC (model prog w) A (assign target env v) (fun _ t₁ => wpC (model prog w) A (execs body env) (fun f t' => f = .next ∧ ∃ m', Sd N env fs t' m' ∧ J (i + 1) t' m' ∧ Ext N W t t') (fun _ _ => False) t₁) (fun _ _ => False) t)
    (fin : ∀ t m, J n t m → Sd N env fs t m → Ext N W t₀ t → R (.ok .next) t) : codeC (model prog w) A (.forLoop target (.ref I) body [] env) R s := by
  refine C_forLoop (fun k t => ∃ i m, i + k = n ∧ Sd N env fs t m ∧ J i t m ∧ St i t.heap ∧ Ext N W t₀ t) ?_ n ⟨0, m, by omega, S, hJ, hst, X⟩
  rintro k t ⟨i, m, hik, S, hJ, hst, X⟩
  have hoff : ∀ o, t.heap.get? I = some o → OffFr o := fun o e => by
    obtain ⟨o', vs, c, e', hd, _⟩ := hI.it i _ hst
    rw [e'] at e; cases e
    exact off_fields hd
  by_cases hlt : i < n
  · refine C_any (hI.w.item i t _ _ hlt hst fun v h' tk hP hst' hk => ?_)
    have hb : Heap.ExtBut I t.heap h' := fun b o q e => hk b o (fun z => q (List.mem_singleton.mp z)) e
    have S' := S.but (tk := tk) hb hoff
    have X' := X.but (tk := tk) (.inl hIf) hb
    have J' := stab i t { t with heap := h', toks := tk } m hJ (.of_but hb)
    refine C_any (hI.go (i := i + 1) hst' ?_)
    refine C_mono (turn i _ m v hlt hP J' S' X') (fun _ t₁ h₁ => C_mono h₁ (fun f t₂ h₂ => ?_) fun _ _ z => z) fun _ _ z => z
    obtain ⟨rfl, m', S₂, J₂, X₂⟩ := h₂
    exact ⟨k - 1, by omega, i + 1, m', by omega, S₂, J₂, hI.frame hst' X₂ hfp, X'.trans X₂⟩
  · have hin : i = n := by omega
    subst hin
    refine C_any (hI.w.done t _ _ hst fun h' tk hk => ?_)
    have hb : Heap.ExtBut I t.heap h' := fun b o q e => hk b o (fun z => q (List.mem_singleton.mp z)) e
    exact fin _ m (stab i t { t with heap := h', toks := tk } m hJ (.of_but hb)) (S.but (tk := tk) hb hoff) (X.but (tk := tk) (.inl hIf) hb)
end
end Mine
end
section
open PySem PySem.Calls PySem.W PyProof.Rows
set_option Elab.async false
set_option maxRecDepth 100000
namespace Mine
section
variable {M : Model} {A : Around} {E : Value → Shared → Prop} {s : Shared} {env : Env}
theorem C_ite {α : Type} {c : Prop} [Decidable c] {x y : Sem α} {Q : α → Shared → Prop} (h1 : c → wpC M A x Q E s) (h2 : ¬ c → wpC M A y Q E s) : wpC M A (if c then x else y) Q E s := by
  split
  · exact h1 ‹_›
  · exact h2 ‹_›
theorem C_standIf {α : Type} {c : Prop} [Decidable c] {pos : Pos} {k : PUnit → Sem α} {Q : α → Shared → Prop} (h : wpC M A (k ()) Q E s) : wpC M A (if c then (standAt pos >>= k) else k ()) Q E s := by
  split
  · exact C_bind (C_standAt h)
  · exact h
theorem C_tests_nil {Q : Bool → Shared → Prop} (h : Q true s) :
    wpC M A (forIn ([] : List Expr) true fun c r => if r = true then do let ok ← isTrue c env (eval c env); pure (ForInStep.yield ok) else pure (ForInStep.yield r)) Q E s := C_pure h
theorem C_tests_one {c : Expr} {Q : Bool → Shared → Prop} (h : wpC M A (isTrue c env (eval c env)) Q E s) :
    wpC M A (forIn [c] true fun c r => if r = true then do let ok ← isTrue c env (eval c env); pure (ForInStep.yield ok) else pure (ForInStep.yield r)) Q E s := by
  simp only [List.forIn_cons, List.forIn_nil, if_true]
  exact C_bind (C_bind (C_q h fun b s' hb => C_pure (C_pure hb)))
end
section
variable {prog : Program} {w : World} {A : Around} {E : Value → Shared → Prop} {R : Result → Shared → Prop} {s : Shared} {env : Env}
theorem codeC_compLoop {elt target iter : Expr} {ifs : List Expr} {scope : Scope} {pos : Pos} {it acc : Value} {cenv : Env} (I : Nat → Shared → Prop)
    (turn : ∀ n s, I n s → wpC (model prog w) A (pyNext it) (fun r s₁ => match r with
      | none => R (.ok .next) s₁
      | some v => wpC (model prog w) A (letOwnedTupleGo target it v) (fun _ s₁' => wpC (model prog w) A (assign target cenv v) (fun _ s₂ =>
          wpC (model prog w) A (forIn ifs true fun c r => if r = true then do let ok ← isTrue c cenv (eval c cenv); pure (ForInStep.yield ok) else pure (ForInStep.yield r)) (fun ok s₃ =>
            if ok = true then wpC (model prog w) A (eval elt cenv) (fun x s₄ =>
              wpC (model prog w) A (call (.builtin "list.append") [acc, x]) (fun _ s₅ => ∃ m, m < n ∧ I m s₅) (fun _ _ => False) s₄) (fun _ _ => False) s₃
            else ∃ m, m < n ∧ I m s₃) (fun _ _ => False) s₂) (fun _ _ => False) s₁') (fun _ _ => False) s₁) (fun _ _ => False) s)
    (n : Nat) (h : I n s) : codeC (model prog w) A (.compLoop (.ListComp elt [⟨target, iter, ifs, 0⟩] scope pos) 0 it acc cenv) R s := by
  induction n using Nat.strongRecOn generalizing s with
  | ind n ih =>
    refine codeC_of_tree ?_
    rw [Around.under_of_weight rfl]
    show wpC _ A ((compTurn (.ListComp elt [⟨target, iter, ifs, 0⟩] scope pos) 0 it acc cenv).onRaise (fun x => do noteFrame x cenv; theTreesLotGoes x)) _ _ s
    refine C_onRaise ?_
    rw [compTurn_list]
    refine C_bind (C_standAt (C_bind (C_mono (turn n s h) (fun r s₁ h₁ => ?_) fun _ _ z => z.elim)))
    cases r with
    | none => exact C_pure h₁
    | some v =>
      refine C_bind (C_mono h₁ (fun _ s₁' h₁' => C_bind (C_mono h₁' (fun _ s₂ h₂ => C_bind (C_mono h₂ (fun ok s₃ h₃ => ?_) fun _ _ z => z.elim)) fun _ _ z => z.elim)) fun _ _ z => z.elim)
      cases ok with
      | true =>
        simp only [if_true] at h₃ ⊢
        refine C_bind (C_bind (C_mono h₃ (fun x s₄ h₄ => C_bind (C_mono h₄ (fun _ s₅ h₅ => ?_) fun _ _ z => z.elim)) fun _ _ z => z.elim))
        obtain ⟨m, hm, hI⟩ := h₅
        exact C_pure (C_pure ⟨rfl, ih m hm hI⟩)
      | false =>
        simp only [Bool.false_eq_true, if_false] at h₃ ⊢
        obtain ⟨m, hm, hI⟩ := h₃
        exact C_pure ⟨rfl, ih m hm hI⟩
theorem codeC_compStart {elt target iter : Expr} {ifs : List Expr} {scope : Scope} {pos : Pos} {it acc : Value} {cenv : Env}
    (h0 : codeC (model prog w) A (.compLoop (.ListComp elt [⟨target, iter, ifs, 0⟩] scope pos) 0 it acc cenv) R s)
    (h : wpC (model prog w) A (pyIter it) (fun it' s' => codeC (model prog w) A (.compLoop (.ListComp elt [⟨target, iter, ifs, 0⟩] scope pos) 0 it' acc cenv) R s') (fun _ _ => False) s) :
    codeC (model prog w) A (.compStart (.ListComp elt [⟨target, iter, ifs, 0⟩] scope pos) 0 it acc cenv) R s := by
  refine codeC_of_tree ?_
  rw [Around.under_of_weight rfl]
  show wpC _ _ ((compStart (.ListComp elt [⟨target, iter, ifs, 0⟩] scope pos) 0 it acc cenv).onRaise (fun x => do noteFrame x cenv; standAt theWindowsPlace)) _ _ s
  refine C_onRaise ?_
  unfold compStart
  show wpC _ _ (ask >>= _) _ _ s
  refine C_bind (C_any (wpAny_askSetting ?_))
  refine C_ite (fun _ => ?_) fun _ => ?_
  · first
      | exact C_bind (C_pure (C_pure (And.intro rfl h0)))
      | exact C_pure (And.intro rfl h0)
  · refine C_bind (C_rule ?_)
    show wpC _ _ (standAt iter.pos >>= _) _ _ s
    exact C_bind (C_standAt (C_bind (C_mono h (fun it' s' h' => C_pure (And.intro rfl h')) fun _ _ z => z.elim)))
noncomputable def CPost (M : Model) (A : Around) (E : Value → Shared → Prop) (use : Option (Value → Sem Unit)) (Q : Value → Shared → Prop) (acc : Value) (C : Addr) (r : Result) (s' : Shared) : Prop :=
  match r, use with
  | .ok _, none => ∃ m, s'.heap.Ns C m ∧ ∀ h', Heap.SameBut C s'.heap h' → Q acc { s' with heap := h' }
  | .ok _, some u => wpC M A (u acc) (fun _ s'' => ∃ m, s''.heap.Ns C m ∧ ∀ h', Heap.SameBut C s''.heap h' → Q .none { s'' with heap := h' }) E s'
  | .error _, _ => False
theorem C_comprehension {M : Model} {e : Expr} {scope : Scope} {pos : Pos} {newAcc first : Sem Value} {g : Comprehension} {gs : List Comprehension} {cl : List (Str × Addr)} {use : Option (Value → Sem Unit)}
    {Q : Value → Shared → Prop}
    (hcl : clausesOf e = g :: gs) (hs : ∀ x, foldedSetIterable g.iter env x = pure x) (hclos : closureFor scope env = pure cl)
    (hkind : scope.kind = .function) (hnames : ∀ x ∈ scope.names, x.2 = .local → scope.names.lookup x.1 = some .local)
    (h : wpC M A first (fun x s₁ => wpC M A (pyIter x) (fun it s₂ => wpC M A newAcc (fun acc s₃ =>
      wpC M A (newFunctionEnv scope env.globals cl [] env.qual none .none (some env)) (fun cenv s₄ =>
        codeC M A (.compStart e 0 it acc { cenv with scope := relabel scope env }) (CPost M A E use Q acc cenv.locals) s₄) E s₃) E s₂) E s₁) E s) :
    wpC M A (comprehension e scope env pos newAcc false first use) Q E s := by
  unfold comprehension
  rw [hclos, hcl]
  refine C_bind (C_q h (fun x s₁ h₁ => C_bind (C_standAt (C_bind ?_))))
  refine C_any (wpAny_of_eq (hs x) ?_)
  refine C_bind (C_holding (C_q h₁ fun it s₂ h₂ => C_standIf (C_bind (C_q h₂ fun acc s₃ h₃ => C_bind (C_pure (C_bind (C_q h₃ fun cenv s₄ h₄ => ?_)))))))
  dsimp only
  have hv : ∀ x ∈ (scope.names.filter fun x => (x.2 == .local || x.2 == .cell) && x.1 != (".0" : Str)).reverse, x.2 = .local →
      Env.kindOf { cenv with scope := relabel scope env } x.1 = some .local := fun x hx hl => lookup_relabel_local (hnames x (List.mem_filter.mp (List.mem_reverse.mp hx)).1 hl)
  have hv' : ∀ x ∈ (scope.names.filter fun x => (x.2 == .local || x.2 == .cell) && x.1 != (".0" : Str)).reverse.drop 1 ++ (scope.names.filter fun x => (x.2 == .local || x.2 == .cell) && x.1 != (".0" : Str)).reverse.take 1,
      x.2 = .local → Env.kindOf { cenv with scope := relabel scope env } x.1 = some .local := fun x hx hl => by
    rcases List.mem_append.mp hx with h1 | h1
    · exact hv x (List.mem_of_mem_drop h1) hl
    · exact hv x (List.mem_of_mem_take h1) hl
  refine C_holding (C_bind (C_attempt (C_holding (C_mono (C_run (E := fun _ _ => False) (Q := fun f s' => CPost M A E use Q acc cenv.locals (.ok f) s') (codeC_mono h₄ fun r s' hr => ?_)) (fun f s' hr => ?_) fun _ _ z => z.elim))))
  · cases r with
    | ok f => exact hr
    | error x => cases use <;> exact hr
  · cases use with
    | none =>
      obtain ⟨m, hn, hr⟩ := hr
      exact C_bind (C_holding (C_any (wpAny_comp_letGo (cenv := { cenv with scope := relabel scope env }) hkind _ s' m hv hn fun h' m' _ hs' => C_pure (hr h' hs'))))
    | some u =>
      refine C_bind (C_rule (C_bind (C_holding (C_q hr fun _ s'' hr' => ?_))))
      obtain ⟨m, hn, hr'⟩ := hr'
      exact C_bind (C_any (wpAny_comp_letGo (cenv := { cenv with scope := relabel scope env }) hkind _ s'' m hv' hn fun h' m' _ hs' => C_pure (hr' h' hs')))
end
end Mine
end
section
open PySem PySem.Calls PySem.W PyProof.Rows
set_option Elab.async false
set_option maxRecDepth 100000
namespace Mine
theorem IsCell.uniq {h : Heap} {c : Addr} {u v : Option Value} (x : h.IsCell c u) (y : h.IsCell c v) : u = v := by
  obtain ⟨o, e, d⟩ := x
  obtain ⟨o', e', d'⟩ := y
  rw [e] at e'; cases e'
  rw [d] at d'; cases d'
  rfl
section
variable {prog : Program} {w : World} {A : Around} {E : Value → Shared → Prop} {s s₂ : Shared} {env : Env} {N : Nat} {fs : List Env} {m : Str → Option Value} {I : Addr} {fp : List Addr} {n : Nat} {P : Nat → Value → Prop} {St : Nat → Heap → Prop}
theorem append_lst {l : Addr} {vs : List Value} {x : Value} {Q : Value → Shared → Prop} (hl : Lst s.heap l vs) (hz : vs.length ≤ 1000000)
    (hQ : ∀ h', Lst h' l (vs ++ [x]) → Heap.SameBut l s.heap h' → Q .none { s with heap := h' }) : wpAny (model prog w) A (call (.builtin "list.append") [.ref l, x]) Q E s := by
  obtain ⟨n, e⟩ := id hl
  refine wpAny_list_append_plain (items := vs.toArray) ⟨n, e⟩ (fun h' hp hs => hQ h' ?_ hs) (by rw [sizeLine_eq, List.size_toArray]; omega)
  obtain ⟨n', e'⟩ := hp
  exact ⟨n', by rw [e']; simp⟩
noncomputable def doneOf (ds : Nat → Option PyData) (i : Nat) : List PyData := (List.range i).filterMap ds
theorem doneOf_succ (ds : Nat → Option PyData) (i : Nat) : doneOf ds (i + 1) = doneOf ds i ++ (ds i).toList := by
  unfold doneOf
  rw [List.range_succ, List.filterMap_append]
  cases h : ds i <;> simp [h]
theorem comp_loop {elt target iter : Expr} {ifs : List Expr} {scope : Scope} {pos : Pos} {cenv : Env} {D : Addr} {W : Addr → Prop} {R : Result → Shared → Prop} {Fu : Addr → Prop} {J : (Str → Option Value) → Prop} (ds : Nat → Option PyData)
    (hI : Src prog w A I fp n P St) (hIf : s.heap.get? I = none) (hDf : s.heap.get? D = none) (hWf : ∀ b, W b → s.heap.get? b = none) (hn : n ≤ 1000000) (hFu : ∀ a, Fu a → ∃ o, s.heap.get? a = some o)
    (hfpD : ∀ b ∈ fp, b ≠ D) (hfpW : ∀ b ∈ fp, ¬ W b) (hDW : ¬ W D) (hWe : ∀ t m', Sd N cenv fs t m' → ∀ b, W b → ∃ o, t.heap.get? b = some o) (hJ : ∀ t m', Ext N (fun _ => False) s t → Sd N cenv fs t m' → J m')
    (item : ∀ t i v m', i < n → P i v → Ext N (fun _ => False) s t → Sd N cenv fs t m' → J m' →
      wpC (model prog w) A (assign target cenv v) (fun _ t₁ =>
        wpC (model prog w) A (forIn ifs true fun c r => if r = true then do let ok ← isTrue c cenv (eval c cenv); pure (ForInStep.yield ok) else pure (ForInStep.yield r)) (fun ok t₂ =>
          if ok = true then wpC (model prog w) A (eval elt cenv) (fun y t₃ => ∃ d m'', ds i = some d ∧ Rd (fun a => t.heap.get? a = none ∨ Fu a) t₃.heap y d ∧ Sd N cenv fs t₃ m'' ∧ Ext N W t t₃) (fun _ _ => False) t₂
          else ds i = none ∧ ∃ m'', Sd N cenv fs t₂ m'' ∧ Ext N W t t₂) (fun _ _ => False) t₁) (fun _ _ => False) t)
    (fin : ∀ t m', Ext N (fun _ => False) s t → Sd N cenv fs t m' → Rd (fun a => (s.heap.get? a = none ∨ Fu a) ∧ ¬ W a) t.heap (.ref D) (.list (doneOf ds n)) → R (.ok .next) t)
    {t : Shared} {m' : Str → Option Value} (hst : St 0 t.heap) (hD : Lst t.heap D []) (S' : Sd N cenv fs t m') (Xt : Ext N (fun _ => False) s t) :
    codeC (model prog w) A (.compLoop (.ListComp elt [⟨target, iter, ifs, 0⟩] scope pos) 0 (.ref I) (.ref D) cenv) R t := by
  refine codeC_compLoop (fun k t => ∃ i us m', i + k = n ∧ St i t.heap ∧ Lst t.heap D us ∧ us.length ≤ i ∧ RdAll (fun a => (s.heap.get? a = none ∨ Fu a) ∧ a ≠ I ∧ a ≠ D ∧ ¬ W a) t.heap us (doneOf ds i) ∧ Sd N cenv fs t m' ∧ Ext N (fun _ => False) s t)
    ?_ n ⟨0, [], _, by omega, hst, hD, Nat.le_refl _, .nil, S', Xt⟩
  rintro k t ⟨i, us, m', hik, hst', hD', hul, hR', S', X'⟩
  have hIoff : ∀ o, t.heap.get? I = some o → OffFr o := fun o e => by
    obtain ⟨o', vs, c, e', hd, _⟩ := hI.it i _ hst'
    rw [e'] at e; cases e
    exact off_fields hd
  by_cases hlt : i < n
  · refine C_any (hI.w.item i t _ _ hlt hst' fun v h₃ tk hP hst₃ hk => ?_)
    have hb : Heap.ExtBut I t.heap h₃ := fun b o q e => hk b o (fun z => q (List.mem_singleton.mp z)) e
    have S₃ := S'.but (tk := tk) hb hIoff
    have X₃ := X'.but (tk := tk) (.inl hIf) hb
    have hD₃ : Lst h₃ D us := hD'.but hb (fun q => hfpD I hI.mem q.symm)
    have hR₃ := hR'.kp' (Kp.of_but hb) fun b q => q.2.1
    refine C_any (hI.go (i := i + 1) hst₃ ?_)
    have hDe : ∃ o, h₃.get? D = some o := let ⟨_, e⟩ := hD₃; ⟨_, e⟩
    have hIe : ∃ o, h₃.get? I = some o := let ⟨o, _, _, e, _⟩ := hI.it _ _ hst₃; ⟨o, e⟩
    refine C_mono (item _ i v m' hlt hP X₃ S₃ (hJ _ _ X₃ S₃)) (fun _ t₁ h₁' => C_mono h₁' (fun ok t₂ h₂ => ?_) fun _ _ z => z) fun _ _ z => z
    have after : ∀ t₃, Ext N W { t with heap := h₃, toks := tk } t₃ → St (i + 1) t₃.heap ∧ Lst t₃.heap D us ∧ RdAll (fun a => (s.heap.get? a = none ∨ Fu a) ∧ a ≠ I ∧ a ≠ D ∧ ¬ W a) t₃.heap us (doneOf ds i) ∧ Ext N (fun _ => False) s t₃ := fun t₃ Y =>
      ⟨hI.frame (s := { t with heap := h₃, toks := tk }) hst₃ Y hfpW, Lst.ext (s := { t with heap := h₃, toks := tk }) hD₃ Y hDW, RdAll.ext (s := { t with heap := h₃, toks := tk }) hR₃ Y (fun b q => q.2.2.2), X₃.trans' Y fun b q => .inl (hWf b q)⟩
    cases ok with
    | true =>
      simp only [if_true] at h₂ ⊢
      refine C_mono h₂ (fun y t₃ h₃' => ?_) fun _ _ z => z
      obtain ⟨d, m'', hd, hy, S₄, Y⟩ := h₃'
      obtain ⟨a1, a2, a3, a4⟩ := after t₃ Y
      refine C_any (append_lst a2 (by omega) fun h₅ hl₅ hs₅ => ?_)
      refine ⟨k - 1, by omega, i + 1, us ++ [y], m'', by omega, ?_, hl₅, by simp; omega, ?_, S₄.same (tk := t₃.toks) hs₅ (off_lst a2), a4.but (tk := t₃.toks) (.inl hDf) hs₅.extBut⟩
      · exact hI.w.frame _ _ _ a1 fun b hb o e => hs₅.extBut b o (hfpD b hb) e
      · rw [doneOf_succ, hd]
        have hy' : Rd (fun a => (s.heap.get? a = none ∨ Fu a) ∧ a ≠ I ∧ a ≠ D ∧ ¬ W a) t₃.heap y d := by
          refine hy.mono fun b q => ?_
          have ne : ∀ z, (∃ o, h₃.get? z = some o) → s.heap.get? z = none → b ≠ z := fun z hz hz' e => by
            rcases q with q | q
            · obtain ⟨o, e'⟩ := hz
              rw [e] at q
              rw [show h₃.get? z = none from q] at e'; cases e'
            · obtain ⟨o, e'⟩ := hFu b q
              rw [e, hz'] at e'; cases e'
          exact ⟨q.elim (fun q => .inl (X₃.fresh' q)) .inr, ne I hIe hIf, ne D hDe hDf, fun z => ne b (hWe _ _ S₃ b z) (hWf b z) rfl⟩
        exact (a3.append (.one hy')).kp' (Kp.of_but hs₅.extBut) fun b q => q.2.2.1
    | false =>
      simp only [Bool.false_eq_true, if_false] at h₂ ⊢
      obtain ⟨hd, m'', S₄, Y⟩ := h₂
      obtain ⟨a1, a2, a3, a4⟩ := after t₂ Y
      refine ⟨k - 1, by omega, i + 1, us, m'', by omega, a1, a2, by omega, ?_, S₄, a4⟩
      rw [doneOf_succ, hd]
      simpa using a3
  · have hin : i = n := by omega
    subst hin
    refine C_any (hI.w.done t _ _ hst' fun h₃ tk hk => ?_)
    have hb : Heap.ExtBut I t.heap h₃ := fun b o q e => hk b o (fun z => q (List.mem_singleton.mp z)) e
    exact fin _ m' (X'.but (tk := tk) (.inl hIf) hb) (S'.but (tk := tk) hb hIoff) (.list ⟨.inl hDf, hDW⟩ (hD'.but hb (fun q => hfpD I hI.mem q.symm)) ((hR'.kp' (Kp.of_but hb) fun b q => q.2.1).mono fun b q => ⟨q.1, q.2.2.2⟩))
theorem comp_core {elt target iter : Expr} {ifs : List Expr} {scope : Scope} {pos : Pos} {cl : List (Str × Addr)} {RR : Value → Addr → Result → Shared → Prop} {Fu : Addr → Prop} (ds : Nat → Option PyData)
    (S : Sd N env fs s m) (X : Ext N (fun _ => False) s s₂) (hcell : ∀ y ∈ scope.names, y.2 ≠ .cell) (hkind : scope.kind = .function)
    (hcl : ∀ x c, cl.lookup x = some c → env.cells.lookup x = some c ∧ (relabel scope env).names.lookup x ≠ some .local)
    (hI : Src prog w A I fp n P St) (hst : St 0 s₂.heap) (hIf : s.heap.get? I = none) (hn : n ≤ 1000000) (hFu : ∀ a, Fu a → ∃ o, s.heap.get? a = some o)
    (item : ∀ C t i v m', i < n → P i v → Ext N (fun _ => False) s t → s.heap.get? C = none → Sd N (compEnvC scope cl C env) fs t m' → (∀ x c, cl.lookup x = some c → m' x = m x) →
      wpC (model prog w) A (assign target (compEnvC scope cl C env) v) (fun _ t₁ =>
        wpC (model prog w) A (forIn ifs true fun c r => if r = true then do let ok ← isTrue c (compEnvC scope cl C env) (eval c (compEnvC scope cl C env)); pure (ForInStep.yield ok) else pure (ForInStep.yield r)) (fun ok t₂ =>
          if ok = true then wpC (model prog w) A (eval elt (compEnvC scope cl C env)) (fun y t₃ => ∃ d m'', ds i = some d ∧ Rd (fun a => t.heap.get? a = none ∨ Fu a) t₃.heap y d ∧ Sd N (compEnvC scope cl C env) fs t₃ m'' ∧ Ext N (· = C) t t₃) (fun _ _ => False) t₂
          else ds i = none ∧ ∃ m'', Sd N (compEnvC scope cl C env) fs t₂ m'' ∧ Ext N (· = C) t t₂) (fun _ _ => False) t₁) (fun _ _ => False) t)
    (hRR : ∀ D C t, Ext N (fun _ => False) s t → s.heap.get? D = none → s.heap.get? C = none → (∃ mc, t.heap.Ns C mc) → Rd (fun a => (s.heap.get? a = none ∨ Fu a) ∧ a ≠ C) t.heap (.ref D) (.list (doneOf ds n)) → Sd N env fs t m → RR (.ref D) C (.ok .next) t) :
    wpC (model prog w) A (newList []) (fun acc s₃ => wpC (model prog w) A (newFunctionEnv scope env.globals cl [] env.qual none .none (some env)) (fun cenv s₄ =>
      codeC (model prog w) A (.compStart (.ListComp elt [⟨target, iter, ifs, 0⟩] scope pos) 0 (.ref I) acc { cenv with scope := relabel scope env }) (RR acc cenv.locals) s₄) E s₃) E s₂ := by
  refine C_any (wpAny_newObj_type (C_any (wpAny_newFunctionEnv hcell (by intro y hy; simp at hy) (fun h₁ hns₁ hsb₁ => ?_) hkind)))
  dsimp only at hns₁ hsb₁ ⊢
  rw [show newEnv scope (s₂.heap.push { cls := .type "list", dict := none, data := .seq ([] : List Value).toArray }).objs.size env.globals cl env.qual none .none (some env) builtinsNs =
    { scope := scope, locals := (s₂.heap.push { cls := .type "list", dict := none, data := .seq ([] : List Value).toArray }).objs.size, globals := env.globals, cells := cl, qual := env.qual, func := none, code := env.code, frame := env.frame, builtins := env.builtins } from rfl]
  have hCD : s₂.heap.objs.size ≠ (s₂.heap.push { cls := .type "list", dict := none, data := .seq ([] : List Value).toArray }).objs.size := by rw [Heap.size_push]; omega
  have hCz : s₂.heap.objs.size ≤ (s₂.heap.push { cls := .type "list", dict := none, data := .seq ([] : List Value).toArray }).objs.size := by rw [Heap.size_push]; omega
  have old : ∀ b o, s₂.heap.get? b = some o → h₁.get? b = some o := fun b o e => hsb₁.extBut b o (Nat.ne_of_lt (Nat.lt_of_lt_of_le (Heap.lt_size e) hCz)) (Heap.get?_push_of_some _ (Heap.get?_push_of_some _ e))
  have hD₁ : Lst h₁ s₂.heap.objs.size [] := ⟨0, hsb₁.extBut _ _ hCD (Heap.get?_push_of_some _ (Heap.get?_push_size _ rfl))⟩
  have hNC : N ≤ (s₂.heap.push { cls := .type "list", dict := none, data := .seq ([] : List Value).toArray }).objs.size := by
    obtain ⟨ml, ⟨o, es, ep, e, _⟩, _⟩ := (S.ext0 X).ns
    exact Nat.le_trans (Nat.le_trans S.lo (Nat.le_of_lt (Heap.lt_size e))) hCz
  generalize (s₂.heap.push { cls := .type "list", dict := none, data := .seq ([] : List Value).toArray }).objs.size = C at *
  have hfpl : ∀ b ∈ fp, b < s₂.heap.objs.size := fun b hb => let ⟨_, e, _⟩ := hI.nd 0 _ hst b hb; Heap.lt_size e
  have hIl := hfpl I hI.mem
  have hDf : s.heap.get? s₂.heap.objs.size = none := X.fresh (Nat.le_refl _)
  have hCf : s.heap.get? C = none := X.fresh hCz
  generalize hDD : s₂.heap.objs.size = D at *
  have X₁ : ∀ tk, Ext N (fun _ => False) s { s₂ with heap := h₁, toks := tk } := fun tk => X.keeps old
  have hst₁ : St 0 h₁ := hI.w.frame _ _ _ hst fun b _ o e => old b o e
  have hfpD : ∀ b ∈ fp, b ≠ D := fun b hb => Nat.ne_of_lt (hfpl b hb)
  have hfpC : ∀ b ∈ fp, b ≠ C := fun b hb => Nat.ne_of_lt (Nat.lt_of_lt_of_le (hfpl b hb) hCz)
  have hsd : ∀ t ml, Ext N (fun _ => False) s t → t.heap.Ns C ml → Sd N (compEnvC scope cl C env) fs t (fun x => if (cl.lookup x).isSome then m x else ml x) := fun t ml X' hn' => by
    have S' := S.ext0 X'
    refine ⟨S'.frs, ⟨ml, hn', fun x hx => ?_⟩, fun x c hc => ?_, hNC, fun x c hc => S.clo x c (hcl x c hc).1, fun x y c hx hy => S.apart x y c (hcl x c hx).1 (hcl y c hy).1, fun x c hc => (hcl x c hc).2, hkind⟩
    · cases e : cl.lookup x with
      | none => simp
      | some c => exact absurd hx (hcl x c e).2
    · have hc' : cl.lookup x = some c := hc
      rw [hc']
      exact S'.cel x c (hcl x c hc).1
  have loop : ∀ t, t.heap = h₁ → Ext N (fun _ => False) s t → codeC (model prog w) A (.compLoop (.ListComp elt [⟨target, iter, ifs, 0⟩] scope pos) 0 (.ref I) (.ref D) (compEnvC scope cl C env)) (RR (.ref D) C) t := fun t ht Xt =>
    comp_loop (W := (· = C)) (J := fun m' => ∀ x c, cl.lookup x = some c → m' x = m x) ds hI hIf hDf (fun b q => by rw [q]; exact hCf) hn hFu hfpD hfpC hCD (fun t m' S' b q => by rw [q]; exact let ⟨_, ⟨o, _, _, e, _⟩, _⟩ := S'.ns; ⟨o, e⟩)
      (fun t m' X' S' x c hc => IsCell.uniq (S'.cel x c hc) ((S.ext0 X').cel x c (hcl x c hc).1)) (fun t i v m' hi hv X' S' hj => item C t i v m' hi hv X' hCf S' hj) (fun t m' X' S' hR => hRR D C t X' hDf hCf (let ⟨ml, e, _⟩ := S'.ns; ⟨ml, e⟩) hR (S.ext0 X')) (ht ▸ hst₁) (ht ▸ hD₁) (hsd t _ Xt (ht ▸ hns₁)) Xt
  exact codeC_compStart (loop _ rfl (X₁ _)) (C_any (hI.w.self 0 _ _ _ hst₁ (loop _ rfl (X₁ _))))
end
end Mine
end
section
open PySem PySem.Calls PySem.W PyProof.Rows
set_option Elab.async false
set_option maxRecDepth 100000
namespace Mine
section
variable {prog : Program} {w : World} {A : Around} {E : Value → Shared → Prop} {s : Shared} {env : Env} {N : Nat} {fs : List Env} {m : Str → Option Value}
noncomputable def ItemOk (prog : Program) (w : World) (A : Around) (N : Nat) (fs : List Env) (elt target : Expr) (ifs : List Expr) (Fu : Addr → Prop) (C : Addr) (cenv : Env) (t : Shared) (v : Value) (d? : Option PyData) : Prop :=
  wpC (model prog w) A (assign target cenv v) (fun _ t₁ =>
    wpC (model prog w) A (forIn ifs true fun c r => if r = true then do let ok ← isTrue c cenv (eval c cenv); pure (ForInStep.yield ok) else pure (ForInStep.yield r)) (fun ok t₂ =>
      if ok = true then wpC (model prog w) A (eval elt cenv) (fun y t₃ => ∃ d m'', d? = some d ∧ Rd (fun a => t.heap.get? a = none ∨ Fu a) t₃.heap y d ∧ Sd N cenv fs t₃ m'' ∧ Ext N (· = C) t t₃) (fun _ _ => False) t₂
      else d? = none ∧ ∃ m'', Sd N cenv fs t₂ m'' ∧ Ext N (· = C) t t₂) (fun _ _ => False) t₁) (fun _ _ => False) t
theorem C_ListComp {elt target iter : Expr} {ifs : List Expr} {scope : Scope} {pos : Pos} (cl : List (Str × Addr)) {Q : Value → Shared → Prop}
    (S : Sd N env fs s m) (hclos : closureFor scope env = pure cl) (hcell : ∀ y ∈ scope.names, y.2 ≠ .cell) (hkind : scope.kind = .function) (hnames : ∀ x ∈ scope.names, x.2 = .local → scope.names.lookup x.1 = some .local)
    (hcl : ∀ x c, cl.lookup x = some c → env.cells.lookup x = some c ∧ (relabel scope env).names.lookup x ≠ some .local)
    (h : wpC (model prog w) A (eval iter env) (fun x s₁ => wpC (model prog w) A (pyIter x) (fun iv s₂ => ∃ (I : Addr) (fp : List Addr) (n : Nat) (P : Nat → Value → Prop) (St : Nat → Heap → Prop) (Fu : Addr → Prop) (ds : Nat → Option PyData), iv = .ref I ∧ Src prog w A I fp n P St ∧ St 0 s₂.heap ∧
      s.heap.get? I = none ∧ n ≤ 1000000 ∧ Ext N (fun _ => False) s s₂ ∧ (∀ a, Fu a → ∃ o, s.heap.get? a = some o) ∧
      (∀ C t i v m', i < n → P i v → Ext N (fun _ => False) s t → s.heap.get? C = none → Sd N (compEnvC scope cl C env) fs t m' → (∀ x c, cl.lookup x = some c → m' x = m x) → ItemOk prog w A N fs elt target ifs Fu C (compEnvC scope cl C env) t v (ds i)) ∧
      (∀ D t, Ext N (fun _ => False) s t → s.heap.get? D = none → Rd (fun a => s.heap.get? a = none ∨ Fu a) t.heap (.ref D) (.list (doneOf ds n)) → Sd N env fs t m → Q (.ref D) t)) E s₁) E s)
    (hs : ∀ x, foldedSetIterable iter env x = pure x := by intro _; rfl) : wpC (model prog w) A (eval (.ListComp elt [⟨target, iter, ifs, 0⟩] scope pos) env) Q E s := by
  rw [eval_ListComp]
  refine C_comprehension (g := ⟨target, iter, ifs, 0⟩) (gs := []) rfl hs hclos hkind hnames (C_q h fun x s₁ h₁ => C_q h₁ fun iv s₂ h₂ => ?_)
  obtain ⟨I, fp, n, P, St, Fu, ds, rfl, hI, hst, hIf, hn, X, hFu, hitem, hfin⟩ := h₂
  refine comp_core ds S X hcell hkind hcl hI hst hIf hn hFu hitem fun D C t Xt hD hC hnC hR St' => ?_
  obtain ⟨mc, hnC⟩ := hnC
  refine ⟨mc, hnC, fun h' hs' => ?_⟩
  have X' := Xt.but (tk := t.toks) (.inl hC) hs'.extBut
  exact hfin D _ X' hD ((hR.kp' (Kp.of_but hs'.extBut) fun b q => q.2).mono fun b q => q.1) (S.ext0 X')
theorem C_Assign_ListComp {elt target iter : Expr} {ifs : List Expr} {scope : Scope} {pos spos py : Pos} {y : Str} (cl : List (Str × Addr)) {Q : Flow → Shared → Prop}
    (hsw : swapsWith (.ListComp elt [⟨target, iter, ifs, 0⟩] scope pos) (some (.Name y py)) spos.line env = pure true) (hy : env.kindOf y = some .local)
    (S : Sd N env fs s m) (hclos : closureFor scope env = pure cl) (hcell : ∀ y ∈ scope.names, y.2 ≠ .cell) (hkind : scope.kind = .function) (hnames : ∀ x ∈ scope.names, x.2 = .local → scope.names.lookup x.1 = some .local)
    (hcl : ∀ x c, cl.lookup x = some c → env.cells.lookup x = some c ∧ (relabel scope env).names.lookup x ≠ some .local)
    (h : wpC (model prog w) A (eval iter env) (fun x s₁ => wpC (model prog w) A (pyIter x) (fun iv s₂ => ∃ (I : Addr) (fp : List Addr) (n : Nat) (P : Nat → Value → Prop) (St : Nat → Heap → Prop) (Fu : Addr → Prop) (ds : Nat → Option PyData), iv = .ref I ∧ Src prog w A I fp n P St ∧ St 0 s₂.heap ∧
      s.heap.get? I = none ∧ n ≤ 1000000 ∧ Ext N (fun _ => False) s s₂ ∧ (∀ a, Fu a → ∃ o, s.heap.get? a = some o) ∧
      (∀ C t i v m', i < n → P i v → Ext N (fun _ => False) s t → s.heap.get? C = none → Sd N (compEnvC scope cl C env) fs t m' → (∀ x c, cl.lookup x = some c → m' x = m x) → ItemOk prog w A N fs elt target ifs Fu C (compEnvC scope cl C env) t v (ds i)) ∧
      (∀ D t, Ext N (· = env.locals) s t → s.heap.get? D = none → Rd (fun a => s.heap.get? a = none ∨ Fu a) t.heap (.ref D) (.list (doneOf ds n)) → Sd N env fs t (upd m y (.ref D)) → Q .next t)) E s₁) E s)
    (hs : ∀ x, foldedSetIterable iter env x = pure x := by intro _; rfl) : wpC (model prog w) A (exec (.Assign [.Name y py] (.ListComp elt [⟨target, iter, ifs, 0⟩] scope pos) spos) env) Q E s := by
  rw [exec_Assign]
  refine C_bind (C_standAt ?_)
  rw [show swapsWithSole [.Name y py] (.ListComp elt [⟨target, iter, ifs, 0⟩] scope pos) spos.line env = pure true from hsw]
  refine C_bind (C_pure ?_)
  rw [if_pos rfl]
  refine C_bind ?_
  show wpC (model prog w) A (comprehension _ scope env _ (newList []) false (eval iter env) (some fun v => assignAll v ((assignEach [.Name y py] env).map (·.2))) >>= fun _ => pure ()) _ E s
  refine C_bind ?_
  refine C_comprehension (g := ⟨target, iter, ifs, 0⟩) (gs := []) rfl hs hclos hkind hnames (C_q h fun x s₁ h₁ => C_q h₁ fun iv s₂ h₂ => ?_)
  obtain ⟨I, fp, n, P, St, Fu, ds, rfl, hI, hst, hIf, hn, X, hFu, hitem, hfin⟩ := h₂
  refine comp_core ds S X hcell hkind hcl hI hst hIf hn hFu hitem fun D C t Xt hD hC hnC hR St' => ?_
  obtain ⟨mc, hnC⟩ := hnC
  show wpC (model prog w) A (assign (.Name y py) env (.ref D)) _ E t
  have hL : env.locals ≠ C := fun q => by
    obtain ⟨_, ⟨o, _, _, e, _⟩, _⟩ := S.ns
    rw [q, hC] at e; cases e
  refine C_any (assign_Name (St'.st hy fun t₁ S₁ X₁ _ => ?_))
  refine ⟨mc, X₁.ns hnC (fun q => hL q.symm), fun h' hs' => C_pure (C_pure ?_)⟩
  have X' : Ext N (· = env.locals) s { t₁ with heap := h' } := ((Xt.mono fun _ z => z.elim).trans X₁).but (tk := t₁.toks) (.inl hC) hs'.extBut
  have hlive : Rd (fun a => (s.heap.get? a = none ∨ Fu a) ∧ a ≠ C) t₁.heap (.ref D) (.list (doneOf ds n)) := hR.extK X₁ fun a o q e => offSq_data fun vs k z => by
    obtain ⟨_, ⟨o', es, ep, e', hd, _⟩, _⟩ := St'.ns
    rw [q, e'] at e; cases e
    rw [hd] at z; cases z
  have S' : Sd N env fs { t₁ with heap := h' } (upd m y (.ref D)) := S₁.kpOld S (t := { t₁ with heap := h' }) (.of_but hs'.extBut) fun b o e q => by
    subst q
    rw [hC] at e; cases e
  exact hfin D _ X' hD ((hlive.kp' (Kp.of_but hs'.extBut) fun b q => q.2).mono fun b q => q.1) S'
end
end Mine
end
section
open PySem PySem.Calls PySem.W PyProof.Rows PySem.SeqAt PySem.MeetsSeq PySem.MeetsSeq2 PySem.MeetsSeq3
open PySem.AutoSeq1 (wpAny_loadPart')
set_option Elab.async false
set_option maxRecDepth 100000
namespace Mine
noncomputable def RcOpAt (op : CmpOp) (A : Around) (s : Shared) (y x : Value) (b : Bool) : Prop :=
  ∀ (prog : Program) (w : World) (E : Value → Shared → Prop) (Q : Value → Shared → Prop), Q (.bool b) s → wpAny (model prog w) A (richCompare op y x) Q E s
inductive Ord (z : Bool) (e : Nat → Bool) (G : Nat → Bool → Prop) (n : Nat) : Nat → Bool → Prop
  | fin {i : Nat} : n ≤ i → Ord z e G n i z
  | eq {i : Nat} {r : Bool} : i < n → e i = true → Ord z e G n (i + 1) r → Ord z e G n i r
  | ne {i : Nat} {r : Bool} : i < n → e i = false → G i r → Ord z e G n i r
inductive LtGt : CmpOp → Nat → (Nat → Nat → Bool) → Prop
  | lt : LtGt .Lt 0 (fun m n => decide (m < n))
  | gt : LtGt .Gt 4 (fun m n => decide (m > n))
set_option maxHeartbeats 4000000 in
theorem loopAt {op : CmpOp} {code : Nat} {zf : Nat → Nat → Bool} (hop : LtGt op code zf) (l b : Addr) (items items2 : Array Value) (n n2 : Nat) (dd dd2 : Option Addr) (sl sl2 : Array (Option Value)) (e : Nat → Bool) (k : Nat) :
    ∀ (i : Nat) (r : Bool), min items.size items2.size - i = k → Meets (Builtin.«list.__eq__.loop» ⟨[.ref l, .ref b, rawInt i, rawInt code], []⟩)
      (fun A R s => s.heap.get? l = some { cls := .type "list", dict := dd, data := .seq items n, slots := sl } ∧ s.heap.get? b = some { cls := .type "list", dict := dd2, data := .seq items2 n2, slots := sl2 } ∧
        (∀ j (h1 : j < items.size) (h2 : j < items2.size), EqAt A.in1 s items[j] items2[j] (e j)) ∧
        Ord (zf items.size items2.size) e (fun j r => ∀ x y, items[j]? = some x → items2[j]? = some y → RcOpAt op A.in1 s x y r) (min items.size items2.size) i r ∧
        R (.ok (.ret (.bool r))) s) := by
  induction k with
  | zero =>
    intro i r hk prog w A R s h
    obtain ⟨hp, g, d, tk, os⟩ := s; obtain ⟨hl, hb, he, ho, h⟩ := h
    have hge : min items.size items2.size ≤ i := by omega
    cases ho with
    | eq h1 => omega
    | ne h1 => omega
    | fin _ =>
      have hi : items[((i : Nat) : Int).toNat]? = none ∨ items2[((i : Nat) : Int).toNat]? = none := by
        simp; omega
      cases hop <;>
      · wp_walk using wpAny_loadPart' hl, wpAny_loadPart' hb
        generalize items[((i : Nat) : Int).toNat]? = ox at hi ⊢
        generalize items2[((i : Nat) : Int).toNat]? = oy at hi ⊢
        rcases ox with _ | x <;> rcases oy with _ | y
        all_goals first
          | (simp at hi; done)
          | (wp_walk using wpAny_loadPart' hl, wpAny_loadPart' hb
             exact h)
  | succ k ih =>
    intro i r hk prog w A R s h
    obtain ⟨hp, g, d, tk, os⟩ := s; obtain ⟨hl, hb, he, ho, h⟩ := h
    have hlt : i < items.size := by omega
    have hlt2 : i < items2.size := by omega
    have hi1 : items[((i : Nat) : Int).toNat]? = some items[i] := by simp [hlt]
    have hi2 : items2[((i : Nat) : Int).toNat]? = some items2[i] := by simp [hlt2]
    have hc : ((i : Int) + 1) = ((i + 1 : Nat) : Int) := by push_cast; rfl
    cases ho with
    | fin h1 => omega
    | eq h1 h2 h3 =>
      cases hop <;>
      · wp_walk using wpAny_loadPart' hl, wpAny_loadPart' hb
        rw [hi1, hi2]
        refine wpAny_bind (he i hlt hlt2 prog w _ _ ?_)
        rw [h2, if_pos rfl, hc]
        exact wpAny_pure ⟨plainId_quiet plain_eq_loop _, codeAny_builtin entry_eq_loop (by
          rw [Around.under_plainId plain_eq_loop _]
          exact ih (i + 1) r (by omega) prog w A R _ ⟨hl, hb, he, h3, h⟩)⟩
    | ne h1 h2 h3 =>
      cases hop <;>
      · wp_walk using wpAny_loadPart' hl, wpAny_loadPart' hb
        rw [hi1, hi2]
        refine wpAny_bind (he i hlt hlt2 prog w _ _ ?_)
        rw [h2, if_neg Bool.false_ne_true]
        unfold Builtin.List.listItems
        refine wpAny_bind (wpAny_bind (wpAny_seqItems hl rfl (wpAny_pure ?_)))
        refine wpAny_bind (wpAny_bind (wpAny_seqItems hb rfl (wpAny_pure ?_)))
        rw [hi1, hi2]
        refine wpAny_bind (h3 items[i] items2[i] (by simp [hlt]) (by simp [hlt2]) prog w _ _ ?_)
        exact wpAny_pure h
end Mine
end
section
open PySem PySem.Calls PySem.W PyProof.Rows PySem.SeqAt PySem.MeetsSeq PySem.MeetsSeq2 PySem.MeetsSeq3
open PySem.AutoSeq1 (wpAny_loadPart')
set_option Elab.async false
set_option maxRecDepth 100000
namespace Mine
noncomputable def OrdSpec (T : String) (op : CmpOp) (zf : Nat → Nat → Bool) (l b : Addr) (vs ws : Array Value) (n n2 : Nat) (e : Nat → Bool) (r : Bool) : PySem.Spec := fun A R s =>
  s.heap.get? l = some { cls := .type T, dict := none, data := .seq vs n, slots := #[] } ∧ s.heap.get? b = some { cls := .type T, dict := none, data := .seq ws n2, slots := #[] } ∧
    (∀ j (h1 : j < vs.size) (h2 : j < ws.size), EqAt A.in1 s vs[j] ws[j] (e j)) ∧
    Ord (zf vs.size ws.size) e (fun j r => ∀ x y, vs[j]? = some x → ws[j]? = some y → RcOpAt op A.in1 s x y r) (min vs.size ws.size) 0 r ∧
    R (.ok (.ret (.bool r))) s
set_option maxHeartbeats 2000000 in
theorem list_lt_meets (l b : Addr) (vs ws : Array Value) (n n2 : Nat) (e : Nat → Bool) (r : Bool) :
    Meets (Builtin.«list.__lt__» ⟨[.ref l, .ref b], []⟩) (OrdSpec "list" .Lt (fun m n => decide (m < n)) l b vs ws n n2 e r) := by
  intro prog w A R s h
  obtain ⟨hp, g, d, tk, os⟩ := s; obtain ⟨hl, hb, he, ho, h⟩ := h
  have f3 := AutoSeq1.sub_list_list
  wp_walk using wpAny_loadPart' hl, wpAny_loadPart' hb
  exact ⟨plainId_quiet plain_eq_loop _, codeAny_builtin entry_eq_loop (by
    rw [Around.under_plainId plain_eq_loop _]
    exact loopAt .lt l b vs ws n n2 none none #[] #[] e _ 0 r rfl prog w A R _ ⟨hl, hb, he, ho, h⟩)⟩
set_option maxHeartbeats 2000000 in
theorem list_gt_meets (l b : Addr) (vs ws : Array Value) (n n2 : Nat) (e : Nat → Bool) (r : Bool) :
    Meets (Builtin.«list.__gt__» ⟨[.ref l, .ref b], []⟩) (OrdSpec "list" .Gt (fun m n => decide (m > n)) l b vs ws n n2 e r) := by
  intro prog w A R s h
  obtain ⟨hp, g, d, tk, os⟩ := s; obtain ⟨hl, hb, he, ho, h⟩ := h
  have f3 := AutoSeq1.sub_list_list
  wp_walk using wpAny_loadPart' hl, wpAny_loadPart' hb
  exact ⟨plainId_quiet plain_eq_loop _, codeAny_builtin entry_eq_loop (by
    rw [Around.under_plainId plain_eq_loop _]
    exact loopAt .gt l b vs ws n n2 none none #[] #[] e _ 0 r rfl prog w A R _ ⟨hl, hb, he, ho, h⟩)⟩
theorem ord_step {z : Bool} {e : Nat → Bool} {G : Nat → Bool → Prop} {n i : Nat} {r : Bool} (h : Ord z e G n i r) (hi : i < n) : (e i = true ∧ Ord z e G n (i + 1) r) ∨ (e i = false ∧ G i r) := by
  cases h with
  | fin h => omega
  | eq _ h2 h3 => exact .inl ⟨h2, h3⟩
  | ne _ h2 h3 => exact .inr ⟨h2, h3⟩
theorem ord_fin {z : Bool} {e : Nat → Bool} {G : Nat → Bool → Prop} {n i : Nat} {r : Bool} (h : Ord z e G n i r) (hi : n ≤ i) : r = z := by
  cases h with
  | fin h => rfl
  | eq h1 => omega
  | ne h1 => omega
set_option maxHeartbeats 2000000 in
theorem tuple_lt_meets (l b : Addr) (items items2 : Array Value) (n n2 : Nat) (e : Nat → Bool) (r : Bool) :
    Meets (Builtin.«tuple.__lt__» ⟨[.ref l, .ref b], []⟩) (OrdSpec "tuple" .Lt (fun m n => decide (m < n)) l b items items2 n n2 e r) :=
  .of_wp fun prog w A R s h => by
    obtain ⟨hp, g, d, tk, os⟩ := s; obtain ⟨hl, hb, he, ho, h⟩ := h
    have f2 := AutoSeq1.sub_tuple_tuple
    have hZ : (items.toList.zip items2.toList).length = min items.size items2.size := by simp
    wp_walk using wpAny_loadPart' hl, wpAny_loadPart' hb, wpAny_forIn_list _ (fun rest b s' => b.1 = none ∧ s' = ⟨hp, g, d, tk, os⟩ ∧ ∃ i, rest = (items.toList.zip items2.toList).drop i ∧
      Ord (decide (items.size < items2.size)) e (fun j r => ∀ x y, items[j]? = some x → items2[j]? = some y → RcOpAt .Lt A.in1 ⟨hp, g, d, tk, os⟩ x y r) (min items.size items2.size) i r) _
    case turn =>
      rintro ⟨y, x⟩ rest b s' ⟨hb', rfl, i, hz, hR⟩
      have hlt : i < (items.toList.zip items2.toList).length := by
        rcases Nat.lt_or_ge i (items.toList.zip items2.toList).length with h' | h'
        · exact h'
        · rw [List.drop_of_length_le h'] at hz; cases hz
      have hm : i < min items.size items2.size := hZ ▸ hlt
      have h1 : i < items.size := Nat.lt_of_lt_of_le hm (Nat.min_le_left _ _)
      have h2 : i < items2.size := Nat.lt_of_lt_of_le hm (Nat.min_le_right _ _)
      rw [List.drop_eq_getElem_cons hlt] at hz
      injection hz with hyx hrest
      have hy : y = items[i] := by have := congrArg Prod.fst hyx; simpa using this
      have hx : x = items2[i] := by have := congrArg Prod.snd hyx; simpa using this
      subst hy hx
      refine wpAny_bind (he i h1 h2 prog w _ _ ?_)
      rcases ord_step hR hm with ⟨ht, hR'⟩ | ⟨hf, hR'⟩
      · rw [ht]
        wp_walk
        exact ⟨rfl, rfl, i + 1, hrest, hR'⟩
      · rw [hf]
        simp only [Bool.not_false, if_true]
        refine wpAny_bind (wpAny_rule (wpAny_bind (hR' _ _ (by simp [h1]) (by simp [h2]) prog w _ _ ?_)))
        wp_walk
        exact ⟨_, rfl, h⟩
    case fin =>
      rintro ⟨b1, b2⟩ s' ⟨hb', rfl, i, hz, hR⟩
      simp only at hb'
      subst hb'
      have hge : min items.size items2.size ≤ i := by
        rcases Nat.lt_or_ge i (items.toList.zip items2.toList).length with h' | h'
        · rw [List.drop_eq_getElem_cons h'] at hz; cases hz
        · exact hZ ▸ h'
      have := ord_fin hR hge
      subst this
      wp_walk
      exact ⟨_, rfl, by simpa [Builtin.Tuple.tupleCompareSizes] using h⟩
    case h =>
      exact ⟨rfl, rfl, 0, rfl, ho⟩
set_option maxHeartbeats 2000000 in
theorem tuple_gt_meets (l b : Addr) (items items2 : Array Value) (n n2 : Nat) (e : Nat → Bool) (r : Bool) :
    Meets (Builtin.«tuple.__gt__» ⟨[.ref l, .ref b], []⟩) (OrdSpec "tuple" .Gt (fun m n => decide (m > n)) l b items items2 n n2 e r) :=
  .of_wp fun prog w A R s h => by
    obtain ⟨hp, g, d, tk, os⟩ := s; obtain ⟨hl, hb, he, ho, h⟩ := h
    have f2 := AutoSeq1.sub_tuple_tuple
    have hZ : (items.toList.zip items2.toList).length = min items.size items2.size := by simp
    wp_walk using wpAny_loadPart' hl, wpAny_loadPart' hb, wpAny_forIn_list _ (fun rest b s' => b.1 = none ∧ s' = ⟨hp, g, d, tk, os⟩ ∧ ∃ i, rest = (items.toList.zip items2.toList).drop i ∧
      Ord (decide (items.size > items2.size)) e (fun j r => ∀ x y, items[j]? = some x → items2[j]? = some y → RcOpAt .Gt A.in1 ⟨hp, g, d, tk, os⟩ x y r) (min items.size items2.size) i r) _
    case turn =>
      rintro ⟨y, x⟩ rest b s' ⟨hb', rfl, i, hz, hR⟩
      have hlt : i < (items.toList.zip items2.toList).length := by
        rcases Nat.lt_or_ge i (items.toList.zip items2.toList).length with h' | h'
        · exact h'
        · rw [List.drop_of_length_le h'] at hz; cases hz
      have hm : i < min items.size items2.size := hZ ▸ hlt
      have h1 : i < items.size := Nat.lt_of_lt_of_le hm (Nat.min_le_left _ _)
      have h2 : i < items2.size := Nat.lt_of_lt_of_le hm (Nat.min_le_right _ _)
      rw [List.drop_eq_getElem_cons hlt] at hz
      injection hz with hyx hrest
      have hy : y = items[i] := by have := congrArg Prod.fst hyx; simpa using this
      have hx : x = items2[i] := by have := congrArg Prod.snd hyx; simpa using this
      subst hy hx
      refine wpAny_bind (he i h1 h2 prog w _ _ ?_)
      rcases ord_step hR hm with ⟨ht, hR'⟩ | ⟨hf, hR'⟩
      · rw [ht]
        wp_walk
        exact ⟨rfl, rfl, i + 1, hrest, hR'⟩
      · rw [hf]
        simp only [Bool.not_false, if_true]
        refine wpAny_bind (wpAny_rule (wpAny_bind (hR' _ _ (by simp [h1]) (by simp [h2]) prog w _ _ ?_)))
        wp_walk
        exact ⟨_, rfl, h⟩
    case fin =>
      rintro ⟨b1, b2⟩ s' ⟨hb', rfl, i, hz, hR⟩
      simp only at hb'
      subst hb'
      have hge : min items.size items2.size ≤ i := by
        rcases Nat.lt_or_ge i (items.toList.zip items2.toList).length with h' | h'
        · rw [List.drop_eq_getElem_cons h'] at hz; cases hz
        · exact hZ ▸ h'
      have := ord_fin hR hge
      subst this
      wp_walk
      exact ⟨_, rfl, by simpa [Builtin.Tuple.tupleCompareSizes] using h⟩
    case h =>
      exact ⟨rfl, rfl, 0, rfl, ho⟩
end Mine
end
section
open PySem PySem.Calls PySem.W PyProof.Rows PySem.SeqAt
set_option Elab.async false
set_option maxRecDepth 100000
namespace Mine
noncomputable def ltBy (f : PyData → PyData → Option Bool) : List PyData → List PyData → Option Bool
  | [], [] => some false
  | [], _ :: _ => some true
  | _ :: _, [] => some false
  | x :: xs, y :: ys => if PyData.eqv x y then ltBy f xs ys else f x y
noncomputable def lt0 : PyData → PyData → Option Bool
  | .int a, .int b => some (decide (a < b))
  | .str a, .str b => some (decide (a.cps.toList < b.cps.toList))
  | _, _ => none
noncomputable def lt1 : PyData → PyData → Option Bool
  | .tuple xs, .tuple ys => ltBy lt0 xs ys
  | x, y => lt0 x y
noncomputable def lt2 : PyData → PyData → Option Bool
  | .list xs, .list ys => ltBy lt1 xs ys
  | x, y => lt1 x y
section
variable {F G : Addr → Prop} {A : Around} {s : Shared}
theorem rc0 {a b : Value} {da db : PyData} {r : Bool} (ra : Rd F s.heap a da) (rb : Rd G s.heap b db) (h : lt0 da db = some r) : RcOpAt .Lt A s a b r ∧ RcOpAt .Gt A s b a r := by
  cases ra <;> cases rb <;> simp only [lt0, Option.some.injEq, reduceCtorEq] at h
  · subst h
    exact ⟨fun prog w E Q hq => PyProof.Rows.lt_int hq, fun prog w E Q hq => PyProof.Rows.gt_int hq⟩
  · subst h
    exact ⟨fun prog w E Q hq => PyProof.Rows.lt_str hq, fun prog w E Q hq => PySem.P.gt_str hq⟩
mutual
theorem eqv_symm : ∀ x y : PyData, PyData.eqv x y = PyData.eqv y x
  | .none, y => by cases y <;> simp only [PyData.eqv]
  | .bool a, y => by cases y <;> simp only [PyData.eqv] <;> exact BEq.comm
  | .int a, y => by cases y <;> simp only [PyData.eqv] <;> exact BEq.comm
  | .str a, y => by cases y <;> simp only [PyData.eqv] <;> exact BEq.comm
  | .list a, y => by cases y <;> simp only [PyData.eqv] <;> exact eqvAll_symm _ _
  | .tuple a, y => by cases y <;> simp only [PyData.eqv] <;> exact eqvAll_symm _ _
  | .dict a, y => by cases y <;> simp only [PyData.eqv]
theorem eqvAll_symm : ∀ x y : List PyData, PyData.eqvAll x y = PyData.eqvAll y x
  | [], y => by cases y <;> simp only [PyData.eqvAll]
  | a :: x, y => by cases y with
    | nil => simp only [PyData.eqvAll]
    | cons b y => simp only [PyData.eqvAll, eqv_symm a b, eqvAll_symm x y]
end
theorem ord_of_lt {f : PyData → PyData → Option Bool} (G : Nat → Bool → Prop) (G' : Nat → Bool → Prop) : ∀ (xs ys : List PyData) (i : Nat) (r : Bool) (e : Nat → Bool) (n m : Nat), ltBy f xs ys = some r → n = i + xs.length → m = i + ys.length →
    (∀ k x y, xs[k]? = some x → ys[k]? = some y → e (i + k) = PyData.eqv x y) →
    (∀ k x y r, xs[k]? = some x → ys[k]? = some y → f x y = some r → G (i + k) r) →
    (∀ k x y r, xs[k]? = some x → ys[k]? = some y → f x y = some r → G' (i + k) r) →
    Ord (decide (n < m)) e G (min n m) i r ∧ Ord (decide (n < m)) e G' (min n m) i r
  | [], [], i, r, e, n, m, h, hn, hm, _, _, _ => by
    simp only [ltBy, Option.some.injEq] at h
    have hz : r = decide (n < m) := by
      rw [← h]; simp only [List.length_nil, List.length_cons] at hn hm; first | exact (decide_eq_false (by omega)).symm | exact (decide_eq_true (by omega)).symm
    rw [hz]
    simp only [List.length_nil, List.length_cons] at hn hm
    exact ⟨.fin (by omega), .fin (by omega)⟩
  | [], y :: ys, i, r, e, n, m, h, hn, hm, _, _, _ => by
    simp only [ltBy, Option.some.injEq] at h
    have hz : r = decide (n < m) := by
      rw [← h]; simp only [List.length_nil, List.length_cons] at hn hm; first | exact (decide_eq_false (by omega)).symm | exact (decide_eq_true (by omega)).symm
    rw [hz]
    simp only [List.length_nil, List.length_cons] at hn hm
    exact ⟨.fin (by omega), .fin (by omega)⟩
  | x :: xs, [], i, r, e, n, m, h, hn, hm, _, _, _ => by
    simp only [ltBy, Option.some.injEq] at h
    have hz : r = decide (n < m) := by
      rw [← h]; simp only [List.length_nil, List.length_cons] at hn hm; first | exact (decide_eq_false (by omega)).symm | exact (decide_eq_true (by omega)).symm
    rw [hz]
    simp only [List.length_nil, List.length_cons] at hn hm
    exact ⟨.fin (by omega), .fin (by omega)⟩
  | x :: xs, y :: ys, i, r, e, n, m, h, hn, hm, he, hg, hg' => by
    have h0 := he 0 x y rfl rfl
    rw [Nat.add_zero] at h0
    simp only [List.length_cons] at hn hm
    have hi : i < min n m := by omega
    unfold ltBy at h
    cases hb : PyData.eqv x y with
    | true =>
      rw [if_pos hb] at h
      have ih := ord_of_lt G G' xs ys (i + 1) r e n m h (by omega) (by omega) (fun k a b h1 h2 => by have := he (k + 1) a b h1 h2; rw [← this]; congr 1; omega)
        (fun k a b r h1 h2 h3 => by have := hg (k + 1) a b r h1 h2 h3; rwa [show i + (k + 1) = i + 1 + k by omega] at this)
        (fun k a b r h1 h2 h3 => by have := hg' (k + 1) a b r h1 h2 h3; rwa [show i + (k + 1) = i + 1 + k by omega] at this)
      exact ⟨.eq hi (h0.trans hb) ih.1, .eq hi (h0.trans hb) ih.2⟩
    | false =>
      rw [if_neg (by rw [hb]; exact Bool.false_ne_true)] at h
      exact ⟨.ne hi (h0.trans hb) (hg 0 x y r rfl rfl h), .ne hi (h0.trans hb) (hg' 0 x y r rfl rfl h)⟩
end
end Mine
end
section
open PySem PySem.Calls PySem.W PyProof.Rows PySem.SeqAt
set_option Elab.async false
set_option maxRecDepth 100000
namespace Mine
section
variable {F G : Addr → Prop} {A : Around} {s : Shared}
noncomputable def Tells (F G : Addr → Prop) (s : Shared) (U : Nat) (f : PyData → PyData → Option Bool) : Prop := ∀ (A : Around) (a b : Value) (da db : PyData) (r : Bool), A.units + U < cLine → Rd F s.heap a da → Rd G s.heap b db → da.canLay0 = true → db.canLay0 = true → da.depth ≤ U → db.depth ≤ U → f da db = some r → RcOpAt .Lt A s a b r ∧ RcOpAt .Gt A s b a r
theorem tells0 (U : Nat) : Tells F G s U lt0 := fun _ _ _ _ _ _ _ ra rb _ _ _ _ h => rc0 ra rb h
theorem canLay_get {xs : List PyData} (h : PyData.canLayAll0 xs = true) : ∀ {k : Nat} {x : PyData}, xs[k]? = some x → x.canLay0 = true := by
  induction xs with
  | nil => intro k x e; simp at e
  | cons y ys ih =>
    intro k x e
    have h' : y.canLay0 = true ∧ PyData.canLayAll0 ys = true := by simpa [PyData.canLayAll0] using h
    cases k with
    | zero => simp at e; exact e ▸ h'.1
    | succ k => exact ih h'.2 (by simpa using e)
theorem depth_get {xs : List PyData} {U : Nat} (h : PyData.depthAll xs ≤ U) : ∀ {k : Nat} {x : PyData}, xs[k]? = some x → x.depth ≤ U := by
  induction xs with
  | nil => intro k x e; simp at e
  | cons y ys ih =>
    intro k x e
    have h' : y.depth ≤ U ∧ PyData.depthAll ys ≤ U := by simp only [PyData.depthAll] at h; omega
    cases k with
    | zero => simp at e; exact e ▸ h'.1
    | succ k => exact ih h'.2 (by simpa using e)
theorem tells_ords {f : PyData → PyData → Option Bool} {U : Nat} {vs ws : List Value} {xs ys : List PyData} {r : Bool} (T : Tells F G s U f) (hu : A.units + (U + 1) < cLine) (rv : RdAll F s.heap vs xs) (rw' : RdAll G s.heap ws ys)
    (hx : PyData.canLayAll0 xs = true) (hy : PyData.canLayAll0 ys = true) (dx : PyData.depthAll xs ≤ U) (dy : PyData.depthAll ys ≤ U) (h : ltBy f xs ys = some r) :
    (∀ j (h1 : j < vs.toArray.size) (h2 : j < ws.toArray.size), EqAt A.in1 s vs.toArray[j] ws.toArray[j] (pairEq xs ys j)) ∧
    (∀ j (h1 : j < ws.toArray.size) (h2 : j < vs.toArray.size), EqAt A.in1 s ws.toArray[j] vs.toArray[j] (pairEq xs ys j)) ∧
    Ord (decide (vs.toArray.size < ws.toArray.size)) (pairEq xs ys) (fun j r => ∀ x y, vs.toArray[j]? = some x → ws.toArray[j]? = some y → RcOpAt .Lt A.in1 s x y r) (min vs.toArray.size ws.toArray.size) 0 r ∧
    Ord (decide (ws.toArray.size > vs.toArray.size)) (pairEq xs ys) (fun j r => ∀ x y, ws.toArray[j]? = some x → vs.toArray[j]? = some y → RcOpAt .Gt A.in1 s x y r) (min ws.toArray.size vs.toArray.size) 0 r := by
  obtain ⟨as, qv⟩ := rv.reads
  obtain ⟨bs, qw⟩ := rw'.reads
  have lv := rv.length
  have lw := rw'.length
  have hA : A.in1.units + U < cLine := by have : A.in1.units = A.units + 1 := rfl; omega
  have sym : ∀ j, pairEq ys xs j = pairEq xs ys j := fun j => eqv_symm _ _
  have pe : ∀ k x y, xs[k]? = some x → ys[k]? = some y → pairEq xs ys (0 + k) = PyData.eqv x y := fun k x y h1 h2 => by
    rw [Nat.zero_add]
    show PyData.eqv (xs.getD k .none) (ys.getD k .none) = _
    rw [List.getD_eq_getElem?_getD, List.getD_eq_getElem?_getD, h1, h2]; rfl
  have tell : ∀ k x y r, xs[k]? = some x → ys[k]? = some y → f x y = some r → ∀ a b, vs[k]? = some a → ws[k]? = some b → RcOpAt .Lt A.in1 s a b r ∧ RcOpAt .Gt A.in1 s b a r := fun k x y r h1 h2 h3 a b ha hb => by
    obtain ⟨a', ha', ra⟩ := rv.get h1
    obtain ⟨b', hb', rb⟩ := rw'.get h2
    rw [ha] at ha'; cases ha'
    rw [hb] at hb'; cases hb'
    exact T A.in1 a b x y r (by omega) ra rb (canLay_get hx h1) (canLay_get hy h2) (depth_get dx h1) (depth_get dy h2) h3
  have o := ord_of_lt (f := f) (fun j r => ∀ x y, vs.toArray[j]? = some x → ws.toArray[j]? = some y → RcOpAt .Lt A.in1 s x y r) (fun j r => ∀ x y, ws.toArray[j]? = some x → vs.toArray[j]? = some y → RcOpAt .Gt A.in1 s x y r)
    xs ys 0 r (pairEq xs ys) vs.length ws.length h (by omega) (by omega) pe
    (fun k x y r h1 h2 h3 a b ha hb => (tell k x y r h1 h2 h3 a b (by simpa using ha) (by simpa using hb)).1) (fun k x y r h1 h2 h3 a b ha hb => (tell k x y r h1 h2 h3 b a (by simpa using hb) (by simpa using ha)).2)
  refine ⟨fun j h1 h2 => ?_, fun j h1 h2 => ?_, by simpa using o.1, ?_⟩
  · have := eqAt_readsAll xs ys A.in1 s vs ws _ _ qv qw hx hy (by omega) j (by simpa using h1) (by simpa using h2)
    simpa using this
  · have := eqAt_readsAll ys xs A.in1 s ws vs _ _ qw qv hy hx (by omega) j (by simpa using h1) (by simpa using h2)
    rw [sym] at this
    simpa using this
  · have := o.2
    rw [Nat.min_comm] at this
    simpa using this
theorem rcTuple {f : PyData → PyData → Option Bool} {U : Nat} {a b : Value} {xs ys : List PyData} {r : Bool} (T : Tells F G s U f) (hu : A.units + (U + 1) < cLine) (ra : Rd F s.heap a (.tuple xs)) (rb : Rd G s.heap b (.tuple ys))
    (hx : PyData.canLayAll0 xs = true) (hy : PyData.canLayAll0 ys = true) (dx : PyData.depthAll xs ≤ U) (dy : PyData.depthAll ys ≤ U) (h : ltBy f xs ys = some r) : RcOpAt .Lt A s a b r ∧ RcOpAt .Gt A s b a r := by
  obtain ⟨l, vs, rfl, _, ⟨n, hl⟩, rv⟩ := ra.tuple_inv
  obtain ⟨m, ws, rfl, _, ⟨n2, hm⟩, rw'⟩ := rb.tuple_inv
  obtain ⟨e1, e2, o1, o2⟩ := tells_ords (A := A) T hu rv rw' hx hy dx dy h
  exact ⟨fun prog w E Q hq => richCompare_meets_room (op := .Lt) ⟨_, hl, rfl⟩ ⟨_, hm, rfl⟩ PySem.F.slot_tuple_lt PySem.F.entry_tuple_lt (PySem.F.args_tuple_lt_2 _ _) (tuple_lt_meets l m vs.toArray ws.toArray n n2 _ r) ⟨hl, hm, e1, o1, (fun x => nomatch x), hq⟩ (by omega),
    fun prog w E Q hq => richCompare_meets_room (op := .Gt) ⟨_, hm, rfl⟩ ⟨_, hl, rfl⟩ PySem.F.slot_tuple_gt PySem.F.entry_tuple_gt (PySem.F.args_tuple_gt_2 _ _) (tuple_gt_meets m l ws.toArray vs.toArray n2 n _ r) ⟨hm, hl, e2, o2, (fun x => nomatch x), hq⟩ (by omega)⟩
theorem rcList {f : PyData → PyData → Option Bool} {U : Nat} {a b : Value} {xs ys : List PyData} {r : Bool} (T : Tells F G s U f) (hu : A.units + (U + 1) < cLine) (ra : Rd F s.heap a (.list xs)) (rb : Rd G s.heap b (.list ys))
    (hx : PyData.canLayAll0 xs = true) (hy : PyData.canLayAll0 ys = true) (dx : PyData.depthAll xs ≤ U) (dy : PyData.depthAll ys ≤ U) (h : ltBy f xs ys = some r) : RcOpAt .Lt A s a b r ∧ RcOpAt .Gt A s b a r := by
  obtain ⟨l, vs, rfl, _, ⟨n, hl⟩, rv⟩ := ra.list_inv
  obtain ⟨m, ws, rfl, _, ⟨n2, hm⟩, rw'⟩ := rb.list_inv
  obtain ⟨e1, e2, o1, o2⟩ := tells_ords (A := A) T hu rv rw' hx hy dx dy h
  exact ⟨fun prog w E Q hq => richCompare_meets_room (op := .Lt) ⟨_, hl, rfl⟩ ⟨_, hm, rfl⟩ PySem.F.slot_list_lt PySem.F.entry_list_lt (PySem.F.args_list_lt_2 _ _) (list_lt_meets l m vs.toArray ws.toArray n n2 _ r) ⟨hl, hm, e1, o1, (fun x => nomatch x), hq⟩ (by omega),
    fun prog w E Q hq => richCompare_meets_room (op := .Gt) ⟨_, hm, rfl⟩ ⟨_, hl, rfl⟩ PySem.F.slot_list_gt PySem.F.entry_list_gt (PySem.F.args_list_gt_2 _ _) (list_gt_meets m l ws.toArray vs.toArray n2 n _ r) ⟨hm, hl, e2, o2, (fun x => nomatch x), hq⟩ (by omega)⟩
theorem tells1 (U : Nat) (hU : 1 ≤ U) : Tells F G s U lt1 := fun A a b da db r hu ra rb ca cb da' db' h => by
  cases da with
  | tuple xs =>
    cases db with
    | tuple ys =>
      have d1 : PyData.depthAll xs ≤ U - 1 := by simp only [PyData.depth] at da'; omega
      have d2 : PyData.depthAll ys ≤ U - 1 := by simp only [PyData.depth] at db'; omega
      exact rcTuple (tells0 (U - 1)) (by omega) ra rb (by simpa [PyData.canLay0] using ca) (by simpa [PyData.canLay0] using cb) d1 d2 h
    | _ => simp [lt1, lt0] at h
  | _ => exact rc0 ra rb (by cases db <;> exact h)
theorem lt_lists {prog : Program} {w : World} {E : Value → Shared → Prop} {Q : Value → Shared → Prop} {a b : Value} {xs ys : List PyData} {r : Bool} (ra : Rd F s.heap a (.list xs)) (rb : Rd G s.heap b (.list ys)) (hx : PyData.canLayAll0 xs = true) (hy : PyData.canLayAll0 ys = true)
    (dx : PyData.depthAll xs ≤ 8) (dy : PyData.depthAll ys ≤ 8) (hu : A.units + 64 < cLine) (h : ltBy lt1 xs ys = some r) (hq : Q (.bool r) s) : wpAny (model prog w) A (compareOp .Lt a b) Q E s :=
  (rcList (tells1 8 (by omega)) (by omega) ra rb hx hy dx dy h).1 prog w E Q hq
theorem gt_lists {prog : Program} {w : World} {E : Value → Shared → Prop} {Q : Value → Shared → Prop} {a b : Value} {xs ys : List PyData} {r : Bool} (ra : Rd F s.heap a (.list xs)) (rb : Rd G s.heap b (.list ys)) (hx : PyData.canLayAll0 xs = true) (hy : PyData.canLayAll0 ys = true)
    (dx : PyData.depthAll xs ≤ 8) (dy : PyData.depthAll ys ≤ 8) (hu : A.units + 64 < cLine) (h : ltBy lt1 ys xs = some r) (hq : Q (.bool r) s) : wpAny (model prog w) A (compareOp .Gt a b) Q E s :=
  (rcList (tells1 8 (by omega)) (by omega) rb ra hy hx dy dx h).2 prog w E Q hq
end
end Mine
end
section
open PySem PySem.Calls PySem.W PyProof.Rows
set_option Elab.async false
set_option maxRecDepth 100000
namespace Mine
theorem Tup.isTup {h : Heap} {a : Addr} {vs : List Value} (l : Tup h a vs) : IsTup h a vs.toArray := let ⟨n, e⟩ := l; ⟨_, e, rfl, n, rfl⟩
theorem Tup.isTupT {h : Heap} {a : Addr} {vs : List Value} (l : Tup h a vs) : h.IsTuple a vs.toArray := let ⟨n, e⟩ := l; ⟨_, e, rfl, n, rfl⟩
theorem seqIdx_pos {k : Int} {n : Nat} (h0 : 0 ≤ k) (h : k.toNat < n) : seqIndex? k n = some k.toNat := by
  unfold seqIndex?
  simp
  omega
section
variable {prog : Program} {w : World} {A : Around} {E : Value → Shared → Prop} {s : Shared} {env : Env} {N : Nat} {fs : List Env} {m : Str → Option Value}
theorem sub_list {value slice : Expr} {l : Addr} {vs : List Value} {k : Int} {u : Tok} {x : Value} {Q : Value → Shared → Prop} (hl : Lst s.heap l vs) (h0 : 0 ≤ k) (hfit : k < 2 ^ 63) (hx : vs[k.toNat]? = some x) (h : Q x s)
    (hs : subscripted slice false (.ref l) (.int k u) = operate [.ref l, .int k u] (getItem (.ref l) (.int k u)) := by with_unfolding_all rfl) : wpAny (model prog w) A (subscriptTail value slice (.ref l) (.int k u)) Q E s :=
  tail_any hl.isList.typeIs slot_list_getitem.lookup (wpAny_getItem_list hl.isList h0 hfit (by simpa using hx) h) hs
theorem sub_last {value slice : Expr} {l : Addr} {vs : List Value} {u : Tok} {x : Value} {Q : Value → Shared → Prop} (hl : Lst s.heap l (vs ++ [x])) (h : Q x s)
    (hs : subscripted slice false (.ref l) (.int (-1) u) = operate [.ref l, .int (-1) u] (getItem (.ref l) (.int (-1) u)) := by with_unfolding_all rfl) : wpAny (model prog w) A (subscriptTail value slice (.ref l) (.int (-1) u)) Q E s :=
  tail_any hl.isList.typeIs slot_list_getitem.lookup (wpAny_getItem_list_neg hl.isList (by omega) (by simp; omega) (by omega) (by
    have : ((-1 : Int) + ((vs ++ [x]).toArray.size : Nat)).toNat = vs.length := by simp; omega
    rw [this]; simp) h) hs
theorem sub_tuple {value slice : Expr} {l : Addr} {vs : List Value} {k : Int} {u : Tok} {x : Value} {Q : Value → Shared → Prop} (hl : Tup s.heap l vs) (h0 : 0 ≤ k) (hfit : k < 2 ^ 63) (hx : vs[k.toNat]? = some x) (h : Q x s)
    (hs : subscripted slice false (.ref l) (.int k u) = operate [.ref l, .int k u] (getItem (.ref l) (.int k u)) := by with_unfolding_all rfl) : wpAny (model prog w) A (subscriptTail value slice (.ref l) (.int k u)) Q E s := by
  have hlt : k.toNat < vs.length := (List.getElem?_eq_some_iff.mp hx).1
  refine item_tupleT hl.isTup (by omega) hfit (j := k.toNat) ?_ hx h hs
  exact seqIdx_pos h0 hlt
theorem sub_str {value slice : Expr} {x : Str} {k : Int} {t u : Tok} {c : Nat} {Q : Value → Shared → Prop} (h0 : 0 ≤ k) (hfit : k < 2 ^ 63) (hx : x.cps[k.toNat]? = some c) (h : Q (.str ⟨#[c]⟩ s.toks) { s with toks := s.toks + 1 })
    (hs : subscripted slice false (.str x t) (.int k u) = operate [.str x t, .int k u] (getItem (.str x t) (.int k u)) := by with_unfolding_all rfl) : wpAny (model prog w) A (subscriptTail value slice (.str x t) (.int k u)) Q E s := by
  have hlt : k.toNat < x.cps.size := (Array.getElem?_eq_some_iff.mp hx).1
  refine tail_any (typeIs_str s x t) PySem.F.slot_str_getitem.lookup (PySem.P.getItem_str (by simp; omega) (c := c) ?_ h) hs
  rw [show seqIndex? k x.length = some k.toNat from seqIdx_pos h0 hlt]
  exact hx
theorem C_slice {l u : Option Expr} {p : Pos} {Q : Value → Shared → Prop} (h : wpC (model prog w) A (valueOrNone (evalOpt l env)) (fun a s₁ => wpC (model prog w) A (valueOrNone (evalOpt u env)) (fun b s₂ => Q (.ref s₂.heap.objs.size) { s₂ with heap := s₂.heap.push { cls := .type "slice", data := .fields #[a, b, .none] } }) E s₁) E s) :
    wpC (model prog w) A (eval (.Slice l u none p) env) Q E s := by
  rw [arm_eval_Slice]
  exact C_bind (C_q h fun a s₁ h₁ => C_bind (C_holding (C_q h₁ fun b s₂ h₂ => C_bind (C_holding (C_pure (C_any (wpAny_newObj_type h₂ (by size_fits))))))))
theorem C_opt_none {Q : Value → Shared → Prop} (h : Q .none s) : wpC (model prog w) A (valueOrNone (evalOpt none env)) Q E s := C_pure h
theorem C_opt_some {e : Expr} {Q : Value → Shared → Prop} (h : wpC (model prog w) A (eval e env) Q E s) : wpC (model prog w) A (valueOrNone (evalOpt (some e) env)) Q E s := h
theorem slice_new {value slice : Expr} {l sl : Addr} {vs : List Value} {lo hi : Option Int} {vl vu : Value} {Q : Value → Shared → Prop} (hl : Lst s.heap l vs) (hsl : s.heap.IsSliceOf sl vl vu .none) (pl : IsPart vl lo) (pu : IsPart vu hi) (hz : vs.length ≤ 1000000)
    (h : ∀ ws, ws = (vs.drop (lo.elim 0 (clipAt vs.length))).take (hi.elim vs.length (clipAt vs.length) - lo.elim 0 (clipAt vs.length)) → Q (.ref s.heap.objs.size) { s with heap := s.heap.push { cls := .type "list", data := .seq ws.toArray } })
    (hs : subscripted slice false (.ref l) (.ref sl) = operate [.ref sl, .ref l] (getItem (.ref l) (.ref sl)) := by with_unfolding_all rfl) : wpAny (model prog w) A (subscriptTail value slice (.ref l) (.ref sl)) Q E s := by
  refine tail_any hl.isList.typeIs slot_list_getitem.lookup (wpAny_getItem_list_slice hl.isList hsl pl pu .none (by simp) ?_ (by rw [sizeLine_eq, List.size_toArray]; omega)) hs
  have := h _ rfl
  rw [slicePick_plain]
  simpa using this
theorem isSlice_new (h : Heap) (l u : Value) : (h.push { cls := .type "slice", data := .fields #[l, u, .none] }).IsSliceOf h.objs.size l u .none := Heap.IsSliceOf.new ..
theorem clip_nat (n k : Nat) : clipAt n (k : Int) = min k n := by unfold clipAt; rw [if_neg (by omega)]; omega
theorem clip_m1 (n : Nat) : clipAt n (-1) = n - 1 := by unfold clipAt; rw [if_pos (by omega)]; omega
theorem add_lst {a b : Addr} {vs ws : List Value} {Q : Value → Shared → Prop} (ha : Lst s.heap a vs) (hb : Lst s.heap b ws) (hz : vs.length + ws.length ≤ 1000000)
    (h : Q (.ref s.heap.objs.size) { s with heap := s.heap.push { cls := .type "list", data := .seq (vs ++ ws).toArray } }) : wpAny (model prog w) A (binaryOp .Add (.ref a) (.ref b)) Q E s := by
  obtain ⟨n, ha⟩ := ha
  obtain ⟨n2, hb⟩ := hb
  refine PySem.P.add_list (n := n) (n2 := n2) ha hb ?_ ?_
  · simpa using h
  · rw [sizeLine_eq, List.size_toArray, List.size_toArray]; omega
theorem len_lst {l : Addr} {vs : List Value} {Q : Value → Shared → Prop} (hl : Lst s.heap l vs) (hz : vs.length ≤ 1000000) (h : Q (.int vs.length (s.toks + 1)) { s with toks := s.toks + 1 + 1 }) : wpAny (model prog w) A (call (.builtin "len") [.ref l]) Q E s :=
  PyProof.Rows.len_list hl.isList (by simp; omega) (by simpa using h)
theorem truthy_lst {l : Addr} {vs : List Value} {Q : Bool → Shared → Prop} (hl : Lst s.heap l vs) (hz : vs.length ≤ 1000000) (h : ∀ tk, Q (!vs.isEmpty) { s with toks := tk }) : wpAny (model prog w) A (truthy (.ref l)) Q E s := by
  refine wpAny_truthy_list hl.isList (by simp; omega) ?_
  simpa using h _
theorem C_fn {f : String} {x : Str} {np pos : Pos} {e : Expr} {mg mb : Str → Option Value} {Q : Value → Shared → Prop} (S : Sd N env fs s m) (hx : env.kindOf x = some .globalImplicit) (hg : s.heap.Ns env.globals mg) (hm : mg x = none) (hb : s.heap.Ns env.builtins mb) (hv : mb x = some (.builtin f))
    (h : wpC (model prog w) A (eval e env) (fun v s₁ => wpC (model prog w) A (call (.builtin f) [v]) Q E s₁) E s) (hd : (x == ("__debug__" : Str)) = false := by decide)
    (he : starEach [e] env = (false, eval e env) :: starEach [] env := by rfl) : wpC (model prog w) A (eval (.Call (.Name x np) [e] [] pos) env) Q E s :=
  C_Call_Name (C_any (S.b hx hg hm hb hv (C_callBuiltin rfl (by rw [he]; rfl) (C_evalArgs (C_items_cons (C_q h fun v s₁ h₁ => C_items_nil h₁) he) he)) hd))
theorem C_Subscript {value slice : Expr} {pos : Pos} {Q : Value → Shared → Prop}
    (h : wpC (model prog w) A (eval value env) (fun o s₁ => wpC (model prog w) A (eval slice env) (fun i s₂ => wpC (model prog w) A (subscriptTail value slice o i) Q E s₂) E s₁) E s) : wpC (model prog w) A (eval (.Subscript value slice pos) env) Q E s := by
  rw [eval_Subscript]
  exact C_bind (C_q h fun o s₁ h₁ => C_bind (C_holding (C_q h₁ fun i s₂ h₂ => C_bind (C_standAt h₂))))
theorem C_IfExp {test body orelse : Expr} {pos : Pos} {Q : Value → Shared → Prop} (h : wpC (model prog w) A (isTrue test env (eval test env)) (fun c s₂ => if c then wpC (model prog w) A (eval body env) Q E s₂ else wpC (model prog w) A (eval orelse env) Q E s₂) E s) :
    wpC (model prog w) A (eval (.IfExp test body orelse pos) env) Q E s := by
  rw [PyProof.Rows.eval_IfExp]
  refine C_bind (C_q h fun c s₂ h₂ => ?_)
  cases c <;> exact h₂
theorem C_UnaryOp {op : UnaryOp} {x : Expr} {pos : Pos} {Q : Value → Shared → Prop} (h : wpC (model prog w) A (eval x env) (fun v s₁ => wpC (model prog w) A (unaryOp op v) Q E s₁) E s) : wpC (model prog w) A (eval (.UnaryOp op x pos) env) Q E s := by
  rw [PyProof.Rows.eval_UnaryOp]
  exact C_bind (C_q h fun v s₁ h₁ => C_bind (C_standAt (C_holding h₁)))
theorem C_isTrue_plain {e : Expr} {whole : Sem Value} {Q : Bool → Shared → Prop} (h : wpC (model prog w) A whole (fun v s₁ => wpC (model prog w) A (truthy v) Q E s₁) E s)
    (he : isTrue e env whole = (do let v ← whole; standAt e.pos; holding [v] (truthy v)) := by rfl) : wpC (model prog w) A (isTrue e env whole) Q E s := by
  rw [he]
  exact C_bind (C_q h fun v s₁ h₁ => C_bind (C_standAt (C_holding h₁)))
theorem C_isTrue_not {x : Expr} {pos : Pos} {whole : Sem Value} {Q : Bool → Shared → Prop} (h : wpC (model prog w) A (isTrue x env (eval x env)) (fun c s' => Q (!c) s') E s) : wpC (model prog w) A (isTrue (.UnaryOp .Not x pos) env whole) Q E s := by
  show wpC (model prog w) A (do return !(← isTrue x env (eval x env))) Q E s
  exact C_bind (C_q h fun c s' h' => C_pure h')
theorem C_allTrue_And_cons {x : Expr} {rest : List Expr} {Q : Bool → Shared → Prop} (h : wpC (model prog w) A (isTrue x env (eval x env)) (fun b s₁ => if b then wpC (model prog w) A (allTrue .And rest env) Q E s₁ else Q false s₁) E s) : wpC (model prog w) A (allTrue .And (x :: rest) env) Q E s := by
  show wpC (model prog w) A (do match BoolOp.And, ← isTrue x env (eval x env) with | .And, false => pure false | .Or, true => pure true | _, _ => allTrue .And rest env) Q E s
  refine C_bind (C_q h fun b s₁ h₁ => ?_)
  cases b
  · exact C_pure h₁
  · exact h₁
theorem C_allTrue_And_nil {Q : Bool → Shared → Prop} (h : Q true s) : wpC (model prog w) A (allTrue .And [] env) Q E s := C_pure h
theorem C_BoolOp_and {e₁ e₂ : Expr} {rest : List Expr} {pos : Pos} {Q : Value → Shared → Prop}
    (h : wpC (model prog w) A (eval e₁ env) (fun v s₁ => wpC (model prog w) A (truthy v) (fun c s₂ => if c then wpC (model prog w) A (eval (.BoolOp .And (e₂ :: rest) pos) env) Q E s₂ else Q v s₂) E s₁) E s) :
    wpC (model prog w) A (eval (.BoolOp .And (e₁ :: e₂ :: rest) pos) env) Q E s := by
  show wpC (model prog w) A (do
    let v ← eval e₁ env
    standAt pos
    let c ← holding [v] (truthy v)
    match BoolOp.And, c with
    | .And, false | .Or, true => pure v
    | _, _ => boolOp pos .And (eval e₂ env :: evalEach rest env)) Q E s
  refine C_bind (C_q h fun v s₁ h₁ => C_bind (C_standAt (C_bind (C_holding (C_q h₁ fun c s₂ h₂ => ?_)))))
  cases c
  · exact C_pure h₂
  · exact h₂
theorem C_BoolOp_one {op : BoolOp} {e : Expr} {pos : Pos} {Q : Value → Shared → Prop} (h : wpC (model prog w) A (eval e env) Q E s) : wpC (model prog w) A (eval (.BoolOp op [e] pos) env) Q E s := h
theorem C_Compare1 {l r : Expr} {op : CmpOp} {pos : Pos} {Q : Value → Shared → Prop} (h : wpC (model prog w) A (eval l env) (fun a s₁ => wpC (model prog w) A (eval r env) (fun b s₂ => wpC (model prog w) A (compareOp op a b) Q E s₂) E s₁) E s)
    (hm : lastMarks [op] [r] = false := by with_unfolding_all rfl) : wpC (model prog w) A (eval (.Compare l [op] [r] pos) env) Q E s := by
  show wpC (model prog w) A (do compareChain pos (← eval l env) [op] (markedEach [op] [r] (evalEach [r] env))) Q E s
  rw [markedEach_of_false _ _ _ hm]
  refine C_bind (C_q h fun a s₁ h₁ => ?_)
  show wpC (model prog w) A (do
    let rv ← holding [a] (eval r env)
    standAt pos
    operate [a, rv] (compareOp op a rv)) Q E s₁
  exact C_bind (C_holding (C_q h₁ fun b s₂ h₂ => C_bind (C_standAt (C_operate h₂))))
theorem C_Compare2 {l r₁ r₂ : Expr} {op₁ op₂ : CmpOp} {pos : Pos} {Q : Value → Shared → Prop}
    (h : wpC (model prog w) A (eval l env) (fun a s₁ => wpC (model prog w) A (eval r₁ env) (fun b s₂ => wpC (model prog w) A (compareOp op₁ a b) (fun c s₃ => wpC (model prog w) A (truthy c)
      (fun t s₄ => if t then wpC (model prog w) A (eval r₂ env) (fun d s₅ => wpC (model prog w) A (compareOp op₂ b d) Q E s₅) E s₄ else Q c s₄) E s₃) E s₂) E s₁) E s)
    (hm : lastMarks [op₁, op₂] [r₁, r₂] = false := by with_unfolding_all rfl) : wpC (model prog w) A (eval (.Compare l [op₁, op₂] [r₁, r₂] pos) env) Q E s := by
  show wpC (model prog w) A (do compareChain pos (← eval l env) [op₁, op₂] (markedEach [op₁, op₂] [r₁, r₂] (evalEach [r₁, r₂] env))) Q E s
  rw [markedEach_of_false _ _ _ hm]
  refine C_bind (C_q h fun a s₁ h₁ => ?_)
  show wpC (model prog w) A (do
    let rv ← holding [a] (eval r₁ env)
    standAt pos
    let c ← holding [a, rv] (compareOp op₁ a rv)
    release [a, rv] [c]
    if ← holding [c, rv] (truthy c) then compareChain pos rv [op₂] [eval r₂ env] else pure c) Q E s₁
  refine C_bind (C_holding (C_q h₁ fun b s₂ h₂ => C_bind (C_standAt (C_bind (C_holding (C_q h₂ fun c s₃ h₃ => C_bind (C_any (wpAny_release' (C_bind (C_holding (C_q h₃ fun t s₄ h₄ => ?_)))))))))))
  cases t
  · exact C_pure h₄
  · show wpC (model prog w) A (do
      let rv ← holding [b] (eval r₂ env)
      standAt pos
      operate [b, rv] (compareOp op₂ b rv)) Q E s₄
    exact C_bind (C_holding (C_q h₄ fun d s₅ h₅ => C_bind (C_standAt (C_operate h₅))))
end
end Mine
end
section
open PySem PySem.Calls PySem.W PyProof.Rows
set_option Elab.async false
set_option maxRecDepth 100000
namespace Mine
section
variable {M : Model} {A : Around} {E : Value → Shared → Prop} {s : Shared} {env : Env}
theorem C_AssignTuple {elts : List Expr} {k : Nat} {tpos : Pos} {value : Expr} {pos : Pos} {Q : Flow → Shared → Prop}
    (h : wpC M A (eval value env) (fun v s₁ => wpC M A (assign (.Tuple elts k tpos) env v) (fun _ => Q .next) E s₁) E s)
    (hw : swappedStores [.Tuple elts k tpos] value env = pure none) (hs : swapsWithSole [.Tuple elts k tpos] value pos.line env = pure false := by rfl) :
    wpC M A (exec (.Assign [.Tuple elts k tpos] value pos) env) Q E s := by
  rw [exec_Assign]
  refine C_bind (C_standAt ?_)
  rw [hs]
  refine C_bind (C_pure ?_)
  rw [if_neg (by decide)]
  refine C_bind (C_q h fun v s₁ h₁ => ?_)
  rw [hw]
  refine C_bind (C_pure ?_)
  show wpC M A (do assignAll v [assign (.Tuple elts k tpos) env]; pure .next) Q E s₁
  exact C_bind (C_q h₁ fun _ _ x => C_pure x)
theorem C_AssignTuple_swapped {elts : List Expr} {k : Nat} {tpos : Pos} {value : Expr} {pos : Pos} {names : List Str} {Q : Flow → Shared → Prop}
    (h : wpC M A (eval value env) (fun v s₁ => wpC M A (unpackItems v names.length none) (fun items s₂ =>
      wpC M A (assignInOrder (names.reverse.map fun n => bindName env n) items.reverse) (fun _ => Q .next) E s₂) E s₁) E s)
    (hw : swappedStores [.Tuple elts k tpos] value env = pure (some names)) (hs : swapsWithSole [.Tuple elts k tpos] value pos.line env = pure false := by rfl) :
    wpC M A (exec (.Assign [.Tuple elts k tpos] value pos) env) Q E s := by
  rw [exec_Assign]
  refine C_bind (C_standAt ?_)
  rw [hs]
  refine C_bind (C_pure ?_)
  rw [if_neg (by decide)]
  refine C_bind (C_q h fun v s₁ h₁ => ?_)
  rw [hw]
  refine C_bind (C_pure ?_)
  show wpC M A (do rule "assign.swapped-stores"; let items ← unpackItems v names.length none; assignInOrder (names.reverse.map fun n => bindName env n) items.reverse; pure .next) Q E s₁
  exact C_bind (C_rule (C_bind (C_q h₁ fun items s₂ h₂ => C_bind (C_q h₂ fun _ _ x => C_pure x))))
end
section
variable {prog : Program} {w : World} {A : Around} {E : Value → Shared → Prop} {s : Shared} {env : Env}
theorem keeps_of_fresh {h h' : Heap} (he : Heap.ExtBut h.objs.size h h') : ∀ b o, h.get? b = some o → h'.get? b = some o := fun b o e => he b o (Nat.ne_of_lt (Heap.lt_size e)) e
theorem assign2 {x y : Str} {px py pos : Pos} {k : Nat} {t : Addr} {a b : Value} {Q : Unit → Shared → Prop} (hh : A.handled = none) (ht : Tup s.heap t [a, b])
    (h : ∀ h', (∀ b o, s.heap.get? b = some o → h'.get? b = some o) → wpAny (model prog w) A (storeName env x a) (fun _ s₁ => wpAny (model prog w) A (storeName env y b) Q E s₁) E { s with heap := h' }) :
    wpAny (model prog w) A (assign (.Tuple [.Name x px, .Name y py] k pos) env (.ref t)) Q E s := by
  refine assign_Tuple_tuple hh ht.isTup rfl rfl fun h' he => ?_
  show wpAny (model prog w) A (holding [b] (assign (.Name x px) env a) >>= fun _ => holding [] (assign (.Name y py) env b) >>= fun _ => pure ()) Q E _
  exact wpAny_bind (wpAny_holding (assign_Name (wpAny_mono (h h' (keeps_of_fresh he)) (fun _ s₁ h₁ => wpAny_bind (wpAny_holding (assign_Name (wpAny_mono h₁ (fun _ _ z => wpAny_pure z) fun _ _ z => z)))) fun _ _ z => z)))
theorem swap2 {x y : Str} {t : Addr} {a b : Value} {Q : Unit → Shared → Prop} (hh : A.handled = none) (ht : Tup s.heap t [a, b])
    (h : ∀ h', (∀ b o, s.heap.get? b = some o → h'.get? b = some o) → wpAny (model prog w) A (storeName env y b) (fun _ s₁ => wpAny (model prog w) A (storeName env x a) Q E s₁) E { s with heap := h' }) :
    wpAny (model prog w) A (unpackItems (.ref t) ([x, y] : List Str).length none) (fun items s₂ => wpAny (model prog w) A (assignInOrder (([x, y] : List Str).reverse.map fun n => bindName env n) items.reverse) Q E s₂) E s := by
  refine unpackItems_tuple (items := #[a, b]) hh ht.isTup fun h' he => ?_
  show wpAny (model prog w) A (holding [a] (bindName env y b) >>= fun _ => holding [] (bindName env x a) >>= fun _ => pure ()) Q E _
  exact wpAny_bind (wpAny_holding (bindName_ (wpAny_mono (h h' (keeps_of_fresh he)) (fun _ s₁ h₁ => wpAny_bind (wpAny_holding (bindName_ (wpAny_mono h₁ (fun _ _ z => wpAny_pure z) fun _ _ z => z)))) fun _ _ z => z)))
theorem swap3 {x y z : Str} {t : Addr} {a b c : Value} {Q : Unit → Shared → Prop} (hh : A.handled = none) (ht : Tup s.heap t [a, b, c])
    (h : ∀ h', (∀ b o, s.heap.get? b = some o → h'.get? b = some o) → wpAny (model prog w) A (storeName env z c) (fun _ s₁ => wpAny (model prog w) A (storeName env y b) (fun _ s₂ => wpAny (model prog w) A (storeName env x a) Q E s₂) E s₁) E { s with heap := h' }) :
    wpAny (model prog w) A (unpackItems (.ref t) ([x, y, z] : List Str).length none) (fun items s₂ => wpAny (model prog w) A (assignInOrder (([x, y, z] : List Str).reverse.map fun n => bindName env n) items.reverse) Q E s₂) E s := by
  refine unpackItems_tuple (items := #[a, b, c]) hh ht.isTup fun h' he => ?_
  show wpAny (model prog w) A (holding [b, a] (bindName env z c) >>= fun _ => holding [a] (bindName env y b) >>= fun _ => holding [] (bindName env x a) >>= fun _ => pure ()) Q E _
  refine wpAny_bind (wpAny_holding (bindName_ (wpAny_mono (h h' (keeps_of_fresh he)) (fun _ s₁ h₁ => ?_) fun _ _ z => z)))
  exact wpAny_bind (wpAny_holding (bindName_ (wpAny_mono h₁ (fun _ s₂ h₂ => wpAny_bind (wpAny_holding (bindName_ (wpAny_mono h₂ (fun _ _ z => wpAny_pure z) fun _ _ z => z)))) fun _ _ z => z)))
end
theorem Ext.of_keep {N : Nat} {W : Addr → Prop} {s t : Shared} (hk : ∀ b o, s.heap.get? b = some o → t.heap.get? b = some o) (hos : t.os = s.os) (hg : t.gens = s.gens) : Ext N W s t :=
  ⟨fun b o _ _ e => hk b o e, fun b o _ e _ => hk b o e, fun b o _ e => ⟨o.slots, hk b o e⟩, fun b o e => ⟨o, hk b o e⟩, hos, fun g => hg ▸ g⟩
end Mine
end
section
open PySem PySem.Calls PySem.W PyProof.Rows
set_option Elab.async false
set_option maxRecDepth 100000
namespace Mine
section
variable {prog : Program} {w : World} {A : Around} {E : Value → Shared → Prop} {s : Shared} {N : Nat} {outer : List Env}
structure RoomC (st : Option Stmt) (code L a : Addr) (env : Env) : Prop where
  sc : env.scope = scopeOf st
  gl : env.globals = mainGlobals
  bi : env.builtins = builtinsNs
  ce : env.cells = cellsFrom (L + 1) (scopeOf st).names []
  fn : env.func = some a
  lo : env.locals = L
  co : env.code = .ref code
  fr : env.frame = some L
theorem bindL_eq {kindOf : Str → Option NameKind} : ∀ (binds : List (Str × Value)) (done : List (Str × Value)), (∀ x ∈ binds, kindOf x.1 = some .local) → bindL kindOf binds (fun x => done.reverse.lookup x) = fun x => (done ++ binds).reverse.lookup x
  | [], done, _ => by simp [bindL]
  | (n, v) :: r, done, h => by
    unfold bindL
    rw [if_pos (h (n, v) (List.mem_cons_self ..))]
    have := bindL_eq r (done ++ [(n, v)]) fun x hx => h x (List.mem_cons_of_mem _ hx)
    rw [lookup_reverse_snoc] at this
    rw [this]
    simp
theorem bindC_eq {kindOf : Str → Option NameKind} : ∀ (binds : List (Str × Value)) (m : Str → Option Value), (∀ x ∈ binds, kindOf x.1 = some .local) → bindC kindOf binds m = m
  | [], m, _ => rfl
  | (n, v) :: r, m, h => by
    unfold bindC
    rw [if_pos (h (n, v) (List.mem_cons_self ..))]
    exact bindC_eq r m fun x hx => h x (List.mem_cons_of_mem _ hx)
theorem C_enterS {a code : Addr} {q : Str} {st : Option Stmt} {dfl : Value} {vals : List Value} {binds : List (Str × Value)} {Q : Value → Shared → Prop}
    (hroom : A.depth < recursionLimit) (hF : Frs N s.heap outer) (hN : N ≤ s.heap.objs.size) (f : IsFn s.heap a code q st [] dfl) (hlim : s.heap.NoLimit)
    (hbind : ∀ fd : FuncData, fd.params = parsOf st → fd.defaults = dfl → fd.kwdefaults = .none → fd.scope = scopeOf st → BindsTo s fd ⟨vals, []⟩ binds)
    (hloc : ∀ x ∈ binds, (scopeOf st).names.lookup x.1 = some .local)
    (hcs : ∀ L x c, (cellsFrom L (scopeOf st).names []).lookup x = some c → (scopeOf st).names.lookup x = some .cell)
    (h : ∀ env t, RoomC st code s.heap.objs.size a env → Sd N env (env :: outer) t (fun x => binds.reverse.lookup x) → Ext N (fun _ => False) s t →
      wpC (model prog w) (A.deeper env) (execs (bodyOf st) env) (fun f s' => Q (match f with | .ret v => v | _ => .none) s') (fun _ _ => False) t)
    (hco : (scopeOf st).isCoroutine = false := by rfl) (hgen : (scopeOf st).isGenerator = false := by rfl) (hk : (scopeOf st).kind = .function := by rfl) : wpC (model prog w) A (call (.ref a) vals) Q E s := by
  obtain ⟨o, nm, pm, doc, ct, ho, -, hd, hcd⟩ := f
  refine C_call (codeC_call hroom ho hd hco hgen rfl hcd (hbind _ rfl rfl rfl rfl _ _ _ _ ?_))
  refine wpAny_newFunctionEnv_cells hk (fun x hx => .inl (hloc x hx)) fun env henv t x => ?_
  have hkind : ∀ y, env.kindOf y = (scopeOf st).names.lookup y := fun y => by rw [henv]; rfl
  have hlo : env.locals = s.heap.objs.size := by rw [henv]; rfl
  have hce : env.cells = cellsFrom (s.heap.objs.size + 1) (scopeOf st).names [] := by rw [henv]; rfl
  refine ⟨hlim.keeps x.toInCall.keep, codeC_func ?_⟩
  have hbl : bindL env.kindOf binds (fun _ => none) = fun y => binds.reverse.lookup y := by
    have := bindL_eq (kindOf := env.kindOf) binds [] fun y hy => (hkind y.1).trans (hloc y hy)
    simpa using this
  have hbc : bindC env.kindOf binds (fun _ => none) = fun _ => none := bindC_eq binds _ fun y hy => (hkind y.1).trans (hloc y hy)
  have hns := x.toInCall.ns
  rw [hbl] at hns
  have X : Ext N (fun _ => False) s t := by
    obtain ⟨h', tk, rfl⟩ := x.toInCall.same
    exact Ext.of_keep x.toInCall.keep rfl rfl
  have hno : s.heap.objs.size ∉ outer.filterMap (·.frame) := fun hm => by
    obtain ⟨_, o, ho, _⟩ := hF.1.mem hm
    exact Nat.lt_irrefl _ (Heap.lt_size ho)
  have F₁ := hF.ext X fun _ _ z => z
  have hcn : ∀ y c, env.cells.lookup y = some c → binds.reverse.lookup y = none := fun y c hc => by
    rw [hce] at hc
    have h1 := hcs _ _ _ hc
    cases e : binds.reverse.lookup y with
    | none => rfl
    | some v =>
      have h2 := hloc (y, v) (List.mem_reverse.mp (mem_of_lookup e))
      rw [h1] at h2; cases h2
  refine C_mono (h env t ⟨by rw [henv]; rfl, by rw [henv]; rfl, by rw [henv]; rfl, hce, by rw [henv]; rfl, hlo, by rw [henv]; rfl, by rw [henv]; rfl⟩ ⟨⟨Heap.FunFrames.cons (env := env) (L := env.locals) (by rw [henv]; show (scopeOf st).kind ≠ _; rw [hk]; intro q; cases q) (by rw [henv]; rfl) hns (by simp [Heap.get?]) F₁.1, fun b hb => ?_⟩,
    ⟨_, hns, fun _ _ => rfl⟩, fun y c hc => ?_, by rw [hlo]; exact hN, fun y c hc => ?_, fun y z c hy hz => ?_, fun y c hc => ?_, by rw [henv]; exact hk⟩ X) (fun _ _ z => z) fun _ _ z => z
  · rw [List.filterMap_cons, show env.frame = some env.locals from by rw [henv]; rfl] at hb
    rcases List.mem_cons.mp hb with q | q
    · subst q
      obtain ⟨o', es, ep, ho', hd', -⟩ := hns
      exact ⟨by rw [hlo]; exact hN, fun o ho => by rw [ho'] at ho; cases ho; exact ⟨es, ep, hd'⟩⟩
    · exact F₁.2 b q
  · rw [hcn y c hc]
    have := x.cell y c hc
    rw [hbc] at this
    exact this
  · have := x.above y c (mem_of_lookup hc)
    rw [hlo] at this
    exact Nat.le_trans hN (Nat.le_of_lt this)
  · exact name_of_addr x.apart (mem_of_lookup hy) (mem_of_lookup hz)
  · rw [hce] at hc
    rw [hkind, hcs _ _ _ hc]
    intro q; cases q
end
end Mine
end
section
open PySem PySem.Calls PySem.W PyProof.Rows
set_option Elab.async false
set_option maxRecDepth 100000
namespace Mine
noncomputable def aDeeds : Addr := 140
noncomputable def aDeedsCode : Addr := 139
noncomputable def aRuns : Addr := 147
noncomputable def aRunsCode : Addr := 146
noncomputable def aThan : Addr := 154
noncomputable def aThanCode : Addr := 153
structure LawTop (mg mb : Str → Option Value) (h : Heap) : Prop where
  g : h.Ns mainGlobals mg
  b : h.Ns builtinsNs mb
  lim : h.NoLimit
  deeds : mg "_law_deeds" = some (.ref aDeeds)
  runs : mg "_law_runs" = some (.ref aRuns)
  than : mg "_law_than" = some (.ref aThan)
  acc : mg "_Accumulator" = some (.ref aAcc)
  cv : mg "_comparable_version" = some (.ref aCv)
  nlen : mg "len" = none
  blen : mb "len" = some (.builtin "len")
  nsum : mg "sum" = none
  bsum : mb "sum" = some (.builtin "sum")
  nrange : mg "range" = none
  brange : mb "range" = some (.type "range")
  nstr : mg "str" = none
  bstr : mb "str" = some (.type "str")
  fdeeds : IsFn h aDeeds aDeedsCode "_law_deeds" top[10]? [] .none
  fruns : IsFn h aRuns aRunsCode "_law_runs" top[11]? [] .none
  fthan : IsFn h aThan aThanCode "_law_than" top[12]? [] .none
theorem LawTop.keep {mg mb : Str → Option Value} {h h' : Heap} (T : LawTop mg mb h) (K : Keep h h') : LawTop mg mb h' where
  g := K.ns T.g (by decide) (by unfold Tab; decide)
  b := K.ns T.b (by decide) (by unfold Tab; decide)
  lim := K.lim T.lim
  deeds := T.deeds
  runs := T.runs
  than := T.than
  acc := T.acc
  cv := T.cv
  nlen := T.nlen
  blen := T.blen
  nsum := T.nsum
  bsum := T.bsum
  nrange := T.nrange
  brange := T.brange
  nstr := T.nstr
  bstr := T.bstr
  fdeeds := T.fdeeds.keep K (by decide) (by unfold Tab; decide) (by decide) (by unfold Tab; decide)
  fruns := T.fruns.keep K (by decide) (by unfold Tab; decide) (by decide) (by unfold Tab; decide)
  fthan := T.fthan.keep K (by decide) (by unfold Tab; decide) (by decide) (by unfold Tab; decide)
noncomputable def StageMap (prog : Program) (w : World) (h : Heap) (a : Addr) : Prop := ∃ f, h.MapOf (strKind prog w) a f ∧ ∀ x, match f x with | some v => ∃ tk, v = .int (stage x) tk | none => stage x = 0
inductive StL : List (Str × Value) → List (Str × Int) → Prop
  | nil : StL [] []
  | cons {k : Str} {n : Int} {t : Tok} {kvs : List (Str × Value)} {l : List (Str × Int)} : StL kvs l → StL ((k, .int n t) :: kvs) ((k, n) :: l)
theorem StL.look {kvs : List (Str × Value)} {l : List (Str × Int)} (h : StL kvs l) (x : Str) : match valueAt kvs x with | some v => ∃ tk, v = .int ((l.lookup x).getD 0) tk | none => (l.lookup x).getD 0 = 0 := by
  induction h with
  | nil => rfl
  | @cons k n t kvs l _ ih =>
    unfold valueAt at ih ⊢
    rw [List.find?_cons, List.lookup_cons]
    by_cases q : k = x
    · subst q
      simp
    · have q' : (x == k) = false := beq_eq_false_iff_ne.mpr fun z => q z.symm
      simp only [q, decide_false, q']
      exact ih
theorem StageMap.but {prog : Program} {w : World} {h h' : Heap} {a b : Addr} (m : StageMap prog w h a) (hs : Heap.ExtBut b h h') (hab : a ≠ b) : StageMap prog w h' a := by
  obtain ⟨f, ⟨o, es, ep, e, r⟩, r'⟩ := m
  exact ⟨f, ⟨o, es, ep, hs a o hab e, r⟩, r'⟩
theorem StageMap.kept {prog : Program} {w : World} {h h' : Heap} {a : Addr} (m : StageMap prog w h a) (hs : ∀ b o, h.get? b = some o → h'.get? b = some o) : StageMap prog w h' a := by
  obtain ⟨f, ⟨o, es, ep, e, r⟩, r'⟩ := m
  exact ⟨f, ⟨o, es, ep, hs a o e, r⟩, r'⟩
noncomputable def thanTail (runs more : List Str) : Int := if runs.length < more.length then 1 else 0
noncomputable def thanOf (short grown : Str) (tail : Int) : Int :=
  if short = grown then tail else if 57 < short.cps.getD 0 0 then (if stage grown < stage short then -1 else 1) else if grown = Txt.mul "0" grown.length then tail else 1
noncomputable def than (runs more : List Str) : Int :=
  match runs.getLast? with
  | none => thanTail runs more
  | some short => thanOf short (more.getD (runs.length - 1) Str.empty) (thanTail runs more)
section
variable {prog : Program} {w : World} {A : Around} {E : Value → Shared → Prop} {s : Shared} {N : Nat} {outer : List Env} {mg mb : Str → Option Value} {env : Env} {fs : List Env} {m : Str → Option Value}
theorem C_stage {x dn : Str} {px pd pa pos pc : Pos} {kc : Nat} {v : Str} {tk : Tok} {a : Addr} {Q : Value → Shared → Prop} (S : Sd N env fs s m) (hd : m dn = some (.ref a)) (hdl : env.kindOf dn = some .local) (hx : m x = some (.str v tk)) (hxl : env.kindOf x = some .local) (M : StageMap prog w s.heap a) (ha : (a == sysModules) = false)
    (h : ∀ tk tk', Q (.int (stage v) tk) { s with toks := tk' }) (h1 : (dn == ("__debug__" : Str)) = false := by decide) (h2 : (x == ("__debug__" : Str)) = false := by decide)
    (hline : (pa.endLine == pos.line) = true := by rfl) :
    wpC (model prog w) A (eval (.Call (.Attribute (.Name dn pd) "get" pa) [.Name x px, .Constant (.int 0) kc pc] [] pos) env) Q E s := by
  obtain ⟨f, hm, hst⟩ := M
  refine C_any (wpAny_Call_method rfl rfl hline PySem.F.plainAttrs_dict PySem.F.slot_dict_get PySem.F.type_dict_get (S.ld hdl hd ⟨hm.typeIs, hm.noDict, ?_⟩ h1))
  refine wpAny_dict_get2 (knd := strKind prog w) ha ?_
  refine S.ld hxl hx ?_ h2
  rw [if_neg Bool.false_ne_true]
  refine wpAny_Constant_int ⟨v, f, (by simp [PySem.strKind, Value.isStrOf]), hm, ?_⟩
  have hq := hst v
  cases e : f v with
  | none =>
    rw [e] at hq
    have := h s.toks (s.toks + 1 + 1)
    rw [show stage v = 0 from hq] at this
    exact this
  | some y =>
    rw [e] at hq
    obtain ⟨tk', rfl⟩ := hq
    exact h _ _
end
end Mine
end
section
open PySem PySem.Calls PySem.W PyProof.Rows
set_option Elab.async false
set_option maxRecDepth 100000
namespace Mine
theorem nodup_stages : (stagesL.map (·.1)).Nodup := by decide
noncomputable def strsD (l : List Str) : PyData := .list (l.map .str)
theorem rd_strs {F : Addr → Prop} {h : Heap} {v : Value} {l : List Str} (r : Rd F h v (strsD l)) : ∃ a vs, v = .ref a ∧ F a ∧ Lst h a vs ∧ vs.length = l.length ∧ ∀ (i : Nat) (x : Str), l[i]? = some x → ∃ t, vs[i]? = some (Value.str x t) := by
  obtain ⟨a, vs, rfl, ha, hl, hr⟩ := r.list_inv
  refine ⟨a, vs, rfl, ha, hl, by simpa using hr.length, fun i x e => ?_⟩
  obtain ⟨v, e1, e2⟩ := hr.get (i := i) (d := .str x) (by simp [e])
  obtain ⟨t, rfl⟩ := e2.str_inv
  exact ⟨t, e1⟩
section
variable {prog : Program} {w : World} {A : Around} {E : Value → Shared → Prop} {s : Shared} {N : Nat} {outer : List Env} {mg mb : Str → Option Value} {env : Env} {fs : List Env} {m : Str → Option Value}
theorem C_len {x : Str} {np pos px : Pos} {a : Addr} {vs : List Value} {Q : Value → Shared → Prop} (T : LawTop mg mb s.heap) (hgl : env.globals = mainGlobals) (hbi : env.builtins = builtinsNs) (S : Sd N env fs s m) (hl : env.kindOf "len" = some .globalImplicit) (hx : env.kindOf x = some .local) (hv : m x = some (.ref a)) (hL : Lst s.heap a vs) (hz : vs.length ≤ 1000000)
    (h : ∀ tk tk', Q (.int vs.length tk) { s with toks := tk' }) (hd : (x == ("__debug__" : Str)) = false := by decide) : wpC (model prog w) A (eval (.Call (.Name "len" np) [.Name x px] [] pos) env) Q E s :=
  C_fn S hl (hgl ▸ T.g) T.nlen (hbi ▸ T.b) T.blen (C_any (S.ld hx hv (C_any (len_lst hL hz (h _ _))) hd))
theorem truth_any {b : Bool} {Q : Bool → Shared → Prop} {M : Model} (h : Q b s) : wpC M A (truthy (.bool b)) Q E s := C_any (wpAny_truthy_bool h)
theorem than_tail {env : Env} {a b : Addr} {vs ws : List Value} {Q : Flow → Shared → Prop} (T : LawTop mg mb s.heap) (hsc : env.scope = scopeOf top[12]?) (hgl : env.globals = mainGlobals) (hbi : env.builtins = builtinsNs) (S : Sd N env fs s m) (hr : m "runs" = some (.ref a)) (hm : m "more" = some (.ref b)) (hL : Lst s.heap a vs) (hM : Lst s.heap b ws)
    (h1 : vs.length ≤ 1000000) (h2 : ws.length ≤ 1000000) (h : ∀ tk tk', Q (.ret (.int (if vs.length < ws.length then 1 else 0) tk)) { s with toks := tk' }) :
    wpC (model prog w) A (execs ((bodyOf top[12]?).drop 2) env) Q E s := by
  refine C_cons (C_Return (C_IfExp (C_isTrue_Compare1 (C_len T hgl hbi S (kd hsc rfl) (kd hsc rfl) hm hM h2 fun tk tk' => C_len (s := { s with toks := tk' }) T hgl hbi (S.toks _) (kd hsc rfl) (kd hsc rfl) hr hL h1 fun tk₂ tk₂' => ?_))))
  refine C_any (PyProof.Rows.gt_int (truth_any ?_))
  by_cases hc : vs.length < ws.length
  · rw [decide_eq_true (by omega)]
    refine C_any (wpAny_Constant_int ?_)
    have := h tk₂' (tk₂' + 1)
    rw [if_pos hc] at this
    exact this
  · rw [decide_eq_false (by omega)]
    refine C_any (wpAny_Constant_int ?_)
    have := h tk₂' (tk₂' + 1)
    rw [if_neg hc] at this
    exact this
theorem C_last {x : Str} {p1 p2 p3 p4 : Pos} {k : Nat} {a : Addr} {us : List Value} {v : Value} {Q : Value → Shared → Prop} (S : Sd N env fs s m) (hx : env.kindOf x = some .local) (hv : m x = some (.ref a)) (hL : Lst s.heap a (us ++ [v])) (h : ∀ tk, Q v { s with toks := tk })
    (hd : (x == ("__debug__" : Str)) = false := by decide) : wpC (model prog w) A (eval (.Subscript (.Name x p1) (.UnaryOp .USub (.Constant (.int 1) k p2) p3) p4) env) Q E s :=
  C_Subscript (C_any (S.ld hx hv (C_UnaryOp (C_any (wpAny_Constant_int (C_any (PyProof.Rows.neg_int (C_any (sub_last (s := { s with toks := s.toks + 1 + 1 }) hL (h _)))))))) hd))
theorem C_more {p1 p2 p3 p4 p5 p6 p7 : Pos} {k : Nat} {a b : Addr} {vs ws : List Value} {v : Value} {Q : Value → Shared → Prop} (T : LawTop mg mb s.heap) (hsc : env.scope = scopeOf top[12]?) (hgl : env.globals = mainGlobals) (hbi : env.builtins = builtinsNs) (S : Sd N env fs s m) (hr : m "runs" = some (.ref a)) (hm : m "more" = some (.ref b)) (hL : Lst s.heap a vs) (hM : Lst s.heap b ws)
    (h1 : vs.length ≤ 1000000) (h0 : 0 < vs.length) (hv : ws[vs.length - 1]? = some v) (h : ∀ tk, Q v { s with toks := tk }) :
    wpC (model prog w) A (eval (.Subscript (.Name "more" p1) (.BinOp (.Call (.Name "len" p2) [.Name "runs" p3] [] p4) .Sub (.Constant (.int 1) k p5) p6) p7) env) Q E s := by
  refine C_Subscript (C_any (S.ld (kd hsc rfl) hm (C_BinOp (C_len T hgl hbi S (kd hsc rfl) (kd hsc rfl) hr hL h1 fun tk tk' => C_any (wpAny_Constant_int (C_any (PyProof.Rows.sub_int ?_)))))))
  refine C_any (sub_list (s := { s with toks := tk' + 1 + 1 }) hM (by omega) (by omega) (x := v) ?_ (h _))
  rw [show ((vs.length : Int) - 1).toNat = vs.length - 1 by omega]
  exact hv
theorem split_last {vs : List Value} {n : Nat} {v : Value} (hn : vs.length = n + 1) (h : vs[n]? = some v) : vs = vs.take n ++ [v] := by
  have : vs = vs.take (n + 1) := (List.take_of_length_le (by omega)).symm
  rw [List.take_add_one, h] at this
  exact this
noncomputable def ifBody : Option Stmt → List Stmt
  | some (.If _ b _ _) => b
  | _ => []
theorem C_any2 {α β : Type} {M : Model} {x : Sem α} {y : α → Sem β} {Q : β → Shared → Prop} (h : wpAny M A x (fun a s₁ => wpAny M A (y a) Q E s₁) E s) : wpC M A x (fun a s₁ => wpC M A (y a) Q E s₁) E s :=
  C_any (wpAny_mono h (fun _ _ h₁ => C_any h₁) fun _ _ e => e)
theorem lt_one {a b : Nat} : (decide (([a] : List Nat) < [b])) = decide (a < b) := by
  by_cases h : a < b
  · rw [decide_eq_true h, decide_eq_true]; exact List.Lex.rel h
  · rw [decide_eq_false h, decide_eq_false]
    intro q
    cases q with
    | rel q => exact h q
    | cons q => cases q
theorem than_tests {env : Env} {a b dA : Addr} {short grown : Str} {ts tg : Tok} {tl : Int} {Q : Flow → Shared → Prop} (hh : A.handled = none) (hsc : env.scope = scopeOf top[12]?) (hgl : env.globals = mainGlobals) (hbi : env.builtins = builtinsNs) (S : Sd N env fs s m) (T : LawTop mg mb s.heap)
    (hr : m "runs" = some (.ref a)) (hm : m "more" = some (.ref b)) (hk : m "ranks" = some (.ref dA)) (hs : m "short" = some (.str short ts)) (hg : m "grown" = some (.str grown tg)) (M : StageMap prog w s.heap dA) (hdS : (dA == sysModules) = false) (hsp : 0 < short.cps.size) (hgz : grown.length ≤ 1000000)
    (tail : ∀ t m', Sd N env fs t m' → m' "runs" = some (.ref a) → m' "more" = some (.ref b) → Ext N (· = env.locals) s t → (short ≠ grown → thanOf short grown tl = tl) → wpC (model prog w) A (execs ((bodyOf top[12]?).drop 2) env) Q E t)
    (h : ∀ t tk v, Ext N (· = env.locals) s t → (short ≠ grown → thanOf short grown tl = v) → Q (.ret (.int v tk)) t) :
    wpC (model prog w) A (execs ((ifBody (bodyOf top[12]?)[1]?).drop 1) env) (fun f s' => match f with | .next => wpC (model prog w) A (execs ((bodyOf top[12]?).drop 2) env) Q E s' | f => Q f s') E s := by
  have hc0 : short.cps[(0 : Int).toNat]? = some (short.cps.getD 0 0) := by simp [hsp, Array.getD]
  refine C_cons ?_
  refine C_If (C_isTrue_Compare1 (C_Subscript (C_any (S.ld (kd hsc rfl) hs (C_any (wpAny_Constant_int (C_any (sub_str (by omega) (by omega) hc0 (C_any (Constant_str (C_any (PySem.P.gt_str (truth_any ?_)))))))))))))
  rw [show (decide ((Str.ofString "9").cps.toList < (⟨#[short.cps.getD 0 0]⟩ : Str).cps.toList)) = decide (57 < short.cps.getD 0 0) from lt_one]
  by_cases hc : 57 < short.cps.getD 0 0
  · rw [decide_eq_true hc, if_pos rfl]
    refine C_cons ?_
    refine C_Return (C_IfExp (C_isTrue_Compare1 (C_stage (S.toks _) hk (kd hsc rfl) hg (kd hsc rfl) M hdS fun tk tk' => C_stage (S.toks _) hk (kd hsc rfl) hs (kd hsc rfl) M hdS fun tk₂ tk₂' => ?_)))
    refine C_any (PyProof.Rows.lt_int (truth_any ?_))
    by_cases hst : stage grown < stage short
    · rw [decide_eq_true hst, if_pos rfl]
      refine C_UnaryOp (C_any (wpAny_Constant_int (C_any (PyProof.Rows.neg_int ?_))))
      refine h _ _ _ (Ext.refl.toks _) fun hne => ?_
      unfold thanOf; rw [if_neg hne, if_pos hc, if_pos hst]
    · rw [decide_eq_false hst, if_neg Bool.false_ne_true]
      refine C_any (wpAny_Constant_int ?_)
      refine h _ _ _ (Ext.refl.toks _) fun hne => ?_
      unfold thanOf; rw [if_neg hne, if_pos hc, if_neg hst]
  · rw [decide_eq_false hc, if_neg Bool.false_ne_true]
    refine C_nil ?_
    refine C_cons ?_
    refine C_If (C_isTrue_Compare1 (C_any ((S.toks _).ld (kd hsc rfl) hg (C_BinOp (C_any (Constant_str (C_fn ((S.toks _).toks _) (kd hsc rfl) (hgl ▸ T.g) T.nlen (hbi ▸ T.b) T.blen (C_any (((S.toks _).toks _).ld (kd hsc rfl) hg (C_any (PySem.P.len_str (by omega) ?_)))))))))))
    refine C_any (SB.mul ?_ fun tk tk' => C_any (PyProof.Rows.ne_str (truth_any ?_)))
    · refine ⟨by simp; omega, fun h1 h2 => ?_, fun h1 h2 => ?_⟩
      · have e1 : (Str.ofString "0").length = 1 := by decide
        rw [e1]
        have : (2 ^ 63 - 1 : Int) / (grown.length : Int) ≥ 1 := (Int.le_ediv_iff_mul_le (by omega)).mpr (by omega)
        omega
      · unfold Builtin.Str.tooLong
        rw [show (Str.ofString "0").length = 1 from by decide, sizeLine_eq]
        simp; omega
    · by_cases hz : grown = Txt.mul "0" grown.length
      · rw [show (grown != Txt.mul (Str.ofString "0") (grown.length : Int)) = false from by rw [← hz]; exact bne_self_eq_false _, if_neg Bool.false_ne_true]
        refine C_nil (C_nil ?_)
        refine tail _ m (S.toks _) hr hm (Ext.refl.toks _) fun hne => ?_
        unfold thanOf; rw [if_neg hne, if_neg hc, if_pos hz]
      · rw [show (grown != Txt.mul (Str.ofString "0") (grown.length : Int)) = true from bne_iff_ne.mpr hz, if_pos rfl]
        refine C_cons (C_Return (C_any (wpAny_Constant_int ?_)))
        refine h _ _ _ (Ext.refl.toks _) fun hne => ?_
        unfold thanOf; rw [if_neg hne, if_neg hc, if_neg hz]
theorem than_inner {env : Env} {a b dA : Addr} {us vs ws : List Value} {short grown : Str} {ts tg : Tok} {tl : Int} {Q : Flow → Shared → Prop} (hh : A.handled = none) (hsc : env.scope = scopeOf top[12]?) (hgl : env.globals = mainGlobals) (hbi : env.builtins = builtinsNs) (S : Sd N env fs s m) (T : LawTop mg mb s.heap) (hN : topN ≤ N)
    (hr : m "runs" = some (.ref a)) (hm : m "more" = some (.ref b)) (hk : m "ranks" = some (.ref dA)) (M : StageMap prog w s.heap dA) (hdS : (dA == sysModules) = false) (hdL : dA ≠ env.locals) (hL : Lst s.heap a (us ++ [.str short ts])) (hvs : vs = us ++ [.str short ts]) (hM : Lst s.heap b ws) (hgv : ws[vs.length - 1]? = some (.str grown tg)) (h1 : vs.length ≤ 1000000) (h0 : 0 < vs.length) (hsp : 0 < short.cps.size) (hgz : grown.length ≤ 1000000)
    (tail : ∀ t m', Sd N env fs t m' → m' "runs" = some (.ref a) → m' "more" = some (.ref b) → Ext N (· = env.locals) s t → (short ≠ grown → thanOf short grown tl = tl) → wpC (model prog w) A (execs ((bodyOf top[12]?).drop 2) env) Q E t)
    (h : ∀ t tk v, Ext N (· = env.locals) s t → (short ≠ grown → thanOf short grown tl = v) → Q (.ret (.int v tk)) t) :
    wpC (model prog w) A (execs (ifBody (bodyOf top[12]?)[1]?) env) (fun f s' => match f with | .next => wpC (model prog w) A (execs ((bodyOf top[12]?).drop 2) env) Q E s' | f => Q f s') E s := by
  refine C_cons ?_
  refine C_AssignTuple_swapped (names := ["short", "grown"]) ?_ ?hw
  case hw => unfold swappedStores; simp only [Env.blockKind, Env.kindOf, hsc]; rfl
  refine C_Tuple (C_items_cons (C_last S (kd hsc rfl) hr hL fun tk => C_items_cons (C_more (s := { s with toks := tk }) (vs := vs) T hsc hgl hbi (S.toks _) hr hm (hvs ▸ hL) hM h1 h0 hgv fun tk₂ => C_items_nil ⟨by rw [sizeLine_eq]; exact Nat.le_of_ble_eq_true rfl, ?_⟩)))
  refine C_any2 (swap2 hh (Tup.new s.heap [.str short ts, .str grown tg]) fun h₁ kp₁ => ?_)
  have kp₁' : ∀ b o, s.heap.get? b = some o → h₁.get? b = some o := fun b o e => kp₁ b o (Heap.get?_push_of_some _ e)
  have X₁ : Ext N (fun _ => False) s { s with heap := h₁, toks := tk₂ } := Ext.refl.keeps kp₁'
  refine (S.ext0 X₁).st' (kd hsc rfl) fun h₂ S₂ hs₂ X₂ => ?_
  refine S₂.st' (kd hsc rfl) fun h₃ S₃ hs₃ X₃ => ?_
  exact than_tests hh hsc hgl hbi S₃ (T.keep (Keep.of ((X₁.mono fun _ z => z.elim).trans (X₂.trans X₃)) hN fun b q => .inl (q ▸ Nat.le_trans hN S.lo))) ((upd_ne (by decide)).trans ((upd_ne (by decide)).trans hr)) ((upd_ne (by decide)).trans ((upd_ne (by decide)).trans hm)) ((upd_ne (by decide)).trans ((upd_ne (by decide)).trans hk)) upd_same ((upd_ne (by decide)).trans upd_same)
    (((M.kept kp₁').but hs₂.extBut hdL).but hs₃.extBut hdL) hdS hsp hgz (fun t m' S' a1 a2 X ht => tail t m' S' a1 a2 (((X₁.mono fun _ z => z.elim).trans (X₂.trans X₃)).trans X) ht) fun t tk v X hv => h t tk v (((X₁.mono fun _ z => z.elim).trans (X₂.trans X₃)).trans X) hv
theorem than_rest {env : Env} {a b dA : Addr} {vs ws : List Value} {runs more : List Str} {Q : Flow → Shared → Prop} (T : LawTop mg mb s.heap) (hN : topN ≤ N) (hh : A.handled = none) (hsc : env.scope = scopeOf top[12]?) (hgl : env.globals = mainGlobals) (hbi : env.builtins = builtinsNs) (S : Sd N env fs s m)
    (hr : m "runs" = some (.ref a)) (hm : m "more" = some (.ref b)) (hk : m "ranks" = some (.ref dA)) (M : StageMap prog w s.heap dA) (hdS : (dA == sysModules) = false) (hdL : dA ≠ env.locals) (hL : Lst s.heap a vs) (hM : Lst s.heap b ws)
    (hvl : vs.length = runs.length) (hwl : ws.length = more.length) (hvg : ∀ (i : Nat) (x : Str), runs[i]? = some x → ∃ t, vs[i]? = some (Value.str x t)) (hwg : ∀ (i : Nat) (x : Str), more[i]? = some x → ∃ t, ws[i]? = some (Value.str x t))
    (hl : runs ≠ [] → runs.length ≤ more.length) (h1 : runs.length ≤ 1000000) (h2 : more.length ≤ 1000000) (hne : ∀ x ∈ runs, 0 < x.cps.size) (hz : ∀ x ∈ more, x.length ≤ 1000000)
    (h : ∀ t tk, Ext N (· = env.locals) s t → Q (.ret (.int (than runs more) tk)) t) : wpC (model prog w) A (execs ((bodyOf top[12]?).drop 1) env) Q E s := by
  have tail : ∀ t m', Sd N env fs t m' → m' "runs" = some (.ref a) → m' "more" = some (.ref b) → Ext N (· = env.locals) s t → than runs more = thanTail runs more →
      wpC (model prog w) A (execs ((bodyOf top[12]?).drop 2) env) Q E t := fun t m' S' h1' h2' X' ht => by
    have hWL : ∀ b, b = env.locals → topN ≤ b ∨ Tab b := fun b q => .inl (q ▸ Nat.le_trans hN S.lo)
    have hoff : ∀ {c : Addr} {us : List Value}, Lst s.heap c us → c ≠ env.locals := fun {c us} hc q => by
      obtain ⟨_, ⟨o, es, ep, e, hd, _⟩, _⟩ := S.ns
      obtain ⟨_, e'⟩ := hc
      rw [q, e] at e'; cases e'; cases hd
    refine than_tail (T.keep (Keep.of X' hN hWL)) hsc hgl hbi S' h1' h2' (hL.ext X' (hoff hL)) (hM.ext X' (hoff hM)) (by omega) (by omega) fun tk tk' => ?_
    have := h _ tk (X'.toks tk')
    rw [ht] at this
    unfold thanTail at this
    rw [hvl, hwl]
    exact this
  rcases List.eq_nil_or_concat runs with hnil | ⟨init, short, hcat⟩
  · subst hnil
    have hvs : vs = [] := List.length_eq_zero_iff.mp (by simpa using hvl)
    refine C_cons ?_
    refine C_If (C_isTrue_BoolOp (C_allTrue_And_cons (C_isTrue_plain (C_any (S.ld (kd hsc rfl) hr (C_any (truthy_lst hL (by omega) fun tk => ?_)))))))
    subst hvs
    refine C_nil ?_
    exact tail _ m (S.toks _) hr hm (Ext.refl.toks _) rfl
  · rw [List.concat_eq_append] at hcat
    have hrl : runs.length = init.length + 1 := by rw [hcat]; simp
    obtain ⟨ts, hts⟩ := hvg init.length short (by rw [hcat]; simp)
    have hvs : vs = vs.take init.length ++ [.str short ts] := split_last (by omega) hts
    have hml : init.length < more.length := by have := hl (by rw [hcat]; simp); omega
    obtain ⟨tg, htg⟩ := hwg init.length more[init.length] (by simp [hml])
    have hgz := hz more[init.length] (List.getElem_mem hml)
    have hthan : than runs more = thanOf short more[init.length] (thanTail runs more) := by
      unfold than
      have e1 : runs.getLast? = some short := by rw [hcat]; simp
      rw [e1]
      show thanOf short (more.getD (runs.length - 1) Str.empty) _ = _
      rw [hrl, Nat.add_sub_cancel, List.getD_eq_getElem?_getD, List.getElem?_eq_getElem hml]
      rfl
    generalize hgr : more[init.length] = grown at htg hthan hgz
    have hsp : 0 < short.cps.size := hne short (by rw [hcat]; simp)
    have hgv : ws[vs.length - 1]? = some (.str grown tg) := by rw [hvl, hrl, Nat.add_sub_cancel]; exact htg
    have hL' : Lst s.heap a (vs.take init.length ++ [.str short ts]) := hvs ▸ hL
    have hv0 : vs.isEmpty = false := by rw [hvs]; simp
    refine C_cons ?_
    refine C_If (C_isTrue_BoolOp (C_allTrue_And_cons (C_isTrue_plain (C_any (S.ld (kd hsc rfl) hr (C_any (truthy_lst hL (by omega) fun tk => ?_)))))))
    rw [hv0]
    refine C_allTrue_And_cons (C_isTrue_Compare1 (C_last (s := { s with toks := tk }) (S.toks _) (kd hsc rfl) hr hL' fun tk₁ => C_more (s := { s with toks := tk₁ }) T hsc hgl hbi (S.toks _) hr hm hL hM (by omega) (by omega) hgv fun tk₂ => ?_))
    refine C_any (PyProof.Rows.ne_str (truth_any ?_))
    by_cases hsg : short = grown
    · rw [show (short != grown) = false from by rw [hsg]; exact bne_self_eq_false _]
      refine C_nil ?_
      refine tail _ m (S.toks _) hr hm (Ext.refl.toks _) ?_
      rw [hthan]; unfold thanOf; rw [if_pos hsg]
    · rw [show (short != grown) = true from bne_iff_ne.mpr hsg]
      refine C_allTrue_And_nil ?_
      rw [if_pos rfl]
      exact than_inner hh hsc hgl hbi (S.toks _) T hN hr hm hk M hdS hdL hL' hvs hM hgv (by omega) (by omega) hsp hgz (fun t m' S' a1 a2 X ht => tail t m' S' a1 a2 ((Ext.refl.toks _).trans X) (by rw [hthan]; exact ht hsg)) fun t tk v X hv => by
        have := h t tk ((Ext.refl.toks _).trans X)
        rw [hthan, hv hsg] at this
        exact this
theorem than_call {F G : Addr → Prop} {v₁ v₂ : Value} {runs more : List Str} {Q : Value → Shared → Prop} (T : LawTop mg mb s.heap) (hN : topN ≤ N) (hNs : N ≤ s.heap.objs.size) (hroom : A.depth < recursionLimit) (hh : A.handled = none) (hF : Frs N s.heap outer)
    (hr : Rd F s.heap v₁ (strsD runs)) (hm : Rd G s.heap v₂ (strsD more)) (hl : runs ≠ [] → runs.length ≤ more.length) (h1 : runs.length ≤ 1000000) (h2 : more.length ≤ 1000000) (hne : ∀ x ∈ runs, 0 < x.cps.size) (hz : ∀ x ∈ more, x.length ≤ 1000000)
    (h : ∀ t tk, Ext N (fun _ => False) s t → Q (.int (than runs more) tk) t) : wpC (model prog w) A (call (.ref aThan) [v₁, v₂]) Q E s := by
  obtain ⟨a, vs, rfl, -, hL, hvl, hvg⟩ := rd_strs hr
  obtain ⟨b, ws, rfl, -, hM, hwl, hwg⟩ := rd_strs hm
  refine C_enterS (binds := [("runs", .ref a), ("more", .ref b)]) hroom hF hNs T.fthan T.lim (fun fd h1 h2 h3 _ => BindsTo.of_eq ?_) (locs rfl) (fun L x c hc => by cases hc) fun env t₀ V S₀ X₀ => ?_
  · obtain ⟨nm, qn, pr, bd, sc, gl, cl, df, kw, dc, pm, an, co, ct, bi⟩ := fd
    simp only at h1 h2 h3
    subst h1 h2 h3
    rfl
  have hsc := V.sc
  have hgl := V.gl
  have hbi := V.bi
  have hlo := V.lo
  have hh' : (A.deeper env).handled = none := hh
  clear V
  generalize A.deeper env = A' at hh' ⊢
  have hlf : s.heap.get? env.locals = none := by rw [hlo]; exact Heap.get?_none_of_le (Nat.le_refl _)
  have hsz : env.locals < t₀.heap.objs.size := let ⟨_, ⟨_, _, _, e, _⟩, _⟩ := S₀.ns; Heap.lt_size e
  have hdN : topN ≤ t₀.heap.objs.size := Nat.le_trans hN (Nat.le_trans S₀.lo (Nat.le_of_lt hsz))
  refine C_cons ?_
  refine C_AssignName ?_
  refine C_any ?_
  refine wpAny_Dict_walk (knd := strKind prog w) ?a1 ?a2 ?a3 ?a4 ?_
  case a1 => rfl
  case a2 => rfl
  case a3 => exact fun q => by cases q
  case a4 => exact Nat.le_of_ble_eq_true rfl
  refine pairTrees_cons_walk ?_
  refine Constant_str ?_
  refine wpAny_Constant_int ?_
  refine pairTrees_cons_walk ?_
  refine Constant_str ?_
  refine wpAny_Constant_int ?_
  refine pairTrees_cons_walk ?_
  refine Constant_str ?_
  refine wpAny_Constant_int ?_
  refine pairTrees_cons_walk ?_
  refine Constant_str ?_
  refine wpAny_Constant_int ?_
  refine pairTrees_cons_walk ?_
  refine Constant_str ?_
  refine wpAny_Constant_int ?_
  refine pairTrees_cons_walk ?_
  refine Constant_str ?_
  refine wpAny_Constant_int ?_
  refine pairTrees_cons_walk ?_
  refine Constant_str ?_
  refine wpAny_Constant_int ?_
  refine pairTrees_cons_walk ?_
  refine Constant_str ?_
  refine wpAny_Constant_int ?_
  refine pairTrees_cons_walk ?_
  refine Constant_str ?_
  refine wpAny_Constant_int ?_
  refine pairTrees_cons_walk ?_
  refine Constant_str ?_
  refine wpAny_Constant_int ?_
  refine pairTrees_nil_walk ?_
  refine display_done_str ?b1 ?b2 (Heap.DictOf.new _) fun h₁ hd₁ hs₁ => ?_
  case b1 => rfl
  case b2 => exact nodup_stages
  have M₁ : StageMap prog w h₁ t₀.heap.objs.size := ⟨_, hd₁.mapOf, fun x => StL.look (l := stagesL) (.cons (.cons (.cons (.cons (.cons (.cons (.cons (.cons (.cons (.cons .nil)))))))))) x⟩
  have kp₁ : ∀ b o, t₀.heap.get? b = some o → h₁.get? b = some o := fun b o e => hs₁.extBut b o (Nat.ne_of_lt (Heap.lt_size e)) (Heap.get?_push_of_some _ e)
  have X₁ : ∀ tk, Ext N (fun _ => False) s { t₀ with heap := h₁, toks := tk } := fun tk => X₀.keeps kp₁
  have S₁ : ∀ tk, Sd N env (env :: outer) { t₀ with heap := h₁, toks := tk } (fun y => List.lookup y [((Str.ofString "runs"), Value.ref a), ((Str.ofString "more"), Value.ref b)].reverse) := fun tk => S₀.ext0 (Ext.refl.keeps kp₁)
  refine C_any ((S₁ _).st' (kd hsc rfl) fun h₂ S₂ hs₂ X₂ => ?_)
  have X₂' := (X₁ _).trans' X₂ fun b q => .inl (by rw [q]; exact hlf)
  refine than_rest (dA := t₀.heap.objs.size) (T.keep (Keep.of X₂' hN (fun _ z => z.elim))) hN hh' hsc hgl hbi S₂ ((upd_ne (by decide)).trans rfl) ((upd_ne (by decide)).trans rfl) upd_same (M₁.but hs₂.extBut (Nat.ne_of_gt hsz)) (beq_eq_false_iff_ne.mpr (Nat.ne_of_gt (Nat.lt_of_lt_of_le (show sysModules < topN by decide) hdN))) (Nat.ne_of_gt hsz)
    (hL.ext X₂' id) (hM.ext X₂' id) hvl hwl hvg hwg hl h1 h2 hne hz fun t tk X => ?_
  exact h t tk (X₂'.trans' X fun b q => .inl (by rw [q]; exact hlf))
end
end Mine
end
section
open PySem PySem.Calls PySem.W PyProof.Rows
set_option Elab.async false
set_option maxRecDepth 100000
namespace Mine
section
variable {prog : Program} {w : World} {A : Around} {E : Value → Shared → Prop} {s t : Shared} {I : Addr} {fp : List Addr} {n : Nat} {P : Nat → Value → Prop} {St : Nat → Heap → Prop} {N : Nat} {env : Env} {fs : List Env} {W : Addr → Prop} {R : Result → Shared → Prop}
theorem for_src' {target : Expr} {body : List Stmt} {m : Str → Option Value} {t₀ : Shared} (J : Nat → Shared → (Str → Option Value) → Prop) (hI : Src prog w A I fp n P St) (S : Sd N env fs s m) (hst : St 0 s.heap) (X : Ext N W t₀ s) (hIf : t₀.heap.get? I = none)
    (hJ : J 0 s m) (stab : ∀ i t t' m, J i t m → Kp (· ≠ I) t.heap t'.heap → (∃ o vs c, t.heap.get? I = some o ∧ o.data = .fields vs ∧ o.cls = .type c ∧ c ∈ itCls) → J i t' m)
    (turn : ∀ i t m v, i < n → P i v → J i t m → Sd N env fs t m → Ext N W t₀ t → (∃ o vs c, t.heap.get? I = some o ∧ o.data = .fields vs ∧ o.cls = .type c ∧ c ∈ itCls) →
      wpC (model prog w) A (assign target env v) (fun _ t₁ => wpC (model prog w) A (execs body env) (fun f t' => f = .next ∧ ∃ m', Sd N env fs t' m' ∧ J (i + 1) t' m' ∧ Ext N W t₀ t' ∧ Kp (fun b => b ∈ fp) t.heap t'.heap) (fun _ _ => False) t₁) (fun _ _ => False) t)
    (fin : ∀ t m, J n t m → Sd N env fs t m → Ext N W t₀ t → R (.ok .next) t) : codeC (model prog w) A (.forLoop target (.ref I) body [] env) R s := by
  refine C_forLoop (fun k t => ∃ i m, i + k = n ∧ Sd N env fs t m ∧ J i t m ∧ St i t.heap ∧ Ext N W t₀ t) ?_ n ⟨0, m, by omega, S, hJ, hst, X⟩
  rintro k t ⟨i, m, hik, S, hJ, hst, X⟩
  have hoff : ∀ o, t.heap.get? I = some o → OffFr o := fun o e => by
    obtain ⟨o', vs, c, e', hd, _⟩ := hI.it i _ hst
    rw [e'] at e; cases e
    exact off_fields hd
  by_cases hlt : i < n
  · refine C_any (hI.w.item i t _ _ hlt hst fun v h' tk hP hst' hk => ?_)
    have hb : Heap.ExtBut I t.heap h' := fun b o q e => hk b o (fun z => q (List.mem_singleton.mp z)) e
    have S' := S.but (tk := tk) hb hoff
    have X' := X.but (tk := tk) (.inl hIf) hb
    have J' := stab i t { t with heap := h', toks := tk } m hJ (.of_but hb) (hI.it i _ hst)
    refine C_any (hI.go (i := i + 1) hst' ?_)
    refine C_mono (turn i _ m v hlt hP J' S' X' (hI.it _ _ hst')) (fun _ t₁ h₁ => C_mono h₁ (fun f t₂ h₂ => ?_) fun _ _ z => z) fun _ _ z => z
    obtain ⟨rfl, m', S₂, J₂, X₂, K₂⟩ := h₂
    refine ⟨k - 1, by omega, i + 1, m', by omega, S₂, J₂, hI.w.frame _ _ _ hst' fun b hb o e => (K₂ b o hb e).1 fun es ep q => ?_, X₂⟩
    obtain ⟨o', e', hof⟩ := hI.nd _ _ hst' b hb
    rw [e'] at e; cases e
    exact hof.1 es ep q
  · have hin : i = n := by omega
    subst hin
    refine C_any (hI.w.done t _ _ hst fun h' tk hk => ?_)
    have hb : Heap.ExtBut I t.heap h' := fun b o q e => hk b o (fun z => q (List.mem_singleton.mp z)) e
    exact fin _ m (stab i t { t with heap := h', toks := tk } m hJ (.of_but hb) (hI.it i _ hst)) (S.but (tk := tk) hb hoff) (X.but (tk := tk) (.inl hIf) hb)
theorem lst_ne_it {h : Heap} {a I : Addr} {vs : List Value} (l : Lst h a vs) (hi : ∃ o us c, h.get? I = some o ∧ o.data = .fields us ∧ o.cls = .type c ∧ c ∈ itCls) : a ≠ I := fun q => by
  obtain ⟨_, e⟩ := l
  obtain ⟨o, us, c, e', hd, _⟩ := hi
  rw [q, e'] at e; cases e; cases hd
noncomputable def cut (vs : List Value) (lo hi : Option Int) : List Value := (vs.drop (lo.elim 0 (clipAt vs.length))).take (hi.elim vs.length (clipAt vs.length) - lo.elim 0 (clipAt vs.length))
theorem C_cut {value : Expr} {lo hi : Option Expr} {p pos : Pos} {Q : Value → Shared → Prop}
    (h : wpC (model prog w) A (eval value env) (fun o s₁ => wpC (model prog w) A (valueOrNone (evalOpt lo env)) (fun vl s₂ => wpC (model prog w) A (valueOrNone (evalOpt hi env)) (fun vu s₃ => ∃ a vs l u, o = .ref a ∧ Lst s₃.heap a vs ∧ IsPart vl l ∧ IsPart vu u ∧ vs.length ≤ 1000000 ∧
      ∀ t L, Ext N (fun _ => False) s₃ t → Lst t.heap L (cut vs l u) → s₃.heap.get? L = none → Q (.ref L) t) E s₂) E s₁) E s) : wpC (model prog w) A (eval (.Subscript value (.Slice lo hi none p) pos) env) Q E s := by
  refine C_Subscript (C_q h fun o s₁ h₁ => C_slice (C_q h₁ fun vl s₂ h₂ => C_q h₂ fun vu s₃ h₃ => ?_))
  obtain ⟨a, vs, l, u, rfl, hl, pl, pu, hz, hq⟩ := h₃
  refine C_any (slice_new (hl.push _) (isSlice_new _ _ _) pl pu hz (fun ws hws => ?_))
  subst hws
  refine hq _ _ ((Ext.refl.push _ (tk := s₃.toks)).push _ (tk := s₃.toks)) (Lst.new _ _) (Heap.get?_none_of_le ?_)
  rw [Heap.size_push]; exact Nat.le_succ _
theorem cut_m1 {vs : List Value} {v : Value} : cut (vs ++ [v]) none (some (-1)) = vs := by unfold cut; simp [clip_m1]
theorem cut_hi {vs : List Value} (k : Nat) : cut vs none (some (k : Int)) = vs.take k := by
  unfold cut
  simp only [Option.elim, clip_nat, List.drop_zero, Nat.sub_zero]
  by_cases h : k ≤ vs.length
  · rw [Nat.min_eq_left h]
  · rw [Nat.min_eq_right (by omega), List.take_of_length_le (Nat.le_refl _), List.take_of_length_le (by omega)]
theorem cut_lo {vs : List Value} (k : Nat) : cut vs (some (k : Int)) none = vs.drop k := by
  unfold cut
  simp only [Option.elim, clip_nat]
  rw [List.take_of_length_le (by simp)]
  by_cases h : k ≤ vs.length
  · rw [Nat.min_eq_left h]
  · rw [Nat.min_eq_right (by omega), List.drop_of_length_le (Nat.le_refl _), List.drop_of_length_le (by omega)]
theorem C_ListA {elts : List Expr} {pos : Pos} {Q : Value → Shared → Prop} (h : wpC (model prog w) A (spliced (backTo pos (starEach elts env)))
      (fun vs s₁ => vs.length ≤ 1000000 ∧ ∀ t L, Ext N (fun _ => False) s₁ t → Lst t.heap L vs → s₁.heap.get? L = none → Q (.ref L) t) E s) : wpC (model prog w) A (eval (.List elts pos) env) Q E s :=
  C_List (C_q h fun vs s₁ h₁ => ⟨by rw [sizeLine_eq]; omega, h₁.2 _ _ (Ext.refl.push _ (tk := s₁.toks)) (Lst.new _ _) (Heap.get?_none_of_le (Nat.le_refl _))⟩)
theorem C_TupleA {elts : List Expr} {k : Nat} {pos : Pos} {Q : Value → Shared → Prop} (h : wpC (model prog w) A (spliced (backTo pos (starEach elts env)))
      (fun vs s₁ => vs.length ≤ 1000000 ∧ ∀ t L, Ext N (fun _ => False) s₁ t → Tup t.heap L vs → s₁.heap.get? L = none → Q (.ref L) t) E s) : wpC (model prog w) A (eval (.Tuple elts k pos) env) Q E s :=
  C_Tuple (C_q h fun vs s₁ h₁ => ⟨by rw [sizeLine_eq]; omega, h₁.2 _ _ (Ext.refl.push _ (tk := s₁.toks)) (Tup.new _ _) (Heap.get?_none_of_le (Nat.le_refl _))⟩)
theorem add_lstA {a b : Addr} {vs ws : List Value} {Q : Value → Shared → Prop} (ha : Lst s.heap a vs) (hb : Lst s.heap b ws) (hz : vs.length + ws.length ≤ 1000000)
    (h : ∀ t L, Ext N (fun _ => False) s t → Lst t.heap L (vs ++ ws) → s.heap.get? L = none → Q (.ref L) t) : wpAny (model prog w) A (binaryOp .Add (.ref a) (.ref b)) Q E s :=
  add_lst ha hb hz (h _ _ (Ext.refl.push _ (tk := s.toks)) (Lst.new _ _) (Heap.get?_none_of_le (Nat.le_refl _)))
end
end Mine
end
section
open PySem PySem.Calls PySem.W PyProof.Rows
set_option Elab.async false
set_option maxRecDepth 100000
namespace Mine
noncomputable def isSign (c : Nat) : Bool := Txt.contains signs ⟨#[c]⟩
noncomputable def isDig (c : Nat) : Bool := if c < 48 then false else !decide (57 < c)
noncomputable def runsStep (st : List Str × Nat) (c : Nat) : List Str × Nat :=
  if isSign c then (st.1, 46)
  else if st.2 ≠ 46 ∧ isDig st.2 = isDig c then (st.1.dropLast ++ [(st.1.getLastD Str.empty) ++ ⟨#[c]⟩], c)
  else (st.1 ++ [⟨#[c]⟩], c)
noncomputable def runsFold (l : List Nat) : List Str × Nat := l.foldl runsStep ([], 46)
noncomputable def runsOf (x : Str) : List Str := (runsFold x.cps.toList).1
theorem runsFold_snoc (l : List Nat) (c : Nat) : runsFold (l ++ [c]) = runsStep (runsFold l) c := by unfold runsFold; rw [List.foldl_append]; rfl
theorem runs_ne (l : List Nat) : (runsFold l).2 ≠ 46 → (runsFold l).1 ≠ [] := by
  rcases List.eq_nil_or_concat l with rfl | ⟨l', c, rfl⟩
  · intro h; exact absurd rfl h
  · rw [List.concat_eq_append, runsFold_snoc]
    unfold runsStep
    split
    · intro h; exact absurd rfl h
    · split <;> simp
inductive Strs : List Value → List Str → Prop
  | nil : Strs [] []
  | cons {x : Str} {t : Tok} {vs : List Value} {l : List Str} : Strs vs l → Strs (.str x t :: vs) (x :: l)
theorem Strs.append {vs ws : List Value} {l k : List Str} (h : Strs vs l) (h' : Strs ws k) : Strs (vs ++ ws) (l ++ k) := by
  induction h with
  | nil => exact h'
  | cons _ ih => exact .cons ih
theorem Strs.length {vs : List Value} {l : List Str} (h : Strs vs l) : vs.length = l.length := by
  induction h with
  | nil => rfl
  | cons _ ih => simp [ih]
theorem Strs.rd {F : Addr → Prop} {h : Heap} {vs : List Value} {l : List Str} (q : Strs vs l) : RdAll F h vs (l.map .str) := by
  induction q with
  | nil => exact .nil
  | cons _ ih => exact .cons (.str _ _) ih
theorem Strs.snoc {vs : List Value} {l : List Str} {x : Str} (h : Strs vs (l ++ [x])) : ∃ ws t, vs = ws ++ [.str x t] ∧ Strs ws l := by
  induction l generalizing vs with
  | nil => cases h with | cons h => cases h; exact ⟨[], _, rfl, .nil⟩
  | cons y l ih => cases h with | @cons _ t vs _ h => obtain ⟨ws, t', rfl, h'⟩ := ih h; exact ⟨.str y t :: ws, t', rfl, .cons h'⟩
section
variable {prog : Program} {w : World} {A : Around} {E : Value → Shared → Prop} {s : Shared} {N : Nat} {outer : List Env} {mg mb : Str → Option Value} {env : Env} {fs : List Env} {m : Str → Option Value}
noncomputable def runsFor : List Stmt := forOf (bodyOf top[11]?)[1]?
noncomputable def elseBody : Option Stmt → List Stmt
  | some (.If _ _ b _) => b
  | _ => []
noncomputable def runsElse : List Stmt := elseBody runsFor[0]?
theorem C_dig {x : Str} {c : Nat} {u : Tok} {p1 p2 p3 p4 : Pos} {k1 k2 : Nat} {Q : Value → Shared → Prop} (S : Sd N env fs s m) (hx : env.kindOf x = some .local) (hv : m x = some (.str ⟨#[c]⟩ u)) (h : ∀ tk, Q (.bool (isDig c)) { s with toks := tk }) (hd : (x == ("__debug__" : Str)) = false := by decide) :
    wpC (model prog w) A (eval (.Compare (.Constant (.str "0") k1 p1) [.LtE, .LtE] [.Name x p2, .Constant (.str "9") k2 p3] p4) env) Q E s := by
  refine C_Compare2 (C_any (Constant_str (C_any ((S.toks _).ld hx hv (C_any (PySem.P.le_str (truth_any ?_))) hd))))
  rw [show decide ((⟨#[c]⟩ : Str).cps.toList < (Str.ofString "0").cps.toList) = decide (c < 48) from lt_one]
  by_cases h1 : c < 48
  · rw [decide_eq_true h1]
    have := h (s.toks + 1)
    rw [show isDig c = false from if_pos h1] at this
    exact this
  · rw [decide_eq_false h1]
    refine C_any (Constant_str (C_any (PySem.P.le_str ?_)))
    rw [show decide ((Str.ofString "9").cps.toList < (⟨#[c]⟩ : Str).cps.toList) = decide (57 < c) from lt_one]
    have := h (s.toks + 1 + 1)
    rw [show isDig c = !decide (57 < c) from if_neg h1] at this
    exact this
noncomputable def RunsPost (N : Nat) (env : Env) (fs : List Env) (s : Shared) (R : Addr) (ys : List Str) (last c : Nat) (t : Shared) : Prop :=
  ∃ m' R' vs' tl', Sd N env fs t m' ∧ m' "runs" = some (.ref R') ∧ m' "last" = some (.str ⟨#[(runsStep (ys, last) c).2]⟩ tl') ∧ Lst t.heap R' vs' ∧ Strs vs' (runsStep (ys, last) c).1 ∧ (R' = R ∨ s.heap.get? R' = none) ∧ Ext N (fun b => b = env.locals ∨ b = R) s t
theorem lst_ne_loc {R : Addr} {vs : List Value} (S : Sd N env fs s m) (hR : Lst s.heap R vs) : R ≠ env.locals := fun q => by
  obtain ⟨_, ⟨o, es, ep, e, hd, _⟩, _⟩ := S.ns
  obtain ⟨_, e'⟩ := hR
  rw [q, e] at e'; cases e'; cases hd
theorem runs_grow {R : Addr} {vs : List Value} {ys : List Str} {last c : Nat} {tc : Tok} (hsc : env.scope = scopeOf top[11]?) (S : Sd N env fs s m) (hr : m "runs" = some (.ref R)) (hs : m "sign" = some (.str ⟨#[c]⟩ tc)) (hR : Lst s.heap R vs) (hv : Strs vs ys)
    (hne : ys ≠ []) (hz : vs.length ≤ 100000) (hyz : ∀ y ∈ ys, y.length ≤ 100000) (hst : runsStep (ys, last) c = (ys.dropLast ++ [(ys.getLastD Str.empty) ++ ⟨#[c]⟩], c)) :
    wpC (model prog w) A (execs (ifBody runsElse[0]?) env) (fun f t => f = .next ∧ RunsPost N env fs s R ys last c t) (fun _ _ => False) s := by
  obtain ⟨zs, y, rfl⟩ : ∃ zs y, ys = zs ++ [y] := by
    rcases List.eq_nil_or_concat ys with h | ⟨zs, y, h⟩
    · exact absurd h hne
    · exact ⟨zs, y, by rw [h, List.concat_eq_append]⟩
  obtain ⟨us, ty, rfl, hu⟩ := hv.snoc
  have hyl : y.length ≤ 100000 := hyz y (by simp)
  have hul : us.length ≤ 100000 := by simp at hz; omega
  have hRL := lst_ne_loc S hR
  refine C_cons ?_
  refine C_AssignName (C_BinOp (C_cut (N := N) (C_any (S.ld (kd hsc rfl) hr (C_opt_none (C_opt_some (C_UnaryOp (C_any (wpAny_Constant_int (C_any (PyProof.Rows.neg_int ⟨R, _, none, some (-1), rfl, hR, .none, .int _ _, by simp; omega, fun t₁ L X₁ hL hLf => ?_⟩)))))))))))
  rw [cut_m1] at hL
  have X₁' : Ext N (fun _ => False) s t₁ := ((Ext.refl.toks _).toks _).trans X₁
  have S₁ := S.ext0 X₁'
  have hR₁ := hR.ext X₁' id
  refine C_ListA (N := N) (C_items_cons (C_BinOp (C_last S₁ (kd hsc rfl) hr hR₁ fun tk => C_any ((S₁.toks _).ld (kd hsc rfl) hs (C_any (PyProof.Rows.add_str (fun tk₂ tk₂' => C_items_nil ⟨by simp, fun t₂ L₂ X₂ hL₂ hf₂ => ?_⟩) ?_))))))
  · have X₂' : Ext N (fun _ => False) t₁ t₂ := ((Ext.refl.toks _).toks _).trans X₂
    refine C_any (add_lstA (N := N) (hL.ext X₂' id) hL₂ (by simp; omega) fun t₃ L₃ X₃ hL₃ hf₃ => ?_)
    have X₃' := (X₁'.trans X₂').trans X₃
    have hf₃' := (X₁'.trans X₂').fresh' hf₃
    refine C_any ((S.ext0 X₃').st (kd hsc rfl) fun t₄ S₄ X₄ _ => ?_)
    refine C_cons ?_
    refine C_AssignName (C_any (S₄.ld (kd hsc rfl) ((upd_ne (by decide)).trans hs) (C_any (S₄.st (kd hsc rfl) fun t₅ S₅ X₅ _ => ?_))))
    have hne₃ := lst_ne_loc (S.ext0 X₃') hL₃
    refine C_nil ⟨rfl, _, L₃, _, tc, S₅, (upd_ne (by decide)).trans upd_same, ?_, (hL₃.ext X₄ hne₃).ext X₅ hne₃, ?_, .inr hf₃', ((X₃'.mono fun _ z => z.elim).trans (X₄.trans X₅)).mono fun _ q => .inl q⟩
    · rw [upd_same, hst]
    · rw [hst]
      have e1 : (zs ++ [y]).dropLast = zs := by simp
      have e2 : (zs ++ [y]).getLastD Str.empty = y := by simp
      rw [e1, e2]
      exact hu.append (.cons .nil)
  · rw [sizeLine_eq]
    have : (⟨#[c]⟩ : Str).length = 1 := rfl
    omega
theorem runs_app {R : Addr} {vs : List Value} {ys : List Str} {last c : Nat} {tc : Tok} (hsc : env.scope = scopeOf top[11]?) (S : Sd N env fs s m) (hr : m "runs" = some (.ref R)) (hs : m "sign" = some (.str ⟨#[c]⟩ tc)) (hR : Lst s.heap R vs) (hv : Strs vs ys)
    (hz : vs.length ≤ 100000) (hst : runsStep (ys, last) c = (ys ++ [⟨#[c]⟩], c)) :
    wpC (model prog w) A (execs (elseBody runsElse[0]?) env) (fun f t => f = .next ∧ RunsPost N env fs s R ys last c t) (fun _ _ => False) s := by
  have hRL := lst_ne_loc S hR
  refine C_cons ?_
  refine C_Expr (C_Call_method PySem.F.plainAttrs_list PySem.F.slot_list_append PySem.F.type_list_append (C_any (S.ld (kd hsc rfl) hr ⟨hR.meth.1, hR.meth.2, ?_⟩))) (quietEnv S.k)
  refine C_callBuiltin rfl rfl (C_evalArgs (C_items_cons (C_any (S.ld (kd hsc rfl) hs (C_items_nil ?_)))))
  refine C_any (append_lst hR (by omega) fun h₁ hR₁ hs₁ => ?_)
  have S₁ := S.same (tk := s.toks) hs₁ (off_lst hR)
  have X₁ : Ext N (fun b => b = env.locals ∨ b = R) s { s with heap := h₁ } := Ext.refl.same (tk := s.toks) (.inr ⟨.inr rfl, let ⟨_, e⟩ := hR₁; ⟨_, e⟩⟩) hs₁
  refine C_cons ?_
  refine C_AssignName (C_any (S₁.ld (kd hsc rfl) hs (C_any (S₁.st (kd hsc rfl) fun t₂ S₂ X₂ _ => ?_))))
  refine C_nil ⟨rfl, _, R, _, tc, S₂, (upd_ne (by decide)).trans hr, ?_, Lst.ext (s := { s with heap := h₁ }) hR₁ X₂ hRL, ?_, .inl rfl, X₁.trans (X₂.mono fun _ q => .inl q)⟩
  · rw [upd_same, hst]
  · rw [hst]; exact hv.append (.cons .nil)
theorem runs_else {R : Addr} {vs : List Value} {ys : List Str} {last c : Nat} {tl tc : Tok} (hsc : env.scope = scopeOf top[11]?) (S : Sd N env fs s m) (hr : m "runs" = some (.ref R)) (hl : m "last" = some (.str ⟨#[last]⟩ tl)) (hs : m "sign" = some (.str ⟨#[c]⟩ tc)) (hR : Lst s.heap R vs) (hv : Strs vs ys)
    (hne : last ≠ 46 → ys ≠ []) (hz : vs.length ≤ 100000) (hyz : ∀ y ∈ ys, y.length ≤ 100000) (hc : isSign c = false) :
    wpC (model prog w) A (execs runsElse env) (fun f t => f = .next ∧ RunsPost N env fs s R ys last c t) (fun _ _ => False) s := by
  refine C_cons ?_
  refine C_If (C_isTrue_BoolOp (C_allTrue_And_cons (C_isTrue_Compare1 (C_any (S.ld (kd hsc rfl) hl (C_any (Constant_str (C_any (PyProof.Rows.ne_str (truth_any ?_))))))))))
  have hll : ((⟨#[last]⟩ : Str) != Str.ofString ".") = decide (last ≠ 46) := by
    by_cases h : last = 46
    · subst h; decide
    · rw [decide_eq_true h]
      refine bne_iff_ne.mpr fun q => h ?_
      have := congrArg (fun x : Str => x.cps.getD 0 0) q
      exact this
  rw [hll]
  have app : ¬ (last ≠ 46 ∧ isDig last = isDig c) → ∀ tk, wpC (model prog w) A (execs (elseBody runsElse[0]?) env) (fun f t => match f with | .next => wpC (model prog w) A (execs [] env) (fun f t => f = .next ∧ RunsPost N env fs s R ys last c t) (fun _ _ => False) t | f => f = .next ∧ RunsPost N env fs s R ys last c t) (fun _ _ => False) { s with toks := tk } := fun hn tk => by
    have hst : runsStep (ys, last) c = (ys ++ [⟨#[c]⟩], c) := by unfold runsStep; rw [if_neg (by rw [hc]; exact Bool.false_ne_true), if_neg hn]
    refine C_mono (runs_app hsc (S.toks _) hr hs hR hv hz hst) (fun f t h => ?_) fun _ _ z => z
    obtain ⟨rfl, m', R', vs', tl', h1, h2, h3, h4, h5, h6, h7⟩ := h
    exact C_nil ⟨rfl, m', R', vs', tl', h1, h2, h3, h4, h5, h6, (Ext.refl.toks _).trans h7⟩
  by_cases h46 : last = 46
  · rw [decide_eq_false (by simpa using h46), if_neg Bool.false_ne_true]
    exact app (fun q => q.1 h46) _
  · rw [decide_eq_true h46]
    refine C_allTrue_And_cons (C_isTrue_Compare1 (C_dig (S.toks _) (kd hsc rfl) hl fun tk => C_dig ((S.toks _).toks _) (kd hsc rfl) hs fun tk₂ => ?_))
    refine C_any (PyProof.Rows.eq_bool (truth_any ?_))
    by_cases hd : isDig last = isDig c
    · rw [show (isDig last == isDig c) = true from beq_iff_eq.mpr hd]
      refine C_allTrue_And_nil ?_
      rw [if_pos rfl]
      have hst : runsStep (ys, last) c = (ys.dropLast ++ [(ys.getLastD Str.empty) ++ ⟨#[c]⟩], c) := by unfold runsStep; rw [if_neg (by rw [hc]; exact Bool.false_ne_true), if_pos ⟨h46, hd⟩]
      refine C_mono (runs_grow hsc (S.toks _) hr hs hR hv (hne h46) hz hyz hst) (fun f t h => ?_) fun _ _ z => z
      obtain ⟨rfl, m', R', vs', tl', h1, h2, h3, h4, h5, h6, h7⟩ := h
      exact C_nil ⟨rfl, m', R', vs', tl', h1, h2, h3, h4, h5, h6, (Ext.refl.toks _).trans h7⟩
    · rw [show (isDig last == isDig c) = false from beq_eq_false_iff_ne.mpr hd, if_neg Bool.false_ne_true, if_neg Bool.false_ne_true]
      exact app (fun q => hd q.2) _
theorem runs_turn {R : Addr} {vs : List Value} {ys : List Str} {last c : Nat} {tl tc : Tok} (hsc : env.scope = scopeOf top[11]?) (S : Sd N env fs s m) (hr : m "runs" = some (.ref R)) (hl : m "last" = some (.str ⟨#[last]⟩ tl)) (hs : m "sign" = some (.str ⟨#[c]⟩ tc)) (hR : Lst s.heap R vs) (hv : Strs vs ys)
    (hne : last ≠ 46 → ys ≠ []) (hz : vs.length ≤ 100000) (hyz : ∀ y ∈ ys, y.length ≤ 100000) :
    wpC (model prog w) A (execs runsFor env) (fun f t => f = .next ∧ RunsPost N env fs s R ys last c t) (fun _ _ => False) s := by
  have hRL := lst_ne_loc S hR
  refine C_cons ?_
  refine C_If (C_isTrue_Compare1 (C_any (S.ld (kd hsc rfl) hs (C_any (Constant_str (C_any (SB.contains (truth_any ?_))))))))
  rw [show Txt.contains (Str.ofString "._+-") ⟨#[c]⟩ = isSign c from rfl]
  cases hc : isSign c with
  | true =>
    have hst : runsStep (ys, last) c = (ys, 46) := by unfold runsStep; rw [if_pos hc]
    rw [if_pos rfl]
    refine C_cons (C_AssignName (C_any (Constant_str (C_any (((S.toks _).toks _).st (kd hsc rfl) fun t S₁ X₁ _ => ?_)))))
    refine C_nil (C_nil ⟨rfl, _, R, vs, s.toks + 1, S₁, (upd_ne (by decide)).trans hr, ?_, hR.ext (((Ext.refl.toks _).toks _).trans X₁) hRL, ?_, .inl rfl, (((Ext.refl.toks _).toks _).trans X₁).mono fun _ q => .inl q⟩)
    · rw [upd_same, hst]; rfl
    · rw [hst]; exact hv
  | false =>
    rw [if_neg Bool.false_ne_true]
    refine C_mono (runs_else hsc (S.toks _) hr hl hs hR hv hne hz hyz hc) (fun f t h => ?_) fun _ _ z => z
    obtain ⟨rfl, m', R', vs', tl', h1, h2, h3, h4, h5, h6, h7⟩ := h
    exact C_nil ⟨rfl, m', R', vs', tl', h1, h2, h3, h4, h5, h6, (Ext.refl.toks _).trans h7⟩
end
end Mine
end
section
open PySem PySem.Calls PySem.W PyProof.Rows
set_option Elab.async false
set_option maxRecDepth 100000
namespace Mine
theorem runs_len (l : List Nat) : (runsFold l).1.length ≤ l.length ∧ ∀ y ∈ (runsFold l).1, y.length ≤ l.length := by
  have key : ∀ n, ∀ l : List Nat, l.length = n → (runsFold l).1.length ≤ n ∧ ∀ y ∈ (runsFold l).1, y.length ≤ n := by
    intro n
    induction n with
    | zero => intro l hl; rw [List.length_eq_zero_iff.mp hl]; exact ⟨Nat.le_refl _, fun y hy => by cases hy⟩
    | succ n ih =>
      intro l hl
      rcases List.eq_nil_or_concat l with rfl | ⟨l', c, rfl⟩
      · simp at hl
      · rw [List.concat_eq_append] at hl ⊢
        have hl' : l'.length = n := by simp at hl; omega
        obtain ⟨h1, h2⟩ := ih l' hl'
        rw [runsFold_snoc]
        generalize runsFold l' = st at h1 h2
        obtain ⟨rs, la⟩ := st
        dsimp only at h1 h2
        unfold runsStep
        split
        · exact ⟨by dsimp only; omega, fun y hy => by have := h2 y hy; omega⟩
        · split
          · dsimp only
            rcases List.eq_nil_or_concat rs with rfl | ⟨zs, z, rfl⟩
            · refine ⟨by simp, fun y hy => ?_⟩
              simp at hy
              subst hy
              show (Str.empty.cps ++ #[c]).size ≤ _
              simp [Str.empty]
            · rw [List.concat_eq_append] at h1 h2 ⊢
              refine ⟨by simp at h1 ⊢; omega, fun y hy => ?_⟩
              have e1 : (zs ++ [z]).dropLast = zs := by simp
              have e2 : (zs ++ [z]).getLastD Str.empty = z := by simp
              rw [e1, e2] at hy
              rcases List.mem_append.mp hy with hy | hy
              · have := h2 y (List.mem_append_left _ hy); omega
              · rw [List.mem_singleton.mp hy]
                have := h2 z (by simp)
                have e3 : (z ++ (⟨#[c]⟩ : Str)).length = z.length + 1 := by
                  show (z.cps ++ #[c]).size = z.cps.size + 1
                  simp
                omega
          · dsimp only
            refine ⟨by simp; omega, fun y hy => ?_⟩
            rcases List.mem_append.mp hy with hy | hy
            · have := h2 y hy; omega
            · rw [List.mem_singleton.mp hy]
              show 1 ≤ n + 1
              omega
  exact key l.length l rfl
section
variable {prog : Program} {w : World} {A : Around} {E : Value → Shared → Prop} {s : Shared} {N : Nat} {outer : List Env} {mg mb : Str → Option Value} {env : Env} {fs : List Env} {m : Str → Option Value}
theorem runs_loop {x : Str} {tx tl : Tok} {R : Addr} {Q : Flow → Shared → Prop} (hh : A.handled = none) (hsc : env.scope = scopeOf top[11]?) (S : Sd N env fs s m) (t₀ : Shared) (X : Ext N (· = env.locals) t₀ s) (hL₀ : ∃ o, t₀.heap.get? env.locals = some o) (hx : m "text" = some (.str x tx)) (hr : m "runs" = some (.ref R)) (hl : m "last" = some (.str ⟨#[46]⟩ tl)) (hR : Lst s.heap R []) (hRf : t₀.heap.get? R = none) (hz : x.cps.size ≤ 10000)
    (h : ∀ t a vs, Ext N (· = env.locals) t₀ t → Lst t.heap a vs → Strs vs (runsOf x) → t₀.heap.get? a = none → Q (.ret (.ref a)) t) : wpC (model prog w) A (execs ((bodyOf top[11]?).drop 1) env) Q E s := by
  refine C_cons ?_
  refine C_For (C_any (S.ld (kd hsc rfl) hx (C_any (src_str fun o St hsrc hst0 => ?_))))
  have S₁ := S.push (tk := s.toks) o
  have X₁ := X.push (tk := s.toks) o
  have hR₁ : Lst (s.heap.push o) R [] := hR.push o
  have hIf : t₀.heap.get? s.heap.objs.size = none := X.fresh (Nat.le_refl _)
  have run_at : ∀ i, i < x.cps.size → ∀ c, x.cps[i]? = some c → runsFold (x.cps.toList.take (i + 1)) = runsStep (runsFold (x.cps.toList.take i)) c := fun i hi c hc => by
    have : x.cps.toList.take (i + 1) = x.cps.toList.take i ++ [c] := by
      rw [List.take_add_one, show x.cps.toList[i]? = some c from by simpa using hc]; rfl
    rw [this, runsFold_snoc]
  refine for_src' (t₀ := t₀) (W := (· = env.locals)) (fun i t m => ∃ R vs tl, m "runs" = some (.ref R) ∧ m "last" = some (.str ⟨#[(runsFold (x.cps.toList.take i)).2]⟩ tl) ∧ Lst t.heap R vs ∧ Strs vs (runsFold (x.cps.toList.take i)).1 ∧ t₀.heap.get? R = none)
    (hsrc A hh) S₁ hst0 X₁ hIf ⟨R, [], tl, hr, hl, hR₁, .nil, hRf⟩ (fun i t t' m hJ hk hit => ?_) (fun i t m v hi hv hJ S' X' hit => ?_) (fun t m hJ S' X' => ?_)
  · obtain ⟨R, vs, tl, h1, h2, h3, h4, h5⟩ := hJ
    exact ⟨R, vs, tl, h1, h2, h3.kp hk (lst_ne_it h3 hit), h4, h5⟩
  · obtain ⟨R, vs, tl, h1, h2, h3, h4, h5⟩ := hJ
    obtain ⟨c, u, hc, rfl⟩ := hv
    have hlen := runs_len (x.cps.toList.take i)
    have htl : (x.cps.toList.take i).length ≤ 10000 := by simp; omega
    refine C_any (assign_Name (S'.st (kd hsc rfl) fun t₁ S₁' X₁' _ => ?_))
    have hIl : s.heap.objs.size ≠ env.locals := fun q => by
      obtain ⟨o', ho'⟩ := hL₀
      rw [← q, hIf] at ho'; cases ho'
    have hIR := lst_ne_it h3 hit
    refine C_mono (runs_turn hsc S₁' ((upd_ne (by decide)).trans h1) ((upd_ne (by decide)).trans h2) upd_same (h3.ext X₁' (lst_ne_loc S' h3)) h4 (runs_ne _) (by have := h4.length; omega) (fun y hy => by have := hlen.2 y hy; omega)) (fun f t₂ h₂ => ?_) fun _ _ z => z
    obtain ⟨rfl, m', R', vs', tl', a1, a2, a3, a4, a5, a6, a7⟩ := h₂
    refine ⟨rfl, m', a1, ⟨R', vs', tl', a2, ?_, a4, ?_, ?_⟩, ?_, ?_⟩
    · rw [run_at i hi c hc]; exact a3
    · rw [run_at i hi c hc]; exact a5
    · rcases a6 with q | q
      · rw [q]; exact h5
      · exact (X'.trans X₁').fresh' q
    · exact (X'.trans X₁').trans' a7 fun b q => q.elim .inr fun z => .inl (by rw [z]; exact h5)
    · refine Kp.trans ((Kp.of_ext X₁').mono fun b hb q => ?_) ((Kp.of_ext a7).mono fun b hb q => ?_)
      · rw [List.mem_singleton.mp hb] at q
        exact hIl q
      · rw [List.mem_singleton.mp hb] at q
        exact q.elim hIl fun z => hIR z.symm
  · obtain ⟨R, vs, tl, h1, h2, h3, h4, h5⟩ := hJ
    refine C_cons (C_Return (C_any (S'.ld (kd hsc rfl) h1 ?_)))
    refine h t R vs X' h3 ?_ h5
    rw [List.take_of_length_le (by simp)] at h4
    exact h4
theorem runs_call {x : Str} {tx : Tok} {Q : Value → Shared → Prop} (T : LawTop mg mb s.heap) (hNs : N ≤ s.heap.objs.size) (hroom : A.depth < recursionLimit) (hh : A.handled = none) (hF : Frs N s.heap outer) (hz : x.cps.size ≤ 10000)
    (h : ∀ t a, Ext N (fun _ => False) s t → Rd (fun b => s.heap.get? b = none) t.heap (.ref a) (strsD (runsOf x)) → Q (.ref a) t) : wpC (model prog w) A (call (.ref aRuns) [.str x tx]) Q E s := by
  refine C_enterS (binds := [("text", .str x tx)]) hroom hF hNs T.fruns T.lim (fun fd h1 h2 h3 _ => BindsTo.of_eq ?_) (locs rfl) (fun L x c hc => by cases hc) fun env t₀ V S₀ X₀ => ?_
  · obtain ⟨nm, qn, pr, bd, sc, gl, cl, df, kw, dc, pm, an, co, ct, bi⟩ := fd
    simp only at h1 h2 h3
    subst h1 h2 h3
    rfl
  have hsc := V.sc
  have hlf : s.heap.get? env.locals = none := by rw [V.lo]; exact Heap.get?_none_of_le (Nat.le_refl _)
  have hh' : (A.deeper env).handled = none := hh
  refine C_cons ?_
  refine C_AssignTuple_swapped (names := ["runs", "last"]) ?_ ?hw
  case hw => unfold swappedStores; simp only [Env.blockKind, Env.kindOf, hsc]; rfl
  refine C_TupleA (N := N) (C_items_cons (C_ListA (N := N) (C_items_nil ⟨Nat.zero_le _, fun t₁ R X₁ hR hRf => C_items_cons (C_any (Constant_str (C_items_nil ⟨by simp, fun t₂ U X₂ hU hUf => ?_⟩)))⟩)))
  refine C_any2 (swap2 hh' hU fun h₃ kp₃ => ?_)
  have X₂' : Ext N (fun _ => False) t₀ t₂ := X₁.trans ((Ext.refl.toks _).trans X₂)
  have X₃ : Ext N (fun _ => False) t₀ { t₂ with heap := h₃ } := X₂'.keeps kp₃
  have hR₃ : Lst h₃ R [] := let ⟨n, e⟩ := hR.ext ((Ext.refl.toks _).trans X₂) id; ⟨n, kp₃ _ _ e⟩
  have hRf' : t₀.heap.get? R = none := hRf
  refine (S₀.ext0 X₃).st (kd hsc rfl) fun t₄ S₄ X₄ _ => S₄.st (kd hsc rfl) fun t₅ S₅ X₅ _ => ?_
  have hRL : R ≠ env.locals := lst_ne_loc (S₀.ext0 X₃) hR₃
  have X₅' : Ext N (· = env.locals) t₀ t₅ := (X₃.mono fun _ z => z.elim).trans (X₄.trans X₅)
  refine runs_loop hh' hsc S₅ t₀ X₅' (let ⟨_, ⟨o, _, _, e, _⟩, _⟩ := S₀.ns; ⟨o, e⟩) ((upd_ne (by decide)).trans ((upd_ne (by decide)).trans rfl)) upd_same ((upd_ne (by decide)).trans upd_same) (Lst.ext (s := t₄) (Lst.ext (s := { t₂ with heap := h₃ }) hR₃ X₄ hRL) X₅ hRL) hRf' hz fun t a vs X hL hv hf => ?_
  have X' : Ext N (fun _ => False) s t := X₀.trans' X fun b q => .inl (by rw [q]; exact hlf)
  exact h t a X' (.list (X₀.fresh' hf) hL hv.rd)
end
end Mine
end
section
open PySem PySem.Calls PySem.W PyProof.Rows
set_option Elab.async false
set_option maxRecDepth 100000
namespace Mine
inductive StrCs : List Expr → List Str → Prop
  | nil : StrCs [] []
  | cons {x : Str} {k : Nat} {p : Pos} {r : List Expr} {xs : List Str} : StrCs r xs → StrCs (.Constant (.str x) k p :: r) (x :: xs)
inductive PairCs : List Expr → List (Str × Str) → Prop
  | nil : PairCs [] []
  | cons {x y : Str} {k k1 k2 : Nat} {p p1 p2 : Pos} {r : List Expr} {xs : List (Str × Str)} : PairCs r xs → PairCs (.Tuple [.Constant (.str x) k1 p1, .Constant (.str y) k2 p2] k p :: r) ((x, y) :: xs)
noncomputable def pairD (p : Str × Str) : PyData := .tuple [.str p.1, .str p.2]
noncomputable def pairsD (l : List (Str × Str)) : PyData := .list (l.map pairD)
section
variable {prog : Program} {w : World} {A : Around} {E : Value → Shared → Prop} {N : Nat} {env : Env}
theorem items_strs {pos : Pos} {elts : List Expr} {xs : List Str} {s : Shared} {Q : List Value → Shared → Prop} (h : StrCs elts xs) (hq : ∀ vs tk, Strs vs xs → Q vs { s with toks := tk }) : wpC (model prog w) A (spliced (backTo pos (starEach elts env))) Q E s := by
  induction h generalizing s Q with
  | nil => exact C_items_nil (hq [] s.toks .nil)
  | cons h ih =>
    refine C_items_cons (C_any (Constant_str ?_))
    exact ih fun vs tk hv => hq _ _ (.cons hv)
theorem items_pairs {pos : Pos} {elts : List Expr} {ps : List (Str × Str)} {s : Shared} {Q : List Value → Shared → Prop} (h : PairCs elts ps) (hq : ∀ vs t, Ext N (fun _ => False) s t → RdAll (fun b => s.heap.get? b = none) t.heap vs (ps.map pairD) → Q vs t) : wpC (model prog w) A (spliced (backTo pos (starEach elts env))) Q E s := by
  induction h generalizing s Q with
  | nil => exact C_items_nil (hq [] s .refl .nil)
  | cons h ih =>
    refine C_items_cons (C_TupleA (N := N) (C_items_cons (C_any (Constant_str (C_items_cons (C_any (Constant_str (C_items_nil ⟨by simp, fun t L X hL hf => ?_⟩))))))))
    have X' : Ext N (fun _ => False) s t := ((Ext.refl.toks _).toks _).trans X
    refine ih fun vs t₂ X₂ hv => hq _ t₂ (X'.trans X₂) (.cons (.tuple hf (hL.ext X₂ id) (.cons (.str _ _) (.cons (.str _ _) .nil))) (hv.mono fun b q => X'.fresh' q))
end
noncomputable def piecesL : List Str := ["0", "00", "7", "10", "a", "l", "pha", "r", "c", "p", "x", "d", "ev", "b", "eta", "RC"]
noncomputable def gapsL : List Str := ["", "", ".", "+_"]
noncomputable def deeds0 : List (Str × Str) := [("", "1"), (".", "0"), ("", "0"), ("", "r"), ("", "c"), ("-", "al"), ("", "pha"), ("", "x")]
noncomputable def deedOf (x : Int) : Str × Str := (gapsL.getD ((x.fdiv 16).fmod 4).toNat Str.empty, piecesL.getD (x.fmod 16).toNat Str.empty)
noncomputable def deedsOf (ns : List Int) : List (Str × Str) := deeds0 ++ (ns.take 6).map deedOf
theorem Strs.get {vs : List Value} {l : List Str} (h : Strs vs l) {i : Nat} (hi : i < l.length) : ∃ t, vs[i]? = some (Value.str (l.getD i Str.empty) t) := by
  induction h generalizing i with
  | nil => cases hi
  | cons h ih =>
    cases i with
    | zero => exact ⟨_, rfl⟩
    | succ i => exact ih (by simpa using hi)
inductive Ints : List Value → List Int → Prop
  | nil : Ints [] []
  | cons {x : Int} {t : Tok} {vs : List Value} {l : List Int} : Ints vs l → Ints (.int x t :: vs) (x :: l)
theorem Ints.length {vs : List Value} {l : List Int} (h : Ints vs l) : vs.length = l.length := by
  induction h with
  | nil => rfl
  | cons _ ih => simp [ih]
theorem Ints.take {vs : List Value} {l : List Int} (h : Ints vs l) (k : Nat) : Ints (vs.take k) (l.take k) := by
  induction h generalizing k with
  | nil => simpa using .nil
  | cons h ih =>
    cases k with
    | zero => exact .nil
    | succ k => exact .cons (ih k)
theorem Ints.get {vs : List Value} {l : List Int} (h : Ints vs l) {i : Nat} {v : Value} (hv : vs[i]? = some v) : ∃ x t, l[i]? = some x ∧ v = .int x t := by
  induction h generalizing i with
  | nil => simp at hv
  | @cons x t vs l h ih =>
    cases i with
    | zero => simp at hv; exact ⟨x, t, rfl, hv.symm⟩
    | succ i => exact ih (by simpa using hv)
end Mine
end
section
open PySem PySem.Calls PySem.W PyProof.Rows
set_option Elab.async false
set_option maxRecDepth 100000
namespace Mine
theorem doneOf_map {α : Type} (l : List α) (f : α → PyData) : doneOf (fun i => (l[i]?).map f) l.length = l.map f := by
  have key : ∀ k, k ≤ l.length → doneOf (fun i => (l[i]?).map f) k = (l.take k).map f := by
    intro k
    induction k with
    | zero => intro _; rfl
    | succ k ih =>
      intro hk
      rw [doneOf_succ, ih (by omega), List.take_add_one]
      have e : l[k]? = some l[k] := List.getElem?_eq_getElem (by omega)
      rw [e, List.map_append]
      rfl
  rw [key l.length (Nat.le_refl _), List.take_length]
noncomputable def scope1 (x f : Str) : Scope := { kind := .function, names := [(".0", .local), (x, .local), (f, .free)], isGenerator := false, isCoroutine := false, more := [] }
noncomputable def scope0 (x : Str) : Scope := { kind := .function, names := [(".0", .local), (x, .local)], isGenerator := false, isCoroutine := false, more := [] }
section
variable {prog : Program} {w : World} {A : Around} {E : Value → Shared → Prop} {s : Shared} {N : Nat} {outer : List Env} {mg mb : Str → Option Value} {env : Env} {fs : List Env} {m : Str → Option Value}
theorem closure_one {scope : Scope} {f : Str} {c : Addr} {env : Env} (hn : scope.names.filter (fun x => x.2 == .free) = [(f, .free)]) (hc : env.cells.lookup f = some c) : closureFor scope env = pure [(f, c)] := by
  have key : ∀ (l : List (Str × NameKind)) (acc : List (Str × Addr)), (l.filter (fun x => x.2 == .free) = [] → (forIn l acc fun x r => match x with | (name, kind) => if kind == .free then do let a ← cellOf env name; pure (ForInStep.yield ((name, a) :: r)) else pure (ForInStep.yield r)) = (pure acc : Sem (List (Str × Addr)))) ∧
      (l.filter (fun x => x.2 == .free) = [(f, .free)] → (forIn l acc fun x r => match x with | (name, kind) => if kind == .free then do let a ← cellOf env name; pure (ForInStep.yield ((name, a) :: r)) else pure (ForInStep.yield r)) = (pure ((f, c) :: acc) : Sem (List (Str × Addr)))) := by
    intro l
    induction l with
    | nil => intro acc; exact ⟨fun _ => rfl, fun h => by simp at h⟩
    | cons x r ih =>
      intro acc
      obtain ⟨n, k⟩ := x
      rw [List.forIn_cons]
      cases hk : (k == NameKind.free) with
      | true =>
        rw [List.filter_cons, if_pos hk]
        refine ⟨fun h => by simp at h, fun h => ?_⟩
        injection h with h1 h2
        injection h1 with h3 h4
        subst h3
        simp only [hk, if_true]
        have : cellOf env n = pure c := by unfold cellOf; rw [hc]
        rw [this]
        simp only [pure_bind]
        exact (ih _).1 h2
      | false =>
        rw [List.filter_cons, if_neg (by rw [hk]; exact Bool.false_ne_true)]
        simp only [hk, Bool.false_eq_true, if_false, pure_bind]
        exact ih acc
  unfold closureFor
  have := (key scope.names []).2 hn
  simp only [bind_pure]
  exact this
theorem fdiv16 (x : Int) : ((x.fdiv 16).fmod 4).toNat < 4 ∧ 0 ≤ (x.fdiv 16).fmod 4 := by
  have h1 := Int.fmod_nonneg_of_pos (x.fdiv 16) (b := 4) (by omega)
  have h2 := Int.fmod_lt_of_pos (x.fdiv 16) (b := 4) (by omega)
  omega
theorem fmod16 (x : Int) : (x.fmod 16).toNat < 16 ∧ 0 ≤ x.fmod 16 := by
  have h1 := Int.fmod_nonneg_of_pos x (b := 16) (by omega)
  have h2 := Int.fmod_lt_of_pos x (b := 16) (by omega)
  omega
theorem deeds_item {C P c : Addr} {vs : List Value} {x : Int} {tx : Tok} {t : Shared} {m' : Str → Option Value} {tE : Expr} (helt : tE = .Tuple [.Subscript (.Tuple [.Constant (.str "") 0 ⟨57, 22, 57, 24⟩, .Constant (.str "") 0 ⟨57, 26, 57, 28⟩, .Constant (.str ".") 0 ⟨57, 30, 57, 33⟩, .Constant (.str "+_") 0 ⟨57, 35, 57, 39⟩] 0 ⟨57, 21, 57, 40⟩)
      (.BinOp (.BinOp (.Name "x" ⟨57, 41, 57, 42⟩) .FloorDiv (.Constant (.int 16) 0 ⟨57, 46, 57, 48⟩) ⟨57, 41, 57, 48⟩) .Mod (.Constant (.int 4) 0 ⟨57, 51, 57, 52⟩) ⟨57, 41, 57, 52⟩) ⟨57, 21, 57, 53⟩,
      .Subscript (.Name "pieces" ⟨57, 55, 57, 61⟩) (.BinOp (.Name "x" ⟨57, 62, 57, 63⟩) .Mod (.Constant (.int 16) 0 ⟨57, 66, 57, 68⟩) ⟨57, 62, 57, 68⟩) ⟨57, 55, 57, 69⟩] 0 ⟨57, 20, 57, 70⟩)
    (hsc : env.scope = scopeOf top[10]?) (S : Sd N (compEnvC (scope1 "x" "pieces") [("pieces", c)] C env) fs t m') (hp : m' "pieces" = some (.ref P)) (hP : Tup t.heap P vs) (hv : Strs vs piecesL) :
    ItemOk prog w A N fs tE (.Name "x" ⟨57, 75, 57, 76⟩) [] (fun _ => False) C (compEnvC (scope1 "x" "pieces") [("pieces", c)] C env) t (.int x tx) (some (pairD (deedOf x))) := by
  subst helt
  have kx : (compEnvC (scope1 "x" "pieces") [("pieces", c)] C env).kindOf "x" = some .local := lookup_relabel_local (names := (scope1 "x" "pieces").names) rfl
  have kp : (compEnvC (scope1 "x" "pieces") [("pieces", c)] C env).kindOf "pieces" = some .cell := by
    show (relabel (scope1 "x" "pieces") env).names.lookup _ = _
    unfold relabel Env.kindOf
    rw [hsc]
    rfl
  unfold ItemOk
  refine C_any (assign_Name (S.st kx fun t₁ S₁ X₁ _ => C_tests_nil ?_))
  rw [if_pos rfl]
  have hx₁ : upd m' "x" (.int x tx) "x" = some (.int x tx) := upd_same
  have hp₁ : upd m' "x" (.int x tx) "pieces" = some (.ref P) := (upd_ne (by decide)).trans hp
  have hPC : P ≠ C := fun q => by
    obtain ⟨_, e⟩ := hP
    obtain ⟨_, ⟨o, es, ep, e', hd, _⟩, _⟩ := S.ns
    have e'' : t.heap.get? C = some o := e'
    rw [q, e''] at e; cases e; cases hd
  have hP₁ := hP.ext X₁ hPC
  obtain ⟨g1, g2⟩ := fdiv16 x
  obtain ⟨g3, g4⟩ := fmod16 x
  refine C_TupleA (N := N) (C_items_cons (C_Subscript (C_TupleA (N := N) (items_strs (xs := gapsL) (.cons (.cons (.cons (.cons .nil)))) fun us tk hus => ⟨by rw [hus.length]; decide, fun t₂ G X₂ hG hGf => ?_⟩))))
  have X₂' : Ext N (fun _ => False) t₁ t₂ := (Ext.refl.toks _).trans X₂
  have S₂ := S₁.ext0 X₂'
  have hP₂ : Tup t₂.heap P vs := hP₁.ext X₂' id
  refine C_BinOp (C_BinOp (C_any (S₂.ld kx hx₁ (C_any (wpAny_Constant_int (C_any (floordiv_int (by decide) ?_)))))))
  refine C_any (wpAny_Constant_int (C_any (PyProof.Rows.mod_int' (by decide) ?_)))
  obtain ⟨tg, htg⟩ := hus.get (i := ((x.fdiv 16).fmod 4).toNat) (by exact g1)
  refine C_any (sub_tuple hG g2 (by omega) htg ?_)
  refine C_items_cons (C_Subscript (C_any ((S₂.toks _).ldc kp rfl hp₁ (C_BinOp (C_any ((S₂.toks _).ld kx hx₁ (C_any (wpAny_Constant_int (C_any (PyProof.Rows.mod_int' (by decide) ?_))))))))))
  obtain ⟨tp, htp⟩ := hv.get (i := (x.fmod 16).toNat) (by exact g3)
  refine C_any (sub_tuple hP₂ g4 (by omega) htp ?_)
  refine C_items_nil ⟨by simp, fun t₃ U X₃ hU hUf => ?_⟩
  have X₃' : Ext N (fun _ => False) t₂ t₃ := (((((Ext.refl.toks _).toks _).toks _).toks _).toks _).trans X₃
  have Xa : Ext N (· = C) t t₃ := X₁.trans ((X₂'.trans X₃').mono fun _ z => z.elim)
  refine ⟨_, _, rfl, .tuple (.inl ?_) hU (.cons (.str _ _) (.cons (.str _ _) .nil)), S₂.ext0 X₃', Xa⟩
  exact (X₁.trans (X₂'.mono fun _ z => z.elim)).fresh' hUf
end
end Mine
end
section
open PySem PySem.Calls PySem.W PyProof.Rows
set_option Elab.async false
set_option maxRecDepth 100000
namespace Mine
section
variable {prog : Program} {w : World} {A : Around} {E : Value → Shared → Prop} {s : Shared} {N : Nat} {outer : List Env} {mg mb : Str → Option Value} {env : Env} {fs : List Env} {m : Str → Option Value}
theorem deeds_ret {a P D c : Addr} {vs us ds : List Value} {ns : List Int} {F : Addr → Prop} {Q : Flow → Shared → Prop} (hh : A.handled = none) (hsc : env.scope = scopeOf top[10]?) (hce : env.cells.lookup (Str.ofString "pieces") = some c) (S : Sd N env fs s m) (hm1 : m "script" = some (.ref a)) (hm2 : m "pieces" = some (.ref P)) (hm3 : m "deeds" = some (.ref D))
    (ha : Lst s.heap a vs) (hvs : Ints vs ns) (hz : ns.length ≤ 1000) (hP : Tup s.heap P us) (hus : Strs us piecesL) (hD : Lst s.heap D ds) (hds : RdAll F s.heap ds (deeds0.map pairD))
    (h : ∀ t L, Ext N (fun _ => False) s t → Rd (fun b => s.heap.get? b = none ∨ F b) t.heap (.ref L) (pairsD (deedsOf ns)) → Q (.ret (.ref L)) t) : wpC (model prog w) A (execs ((bodyOf top[10]?).drop 2) env) Q E s := by
  have hdl : ds.length = 8 := by rw [hds.length]; rfl
  refine C_cons ?_
  refine C_Return (C_BinOp (C_any (S.ld (kd hsc rfl) hm3 ?_)))
  refine C_ListComp [("pieces", c)] S (closure_one rfl hce) (by decide) rfl (by decide) (fun x c' hc => ?_) ?_
  · have hx : x = "pieces" ∧ c' = c := by
      rw [List.lookup_cons] at hc
      cases hb : x == Str.ofString "pieces" with
      | true => rw [hb] at hc; cases hc; exact ⟨beq_iff_eq.mp hb, rfl⟩
      | false => rw [hb] at hc; cases hc
    obtain ⟨rfl, rfl⟩ := hx
    refine ⟨hce, ?_⟩
    unfold relabel Env.kindOf
    rw [hsc]
    decide
  refine C_cut (N := N) (C_any (S.ld (kd hsc rfl) hm1 (C_opt_none (C_opt_some (C_any (wpAny_Constant_int ⟨a, vs, none, some 6, rfl, ha, .none, .int _ _, by rw [hvs.length]; omega, fun t₁ L X₁ hL hLf => ?_⟩))))))
  rw [show (6 : Int) = ((6 : Nat) : Int) from rfl, cut_hi] at hL
  have X₁' : Ext N (fun _ => False) s t₁ := (Ext.refl.toks _).trans X₁
  refine C_any (wpAny_pyIter_list hL.isList ?_)
  have hvt := hvs.take 6
  have X₂ : Ext N (fun _ => False) s { t₁ with heap := t₁.heap.push { cls := .type "list_iterator", data := .fields #[.ref L, .int 0 0] } } := X₁'.push (tk := t₁.toks) _
  refine ⟨t₁.heap.objs.size, _, _, _, _, fun _ => False, fun i => ((ns.take 6)[i]?).map fun x => pairD (deedOf x), rfl, Src.list hh _ L (Nat.ne_of_lt hL.lt) (vs.take 6).toArray, ⟨⟨_, Heap.get?_push_size _ rfl, rfl, rfl⟩, (hL.push _).isList⟩, X₁'.fresh (Nat.le_refl _), ?_, X₂, fun _ z => z.elim, ?_, ?_⟩
  · have := hvt.length
    simp only [List.size_toArray]; rw [this]; simp; omega
  · intro C t i v m' hi hv X hC S' hcm
    have hv' : (vs.take 6)[i]? = some v := by simpa using hv
    obtain ⟨x, tx, hx, rfl⟩ := hvt.get hv'
    have hd : ((ns.take 6)[i]?).map (fun x => pairD (deedOf x)) = some (pairD (deedOf x)) := by rw [hx]; rfl
    have := deeds_item (prog := prog) (w := w) (A := A) (tx := tx) (x := x) rfl hsc S' ((hcm "pieces" c rfl).trans hm2) (hP.ext X id) hus
    rw [← hd] at this
    exact this
  · intro L₂ t X hLf₂ hR S'
    obtain ⟨_, ws, e, _, hL₂, hws⟩ := hR.list_inv
    cases e
    have hlen : (vs.take 6).toArray.size = (ns.take 6).length := by simp only [List.size_toArray]; exact hvt.length
    rw [hlen, doneOf_map (ns.take 6) fun x => pairD (deedOf x)] at hws
    have hD' := hD.ext X id
    have hds' := hds.ext X (fun _ _ z => z)
    have hwl := hws.length
    refine C_any (add_lstA (N := N) hD' hL₂ (by rw [hdl, hwl]; simp; omega) fun t₃ L₃ X₃ hL₃ hLf₃ => ?_)
    refine h t₃ L₃ (X.trans X₃) (.list (.inl (X.fresh' hLf₃)) hL₃ ?_)
    have e1 : (deedsOf ns).map pairD = deeds0.map pairD ++ (ns.take 6).map fun x => pairD (deedOf x) := by unfold deedsOf; rw [List.map_append, List.map_map]; rfl
    rw [e1]
    exact ((hds'.ext X₃ (fun _ _ z => z)).mono fun _ q => .inr q).append ((hws.ext X₃ (fun _ _ z => z)).mono fun _ q => q.elim .inl fun z => z.elim)
theorem deeds_call {a : Addr} {vs : List Value} {ns : List Int} {Q : Value → Shared → Prop} (T : LawTop mg mb s.heap) (hNs : N ≤ s.heap.objs.size) (hroom : A.depth < recursionLimit) (hh : A.handled = none) (hF : Frs N s.heap outer) (ha : Lst s.heap a vs) (hvs : Ints vs ns) (hz : ns.length ≤ 1000)
    (h : ∀ t L, Ext N (fun _ => False) s t → Rd (fun b => s.heap.get? b = none) t.heap (.ref L) (pairsD (deedsOf ns)) → Q (.ref L) t) : wpC (model prog w) A (call (.ref aDeeds) [.ref a]) Q E s := by
  refine C_enterS (binds := [("script", .ref a)]) hroom hF hNs T.fdeeds T.lim (fun fd h1 h2 h3 _ => BindsTo.of_eq ?_) (locs rfl) (fun L x c hc => ?_) fun env t₀ V S₀ X₀ => ?_
  · obtain ⟨nm, qn, pr, bd, sc, gl, cl, df, kw, dc, pm, an, co, ct, bi⟩ := fd
    simp only at h1 h2 h3
    subst h1 h2 h3
    rfl
  · have hc' : List.lookup x [(Str.ofString "pieces", L)] = some c := hc
    rw [List.lookup_cons] at hc'
    cases hb : x == Str.ofString "pieces" with
    | true => rw [beq_iff_eq.mp hb]; rfl
    | false => rw [hb] at hc'; cases hc'
  have hsc := V.sc
  have hce : env.cells.lookup (Str.ofString "pieces") = some (s.heap.objs.size + 1) := by rw [V.ce]; rfl
  have hlf : s.heap.get? env.locals = none := by rw [V.lo]; exact Heap.get?_none_of_le (Nat.le_refl _)
  have hcf : s.heap.get? (s.heap.objs.size + 1) = none := Heap.get?_none_of_le (Nat.le_succ _)
  have hh' : (A.deeper env).handled = none := hh
  refine C_cons ?_
  refine C_AssignName ?_
  refine C_TupleA (N := N) ?_
  refine items_strs (xs := piecesL) ?c1 ?_
  case c1 => repeat (first | exact .nil | refine .cons ?_)
  intro us tk hus
  refine ⟨by rw [hus.length]; decide, fun t₁ P X₁ hP hPf => ?_⟩
  have X₁' : Ext N (fun _ => False) t₀ t₁ := (Ext.refl.toks _).trans X₁
  refine C_any ((S₀.ext0 X₁').stc (kd hsc rfl) hce fun t₂ S₂ X₂ _ => ?_)
  have hcP : P ≠ s.heap.objs.size + 1 := fun q => by
    obtain ⟨o, ho, hd⟩ := (S₀.ext0 X₁').cel "pieces" _ hce
    obtain ⟨_, e⟩ := hP
    rw [q, ho] at e; cases e; cases hd
  have hP₂ : Tup t₂.heap P us := hP.ext X₂ hcP
  have X₂' : Ext N (fun b => b = env.locals ∨ b = s.heap.objs.size + 1) t₀ t₂ := (X₁'.mono fun _ z => z.elim).trans (X₂.mono fun _ q => .inr q)
  refine C_cons ?_
  refine C_AssignName ?_
  refine C_ListA (N := N) ?_
  refine items_pairs (N := N) (ps := deeds0) ?c2 ?_
  case c2 => repeat (first | exact .nil | refine .cons ?_)
  intro ds t₃ X₃ hds
  refine ⟨by rw [hds.length]; decide, fun t₄ D X₄ hD hDf => ?_⟩
  have X₄' := X₃.trans X₄
  refine C_any ((S₂.ext0 X₄').st (kd hsc rfl) fun t₅ S₅ X₅ _ => ?_)
  have S₄ := S₂.ext0 X₄'
  have hDl := lst_ne_loc S₄ hD
  have X₅' : Ext N (fun b => b = env.locals ∨ b = s.heap.objs.size + 1) t₀ t₅ := X₂'.trans ((X₄'.mono fun _ z => z.elim).trans (X₅.mono fun _ q => .inl q))
  have Xs : Ext N (fun _ => False) s t₅ := X₀.trans' X₅' fun b q => .inl (q.elim (fun z => by rw [z]; exact hlf) fun z => by rw [z]; exact hcf)
  have hPl : P ≠ env.locals := fun q => by
    obtain ⟨_, ⟨o, es, ep, e, hd, _⟩, _⟩ := S₄.ns
    obtain ⟨_, e'⟩ := hP₂.ext X₄' id
    rw [q, e] at e'; cases e'; cases hd
  have hds₅ : RdAll (fun b => s.heap.get? b = none) t₅.heap ds (deeds0.map pairD) := by
    have h1 : RdAll (fun b => t₂.heap.get? b = none) t₄.heap ds (deeds0.map pairD) := hds.ext X₄ (fun _ _ z => z)
    refine (h1.extK X₅ fun b o q e => offSq_data fun us k z => ?_).mono fun b q => X₀.fresh' ((X₂'.fresh' q))
    obtain ⟨_, ⟨o', es, ep, e', hd, _⟩, _⟩ := S₄.ns
    rw [q, e'] at e; cases e
    rw [hd] at z; cases z
  refine deeds_ret hh' hsc hce S₅ ((upd_ne (by decide)).trans ((upd_ne (by decide)).trans rfl)) ((upd_ne (by decide)).trans upd_same) upd_same (ha.ext Xs id) hvs hz ((hP₂.ext X₄' id).ext X₅ hPl) hus (hD.ext X₅ hDl) hds₅ fun t L X hR => ?_
  exact h t L (Xs.trans X) (hR.mono fun b q => q.elim (fun z => Xs.fresh' z) id)
end
end Mine
end
section
open PySem PySem.Calls PySem.W PyProof.Rows
set_option Elab.async false
set_option maxRecDepth 100000
namespace Mine
noncomputable def AccObj (h : Heap) : Prop := ∃ nm q bs sn sub col dd k0 k1 k2 k3 k5, h.get? aAcc = some (excClassObj nm q aAcc aAccNs bs [.type "list", .type "object"] true sn sub false col dd k0 k1 k2 k3 k5 "list.__new__")
theorem AccObj.keep {h h' : Heap} (T : AccObj h) (K : Keep h h') : AccObj h' := by
  obtain ⟨nm, q, bs, sn, sub, col, dd, k0, k1, k2, k3, k5, e⟩ := T
  exact ⟨nm, q, bs, sn, sub, col, dd, k0, k1, k2, k3, k5, K _ _ (by decide) (by unfold Tab; decide) e⟩
section
variable {prog : Program} {w : World} {A : Around} {E : Value → Shared → Prop} {s : Shared} {N : Nat} {outer : List Env} {mg mb mC : Str → Option Value} {x : Value}
theorem weight_new (C : Addr) (x : Value) : (Code.builtin "type.__call__" ⟨[.ref C, x], []⟩).weight = 1 := by rfl
theorem acc_call {Q : Value → Shared → Prop} (T : AccTop mg mb mC s.heap) (O : AccObj s.heap) (hf : FileOk prog s.heap aInitCode) (h3 : NoThird s.heap) (hN : topN ≤ N) (hNs : N ≤ s.heap.objs.size) (hroom : A.depth + 1 < recursionLimit) (hF : Frs N s.heap outer)
    (h : ∀ t p d, Pil t.heap p d [] x → Ext N (fun _ => False) s t → s.heap.get? p = none → s.heap.get? d = none → Q (.ref p) t) : wpAny (model prog w) A (call (.ref aAcc) [x]) Q E s := by
  obtain ⟨nm, q, bs, sn, sub, col, dd, k0, k1, k2, k3, k5, hC⟩ := O
  obtain ⟨oI, _, _, _, _, hfI, hfc, _⟩ := T.finit
  obtain ⟨hp, g, dr, tk, os⟩ := s
  refine call_acc_new hC T.c.ns T.init hfI hfc ?_
  have X₁ : Ext N (fun _ => False) ⟨hp, g, dr, tk, os⟩ ⟨(hp.push { cls := .type "dict", data := .dict #[] }).push { cls := .ref aAcc, dict := some hp.objs.size, data := .seq #[] }, g, dr, tk, os⟩ := (Ext.refl.push _ (tk := tk)).push _ (tk := tk)
  have K₁ := Keep.of X₁ hN (fun _ z => z.elim)
  have hp1 : ((hp.push { cls := .type "dict", data := .dict #[] }).push { cls := .ref aAcc, dict := some hp.objs.size, data := .seq #[] }).get? (hp.objs.size + 1) = some { cls := .ref aAcc, dict := some hp.objs.size, data := .seq #[] } := by
    have := Heap.get?_push_size (hp.push { cls := .type "dict", data := .dict #[] }) (o := { cls := .ref aAcc, dict := some hp.objs.size, data := .seq #[] }) rfl
    rwa [Heap.size_push] at this
  have hd1 : ((hp.push { cls := .type "dict", data := .dict #[] }).push { cls := .ref aAcc, dict := some hp.objs.size, data := .seq #[] }).get? hp.objs.size = some { cls := .type "dict", data := .dict #[] } := Heap.get?_push_of_some _ (Heap.get?_push_size _ rfl)
  have nof : ∀ a, hp.objs.size ≤ a → a ∉ outer.filterMap (·.frame) := fun a ha hm => by
    obtain ⟨_, o, ho, _⟩ := hF.1.mem hm
    exact Nat.lt_irrefl _ (Nat.lt_of_lt_of_le (Heap.lt_size ho) ha)
  refine init_call (N := N) (T.keep K₁) hp1 hd1 (Nat.le_trans hNs (Nat.le_succ _)) hNs (nof _ (Nat.le_succ _)) (nof _ (Nat.le_refl _)) (hf.keep K₁ (by decide) (by unfold Tab; decide)) (h3.keep K₁) hN ?_ ?_ (hF.ext X₁ fun _ _ z => z) fun t P X => ⟨rfl, ?_⟩
  · refine Nat.le_trans hNs ?_
    show hp.objs.size ≤ ((hp.push _).push _).objs.size
    rw [Heap.size_push, Heap.size_push]; omega
  · show A.depth + _ < _
    rw [weight_new]; exact hroom
  · have f1 : hp.get? (hp.objs.size + 1) = none := Heap.get?_none_of_le (Nat.le_succ _)
    have f2 : hp.get? hp.objs.size = none := Heap.get?_none_of_le (Nat.le_refl _)
    exact h t _ _ P (X₁.trans' X fun b q => .inl (q.elim (fun z => by rw [z]; exact f1) fun z => by rw [z]; exact f2)) f1 f2
end
end Mine
end
section
open PySem PySem.Calls PySem.W PyProof.Rows
set_option Elab.async false
set_option maxRecDepth 100000
namespace Mine
structure Tops (prog : Program) (w : World) (mg mb mC : Str → Option Value) (h : Heap) : Prop where
  law : LawTop mg mb h
  acc : AccTop mg mb mC h
  cv : CvTop prog w mg mb h
  obj : AccObj h
  fi : FileOk prog h aInitCode
  fc : FileOk prog h aCountCode
  fp : FileOk prog h aPopCode
  th : NoThird h
theorem Tops.keep {prog : Program} {w : World} {mg mb mC : Str → Option Value} {h h' : Heap} (T : Tops prog w mg mb mC h) (K : Keep h h') : Tops prog w mg mb mC h' :=
  ⟨T.law.keep K, T.acc.keep K, T.cv.keep K, T.obj.keep K, T.fi.keep K (by decide) (by unfold Tab; decide), T.fc.keep K (by decide) (by unfold Tab; decide), T.fp.keep K (by decide) (by unfold Tab; decide), T.th.keep K⟩
noncomputable def Tabs (b : Addr) : Prop := b = aStrTab ∨ b = aLenTab
noncomputable def EndOk (N : Nat) (s t : Shared) : Prop := Ext N Tabs s t ∧ Tb t.heap aStrCode aStrTab ∧ Tb t.heap aLenCode aLenTab
structure LX (prog : Program) (w : World) (mg mb mC : Str → Option Value) (N : Nat) (env : Env) (fs : List Env) (s₀ t : Shared) (m : Str → Option Value) : Prop where
  S : Sd N env fs t m
  gl : env.globals = mainGlobals
  bi : env.builtins = builtinsNs
  lf : s₀.heap.get? env.locals = none
  cf : ∀ x c, env.cells.lookup x = some c → s₀.heap.get? c = none
  T0 : Tops prog w mg mb mC s₀.heap
  ex : ∀ b ∈ [aStrCode, aStrTab, aLenCode, aLenTab], ∃ o, s₀.heap.get? b = some o
  tb1 : Tb t.heap aStrCode aStrTab
  tb2 : Tb t.heap aLenCode aLenTab
  hN : topN ≤ N
  X : Ext N Tabs s₀ t
section
variable {prog : Program} {w : World} {mg mb mC : Str → Option Value} {A : Around} {E : Value → Shared → Prop} {N : Nat} {env : Env} {fs : List Env} {s₀ s t : Shared} {m : Str → Option Value}
theorem LX.size (L : LX prog w mg mb mC N env fs s₀ s m) : N ≤ s.heap.objs.size := let ⟨_, ⟨_, _, _, e, _⟩, _⟩ := L.S.ns; Nat.le_trans L.S.lo (Nat.le_of_lt (Heap.lt_size e))
theorem LX.T (L : LX prog w mg mb mC N env fs s₀ s m) : Tops prog w mg mb mC s.heap := L.T0.keep (Keep.of L.X L.hN fun b q => .inr (q.elim (fun z => by rw [z]; unfold Tab; decide) fun z => by rw [z]; unfold Tab; decide))
theorem LX.step {W : Addr → Prop} {m' : Str → Option Value} (L : LX prog w mg mb mC N env fs s₀ s m) (X : Ext N W s t) (hW : ∀ b, W b → s₀.heap.get? b = none) (S : Sd N env fs t m') : LX prog w mg mb mC N env fs s₀ t m' :=
  have no : ∀ b ∈ [aStrCode, aStrTab, aLenCode, aLenTab], ¬ W b := fun b hb q => by
    obtain ⟨o, e⟩ := L.ex b hb
    rw [hW b q] at e; cases e
  ⟨S, L.gl, L.bi, L.lf, L.cf, L.T0, L.ex, L.tb1.ext X (Nat.lt_of_lt_of_le (by decide) L.hN) (Nat.lt_of_lt_of_le (by decide) L.hN) (no _ (by simp)) (no _ (by simp)), L.tb2.ext X (Nat.lt_of_lt_of_le (by decide) L.hN) (Nat.lt_of_lt_of_le (by decide) L.hN) (no _ (by simp)) (no _ (by simp)),
    L.hN, L.X.trans' X fun b q => .inl (hW b q)⟩
theorem LX.step0 (L : LX prog w mg mb mC N env fs s₀ s m) (X : Ext N (fun _ => False) s t) : LX prog w mg mb mC N env fs s₀ t m := L.step X (fun _ z => z.elim) (L.S.ext0 X)
theorem LX.toks (L : LX prog w mg mb mC N env fs s₀ s m) (tk : Nat) : LX prog w mg mb mC N env fs s₀ { s with toks := tk } m := L.step0 (Ext.refl.toks tk)
theorem LX.loc (L : LX prog w mg mb mC N env fs s₀ s m) {b : Addr} (q : b = env.locals) : s₀.heap.get? b = none := by rw [q]; exact L.lf
theorem LX.cell (L : LX prog w mg mb mC N env fs s₀ s m) {b c : Addr} {x : Str} (hc : env.cells.lookup x = some c) (q : b = c) : s₀.heap.get? b = none := by rw [q]; exact L.cf x c hc
theorem LX.st {x : Str} {v : Value} {Q : Unit → Shared → Prop} (L : LX prog w mg mb mC N env fs s₀ s m) (hl : env.kindOf x = some .local)
    (h : ∀ t, LX prog w mg mb mC N env fs s₀ t (upd m x v) → Ext N (· = env.locals) s t → Q () t) : wpAny (model prog w) A (storeName env x v) Q E s :=
  L.S.st hl fun t S X _ => h t (L.step X (fun b q => L.loc q) S) X
theorem LX.stc {x : Str} {v : Value} {c : Addr} {Q : Unit → Shared → Prop} (L : LX prog w mg mb mC N env fs s₀ s m) (hl : env.kindOf x = some .cell) (hc : env.cells.lookup x = some c)
    (h : ∀ t, LX prog w mg mb mC N env fs s₀ t (upd m x v) → Ext N (· = c) s t → Q () t) : wpAny (model prog w) A (storeName env x v) Q E s :=
  L.S.stc hl hc fun t S X _ => h t (L.step X (fun b q => L.cell hc q) S) X
theorem LX.offL (L : LX prog w mg mb mC N env fs s₀ s m) : ∀ a o, a = env.locals → s.heap.get? a = some o → OffSq o := fun a o q e => offSq_data fun vs k z => by
  obtain ⟨_, ⟨o', es, ep, e', hd, _⟩, _⟩ := L.S.ns
  rw [q, e'] at e; cases e
  rw [hd] at z; cases z
theorem LX.offC (L : LX prog w mg mb mC N env fs s₀ s m) {c : Addr} {x : Str} (hc : env.cells.lookup x = some c) : ∀ a o, a = c → s.heap.get? a = some o → OffSq o := fun a o q e => offSq_data fun vs k z => by
  obtain ⟨o', e', hd⟩ := L.S.cel x c hc
  rw [q, e'] at e; cases e
  rw [hd] at z; cases z
theorem lst_off {h : Heap} {a b : Addr} {vs : List Value} (l : Lst h a vs) (hb : ∀ o, h.get? b = some o → OffSq o) : a ≠ b := fun q => by
  obtain ⟨n, e⟩ := l
  exact (hb _ (q ▸ e)).1 _ _ rfl
theorem tup_off {h : Heap} {a b : Addr} {vs : List Value} (l : Tup h a vs) (hb : ∀ o, h.get? b = some o → OffSq o) : a ≠ b := fun q => by
  obtain ⟨n, e⟩ := l
  exact (hb _ (q ▸ e)).2 _ _ rfl
structure PF (s₀ s : Shared) (p d : Addr) (vs : List Value) (k : Int) (prs : List (Str × Str)) : Prop where
  P : ∃ u, Pil s.heap p d vs (.int k u)
  R : Prs s.heap vs prs
  pf : s₀.heap.get? p = none
  df : s₀.heap.get? d = none
theorem PF.offP {p d : Addr} {vs : List Value} {k : Int} {prs : List (Str × Str)} (F : PF s₀ s p d vs k prs) : ∀ o, s.heap.get? p = some o → OffSq o ∧ OffFr o := fun o e => by
  obtain ⟨u, ⟨n, sl, e'⟩, _⟩ := F.P
  rw [e'] at e; cases e
  exact ⟨offSq_cls (fun q => by cases q) (fun q => by cases q), off_seq rfl⟩
theorem PF.offD {p d : Addr} {vs : List Value} {k : Int} {prs : List (Str × Str)} (F : PF s₀ s p d vs k prs) : ∀ o, s.heap.get? d = some o → OffSq o := fun o e => by
  obtain ⟨u, _, mI, ⟨o', es, ep, e', hd, _⟩, _⟩ := F.P
  rw [e'] at e; cases e
  exact offSq_data fun vs n z => by rw [hd] at z; cases z
theorem PF.ext {W : Addr → Prop} {p d : Addr} {vs : List Value} {k : Int} {prs : List (Str × Str)} (F : PF s₀ s p d vs k prs) (X : Ext N W s t) (hp : ¬ W p) (hd : ¬ W d) (hW : ∀ a o, W a → s.heap.get? a = some o → OffSq o) : PF s₀ t p d vs k prs :=
  ⟨let ⟨u, P⟩ := F.P; ⟨u, P.ext X hp hd⟩, ⟨F.R.1, fun i a b e => let ⟨T, t1, t2, h1, h2⟩ := F.R.2 i a b e; ⟨T, t1, t2, h1, h2.ext X fun q => let ⟨_, e'⟩ := h2; (hW T _ q e').2 _ _ rfl⟩⟩, F.pf, F.df⟩
theorem PF.ext0 {p d : Addr} {vs : List Value} {k : Int} {prs : List (Str × Str)} (F : PF s₀ s p d vs k prs) (X : Ext N (fun _ => False) s t) : PF s₀ t p d vs k prs := F.ext X id id fun _ _ z => z.elim
end
end Mine
end
section
open PySem PySem.Calls PySem.W PyProof.Rows
set_option Elab.async false
set_option maxRecDepth 100000
namespace Mine
structure AR (A : Around) (fs : List Env) : Prop where
  hh : A.handled = none
  fr : A.frames = some fs
  dp : A.depth + 10 < recursionLimit
  un : A.units + 200 < cLine
noncomputable def itmD : Itm → PyData
  | .i n => .int n
  | .s x => .str x
noncomputable def cvD (x : Str) : PyData := .list ((cv x).map itmD)
theorem ItmsAre.rd {F : Addr → Prop} {h : Heap} {vs : List Value} {l : List Itm} (q : ItmsAre vs l) : RdAll F h vs (l.map itmD) := by
  induction q with
  | nil => exact .nil
  | cons a _ ih => exact .cons (by cases a <;> first | exact .int _ _ | exact .str _ _) ih
noncomputable def TextOk (x : Str) : Prop := x.cps.size ≤ 640 ∧ (∀ v ∈ splitP x, PartOk v) ∧ (splitP x).length ≤ 10000
section
variable {prog : Program} {w : World} {mg mb mC : Str → Option Value} {A : Around} {E : Value → Shared → Prop} {N : Nat} {env : Env} {fs : List Env} {s₀ s t : Shared} {m : Str → Option Value} {p d : Addr} {vs : List Value} {k : Int} {prs : List (Str × Str)}
theorem tb_off {h : Heap} {c P : Addr} (tb : Tb h c P) : ∀ o, h.get? P = some o → OffSq o ∧ OffFr o := fun o e => by
  obtain ⟨_, _, _, e'⟩ := tb
  rw [e'] at e; cases e
  exact ⟨offSq_data (fun vs n z => by cases z), off_fields (vs := _) rfl⟩
theorem LX.tabs1 (L : LX prog w mg mb mC N env fs s₀ s m) (X : Ext N (· = aStrTab) s t) (tb : Tb t.heap aStrCode aStrTab) : LX prog w mg mb mC N env fs s₀ t m := by
  refine ⟨L.S.ext X (fun b o q e => (tb_off L.tb1 o (by rw [← q]; exact e)).2), L.gl, L.bi, L.lf, L.cf, L.T0, L.ex, tb, L.tb2.ext X (Nat.lt_of_lt_of_le (by decide) L.hN) (Nat.lt_of_lt_of_le (by decide) L.hN) (by decide) (by decide), L.hN, L.X.trans (X.mono fun b q => .inl q)⟩
theorem LX.tabs2 (L : LX prog w mg mb mC N env fs s₀ s m) (X : Ext N (· = aLenTab) s t) (tb : Tb t.heap aLenCode aLenTab) : LX prog w mg mb mC N env fs s₀ t m := by
  refine ⟨L.S.ext X (fun b o q e => (tb_off L.tb2 o (by rw [← q]; exact e)).2), L.gl, L.bi, L.lf, L.cf, L.T0, L.ex, L.tb1.ext X (Nat.lt_of_lt_of_le (by decide) L.hN) (Nat.lt_of_lt_of_le (by decide) L.hN) (by decide) (by decide), tb, L.hN, L.X.trans (X.mono fun b q => .inr q)⟩
theorem PF.ne (F : PF s₀ s p d vs k prs) {b : Addr} (hb : ∃ o, s₀.heap.get? b = some o) : p ≠ b ∧ d ≠ b := by
  obtain ⟨o, e⟩ := hb
  exact ⟨(fun q => by have := F.pf; rw [q, e] at this; cases this), (fun q => by have := F.df; rw [q, e] at this; cases this)⟩
theorem C_str {np px pos : Pos} {Q : Value → Shared → Prop} (L : LX prog w mg mb mC N env fs s₀ s m) (a : AR A fs) (F : PF s₀ s p d vs k prs) (hks : env.kindOf "str" = some .globalImplicit) (hkp : env.kindOf "pile" = some .local) (hm : m "pile" = some (.ref p)) (hz : plen prs ≤ 100000) (hvz : vs.length ≤ 100000)
    (h : ∀ t tk, LX prog w mg mb mC N env fs s₀ t m → PF s₀ t p d vs k prs → Ext N (· = aStrTab) s t → Q (.str (ptext prs) tk) t) : wpC (model prog w) A (eval (.Call (.Name "str" np) [.Name "pile" px] [] pos) env) Q E s := by
  obtain ⟨u, P⟩ := F.P
  refine C_Call_Name (C_any (L.S.b hks (L.gl ▸ L.T.law.g) L.T.law.nstr (L.bi ▸ L.T.law.b) L.T.law.bstr ?_))
  refine C_callBuiltin rfl rfl (C_evalArgs (C_items_cons (C_any (L.S.ld hkp hm (C_items_nil ?_)))))
  refine C_any (str_acc L.T.acc P F.R L.tb1 L.hN L.size (by have := a.dp; omega) (by have := a.un; show A.units + 1 + 1 < _; omega) a.hh L.S.frs hz hvz fun t tk X tb => ?_)
  exact h t tk (L.tabs1 X tb) (F.ext X (F.ne (L.ex _ (by simp))).1 (F.ne (L.ex _ (by simp))).2 fun a o q e => (tb_off L.tb1 o (by rw [← q]; exact e)).1) X
theorem C_cv {np pos : Pos} {e : Expr} {Q : Value → Shared → Prop} (L : LX prog w mg mb mC N env fs s₀ s m) (a : AR A fs) (hk : env.kindOf "_comparable_version" = some .globalImplicit)
    (h : wpC (model prog w) A (eval e env) (fun v s₁ => ∃ x tk, v = .str x tk ∧ TextOk x ∧ LX prog w mg mb mC N env fs s₀ s₁ m ∧ ∀ t b, LX prog w mg mb mC N env fs s₀ t m → Ext N (fun _ => False) s₁ t → Rd (fun b => s₁.heap.get? b = none) t.heap (.ref b) (cvD x) → Q (.ref b) t) E s)
    (he : starEach [e] env = (false, eval e env) :: starEach [] env := by rfl) : wpC (model prog w) A (eval (.Call (.Name "_comparable_version" np) [e] [] pos) env) Q E s := by
  refine C_Call_Name (C_any (L.S.g hk (L.gl ▸ L.T.law.g) L.T.law.cv ?_))
  refine C_callFn (C_evalArgs (C_items_cons (C_q h fun v s₁ h₁ => C_items_nil ?_) he) he)
  obtain ⟨x, tk, rfl, ⟨hx1, hx2, hx3⟩, L₁, hq⟩ := h₁
  refine ⟨let ⟨o, pm, doc, h1, h2, _⟩ := L₁.T.cv.fn; ⟨o, _, h1, h2⟩, ?_⟩
  refine cv_call L₁.T.cv L₁.hN L₁.size (by have := a.dp; omega) a.hh L₁.S.frs a.fr hx1 hx2 hx3 fun t b us X hL hi hf => ?_
  exact hq t b (L₁.step0 X) X (.list hf hL hi.rd)
theorem C_push {g q : Str} {x y : Str} {tx ty : Tok} {p1 p2 p3 p4 pos : Pos} {Q : Value → Shared → Prop} (L : LX prog w mg mb mC N env fs s₀ s m) (a : AR A fs) (F : PF s₀ s p d vs k prs) (hkp : env.kindOf "pile" = some .local) (hm : m "pile" = some (.ref p)) (hg : env.kindOf g = some .local) (hq : env.kindOf q = some .local) (hmg : m g = some (.str x tx)) (hmq : m q = some (.str y ty)) (hvz : vs.length ≤ 100000)
    (h : ∀ t u, LX prog w mg mb mC N env fs s₀ t m → PF s₀ t p d (vs ++ [.ref u]) k (prs ++ [(x, y)]) → Ext N (· = p) s t → Q .none t) (hline : (p2.endLine == pos.line) = true := by rfl) (hd1 : (g == ("__debug__" : Str)) = false := by decide) (hd2 : (q == ("__debug__" : Str)) = false := by decide) :
    wpAny (model prog w) A (eval (.Call (.Attribute (.Name "pile" p1) "push" p2) [.Name g p3, .Name q p4] [] pos) env) Q E s := by
  obtain ⟨u, P⟩ := F.P
  refine A_Call_attr (L.S.ld hkp hm ⟨.ref aPush, [.ref p], fun pl Q' hq' => method_acc L.T.acc.c P (r₀ := none) (by rw [typeLookup_type, builtinLookup_eq_fast]; kernel_rfl) (by rw [L.T.acc.push]; rfl) (fun Q'' h => L.T.acc.fpush.type Q'' h) rfl (by decide) hq', ?_⟩) (hline := hline)
  refine A_callFn (A_evalArgs (A_items_cons (L.S.ld hg hmg (A_items_cons (L.S.ld hq hmq (A_items_nil ⟨L.T.acc.fpush.func, ?_⟩) hd2)) hd1)))
  refine push_call L.T.acc P L.hN L.size (by have := a.dp; omega) L.S.frs hvz fun t U P' hU hUf X => ?_
  have S' := L.S.ext X fun b o q' e => (F.offP o (by rw [← q']; exact e)).2
  refine h t U (L.step X (fun b q' => by rw [q']; exact F.pf) S') ⟨⟨u, P'⟩, ?_, F.pf, F.df⟩ X
  refine ⟨by simp [F.R.1], fun i a' b' e => ?_⟩
  by_cases hi : i < prs.length
  · rw [List.getElem?_append_left hi] at e
    obtain ⟨T, t1, t2, h1, h2⟩ := F.R.2 i a' b' e
    refine ⟨T, t1, t2, by rw [List.getElem?_append_left (by rw [F.R.1]; exact hi)]; exact h1, h2.ext X fun q' => tup_off h2 (fun o e => (F.offP o e).1) q'⟩
  · have hi' : i = prs.length := by
      have := (List.getElem?_eq_some_iff.mp e).1
      simp at this; omega
    subst hi'
    rw [List.getElem?_append_right (Nat.le_refl _)] at e
    simp at e
    obtain ⟨rfl, rfl⟩ := e
    exact ⟨U, tx, ty, by rw [← F.R.1]; simp, hU⟩
end
end Mine
end
section
open PySem PySem.Calls PySem.W PyProof.Rows
set_option Elab.async false
set_option maxRecDepth 100000
namespace Mine
section
variable {prog : Program} {w : World} {mg mb mC : Str → Option Value} {A : Around} {E : Value → Shared → Prop} {N : Nat} {env : Env} {fs : List Env} {s₀ s t : Shared} {m : Str → Option Value} {p d : Addr} {vs : List Value} {k : Int} {prs : List (Str × Str)}
theorem C_pop {p1 p2 pos : Pos} {Q : Value → Shared → Prop} (L : LX prog w mg mb mC N env fs s₀ s m) (a : AR A fs) (F : PF s₀ s p d vs k prs) (hkp : env.kindOf "pile" = some .local) (hm : m "pile" = some (.ref p)) (hvz : vs.length ≤ 100000)
    (h0 : prs = [] → ∀ t v, LX prog w mg mb mC N env fs s₀ t m → PF s₀ t p d [] k [] → Ext N (fun _ => False) s t → Rd (fun _ => True) t.heap v (pairD ("", "")) → Q v t)
    (h1 : ∀ prs' x, prs = prs' ++ [x] → ∀ t vs' v, LX prog w mg mb mC N env fs s₀ t m → PF s₀ t p d vs' k prs' → Ext N (· = p) s t → Rd (fun _ => True) t.heap v (pairD x) → Q v t) (hline : (p2.endLine == pos.line) = true := by rfl) :
    wpAny (model prog w) A (eval (.Call (.Attribute (.Name "pile" p1) "pop" p2) [] [] pos) env) Q E s := by
  obtain ⟨u, P⟩ := F.P
  refine A_Call_attr (L.S.ld hkp hm ⟨.ref aPop, [.ref p], fun pl Q' hq' => method_acc L.T.acc.c P (r₀ := some (.builtin "list.pop")) PySem.F.slot_list_pop.lookup (by rw [L.T.acc.pop]; rfl) (fun Q'' h => L.T.acc.fpop.type Q'' h) rfl (by decide) hq', ?_⟩) (hline := hline)
  refine A_callFn (PySem.evalArgs_none ⟨L.T.acc.fpop.func, ?_⟩)
  refine pop_call L.T.acc P L.T.fc L.T.fp L.T.th L.hN L.size (by have := a.dp; omega) L.S.frs hvz (fun hv t U t1 t2 hU P' hUf X => ?_) fun ws v hv t P' X => ?_
  · have hp0 : prs = [] := List.length_eq_zero_iff.mp (by rw [← F.R.1, hv]; rfl)
    exact h0 hp0 t _ (L.step0 X) ⟨⟨u, hv ▸ P'⟩, ⟨rfl, fun i a b e => by simp at e⟩, F.pf, F.df⟩ X (.tuple trivial hU (.cons (.str _ _) (.cons (.str _ _) .nil)))
  · rcases List.eq_nil_or_concat prs with hp | ⟨prs', x, hp⟩
    · have := F.R.1
      rw [hp, hv] at this; simp at this
    · rw [List.concat_eq_append] at hp
      have hlen : ws.length = prs'.length := by have := F.R.1; rw [hp, hv] at this; simp at this; exact this
      have S' := L.S.ext X fun b o q' e => (F.offP o (by rw [← q']; exact e)).2
      obtain ⟨T, t1, t2, e1, e2⟩ := F.R.2 prs'.length x.1 x.2 (by rw [hp]; simp)
      have hvT : v = .ref T := by
        rw [hv, ← hlen] at e1; simp at e1; exact e1
      have key : ∀ {T' : Addr} {us : List Value}, Tup s.heap T' us → Tup t.heap T' us := fun {T' us} h => h.ext X fun q' => tup_off h (fun o e => (F.offP o e).1) q'
      refine h1 prs' x hp t ws v (L.step X (fun b q' => by rw [q']; exact F.pf) S') ⟨⟨u, P'⟩, ⟨hlen, fun i a' b' e => ?_⟩, F.pf, F.df⟩ X ?_
      · have hi := (List.getElem?_eq_some_iff.mp e).1
        obtain ⟨T', t1', t2', f1, f2⟩ := F.R.2 i a' b' (by rw [hp, List.getElem?_append_left hi]; exact e)
        rw [hv, List.getElem?_append_left (by omega)] at f1
        exact ⟨T', t1', t2', f1, key f2⟩
      · rw [hvT]
        exact .tuple trivial (key e2) (.cons (.str _ _) (.cons (.str _ _) .nil))
theorem C_lenpile {np px pos : Pos} {Q : Value → Shared → Prop} (L : LX prog w mg mb mC N env fs s₀ s m) (a : AR A fs) (F : PF s₀ s p d vs k prs) (hks : env.kindOf "len" = some .globalImplicit) (hkp : env.kindOf "pile" = some .local) (hm : m "pile" = some (.ref p)) (hz : plen prs ≤ 100000) (hk : 0 ≤ k ∧ k ≤ 100000)
    (h : ∀ t tk, LX prog w mg mb mC N env fs s₀ t m → PF s₀ t p d vs k prs → Ext N (· = aLenTab) s t → Q (.int (k + plen prs) tk) t) : wpC (model prog w) A (eval (.Call (.Name "len" np) [.Name "pile" px] [] pos) env) Q E s := by
  obtain ⟨u, P⟩ := F.P
  refine C_fn L.S hks (L.gl ▸ L.T.law.g) L.T.law.nlen (L.bi ▸ L.T.law.b) L.T.law.blen (C_any (L.S.ld hkp hm ?_))
  refine C_any (len_acc L.T.acc P F.R L.tb2 L.hN L.size (by have := a.dp; omega) a.hh L.S.frs hz hk fun t tk X tb => ?_)
  exact h t tk (L.tabs2 X tb) (F.ext X (F.ne (L.ex _ (by simp))).1 (F.ne (L.ex _ (by simp))).2 fun a o q e => (tb_off L.tb2 o (by rw [← q]; exact e)).1) X
noncomputable def asc (x : Str) : Bool := x.cps.toList.all (· < 128)
theorem asc_ok {y : Str} (hy : asc y = true) : PyData.strOk y = true := by
  unfold PyData.strOk
  unfold asc at hy
  rw [Array.all_eq_true_iff_forall_mem]
  rw [List.all_eq_true] at hy
  intro c hc
  have := of_decide_eq_true (hy c (by simpa using hc))
  exact decide_eq_true (by omega)
theorem pairD_shaped (x : Str × Str) (h1 : asc x.1 = true) (h2 : asc x.2 = true) : SeqAt.shaped (pairD x) = true := by
  simp [SeqAt.shaped, pairD, PyData.canLay0, PyData.canLayAll0, PyData.depth, PyData.depthAll, asc_ok h1, asc_ok h2]
theorem law_end {head : Int} {th : Tok} {Q : Flow → Shared → Prop} (L : LX prog w mg mb mC N env fs s₀ s m) (a : AR A fs) (F : PF s₀ s p d [] head []) (hsc : env.scope = scopeOf top[13]?) (hm : m "pile" = some (.ref p)) (hh : m "head" = some (.int head th)) (hk : 0 ≤ head ∧ head ≤ 100000)
    (h : ∀ t, EndOk N s₀ t → Q (.ret (.bool true)) t) : wpC (model prog w) A (execs ((bodyOf top[13]?).drop 11) env) Q E s := by
  refine C_cons ?_
  refine C_Return (C_BoolOp_and (C_Compare1 (C_any (C_pop L a F (kd hsc rfl) hm (by simp) (fun _ t v L₁ F₁ X₁ hv => ?_) fun prs' x hx => by simp at hx))))
  refine C_TupleA (N := N) (items_strs (xs := ["", ""]) (.cons (.cons .nil)) fun us tk hus => ⟨by rw [hus.length]; decide, fun t₂ U X₂ hU hUf => ?_⟩)
  have X₂' : Ext N (fun _ => False) t t₂ := (Ext.refl.toks _).trans X₂
  have L₂ := L₁.step0 X₂'
  have F₂ := F₁.ext0 X₂'
  have hU' : Rd (fun _ => True) t₂.heap (.ref U) (pairD ("", "")) := .tuple trivial hU hus.rd
  obtain ⟨_, r1⟩ := (hv.ext X₂' (fun _ _ z => z)).reads
  obtain ⟨_, r2⟩ := hU'.reads
  refine C_any (eq_dataH r1 r2 (pairD_shaped _ (by decide) (by decide)) (pairD_shaped _ (by decide) (by decide)) (by have := a.un; omega) ?_)
  rw [show PyData.eqv (pairD ("", "")) (pairD ("", "")) = true from by decide]
  refine truth_any ?_
  rw [if_pos rfl]
  refine C_BoolOp_one (C_Compare1 (C_lenpile L₂ a F₂ (kd hsc rfl) (kd hsc rfl) hm (by decide) hk fun t₃ tk₃ L₃ F₃ X₃ => C_any (L₃.S.ld (kd hsc rfl) hh (C_any (PyProof.Rows.eq_int ?_)))))
  have : (head + ((plen [] : Nat) : Int) == head) = true := by simp [plen]
  rw [this]
  exact h t₃ ⟨L₃.X, L₃.tb1, L₃.tb2⟩
end
end Mine
end
section
open PySem PySem.Calls PySem.W PyProof.Rows
set_option Elab.async false
set_option maxRecDepth 100000
namespace Mine
noncomputable def AtIt (h : Heap) (I : Addr) : Prop := ∃ o us c, h.get? I = some o ∧ o.data = .fields us ∧ o.cls = .type c ∧ c ∈ itCls
theorem AtIt.off {h : Heap} {I : Addr} (x : AtIt h I) : ∀ o, h.get? I = some o → OffSq o ∧ OffFr o := fun o e => by
  obtain ⟨o', us, c, e', hd, _⟩ := x
  rw [e'] at e; cases e
  exact ⟨offSq_data (fun vs n z => by rw [hd] at z; cases z), off_fields hd⟩
section
variable {prog : Program} {w : World} {mg mb mC : Str → Option Value} {A : Around} {E : Value → Shared → Prop} {N : Nat} {env : Env} {fs : List Env} {s₀ s t : Shared} {m : Str → Option Value} {p d : Addr} {vs : List Value} {k : Int} {prs : List (Str × Str)} {I : Addr} {fp : List Addr} {n : Nat} {P : Nat → Value → Prop} {St : Nat → Heap → Prop} {R : Result → Shared → Prop}
theorem Tb.kp {h h' : Heap} {F : Addr → Prop} {c Q : Addr} (tb : Tb h c Q) (K : Kp F h h') (hc : F c) (hP : F Q) : Tb h' c Q := by
  obtain ⟨ps, ⟨o, vs, file, tf, flags, tg, inF, text, tt, op, ho, hd, r2⟩, h1, h2⟩ := id tb
  refine tb.up (fun o' e' => (K c o' hc e').1 fun es ep z => ?_) fun o' e' => (K Q o' hP e').1 fun es ep z => ?_
  · rw [ho] at e'; cases e'
    rw [hd] at z; cases z
  · rw [h2] at e'; cases e'; cases z
theorem PF.kp {F : Addr → Prop} (f : PF s₀ s p d vs k prs) (K : Kp F s.heap t.heap) (hF : ∀ b o, s.heap.get? b = some o → (∀ us, o.data ≠ .fields us) → F b) : PF s₀ t p d vs k prs := by
  obtain ⟨u, ⟨n, sl, e⟩, mI, hI, r⟩ := f.P
  refine ⟨⟨u, ⟨n, sl, (K p _ (hF p _ e fun _ z => by cases z) e).1 fun _ _ z => by cases z⟩, mI, ns_kp hI K ?_, r⟩, ⟨f.R.1, fun i a b e => ?_⟩, f.pf, f.df⟩
  · obtain ⟨o, es, ep, e', hd, _⟩ := hI
    exact hF d o e' fun us z => by rw [hd] at z; cases z
  · obtain ⟨T, t1, t2, h1, h2⟩ := f.R.2 i a b e
    refine ⟨T, t1, t2, h1, h2.kp K ?_⟩
    obtain ⟨_, e'⟩ := h2
    exact hF T _ e' fun us z => by cases z
theorem it_ne {h : Heap} (x : AtIt h I) {b : Addr} {o : Obj} (e : h.get? b = some o) (hd : ∀ us, o.data ≠ .fields us) : b ≠ I := fun q => by
  obtain ⟨o', us, c, e', hd', _⟩ := x
  rw [q, e'] at e; cases e
  exact hd us hd'
theorem law_for {target : Expr} {body : List Stmt} (J : Nat → Shared → (Str → Option Value) → Prop) (L : LX prog w mg mb mC N env fs s₀ s m) (hI : Src prog w A I fp n P St) (hst : St 0 s.heap) (hIf : s₀.heap.get? I = none) (hJ : J 0 s m)
    (stab : ∀ i t t' m, J i t m → Kp (· ≠ I) t.heap t'.heap → AtIt t.heap I → J i t' m)
    (turn : ∀ i t m v, i < n → P i v → J i t m → LX prog w mg mb mC N env fs s₀ t m → AtIt t.heap I →
      wpC (model prog w) A (assign target env v) (fun _ t₁ => wpC (model prog w) A (execs body env) (fun f t' => f = .next ∧ ∃ m', LX prog w mg mb mC N env fs s₀ t' m' ∧ J (i + 1) t' m' ∧ Kp (fun b => b ∈ fp) t.heap t'.heap) (fun _ _ => False) t₁) (fun _ _ => False) t)
    (fin : ∀ t m, J n t m → LX prog w mg mb mC N env fs s₀ t m → R (.ok .next) t) : codeC (model prog w) A (.forLoop target (.ref I) body [] env) R s := by
  have mk : ∀ t m', Sd N env fs t m' → Tb t.heap aStrCode aStrTab → Tb t.heap aLenCode aLenTab → Ext N Tabs s₀ t → LX prog w mg mb mC N env fs s₀ t m' := fun t m' S t1 t2 X => ⟨S, L.gl, L.bi, L.lf, L.cf, L.T0, L.ex, t1, t2, L.hN, X⟩
  have ne : ∀ b ∈ [aStrCode, aStrTab, aLenCode, aLenTab], b ≠ I := fun b hb q => by
    obtain ⟨o, e⟩ := L.ex b hb
    rw [q, hIf] at e; cases e
  refine for_src' (t₀ := s₀) (W := Tabs) (fun i t m => J i t m ∧ Tb t.heap aStrCode aStrTab ∧ Tb t.heap aLenCode aLenTab) hI L.S hst L.X hIf ⟨hJ, L.tb1, L.tb2⟩ (fun i t t' m hj hk hit => ?_) (fun i t m v hi hv hj S X hit => ?_) fun t m hj S X => fin t m hj.1 (mk t m S hj.2.1 hj.2.2 X)
  · exact ⟨stab i t t' m hj.1 hk hit, hj.2.1.kp hk (ne _ (by simp)) (ne _ (by simp)), hj.2.2.kp hk (ne _ (by simp)) (ne _ (by simp))⟩
  · refine C_mono (turn i t m v hi hv hj.1 (mk t m S hj.2.1 hj.2.2 X) hit) (fun _ t₁ h₁ => C_mono h₁ (fun f t₂ h₂ => ?_) fun _ _ z => z) fun _ _ z => z
    obtain ⟨rfl, m', L', hj', hk⟩ := h₂
    exact ⟨rfl, m', L'.S, ⟨hj', L'.tb1, L'.tb2⟩, L'.X, hk⟩
theorem rangeSize_down (n : Nat) : Builtin.Range.rangeSize ((n : Int) - 1) (-1) (-1) = n := by
  unfold Builtin.Range.rangeSize
  simp
  omega
theorem Src.mono {P' : Nat → Value → Prop} (S : Src prog w A I fp n P St) (h : ∀ i v, P i v → P' i v) : Src prog w A I fp n P' St :=
  ⟨⟨S.w.sub, S.w.frame, fun i s Q E hi st hq => S.w.item i s Q E hi st fun v h' tk hP => hq v h' tk (h i v hP), S.w.done, S.w.self⟩, S.mem, S.nd, S.it⟩
theorem src_up {n : Nat} {tn : Tok} {Q : Value → Shared → Prop} (hh : A.handled = none) (hn : n ≤ 1000000)
    (h : ∀ t I St, Src prog w A I [I] n (fun i v => ∃ u, v = .int i u) St → St 0 t.heap → Ext N (fun _ => False) s t → s.heap.get? I = none → Q (.ref I) t) :
    wpAny (model prog w) A (call (.type "range") [.int n tn]) (fun x s₁ => wpAny (model prog w) A (pyIter x) Q E s₁) E s := by
  have hsz : Builtin.Range.rangeSize 0 n 1 = n := by
    unfold Builtin.Range.rangeSize
    rw [if_pos (by decide)]
    by_cases h0 : (0 : Int) < n
    · rw [if_pos h0]; omega
    · rw [if_neg h0]; omega
  refine call_range_1 (wpAny_pyIter_range (Heap.get?_push_size _ rfl) ?_ ?_)
  · unfold Builtin.Range.small Builtin.Range.rangeFitsLong
    rw [hsz]
    simp
    omega
  · refine h _ _ _ ((Src.range hh _ 0 1 n).mono fun i v hv => ?_) ?_ ?_ ?_
    · obtain ⟨u, rfl⟩ := hv
      exact ⟨u, by congr 1; omega⟩
    · rw [hsz]
      have := Heap.get?_push_size (s.heap.push { cls := .type "range", data := .fields #[.int 0 s.toks, .int n tn, .int 1 (s.toks + 1)] }) (o := { cls := .type "range_iterator", data := .fields #[rawInt 0, rawInt n, rawInt 1] }) rfl
      simpa using this
    · exact (Ext.refl.push _ (tk := s.toks + 1 + 1)).push _ (tk := s.toks + 1 + 1)
    · refine Heap.get?_none_of_le ?_
      show s.heap.objs.size ≤ (s.heap.push _).objs.size
      rw [Heap.size_push]; omega
theorem src_down {n : Nat} {t1 t2 t3 : Tok} {Q : Value → Shared → Prop} (hh : A.handled = none) (hn : n ≤ 1000000)
    (h : ∀ t I St, Src prog w A I [I] n (fun i v => ∃ u, v = .int ((n : Int) - 1 - i) u) St → St 0 t.heap → Ext N (fun _ => False) s t → s.heap.get? I = none → Q (.ref I) t) :
    wpAny (model prog w) A (call (.type "range") [.int ((n : Int) - 1) t1, .int (-1) t2, .int (-1) t3]) (fun x s₁ => wpAny (model prog w) A (pyIter x) Q E s₁) E s := by
  refine call_range_3 (by decide) (wpAny_pyIter_range (Heap.get?_push_size _ rfl) ?_ ?_) (.inl (PyProof.noPylong_small (by decide)))
  · unfold Builtin.Range.small Builtin.Range.rangeFitsLong
    rw [rangeSize_down]
    simp
    omega
  · refine h _ _ _ ((Src.range hh _ ((n : Int) - 1) (-1) n).mono fun i v hv => ?_) ?_ ?_ ?_
    · obtain ⟨u, rfl⟩ := hv
      exact ⟨u, by congr 1; omega⟩
    · rw [rangeSize_down]
      have := Heap.get?_push_size (s.heap.push { cls := .type "range", data := .fields #[.int ((n : Int) - 1) t1, .int (-1) t2, .int (-1) t3] }) (o := { cls := .type "range_iterator", data := .fields #[rawInt ((n : Int) - 1), rawInt n, rawInt (-1)] }) rfl
      simpa using this
    · exact (Ext.refl.push _ (tk := s.toks)).push _ (tk := s.toks)
    · refine Heap.get?_none_of_le ?_
      show s.heap.objs.size ≤ (s.heap.push _).objs.size
      rw [Heap.size_push]; omega
end
end Mine
end
section
open PySem PySem.Calls PySem.W PyProof.Rows
set_option Elab.async false
set_option maxRecDepth 100000
namespace Mine
noncomputable def toldD (ds : List (Str × Str)) : PyData := .list ((List.range (ds.length + 1)).map fun i => cvD (ptext (ds.take i)))
structure Good (ds : List (Str × Str)) : Prop where
  n : ds.length ≤ 100
  asc : ∀ q ∈ ds, asc q.1 = true ∧ asc q.2 = true
  len : plen ds ≤ 600
  ok : ∀ i, TextOk (ptext (ds.take i))
  sh : ∀ i, SeqAt.shaped (cvD (ptext (ds.take i))) = true
theorem Good.plen {ds : List (Str × Str)} (g : Good ds) (i : Nat) : plen (ds.take i) ≤ 100000 := Nat.le_trans (plen_take ds i) (Nat.le_trans g.len (by omega))
section
variable {prog : Program} {w : World} {mg mb mC : Str → Option Value} {A : Around} {E : Value → Shared → Prop} {N : Nat} {env : Env} {fs : List Env} {s₀ s t : Shared} {m : Str → Option Value} {p d : Addr} {vs : List Value} {head : Int} {I : Addr}
theorem told_get {F : Addr → Prop} {h : Heap} {v : Value} {ds : List (Str × Str)} (r : Rd F h v (toldD ds)) {i : Nat} (hi : i ≤ ds.length) : ∃ a us u, v = .ref a ∧ Lst h a us ∧ us[i]? = some u ∧ Rd F h u (cvD (ptext (ds.take i))) := by
  obtain ⟨a, us, rfl, _, hl, hr⟩ := r.list_inv
  obtain ⟨u, h1, h2⟩ := hr.get (i := i) (d := cvD (ptext (ds.take i))) (by rw [List.getElem?_map, List.getElem?_range (by omega)]; rfl)
  exact ⟨a, us, u, rfl, hl, h1, h2⟩
theorem pairs_get {F : Addr → Prop} {h : Heap} {v : Value} {ds : List (Str × Str)} (r : Rd F h v (pairsD ds)) {i : Nat} {x : Str × Str} (hi : ds[i]? = some x) : ∃ a us u, v = .ref a ∧ Lst h a us ∧ us[i]? = some u ∧ Rd F h u (pairD x) := by
  obtain ⟨a, us, rfl, _, hl, hr⟩ := r.list_inv
  obtain ⟨u, h1, h2⟩ := hr.get (i := i) (d := pairD x) (by simp [hi])
  exact ⟨a, us, u, rfl, hl, h1, h2⟩
theorem ne_same {F G : Addr → Prop} {a b : Value} {da : PyData} {Q : Value → Shared → Prop} (ra : Rd F s.heap a da) (rb : Rd G s.heap b da) (hs : SeqAt.shaped da = true) (hu : A.units + 64 < cLine) (h : Q (.bool false) s) : wpAny (model prog w) A (compareOp .NotEq a b) Q E s := by
  obtain ⟨_, r1⟩ := ra.reads
  obtain ⟨_, r2⟩ := rb.reads
  refine ne_dataH r1 r2 hs hs hu ?_
  rw [SeqAt.eqv_refl da (SeqAt.canLay_of_shaped hs)]
  exact h
noncomputable def lawPops : List Stmt := forOf (bodyOf top[13]?)[10]?
theorem pops_turn {c1 D TD : Addr} {ds : List (Str × Str)} {j : Nat} {x : Str × Str} {tk : Tok} (L : LX prog w mg mb mC N env fs s₀ s m) (a : AR A fs) (hsc : env.scope = scopeOf top[13]?) (hce : env.cells.lookup (Str.ofString "deeds") = some c1) (g : Good ds) (hj : ds[j]? = some x) (F : PF s₀ s p d vs head (ds.take j ++ [x]))
    (hm1 : m "pile" = some (.ref p)) (hm2 : m "deeds" = some (.ref D)) (hm3 : m "told" = some (.ref TD)) (hk : m "k" = some (.int j tk)) (hD : Rd (fun _ => True) s.heap (.ref D) (pairsD ds)) (hT : Rd (fun _ => True) s.heap (.ref TD) (toldD ds)) :
    wpC (model prog w) A (execs lawPops env) (fun f t => f = .next ∧ LX prog w mg mb mC N env fs s₀ t m ∧ (∃ vs', PF s₀ t p d vs' head (ds.take j)) ∧ Rd (fun _ => True) t.heap (.ref D) (pairsD ds) ∧ Rd (fun _ => True) t.heap (.ref TD) (toldD ds) ∧ Ext N (fun b => b = p ∨ b = aStrTab) s t) (fun _ _ => False) s := by
  have hjl : j < ds.length := (List.getElem?_eq_some_iff.mp hj).1
  have hxm := g.asc x (List.mem_of_getElem? hj)
  have hn := g.n
  have hvz : vs.length ≤ 100000 := by have e := F.R.1; simp at e; omega
  refine C_cons ?_
  refine C_If (C_isTrue_BoolOp (C_allTrue_Or_cons (C_isTrue_Compare1 (C_any (C_pop L a F (kd hsc rfl) hm1 hvz (fun h0 => by simp at h0) fun prs' y hy t₁ vs' v L₁ F₁ X₁ hv => ?_)))))
  have hy' : ds.take j = prs' ∧ x = y := by
    have := List.append_inj_right' hy rfl
    have h2 := List.append_inj_left' hy rfl
    exact ⟨h2, by simpa using this⟩
  obtain ⟨rfl, rfl⟩ := hy'
  have offp : ∀ b o, b = p → s.heap.get? b = some o → OffSq o := fun b o q e => (F.offP o (by rw [← q]; exact e)).1
  have hD₁ := hD.extK X₁ offp
  have hT₁ := hT.extK X₁ offp
  obtain ⟨_, us, u, e1, hl, hu, hru⟩ := pairs_get hD₁ hj
  cases e1
  refine C_Subscript (C_any (L₁.S.ldc (kd hsc rfl) hce hm2 (C_any (L₁.S.ld (kd hsc rfl) hk (C_any (sub_list hl (by omega) (by omega) (x := u) (by simpa using hu) ?_))))))
  refine C_any (ne_same hv hru (pairD_shaped x hxm.1 hxm.2) (by have := a.un; omega) (truth_any ?_))
  rw [if_neg Bool.false_ne_true]
  refine C_allTrue_Or_cons (C_isTrue_Compare1 (C_cv L₁ a (kd hsc rfl) (C_str L₁ a F₁ (kd hsc rfl) (kd hsc rfl) hm1 (g.plen j) (by have e := F₁.R.1; rw [List.length_take] at e; omega) fun t₂ tk₂ L₂ F₂ X₂ => ⟨_, _, rfl, g.ok j, L₂, fun t₃ b L₃ X₃ hb => ?_⟩)))
  have offt : ∀ b o, b = aStrTab → t₁.heap.get? b = some o → OffSq o := fun b o q e => (tb_off L₁.tb1 o (by rw [← q]; exact e)).1
  have hT₃ := (hT₁.extK X₂ offt).ext X₃ (fun _ _ z => z)
  have hD₃ := (hD₁.extK X₂ offt).ext X₃ (fun _ _ z => z)
  obtain ⟨_, us', u', e1, hl', hu', hru'⟩ := told_get hT₃ (Nat.le_of_lt hjl)
  cases e1
  refine C_Subscript (C_any (L₃.S.ld (kd hsc rfl) hm3 (C_any (L₃.S.ld (kd hsc rfl) hk (C_any (sub_list hl' (by omega) (by omega) (x := u') (by simpa using hu') ?_))))))
  refine C_any (ne_same hb hru' (g.sh j) (by have := a.un; omega) (truth_any ?_))
  rw [if_neg Bool.false_ne_true]
  refine C_allTrue_Or_nil ?_
  rw [if_neg Bool.false_ne_true]
  exact C_nil (C_nil ⟨rfl, L₃, ⟨_, F₂.ext0 X₃⟩, hD₃, hT₃, (X₁.mono fun _ q => .inl q).trans ((X₂.mono fun _ q => .inr q).trans (X₃.mono fun _ z => z.elim))⟩)
end
end Mine
end
section
open PySem PySem.Calls PySem.W PyProof.Rows
set_option Elab.async false
set_option maxRecDepth 100000
namespace Mine
section
variable {prog : Program} {w : World} {mg mb mC : Str → Option Value} {A : Around} {E : Value → Shared → Prop} {N : Nat} {env : Env} {fs : List Env} {s₀ s t : Shared} {m : Str → Option Value} {p d : Addr} {vs : List Value} {head : Int} {I : Addr}
theorem C_lenc {x : Str} {np pos px : Pos} {c a : Addr} {us : List Value} {Q : Value → Shared → Prop} (L : LX prog w mg mb mC N env fs s₀ s m) (hl : env.kindOf "len" = some .globalImplicit) (hx : env.kindOf x = some .cell) (hc : env.cells.lookup x = some c) (hv : m x = some (.ref a)) (hL : Lst s.heap a us) (hz : us.length ≤ 1000000)
    (h : ∀ tk tk', Q (.int us.length tk) { s with toks := tk' }) (hd : (x == ("__debug__" : Str)) = false := by decide) : wpC (model prog w) A (eval (.Call (.Name "len" np) [.Name x px] [] pos) env) Q E s :=
  C_fn L.S hl (L.gl ▸ L.T.law.g) L.T.law.nlen (L.bi ▸ L.T.law.b) L.T.law.blen (C_any (L.S.ldc hx hc hv (C_any (len_lst hL hz (h _ _))) hd))
theorem rd_kpIt {F : Addr → Prop} {h h' : Heap} {v : Value} {dd : PyData} (r : Rd F h v dd) (K : Kp (· ≠ I) h h') (hi : AtIt h I) : Rd F h' v dd := by
  have := (Rd.notSeq_both (W := (· = I)) fun a o q e => (hi.off o (by rw [← q]; exact e)).1).1 r
  exact (this.kp' K fun b q => q.2).mono fun b q => q.1
theorem pf_kpIt {k : Int} {prs : List (Str × Str)} (F : PF s₀ s p d vs k prs) (K : Kp (· ≠ I) s.heap t.heap) (hi : AtIt s.heap I) : PF s₀ t p d vs k prs := F.kp K fun b o e hd => it_ne hi e hd
theorem it_loc (L : LX prog w mg mb mC N env fs s₀ s m) (hit : AtIt s.heap I) : I ≠ env.locals := fun q => by
  obtain ⟨_, ⟨o, es, ep, e, hd, _⟩, _⟩ := L.S.ns
  obtain ⟨o', us, c, e', hd', _⟩ := hit
  rw [q, e] at e'; cases e'
  rw [hd] at hd'; cases hd'
theorem it_pile {k : Int} {prs : List (Str × Str)} (F : PF s₀ s p d vs k prs) (hit : AtIt s.heap I) : I ≠ p ∧ I ≠ d := by
  obtain ⟨u, ⟨n, sl, e⟩, mI, ⟨o, es, ep, e2, hd2, _⟩, _⟩ := F.P
  obtain ⟨o', us, c, e', hd', _⟩ := hit
  refine ⟨fun q => ?_, fun q => ?_⟩
  · rw [q, e] at e'; cases e'; cases hd'
  · rw [q, e2] at e'; cases e'
    rw [hd2] at hd'; cases hd'
theorem it_tab (L : LX prog w mg mb mC N env fs s₀ s m) (hIf : s₀.heap.get? I = none) : ∀ b ∈ [aStrCode, aStrTab, aLenCode, aLenTab], I ≠ b := fun b hb q => by
  obtain ⟨o, e⟩ := L.ex b hb
  rw [← q, hIf] at e; cases e
theorem law_pops {c1 D TD : Addr} {ds : List (Str × Str)} {th : Tok} {Q : Flow → Shared → Prop} (L : LX prog w mg mb mC N env fs s₀ s m) (a : AR A fs) (hsc : env.scope = scopeOf top[13]?) (hce : env.cells.lookup (Str.ofString "deeds") = some c1) (g : Good ds) (F : PF s₀ s p d vs head ds)
    (hm1 : m "pile" = some (.ref p)) (hm2 : m "deeds" = some (.ref D)) (hm3 : m "told" = some (.ref TD)) (hm4 : m "head" = some (.int head th)) (hk : 0 ≤ head ∧ head ≤ 100000) (hdl : d ≠ env.locals) (hD : Rd (fun _ => True) s.heap (.ref D) (pairsD ds)) (hT : Rd (fun _ => True) s.heap (.ref TD) (toldD ds))
    (h : ∀ t, EndOk N s₀ t → Q (.ret (.bool true)) t) : wpC (model prog w) A (execs ((bodyOf top[13]?).drop 10) env) Q E s := by
  have hn := g.n
  obtain ⟨D', us, e1, _, hl, hru⟩ := hD.list_inv
  cases e1
  have hul : us.length = ds.length := by rw [hru.length]; simp
  refine C_cons ?_
  refine C_For ?_
  refine C_Call_Name (C_any (L.S.b (kd hsc rfl) (L.gl ▸ L.T.law.g) L.T.law.nrange (L.bi ▸ L.T.law.b) L.T.law.brange ?_))
  refine C_callBuiltin rfl rfl (C_evalArgs (C_items_cons (C_BinOp (C_lenc L (kd hsc rfl) (kd hsc rfl) hce hm2 hl (by omega) fun tk tk' => C_any (wpAny_Constant_int (C_any (PyProof.Rows.sub_int ?_)))))))
  refine C_items_cons (C_UnaryOp (C_any (wpAny_Constant_int (C_any (PyProof.Rows.neg_int ?_)))))
  refine C_items_cons (C_UnaryOp (C_any (wpAny_Constant_int (C_any (PyProof.Rows.neg_int (C_items_nil ?_))))))
  rw [hul]
  refine C_any2 (src_down (N := N) a.hh (by omega) fun t₁ I St hI hst X₁ hIf => ?_)
  have X₁' : Ext N (fun _ => False) s t₁ := (((((((Ext.refl.toks _).toks _).toks _).toks _).toks _).toks _).toks _).trans X₁
  have L₁ := L.step0 X₁'
  refine law_for (fun i t m => ∃ vs, PF s₀ t p d vs head (ds.take (ds.length - i)) ∧ Rd (fun _ => True) t.heap (.ref D) (pairsD ds) ∧ Rd (fun _ => True) t.heap (.ref TD) (toldD ds) ∧ m "pile" = some (.ref p) ∧ m "deeds" = some (.ref D) ∧ m "told" = some (.ref TD) ∧ m "head" = some (.int head th)) L₁ hI hst (L.X.fresh' hIf)
    ⟨vs, by rw [Nat.sub_zero, List.take_length]; exact F.ext0 X₁', hD.ext X₁' (fun _ _ z => z), hT.ext X₁' (fun _ _ z => z), hm1, hm2, hm3, hm4⟩ (fun i t t' m hj K hit => ?_) (fun i t m v hi hv hj L' hit => ?_) fun t m hj L' => ?_
  · obtain ⟨vs, f, r1, r2, n1, n2, n3, n4⟩ := hj
    exact ⟨vs, pf_kpIt f K hit, rd_kpIt r1 K hit, rd_kpIt r2 K hit, n1, n2, n3, n4⟩
  · obtain ⟨vs, f, r1, r2, n1, n2, n3, n4⟩ := hj
    obtain ⟨u, rfl⟩ := hv
    have hj' : ds.length - 1 - i < ds.length := by omega
    have hx : ds[ds.length - 1 - i]? = some ds[ds.length - 1 - i] := List.getElem?_eq_getElem hj'
    refine C_any (assign_Name (L'.st (kd hsc rfl) fun t₂ L₂ X₂ => ?_))
    have off2 : ∀ b o, b = env.locals → t.heap.get? b = some o → OffSq o := L'.offL
    have hpl : p ≠ env.locals := fun q => by
      obtain ⟨_, ⟨o, es, ep, e, hd, _⟩, _⟩ := L'.S.ns
      obtain ⟨_, ⟨_, _, e'⟩, _⟩ := f.P
      rw [q, e] at e'; cases e'; cases hd
    have f₂ : PF s₀ t₂ p d vs head (ds.take (ds.length - 1 - i) ++ [ds[ds.length - 1 - i]]) := by
      have := f.ext X₂ hpl hdl off2
      rw [show ds.length - i = (ds.length - 1 - i) + 1 by omega, List.take_add_one, hx] at this
      exact this
    refine C_mono (pops_turn L₂ a hsc hce g hx f₂ ((upd_ne (by decide)).trans n1) ((upd_ne (by decide)).trans n2) ((upd_ne (by decide)).trans n3) (tk := u) ?_ (r1.extK X₂ off2) (r2.extK X₂ off2)) (fun fl t₃ h₃ => ?_) fun _ _ z => z
    · rw [upd_same]
      congr 2
      omega
    obtain ⟨rfl, L₃, ⟨vs', f₃⟩, r1', r2', X₃⟩ := h₃
    refine ⟨rfl, _, L₃, ⟨vs', by rw [show ds.length - (i + 1) = ds.length - 1 - i by omega]; exact f₃, r1', r2', (upd_ne (by decide)).trans n1, (upd_ne (by decide)).trans n2, (upd_ne (by decide)).trans n3, (upd_ne (by decide)).trans n4⟩, ?_⟩
    refine Kp.trans ((Kp.of_ext X₂).mono fun b hb q => ?_) ((Kp.of_ext X₃).mono fun b hb q => ?_)
    · rw [List.mem_singleton.mp hb] at q
      exact it_loc L' hit q
    · rw [List.mem_singleton.mp hb] at q
      exact q.elim (it_pile f hit).1 (it_tab L (L.X.fresh' hIf) _ (by simp))
  · obtain ⟨vs, f, r1, r2, n1, n2, n3, n4⟩ := hj
    rw [Nat.sub_self] at f
    have hv0 : vs = [] := List.length_eq_zero_iff.mp (by rw [f.R.1]; rfl)
    subst hv0
    exact law_end L' a f hsc n1 n4 hk h
end
end Mine
end
section
open PySem PySem.Calls PySem.W PyProof.Rows
set_option Elab.async false
set_option maxRecDepth 100000
namespace Mine
structure Rises (rs : List (List PyData)) : Prop where
  n : rs.length = 9
  lay : ∀ r ∈ rs, PyData.canLayAll0 r = true ∧ PyData.depthAll r ≤ 8
  lt : ∀ i x y, rs[i]? = some x → rs[i + 1]? = some y → ltBy lt1 x y = some true
section
variable {prog : Program} {w : World} {mg mb mC : Str → Option Value} {A : Around} {E : Value → Shared → Prop} {N : Nat} {env : Env} {fs : List Env} {s₀ s t : Shared} {m : Str → Option Value} {p d : Addr} {vs : List Value} {head : Int} {I : Addr}
theorem cl_one {f : Str} {c c' : Addr} {x : Str} (hc : List.lookup x [(f, c)] = some c') : x = f ∧ c' = c := by
  rw [List.lookup_cons] at hc
  cases hb : x == f with
  | true => rw [hb] at hc; cases hc; exact ⟨beq_iff_eq.mp hb, rfl⟩
  | false => rw [hb] at hc; cases hc
theorem list_get {F : Addr → Prop} {h : Heap} {v : Value} {rs : List PyData} (r : Rd F h v (.list rs)) {i : Nat} {x : PyData} (hi : rs[i]? = some x) : ∃ a us u, v = .ref a ∧ Lst h a us ∧ us[i]? = some u ∧ Rd F h u x := by
  obtain ⟨a, us, rfl, _, hl, hr⟩ := r.list_inv
  obtain ⟨u, h1, h2⟩ := hr.get hi
  exact ⟨a, us, u, rfl, hl, h1, h2⟩
theorem doneOf_none (n : Nat) : doneOf (fun _ => none) n = [] := by
  unfold doneOf
  induction n with
  | zero => rfl
  | succ n ih => rw [List.range_succ, List.filterMap_append, ih]; rfl
theorem rise_item {C c RS : Addr} {i : Nat} {tx : Tok} {t : Shared} {m' : Str → Option Value} {rs : List (List PyData)} {p1 p2 p3 p4 p5 p6 p7 p8 p9 q1 q2 : Pos} {k0 : Nat}
    (a : AR A fs) (hsc : env.scope = scopeOf top[13]?) (S : Sd N (compEnvC (scope1 "k" "rising") [("rising", c)] C env) fs t m') (hp : m' "rising" = some (.ref RS)) (hR : Rd (fun _ => True) t.heap (.ref RS) (.list (rs.map .list))) (hr : Rises rs) (hi : i < 8) :
    ItemOk prog w A N fs (.Name "k" p1) (.Name "k" p2) [.UnaryOp .Not (.Compare (.Subscript (.Name "rising" p3) (.Name "k" p4) p5) [.Lt] [.Subscript (.Name "rising" p6) (.BinOp (.Name "k" p7) .Add (.Constant (.int 1) k0 p8) p9) q1] q2) q2] (fun _ => False) C (compEnvC (scope1 "k" "rising") [("rising", c)] C env) t (.int i tx) none := by
  have kx : (compEnvC (scope1 "k" "rising") [("rising", c)] C env).kindOf "k" = some .local := lookup_relabel_local (names := (scope1 "k" "rising").names) rfl
  have kp : (compEnvC (scope1 "k" "rising") [("rising", c)] C env).kindOf "rising" = some .cell := by
    show (relabel (scope1 "k" "rising") env).names.lookup _ = _
    unfold relabel Env.kindOf
    rw [hsc]
    rfl
  unfold ItemOk
  refine C_any (assign_Name (S.st kx fun t₁ S₁ X₁ _ => C_tests_one (C_isTrue_not (C_isTrue_Compare1 (C_Subscript ?_)))))
  have hx₁ : upd m' "k" (.int i tx) "k" = some (.int i tx) := upd_same
  have hp₁ : upd m' "k" (.int i tx) "rising" = some (.ref RS) := (upd_ne (by decide)).trans hp
  have hR₁ : Rd (fun _ => True) t₁.heap (.ref RS) (.list (rs.map .list)) := hR.extK X₁ fun b o q e => offSq_data fun vs n z => by
    obtain ⟨_, ⟨o', es, ep, e', hd, _⟩, _⟩ := S.ns
    have e'' : t.heap.get? C = some o' := e'
    rw [q, show (compEnvC (scope1 "k" "rising") [("rising", c)] C env).locals = C from rfl, e''] at e; cases e
    rw [hd] at z; cases z
  have hn := hr.n
  have h1 : rs[i]? = some (rs[i]'(by omega)) := List.getElem?_eq_getElem (by omega)
  have h2 : rs[i + 1]? = some (rs[i + 1]'(by omega)) := List.getElem?_eq_getElem (by omega)
  have hlt := hr.lt i _ _ h1 h2
  have ly1 := hr.lay _ (List.mem_of_getElem? h1)
  have ly2 := hr.lay _ (List.mem_of_getElem? h2)
  generalize rs[i]'(by omega) = x at h1 hlt ly1
  generalize rs[i + 1]'(by omega) = y at h2 hlt ly2
  obtain ⟨_, us, u, e1, hl, hu, ru⟩ := list_get hR₁ (i := i) (x := .list x) (by rw [List.getElem?_map, h1]; rfl)
  cases e1
  obtain ⟨_, us', u', e1, hl', hu', ru'⟩ := list_get hR₁ (i := i + 1) (x := .list y) (by rw [List.getElem?_map, h2]; rfl)
  cases e1
  refine C_any (S₁.ldc kp rfl hp₁ (C_any (S₁.ld kx hx₁ (C_any (sub_list hl (by omega) (by omega) (x := u) (by simpa using hu) ?_)))))
  refine C_Subscript (C_any (S₁.ldc kp rfl hp₁ (C_BinOp (C_any (S₁.ld kx hx₁ (C_any (wpAny_Constant_int (C_any (PyProof.Rows.add_int ?_))))))))) 
  refine C_any (sub_list hl' (by omega) (by omega) (x := u') ?_ ?_)
  · rw [show ((i : Int) + 1).toNat = i + 1 by omega]; exact hu'
  refine C_any (lt_lists ru ru' ly1.1 ly2.1 ly1.2 ly2.2 (by have := a.un; omega) hlt (truth_any ?_))
  rw [if_neg (by decide)]
  exact ⟨rfl, _, (S₁.toks _).toks _, (X₁.toks _).toks _⟩
theorem law_rise {c1 c3 D TD RS : Addr} {ds : List (Str × Str)} {rs : List (List PyData)} {th : Tok} {Q : Flow → Shared → Prop} (L : LX prog w mg mb mC N env fs s₀ s m) (a : AR A fs) (hsc : env.scope = scopeOf top[13]?) (hce : env.cells.lookup (Str.ofString "deeds") = some c1) (hce3 : env.cells.lookup (Str.ofString "rising") = some c3) (g : Good ds) (F : PF s₀ s p d vs head ds)
    (hm1 : m "pile" = some (.ref p)) (hm2 : m "deeds" = some (.ref D)) (hm3 : m "told" = some (.ref TD)) (hm4 : m "head" = some (.int head th)) (hm5 : m "rising" = some (.ref RS)) (hk : 0 ≤ head ∧ head ≤ 100000) (hdl : d ≠ env.locals) (hD : Rd (fun _ => True) s.heap (.ref D) (pairsD ds)) (hT : Rd (fun _ => True) s.heap (.ref TD) (toldD ds))
    (hR : Rd (fun _ => True) s.heap (.ref RS) (.list (rs.map .list))) (hr : Rises rs)
    (h : ∀ t, EndOk N s₀ t → Q (.ret (.bool true)) t) : wpC (model prog w) A (execs ((bodyOf top[13]?).drop 9) env) Q E s := by
  refine C_cons ?_
  refine C_If (C_isTrue_plain ?_)
  refine C_ListComp [("rising", c3)] L.S (closure_one rfl hce3) (by decide) rfl (by decide) (fun x c' hc => ?_) ?_
  · obtain ⟨rfl, rfl⟩ := cl_one hc
    refine ⟨hce3, ?_⟩
    unfold relabel Env.kindOf
    rw [hsc]
    decide
  refine C_Call_Name (C_any (L.S.b (kd hsc rfl) (L.gl ▸ L.T.law.g) L.T.law.nrange (L.bi ▸ L.T.law.b) L.T.law.brange ?_))
  refine C_callBuiltin rfl rfl (C_evalArgs (C_items_cons (C_any (wpAny_Constant_int (C_items_nil ?_)))))
  refine C_any2 (src_up (n := 8) (N := N) a.hh (by omega) fun t₁ I St hI hst X₁ hIf => ?_)
  have X₁' : Ext N (fun _ => False) s t₁ := (Ext.refl.toks _).trans X₁
  refine ⟨I, _, 8, _, St, fun _ => False, fun _ => none, rfl, hI, hst, hIf, by omega, X₁', fun _ z => z.elim, ?_, ?_⟩
  · intro C t i v m' hi hv X hC S' hcm
    obtain ⟨u, rfl⟩ := hv
    exact rise_item a hsc S' ((hcm "rising" c3 rfl).trans hm5) (hR.ext X (fun _ _ z => z)) hr hi
  · intro L₂ t X hLf₂ hR₂ S'
    obtain ⟨_, ws, e, _, hL₂, hws⟩ := hR₂.list_inv
    cases e
    rw [doneOf_none] at hws
    have hw0 : ws = [] := List.length_eq_zero_iff.mp (by rw [hws.length]; rfl)
    subst hw0
    refine C_any (truthy_lst hL₂ (by simp) fun tk => ?_)
    refine C_nil ?_
    have X' := X.toks tk
    exact law_pops (L.step0 X') a hsc hce g (F.ext0 X') hm1 hm2 hm3 hm4 hk hdl (hD.ext X' (fun _ _ z => z)) (hT.ext X' (fun _ _ z => z)) h
end
end Mine
end
section
open PySem PySem.Calls PySem.W PyProof.Rows
set_option Elab.async false
set_option maxRecDepth 100000
namespace Mine
noncomputable def endsL : List Str := [".x", ".dev", ".alpha", ".beta", ".c", ".rc", ".0", ".pl"]
noncomputable def textsOf (ds : List (Str × Str)) : List Str := (List.range (ds.length + 1)).map fun i => ptext (ds.take i)
noncomputable def rsOf (T : Str) : List (List PyData) := (cv T).map itmD :: endsL.map fun e => (cv (T ++ e)).map itmD
theorem textsOf_last (ds : List (Str × Str)) : ∃ zs, textsOf ds = zs ++ [ptext ds] := by
  refine ⟨(List.range ds.length).map fun i => ptext (ds.take i), ?_⟩
  unfold textsOf
  rw [List.range_succ, List.map_append, List.map_cons, List.map_nil, List.take_length]
noncomputable def scopeE : Scope := { kind := .function, names := [(".0", .local), ("end", .local), ("_comparable_version", .globalImplicit), ("texts", .free)], isGenerator := false, isCoroutine := false, more := [] }
section
variable {prog : Program} {w : World} {mg mb mC : Str → Option Value} {A : Around} {E : Value → Shared → Prop} {N : Nat} {env : Env} {fs : List Env} {s₀ s t : Shared} {m : Str → Option Value} {p d : Addr} {vs : List Value} {head : Int} {I : Addr}
theorem C_cvS {env' : Env} {np pos : Pos} {e : Expr} {Q : Value → Shared → Prop} (S : Sd N env' fs s m) (a : AR A fs) (hg : s.heap.Ns env'.globals mg) (hcv : mg "_comparable_version" = some (.ref aCv)) (hk : env'.kindOf "_comparable_version" = some .globalImplicit) (hN : topN ≤ N)
    (h : wpC (model prog w) A (eval e env') (fun v s₁ => ∃ x tk, v = .str x tk ∧ TextOk x ∧ CvTop prog w mg mb s₁.heap ∧ Frs N s₁.heap fs ∧ N ≤ s₁.heap.objs.size ∧ ∀ t b, Ext N (fun _ => False) s₁ t → Rd (fun b => s₁.heap.get? b = none) t.heap (.ref b) (cvD x) → Q (.ref b) t) E s)
    (he : starEach [e] env' = (false, eval e env') :: starEach [] env' := by rfl) : wpC (model prog w) A (eval (.Call (.Name "_comparable_version" np) [e] [] pos) env') Q E s := by
  refine C_Call_Name (C_any (S.g hk hg hcv ?_))
  refine C_callFn (C_evalArgs (C_items_cons (C_q h fun v s₁ h₁ => C_items_nil ?_) he) he)
  obtain ⟨x, tk, rfl, ⟨hx1, hx2, hx3⟩, T, hF, hsz, hq⟩ := h₁
  refine ⟨let ⟨o, pm, doc, h1, h2, _⟩ := T.fn; ⟨o, _, h1, h2⟩, ?_⟩
  refine cv_call T hN hsz (by have := a.dp; omega) a.hh hF a.fr hx1 hx2 hx3 fun t b us X hL hi hf => ?_
  exact hq t b X (.list hf hL hi.rd)
theorem Sd.size (S : Sd N env fs s m) : N ≤ s.heap.objs.size := let ⟨_, ⟨_, _, _, e, _⟩, _⟩ := S.ns; Nat.le_trans S.lo (Nat.le_of_lt (Heap.lt_size e))
theorem end_item {C c TX : Addr} {tx : Tok} {t : Shared} {m' : Str → Option Value} {e T : Str} {tt : Tok} {us : List Value} {p1 p2 p3 p4 p5 p6 p7 p8 p9 : Pos} {k0 : Nat}
    (a : AR A fs) (hsc : env.scope = scopeOf top[13]?) (hgl : env.globals = mainGlobals) (hN : topN ≤ N) (S : Sd N (compEnvC scopeE [("texts", c)] C env) fs t m') (T' : Tops prog w mg mb mC t.heap) (hp : m' "texts" = some (.ref TX)) (hX : Lst t.heap TX (us ++ [.str T tt])) (hok : TextOk (T ++ e)) (hz : T.length + e.length ≤ 100000) :
    ItemOk prog w A N fs (.Call (.Name "_comparable_version" p1) [.BinOp (.Subscript (.Name "texts" p2) (.UnaryOp .USub (.Constant (.int 1) k0 p3) p4) p5) .Add (.Name "end" p6) p7] [] p8) (.Name "end" p9) [] (fun _ => False) C (compEnvC scopeE [("texts", c)] C env) t (.str e tx) (some (cvD (T ++ e))) := by
  have kx : (compEnvC scopeE [("texts", c)] C env).kindOf "end" = some .local := lookup_relabel_local (names := scopeE.names) rfl
  have kp : (compEnvC scopeE [("texts", c)] C env).kindOf "texts" = some .cell := by
    show (relabel scopeE env).names.lookup _ = _
    unfold relabel Env.kindOf
    rw [hsc]
    rfl
  have kc : (compEnvC scopeE [("texts", c)] C env).kindOf "_comparable_version" = some .globalImplicit := by
    show (relabel scopeE env).names.lookup _ = _
    unfold relabel Env.kindOf
    rw [hsc]
    rfl
  unfold ItemOk
  refine C_any (assign_Name (S.st kx fun t₁ S₁ X₁ _ => C_tests_nil ?_))
  rw [if_pos rfl]
  have hx₁ : upd m' "end" (.str e tx) "end" = some (.str e tx) := upd_same
  have hp₁ : upd m' "end" (.str e tx) "texts" = some (.ref TX) := (upd_ne (by decide)).trans hp
  have hCl : TX ≠ C := lst_ne_loc S hX
  have hX₁ : Lst t₁.heap TX (us ++ [.str T tt]) := hX.ext X₁ hCl
  have T₁ : Tops prog w mg mb mC t₁.heap := T'.keep (Keep.of X₁ hN fun b q => .inl (by rw [q]; exact Nat.le_trans hN S.lo))
  have hg₁ : t₁.heap.Ns (compEnvC scopeE [("texts", c)] C env).globals mg := by
    show t₁.heap.Ns env.globals mg
    rw [hgl]; exact T₁.law.g
  refine C_cvS (mb := mb) S₁ a hg₁ T₁.law.cv kc hN ?_
  refine C_BinOp (C_Subscript (C_any (S₁.ldc kp rfl hp₁ (C_UnaryOp (C_any (wpAny_Constant_int (C_any (PyProof.Rows.neg_int (C_any (sub_last hX₁ ?_))))))))))
  refine C_any ((S₁.toks _).ld kx hx₁ (C_any (PyProof.Rows.add_str (fun tk₂ tk₂' => ?_) (by rw [sizeLine_eq]; omega))))
  refine ⟨_, _, rfl, hok, T₁.cv, S₁.frs, S₁.size, fun t₂ b X₂ hb => ?_⟩
  have X₂' : Ext N (fun _ => False) t₁ t₂ := (((Ext.refl.toks _).toks _).toks _).trans X₂
  refine ⟨_, _, rfl, hb.mono fun b q => .inl (X₁.fresh' q), S₁.ext0 X₂', X₁.trans (X₂'.mono fun _ z => z.elim)⟩
end
end Mine
end
section
open PySem PySem.Calls PySem.W PyProof.Rows
set_option Elab.async false
set_option maxRecDepth 100000
namespace Mine
section
variable {prog : Program} {w : World} {mg mb mC : Str → Option Value} {A : Around} {E : Value → Shared → Prop} {N : Nat} {env : Env} {fs : List Env} {s₀ s t : Shared} {m : Str → Option Value} {p d : Addr} {vs : List Value} {head : Int} {I : Addr}
theorem Strs.getv {vs : List Value} {l : List Str} (h : Strs vs l) {i : Nat} {v : Value} (hv : vs[i]? = some v) : ∃ x t, l[i]? = some x ∧ v = .str x t := by
  induction h generalizing i with
  | nil => simp at hv
  | @cons x t vs l h ih =>
    cases i with
    | zero => simp at hv; exact ⟨x, t, rfl, hv.symm⟩
    | succ i => exact ih (by simpa using hv)
theorem law_rising {c1 c2 c3 D TD TX EN : Addr} {txs us : List Value} {ds : List (Str × Str)} {th : Tok} {Q : Flow → Shared → Prop} (L : LX prog w mg mb mC N env fs s₀ s m) (a : AR A fs) (hsc : env.scope = scopeOf top[13]?) (hce : env.cells.lookup (Str.ofString "deeds") = some c1) (hce2 : env.cells.lookup (Str.ofString "texts") = some c2) (hce3 : env.cells.lookup (Str.ofString "rising") = some c3) (g : Good ds) (F : PF s₀ s p d vs head ds)
    (hm1 : m "pile" = some (.ref p)) (hm2 : m "deeds" = some (.ref D)) (hm3 : m "told" = some (.ref TD)) (hm4 : m "head" = some (.int head th)) (hm5 : m "texts" = some (.ref TX)) (hm6 : m "ends" = some (.ref EN)) (hk : 0 ≤ head ∧ head ≤ 100000) (hdl : d ≠ env.locals) (hD : Rd (fun _ => True) s.heap (.ref D) (pairsD ds)) (hT : Rd (fun _ => True) s.heap (.ref TD) (toldD ds))
    (hX : Lst s.heap TX txs) (hxs : Strs txs (textsOf ds)) (hE : Tup s.heap EN us) (hus : Strs us endsL) (hr : Rises (rsOf (ptext ds))) (hoke : ∀ e ∈ endsL, TextOk (ptext ds ++ e)) (hpz : (ptext ds).length ≤ 10000)
    (h : ∀ t, EndOk N s₀ t → Q (.ret (.bool true)) t) : wpC (model prog w) A (execs ((bodyOf top[13]?).drop 8) env) Q E s := by
  obtain ⟨zs, hzs⟩ := textsOf_last ds
  rw [hzs] at hxs
  obtain ⟨xs', tt, rfl, _⟩ := hxs.snoc
  have hul := hus.length
  have hTl := hT
  obtain ⟨_, ts, e1, _, hTl, hrt⟩ := hTl.list_inv
  cases e1
  obtain ⟨u, hu, ru⟩ := hrt.get (i := ds.length) (d := cvD (ptext ds)) (by rw [List.getElem?_map, List.getElem?_range (by omega)]; simp)
  have htl : ts.length = ds.length + 1 := by rw [hrt.length]; simp
  have hts := split_last htl hu
  rw [hts] at hTl
  have hn := g.n
  refine C_cons ?_
  refine C_AssignName (C_BinOp (C_ListA (N := N) (C_items_cons (C_last L.S (kd hsc rfl) hm3 hTl fun tk => C_items_nil ⟨by simp, fun t₁ B X₁ hB hBf => ?_⟩))))
  have X₁' : Ext N (fun _ => False) s t₁ := (Ext.refl.toks _).trans X₁
  have L₁ := L.step0 X₁'
  refine C_ListComp [("texts", c2)] L₁.S (closure_one rfl hce2) (by decide) rfl (by decide) (fun x c' hc => ?_) ?_
  · obtain ⟨rfl, rfl⟩ := cl_one hc
    refine ⟨hce2, ?_⟩
    unfold relabel Env.kindOf
    rw [hsc]
    decide
  have hE₁ : Tup t₁.heap EN us := hE.ext X₁' id
  refine C_any (L₁.S.ld (kd hsc rfl) hm6 (C_any (wpAny_pyIter_tuple hE₁.isTupT ?_)))
  have hEl : EN < t₁.heap.objs.size := let ⟨_, e⟩ := hE₁; Heap.lt_size e
  refine ⟨t₁.heap.objs.size, _, _, _, _, fun _ => False, fun i => (endsL[i]?).map fun e => cvD (ptext ds ++ e), rfl, Src.tuple a.hh _ EN (Nat.ne_of_lt hEl) us.toArray, ⟨⟨_, Heap.get?_push_size _ rfl, rfl, rfl⟩, (hE₁.push _).isTupT⟩, Heap.get?_none_of_le (Nat.le_refl _), ?_, Ext.refl.push _ (tk := t₁.toks), fun _ z => z.elim, ?_, ?_⟩
  · simp only [List.size_toArray]; rw [hul]; decide
  · intro C t i v m' hi hv X hC S' hcm
    have hv' : us[i]? = some v := by simpa using hv
    obtain ⟨e, te, he, rfl⟩ := hus.getv hv'
    have hd : (endsL[i]?).map (fun e => cvD (ptext ds ++ e)) = some (cvD (ptext ds ++ e)) := by rw [he]; rfl
    have hez : e.length ≤ 10 := by
      have : ∀ e ∈ endsL, e.length ≤ 10 := by decide
      exact this e (List.mem_of_getElem? he)
    exact (congrArg (ItemOk prog w A N fs _ _ _ _ C _ t _) hd).mpr (end_item a hsc L.gl L.hN S' (L₁.step0 X).T ((hcm "texts" c2 rfl).trans hm5) ((hX.ext X₁' id).ext X id) (hoke e (List.mem_of_getElem? he)) (by omega))
  · intro L₂ t X hLf₂ hR₂ S'
    obtain ⟨_, ws, e, _, hL₂, hws⟩ := hR₂.list_inv
    cases e
    have hlen : us.toArray.size = endsL.length := by simp only [List.size_toArray]; exact hul
    rw [hlen, doneOf_map endsL fun e => cvD (ptext ds ++ e)] at hws
    have hwl := hws.length
    have hB₂ := hB.ext X id
    refine C_any (add_lstA (N := N) hB₂ hL₂ (by rw [hwl, List.length_map]; exact (by decide : 1 + endsL.length ≤ 1000000)) fun t₃ L₃ X₃ hL₃ hLf₃ => ?_)
    have X₃' := (X₁'.trans X).trans X₃
    have Lx := L.step0 X₃'
    refine C_any (Lx.stc (kd hsc rfl) hce3 fun t₄ L₄ X₄ => ?_)
    have off4 : ∀ b o, b = c3 → t₃.heap.get? b = some o → OffSq o := Lx.offC hce3
    have hcd : p ≠ c3 ∧ d ≠ c3 := by
      obtain ⟨o, ho, hd⟩ := L.S.cel _ _ hce3
      obtain ⟨_, ⟨_, _, e⟩, _, ⟨o', es, ep, e', hd', _⟩, _⟩ := F.P
      refine ⟨fun q => ?_, fun q => ?_⟩
      · rw [q, ho] at e; cases e; cases hd
      · rw [q, ho] at e'; cases e'
        rw [hd] at hd'; cases hd'
    have hRn : Rd (fun _ => True) t₃.heap (.ref L₃) (.list ((rsOf (ptext ds)).map .list)) := by
      refine .list trivial hL₃ ?_
      have e1 : (rsOf (ptext ds)).map PyData.list = [cvD (ptext ds)] ++ endsL.map fun e => cvD (ptext ds ++ e) := by
        unfold rsOf
        rw [List.map_cons, List.map_map]
        rfl
      rw [e1]
      exact (RdAll.one ((ru.ext X₁' (fun _ _ z => z)).ext (X.trans X₃) (fun _ _ z => z))).append ((hws.ext X₃ (fun _ _ z => z)).mono fun _ _ => trivial)
    exact law_rise L₄ a hsc hce hce3 g ((F.ext0 X₃').ext X₄ hcd.1 hcd.2 off4) ((upd_ne (by decide)).trans hm1) ((upd_ne (by decide)).trans hm2) ((upd_ne (by decide)).trans hm3) ((upd_ne (by decide)).trans hm4) upd_same hk hdl ((hD.ext X₃' (fun _ _ z => z)).extK X₄ off4) ((hT.ext X₃' (fun _ _ z => z)).extK X₄ off4) (hRn.extK X₄ off4) hr h
theorem law_ends {c1 c2 c3 D TD TX : Addr} {txs : List Value} {ds : List (Str × Str)} {th : Tok} {Q : Flow → Shared → Prop} (L : LX prog w mg mb mC N env fs s₀ s m) (a : AR A fs) (hsc : env.scope = scopeOf top[13]?) (hce : env.cells.lookup (Str.ofString "deeds") = some c1) (hce2 : env.cells.lookup (Str.ofString "texts") = some c2) (hce3 : env.cells.lookup (Str.ofString "rising") = some c3) (g : Good ds) (F : PF s₀ s p d vs head ds)
    (hm1 : m "pile" = some (.ref p)) (hm2 : m "deeds" = some (.ref D)) (hm3 : m "told" = some (.ref TD)) (hm4 : m "head" = some (.int head th)) (hm5 : m "texts" = some (.ref TX)) (hk : 0 ≤ head ∧ head ≤ 100000) (hdl : d ≠ env.locals) (hD : Rd (fun _ => True) s.heap (.ref D) (pairsD ds)) (hT : Rd (fun _ => True) s.heap (.ref TD) (toldD ds))
    (hX : Lst s.heap TX txs) (hxs : Strs txs (textsOf ds)) (hr : Rises (rsOf (ptext ds))) (hoke : ∀ e ∈ endsL, TextOk (ptext ds ++ e)) (hpz : (ptext ds).length ≤ 10000)
    (h : ∀ t, EndOk N s₀ t → Q (.ret (.bool true)) t) : wpC (model prog w) A (execs ((bodyOf top[13]?).drop 7) env) Q E s := by
  refine C_cons ?_
  refine C_AssignName ?_
  refine C_TupleA (N := N) ?_
  refine items_strs (xs := endsL) ?c1 ?_
  case c1 => repeat (first | exact .nil | refine .cons ?_)
  intro us tk hus
  refine ⟨by rw [hus.length]; decide, fun t₁ EN X₁ hE hEf => ?_⟩
  have X₁' : Ext N (fun _ => False) s t₁ := (Ext.refl.toks _).trans X₁
  have L₁ := L.step0 X₁'
  refine C_any (L₁.st (kd hsc rfl) fun t₂ L₂ X₂ => ?_)
  have off2 : ∀ b o, b = env.locals → t₁.heap.get? b = some o → OffSq o := L₁.offL
  have F₁ := F.ext0 X₁'
  have hpl : p ≠ env.locals := fun q => by
    obtain ⟨_, ⟨o, es, ep, e, hd, _⟩, _⟩ := L.S.ns
    obtain ⟨_, ⟨_, _, e'⟩, _⟩ := F.P
    rw [q, e] at e'; cases e'; cases hd
  exact law_rising L₂ a hsc hce hce2 hce3 g (F₁.ext X₂ hpl hdl off2) ((upd_ne (by decide)).trans hm1) ((upd_ne (by decide)).trans hm2) ((upd_ne (by decide)).trans hm3) ((upd_ne (by decide)).trans hm4) ((upd_ne (by decide)).trans hm5) upd_same hk hdl ((hD.ext X₁' (fun _ _ z => z)).extK X₂ off2) ((hT.ext X₁' (fun _ _ z => z)).extK X₂ off2)
    ((hX.ext X₁' id).ext X₂ (lst_off (hX.ext X₁' id) fun o e => off2 _ o rfl e)) hxs (hE.ext X₂ (tup_off hE fun o e => off2 _ o rfl e)) hus hr hoke hpz h
end
end Mine
end
section
open PySem PySem.Calls PySem.W PyProof.Rows
set_option Elab.async false
set_option maxRecDepth 100000
namespace Mine
noncomputable def runsD (ds : List (Str × Str)) : PyData := .list ((textsOf ds).map fun x => strsD (runsOf x))
noncomputable def cvI (ds : List (Str × Str)) (i : Nat) : List PyData := (cv (ptext (ds.take i))).map itmD
noncomputable def runsI (ds : List (Str × Str)) (i : Nat) : List Str := runsOf (ptext (ds.take i))
structure Pairs2 (ds : List (Str × Str)) : Prop where
  cmp : ∀ i j, i < j → j ≤ ds.length → ∃ r1 r2, ltBy lt1 (cvI ds i) (cvI ds j) = some r1 ∧ ltBy lt1 (cvI ds j) (cvI ds i) = some r2 ∧ (if r1 then (1 : Int) else if r2 then -1 else 0) = than (runsI ds i) (runsI ds j)
  lay : ∀ i, PyData.canLayAll0 (cvI ds i) = true ∧ PyData.depthAll (cvI ds i) ≤ 8
  len : ∀ i j, i < j → j ≤ ds.length → runsI ds i ≠ [] → (runsI ds i).length ≤ (runsI ds j).length
  ne : ∀ i, ∀ x ∈ runsI ds i, 0 < x.cps.size
  sz : ∀ i, (runsI ds i).length ≤ 1000 ∧ ∀ x ∈ runsI ds i, x.length ≤ 1000
structure LK (s₀ s : Shared) (m : Str → Option Value) (p d D TD TX RU : Addr) (vs txs : List Value) (head : Int) (th : Tok) (ds : List (Str × Str)) : Prop where
  F : PF s₀ s p d vs head ds
  n1 : m "pile" = some (.ref p)
  n2 : m "deeds" = some (.ref D)
  n3 : m "told" = some (.ref TD)
  n4 : m "head" = some (.int head th)
  n5 : m "texts" = some (.ref TX)
  n6 : m "runs" = some (.ref RU)
  hD : Rd (fun _ => True) s.heap (.ref D) (pairsD ds)
  hT : Rd (fun _ => True) s.heap (.ref TD) (toldD ds)
  hX : Lst s.heap TX txs
  hR : Rd (fun _ => True) s.heap (.ref RU) (runsD ds)
section
variable {prog : Program} {w : World} {mg mb mC : Str → Option Value} {A : Around} {E : Value → Shared → Prop} {N : Nat} {env : Env} {fs : List Env} {s₀ s t : Shared} {m m' : Str → Option Value} {p d D TD TX RU : Addr} {vs txs : List Value} {head : Int} {th : Tok} {ds : List (Str × Str)} {I : Addr}
theorem LK.step {W : Addr → Prop} (K : LK s₀ s m p d D TD TX RU vs txs head th ds) (X : Ext N W s t) (hp : ¬ W p) (hd : ¬ W d) (hW : ∀ a o, W a → s.heap.get? a = some o → OffSq o)
    (hm : ∀ x ∈ (["pile", "deeds", "told", "head", "texts", "runs"] : List Str), m' x = m x) : LK s₀ t m' p d D TD TX RU vs txs head th ds :=
  ⟨K.F.ext X hp hd hW, (hm _ (by decide)).trans K.n1, (hm _ (by decide)).trans K.n2, (hm _ (by decide)).trans K.n3, (hm _ (by decide)).trans K.n4, (hm _ (by decide)).trans K.n5, (hm _ (by decide)).trans K.n6, K.hD.extK X hW, K.hT.extK X hW, K.hX.ext X (fun q => let ⟨_, e⟩ := K.hX; (hW _ _ q e).1 _ _ rfl), K.hR.extK X hW⟩
theorem LK.step0 (K : LK s₀ s m p d D TD TX RU vs txs head th ds) (X : Ext N (fun _ => False) s t) : LK s₀ t m p d D TD TX RU vs txs head th ds := K.step X id id (fun _ _ z => z.elim) fun _ _ => rfl
theorem LK.toks (K : LK s₀ s m p d D TD TX RU vs txs head th ds) (tk : Nat) : LK s₀ { s with toks := tk } m p d D TD TX RU vs txs head th ds := K.step0 (N := 0) (Ext.refl.toks tk)
theorem LK.kpIt (K : LK s₀ s m p d D TD TX RU vs txs head th ds) (k : Kp (· ≠ I) s.heap t.heap) (hi : AtIt s.heap I) : LK s₀ t m p d D TD TX RU vs txs head th ds :=
  ⟨pf_kpIt K.F k hi, K.n1, K.n2, K.n3, K.n4, K.n5, K.n6, rd_kpIt K.hD k hi, rd_kpIt K.hT k hi, K.hX.kp k (lst_ne_it K.hX hi), rd_kpIt K.hR k hi⟩
theorem LK.st (K : LK s₀ s m p d D TD TX RU vs txs head th ds) (L : LX prog w mg mb mC N env fs s₀ s m) (hdl : d ≠ env.locals) {x : Str} {v : Value} (hx : x ∉ (["pile", "deeds", "told", "head", "texts", "runs"] : List Str)) (X : Ext N (· = env.locals) s t) : LK s₀ t (upd m x v) p d D TD TX RU vs txs head th ds := by
  refine K.step X (fun q => ?_) hdl L.offL fun y hy => upd_ne fun q => hx (q ▸ hy)
  obtain ⟨_, ⟨o, es, ep, e, hd, _⟩, _⟩ := L.S.ns
  obtain ⟨_, ⟨_, _, e'⟩, _⟩ := K.F.P
  rw [q, e] at e'; cases e'; cases hd
noncomputable def lawJ : List Stmt := forOf (bodyOf top[13]?)[6]?
noncomputable def lawI : List Stmt := forOf lawJ[0]?
theorem C_told {n : Str} {j : Nat} {tj : Tok} {p1 p2 p3 : Pos} {Q : Value → Shared → Prop} (L : LX prog w mg mb mC N env fs s₀ s m) (K : LK s₀ s m p d D TD TX RU vs txs head th ds) (g : Good ds) (hk : env.kindOf "told" = some .local) (hn : env.kindOf n = some .local) (hv : m n = some (.int j tj)) (hj : j ≤ ds.length)
    (h : ∀ u, Rd (fun _ => True) s.heap u (.list (cvI ds j)) → Q u s) (hd : (n == ("__debug__" : Str)) = false := by decide) : wpC (model prog w) A (eval (.Subscript (.Name "told" p1) (.Name n p2) p3) env) Q E s := by
  obtain ⟨_, us, u, e1, hl, hu, ru⟩ := told_get K.hT hj
  cases e1
  have := g.n
  exact C_Subscript (C_any (L.S.ld hk K.n3 (C_any (L.S.ld hn hv (C_any (sub_list hl (by omega) (by omega) (x := u) (by simpa using hu) (h u ru))) hd))))
theorem C_runs {n : Str} {j : Nat} {tj : Tok} {p1 p2 p3 : Pos} {Q : Value → Shared → Prop} (L : LX prog w mg mb mC N env fs s₀ s m) (K : LK s₀ s m p d D TD TX RU vs txs head th ds) (g : Good ds) (hk : env.kindOf "runs" = some .local) (hn : env.kindOf n = some .local) (hv : m n = some (.int j tj)) (hj : j ≤ ds.length)
    (h : ∀ u, Rd (fun _ => True) s.heap u (strsD (runsI ds j)) → Q u s) (hd : (n == ("__debug__" : Str)) = false := by decide) : wpC (model prog w) A (eval (.Subscript (.Name "runs" p1) (.Name n p2) p3) env) Q E s := by
  obtain ⟨_, us, u, e1, hl, hu, ru⟩ := list_get K.hR (i := j) (x := strsD (runsI ds j)) (by unfold textsOf; rw [List.map_map, List.getElem?_map, List.getElem?_range (by omega)]; rfl)
  cases e1
  have := g.n
  exact C_Subscript (C_any (L.S.ld hk K.n6 (C_any (L.S.ld hn hv (C_any (sub_list hl (by omega) (by omega) (x := u) (by simpa using hu) (h u ru))) hd))))
theorem sign_test {i j : Nat} {ti tj tg : Tok} (L : LX prog w mg mb mC N env fs s₀ s m) (a : AR A fs) (hsc : env.scope = scopeOf top[13]?) (g : Good ds) (P : Pairs2 ds) (K : LK s₀ s m p d D TD TX RU vs txs head th ds) (hi : m "i" = some (.int i ti)) (hj : m "j" = some (.int j tj)) (hij : i < j) (hjn : j ≤ ds.length)
    (hg : m "sign" = some (.int (than (runsI ds i) (runsI ds j)) tg)) : wpC (model prog w) A (execs (lawI.drop 1) env) (fun f t => f = .next ∧ Ext N (fun _ => False) s t) (fun _ _ => False) s := by
  have szi := P.sz i
  have szj := P.sz j
  refine C_cons ?_
  refine C_If (C_isTrue_Compare1 (C_any (L.S.ld (kd hsc rfl) hg ?_)))
  refine C_Call_Name (C_any (L.S.g (kd hsc rfl) (L.gl ▸ L.T.law.g) L.T.law.than ?_))
  refine C_callFn (C_evalArgs (C_items_cons (C_runs L K g (kd hsc rfl) (kd hsc rfl) hi (by omega) fun u ru => C_items_cons (C_runs L K g (kd hsc rfl) (kd hsc rfl) hj hjn fun u' ru' => C_items_nil ⟨L.T.law.fthan.func, ?_⟩))))
  refine than_call L.T.law L.hN L.size (by have := a.dp; omega) a.hh L.S.frs ru ru' (P.len i j hij hjn) (by omega) (by omega) (P.ne i) (fun x hx => by have := szj.2 x hx; omega) fun t tk X => ?_
  refine C_any (PyProof.Rows.ne_int (truth_any ?_))
  rw [bne_self_eq_false, if_neg Bool.false_ne_true]
  exact C_nil (C_nil ⟨rfl, X⟩)
theorem pair_turn {i j : Nat} {ti tj : Tok} (L : LX prog w mg mb mC N env fs s₀ s m) (a : AR A fs) (hsc : env.scope = scopeOf top[13]?) (g : Good ds) (P : Pairs2 ds) (K : LK s₀ s m p d D TD TX RU vs txs head th ds) (hdl : d ≠ env.locals) (hi : m "i" = some (.int i ti)) (hj : m "j" = some (.int j tj)) (hij : i < j) (hjn : j ≤ ds.length) :
    wpC (model prog w) A (execs lawI env) (fun f t => f = .next ∧ ∃ v, LX prog w mg mb mC N env fs s₀ t (upd m "sign" v) ∧ LK s₀ t (upd m "sign" v) p d D TD TX RU vs txs head th ds ∧ Ext N (· = env.locals) s t) (fun _ _ => False) s := by
  obtain ⟨r1, r2, c1, c2, c3⟩ := P.cmp i j hij hjn
  have un := a.un
  have lyi := P.lay i
  have lyj := P.lay j
  refine C_cons ?_
  refine C_AssignName ?_
  have sgn : ∀ tk, wpC (model prog w) A (storeName env "sign" (.int (if r1 then (1 : Int) else if r2 then -1 else 0) tk)) (fun _ s' => wpC (model prog w) A (execs (lawI.drop 1) env) (fun f t => f = .next ∧ ∃ v, LX prog w mg mb mC N env fs s₀ t (upd m "sign" v) ∧ LK s₀ t (upd m "sign" v) p d D TD TX RU vs txs head th ds ∧ Ext N (· = env.locals) s t) (fun _ _ => False) s') (fun _ _ => False) { s with toks := tk + 1 } := fun tk => by
    refine C_any ((L.toks _).st (kd hsc rfl) fun t₁ L₁ X₁ => ?_)
    have X₁' : Ext N (· = env.locals) s t₁ := (Ext.refl.toks _).trans X₁
    have K₁ := (K.toks (tk + 1)).st (L.toks _) hdl (v := .int (if r1 then (1 : Int) else if r2 then -1 else 0) tk) (x := "sign") (by decide) X₁
    refine C_mono (sign_test L₁ a hsc g P K₁ ((upd_ne (by decide)).trans hi) ((upd_ne (by decide)).trans hj) hij hjn (by rw [upd_same, c3])) (fun f t₂ h₂ => ?_) fun _ _ z => z
    obtain ⟨rfl, X₂⟩ := h₂
    exact ⟨rfl, _, L₁.step0 X₂, K₁.step0 X₂, X₁'.trans (X₂.mono fun _ z => z.elim)⟩
  refine C_IfExp (C_isTrue_Compare1 (C_told L K g (kd hsc rfl) (kd hsc rfl) hj hjn fun u ru => C_told L K g (kd hsc rfl) (kd hsc rfl) hi (by omega) fun u' ru' => ?_))
  refine C_any (gt_lists ru ru' lyj.1 lyi.1 lyj.2 lyi.2 (by omega) c1 (truth_any ?_))
  cases r1 with
  | true =>
    rw [if_pos rfl]
    exact C_any (wpAny_Constant_int (sgn _))
  | false =>
    rw [if_neg Bool.false_ne_true]
    refine C_IfExp (C_isTrue_Compare1 (C_told L K g (kd hsc rfl) (kd hsc rfl) hj hjn fun u ru => C_told L K g (kd hsc rfl) (kd hsc rfl) hi (by omega) fun u' ru' => ?_))
    refine C_any (lt_lists ru ru' lyj.1 lyi.1 lyj.2 lyi.2 (by omega) c2 (truth_any ?_))
    cases r2 with
    | true =>
      rw [if_pos rfl]
      exact C_UnaryOp (C_any (wpAny_Constant_int (C_any (PyProof.Rows.neg_int (sgn _)))))
    | false =>
      rw [if_neg Bool.false_ne_true]
      exact C_any (wpAny_Constant_int (sgn _))
theorem law_i {j : Nat} {tj : Tok} (L : LX prog w mg mb mC N env fs s₀ s m) (a : AR A fs) (hsc : env.scope = scopeOf top[13]?) (g : Good ds) (P : Pairs2 ds) (K : LK s₀ s m p d D TD TX RU vs txs head th ds) (hdl : d ≠ env.locals) (hj : m "j" = some (.int j tj)) (hjn : j ≤ ds.length) :
    wpC (model prog w) A (execs lawJ env) (fun f t => f = .next ∧ ∃ m', LX prog w mg mb mC N env fs s₀ t m' ∧ LK s₀ t m' p d D TD TX RU vs txs head th ds ∧ Kp (fun b => b ≠ env.locals ∧ ∃ o, s.heap.get? b = some o) s.heap t.heap) (fun _ _ => False) s := by
  have hn := g.n
  refine C_cons ?_
  refine C_For ?_
  refine C_Call_Name (C_any (L.S.b (kd hsc rfl) (L.gl ▸ L.T.law.g) L.T.law.nrange (L.bi ▸ L.T.law.b) L.T.law.brange ?_))
  refine C_callBuiltin rfl rfl (C_evalArgs (C_items_cons (C_any (L.S.ld (kd hsc rfl) hj (C_items_nil ?_)))))
  refine C_any2 (src_up (N := N) a.hh (by omega) fun t₁ I St hI hst X₁ hIf => ?_)
  have L₁ := L.step0 X₁
  refine law_for (fun i t m' => LK s₀ t m' p d D TD TX RU vs txs head th ds ∧ m' "j" = some (.int j tj) ∧ Kp (fun b => b ≠ env.locals ∧ ∃ o, s.heap.get? b = some o) s.heap t.heap) L₁ hI hst (L.X.fresh' hIf) ⟨K.step0 X₁, hj, (Kp.of_ext X₁).mono fun _ _ z => z⟩ (fun i t t' m' hJ k hit => ?_) (fun i t m' v hi hv hJ L' hit => ?_) fun t m' hJ L' => ?_
  · obtain ⟨K', hj', k'⟩ := hJ
    refine ⟨K'.kpIt k hit, hj', k'.trans (k.mono fun b q z => ?_)⟩
    obtain ⟨_, o, e⟩ := q
    rw [z, hIf] at e; cases e
  · obtain ⟨K', hj', k'⟩ := hJ
    obtain ⟨u, rfl⟩ := hv
    refine C_any (assign_Name (L'.st (kd hsc rfl) fun t₂ L₂ X₂ => ?_))
    refine C_mono (pair_turn L₂ a hsc g P (K'.st L' hdl (by decide) X₂) hdl upd_same ((upd_ne (by decide)).trans hj') hi hjn) (fun f t₃ h₃ => ?_) fun _ _ z => z
    obtain ⟨rfl, v, L₃, K₃, X₃⟩ := h₃
    refine ⟨rfl, _, L₃, ⟨K₃, (upd_ne (by decide)).trans ((upd_ne (by decide)).trans hj'), k'.trans ((Kp.of_ext (X₂.trans X₃)).mono fun b q => q.1)⟩, ?_⟩
    refine (Kp.of_ext (X₂.trans X₃)).mono fun b hb q => ?_
    rw [List.mem_singleton.mp hb] at q
    exact it_loc L' hit q
  · exact C_nil ⟨rfl, m', L', hJ.1, hJ.2.2⟩
theorem law_j {c1 c2 c3 : Addr} {Q : Flow → Shared → Prop} (L : LX prog w mg mb mC N env fs s₀ s m) (a : AR A fs) (hsc : env.scope = scopeOf top[13]?) (hce : env.cells.lookup (Str.ofString "deeds") = some c1) (hce2 : env.cells.lookup (Str.ofString "texts") = some c2) (hce3 : env.cells.lookup (Str.ofString "rising") = some c3) (g : Good ds) (P : Pairs2 ds) (K : LK s₀ s m p d D TD TX RU vs txs head th ds) (hdl : d ≠ env.locals) (hk : 0 ≤ head ∧ head ≤ 100000)
    (hxs : Strs txs (textsOf ds)) (hr : Rises (rsOf (ptext ds))) (hoke : ∀ e ∈ endsL, TextOk (ptext ds ++ e)) (hpz : (ptext ds).length ≤ 10000)
    (h : ∀ t, EndOk N s₀ t → Q (.ret (.bool true)) t) : wpC (model prog w) A (execs ((bodyOf top[13]?).drop 6) env) Q E s := by
  have hn := g.n
  obtain ⟨_, ts, e1, _, hTl, hrt⟩ := K.hT.list_inv
  cases e1
  have htl : ts.length = ds.length + 1 := by rw [hrt.length]; simp
  refine C_cons ?_
  refine C_For ?_
  refine C_Call_Name (C_any (L.S.b (kd hsc rfl) (L.gl ▸ L.T.law.g) L.T.law.nrange (L.bi ▸ L.T.law.b) L.T.law.brange ?_))
  refine C_callBuiltin rfl rfl (C_evalArgs (C_items_cons (C_len L.T.law L.gl L.bi L.S (kd hsc rfl) (kd hsc rfl) K.n3 hTl (by omega) fun tk tk' => C_items_nil ?_)))
  refine C_any2 (src_up (N := N) a.hh (by omega) fun t₁ I St hI hst X₁ hIf => ?_)
  have X₁' : Ext N (fun _ => False) s t₁ := (Ext.refl.toks _).trans X₁
  refine law_for (fun i t m' => LK s₀ t m' p d D TD TX RU vs txs head th ds) (L.step0 X₁') hI hst (L.X.fresh' hIf) (K.step0 X₁') (fun i t t' m' hJ k hit => hJ.kpIt k hit) (fun i t m' v hi hv hJ L' hit => ?_) fun t m' hJ L' => ?_
  · obtain ⟨u, rfl⟩ := hv
    refine C_any (assign_Name (L'.st (kd hsc rfl) fun t₂ L₂ X₂ => ?_))
    refine C_mono (law_i L₂ a hsc g P (hJ.st L' hdl (by decide) X₂) hdl upd_same (by omega)) (fun f t₃ h₃ => ?_) fun _ _ z => z
    obtain ⟨rfl, m₃, L₃, K₃, k₃⟩ := h₃
    refine ⟨rfl, m₃, L₃, K₃, ?_⟩
    have hIl := it_loc L' hit
    refine Kp.trans ((Kp.of_ext X₂).mono fun b hb q => ?_) (k₃.mono fun b hb => ?_)
    · rw [List.mem_singleton.mp hb] at q
      exact hIl q
    · rw [List.mem_singleton.mp hb]
      obtain ⟨o, us, c, e, hd, _⟩ := hit
      exact ⟨hIl, o, X₂.plain _ _ hIl e fun _ _ z => by rw [hd] at z; cases z⟩
  · have key := @law_ends prog w mg mb mC A E N env fs s₀ t m' p d vs head c1 c2 c3 D TD TX txs ds th Q L' a hsc hce hce2 hce3 g hJ.F hJ.n1 hJ.n2 hJ.n3 hJ.n4 hJ.n5 hk hdl hJ.hD hJ.hT hJ.hX hxs hr hoke hpz h
    assumption
end
end Mine
end
section
open PySem PySem.Calls PySem.W PyProof.Rows
set_option Elab.async false
set_option maxRecDepth 100000
namespace Mine
noncomputable def scopeR : Scope := { kind := .function, names := [(".0", .local), ("text", .local), ("_law_runs", .globalImplicit)], isGenerator := false, isCoroutine := false, more := [] }
section
variable {prog : Program} {w : World} {mg mb mC : Str → Option Value} {A : Around} {E : Value → Shared → Prop} {N : Nat} {env : Env} {fs : List Env} {s₀ s t : Shared} {m m' : Str → Option Value} {p d D TD TX RU : Addr} {vs txs : List Value} {head : Int} {th : Tok} {ds : List (Str × Str)} {I : Addr}
theorem runs_item {C : Addr} {tx : Tok} {t : Shared} {m' : Str → Option Value} {x : Str} {p1 p2 p3 p4 : Pos}
    (a : AR A fs) (hsc : env.scope = scopeOf top[13]?) (hgl : env.globals = mainGlobals) (hN : topN ≤ N) (S : Sd N (compEnvC scopeR [] C env) fs t m') (T' : Tops prog w mg mb mC t.heap) (hz : x.cps.size ≤ 10000) :
    ItemOk prog w A N fs (.Call (.Name "_law_runs" p1) [.Name "text" p2] [] p3) (.Name "text" p4) [] (fun _ => False) C (compEnvC scopeR [] C env) t (.str x tx) (some (strsD (runsOf x))) := by
  have kx : (compEnvC scopeR [] C env).kindOf "text" = some .local := lookup_relabel_local (names := scopeR.names) rfl
  have kc : (compEnvC scopeR [] C env).kindOf "_law_runs" = some .globalImplicit := by
    show (relabel scopeR env).names.lookup _ = _
    unfold relabel Env.kindOf
    rw [hsc]
    rfl
  unfold ItemOk
  refine C_any (assign_Name (S.st kx fun t₁ S₁ X₁ _ => C_tests_nil ?_))
  rw [if_pos rfl]
  have T₁ : Tops prog w mg mb mC t₁.heap := T'.keep (Keep.of X₁ hN fun b q => .inl (by rw [q]; exact Nat.le_trans hN S.lo))
  have hg₁ : t₁.heap.Ns (compEnvC scopeR [] C env).globals mg := by
    show t₁.heap.Ns env.globals mg
    rw [hgl]; exact T₁.law.g
  refine C_Call_Name (C_any (S₁.g kc hg₁ T₁.law.runs ?_))
  refine C_callFn (C_evalArgs (C_items_cons (C_any (S₁.ld kx upd_same (C_items_nil ⟨T₁.law.fruns.func, ?_⟩)))))
  refine runs_call T₁.law S₁.size (by have := a.dp; omega) a.hh S₁.frs hz fun t₂ b X₂ hb => ?_
  exact ⟨_, _, rfl, hb.mono fun b q => .inl (X₁.fresh' q), S₁.ext0 X₂, X₁.trans (X₂.mono fun _ z => z.elim)⟩
theorem law_runs {c1 c2 c3 : Addr} {Q : Flow → Shared → Prop} (L : LX prog w mg mb mC N env fs s₀ s m) (a : AR A fs) (hsc : env.scope = scopeOf top[13]?) (hce : env.cells.lookup (Str.ofString "deeds") = some c1) (hce2 : env.cells.lookup (Str.ofString "texts") = some c2) (hce3 : env.cells.lookup (Str.ofString "rising") = some c3) (g : Good ds) (P : Pairs2 ds) (F : PF s₀ s p d vs head ds)
    (hm1 : m "pile" = some (.ref p)) (hm2 : m "deeds" = some (.ref D)) (hm3 : m "told" = some (.ref TD)) (hm4 : m "head" = some (.int head th)) (hm5 : m "texts" = some (.ref TX)) (hk : 0 ≤ head ∧ head ≤ 100000) (hdl : d ≠ env.locals) (hD : Rd (fun _ => True) s.heap (.ref D) (pairsD ds)) (hT : Rd (fun _ => True) s.heap (.ref TD) (toldD ds))
    (hX : Lst s.heap TX txs) (hxs : Strs txs (textsOf ds)) (hr : Rises (rsOf (ptext ds))) (hoke : ∀ e ∈ endsL, TextOk (ptext ds ++ e)) (hpz : (ptext ds).length ≤ 10000)
    (h : ∀ t, EndOk N s₀ t → Q (.ret (.bool true)) t) : wpC (model prog w) A (execs ((bodyOf top[13]?).drop 5) env) Q E s := by
  have hn := g.n
  have hxl := hxs.length
  have htl : (textsOf ds).length = ds.length + 1 := by unfold textsOf; simp
  refine C_cons ?_
  refine C_Assign_ListComp [] ?hsw (kd hsc rfl) L.S ?hcl (by decide) rfl (by decide) (fun x c' hc => by cases hc) ?_
  case hsw => unfold swapsWith; simp only [Env.blockKind, Env.kindOf, hsc]; rfl
  case hcl => exact closureFor_none (by decide)
  refine C_any (L.S.ldc (kd hsc rfl) hce2 hm5 (C_any (wpAny_pyIter_list hX.isList ?_)))
  refine ⟨s.heap.objs.size, _, _, _, _, fun _ => False, fun i => ((textsOf ds)[i]?).map fun x => strsD (runsOf x), rfl, Src.list a.hh _ TX (Nat.ne_of_lt hX.lt) txs.toArray, ⟨⟨_, Heap.get?_push_size _ rfl, rfl, rfl⟩, (hX.push _).isList⟩, Heap.get?_none_of_le (Nat.le_refl _), ?_, Ext.refl.push _ (tk := s.toks), fun _ z => z.elim, ?_, ?_⟩
  · simp only [List.size_toArray]; omega
  · intro C t i v m' hi hv X hC S' hcm
    have hv' : txs[i]? = some v := by simpa using hv
    obtain ⟨x, te, he, rfl⟩ := hxs.getv hv'
    have hd : ((textsOf ds)[i]?).map (fun x => strsD (runsOf x)) = some (strsD (runsOf x)) := by rw [he]; rfl
    have hxz : x.cps.size ≤ 10000 := by
      have hm := List.mem_of_getElem? he
      unfold textsOf at hm
      obtain ⟨j, _, rfl⟩ := List.mem_map.mp hm
      have := (g.ok j).1
      omega
    exact (congrArg (ItemOk prog w A N fs _ _ _ _ C _ t _) hd).mpr (runs_item a hsc L.gl L.hN S' (L.step0 X).T hxz)
  · intro R t X hRf hR S'
    have hlen : txs.toArray.size = (textsOf ds).length := by simp only [List.size_toArray]; exact hxl
    rw [hlen, doneOf_map (textsOf ds) fun x => strsD (runsOf x)] at hR
    have L' := L.step X (fun b q => L.loc q) S'
    have hpl : p ≠ env.locals := fun q => by
      obtain ⟨_, ⟨o, es, ep, e, hd, _⟩, _⟩ := L.S.ns
      obtain ⟨_, ⟨_, _, e'⟩, _⟩ := F.P
      rw [q, e] at e'; cases e'; cases hd
    have K' : LK s₀ t (upd m "runs" (.ref R)) p d D TD TX R vs txs head th ds :=
      ⟨F.ext X hpl hdl L.offL, (upd_ne (by decide)).trans hm1, (upd_ne (by decide)).trans hm2, (upd_ne (by decide)).trans hm3, (upd_ne (by decide)).trans hm4, (upd_ne (by decide)).trans hm5, upd_same, hD.extK X L.offL, hT.extK X L.offL, hX.ext X (lst_off hX fun o e => L.offL _ o rfl e), hR.mono fun _ _ => trivial⟩
    have key := @law_j prog w mg mb mC A E N env fs s₀ t _ p d D TD TX R vs txs head th ds c1 c2 c3 Q L' a hsc hce hce2 hce3 g P K' hdl hk hxs hr hoke hpz h
    assumption
end
end Mine
end
section
open PySem PySem.Calls PySem.W PyProof.Rows
set_option Elab.async false
set_option maxRecDepth 100000
namespace Mine
noncomputable def scopeP : Scope := { kind := .function, names := [(".0", .local), ("gap", .local), ("piece", .local)], isGenerator := false, isCoroutine := false, more := [] }
theorem cat_two (a b : Str) : cat [a, b] = a ++ b := by
  show (⟨_⟩ : Str) = ⟨a.cps ++ b.cps⟩
  simp [cat]
theorem doneOf_some (f : Nat → PyData) (n : Nat) : doneOf (fun i => some (f i)) n = (List.range n).map f := by
  unfold doneOf
  rw [← List.filterMap_eq_map]
  rfl
section
variable {prog : Program} {w : World} {mg mb mC : Str → Option Value} {A : Around} {E : Value → Shared → Prop} {N : Nat} {env : Env} {fs : List Env} {s₀ s t : Shared} {m m' : Str → Option Value} {p d D TD TX RU : Addr} {vs txs : List Value} {head : Int} {th : Tok} {ds : List (Str × Str)} {I : Addr}
theorem glue_item {C T : Addr} {tx ty : Tok} {t : Shared} {m' : Str → Option Value} {x y : Str} {p1 p2 p3 p4 p5 p6 : Pos} {k : Nat}
    (hh : A.handled = none) (S : Sd N (compEnvC scopeP [] C env) fs t m') (hT : Tup t.heap T [.str x tx, .str y ty]) (hz : x.length + y.length ≤ 100000) :
    ItemOk prog w A N fs (.BinOp (.Name "gap" p1) .Add (.Name "piece" p2) p3) (.Tuple [.Name "gap" p4, .Name "piece" p5] k p6) [] (fun _ => False) C (compEnvC scopeP [] C env) t (.ref T) (some (.str (x ++ y))) := by
  have kg : (compEnvC scopeP [] C env).kindOf "gap" = some .local := lookup_relabel_local (names := scopeP.names) rfl
  have kp : (compEnvC scopeP [] C env).kindOf "piece" = some .local := lookup_relabel_local (names := scopeP.names) rfl
  unfold ItemOk
  refine C_any (assign2 hh hT fun h₁ kp₁ => ?_)
  have X₁ : Ext N (fun _ => False) t { t with heap := h₁ } := Ext.refl.keeps (tk := t.toks) kp₁
  refine (S.ext0 X₁).st kg fun t₂ S₂ X₂ _ => S₂.st kp fun t₃ S₃ X₃ _ => C_tests_nil ?_
  rw [if_pos rfl]
  refine C_BinOp (C_any (S₃.ld kg ((upd_ne (by decide)).trans upd_same) (C_any (S₃.ld kp upd_same (C_any (PyProof.Rows.add_str (fun tk₂ tk₂' => ?_) (by rw [sizeLine_eq]; omega)))))))
  exact ⟨_, _, rfl, .str _ _, S₃.toks _, ((X₁.mono fun _ z => z.elim).trans (X₂.trans X₃)).toks _⟩
theorem rd_strsAre {F : Addr → Prop} {h : Heap} : ∀ {us : List Value} {l : List Str}, RdAll F h us (l.map .str) → PyProof.Rows.StrsAre us l
  | [], l, r => by cases l with
    | nil => exact .nil
    | cons => cases r
  | u :: us, l, r => by cases l with
    | nil => cases r
    | cons x l => cases r with | cons a b => obtain ⟨t, rfl⟩ := a.str_inv; exact .cons _ _ (rd_strsAre b)
theorem join_item {C c D : Addr} {j : Nat} {tj : Tok} {t : Shared} {m' : Str → Option Value} {p1 p2 p3 p4 p5 p6 p7 p8 p9 q1 q2 q3 q4 q5 q6 : Pos} {k k1 : Nat}
    (a : AR A fs) (hsc : env.scope = scopeOf top[13]?) (S : Sd N (compEnvC (scope1 "k" "deeds") [("deeds", c)] C env) fs t m') (hp : m' "deeds" = some (.ref D)) (hD : Rd (fun _ => True) t.heap (.ref D) (pairsD ds)) (g : Good ds) (hj : j ≤ ds.length) (hline : (p2.endLine == q6.line) = true) :
    ItemOk prog w A N fs (.Call (.Attribute (.Constant (.str "") k1 p1) "join" p2) [.ListComp (.BinOp (.Name "gap" p3) .Add (.Name "piece" p4) p5) [⟨.Tuple [.Name "gap" p6, .Name "piece" p7] k p8, .Subscript (.Name "deeds" p9) (.Slice none (some (.Name "k" q1)) none q2) q3, [], 0⟩] scopeP q4] [] q6) (.Name "k" q5) [] (fun _ => False) C (compEnvC (scope1 "k" "deeds") [("deeds", c)] C env) t (.int j tj) (some (.str (ptext (ds.take j)))) := by
  have kk : (compEnvC (scope1 "k" "deeds") [("deeds", c)] C env).kindOf "k" = some .local := lookup_relabel_local (names := (scope1 "k" "deeds").names) rfl
  have kd' : (compEnvC (scope1 "k" "deeds") [("deeds", c)] C env).kindOf "deeds" = some .cell := by
    show (relabel (scope1 "k" "deeds") env).names.lookup _ = _
    unfold relabel Env.kindOf
    rw [hsc]
    rfl
  have hn := g.n
  unfold ItemOk
  refine C_any (assign_Name (S.st kk fun t₁ S₁ X₁ _ => C_tests_nil ?_))
  rw [if_pos rfl]
  have hk₁ : upd m' "k" (.int j tj) "k" = some (.int j tj) := upd_same
  have hp₁ : upd m' "k" (.int j tj) "deeds" = some (.ref D) := (upd_ne (by decide)).trans hp
  have hD₁ : Rd (fun _ => True) t₁.heap (.ref D) (pairsD ds) := hD.extK X₁ fun b o q e => offSq_data fun vs n z => by
    obtain ⟨_, ⟨o', es, ep, e', hd, _⟩, _⟩ := S.ns
    have e'' : t.heap.get? C = some o' := e'
    rw [q, show (compEnvC (scope1 "k" "deeds") [("deeds", c)] C env).locals = C from rfl, e''] at e; cases e
    rw [hd] at z; cases z
  obtain ⟨_, us, e1, _, hl, hru⟩ := hD₁.list_inv
  cases e1
  have hul : us.length = ds.length := by rw [hru.length]; simp
  refine C_Call_method PySem.F.plainAttrs_str PySem.F.slot_str_join PySem.F.type_str_join (C_any (Constant_str ⟨typeIs_str _ _ _, (fun a q => by cases q), ?_⟩)) (hline := hline)
  refine C_callBuiltin rfl rfl (C_evalArgs (C_items_cons ?_))
  have S₂ := S₁.toks (t₁.toks + 1)
  refine C_ListComp [] S₂ (closureFor_none (by decide)) (by decide) rfl (by decide) (fun x c' hc => by cases hc) ?_
  refine C_cut (N := N) (C_any (S₂.ldc kd' rfl hp₁ (C_opt_none (C_opt_some (C_any (S₂.ld kk hk₁ ⟨D, us, none, some (j : Int), rfl, hl, .none, .int _ _, by omega, fun t₃ L X₃ hL hLf => ?_⟩))))))
  rw [cut_hi] at hL
  refine C_any (wpAny_pyIter_list hL.isList ?_)
  have X₃' : Ext N (fun _ => False) t₁ t₃ := (Ext.refl.toks _).trans X₃
  have hlen : (us.take j).toArray.size = (ds.take j).length := by simp [hul]
  refine ⟨t₃.heap.objs.size, _, _, _, _, fun _ => False, fun i => ((ds.take j)[i]?).map fun q => .str (q.1 ++ q.2), rfl, Src.list a.hh _ L (Nat.ne_of_lt hL.lt) (us.take j).toArray, ⟨⟨_, Heap.get?_push_size _ rfl, rfl, rfl⟩, (hL.push _).isList⟩, X₃.fresh (Nat.le_refl _), ?_, X₃.push _ (tk := t₃.toks), fun _ z => z.elim, ?_, ?_⟩
  · rw [hlen]; simp; omega
  · intro C₂ t₄ i v m₂ hi hv X hC S' hcm
    have hi' : i < (ds.take j).length := by rw [← hlen]; exact hi
    have hq : (ds.take j)[i]? = some ((ds.take j)[i]) := List.getElem?_eq_getElem hi'
    have hv' : (us.take j)[i]? = some v := by simpa using hv
    have hr4 := (hru.ext ((Ext.refl.toks _).trans X) (fun _ _ z => z)).take j
    rw [← List.map_take] at hr4
    obtain ⟨v', e1, rv⟩ := hr4.get (i := i) (d := pairD ((ds.take j)[i])) (by rw [List.getElem?_map, hq]; rfl)
    rw [hv'] at e1; cases e1
    obtain ⟨T, ws, rfl, _, hT, hws⟩ := rv.tuple_inv
    cases hws with | cons a1 b1 => cases b1 with | cons a2 b2 => cases b2 with | nil =>
    obtain ⟨t1, rfl⟩ := a1.str_inv
    obtain ⟨t2, rfl⟩ := a2.str_inv
    have hd : ((ds.take j)[i]?).map (fun q => PyData.str (q.1 ++ q.2)) = some (.str (((ds.take j)[i]).1 ++ ((ds.take j)[i]).2)) := by rw [hq]; rfl
    have hsz : ((ds.take j)[i]).1.length + ((ds.take j)[i]).2.length ≤ 100000 := Nat.le_trans (le_sum_of (f := fun q : Str × Str => q.1.length + q.2.length) hq) (g.plen j)
    exact (congrArg (ItemOk prog w A N fs _ _ _ _ C₂ _ t₄ _) hd).mpr (glue_item a.hh S' hT hsz)
  · intro R t₄ X hRf hR S'
    obtain ⟨_, ws, e, _, hL₂, hws⟩ := hR.list_inv
    cases e
    rw [hlen, doneOf_map (ds.take j) fun q => PyData.str (q.1 ++ q.2)] at hws
    have hws' : RdAll (fun a => t₁.heap.get? a = none ∨ False) t₄.heap ws (((ds.take j).map fun q => q.1 ++ q.2).map .str) := by rw [List.map_map]; exact hws
    have hsum : (((ds.take j).map fun q => q.1 ++ q.2).map (·.length)).sum = plen (ds.take j) := by
      rw [List.map_map]
      unfold plen
      refine congrArg List.sum (List.map_congr_left fun q _ => ?_)
      show (q.1 ++ q.2).length = _
      rw [Str.length_append]
    refine C_items_nil (C_any (join_list hL₂.isList (ys := (ds.take j).map fun q => q.1 ++ q.2) (by simpa using rd_strsAre hws') ?_ fun tk₅ tk₅' => ?_))
    · rw [hsum]
      have := g.plen j
      show _ + _ * 0 ≤ _
      omega
    · rw [join_cat]
      have hpt : cat ((ds.take j).map fun q => q.1 ++ q.2) = ptext (ds.take j) := by
        unfold ptext
        congr 1
        refine List.map_congr_left fun q _ => (cat_two _ _).symm
      rw [hpt]
      have X' : Ext N (fun _ => False) t₁ t₄ := (Ext.refl.toks _).trans X
      exact ⟨_, _, rfl, .str _ _, (S₁.ext0 X').toks _, (X₁.trans (X'.mono fun _ z => z.elim)).toks _⟩
end
end Mine
end
section
open PySem PySem.Calls PySem.W PyProof.Rows
set_option Elab.async false
set_option maxRecDepth 100000
namespace Mine
section
variable {prog : Program} {w : World} {mg mb mC : Str → Option Value} {A : Around} {E : Value → Shared → Prop} {N : Nat} {env : Env} {fs : List Env} {s₀ s t : Shared} {m m' : Str → Option Value} {p d D TD TX RU : Addr} {vs txs : List Value} {head : Int} {th : Tok} {ds : List (Str × Str)} {I : Addr}
theorem law_texts {c1 c2 c3 : Addr} {Q : Flow → Shared → Prop} (L : LX prog w mg mb mC N env fs s₀ s m) (a : AR A fs) (hsc : env.scope = scopeOf top[13]?) (hce : env.cells.lookup (Str.ofString "deeds") = some c1) (hce2 : env.cells.lookup (Str.ofString "texts") = some c2) (hce3 : env.cells.lookup (Str.ofString "rising") = some c3) (g : Good ds) (P : Pairs2 ds) (F : PF s₀ s p d vs head ds)
    (hm1 : m "pile" = some (.ref p)) (hm2 : m "deeds" = some (.ref D)) (hm3 : m "told" = some (.ref TD)) (hm4 : m "head" = some (.int head th)) (hm5 : m "texts" = some (.ref TX)) (hk : 0 ≤ head ∧ head ≤ 100000) (hdl : d ≠ env.locals) (hD : Rd (fun _ => True) s.heap (.ref D) (pairsD ds)) (hT : Rd (fun _ => True) s.heap (.ref TD) (toldD ds))
    (hX : Lst s.heap TX txs) (hxs : Strs txs (textsOf ds)) (hsx : SeqAt.shaped (strsD (textsOf ds)) = true) (hr : Rises (rsOf (ptext ds))) (hoke : ∀ e ∈ endsL, TextOk (ptext ds ++ e)) (hpz : (ptext ds).length ≤ 10000)
    (h : ∀ t, EndOk N s₀ t → Q (.ret (.bool true)) t) : wpC (model prog w) A (execs ((bodyOf top[13]?).drop 4) env) Q E s := by
  have hn := g.n
  obtain ⟨_, us, e1, _, hl, hru⟩ := hD.list_inv
  cases e1
  have hul : us.length = ds.length := by rw [hru.length]; simp
  refine C_cons ?_
  refine C_If (C_isTrue_Compare1 (C_any (L.S.ldc (kd hsc rfl) hce2 hm5 ?_)))
  refine C_ListComp [("deeds", c1)] L.S (closure_one rfl hce) (by decide) rfl (by decide) (fun x c' hc => ?_) ?_
  · obtain ⟨rfl, rfl⟩ := cl_one hc
    refine ⟨hce, ?_⟩
    unfold relabel Env.kindOf
    rw [hsc]
    decide
  refine C_Call_Name (C_any (L.S.b (kd hsc rfl) (L.gl ▸ L.T.law.g) L.T.law.nrange (L.bi ▸ L.T.law.b) L.T.law.brange ?_))
  refine C_callBuiltin rfl rfl (C_evalArgs (C_items_cons (C_BinOp (C_lenc L (kd hsc rfl) (kd hsc rfl) hce hm2 hl (by omega) fun tk tk' => C_any (wpAny_Constant_int (C_any (PyProof.Rows.add_int (C_items_nil ?_))))))))
  rw [hul, show ((ds.length : Int) + 1) = ((ds.length + 1 : Nat) : Int) from by omega]
  refine C_any2 (src_up (N := N) a.hh (by omega) fun t₁ I St hI hst X₁ hIf => ?_)
  have X₁' : Ext N (fun _ => False) s t₁ := (((Ext.refl.toks _).toks _).toks _).trans X₁
  refine ⟨I, _, ds.length + 1, _, St, fun _ => False, fun i => some (.str (ptext (ds.take i))), rfl, hI, hst, hIf, by omega, X₁', fun _ z => z.elim, ?_, ?_⟩
  · intro C t i v m' hi hv X hC S' hcm
    obtain ⟨u, rfl⟩ := hv
    exact join_item a hsc S' ((hcm "deeds" c1 rfl).trans hm2) (hD.ext X (fun _ _ z => z)) g (by omega) rfl
  · intro L₂ t X hLf₂ hR₂ S'
    rw [doneOf_some] at hR₂
    have e1 : PyData.list ((List.range (ds.length + 1)).map fun i => PyData.str (ptext (ds.take i))) = strsD (textsOf ds) := by
      unfold strsD textsOf
      rw [List.map_map]
      rfl
    rw [e1] at hR₂
    have hX' : Rd (fun _ => True) t.heap (.ref TX) (strsD (textsOf ds)) := .list trivial (hX.ext X id) hxs.rd
    refine C_any (ne_same hX' hR₂ hsx (by have := a.un; omega) (truth_any ?_))
    rw [if_neg Bool.false_ne_true]
    refine C_nil ?_
    have key := @law_runs prog w mg mb mC A E N env fs s₀ t m p d D TD TX vs txs head th ds c1 c2 c3 Q (L.step0 X) a hsc hce hce2 hce3 g P (F.ext0 X) hm1 hm2 hm3 hm4 hm5 hk hdl (hD.ext X (fun _ _ z => z)) (hT.ext X (fun _ _ z => z)) (hX.ext X id) hxs hr hoke hpz h
    assumption
end
end Mine
end
section
open PySem PySem.Calls PySem.W PyProof.Rows
set_option Elab.async false
set_option maxRecDepth 100000
namespace Mine
structure LF (s₀ s : Shared) (m : Str → Option Value) (p d D TX TD : Addr) (vs txs tds : List Value) (head : Int) (th : Tok) (ds : List (Str × Str)) (i : Nat) : Prop where
  F : PF s₀ s p d vs head (ds.take i)
  n1 : m "pile" = some (.ref p)
  n2 : m "deeds" = some (.ref D)
  n3 : m "told" = some (.ref TD)
  n4 : m "head" = some (.int head th)
  n5 : m "texts" = some (.ref TX)
  hD : Rd (fun b => b ≠ TX ∧ b ≠ TD) s.heap (.ref D) (pairsD ds)
  hX : Lst s.heap TX txs
  hxs : Strs txs ((textsOf ds).take (i + 1))
  hT : Lst s.heap TD tds
  hts : RdAll (fun b => b ≠ TX ∧ b ≠ TD) s.heap tds (((List.range (ds.length + 1)).map fun i => cvD (ptext (ds.take i))).take (i + 1))
  xf : s₀.heap.get? TX = none
  tf : s₀.heap.get? TD = none
  ne : TX ≠ TD
section
variable {prog : Program} {w : World} {mg mb mC : Str → Option Value} {A : Around} {E : Value → Shared → Prop} {N : Nat} {env : Env} {fs : List Env} {s₀ s t : Shared} {m m' : Str → Option Value} {p d D TX TD : Addr} {vs txs tds : List Value} {head : Int} {th : Tok} {ds : List (Str × Str)} {I : Addr} {i : Nat}
theorem PF.extT {W : Addr → Prop} {k : Int} {prs : List (Str × Str)} (F : PF s₀ s p d vs k prs) (X : Ext N W s t) (hp : ¬ W p) (hd : ¬ W d) (hW : ∀ a us, Tup s.heap a us → ¬ W a) : PF s₀ t p d vs k prs :=
  ⟨let ⟨u, P⟩ := F.P; ⟨u, P.ext X hp hd⟩, ⟨F.R.1, fun i a b e => let ⟨T, t1, t2, h1, h2⟩ := F.R.2 i a b e; ⟨T, t1, t2, h1, h2.ext X (hW _ _ h2)⟩⟩, F.pf, F.df⟩
theorem LF.step {W : Addr → Prop} (K : LF s₀ s m p d D TX TD vs txs tds head th ds i) (X : Ext N W s t) (hp : ¬ W p) (hd : ¬ W d) (hW : ∀ a o, W a → s.heap.get? a = some o → OffSq o)
    (hm : ∀ x ∈ (["pile", "deeds", "told", "head", "texts"] : List Str), m' x = m x) : LF s₀ t m' p d D TX TD vs txs tds head th ds i :=
  ⟨K.F.ext X hp hd hW, (hm _ (by decide)).trans K.n1, (hm _ (by decide)).trans K.n2, (hm _ (by decide)).trans K.n3, (hm _ (by decide)).trans K.n4, (hm _ (by decide)).trans K.n5, K.hD.extK X hW, K.hX.ext X (fun q => let ⟨_, e⟩ := K.hX; (hW _ _ q e).1 _ _ rfl), K.hxs, K.hT.ext X (fun q => let ⟨_, e⟩ := K.hT; (hW _ _ q e).1 _ _ rfl), K.hts.extK X hW, K.xf, K.tf, K.ne⟩
theorem LF.step0 (K : LF s₀ s m p d D TX TD vs txs tds head th ds i) (X : Ext N (fun _ => False) s t) : LF s₀ t m p d D TX TD vs txs tds head th ds i := K.step X id id (fun _ _ z => z.elim) fun _ _ => rfl
theorem LF.kpIt (K : LF s₀ s m p d D TX TD vs txs tds head th ds i) (k : Kp (· ≠ I) s.heap t.heap) (hi : AtIt s.heap I) : LF s₀ t m p d D TX TD vs txs tds head th ds i :=
  ⟨pf_kpIt K.F k hi, K.n1, K.n2, K.n3, K.n4, K.n5, rd_kpIt K.hD k hi, K.hX.kp k (lst_ne_it K.hX hi), K.hxs, K.hT.kp k (lst_ne_it K.hT hi), by
    have := (Rd.notSeq_both (W := (· = I)) fun a o q e => (hi.off o (by rw [← q]; exact e)).1).2 K.hts
    exact (this.kp' k fun b q => q.2).mono fun b q => q.1, K.xf, K.tf, K.ne⟩
theorem pf_loc {k : Int} {prs : List (Str × Str)} (F : PF s₀ s p d vs k prs) (L : LX prog w mg mb mC N env fs s₀ s m) : p ≠ env.locals := fun q => by
  obtain ⟨_, ⟨o, es, ep, e, hd, _⟩, _⟩ := L.S.ns
  obtain ⟨_, ⟨_, _, e'⟩, _⟩ := F.P
  rw [q, e] at e'; cases e'; cases hd
theorem pf_lst {k : Int} {prs : List (Str × Str)} {a : Addr} {us : List Value} (F : PF s₀ s p d vs k prs) (l : Lst s.heap a us) : p ≠ a ∧ d ≠ a := by
  obtain ⟨_, ⟨_, _, e⟩, _, ⟨o', es, ep, e', hd', _⟩, _⟩ := F.P
  obtain ⟨_, el⟩ := l
  refine ⟨fun q => ?_, fun q => ?_⟩
  · rw [q, el] at e; cases e
  · rw [q, el] at e'; cases e'; cases hd'
theorem tup_ne_lst {h : Heap} {a b : Addr} {us ws : List Value} (x : Tup h a us) (y : Lst h b ws) : a ≠ b := fun q => by
  obtain ⟨_, e⟩ := x
  obtain ⟨_, e'⟩ := y
  rw [q, e'] at e
  have := congrArg Obj.cls (Option.some.inj e)
  injection this with this
  exact absurd this (by decide)
theorem LX.app {a : Addr} {us ws : List Value} {h' : Heap} (L : LX prog w mg mb mC N env fs s₀ s m) (ha : Lst s.heap a us) (hf : s₀.heap.get? a = none) (ha' : Lst h' a ws) (hs : Heap.SameBut a s.heap h') : LX prog w mg mb mC N env fs s₀ { s with heap := h' } m ∧ Ext N (· = a) s { s with heap := h' } := by
  have X : Ext N (· = a) s { s with heap := h' } := Ext.refl.same (tk := s.toks) (.inr ⟨rfl, let ⟨_, e⟩ := ha'; ⟨_, e⟩⟩) hs
  exact ⟨L.step X (fun b q => by rw [q]; exact hf) (L.S.same (tk := s.toks) hs (off_lst ha)), X⟩
end
end Mine
end
section
open PySem PySem.Calls PySem.W PyProof.Rows
set_option Elab.async false
set_option maxRecDepth 100000
namespace Mine
noncomputable def lawPush : List Stmt := forOf (bodyOf top[13]?)[3]?
section
variable {prog : Program} {w : World} {mg mb mC : Str → Option Value} {A : Around} {E : Value → Shared → Prop} {N : Nat} {env : Env} {fs : List Env} {s₀ s t : Shared} {m m' : Str → Option Value} {p d D TX TD : Addr} {vs txs tds : List Value} {head : Int} {th : Tok} {ds : List (Str × Str)} {I : Addr} {i : Nat}
noncomputable def Wt (p TX TD : Addr) (b : Addr) : Prop := b = p ∨ b = aStrTab ∨ b = TX ∨ b = TD
theorem push_turn {c2 : Addr} {x : Str × Str} {tg tq : Tok} (L : LX prog w mg mb mC N env fs s₀ s m) (a : AR A fs) (hsc : env.scope = scopeOf top[13]?) (hce2 : env.cells.lookup (Str.ofString "texts") = some c2) (g : Good ds) (hi : ds[i]? = some x) (K : LF s₀ s m p d D TX TD vs txs tds head th ds i)
    (hg : m "gap" = some (.str x.1 tg)) (hq : m "piece" = some (.str x.2 tq)) :
    wpC (model prog w) A (execs lawPush env) (fun f t => f = .next ∧ LX prog w mg mb mC N env fs s₀ t m ∧ (∃ vs' txs' tds', LF s₀ t m p d D TX TD vs' txs' tds' head th ds (i + 1)) ∧ Ext N (Wt p TX TD) s t) (fun _ _ => False) s := by
  have hn := g.n
  have hil : i < ds.length := (List.getElem?_eq_some_iff.mp hi).1
  have hvl : vs.length = i := by rw [K.F.R.1, List.length_take]; omega
  have htk : ds.take (i + 1) = ds.take i ++ [x] := by rw [List.take_add_one, hi]; rfl
  have hxl : txs.length ≤ 200 := by rw [K.hxs.length, List.length_take]; unfold textsOf; simp; omega
  have htl : tds.length ≤ 200 := by rw [K.hts.length, List.length_take]; simp; omega
  refine C_cons ?_
  refine C_Expr (C_any (C_push L a K.F (kd hsc rfl) K.n1 (kd hsc rfl) (kd hsc rfl) hg hq (by omega) fun t₁ u L₁ F₁ X₁ => ?_)) (quietEnv L.S.k)
  rw [← htk] at F₁
  have off1 : ∀ b o, b = p → s.heap.get? b = some o → OffSq o := fun b o q e => (K.F.offP o (by rw [← q]; exact e)).1
  have hX₁ : Lst t₁.heap TX txs := K.hX.ext X₁ (lst_off K.hX fun o e => off1 _ o rfl e)
  have hT₁ : Lst t₁.heap TD tds := K.hT.ext X₁ (lst_off K.hT fun o e => off1 _ o rfl e)
  have hD₁ := K.hD.extK X₁ off1
  have hs₁ := K.hts.extK X₁ off1
  have hvl₁ : (vs ++ [Value.ref u]).length ≤ 100000 := by simp; omega
  -- texts.append(str(pile))
  refine C_cons ?_
  refine C_Expr (C_Call_method PySem.F.plainAttrs_list PySem.F.slot_list_append PySem.F.type_list_append (C_any (L₁.S.ldc (kd hsc rfl) hce2 K.n5 ⟨hX₁.meth.1, hX₁.meth.2, ?_⟩))) (quietEnv L.S.k)
  refine C_callBuiltin rfl rfl (C_evalArgs (C_items_cons (C_str L₁ a F₁ (kd hsc rfl) (kd hsc rfl) K.n1 (g.plen (i + 1)) hvl₁ fun t₂ tk₂ L₂ F₂ X₂ => C_items_nil ?_)))
  have off2 : ∀ b o, b = aStrTab → t₁.heap.get? b = some o → OffSq o := fun b o q e => (tb_off L₁.tb1 o (by rw [← q]; exact e)).1
  have hX₂ : Lst t₂.heap TX txs := hX₁.ext X₂ (lst_off hX₁ fun o e => off2 _ o rfl e)
  have hT₂ : Lst t₂.heap TD tds := hT₁.ext X₂ (lst_off hT₁ fun o e => off2 _ o rfl e)
  have hD₂ := hD₁.extK X₂ off2
  have hs₂ := hs₁.extK X₂ off2
  refine C_any (append_lst hX₂ (by omega) fun h₃ hX₃ sb₃ => ?_)
  obtain ⟨L₃, X₃⟩ := L₂.app hX₂ K.xf hX₃ sb₃
  have F₃ : PF s₀ { t₂ with heap := h₃ } p d _ head (ds.take (i + 1)) := F₂.extT X₃ (pf_lst F₂ hX₂).1 (pf_lst F₂ hX₂).2 fun b us hb => tup_ne_lst hb hX₂
  have hT₃ : Lst h₃ TD tds := hT₂.ext (t := { t₂ with heap := h₃ }) X₃ (Ne.symm K.ne)
  have hD₃ := hD₂.ext X₃ fun b q => q.1
  have hs₃ := hs₂.ext X₃ fun b q => q.1
  -- told.append(_comparable_version(str(pile)))
  refine C_cons ?_
  refine C_Expr (C_Call_method PySem.F.plainAttrs_list PySem.F.slot_list_append PySem.F.type_list_append (C_any (L₃.S.ld (kd hsc rfl) K.n3 ⟨(Lst.meth (s := { t₂ with heap := h₃ }) hT₃).1, (Lst.meth (s := { t₂ with heap := h₃ }) hT₃).2, ?_⟩))) (quietEnv L.S.k)
  refine C_callBuiltin rfl rfl (C_evalArgs (C_items_cons (C_cv L₃ a (kd hsc rfl) (C_str L₃ a F₃ (kd hsc rfl) (kd hsc rfl) K.n1 (g.plen (i + 1)) hvl₁ fun t₄ tk₄ L₄ F₄ X₄ => ⟨_, _, rfl, g.ok (i + 1), L₄, fun t₅ b L₅ X₅ hb => C_items_nil ?_⟩))))
  have off4 : ∀ b o, b = aStrTab → h₃.get? b = some o → OffSq o := fun b o q e => (tb_off L₃.tb1 o (by rw [← q]; exact e)).1
  have hX₄ : Lst t₄.heap TX _ := Lst.ext (s := { t₂ with heap := h₃ }) hX₃ X₄ (lst_off hX₃ fun o e => off4 _ o rfl e)
  have hT₄ : Lst t₄.heap TD tds := Lst.ext (s := { t₂ with heap := h₃ }) hT₃ X₄ (lst_off hT₃ fun o e => off4 _ o rfl e)
  have hD₄ := hD₃.extK X₄ off4
  have hs₄ := hs₃.extK X₄ off4
  have hX₅ := hX₄.ext X₅ id
  have hT₅ := hT₄.ext X₅ id
  have hD₅ := hD₄.ext X₅ fun _ _ z => z
  have hs₅ := hs₄.ext X₅ fun _ _ z => z
  have F₅ := F₄.ext0 X₅
  have hb' : Rd (fun b => b ≠ TX ∧ b ≠ TD) t₅.heap (.ref b) (cvD (ptext (ds.take (i + 1)))) := hb.mono fun z hz => ⟨(fun q => by
    obtain ⟨_, e⟩ := hX₄
    rw [q, e] at hz; cases hz), (fun q => by
    obtain ⟨_, e⟩ := hT₄
    rw [q, e] at hz; cases hz)⟩
  refine C_any (append_lst hT₅ (by omega) fun h₆ hT₆ sb₆ => ?_)
  obtain ⟨L₆, X₆⟩ := L₅.app hT₅ K.tf hT₆ sb₆
  have F₆ : PF s₀ { t₅ with heap := h₆ } p d _ head (ds.take (i + 1)) := F₅.extT X₆ (pf_lst F₅ hT₅).1 (pf_lst F₅ hT₅).2 fun b us hb => tup_ne_lst hb hT₅
  refine C_nil ⟨rfl, L₆, ⟨_, _, _, F₆, K.n1, K.n2, K.n3, K.n4, K.n5, hD₅.ext X₆ (fun b q => q.2), hX₅.ext (t := { t₅ with heap := h₆ }) X₆ K.ne, ?_, hT₆, ?_, K.xf, K.tf, K.ne⟩, ?_⟩
  · have e : (textsOf ds).take (i + 1 + 1) = (textsOf ds).take (i + 1) ++ [ptext (ds.take (i + 1))] := by
      rw [List.take_add_one]
      congr 1
      unfold textsOf
      rw [List.getElem?_map, List.getElem?_range (by omega)]; rfl
    rw [e]
    exact K.hxs.append (.cons .nil)
  · have e : ((List.range (ds.length + 1)).map fun i => cvD (ptext (ds.take i))).take (i + 1 + 1) = ((List.range (ds.length + 1)).map fun i => cvD (ptext (ds.take i))).take (i + 1) ++ [cvD (ptext (ds.take (i + 1)))] := by
      rw [List.take_add_one]
      congr 1
      rw [List.getElem?_map, List.getElem?_range (by omega)]; rfl
    rw [e]
    exact (hs₅.ext X₆ fun b q => q.2).append (.one (hb'.ext X₆ fun b q => q.2))
  · exact (X₁.mono fun _ q => .inl q).trans ((X₂.mono fun _ q => .inr (.inl q)).trans ((X₃.mono fun _ q => .inr (.inr (.inl q))).trans ((X₄.mono fun _ q => .inr (.inl q)).trans ((X₅.mono fun _ z => z.elim).trans (X₆.mono fun _ q => .inr (.inr (.inr q)))))))
end
end Mine
end
section
open PySem PySem.Calls PySem.W PyProof.Rows
set_option Elab.async false
set_option maxRecDepth 100000
namespace Mine
section
variable {prog : Program} {w : World} {mg mb mC : Str → Option Value} {A : Around} {E : Value → Shared → Prop} {N : Nat} {env : Env} {fs : List Env} {s₀ s t : Shared} {m m' : Str → Option Value} {p d D TX TD : Addr} {vs txs tds : List Value} {head : Int} {th : Tok} {ds : List (Str × Str)} {I : Addr} {i : Nat}
theorem lst_uniq {h : Heap} {a : Addr} {us ws : List Value} (x : Lst h a us) (y : Lst h a ws) : us = ws := by
  obtain ⟨n, e⟩ := x
  obtain ⟨n', e'⟩ := y
  rw [e] at e'
  have := congrArg Obj.data (Option.some.inj e')
  injection this with this
  simpa using congrArg Array.toList this
theorem law_push {c1 c2 c3 : Addr} {Q : Flow → Shared → Prop} (L : LX prog w mg mb mC N env fs s₀ s m) (a : AR A fs) (hsc : env.scope = scopeOf top[13]?) (hce : env.cells.lookup (Str.ofString "deeds") = some c1) (hce2 : env.cells.lookup (Str.ofString "texts") = some c2) (hce3 : env.cells.lookup (Str.ofString "rising") = some c3) (g : Good ds) (P : Pairs2 ds) (K : LF s₀ s m p d D TX TD vs txs tds head th ds 0)
    (hk : 0 ≤ head ∧ head ≤ 100000) (hdl : d ≠ env.locals) (hsx : SeqAt.shaped (strsD (textsOf ds)) = true) (hr : Rises (rsOf (ptext ds))) (hoke : ∀ e ∈ endsL, TextOk (ptext ds ++ e)) (hpz : (ptext ds).length ≤ 10000)
    (h : ∀ t, EndOk N s₀ t → Q (.ret (.bool true)) t) : wpC (model prog w) A (execs ((bodyOf top[13]?).drop 3) env) Q E s := by
  have hn := g.n
  obtain ⟨_, us, e1, hDF, hl, hru⟩ := K.hD.list_inv
  cases e1
  have hul : us.length = ds.length := by rw [hru.length]; simp
  refine C_cons ?_
  refine C_For ?_
  refine C_any (L.S.ldc (kd hsc rfl) hce K.n2 (C_any (wpAny_pyIter_list hl.isList ?_)))
  have X₁ : Ext N (fun _ => False) s { s with heap := s.heap.push { cls := .type "list_iterator", data := .fields #[.ref D, .int 0 0] } } := Ext.refl.push _ (tk := s.toks)
  have hIf : s.heap.get? s.heap.objs.size = none := Heap.get?_none_of_le (Nat.le_refl _)
  refine law_for (fun i t m => (∃ vs txs tds, LF s₀ t m p d D TX TD vs txs tds head th ds i) ∧ Lst t.heap D us) (L.step0 X₁) (Src.list a.hh _ D (Nat.ne_of_lt hl.lt) us.toArray) ⟨⟨_, Heap.get?_push_size _ rfl, rfl, rfl⟩, (hl.push _).isList⟩ (L.X.fresh' hIf) ⟨⟨vs, txs, tds, K.step0 X₁⟩, hl.push _⟩ (fun i t t' m hJ k hit => ?_) (fun i t m v hi hv hJ L' hit => ?_) fun t m hJ L' => ?_
  · obtain ⟨⟨vs, txs, tds, K'⟩, hl'⟩ := hJ
    exact ⟨⟨vs, txs, tds, K'.kpIt k hit⟩, hl'.kp k (lst_ne_it hl' hit)⟩
  · obtain ⟨⟨vs, txs, tds, K'⟩, hlD⟩ := hJ
    have hi' : i < ds.length := by rw [← hul]; simpa using hi
    have hx : ds[i]? = some ds[i] := List.getElem?_eq_getElem hi'
    obtain ⟨_, us', u, e1, hl', hu, ru⟩ := pairs_get K'.hD hx
    cases e1
    have hv' : us[i]? = some v := by simpa using hv
    have huu : v = u := by
      have := lst_uniq hlD hl'
      subst this
      rw [hv'] at hu; cases hu
      rfl
    subst huu
    obtain ⟨T, ws, rfl, _, hT, hws⟩ := ru.tuple_inv
    cases hws with | cons a1 b1 => cases b1 with | cons a2 b2 => cases b2 with | nil =>
    obtain ⟨t1, rfl⟩ := a1.str_inv
    obtain ⟨t2, rfl⟩ := a2.str_inv
    refine C_any (assign2 a.hh hT fun h₂ kp₂ => ?_)
    have X₂ : Ext N (fun _ => False) t { t with heap := h₂ } := Ext.refl.keeps (tk := t.toks) kp₂
    refine (L'.step0 X₂).st (kd hsc rfl) fun t₃ L₃ X₃ => L₃.st (kd hsc rfl) fun t₄ L₄ X₄ => ?_
    have K₂ := K'.step0 X₂
    have K₃ : LF s₀ t₃ (upd m "gap" (.str ds[i].1 t1)) p d D TX TD vs txs tds head th ds i := K₂.step X₃ (pf_loc K₂.F (L'.step0 X₂)) hdl (L'.step0 X₂).offL fun y hy => upd_ne fun q => by subst q; revert hy; decide
    have K₄ : LF s₀ t₄ (upd (upd m "gap" (.str ds[i].1 t1)) "piece" (.str ds[i].2 t2)) p d D TX TD vs txs tds head th ds i := K₃.step X₄ (pf_loc K₃.F L₃) hdl L₃.offL fun y hy => upd_ne fun q => by subst q; revert hy; decide
    have X₄' : Ext N (· = env.locals) t t₄ := (X₂.mono fun _ z => z.elim).trans (X₃.trans X₄)
    refine C_mono (push_turn L₄ a hsc hce2 g hx K₄ ((upd_ne (by decide)).trans upd_same) upd_same) (fun f t₅ h₅ => ?_) fun _ _ z => z
    obtain ⟨rfl, L₅, hK₅, X₅⟩ := h₅
    have hDl := lst_ne_loc L'.S hl'
    have nD : ¬ Wt p TX TD D := fun q => by
      rcases q with q | q | q | q
      · exact (pf_lst K'.F hl').1 q.symm
      · exact (lst_off hl' fun o e => (tb_off L'.tb1 o e).1) q
      · exact hDF.1 q
      · exact hDF.2 q
    refine ⟨rfl, _, L₅, ⟨hK₅, (hlD.ext X₄' hDl).ext X₅ nD⟩, ?_⟩
    have hIl := it_loc L' hit
    refine Kp.trans ((Kp.of_ext X₄').mono fun b hb q => ?_) ((Kp.of_ext X₅).mono fun b hb q => ?_)
    · rcases List.mem_cons.mp hb with z | z
      · exact hIl (z ▸ q)
      · exact hDl ((List.mem_singleton.mp z) ▸ q)
    · rcases List.mem_cons.mp hb with z | z
      · rw [z] at q
        rcases q with q | q | q | q
        · exact (it_pile K'.F hit).1 q
        · exact it_tab L (L.X.fresh' hIf) _ (by simp) q
        · exact lst_ne_it K'.hX hit q.symm
        · exact lst_ne_it K'.hT hit q.symm
      · rw [List.mem_singleton.mp z] at q
        exact nD q
  · obtain ⟨⟨vs, txs, tds, K'⟩, _⟩ := hJ
    have hz : us.toArray.size = ds.length := by simp only [List.size_toArray]; exact hul
    have F' := K'.F
    have hx' := K'.hxs
    have ht' := K'.hts
    rw [hz] at F' hx' ht'
    rw [List.take_length] at F'
    rw [List.take_of_length_le (by unfold textsOf; simp)] at hx'
    rw [List.take_of_length_le (by simp)] at ht'
    have key := @law_texts prog w mg mb mC A E N env fs s₀ t m p d D TD TX vs txs head th ds c1 c2 c3 Q L' a hsc hce hce2 hce3 g P F' K'.n1 K'.n2 K'.n3 K'.n4 K'.n5 hk hdl (K'.hD.mono fun _ _ => trivial) (.list trivial K'.hT (ht'.mono fun _ _ => trivial)) K'.hX hx' hsx hr hoke hpz h
    assumption
end
end Mine
end
section
open PySem PySem.Calls PySem.W PyProof.Rows
set_option Elab.async false
set_option maxRecDepth 100000
namespace Mine
section
variable {prog : Program} {w : World} {mg mb mC : Str → Option Value} {A : Around} {E : Value → Shared → Prop} {N : Nat} {env : Env} {fs : List Env} {s₀ s t : Shared} {m m' : Str → Option Value} {p d D TX TD : Addr} {vs txs tds : List Value} {head : Int} {th : Tok} {ds : List (Str × Str)} {I : Addr} {i : Nat}
theorem law_first {c1 c2 c3 : Addr} {Q : Flow → Shared → Prop} (L : LX prog w mg mb mC N env fs s₀ s m) (a : AR A fs) (hsc : env.scope = scopeOf top[13]?) (hce : env.cells.lookup (Str.ofString "deeds") = some c1) (hce2 : env.cells.lookup (Str.ofString "texts") = some c2) (hce3 : env.cells.lookup (Str.ofString "rising") = some c3) (g : Good ds) (P : Pairs2 ds)
    (F : PF s₀ s p d [] head []) (hm1 : m "pile" = some (.ref p)) (hm2 : m "deeds" = some (.ref D)) (hm4 : m "head" = some (.int head th)) (hD : Rd (fun _ => True) s.heap (.ref D) (pairsD ds))
    (hk : 0 ≤ head ∧ head ≤ 100000) (hdl : d ≠ env.locals) (hsx : SeqAt.shaped (strsD (textsOf ds)) = true) (hr : Rises (rsOf (ptext ds))) (hoke : ∀ e ∈ endsL, TextOk (ptext ds ++ e)) (hpz : (ptext ds).length ≤ 10000)
    (h : ∀ t, EndOk N s₀ t → Q (.ret (.bool true)) t) : wpC (model prog w) A (execs ((bodyOf top[13]?).drop 2) env) Q E s := by
  refine C_cons ?_
  refine C_AssignTuple ?_ ?hw
  case hw => unfold swappedStores; simp only [Env.blockKind, Env.kindOf, hsc]; rfl
  refine C_TupleA (N := N) (C_items_cons (C_ListA (N := N) (C_items_cons (C_str L a F (kd hsc rfl) (kd hsc rfl) hm1 (by decide) (by simp) fun t₁ tk₁ L₁ F₁ X₁ => C_items_nil ⟨by simp, fun t₂ TX X₂ hX hXf => ?_⟩))))
  have L₂ := L₁.step0 X₂
  have F₂ := F₁.ext0 X₂
  refine C_items_cons (C_ListA (N := N) (C_items_cons (C_cv L₂ a (kd hsc rfl) (C_str L₂ a F₂ (kd hsc rfl) (kd hsc rfl) hm1 (by decide) (by simp) fun t₃ tk₃ L₃ F₃ X₃ => ⟨_, _, rfl, g.ok 0, L₃, fun t₄ b L₄ X₄ hb => C_items_nil ⟨by simp, fun t₅ TD X₅ hT hTf => C_items_nil ⟨by simp, fun t₆ U X₆ hU hUf => ?_⟩⟩⟩))))
  have F₆ := ((F₃.ext0 X₄).ext0 X₅).ext0 X₆
  have L₆ := (L₄.step0 X₅).step0 X₆
  have off1 : ∀ b o, b = aStrTab → s.heap.get? b = some o → OffSq o := fun b o q e => (tb_off L.tb1 o (by rw [← q]; exact e)).1
  have off3 : ∀ b o, b = aStrTab → t₂.heap.get? b = some o → OffSq o := fun b o q e => (tb_off L₂.tb1 o (by rw [← q]; exact e)).1
  have hX₃ : Lst t₃.heap TX _ := hX.ext X₃ (lst_off hX fun o e => off3 _ o rfl e)
  have X₃₆ := (X₄.trans X₅).trans X₆
  have hX₆ := hX₃.ext X₃₆ id
  have hT₆ := hT.ext X₆ id
  have hne : TX ≠ TD := fun q => by
    obtain ⟨_, e⟩ := hX₃.ext X₄ id
    rw [q] at e
    rw [hTf] at e; cases e
  have hD₆ : Rd (fun b => b ≠ TX ∧ b ≠ TD) t₆.heap (.ref D) (pairsD ds) := by
    have h1 := (((hD.extK X₁ off1).live.ext X₂ fun _ _ z => z).extK X₃ off3).ext X₃₆ fun _ _ z => z
    refine h1.mono fun b q => ?_
    obtain ⟨_, o, e⟩ := q
    refine ⟨fun z => ?_, fun z => ?_⟩
    · rw [z, hXf] at e; cases e
    · have h2 : ∃ o', t₄.heap.get? b = some o' := by
        obtain ⟨o1, e1⟩ := X₂.dom b o e
        obtain ⟨o2, e2⟩ := X₃.dom b o1 e1
        exact X₄.dom b o2 e2
      obtain ⟨o', e'⟩ := h2
      rw [z, hTf] at e'; cases e'
  have hb₆ : Rd (fun b => b ≠ TX ∧ b ≠ TD) t₆.heap (.ref b) (cvD (ptext (ds.take 0))) := by
    have h1 := (hb.live.ext (X₅.trans X₆) fun _ _ z => z)
    refine h1.mono fun z q => ⟨fun zq => ?_, fun zq => ?_⟩
    · obtain ⟨_, e⟩ := hX₃
      have := q.1
      rw [zq, e] at this; cases this
    · obtain ⟨_, o, e⟩ := q
      rw [zq, hTf] at e; cases e
  refine C_any (assign2 a.hh hU fun h₇ kp₇ => ?_)
  have X₇ : Ext N (fun _ => False) t₆ { t₆ with heap := h₇ } := Ext.refl.keeps (tk := t₆.toks) kp₇
  have L₇ := L₆.step0 X₇
  have F₇ := F₆.ext0 X₇
  refine L₇.stc (kd hsc rfl) hce2 fun t₈ L₈ X₈ => L₈.st (kd hsc rfl) fun t₉ L₉ X₉ => ?_
  have offc := L₇.offC hce2
  have hpc : p ≠ c2 ∧ d ≠ c2 := by
    obtain ⟨o, ho, hd⟩ := L₇.S.cel _ _ hce2
    obtain ⟨_, ⟨_, _, e⟩, _, ⟨o', es, ep, e', hd', _⟩, _⟩ := F₇.P
    refine ⟨fun q => ?_, fun q => ?_⟩
    · rw [q, ho] at e; cases e; cases hd
    · rw [q, ho] at e'; cases e'
      rw [hd] at hd'; cases hd'
  have F₈ := F₇.ext X₈ hpc.1 hpc.2 offc
  have F₉ := F₈.ext X₉ (pf_loc F₈ L₈) hdl L₈.offL
  have hX₇ : Lst h₇ TX _ := hX₆.ext (t := { t₆ with heap := h₇ }) X₇ id
  have hT₇ : Lst h₇ TD _ := hT₆.ext (t := { t₆ with heap := h₇ }) X₇ id
  have hX₈ := Lst.ext (s := { t₆ with heap := h₇ }) hX₇ X₈ (lst_off hX₇ fun o e => offc _ o rfl e)
  have hT₈ := Lst.ext (s := { t₆ with heap := h₇ }) hT₇ X₈ (lst_off hT₇ fun o e => offc _ o rfl e)
  have fX : s₀.heap.get? TX = none := L₁.X.fresh' hXf
  have fT : s₀.heap.get? TD = none := L₄.X.fresh' hTf
  have tk1 : ∀ {α : Type} (f : Nat → α), ((List.range (ds.length + 1)).map f).take (0 + 1) = [f 0] := fun f => by
    rw [List.take_add_one, List.getElem?_map, List.getElem?_range (by omega)]; rfl
  have hx9 : Strs [.str (ptext []) tk₁] ((textsOf ds).take (0 + 1)) := by unfold textsOf; rw [tk1]; exact .cons .nil
  have K₉ : LF s₀ t₉ (upd (upd m "texts" (.ref TX)) "told" (.ref TD)) p d D TX TD [] [.str (ptext []) tk₁] [.ref b] head th ds 0 :=
    ⟨F₉, (upd_ne (by decide)).trans ((upd_ne (by decide)).trans hm1), (upd_ne (by decide)).trans ((upd_ne (by decide)).trans hm2), upd_same, (upd_ne (by decide)).trans ((upd_ne (by decide)).trans hm4), (upd_ne (by decide)).trans upd_same, (((hD₆.ext X₇ fun _ _ z => z).extK X₈ offc).extK X₉ L₈.offL),
      hX₈.ext X₉ (lst_off hX₈ fun o e => L₈.offL _ o rfl e), hx9, hT₈.ext X₉ (lst_off hT₈ fun o e => L₈.offL _ o rfl e), (by rw [tk1]; exact .one (((hb₆.ext X₇ fun _ _ z => z).extK X₈ offc).extK X₉ L₈.offL)), fX, fT, hne⟩
  have key := @law_push prog w mg mb mC A E N env fs s₀ t₉ _ p d D TX TD _ _ _ head th ds c1 c2 c3 Q L₉ a hsc hce hce2 hce3 g P K₉ hk hdl hsx hr hoke hpz h
  assumption
end
end Mine
end
section
open PySem PySem.Calls PySem.W PyProof.Rows
set_option Elab.async false
set_option maxRecDepth 100000
namespace Mine
section
variable {prog : Program} {w : World} {mg mb mC : Str → Option Value} {A : Around} {E : Value → Shared → Prop} {N : Nat} {env : Env} {fs : List Env} {s₀ s t : Shared} {m m' : Str → Option Value} {p d D TX TD : Addr} {vs txs tds : List Value} {head : Int} {th : Tok} {ds : List (Str × Str)} {I : Addr} {i : Nat}
theorem C_callCls {pos : Pos} {args : List (Bool × Sem Value)} {Q : Value → Shared → Prop} (hplain : args.any (·.1) = false)
    (h : wpC (model prog w) A (evalArgs (.ref aAcc) true args []) (fun x s₁ => (∃ oC cd, s₁.heap.get? aAcc = some oC ∧ oC.data = .cls cd ∧ oC.cls = .type "type") ∧ wpC (model prog w) A (call (.ref aAcc) x.pos x.kw) Q E s₁) E s) : wpC (model prog w) A (callWith pos (.ref aAcc) [] args []) Q E s := by
  unfold callWith
  refine C_bind (C_holding (C_q h fun x s₁ h₁ => C_bind (C_standAt ?_)))
  obtain ⟨⟨oC, cd, ho, hd, hc⟩, h₂⟩ := h₁
  have hk : ∀ {Q' : Keeper → Shared → Prop}, Q' .machine s₁ → wpAny (model prog w) A (keeperOf (.ref aAcc)) Q' E s₁ := fun hq => by
    unfold keeperOf
    refine wpAny_bind (wpAny_load ho ?_)
    rw [hd]
    refine wpAny_bind (wpAny_specialOf (T := "type") ⟨oC, ho, hc⟩ tc_lookup (wpAny_pure ?_))
    rw [if_pos (by rfl)]
    exact hq
  refine C_bind (C_any (hk ?_))
  simp only [hplain, List.any_nil, Bool.or_false, List.nil_append]
  exact C_bind (C_q h₂ fun r s₂ hr => C_bind (C_holding (C_point (C_pure hr))))
structure Plain (ds : List (Str × Str)) : Prop where
  g : Good ds
  P : Pairs2 ds
  hsx : SeqAt.shaped (strsD (textsOf ds)) = true
  hr : Rises (rsOf (ptext ds))
  hoke : ∀ e ∈ endsL, TextOk (ptext ds ++ e)
  hpz : (ptext ds).length ≤ 10000
theorem law_pile {c1 c2 c3 : Addr} {Q : Flow → Shared → Prop} (L : LX prog w mg mb mC N env fs s₀ s m) (a : AR A fs) (hsc : env.scope = scopeOf top[13]?) (hce : env.cells.lookup (Str.ofString "deeds") = some c1) (hce2 : env.cells.lookup (Str.ofString "texts") = some c2) (hce3 : env.cells.lookup (Str.ofString "rising") = some c3) (G : Plain ds)
    (hm2 : m "deeds" = some (.ref D)) (hm4 : m "head" = some (.int head th)) (hD : Rd (fun _ => True) s.heap (.ref D) (pairsD ds)) (hk : 0 ≤ head ∧ head ≤ 100000)
    (h : ∀ t, EndOk N s₀ t → Q (.ret (.bool true)) t) : wpC (model prog w) A (execs ((bodyOf top[13]?).drop 1) env) Q E s := by
  refine C_cons ?_
  refine C_AssignName (C_Call_Name (C_any (L.S.g (kd hsc rfl) (L.gl ▸ L.T.law.g) L.T.law.acc ?_)))
  refine C_callCls rfl (C_evalArgs (C_items_cons (C_any (L.S.ld (kd hsc rfl) hm4 (C_items_nil ⟨let ⟨oC, cd, h1, h2, _, h3⟩ := L.T.acc.c.qn; ⟨oC, cd, h1, h2, h3⟩, ?_⟩)))))
  refine C_any (acc_call L.T.acc L.T.obj L.T.fi L.T.th L.hN L.size (by have := a.dp; omega) L.S.frs fun t₁ p d P X₁ hp hd => ?_)
  have L₁ := L.step0 X₁
  have F₁ : PF s₀ t₁ p d [] head [] := ⟨⟨th, P⟩, ⟨rfl, fun i a b e => by simp at e⟩, L.X.fresh' hp, L.X.fresh' hd⟩
  have hdl : d ≠ env.locals := fun q => by
    obtain ⟨_, ⟨o, _, _, e, _⟩, _⟩ := L.S.ns
    rw [q, e] at hd; cases hd
  refine C_any (L₁.st (kd hsc rfl) fun t₂ L₂ X₂ => ?_)
  have key := @law_first prog w mg mb mC A E N env fs s₀ t₂ _ p d D head th ds c1 c2 c3 Q L₂ a hsc hce hce2 hce3 G.g G.P (F₁.ext X₂ (pf_loc F₁ L₁) hdl L₁.offL) upd_same ((upd_ne (by decide)).trans hm2) ((upd_ne (by decide)).trans hm4) ((hD.ext X₁ fun _ _ z => z).extK X₂ L₁.offL) hk hdl G.hsx G.hr G.hoke G.hpz h
  assumption
end
end Mine
end
section
open PySem PySem.Calls PySem.W PyProof.Rows
set_option Elab.async false
set_option maxRecDepth 100000
namespace Mine
theorem Ints.are {vs : List Value} {ns : List Int} (h : Ints vs ns) : IntsAre vs ns := by
  induction h with
  | nil => exact .nil
  | cons _ ih => exact .cons _ _ ih
noncomputable def headOf (ns : List Int) : Int := ((ns.take 6).sum).fmod 5
theorem headOf_ok (ns : List Int) : 0 ≤ headOf ns ∧ headOf ns ≤ 100000 := by
  have h1 := Int.fmod_nonneg_of_pos ((ns.take 6).sum) (b := 5) (by omega)
  have h2 := Int.fmod_lt_of_pos ((ns.take 6).sum) (b := 5) (by omega)
  unfold headOf
  omega
section
variable {prog : Program} {w : World} {mg mb mC : Str → Option Value} {A : Around} {E : Value → Shared → Prop} {N : Nat} {env : Env} {fs : List Env} {s₀ s t : Shared} {m m' : Str → Option Value}
theorem sum_lst {l : Addr} {vs : List Value} {ns : List Int} {Q : Value → Shared → Prop} (hh : A.handled = none) (hl : Lst s.heap l vs) (hi : Ints vs ns) (h : ∀ t tk, Ext N (fun _ => False) s t → Q (.int ns.sum tk) t) : wpAny (model prog w) A (call (.builtin "sum") [.ref l]) Q E s := by
  obtain ⟨xs, hx⟩ := (hi.are.allInts).items
  have hl' := hl.isList
  rw [hx] at hl'
  have hn : (numsOf vs.toArray.toList) = ns := by rw [show vs.toArray.toList = vs from rfl]; exact hi.are.numsOf
  refine sum_intListG hh hl' fun h' tk t' hk => ?_
  have hs : preSum (numAt xs) xs.size = ns.sum := by
    rw [PySem.preSum_eq, List.take_of_length_le (by simp), ← hn, hx, nums_intItems]
  rw [hs]
  exact h _ t' (Ext.refl.keeps (tk := tk) hk)
theorem law_zero {c1 c2 c3 a₀ : Addr} {vs : List Value} {ns : List Int} {Q : Flow → Shared → Prop} (L : LX prog w mg mb mC N env fs s₀ s m) (a : AR A fs) (hsc : env.scope = scopeOf top[13]?) (hce : env.cells.lookup (Str.ofString "deeds") = some c1) (hce2 : env.cells.lookup (Str.ofString "texts") = some c2) (hce3 : env.cells.lookup (Str.ofString "rising") = some c3) (G : Plain (deedsOf ns))
    (hm : m "script" = some (.ref a₀)) (hL : Lst s.heap a₀ vs) (hi : Ints vs ns) (hz : ns.length ≤ 63)
    (h : ∀ t, EndOk N s₀ t → Q (.ret (.bool true)) t) : wpC (model prog w) A (execs (bodyOf top[13]?) env) Q E s := by
  refine C_cons ?_
  refine C_AssignTuple ?_ ?hw
  case hw => unfold swappedStores; simp only [Env.blockKind, Env.kindOf, hsc]; rfl
  refine C_TupleA (N := N) (C_items_cons (C_Call_Name (C_any (L.S.g (kd hsc rfl) (L.gl ▸ L.T.law.g) L.T.law.deeds ?_))))
  refine C_callFn (C_evalArgs (C_items_cons (C_any (L.S.ld (kd hsc rfl) hm (C_items_nil ⟨L.T.law.fdeeds.func, ?_⟩)))))
  refine deeds_call L.T.law L.size (by have := a.dp; omega) a.hh L.S.frs hL hi (by omega) fun t₁ D X₁ hD => ?_
  have L₁ := L.step0 X₁
  have hL₁ := hL.ext X₁ id
  have hvl := hi.length
  refine C_items_cons (C_BinOp (C_fn L₁.S (kd hsc rfl) (L₁.gl ▸ L₁.T.law.g) L₁.T.law.nsum (L₁.bi ▸ L₁.T.law.b) L₁.T.law.bsum (C_cut (N := N) (C_any (L₁.S.ld (kd hsc rfl) hm (C_opt_none (C_opt_some (C_any (wpAny_Constant_int ⟨a₀, vs, none, some 6, rfl, hL₁, .none, .int _ _, by omega, fun t₂ B X₂ hB hBf => ?_⟩)))))))))
  rw [show (6 : Int) = ((6 : Nat) : Int) from rfl, cut_hi] at hB
  refine C_any (sum_lst (N := N) a.hh hB (hi.take 6) fun t₃ tk₃ X₃ => ?_)
  refine C_any (wpAny_Constant_int (C_any (PyProof.Rows.mod_int' (by decide) (C_items_nil ⟨by simp, fun t₄ U X₄ hU hUf => ?_⟩))))
  have X₄' : Ext N (fun _ => False) t₁ t₄ := ((Ext.refl.toks _).trans X₂).trans (X₃.trans (((Ext.refl.toks _).toks _).trans X₄))
  refine C_any (assign2 a.hh hU fun h₅ kp₅ => ?_)
  have X₅ : Ext N (fun _ => False) t₁ { t₄ with heap := h₅ } := X₄'.keeps (tk := t₄.toks) kp₅
  have L₅ := L₁.step0 X₅
  refine L₅.stc (kd hsc rfl) hce fun t₆ L₆ X₆ => L₆.st (kd hsc rfl) fun t₇ L₇ X₇ => ?_
  have hD₇ : Rd (fun _ => True) t₇.heap (.ref D) (pairsD (deedsOf ns)) := (((hD.ext X₅ fun _ _ z => z).extK X₆ (L₅.offC hce)).extK X₇ L₆.offL).mono fun _ _ => trivial
  have key := @law_pile prog w mg mb mC A E N env fs s₀ t₇ _ D (headOf ns) _ (deedsOf ns) c1 c2 c3 Q L₇ a hsc hce hce2 hce3 G ((upd_ne (by decide)).trans upd_same) upd_same hD₇ (headOf_ok ns) h
  assumption
end
end Mine
end
section
open PySem PySem.Calls PySem.W PyProof.Rows
set_option Elab.async false
set_option maxRecDepth 100000
namespace Mine
open PySem.NumText
noncomputable def val (l : List Nat) : Nat := l.foldl (fun acc c => acc * 10 + (c - 48)) 0
theorem dig_iff {c : Nat} : dig c = true ↔ 48 ≤ c ∧ c ≤ 57 := by simp [dig]
theorem drop_none {p : Nat → Bool} {l : List Nat} (h : ∀ c ∈ l, p c = false) : l.dropWhile p = l := by
  cases l with
  | nil => rfl
  | cons c l => rw [List.dropWhile_cons, h c (List.mem_cons_self ..)]; rfl
theorem take_all {p : Nat → Bool} {l : List Nat} (h : ∀ c ∈ l, p c = true) : l.takeWhile p = l := by
  induction l with
  | nil => rfl
  | cons c l ih => rw [List.takeWhile_cons, h c (List.mem_cons_self ..), if_pos rfl, ih fun d hd => h d (List.mem_cons_of_mem _ hd)]
theorem plain_text {x : Str} (h : ∀ c ∈ x.cps.toList, 48 ≤ c ∧ c < 128) : numTextOf x = x.cps.toList ∧ numSeenOf x = x.cps.toList ∧ (sign ((numSeenOf x).dropWhile blank)).1 = false ∧ core (numSeenOf x) = x.cps.toList := by
  have h1 : numTextOf x = x.cps.toList := by
    refine if_pos ?_
    rw [← Array.all_toList]
    exact List.all_eq_true.mpr fun c hc => decide_eq_true (h c hc).2
  have h2 : numSeenOf x = x.cps.toList := by
    show (numTextOf x).takeWhile _ = _
    rw [h1]
    exact take_all fun c hc => by have := (h c hc).1; simp; omega
  have nb : ∀ c ∈ x.cps.toList, blank c = false := fun c hc => by have := (h c hc).1; simp [blank]; omega
  have h3 : (numSeenOf x).dropWhile blank = x.cps.toList := by rw [h2]; exact drop_none nb
  have h4 : sign x.cps.toList = (false, x.cps.toList) := by
    cases e : x.cps.toList with
    | nil => rfl
    | cons c l =>
      have := (h c (by rw [e]; exact List.mem_cons_self ..)).1
      unfold sign
      split
      · rename_i q; injection q; omega
      · rename_i q; injection q; omega
      · rfl
  refine ⟨h1, h2, ?_, ?_⟩
  · rw [h3, h4]
  · unfold core
    rw [h3, h4, drop_none fun c hc => nb c (List.mem_reverse.mp hc), List.reverse_reverse]
theorem fold_digs : ∀ (l : List Nat) (p : Array Nat) (b : Bool), (∀ c ∈ l, dig c = true) → l.foldlM (NumText.step 10) (p, b) = some (p ++ (l.map (· - 48)).toArray, b || !l.isEmpty)
  | [], p, b, _ => by simp
  | c :: l, p, b, h => by
    have hc := dig_iff.mp (h c (List.mem_cons_self ..))
    have hs : NumText.step 10 (p, b) c = some (p.push (c - 48), true) := by
      unfold NumText.step
      rw [if_neg (by simp; omega)]
      have : digit? c = some (c - 48) := by
        unfold digit?
        rw [if_pos (by simp; omega)]
      rw [this]
      show (if c - 48 < 10 then _ else _) = _
      rw [if_pos (by omega)]
    rw [List.foldlM_cons, hs]
    show l.foldlM (NumText.step 10) (p.push (c - 48), true) = _
    rw [fold_digs l _ _ fun d hd => h d (List.mem_cons_of_mem _ hd)]
    simp
theorem digits_digs {l : List Nat} (h : ∀ c ∈ l, dig c = true) (hne : l ≠ []) : digits? 10 l = some (l.map (· - 48)).toArray := by
  unfold digits?
  rw [fold_digs l #[] false h]
  have : (false || !l.isEmpty) = true := by cases l with | nil => exact absurd rfl hne | cons => rfl
  rw [this]
  simp
theorem int_digs {x : Str} (h : ∀ c ∈ x.cps.toList, dig c = true) (hne : x.cps.toList ≠ []) (hz : x.cps.toList.length ≤ 4300) : PySem.intText? x = some (val x.cps.toList : Int) := by
  obtain ⟨h1, h2, h3, h4⟩ := plain_text (x := x) fun c hc => by have := dig_iff.mp (h c hc); omega
  unfold PySem.intText?
  rw [h3, h4, h1, h2, digits_digs h hne]
  simp only [beq_self_eq_true, if_true]
  rw [if_pos (by simpa using hz)]
  unfold worth val
  rw [if_neg Bool.false_ne_true]
  simp [List.foldl_map]
theorem int_ltrs {x : Str} (h : ∀ c ∈ x.cps.toList, ltr c = true) (hne : x.cps.toList ≠ []) : PySem.intText? x = none := by
  obtain ⟨h1, h2, h3, h4⟩ := plain_text (x := x) fun c hc => by have := ltr_iff.mp (h c hc); omega
  have hd : digits? 10 x.cps.toList = none := by
    cases e : x.cps.toList with
    | nil => exact absurd e hne
    | cons c l =>
      have hc := ltr_iff.mp (h c (by rw [e]; exact List.mem_cons_self ..))
      have hs : NumText.step 10 (#[], false) c = none := by
        unfold NumText.step
        rw [if_neg (by simp; omega)]
        unfold digit?
        rw [if_neg (by simp; omega)]
        split
        · rename_i d hd
          split at hd
          · rename_i q; simp at q; cases hd; rw [if_neg (by omega)]
          · split at hd
            · rename_i q; simp at q; cases hd; rw [if_neg (by omega)]
            · cases hd
        · rfl
      unfold digits?
      rw [List.foldlM_cons, hs]
      rfl
  unfold PySem.intText?
  rw [h4, hd]
  split <;> rfl
theorem val_app (a b : List Nat) : val (a ++ b) = val a * 10 ^ b.length + val b := by
  have key : ∀ (l : List Nat) (n : Nat), l.foldl (fun acc c => acc * 10 + (c - 48)) n = n * 10 ^ l.length + val l := by
    intro l
    induction l with
    | nil => intro n; simp [val]
    | cons c l ih =>
      intro n
      rw [List.foldl_cons, ih]
      have : val (c :: l) = (c - 48) * 10 ^ l.length + val l := by
        unfold val
        rw [List.foldl_cons, ih]
        simp [val]
      rw [this, List.length_cons, Nat.pow_succ, Nat.add_mul, Nat.mul_assoc, Nat.mul_comm 10]
      omega
  unfold val
  rw [List.foldl_append, key]
  rfl
theorem val_zero {l : List Nat} (h : ∀ c ∈ l, dig c = true) : val l = 0 ↔ ∀ c ∈ l, c = 48 := by
  induction l with
  | nil => simp [val]
  | cons c l ih =>
    have e : val (c :: l) = (c - 48) * 10 ^ l.length + val l := by
      rw [show c :: l = [c] ++ l from rfl, val_app]
      simp [val]
    have hc := dig_iff.mp (h c (List.mem_cons_self ..))
    have hp : 0 < 10 ^ l.length := Nat.pow_pos (by omega)
    rw [e]
    constructor
    · intro hz
      have h1 : (c - 48) * 10 ^ l.length = 0 := by omega
      have h2 : val l = 0 := by omega
      have h3 : c - 48 = 0 := by
        rcases Nat.mul_eq_zero.mp h1 with h | h
        · exact h
        · omega
      intro d hd
      rcases List.mem_cons.mp hd with rfl | hd
      · omega
      · exact (ih fun d hd => h d (List.mem_cons_of_mem _ hd)).mp h2 d hd
    · intro hz
      have h1 := hz c (List.mem_cons_self ..)
      have h2 := (ih fun d hd => h d (List.mem_cons_of_mem _ hd)).mpr fun d hd => hz d (List.mem_cons_of_mem _ hd)
      rw [h1, h2]; simp
end Mine
end
section
open PySem PySem.Calls PySem.W PyProof.Rows
set_option Elab.async false
set_option maxRecDepth 100000
namespace Mine
theorem sign_low : ∀ c, c < 128 → isSign c = sepC c := by decide +kernel
theorem dig_eq (c : Nat) : isDig c = dig c := by
  unfold isDig dig
  by_cases h : c < 48
  · rw [if_pos h]; simp; omega
  · rw [if_neg h, Bool.eq_iff_iff]
    simp; omega
theorem sep_iff {c : Nat} : sepC c = true ↔ c = 43 ∨ c = 45 ∨ c = 46 ∨ c = 95 := by simp [sepC, or_assoc]
noncomputable def okc (c : Nat) : Bool := dig c || ltr c || sepC c
theorem okc_low {c : Nat} (h : okc c = true) : c < 128 := by
  simp [okc, dig, ltr, sepC] at h; omega
theorem dig_not {c : Nat} (h : dig c = true) : ltr c = false ∧ sepC c = false ∧ isSign c = false ∧ isDig c = true ∧ c ≠ 46 := by
  have := dig_iff.mp h
  have h1 : sepC c = false := by simp [sepC]; omega
  exact ⟨by simp [ltr]; omega, h1, (sign_low c (by omega)).trans h1, (dig_eq c).trans h, by omega⟩
theorem ltr_not {c : Nat} (h : ltr c = true) : dig c = false ∧ sepC c = false ∧ isSign c = false ∧ isDig c = false ∧ c ≠ 46 := by
  have := ltr_iff.mp h
  have h1 : sepC c = false := by simp [sepC]; omega
  have h2 : dig c = false := by simp [dig]; omega
  exact ⟨h2, h1, (sign_low c (by omega)).trans h1, (dig_eq c).trans h2, by omega⟩
theorem sep_not {c : Nat} (h : sepC c = true) : dig c = false ∧ ltr c = false ∧ isSign c = true := by
  have := sep_iff.mp h
  exact ⟨by simp [dig]; omega, by simp [ltr]; omega, (sign_low c (by omega)).trans h⟩
theorem contains_nil : Txt.contains signs ⟨#[]⟩ = true := by decide +kernel
theorem contains_no {v : Str} {c : Nat} {l : List Nat} (hv : v.cps.toList = c :: l) (hc : sepC c = false) : Txt.contains signs v = false := by
  have hn : Builtin.Str.occurrences signs v 0 signs.length 1 = [] := by
    refine PySem.W.occ_nil_of_no signs v 1 fun i hi => ?_
    have hl : v.length = l.length + 1 := by
      show v.cps.size = _
      rw [← Array.length_toList, hv]; rfl
    have hi' : i + (l.length + 1) ≤ 4 := by rw [hl] at hi; exact hi
    unfold Builtin.Str.subAt
    refine beq_eq_false_iff_ne.mpr fun e => ?_
    have e' := congrArg Array.toList e
    rw [hv, Array.toList_extract, hl] at e'
    have hs : signs.cps.toList = [46, 95, 43, 45] := by decide +kernel
    rw [hs] at e'
    have hc' : sepC c = true := by
      match i, hi' with
      | 0, _ => simp [List.extract] at e'; rw [← e'.1]; rfl
      | 1, _ => simp [List.extract] at e'; rw [← e'.1]; rfl
      | 2, _ => simp [List.extract] at e'; rw [← e'.1]; rfl
      | 3, _ => simp [List.extract] at e'; rw [← e'.1]; rfl
      | i + 4, h => omega
    rw [hc] at hc'; cases hc'
  unfold Txt.contains
  rw [hn]; rfl
noncomputable def runs (l : List Nat) : List Str := (runsFold l).1
theorem runsOf_eq (x : Str) : runsOf x = runs x.cps.toList := rfl
theorem step_front (R0 R : List Str) (c d : Nat) (h : c ≠ 46 → R ≠ []) : runsStep (R0 ++ R, c) d = (R0 ++ (runsStep (R, c) d).1, (runsStep (R, c) d).2) ∧ ((runsStep (R, c) d).2 ≠ 46 → (runsStep (R, c) d).1 ≠ []) := by
  unfold runsStep
  by_cases hs : isSign d = true
  · rw [if_pos hs, if_pos hs]; exact ⟨rfl, fun q => absurd rfl q⟩
  · rw [if_neg hs, if_neg hs]
    by_cases hc : c ≠ 46 ∧ isDig c = isDig d
    · rw [if_pos hc, if_pos hc]
      have hR := h hc.1
      refine ⟨?_, fun _ => by simp⟩
      dsimp only
      rw [List.dropLast_append_of_ne_nil hR]
      have : (R0 ++ R).getLastD Str.empty = R.getLastD Str.empty := by
        obtain ⟨R', r, rfl⟩ : ∃ R' r, R = R' ++ [r] := ⟨_, _, (List.dropLast_concat_getLast hR).symm⟩
        rw [← List.append_assoc]; simp [List.getLastD_eq_getLast?]
      rw [this, List.append_assoc]
    · rw [if_neg hc, if_neg hc]
      exact ⟨by simp, fun _ => by simp⟩
theorem fold_front (R0 : List Str) : ∀ (l : List Nat) (R : List Str) (c : Nat), (c ≠ 46 → R ≠ []) → l.foldl runsStep (R0 ++ R, c) = (R0 ++ (l.foldl runsStep (R, c)).1, (l.foldl runsStep (R, c)).2)
  | [], _, _, _ => rfl
  | d :: l, R, c, h => by
    rw [List.foldl_cons, List.foldl_cons, (step_front R0 R c d h).1]
    exact fold_front R0 l _ _ (step_front R0 R c d h).2
noncomputable def Brk (l k : List Nat) : Prop := ∀ d r, k = d :: r → isSign d = true ∨ (runsFold l).2 = 46 ∨ isDig (runsFold l).2 ≠ isDig d
theorem runs_break {l k : List Nat} (h : Brk l k) : runs (l ++ k) = runs l ++ runs k := by
  unfold runs runsFold
  rw [List.foldl_append]
  show (k.foldl runsStep (runsFold l)).1 = (runsFold l).1 ++ _
  generalize hq : runsFold l = q
  cases k with
  | nil => simp
  | cons d r =>
    have hb := h d r rfl
    rw [hq] at hb
    rw [List.foldl_cons, List.foldl_cons]
    have e : runsStep q d = (q.1 ++ (runsStep ([], 46) d).1, (runsStep ([], 46) d).2) ∧ ((runsStep ([], 46) d).2 ≠ 46 → (runsStep ([], 46) d).1 ≠ []) := by
      unfold runsStep
      by_cases hs : isSign d = true
      · rw [if_pos hs, if_pos hs]; exact ⟨by simp, fun z => absurd rfl z⟩
      · rw [if_neg hs, if_neg hs, if_neg (show ¬ (q.2 ≠ 46 ∧ isDig q.2 = isDig d) from fun z => by
          rcases hb with hb | hb | hb
          · exact hs hb
          · exact z.1 hb
          · exact hb z.2)]
        exact ⟨by simp, fun _ => by simp⟩
    rw [e.1, fold_front q.1 r _ _ e.2]
theorem last_snoc (l : List Nat) (c : Nat) : (runsFold (l ++ [c])).2 = if isSign c then 46 else c := by
  rw [runsFold_snoc]
  unfold runsStep
  split
  · rfl
  · split <;> rfl
theorem runs_one {b : Bool} {l : List Nat} (hne : l ≠ []) (h : ∀ c ∈ l, isSign c = false ∧ isDig c = b ∧ c ≠ 46) : runs l = [⟨l.toArray⟩] ∧ (runsFold l).2 ≠ 46 ∧ isDig (runsFold l).2 = b := by
  obtain ⟨k, c, rfl⟩ : ∃ k c, l = k ++ [c] := ⟨_, _, (List.dropLast_concat_getLast hne).symm⟩
  have hc := h c (by simp)
  have hl : (runsFold (k ++ [c])).2 = c := by rw [last_snoc, hc.1]; rfl
  refine ⟨?_, by rw [hl]; exact hc.2.2, by rw [hl]; exact hc.2.1⟩
  clear hne hl
  induction hn : k.length generalizing k c with
  | zero =>
    have : k = [] := List.length_eq_zero_iff.mp hn
    subst this
    show (runsStep ([], 46) c).1 = _
    unfold runsStep
    rw [hc.1]
    simp
  | succ n ih =>
    obtain ⟨k', d, rfl⟩ : ∃ k' d, k = k' ++ [d] := by
      have : k ≠ [] := fun z => by rw [z] at hn; cases hn
      exact ⟨_, _, (List.dropLast_concat_getLast this).symm⟩
    have hd := h d (by simp)
    have i := ih k' d (fun e he => h e (by simp at he ⊢; exact he.elim .inl fun z => .inr (.inl z))) hd (by simpa using hn)
    have hl : (runsFold (k' ++ [d])).2 = d := by rw [last_snoc, hd.1]; rfl
    unfold runs at i ⊢
    rw [runsFold_snoc]
    unfold runsStep
    rw [hc.1, hl, i, if_neg Bool.false_ne_true, if_pos ⟨hd.2.2, hd.2.1.trans hc.2.1.symm⟩]
    show [] ++ [(⟨(k' ++ [d]).toArray⟩ : Str) ++ ⟨#[c]⟩] = _
    rw [List.nil_append]
    rw [show ((⟨(k' ++ [d]).toArray⟩ : Str) ++ ⟨#[c]⟩ : Str) = ⟨(k' ++ [d]).toArray ++ #[c]⟩ from rfl]
    simp
theorem runs_sep {c : Nat} (h : isSign c = true) : runs [c] = [] ∧ (runsFold [c]).2 = 46 := by
  unfold runs runsFold
  rw [List.foldl_cons, List.foldl_nil]
  unfold runsStep
  rw [if_pos h]; exact ⟨rfl, rfl⟩
end Mine
end
section
open PySem PySem.Calls PySem.W PyProof.Rows
set_option Elab.async false
set_option maxRecDepth 100000
namespace Mine
theorem digs_spec (t : Array Nat) : ∀ n p, (∀ q, p ≤ q → q < p + digs t n p → dig (t.getD q 0) = true) ∧ (digs t n p < n → dig (t.getD (p + digs t n p) 0) = false)
  | 0, p => by
    unfold digs
    exact ⟨fun q h1 h2 => by omega, fun h => by omega⟩
  | n + 1, p => by
    have ih := digs_spec t n (p + 1)
    unfold digs
    split
    · rename_i hd
      refine ⟨fun q h1 h2 => ?_, fun h => ?_⟩
      · by_cases e : q = p
        · rw [e]; exact hd
        · exact ih.1 q (by omega) (by omega)
      · have := ih.2 (by omega)
        rwa [show p + (digs t n (p + 1) + 1) = p + 1 + digs t n (p + 1) by omega]
    · rename_i hd
      exact ⟨fun q h1 h2 => by omega, fun _ => by simpa using hd⟩
theorem match_zero {t : Array Nat} {lim p : Nat} (h : p < lim) (hm : matchLen t lim p = 0) : dig (t.getD p 0) = false ∧ sepC (t.getD p 0) = false := by
  unfold matchLen at hm
  rw [if_pos h] at hm
  cases hd : dig (t.getD p 0) with
  | true =>
    rw [hd, if_pos rfl] at hm
    obtain ⟨n, hn⟩ : ∃ n, lim - p = n + 1 := ⟨lim - p - 1, by omega⟩
    rw [hn, digs, hd] at hm
    simp at hm
  | false =>
    rw [hd, if_neg Bool.false_ne_true] at hm
    cases hs : sepC (t.getD p 0) with
    | true => rw [hs] at hm; cases hm
    | false => exact ⟨rfl, rfl⟩
theorem next_none {t : Array Nat} {lim : Nat} : ∀ f p, lim - p ≤ f → nextMatch t lim f p = none → ∀ q, p ≤ q → q < lim → dig (t.getD q 0) = false ∧ sepC (t.getD q 0) = false
  | 0, p, hf, _, q, h1, h2 => by omega
  | f + 1, p, hf, h, q, h1, h2 => by
    unfold nextMatch at h
    split at h
    · rename_i hm
      by_cases e : q = p
      · rw [e]; exact match_zero (by omega) hm
      · exact next_none f (p + 1) (by omega) h q (by omega) h2
    · cases h
theorem next_some {t : Array Nat} {lim : Nat} : ∀ f p b e, nextMatch t lim f p = some (b, e) → (∀ q, p ≤ q → q < b → dig (t.getD q 0) = false ∧ sepC (t.getD q 0) = false) ∧
    ((sepC (t.getD b 0) = true ∧ e = b + 1) ∨ ((∀ q, b ≤ q → q < e → dig (t.getD q 0) = true) ∧ (e < lim → dig (t.getD e 0) = false)))
  | 0, _, _, _, h => by cases h
  | f + 1, p, b, e, h => by
    have hs := nextMatch_spec t lim (f + 1) p b e h
    unfold nextMatch at h
    split at h
    · rename_i hm
      have ih := next_some f (p + 1) b e h
      refine ⟨fun q h1 h2 => ?_, ih.2⟩
      by_cases z : q = p
      · rw [z]; exact match_zero (by omega) hm
      · exact ih.1 q (by omega) h2
    · injection h with h
      injection h with h1 h2
      subst h1
      refine ⟨fun q h3 h4 => by omega, ?_⟩
      have hp : p < lim := hs.2.2.2
      unfold matchLen at h2
      rw [if_pos hp] at h2
      cases hd : dig (t.getD p 0) with
      | true =>
        rw [hd, if_pos rfl] at h2
        have sp := digs_spec t (lim - p) p
        refine .inr ⟨fun q h3 h4 => sp.1 q h3 (by omega), fun h5 => ?_⟩
        rw [← h2]
        exact sp.2 (by omega)
      | false =>
        rw [hd, if_neg Bool.false_ne_true] at h2
        cases hz : sepC (t.getD p 0) with
        | true => rw [hz, if_pos rfl] at h2; exact .inl ⟨rfl, h2.symm⟩
        | false => rw [hz] at h2; simp at h2; omega
theorem mem_extract {t : Array Nat} {p b c : Nat} (h : c ∈ (t.extract p b).toList) : ∃ q, p ≤ q ∧ q < b ∧ q < t.size ∧ t.getD q 0 = c := by
  obtain ⟨i, hi, e⟩ := List.getElem_of_mem h
  have hi' : i < (t.extract p b).size := by rwa [Array.length_toList] at hi
  have hz : (t.extract p b).size = min b t.size - p := Array.size_extract
  refine ⟨p + i, by omega, by omega, by omega, ?_⟩
  rw [← e, Array.getElem_toList, Array.getElem_extract]
  rw [Array.getD_eq_getD_getElem?, Array.getElem?_eq_getElem (by omega)]
  rfl
theorem drop_extract {t : Array Nat} {p b : Nat} (h : p ≤ b) : t.toList.drop p = (t.extract p b).toList ++ t.toList.drop b := by
  rw [Array.toList_extract, List.extract, show b = p + (b - p) by omega, ← List.drop_drop, show p + (b - p) - p = b - p by omega, List.take_append_drop]
theorem extract_all {t : Array Nat} {p : Nat} : (t.extract p t.size).toList = t.toList.drop p := by
  rw [Array.toList_extract, List.extract, List.take_of_length_le]
  simp
noncomputable def Part (v : Str) : Prop := v.cps.toList = [] ∨ (∃ c, v.cps.toList = [c] ∧ sepC c = true) ∨ (v.cps.toList ≠ [] ∧ ∀ c ∈ v.cps.toList, dig c = true) ∨ (v.cps.toList ≠ [] ∧ ∀ c ∈ v.cps.toList, ltr c = true)
theorem runs_part {v : Str} (h : Part v) : (runs v.cps.toList).flatMap cvP = cvP v := by
  have e : (⟨v.cps.toList.toArray⟩ : Str) = v := by cases v; rfl
  rcases h with h | ⟨c, h, hc⟩ | ⟨hne, h⟩ | ⟨hne, h⟩
  · rw [h]
    have : v = ⟨#[]⟩ := by rw [← e, h]
    rw [this]
    unfold cvP
    rw [if_pos contains_nil]; rfl
  · have hs := (sep_not hc).2.2
    rw [h, (runs_sep hs).1]
    have : v = ⟨#[c]⟩ := by rw [← e, h]
    rw [this]
    unfold cvP
    rw [if_pos (show Txt.contains signs ⟨#[c]⟩ = true from hs)]; rfl
  · rw [(runs_one (b := true) hne fun c hc => let ⟨_, _, a, b, d⟩ := dig_not (h c hc); ⟨a, b, d⟩).1, e]; simp
  · rw [(runs_one (b := false) hne fun c hc => let ⟨_, _, a, b, d⟩ := ltr_not (h c hc); ⟨a, b, d⟩).1, e]; simp
theorem ltr_of {c : Nat} (h : okc c = true) (h1 : dig c = false) (h2 : sepC c = false) : ltr c = true := by
  unfold okc at h
  rw [h1, h2] at h
  simpa using h
theorem split_parts {t : Array Nat} (hok : ∀ c ∈ t.toList, okc c = true) : ∀ f p, t.size - p < f → (splitGo t f p).flatMap cvP = (runs (t.toList.drop p)).flatMap cvP ∧ (∀ v ∈ splitGo t f p, Part v ∧ v.cps.toList.length ≤ t.size) ∧ (splitGo t f p).length ≤ 2 * (t.size - p) + 1
  | 0, p, h => by omega
  | f + 1, p, h => by
    have okq : ∀ q, q < t.size → okc (t.getD q 0) = true := fun q hq => hok _ (by rw [Array.getD_eq_getD_getElem?, Array.getElem?_eq_getElem hq]; simp)
    cases hn : nextAt t p with
    | none =>
      rw [splitGo_none hn]
      have hl : ∀ c ∈ (t.extract p t.size).toList, ltr c = true := fun c hc => by
        obtain ⟨q, h1, h2, _, rfl⟩ := mem_extract hc
        unfold nextAt at hn
        rw [if_pos (by omega)] at hn
        have := next_none _ _ (by omega) hn q h1 h2
        exact ltr_of (okq q h2) this.1 this.2
      have hp : Part ⟨t.extract p t.size⟩ := by
        by_cases e : (t.extract p t.size).toList = []
        · exact .inl e
        · exact .inr (.inr (.inr ⟨e, hl⟩))
      refine ⟨?_, fun v hv => ?_, by simp⟩
      · rw [← extract_all]
        have := runs_part hp
        simpa using this.symm
      · rw [List.mem_singleton.mp hv]
        refine ⟨hp, ?_⟩
        show (t.extract p t.size).toList.length ≤ _
        rw [Array.length_toList, Array.size_extract]; omega
    | some be =>
      obtain ⟨b, e⟩ := be
      have hs := nextAt_spec hn
      rw [splitGo_some hn]
      have hn' := hn
      unfold nextAt at hn'
      rw [if_pos (by omega)] at hn'
      have sp := next_some _ _ _ _ hn'
      have ih := split_parts hok f e (by omega)
      have hl : ∀ c ∈ (t.extract p b).toList, ltr c = true := fun c hc => by
        obtain ⟨q, h1, h2, h3, rfl⟩ := mem_extract hc
        have := sp.1 q h1 h2
        exact ltr_of (okq q h3) this.1 this.2
      have hp : Part ⟨t.extract p b⟩ := by
        by_cases z : (t.extract p b).toList = []
        · exact .inl z
        · exact .inr (.inr (.inr ⟨z, hl⟩))
      have hz2 : (t.extract b e).toList.length = e - b := by rw [Array.length_toList, Array.size_extract]; omega
      have hd2 : t.toList.drop b = (t.extract b e).toList ++ t.toList.drop e := drop_extract (by omega)
      have hne2 : (t.extract b e).toList ≠ [] := fun z => by rw [z] at hz2; simp at hz2; omega
      -- the token and what is behind it
      have tok : Part ⟨t.extract b e⟩ ∧ Brk (t.extract b e).toList (t.toList.drop e) ∧ (∀ d r, (t.extract b e).toList = d :: r → ltr d = false ∧ (isSign d = true ∨ isDig d = true)) := by
        rcases sp.2 with ⟨h1, h2⟩ | ⟨h1, h2⟩
        · have e1 : (t.extract b e).toList = [t.getD b 0] := by
            rw [h2] at hz2 ⊢
            obtain ⟨c, hc⟩ : ∃ c, (t.extract b (b + 1)).toList = [c] := List.length_eq_one_iff.mp (by rw [hz2]; omega)
            obtain ⟨q, h3, h4, _, h5⟩ := mem_extract (c := c) (t := t) (p := b) (b := b + 1) (by rw [hc]; simp)
            have : q = b := by omega
            rw [hc, ← h5, this]
          refine ⟨.inr (.inl ⟨_, e1, h1⟩), fun d r _ => .inr (.inl ?_), fun d r q => ?_⟩
          · rw [e1]; exact (runs_sep (sep_not h1).2.2).2
          · rw [e1] at q; cases q; exact ⟨(sep_not h1).2.1, .inl (sep_not h1).2.2⟩
        · have hdg : ∀ c ∈ (t.extract b e).toList, dig c = true := fun c hc => by
            obtain ⟨q, h3, h4, _, rfl⟩ := mem_extract hc
            exact h1 q h3 h4
          refine ⟨.inr (.inr (.inl ⟨hne2, hdg⟩)), fun d r q => .inr (.inr ?_), fun d r q => ?_⟩
          · have hlast := (runs_one (b := true) hne2 fun c hc => let ⟨_, _, a, b, d⟩ := dig_not (hdg c hc); ⟨a, b, d⟩).2.2
            rw [hlast]
            have he : e < t.size := by
              rcases Nat.lt_or_ge e t.size with h | h
              · exact h
              · rw [List.drop_of_length_le (by simpa using h)] at q; cases q
            have hd : d = t.getD e 0 := by
              have := congrArg (·[0]?) q
              simp at this
              rw [Array.getD_eq_getD_getElem?, this]; rfl
            rw [dig_eq, hd, h2 he]
            exact Bool.noConfusion
          · have := dig_not (hdg d (by rw [q]; exact List.mem_cons_self ..))
            exact ⟨this.1, .inr this.2.2.2.1⟩
      have hb1 : Brk (t.extract p b).toList (t.toList.drop b) := fun d r q => by
        have hd : ∃ r', (t.extract b e).toList = d :: r' := by
          rw [hd2] at q
          cases h1 : (t.extract b e).toList with
          | nil => exact absurd h1 hne2
          | cons d' r' => rw [h1] at q; cases q; exact ⟨_, rfl⟩
        obtain ⟨r', hd⟩ := hd
        rcases (tok.2.2 d r' hd).2 with h1 | h1
        · exact .inl h1
        · by_cases z : (t.extract p b).toList = []
          · rw [z]; exact .inr (.inl rfl)
          · have := (runs_one (b := false) z fun c hc => let ⟨_, _, a, b, d⟩ := ltr_not (hl c hc); ⟨a, b, d⟩).2.2
            rw [this, h1]
            exact .inr (.inr Bool.noConfusion)
      refine ⟨?_, fun v hv => ?_, ?_⟩
      · rw [List.flatMap_cons, List.flatMap_cons, ih.1, drop_extract (show p ≤ b by omega), runs_break hb1, hd2, runs_break tok.2.1, List.flatMap_append, List.flatMap_append, ← runs_part hp, ← runs_part tok.1]
      · rcases List.mem_cons.mp hv with rfl | hv
        · refine ⟨hp, ?_⟩
          show (t.extract p b).toList.length ≤ _
          rw [Array.length_toList, Array.size_extract]; omega
        · rcases List.mem_cons.mp hv with rfl | hv
          · exact ⟨tok.1, (by show (t.extract b e).toList.length ≤ _; rw [hz2]; omega)⟩
          · exact ih.2.1 v hv
      · rw [List.length_cons, List.length_cons]
        have := ih.2.2
        omega
noncomputable def Okt (x : Str) : Prop := ∀ c ∈ x.cps.toList, okc c = true
theorem cv_runs {x : Str} (h : Okt x) : cv x = (runs x.cps.toList).flatMap cvP := (split_parts h _ 0 (by omega)).1
theorem part_ok {v : Str} (h : Part v) (hz : v.cps.toList.length ≤ 640) : PartOk v := by
  have e : (⟨v.cps.toList.toArray⟩ : Str) = v := by cases v; rfl
  refine ⟨by simpa using hz, ?_⟩
  rcases h with h | ⟨c, h, hc⟩ | ⟨hne, h⟩ | ⟨hne, h⟩
  · left
    have : v = ⟨#[]⟩ := by rw [← e, h]
    rw [this]; exact contains_nil
  · left
    have : v = ⟨#[c]⟩ := by rw [← e, h]
    rw [this]; exact (sep_not hc).2.2
  · exact .inr (.inl ⟨_, int_digs h hne (by omega)⟩)
  · exact .inr (.inr ⟨int_ltrs h hne, hne, h⟩)
theorem text_ok {x : Str} (h : Okt x) (hz : x.cps.size ≤ 640) : TextOk x := by
  have sp := split_parts h (x.cps.size + 1) 0 (by omega)
  refine ⟨hz, fun v hv => part_ok (sp.2.1 v hv).1 (Nat.le_trans (sp.2.1 v hv).2 hz), ?_⟩
  have := sp.2.2
  unfold splitP
  omega
end Mine
end
section
open PySem PySem.Calls PySem.W PyProof.Rows
set_option Elab.async false
set_option maxRecDepth 100000
namespace Mine
noncomputable def Run (r : Str) : Prop := r.cps.toList ≠ [] ∧ ((∀ c ∈ r.cps.toList, dig c = true) ∨ (∀ c ∈ r.cps.toList, ltr c = true))
noncomputable def Okl (l : List Nat) : Prop := ∀ c ∈ l, okc c = true
theorem str_app (x y : Str) : (x ++ y : Str).cps.toList = x.cps.toList ++ y.cps.toList := by
  show (x.cps ++ y.cps).toList = _
  simp
theorem okc_kind {c : Nat} (h : okc c = true) (hs : isSign c = false) : (dig c = true ∧ isDig c = true) ∨ (ltr c = true ∧ isDig c = false) := by
  have hl := okc_low h
  rw [sign_low c hl] at hs
  unfold okc at h
  rw [hs] at h
  cases hd : dig c with
  | true => exact .inl ⟨rfl, (dig_eq c).trans hd⟩
  | false => rw [hd] at h; exact .inr ⟨by simpa using h, (dig_eq c).trans hd⟩
theorem runs_inv : ∀ (n : Nat) (l : List Nat), l.length = n → Okl l → (∀ r ∈ runs l, Run r) ∧ ((runsFold l).2 ≠ 46 → ∃ Z r, runs l = Z ++ [r] ∧ (if isDig (runsFold l).2 then ∀ c ∈ r.cps.toList, dig c = true else ∀ c ∈ r.cps.toList, ltr c = true))
  | 0, l, hn, _ => by
    have : l = [] := List.length_eq_zero_iff.mp hn
    subst this
    exact ⟨fun r hr => (by cases hr), fun h => absurd rfl h⟩
  | n + 1, l, hn, hok => by
    obtain ⟨k, c, rfl⟩ : ∃ k c, l = k ++ [c] := by
      have : l ≠ [] := fun z => by rw [z] at hn; cases hn
      exact ⟨_, _, (List.dropLast_concat_getLast this).symm⟩
    have ih := runs_inv n k (by simpa using hn) fun d hd => hok d (by simp [hd])
    have hc := hok c (by simp)
    unfold runs at ih ⊢
    rw [runsFold_snoc]
    generalize runsFold k = st at ih ⊢
    obtain ⟨R, p⟩ := st
    dsimp only at ih
    unfold runsStep
    cases hs : isSign c with
    | true => rw [if_pos rfl]; exact ⟨ih.1, fun h => absurd rfl h⟩
    | false =>
      rw [if_neg Bool.false_ne_true]
      have hk := okc_kind hc hs
      have one : Run ⟨#[c]⟩ ∧ (if isDig c then ∀ d ∈ (⟨#[c]⟩ : Str).cps.toList, dig d = true else ∀ d ∈ (⟨#[c]⟩ : Str).cps.toList, ltr d = true) := by
        rcases hk with ⟨h1, h2⟩ | ⟨h1, h2⟩
        · rw [h2, if_pos rfl]
          have : ∀ d ∈ (⟨#[c]⟩ : Str).cps.toList, dig d = true := fun d hd => by simp at hd; rw [hd]; exact h1
          exact ⟨⟨by simp, .inl this⟩, this⟩
        · rw [h2, if_neg Bool.false_ne_true]
          have : ∀ d ∈ (⟨#[c]⟩ : Str).cps.toList, ltr d = true := fun d hd => by simp at hd; rw [hd]; exact h1
          exact ⟨⟨by simp, .inr this⟩, this⟩
      split
      · rename_i hg
        obtain ⟨Z, r, hR, hr⟩ := ih.2 hg.1
        dsimp only at hg
        rw [hg.2] at hr
        subst hR
        have e : (Z ++ [r]).dropLast ++ [(Z ++ [r]).getLastD Str.empty ++ ⟨#[c]⟩] = Z ++ [r ++ ⟨#[c]⟩] := by simp [List.getLastD_eq_getLast?]
        dsimp only
        rw [e]
        have hb : Run (r ++ ⟨#[c]⟩) ∧ (if isDig c then ∀ d ∈ (r ++ ⟨#[c]⟩ : Str).cps.toList, dig d = true else ∀ d ∈ (r ++ ⟨#[c]⟩ : Str).cps.toList, ltr d = true) := by
          unfold Run
          rw [str_app]
          rcases hk with ⟨h1, h2⟩ | ⟨h1, h2⟩
          · rw [h2, if_pos rfl] at hr ⊢
            have : ∀ d ∈ r.cps.toList ++ (⟨#[c]⟩ : Str).cps.toList, dig d = true := fun d hd => by
              rcases List.mem_append.mp hd with hd | hd
              · exact hr d hd
              · simp at hd; rw [hd]; exact h1
            exact ⟨⟨by simp, .inl this⟩, this⟩
          · rw [h2, if_neg Bool.false_ne_true] at hr ⊢
            have : ∀ d ∈ r.cps.toList ++ (⟨#[c]⟩ : Str).cps.toList, ltr d = true := fun d hd => by
              rcases List.mem_append.mp hd with hd | hd
              · exact hr d hd
              · simp at hd; rw [hd]; exact h1
            exact ⟨⟨by simp, .inr this⟩, this⟩
        refine ⟨fun x hx => ?_, fun _ => ⟨Z, _, rfl, hb.2⟩⟩
        rcases List.mem_append.mp hx with hx | hx
        · exact ih.1 x (List.mem_append_left _ hx)
        · rw [List.mem_singleton.mp hx]; exact hb.1
      · dsimp only
        refine ⟨fun x hx => ?_, fun _ => ⟨R, _, rfl, one.2⟩⟩
        rcases List.mem_append.mp hx with hx | hx
        · exact ih.1 x hx
        · rw [List.mem_singleton.mp hx]; exact one.1
theorem runs_run {l : List Nat} (h : Okl l) : ∀ r ∈ runs l, Run r := (runs_inv _ l rfl h).1
theorem runs_grow2 (l : List Nat) : ∀ (n : Nat) (k : List Nat), k.length = n → (∃ M, runs (l ++ k) = runs l ++ M) ∨ (∃ Z r g M, runs l = Z ++ [r] ∧ runs (l ++ k) = Z ++ ((r ++ g) :: M) ∧ g.cps.toList ≠ [])
  | 0, k, hn => by
    have : k = [] := List.length_eq_zero_iff.mp hn
    subst this
    exact .inl ⟨[], by simp⟩
  | n + 1, k, hn => by
    obtain ⟨k, c, rfl⟩ : ∃ k' c, k = k' ++ [c] := by
      have : k ≠ [] := fun z => by rw [z] at hn; cases hn
      exact ⟨_, _, (List.dropLast_concat_getLast this).symm⟩
    have ih := runs_grow2 l n k (by simpa using hn)
    have hne := runs_ne (l ++ k)
    rw [← List.append_assoc]
    rw [show runs (l ++ k ++ [c]) = (runsStep (runsFold (l ++ k)) c).1 by unfold runs; rw [runsFold_snoc]]
    unfold runs at ih ⊢
    generalize runsFold (l ++ k) = st at ih hne ⊢
    obtain ⟨R, p⟩ := st
    dsimp only at ih hne
    unfold runsStep
    split
    · exact ih
    · split
      · rename_i hg
        have hR := hne hg.1
        obtain ⟨Y, y, rfl⟩ : ∃ Y y, R = Y ++ [y] := ⟨_, _, (List.dropLast_concat_getLast hR).symm⟩
        have e : (Y ++ [y]).dropLast ++ [(Y ++ [y]).getLastD Str.empty ++ ⟨#[c]⟩] = Y ++ [y ++ ⟨#[c]⟩] := by simp [List.getLastD_eq_getLast?]
        dsimp only
        rw [e]
        rcases ih with ⟨M, hM⟩ | ⟨Z, r, g, M, h1, h2, h3⟩
        · rcases List.eq_nil_or_concat M with rfl | ⟨M', z, rfl⟩
          · rw [List.append_nil] at hM
            exact .inr ⟨Y, y, ⟨#[c]⟩, [], hM.symm, rfl, by simp⟩
          · rw [List.concat_eq_append, ← List.append_assoc] at hM
            have a1 := List.append_inj_left' hM rfl
            have a2 := List.append_inj_right' hM rfl
            cases a2
            exact .inl ⟨M' ++ [y ++ ⟨#[c]⟩], by rw [a1, List.append_assoc]⟩
        · rcases List.eq_nil_or_concat M with rfl | ⟨M', z, rfl⟩
          · have a1 := List.append_inj_left' h2 rfl
            have a2 := List.append_inj_right' h2 rfl
            cases a2
            refine .inr ⟨Z, r, g ++ ⟨#[c]⟩, [], h1, ?_, by rw [str_app]; simp⟩
            rw [a1]
            congr 2
            show (⟨(r.cps ++ g.cps) ++ #[c]⟩ : Str) = ⟨r.cps ++ (g.cps ++ #[c])⟩
            rw [Array.append_assoc]
          · rw [List.concat_eq_append, show Z ++ (r ++ g) :: (M' ++ [z]) = (Z ++ (r ++ g) :: M') ++ [z] by simp] at h2
            have a1 := List.append_inj_left' h2 rfl
            have a2 := List.append_inj_right' h2 rfl
            cases a2
            exact .inr ⟨Z, r, g, M' ++ [y ++ ⟨#[c]⟩], h1, by rw [a1]; simp, h3⟩
      · rcases ih with ⟨M, hM⟩ | ⟨Z, r, g, M, h1, h2, h3⟩
        · exact .inl ⟨M ++ [⟨#[c]⟩], by rw [hM, List.append_assoc]⟩
        · exact .inr ⟨Z, r, g, M ++ [⟨#[c]⟩], h1, by rw [h2]; simp, h3⟩
noncomputable def cvR (r : Str) : List PyData := (cvP r).map itmD
theorem cvR_dig {r : Str} (hne : r.cps.toList ≠ []) (h : ∀ c ∈ r.cps.toList, dig c = true) (hz : r.cps.toList.length ≤ 4300) : cvR r = [.int 100, .int (val r.cps.toList)] := by
  obtain ⟨c, l, e⟩ := List.exists_cons_of_ne_nil hne
  unfold cvR cvP
  rw [contains_no e (dig_not (h c (by rw [e]; simp))).2.1, if_neg Bool.false_ne_true, int_digs h hne hz]
  rfl
theorem cvR_ltr {r : Str} (hne : r.cps.toList ≠ []) (h : ∀ c ∈ r.cps.toList, ltr c = true) : cvR r = [.int (stage r), .str r] := by
  obtain ⟨c, l, e⟩ := List.exists_cons_of_ne_nil hne
  unfold cvR cvP
  rw [contains_no e (ltr_not (h c (by rw [e]; simp))).2.1, if_neg Bool.false_ne_true, int_ltrs h hne]
  rfl
theorem eqv_int (a b : Int) : PyData.eqv (.int a) (.int b) = (a == b) := by simp [PyData.eqv]
theorem eqv_str (a b : Str) : PyData.eqv (.str a) (.str b) = (a == b) := by simp [PyData.eqv]
theorem eqv_itm (a : Itm) : PyData.eqv (itmD a) (itmD a) = true := by cases a <;> simp [itmD, eqv_int, eqv_str]
theorem lt_front (p : List Itm) (a b : List PyData) : ltBy lt1 (p.map itmD ++ a) (p.map itmD ++ b) = ltBy lt1 a b := by
  induction p with
  | nil => rfl
  | cons x p ih =>
    rw [List.map_cons, List.cons_append, List.cons_append, ltBy, if_pos (eqv_itm x), ih]
theorem lt_int {a b : Int} {xs ys : List PyData} (h : a < b) : ltBy lt1 (.int a :: xs) (.int b :: ys) = some true ∧ ltBy lt1 (.int b :: ys) (.int a :: xs) = some false := by
  rw [ltBy, ltBy, eqv_int, eqv_int, if_neg (by simp; omega), if_neg (by simp; omega)]
  constructor
  · show some (decide (a < b)) = _
    rw [decide_eq_true h]
  · show some (decide (b < a)) = _
    rw [decide_eq_false (by omega)]
theorem lt_same {a : Int} {xs ys : List PyData} : ltBy lt1 (.int a :: xs) (.int a :: ys) = ltBy lt1 xs ys := by
  rw [ltBy, eqv_int, if_pos (by simp)]
theorem lt_str {a b : Str} {xs ys : List PyData} (h : a.cps.toList < b.cps.toList) (h' : ¬ b.cps.toList < a.cps.toList) (hne : a ≠ b) : ltBy lt1 (.str a :: xs) (.str b :: ys) = some true ∧ ltBy lt1 (.str b :: ys) (.str a :: xs) = some false := by
  rw [ltBy, ltBy, eqv_str, eqv_str, if_neg (by simpa using hne), if_neg (by simpa using hne.symm)]
  constructor
  · show some (decide (a.cps.toList < b.cps.toList)) = _
    rw [decide_eq_true h]
  · show some (decide (b.cps.toList < a.cps.toList)) = _
    rw [decide_eq_false h']
theorem lt_app : ∀ (x y : List Nat), y ≠ [] → x < x ++ y ∧ ¬ (x ++ y) < x
  | [], y, h => by
    obtain ⟨c, l, rfl⟩ := List.exists_cons_of_ne_nil h
    exact ⟨List.Lex.nil, fun q => by cases q⟩
  | c :: x, y, h => by
    have ih := lt_app x y h
    refine ⟨List.Lex.cons ih.1, fun q => ?_⟩
    cases q with
    | rel q => exact Nat.lt_irrefl _ q
    | cons q => exact ih.2 q
theorem cvR_ne {r : Str} (h : Run r) (hz : r.cps.toList.length ≤ 4300) : ∃ x y, cvR r = [x, y] := by
  rcases h.2 with hd | hl
  · exact ⟨_, _, cvR_dig h.1 hd hz⟩
  · exact ⟨_, _, cvR_ltr h.1 hl⟩
theorem lt_nil {M : List Str} (hM : ∀ r ∈ M, Run r ∧ r.cps.toList.length ≤ 4300) : ltBy lt1 [] (M.flatMap cvR) = some (decide (M ≠ [])) ∧ ltBy lt1 (M.flatMap cvR) [] = some false := by
  cases M with
  | nil => exact ⟨rfl, rfl⟩
  | cons r M =>
    obtain ⟨x, y, e⟩ := cvR_ne (hM r (by simp)).1 (hM r (by simp)).2
    rw [List.flatMap_cons, e]
    exact ⟨rfl, rfl⟩
end Mine
end
section
open PySem PySem.Calls PySem.W PyProof.Rows
set_option Elab.async false
set_option maxRecDepth 100000
namespace Mine
theorem flat_cvR (R : List Str) : (R.flatMap cvP).map itmD = R.flatMap cvR := by
  induction R with
  | nil => rfl
  | cons r R ih => rw [List.flatMap_cons, List.flatMap_cons, List.map_append, ih]; rfl
theorem noughts {x : Str} : x = Txt.mul "0" x.length ↔ ∀ c ∈ x.cps.toList, c = 48 := by
  have e : (Txt.mul "0" x.length).cps.toList = List.replicate x.cps.toList.length 48 := by
    have := mul_one_list 48 (x.length : Int)
    rw [show (("0" : Str)) = ⟨#[48]⟩ from by decide +kernel, this]
    simp [Str.length]
  constructor
  · intro h c hc
    rw [h, e] at hc
    exact (List.mem_replicate.mp hc).2
  · intro h
    have h1 : x.cps.toList = List.replicate x.cps.toList.length 48 := List.eq_replicate_iff.mpr ⟨rfl, h⟩
    have h2 : x.cps.toList = (Txt.mul "0" x.length).cps.toList := h1.trans e.symm
    have h3 : x.cps = (Txt.mul "0" x.length).cps := Array.ext' h2
    cases x; exact congrArg Str.mk h3
theorem run_kind {r g : Str} (h : Run r) (h' : Run (r ++ g)) : ((∀ c ∈ r.cps.toList, dig c = true) ∧ ∀ c ∈ (r ++ g : Str).cps.toList, dig c = true) ∨ ((∀ c ∈ r.cps.toList, ltr c = true) ∧ ∀ c ∈ (r ++ g : Str).cps.toList, ltr c = true) := by
  obtain ⟨c, l, e⟩ := List.exists_cons_of_ne_nil h.1
  have hc : c ∈ r.cps.toList := by rw [e]; simp
  have hc' : c ∈ (r ++ g : Str).cps.toList := by rw [str_app]; exact List.mem_append_left _ hc
  rcases h.2 with h1 | h1
  · rcases h'.2 with h2 | h2
    · exact .inl ⟨h1, h2⟩
    · have := (dig_not (h1 c hc)).1; rw [h2 c hc'] at this; cases this
  · rcases h'.2 with h2 | h2
    · have := (dig_not (h2 c hc')).1; rw [h1 c hc] at this; cases this
    · exact .inr ⟨h1, h2⟩
theorem cmp_runs {R R' : List Str} (hR : ∀ r ∈ R, Run r ∧ r.cps.toList.length ≤ 4300) (hR' : ∀ r ∈ R', Run r ∧ r.cps.toList.length ≤ 4300)
    (hg : (∃ M, R' = R ++ M) ∨ (∃ Z r g M, R = Z ++ [r] ∧ R' = Z ++ ((r ++ g) :: M) ∧ g.cps.toList ≠ [])) :
    ∃ r1 r2, ltBy lt1 (R.flatMap cvR) (R'.flatMap cvR) = some r1 ∧ ltBy lt1 (R'.flatMap cvR) (R.flatMap cvR) = some r2 ∧ (if r1 then (1 : Int) else if r2 then -1 else 0) = than R R' := by
  rcases hg with ⟨M, rfl⟩ | ⟨Z, r, g, M, rfl, rfl, hgne⟩
  · have hM := lt_nil fun r hr => hR' r (List.mem_append_right _ hr)
    refine ⟨decide (M ≠ []), false, ?_, ?_, ?_⟩
    · rw [List.flatMap_append, ← flat_cvR R]
      have := lt_front (R.flatMap cvP) [] (M.flatMap cvR)
      rw [List.append_nil] at this
      rw [this, hM.1]
    · rw [List.flatMap_append, ← flat_cvR R]
      have := lt_front (R.flatMap cvP) (M.flatMap cvR) []
      rw [List.append_nil] at this
      rw [this, hM.2]
    · have ht : thanTail R (R ++ M) = if M ≠ [] then 1 else 0 := by
        unfold thanTail
        cases M with
        | nil => simp
        | cons => simp
      have hthan : than R (R ++ M) = thanTail R (R ++ M) := by
        unfold than
        rcases List.eq_nil_or_concat R with rfl | ⟨Z, r, rfl⟩
        · rfl
        · rw [List.concat_eq_append, List.getLast?_concat]
          show thanOf r _ _ = _
          have : (Z ++ [r] ++ M).getD ((Z ++ [r]).length - 1) Str.empty = r := by simp
          rw [this]
          exact if_pos rfl
      rw [hthan, ht]
      by_cases h : M = [] <;> simp [h]
  · have h1 := hR r (by simp)
    have h2 := hR' (r ++ g) (by simp)
    have hM := lt_nil (M := M) fun r hr => hR' r (by simp [hr])
    have hne : r ≠ r ++ g := fun q => by
      have := congrArg (fun z : Str => z.cps.toList.length) q
      rw [str_app] at this
      simp at this
      exact hgne (by simp [this])
    have hthan : than (Z ++ [r]) (Z ++ ((r ++ g) :: M)) = thanOf r (r ++ g) (if M ≠ [] then 1 else 0) := by
      unfold than
      rw [List.getLast?_concat]
      show thanOf r _ _ = _
      have e1 : (Z ++ (r ++ g) :: M).getD ((Z ++ [r]).length - 1) Str.empty = r ++ g := by simp
      have e2 : thanTail (Z ++ [r]) (Z ++ ((r ++ g) :: M)) = if M ≠ [] then 1 else 0 := by
        unfold thanTail
        cases M with
        | nil => simp
        | cons => simp
      rw [e1, e2]
    rw [hthan]
    have a1 : (Z ++ [r]).flatMap cvR = (Z.flatMap cvP).map itmD ++ (cvR r ++ []) := by rw [List.flatMap_append, flat_cvR]; simp
    have a2 : (Z ++ ((r ++ g) :: M)).flatMap cvR = (Z.flatMap cvP).map itmD ++ (cvR (r ++ g) ++ M.flatMap cvR) := by rw [List.flatMap_append, flat_cvR, List.flatMap_cons]
    rw [a1, a2, lt_front, lt_front]
    obtain ⟨c, l, e⟩ := List.exists_cons_of_ne_nil h1.1.1
    have hc : c ∈ r.cps.toList := by rw [e]; simp
    have hfirst : r.cps.getD 0 0 = c := by
      have : r.cps[0]? = some c := by rw [← Array.getElem?_toList, e]; rfl
      rw [Array.getD_eq_getD_getElem?, this]; rfl
    unfold thanOf
    rw [if_neg hne, hfirst]
    rcases run_kind h1.1 h2.1 with ⟨k1, k2⟩ | ⟨k1, k2⟩
    · rw [cvR_dig h1.1.1 k1 h1.2, cvR_dig h2.1.1 k2 h2.2, if_neg (by have := dig_iff.mp (k1 c hc); omega)]
      have hv : val (r ++ g : Str).cps.toList = val r.cps.toList * 10 ^ g.cps.toList.length + val g.cps.toList := by rw [str_app, val_app]
      have hp : 10 ≤ 10 ^ g.cps.toList.length := by
        have : 10 ^ 1 ≤ 10 ^ g.cps.toList.length := Nat.pow_le_pow_right (by omega) (by have := List.length_pos_iff.mpr hgne; omega)
        simpa using this
      show ∃ r1 r2, ltBy lt1 (.int 100 :: .int (val r.cps.toList) :: ([] ++ [])) (.int 100 :: .int (val (r ++ g : Str).cps.toList) :: ([] ++ M.flatMap cvR)) = some r1 ∧ ltBy lt1 (.int 100 :: .int (val (r ++ g : Str).cps.toList) :: ([] ++ M.flatMap cvR)) (.int 100 :: .int (val r.cps.toList) :: ([] ++ [])) = some r2 ∧ _
      rw [lt_same, lt_same]
      by_cases hz : val (r ++ g : Str).cps.toList = 0
      · rw [if_pos (noughts.mpr ((val_zero k2).mp hz))]
        have hr : val r.cps.toList = 0 := by
          rw [hz] at hv
          have h5 : val r.cps.toList * 10 ^ g.cps.toList.length = 0 := by omega
          rcases Nat.mul_eq_zero.mp h5 with h | h
          · exact h
          · omega
        rw [hr, hz, lt_same, lt_same, List.nil_append, List.nil_append]
        refine ⟨_, _, hM.1, hM.2, ?_⟩
        by_cases h : M = [] <;> simp [h]
      · rw [if_neg fun q => hz ((val_zero k2).mpr (noughts.mp q))]
        have hlt : val r.cps.toList < val (r ++ g : Str).cps.toList := by
          by_cases h0 : val r.cps.toList = 0
          · omega
          · have : val r.cps.toList * 10 ≤ val r.cps.toList * 10 ^ g.cps.toList.length := Nat.mul_le_mul_left _ hp
            omega
        have := lt_int (xs := [] ++ []) (ys := [] ++ M.flatMap cvR) (Int.ofNat_lt.mpr hlt)
        exact ⟨_, _, this.1, this.2, rfl⟩
    · rw [cvR_ltr h1.1.1 k1, cvR_ltr h2.1.1 k2, if_pos (by have := ltr_iff.mp (k1 c hc); omega)]
      show ∃ r1 r2, ltBy lt1 (.int (stage r) :: .str r :: ([] ++ [])) (.int (stage (r ++ g)) :: .str (r ++ g) :: ([] ++ M.flatMap cvR)) = some r1 ∧ ltBy lt1 (.int (stage (r ++ g)) :: .str (r ++ g) :: ([] ++ M.flatMap cvR)) (.int (stage r) :: .str r :: ([] ++ [])) = some r2 ∧ _
      by_cases hl : stage (r ++ g) < stage r
      · have := lt_int (xs := .str (r ++ g) :: ([] ++ M.flatMap cvR)) (ys := .str r :: ([] ++ [])) hl
        exact ⟨_, _, this.2, this.1, by rw [if_pos hl]; rfl⟩
      · rw [if_neg hl]
        by_cases he : stage r = stage (r ++ g)
        · rw [he, lt_same, lt_same]
          have hlt := lt_app r.cps.toList g.cps.toList hgne
          have := lt_str (xs := [] ++ []) (ys := [] ++ M.flatMap cvR) (a := r) (b := r ++ g) (by rw [str_app]; exact hlt.1) (by rw [str_app]; exact hlt.2) hne
          exact ⟨_, _, this.1, this.2, rfl⟩
        · have := lt_int (xs := .str r :: ([] ++ [])) (ys := .str (r ++ g) :: ([] ++ M.flatMap cvR)) (a := stage r) (b := stage (r ++ g)) (by omega)
          exact ⟨_, _, this.1, this.2, rfl⟩
theorem len_grow {R R' : List Str} (hg : (∃ M, R' = R ++ M) ∨ (∃ Z r g M, R = Z ++ [r] ∧ R' = Z ++ ((r ++ g) :: M) ∧ g.cps.toList ≠ [])) : R.length ≤ R'.length := by
  rcases hg with ⟨M, rfl⟩ | ⟨Z, r, g, M, rfl, rfl, _⟩ <;> simp
theorem runs_sz {l : List Nat} (h : Okl l) : (runs l).length ≤ l.length ∧ ∀ r ∈ runs l, r.cps.toList.length ≤ l.length := by
  have hs := runs_len l
  exact ⟨hs.1, fun r hr => by have := hs.2 r hr; rwa [Array.length_toList]⟩
theorem itms_lay {l : List Itm} (h : ∀ x, Itm.s x ∈ l → PyData.strOk x = true) : PyData.canLayAll0 (l.map itmD) = true ∧ PyData.depthAll (l.map itmD) = 0 := by
  induction l with
  | nil => exact ⟨by simp [PyData.canLayAll0], by simp [PyData.depthAll]⟩
  | cons a l ih =>
    have := ih fun x hx => h x (List.mem_cons_of_mem _ hx)
    cases a with
    | i n => simp [itmD, PyData.canLayAll0, PyData.depthAll, PyData.canLay0, PyData.depth, this.1, this.2]
    | s x => simp [itmD, PyData.canLayAll0, PyData.depthAll, PyData.canLay0, PyData.depth, this.1, this.2, h x (by simp)]
theorem cvP_str {r : Str} (h : Run r) {x : Str} (hx : Itm.s x ∈ cvP r) : PyData.strOk x = true := by
  have hx' : x = r := by
    unfold cvP at hx
    split at hx
    · cases hx
    · split at hx <;> simp at hx
      exact hx
  rw [hx']
  refine asc_ok ?_
  unfold asc
  rw [List.all_eq_true]
  intro c hc
  refine decide_eq_true ?_
  rcases h.2 with h | h
  · have := dig_iff.mp (h c hc); omega
  · have := ltr_iff.mp (h c hc); omega
theorem cv_lay {x : Str} (h : Okt x) : PyData.canLayAll0 ((cv x).map itmD) = true ∧ PyData.depthAll ((cv x).map itmD) = 0 := by
  rw [cv_runs h]
  refine itms_lay fun y hy => ?_
  obtain ⟨r, hr, hy⟩ := List.mem_flatMap.mp hy
  exact cvP_str (runs_run h r hr) hy
end Mine
end
section
open PySem PySem.Calls PySem.W PyProof.Rows
set_option Elab.async false
set_option maxRecDepth 100000
namespace Mine
theorem ptext_nil : (ptext []).cps.toList = [] := by decide +kernel
theorem ptext_cons (q : Str × Str) (l : List (Str × Str)) : (ptext (q :: l)).cps.toList = (q.1.cps.toList ++ q.2.cps.toList) ++ (ptext l).cps.toList := by
  unfold ptext
  rw [List.map_cons, cat_cons, str_app, cat_two, str_app]
theorem ptext_app : ∀ (l k : List (Str × Str)), (ptext (l ++ k)).cps.toList = (ptext l).cps.toList ++ (ptext k).cps.toList
  | [], k => by rw [ptext_nil]; rfl
  | q :: l, k => by rw [List.cons_append, ptext_cons, ptext_cons, ptext_app l k]; simp only [List.append_assoc]
structure Pcs (ds : List (Str × Str)) : Prop where
  n : ds.length ≤ 14
  ok : ∀ q ∈ ds, Okt q.1 ∧ Okt q.2 ∧ q.1.length + q.2.length ≤ 6
theorem okl_text {l : List (Str × Str)} (h : ∀ q ∈ l, Okt q.1 ∧ Okt q.2 ∧ q.1.length + q.2.length ≤ 6) : Okt (ptext l) := by
  induction l with
  | nil => intro c hc; rw [ptext_nil] at hc; cases hc
  | cons q l ih =>
    intro c hc
    rw [ptext_cons] at hc
    have hq := h q (by simp)
    rcases List.mem_append.mp hc with hc | hc
    · rcases List.mem_append.mp hc with hc | hc
      · exact hq.1 c hc
      · exact hq.2.1 c hc
    · exact ih (fun x hx => h x (by simp [hx])) c hc
theorem len_text {l : List (Str × Str)} : (ptext l).cps.toList.length = plen l := by
  induction l with
  | nil => rw [ptext_nil]; rfl
  | cons q l ih =>
    rw [ptext_cons, List.length_append, ih, List.length_append]
    unfold plen
    rw [List.map_cons, List.sum_cons]
    simp [Str.length]
theorem plen_le {l : List (Str × Str)} (h : ∀ q ∈ l, q.1.length + q.2.length ≤ 6) : plen l ≤ 6 * l.length := by
  induction l with
  | nil => exact Nat.le_refl 0
  | cons q l ih =>
    have h1 := h q (by simp)
    have h2 := ih fun x hx => h x (by simp [hx])
    unfold plen at h2 ⊢
    rw [List.map_cons, List.sum_cons, List.length_cons]
    omega
theorem okt_asc {x : Str} (h : Okt x) : asc x = true := by
  unfold asc
  rw [List.all_eq_true]
  exact fun c hc => decide_eq_true (okc_low (h c hc))
theorem take_split {ds : List (Str × Str)} {i j : Nat} (h : i ≤ j) : ds.take j = ds.take i ++ (ds.take j).drop i := by
  have := (List.take_append_drop i (ds.take j)).symm
  rwa [List.take_take, Nat.min_eq_left h] at this
noncomputable def esL : List (List Itm) := [[], [.i 0, .s "x"], [.i 10, .s "dev"], [.i 20, .s "alpha"], [.i 30, .s "beta"], [.i 40, .s "c"], [.i 50, .s "rc"], [.i 100, .i 0], [.i 200, .s "pl"]]
theorem ends_cv : [] :: endsL.map (fun e => (runs e.cps.toList).flatMap cvP) = esL := by decide +kernel
theorem ends_ok : ∀ e ∈ endsL, (e.cps.toList.all okc = true ∧ e.cps.toList.length ≤ 6) ∧ e.cps.toList.head? = some 46 := by decide +kernel
theorem es_lt : ∀ (i : Nat) (x y : List Itm), esL[i]? = some x → esL[i + 1]? = some y → ltBy lt1 (x.map itmD) (y.map itmD) = some true
  | 0, x, y, h1, h2 => by cases h1; cases h2; rfl
  | 1, x, y, h1, h2 => by cases h1; cases h2; exact (lt_int (by decide)).1
  | 2, x, y, h1, h2 => by cases h1; cases h2; exact (lt_int (by decide)).1
  | 3, x, y, h1, h2 => by cases h1; cases h2; exact (lt_int (by decide)).1
  | 4, x, y, h1, h2 => by cases h1; cases h2; exact (lt_int (by decide)).1
  | 5, x, y, h1, h2 => by cases h1; cases h2; exact (lt_int (by decide)).1
  | 6, x, y, h1, h2 => by cases h1; cases h2; exact (lt_int (by decide)).1
  | 7, x, y, h1, h2 => by cases h1; cases h2; exact (lt_int (by decide)).1
  | i + 8, x, y, h1, h2 => by
    have := (List.getElem?_eq_some_iff.mp h2).1
    have e : esL.length = 9 := rfl
    omega
theorem okt_app {x y : Str} (h : Okt x) (k : Okt y) : Okt (x ++ y) := fun c hc => by
  rw [str_app] at hc
  rcases List.mem_append.mp hc with hc | hc
  · exact h c hc
  · exact k c hc
theorem ends_okt {e : Str} (h : e ∈ endsL) : Okt e := fun c hc => List.all_eq_true.mp (ends_ok e h).1.1 c hc
theorem cv_end {T e : Str} (hT : Okt T) (he : e ∈ endsL) : cv (T ++ e) = cv T ++ (runs e.cps.toList).flatMap cvP := by
  rw [cv_runs (okt_app hT (ends_okt he)), cv_runs hT, str_app, runs_break, List.flatMap_append]
  intro d r q
  have := (ends_ok e he).2
  rw [q] at this
  cases this
  exact .inl (by decide +kernel)
theorem rs_eq {T : Str} (hT : Okt T) : rsOf T = esL.map fun e => (cv T).map itmD ++ e.map itmD := by
  rw [← ends_cv]
  unfold rsOf
  rw [List.map_cons, List.map_nil, List.append_nil, List.map_map]
  congr 1
  refine List.map_congr_left fun e he => ?_
  rw [cv_end hT he, List.map_append]; rfl
theorem rises {T : Str} (hT : Okt T) : Rises (rsOf T) := by
  refine ⟨rfl, fun r hr => ?_, fun i x y hx hy => ?_⟩
  · unfold rsOf at hr
    rcases List.mem_cons.mp hr with rfl | hr
    · have := cv_lay hT; exact ⟨this.1, by rw [this.2]; omega⟩
    · obtain ⟨e, he, rfl⟩ := List.mem_map.mp hr
      have := cv_lay (okt_app hT (ends_okt he)); exact ⟨this.1, by rw [this.2]; omega⟩
  · rw [rs_eq hT, List.getElem?_map] at hx hy
    obtain ⟨a, ha, rfl⟩ := Option.map_eq_some_iff.mp hx
    obtain ⟨b, hb, rfl⟩ := Option.map_eq_some_iff.mp hy
    rw [lt_front]
    exact es_lt i a b ha hb
theorem strs_shaped {l : List Str} (h : ∀ x ∈ l, asc x = true) : SeqAt.shaped (strsD l) = true := by
  have key : PyData.canLayAll0 (l.map .str) = true ∧ PyData.depthAll (l.map .str) = 0 := by
    induction l with
    | nil => exact ⟨by simp [PyData.canLayAll0], by simp [PyData.depthAll]⟩
    | cons a l ih =>
      have := ih fun x hx => h x (List.mem_cons_of_mem _ hx)
      simp [PyData.canLayAll0, PyData.depthAll, PyData.canLay0, PyData.depth, this.1, this.2, asc_ok (h a (by simp))]
  simp [SeqAt.shaped, strsD, PyData.canLay0, PyData.depth, key.1, key.2]
theorem plain_of {ds : List (Str × Str)} (P : Pcs ds) : Plain ds := by
  have hok : ∀ i, ∀ q ∈ ds.take i, Okt q.1 ∧ Okt q.2 ∧ q.1.length + q.2.length ≤ 6 := fun i q hq => P.ok q (List.mem_of_mem_take hq)
  have hO : ∀ i, Okt (ptext (ds.take i)) := fun i => okl_text (hok i)
  have hOd : Okt (ptext ds) := okl_text P.ok
  have hp : plen ds ≤ 84 := Nat.le_trans (plen_le fun q hq => (P.ok q hq).2.2) (by have := P.n; omega)
  have hlz : ∀ i, (ptext (ds.take i)).cps.toList.length ≤ 84 := fun i => by rw [len_text]; exact Nat.le_trans (plen_take ds i) hp
  have hsz : ∀ i, (ptext (ds.take i)).cps.size ≤ 84 := fun i => by rw [← Array.length_toList]; exact hlz i
  have hsd : (ptext ds).cps.size ≤ 84 := by rw [← Array.length_toList, len_text]; exact hp
  have hgr : ∀ i j, i < j → (∃ M, runsI ds j = runsI ds i ++ M) ∨ (∃ Z r g M, runsI ds i = Z ++ [r] ∧ runsI ds j = Z ++ ((r ++ g) :: M) ∧ g.cps.toList ≠ []) := fun i j hij => by
    unfold runsI
    rw [runsOf_eq, runsOf_eq, take_split (ds := ds) (Nat.le_of_lt hij), ptext_app]
    exact runs_grow2 _ _ _ rfl
  have hrun : ∀ i, ∀ r ∈ runsI ds i, Run r ∧ r.cps.toList.length ≤ 84 := fun i r hr => ⟨runs_run (hO i) r hr, Nat.le_trans ((runs_sz (hO i)).2 r hr) (hlz i)⟩
  have hcvI : ∀ i, cvI ds i = (runsI ds i).flatMap cvR := fun i => by
    unfold cvI runsI
    rw [cv_runs (hO i), flat_cvR, runsOf_eq]
  refine ⟨⟨by have := P.n; omega, fun q hq => ⟨okt_asc (P.ok q hq).1, okt_asc (P.ok q hq).2.1⟩, by omega, fun i => text_ok (hO i) (by have := hsz i; omega), fun i => ?_⟩, ⟨fun i j hij hj => ?_, fun i => ?_, fun i j hij _ _ => len_grow (hgr i j hij), fun i r hr => ?_, fun i => ⟨?_, fun r hr => ?_⟩⟩, ?_, rises hOd, fun e he => text_ok (okt_app hOd (ends_okt he)) ?_, ?_⟩
  · have := cv_lay (hO i)
    simp [SeqAt.shaped, cvD, PyData.canLay0, PyData.depth, this.1, this.2]
  · rw [hcvI i, hcvI j]
    exact cmp_runs (fun r hr => ⟨(hrun i r hr).1, Nat.le_trans (hrun i r hr).2 (by omega)⟩) (fun r hr => ⟨(hrun j r hr).1, Nat.le_trans (hrun j r hr).2 (by omega)⟩) (hgr i j hij)
  · have := cv_lay (hO i)
    exact ⟨this.1, by unfold cvI; rw [this.2]; omega⟩
  · rw [← Array.length_toList]; exact List.length_pos_iff.mpr (hrun i r hr).1.1
  · exact Nat.le_trans (runs_sz (hO i)).1 (Nat.le_trans (hlz i) (by omega))
  · have := (hrun i r hr).2
    rw [Array.length_toList] at this
    show r.cps.size ≤ 1000
    omega
  · refine strs_shaped fun x hx => ?_
    unfold textsOf at hx
    obtain ⟨i, _, rfl⟩ := List.mem_map.mp hx
    exact okt_asc (hO i)
  · rw [← Array.length_toList, str_app, List.length_append]
    have := (ends_ok e he).1.2
    rw [← Array.length_toList] at hsd
    omega
  · show (ptext ds).cps.size ≤ 10000
    omega
noncomputable def okp (q : Str × Str) : Bool := q.1.cps.toList.all okc && q.2.cps.toList.all okc && decide (q.1.length + q.2.length ≤ 6)
theorem okp_iff {q : Str × Str} (h : okp q = true) : Okt q.1 ∧ Okt q.2 ∧ q.1.length + q.2.length ≤ 6 := by
  unfold okp at h
  simp only [Bool.and_eq_true, decide_eq_true_eq] at h
  exact ⟨fun c hc => List.all_eq_true.mp h.1.1 c hc, fun c hc => List.all_eq_true.mp h.1.2 c hc, h.2⟩
theorem deeds0_ok : ∀ q ∈ deeds0, okp q = true := by decide +kernel
theorem mem_getD {α : Type} {l : List α} {i : Nat} {d : α} : l.getD i d ∈ d :: l := by
  rw [List.getD_eq_getElem?_getD]
  cases h : l[i]? with
  | none => simp
  | some x => exact List.mem_cons_of_mem _ (List.mem_of_getElem? h)
theorem deed_ok0 : ∀ a ∈ Str.empty :: gapsL, ∀ b ∈ Str.empty :: piecesL, okp (a, b) = true := by decide +kernel
theorem pcs (ns : List Int) : Pcs (deedsOf ns) := by
  refine ⟨?_, fun q hq => okp_iff ?_⟩
  · unfold deedsOf
    have : deeds0.length = 8 := rfl
    rw [List.length_append, List.length_map, List.length_take]
    omega
  · unfold deedsOf at hq
    rcases List.mem_append.mp hq with hq | hq
    · exact deeds0_ok q hq
    · obtain ⟨x, _, rfl⟩ := List.mem_map.mp hq
      exact deed_ok0 _ mem_getD _ mem_getD
theorem plain_law (ns : List Int) : Plain (deedsOf ns) := plain_of (pcs ns)
end Mine
end
section
open PySem PySem.Calls PySem.W PyProof.Rows
set_option Elab.async false
set_option maxRecDepth 100000
namespace Mine
noncomputable def oAt (K : Frag) (a : Addr) : Obj := (K.lookup a).getD default
noncomputable def fdAt (K : Frag) (a : Addr) : FuncData := match (oAt K a).data with | .func fd => fd | _ => default
noncomputable def flds (K : Frag) (a : Addr) : Array Value := match (oAt K a).data with | .fields vs => vs | _ => #[]
noncomputable def seqAt (K : Frag) (a : Addr) : Array Value := match (oAt K a).data with | .seq vs _ => vs | _ => #[]
noncomputable def epAt (K : Frag) (a : Addr) : Nat := match (oAt K a).data with | .seq _ n => n | .dict _ n => n | _ => 0
noncomputable def esAt (K : Frag) (a : Addr) : List DictEntry := match (oAt K a).data with | .dict es _ => es.toList | _ => []
noncomputable def cdAt (K : Frag) (a : Addr) : ClassData := match (oAt K a).data with | .cls c => c | _ => default
noncomputable def tokV : Value → Tok | .str _ t => t | .int _ t => t | _ => default
noncomputable def fnObj (K : Frag) (a code : Addr) (q : Str) (st : Option Stmt) (clo : List (Str × Addr)) (dfl : Value) : Obj :=
  { cls := .type "function", dict := (oAt K a).dict, slots := (oAt K a).slots,
    data := .func { name := (fdAt K a).name, qualname := q, params := parsOf st, body := .stmts (bodyOf st), scope := scopeOf st, globals := mainGlobals, closure := clo, defaults := dfl, kwdefaults := .none, doc := (fdAt K a).doc, pyModule := (fdAt K a).pyModule, annotations := none, code := .ref code, closureTuple := (fdAt K a).closureTuple, builtins := builtinsNs } }
structure FnK (K : Frag) (a code : Addr) (q file : Str) (st : Option Stmt) (clo : List (Str × Addr)) (dfl : Value) : Prop where
  fn : K.lookup a = some (fnObj K a code q st clo dfl)
  c1 : K.lookup code = some { cls := .type "code", dict := (oAt K code).dict, data := .fields (flds K code), slots := (oAt K code).slots }
  c2 : (flds K code)[1]? = some (.str q (tokV ((flds K code)[1]?.getD .none)))
  c3 : (flds K code)[2]? = some (.str file (tokV ((flds K code)[2]?.getD .none)))
section
variable {K : Frag} {h : Heap} {a code : Addr} {q file : Str} {st : Option Stmt} {clo : List (Str × Addr)} {dfl : Value} {prog : Program} {w : World} {mg mb : Str → Option Value}
theorem FnK.is (f : FnK K a code q file st clo dfl) (X : K.In h) : IsFn h a code q st clo dfl :=
  ⟨_, _, _, _, _, X _ _ f.fn, rfl, rfl, ⟨code, _, _, _, rfl, X _ _ f.c1, rfl, f.c2⟩⟩
theorem FnK.atFile (f : FnK K a code q prog.main.file st clo dfl) (X : K.In h) (hs : (prog.main.scope.names.lookup ("super" : Str)).isSome = false) : FileOk prog h code :=
  ⟨⟨_, _, _, X _ _ f.c1, rfl, f.c3⟩, hs⟩
structure TbK (K : Frag) (c P : Addr) : Prop where
  t1 : K.lookup c = some { cls := .type "code", dict := (oAt K c).dict, data := .fields (flds K c), slots := (oAt K c).slots }
  t2 : (flds K c)[11]? = some (.ref P)
  t3 : ∃ file tf flags tg inF text tt, (flds K c).getD 18 .none = .str file tf ∧ (flds K c).getD 7 .none = .int flags tg ∧ (flds K c).getD 9 .none = .bool inF ∧ (flds K c).getD 10 .none = .int text tt
  t4 : K.lookup P = some { cls := .none, data := .fields #[] }
theorem TbK.is {c P : Addr} (t : TbK K c P) (X : K.In h) (hne : c ≠ P) : Tb h c P := by
  obtain ⟨t1, t2, ⟨file, tf, flags, tg, inF, text, tt, e1, e2, e3, e4⟩, t4⟩ := t
  refine ⟨#[], ⟨_, _, file, tf, flags, tg, inF, text, tt, _, X _ _ t1, rfl, ?_, e1, e2, e3, e4, X _ _ t4, rfl, trivial, hne⟩, ⟨_, _, X _ _ t1, rfl, rfl, t2⟩, X _ _ t4⟩
  rw [Array.getD_eq_getD_getElem?, t2]; rfl
noncomputable def mkEs (P : Params) : List DictEntry → List (Str × Int) → List DictEntry
  | e :: es, (k, n) :: l => ⟨PyData.keyHash P k, .str k (tokV e.key), .int n (tokV e.val)⟩ :: mkEs P es l
  | _, _ => []
theorem mkEs_lit (P : Params) : ∀ es l, KeysLit P (mkEs P es l)
  | e :: es, (k, n) :: l => ⟨⟨k, _, rfl, rfl⟩, mkEs_lit P es l⟩
  | [], _ => trivial
  | _ :: _, [] => trivial
theorem mkEs_find (P : Params) (x : Str) : ∀ (es : List DictEntry) (l : List (Str × Int)), l.length ≤ es.length → match ((mkEs P es l).find? fun e => Value.isStrOf x e.key).map (·.val) with | some v => ∃ tk, v = .int ((l.lookup x).getD 0) tk | none => (l.lookup x).getD 0 = 0
  | [], [], _ => rfl
  | _ :: _, [], _ => rfl
  | [], _ :: _, h => by cases h
  | e :: es, (k, n) :: l, h => by
    have ih := mkEs_find P x es l (by simpa using h)
    rw [mkEs, List.find?_cons, List.lookup_cons]
    by_cases q : x = k
    · subst q
      have : Value.isStrOf x (.str x (tokV e.key)) = true := by simp [Value.isStrOf]
      rw [this, beq_self_eq_true]
      exact ⟨_, rfl⟩
    · have h1 : Value.isStrOf x (.str k (tokV e.key)) = false := by simp [Value.isStrOf]; exact fun z => q z.symm
      rw [h1, beq_eq_false_iff_ne.mpr q]
      exact ih
end
structure KF (prog : Program) (P : Params) (K : Frag) : Prop where
  deeds : nsIn K mainGlobals "_law_deeds" = some (some (.ref aDeeds))
  runs : nsIn K mainGlobals "_law_runs" = some (some (.ref aRuns))
  than : nsIn K mainGlobals "_law_than" = some (some (.ref aThan))
  acc : nsIn K mainGlobals "_Accumulator" = some (some (.ref aAcc))
  cv : nsIn K mainGlobals "_comparable_version" = some (some (.ref aCv))
  re : nsIn K mainGlobals "_twin_re_1" = some (some (.ref aRe))
  st : nsIn K mainGlobals "_ver_stages" = some (some (.ref aStages))
  bm : nsIn K mainGlobals "__builtins__" = some (some (.ref aBm))
  empty : nsIn K mainGlobals "EMPTYSTRING" = some (some (.str "" (tokV (((nsIn K mainGlobals "EMPTYSTRING").getD none).getD .none))))
  nlen : nsIn K mainGlobals "len" = some none
  nsum : nsIn K mainGlobals "sum" = some none
  nrange : nsIn K mainGlobals "range" = some none
  nstr : nsIn K mainGlobals "str" = some none
  nint : nsIn K mainGlobals "int" = some none
  nve : nsIn K mainGlobals "ValueError" = some none
  nsuper : nsIn K mainGlobals "super" = some none
  third : nsIn K cStatics "thirdparty.any" = some none
  stat : nsOkIn K cStatics = true
  fdeeds : FnK K aDeeds aDeedsCode "_law_deeds" prog.main.file top[10]? [] .none
  fruns : FnK K aRuns aRunsCode "_law_runs" prog.main.file top[11]? [] .none
  fthan : FnK K aThan aThanCode "_law_than" prog.main.file top[12]? [] .none
  finit : FnK K aInit aInitCode "_Accumulator.__init__" prog.main.file accAt[0]? [("__class__", aClassCell)] (.ref aInitDfl)
  fpush : FnK K aPush aPushCode "_Accumulator.push" prog.main.file accAt[1]? [] .none
  fpop : FnK K aPop aPopCode "_Accumulator.pop" prog.main.file accAt[3]? [("__class__", aClassCell)] .none
  flen : FnK K aLen aLenCode "_Accumulator.__len__" prog.main.file accAt[4]? [] .none
  fstr : FnK K aStr aStrCode "_Accumulator.__str__" prog.main.file accAt[5]? [] .none
  fcount : FnK K aCount aCountCode "_Accumulator.part_count" prog.main.file accAt[8]? [("__class__", aClassCell)] .none
  fcv : FnK K aCv aCvCode "_comparable_version" prog.main.file cvAt [] .none
  cvn : (fdAt K aCv).name = "_comparable_version" ∧ (fdAt K aCv).closureTuple = .none
  nosup : (prog.main.scope.names.lookup ("super" : Str)).isSome = false
  cls : K.lookup aAcc = some (excClassObj (cdAt K aAcc).name "_Accumulator" aAcc aAccNs (cdAt K aAcc).bases [.type "list", .type "object"] true (cdAt K aAcc).slotNames (cdAt K aAcc).subclasses false (cdAt K aAcc).collection (oAt K aAcc).dict ((oAt K aAcc).slots.getD 0 none) ((oAt K aAcc).slots.getD 1 none) ((oAt K aAcc).slots.getD 2 none) ((oAt K aAcc).slots.getD 3 none) ((oAt K aAcc).slots.getD 5 none) "list.__new__")
  ns : nsOkIn K aAccNs = true
  cga : nsIn K aAccNs "__getattribute__" = some none
  cgat : nsIn K aAccNs "__getattr__" = some none
  cset : nsIn K aAccNs "__setattr__" = some none
  capp : nsIn K aAccNs "append" = some none
  citer : nsIn K aAccNs "__iter__" = some none
  cinis : nsIn K aAccNs "_initial_size" = some none
  cinit : nsIn K aAccNs "__init__" = some (some (.ref aInit))
  cpush : nsIn K aAccNs "push" = some (some (.ref aPush))
  cpop : nsIn K aAccNs "pop" = some (some (.ref aPop))
  ccount : nsIn K aAccNs "part_count" = some (some (.ref aCount))
  clen : nsIn K aAccNs "__len__" = some (some (.ref aLen))
  cstr : nsIn K aAccNs "__str__" = some (some (.ref aStr))
  cell : K.lookup aClassCell = some { cls := .type "cell", dict := (oAt K aClassCell).dict, data := .cell (some (.ref aAcc)), slots := (oAt K aClassCell).slots }
  dfl : K.lookup aInitDfl = some { cls := .type "tuple", dict := (oAt K aInitDfl).dict, data := .seq (seqAt K aInitDfl) (epAt K aInitDfl), slots := (oAt K aInitDfl).slots }
  dfl1 : (seqAt K aInitDfl).size = 1
  bmod : K.lookup aBm = some { cls := .type "module", dict := some builtinsNs, data := .plain, slots := (oAt K aBm).slots }
  pat : K.lookup aRe = some { cls := .type "re.Pattern", dict := none, data := .fields (flds K aRe), slots := (oAt K aRe).slots }
  pat6 : (flds K aRe).getD 6 .none = rawInt 0
  pat5 : (flds K aRe).getD 5 .none = .ref aCode
  pat2 : (flds K aRe).getD 2 .none = rawInt 1
  code : K.lookup aCode = some { cls := (oAt K aCode).cls, dict := (oAt K aCode).dict, data := .seq (seqAt K aCode) (epAt K aCode), slots := (oAt K aCode).slots }
  codes : ((seqAt K aCode).map PySem.Builtin.Re.reRawOf).map (·.toNat) = cvCode
  stg : K.lookup aStages = some ⟨.type "dict", none, .dict (mkEs P (esAt K aStages) stagesL).toArray (epAt K aStages), #[]⟩
  stgn : (esAt K aStages).length = 10
  tb1 : TbK K aStrCode aStrTab
  tb2 : TbK K aLenCode aLenTab
structure TopG (mg mb : Str → Option Value) (h : Heap) : Prop where
  g : h.Ns mainGlobals mg
  b : h.Ns builtinsNs mb
  lim : h.NoLimit
  bi : ∀ x : Str, x ≠ "__name__" → mb x = bootBuiltins x
section
variable {K : Frag} {h : Heap} {prog : Program} {w : World} {mg mb : Str → Option Value}
theorem ns_of {N : Addr} {m : Str → Option Value} {n : Str} {v : Value} (X : K.In h) (G : h.Ns N m) (e : nsIn K N n = some (some v)) : m n = some v := by
  obtain ⟨o, es, ep, ho, hd, _, hf⟩ := G
  unfold nsIn at e
  split at e
  · rename_i c d es' n' sl q
    have := X _ _ q
    rw [ho] at this
    cases this
    cases hd
    split at e
    · rename_i en he
      cases e
      rw [← hf]
      unfold nsFind findBy
      rw [← Array.find?_toList, he]
      rfl
    · split at e <;> cases e
  · cases e
theorem tops_of (F : KF prog w.params K) (X : K.In h) (G : TopG mg mb h) : Tops prog w mg mb (h.nsMap aAccNs) h := by
  have hC : h.Ns aAccNs (h.nsMap aAccNs) := .of_isNs (isNs_of_in X F.ns)
  have hcls := X _ _ F.cls
  have hst : h.Ns cStatics (h.nsMap cStatics) := .of_isNs (isNs_of_in X F.stat)
  refine ⟨?law, ?acc, ?cv, ⟨_, _, _, _, _, _, _, _, _, _, _, _, hcls⟩, F.finit.atFile X F.nosup, F.fcount.atFile X F.nosup, F.fpop.atFile X F.nosup, ⟨_, hst, ns_none_of X hst F.third⟩⟩
  case law => exact { g := G.g, b := G.b, lim := G.lim, deeds := ns_of X G.g F.deeds, runs := ns_of X G.g F.runs, than := ns_of X G.g F.than, acc := ns_of X G.g F.acc, cv := ns_of X G.g F.cv, nlen := ns_none_of X G.g F.nlen, blen := G.bi _ (by decide), nsum := ns_none_of X G.g F.nsum, bsum := G.bi _ (by decide), nrange := ns_none_of X G.g F.nrange, brange := G.bi _ (by decide), nstr := ns_none_of X G.g F.nstr, bstr := G.bi _ (by decide), fdeeds := F.fdeeds.is X, fruns := F.fruns.is X, fthan := F.fthan.is X }
  case acc => exact { c := ⟨⟨_, _, hcls, rfl, rfl, rfl⟩, ⟨_, _, hcls, rfl, rfl, rfl⟩, ⟨_, _, hcls, rfl, rfl⟩, hC, ns_none_of X hC F.cga, ns_none_of X hC F.cgat⟩, g := G.g, b := G.b, lim := G.lim, cell := ⟨_, X _ _ F.cell, rfl⟩, push := ns_of X hC F.cpush, pop := ns_of X hC F.cpop, count := ns_of X hC F.ccount, len := ns_of X hC F.clen, str := ns_of X hC F.cstr, app := ns_none_of X hC F.capp, iter := ns_none_of X hC F.citer, empty := ⟨_, ns_of X G.g F.empty⟩, bmod := ⟨_, ns_of X G.g F.bm, X _ _ F.bmod, rfl, rfl, rfl⟩, nsum := ns_none_of X G.g F.nsum, bsum := G.bi _ (by decide), nlen := ns_none_of X G.g F.nlen, blen := G.bi _ (by decide), inis := ns_none_of X hC F.cinis, sup := ns_none_of X G.g F.nsuper, bsup := G.bi _ (by decide), init := ns_of X hC F.cinit, setn := ns_none_of X hC F.cset, finit := F.finit.is X, dfl := ⟨_, _, _, X _ _ F.dfl, rfl, F.dfl1⟩, fpush := F.fpush.is X, fpop := F.fpop.is X, flen := F.flen.is X, fstr := F.fstr.is X, fcount := F.fcount.is X }
  case cv =>
    have hfc := F.fcv.fn
    refine { g := G.g, b := G.b, re := ns_of X G.g F.re, st := ns_of X G.g F.st, noInt := ns_none_of X G.g F.nint, noVe := ns_none_of X G.g F.nve, int := G.bi _ (by decide), ve := G.bi _ (by decide), pat := ⟨_, _, X _ _ F.pat, rfl, rfl, rfl, F.pat6, F.pat5, F.pat2⟩, code := ⟨_, _, _, X _ _ F.code, rfl, F.codes⟩, stg := ⟨_, mapOf_K (prog := prog) (w := w) X F.stg (by simpa using mkEs_lit _ _ _), fun x => ?_⟩, fn := ⟨_, (fdAt K aCv).pyModule, (fdAt K aCv).doc, X _ _ hfc, ?_, ⟨_, _, _, _, rfl, X _ _ F.fcv.c1, rfl, F.fcv.c2⟩⟩, lim := G.lim }
    · have := mkEs_find w.params x (esAt K aStages) stagesL (by rw [F.stgn]; decide)
      unfold findBy
      rw [List.find?_toArray]
      exact this
    · unfold fnObj docDef
      rw [F.cvn.1, F.cvn.2]
end
end Mine
end
section
open PySem PySem.Calls PySem.W PyProof.Rows
set_option Elab.async false
set_option maxRecDepth 100000
namespace Mine
noncomputable def aLaw : Addr := 159
noncomputable def aLawCode : Addr := 158
theorem look3 {x : Str} {n1 n2 n3 : Str} {c1 c2 c3 c : Addr} (h : List.lookup x [(n1, c1), (n2, c2), (n3, c3)] = some c) : (x = n1 ∧ c = c1) ∨ (x = n2 ∧ c = c2) ∨ (x = n3 ∧ c = c3) := by
  simp only [List.lookup_cons] at h
  split at h
  · rename_i q; cases h; exact .inl ⟨beq_iff_eq.mp q, rfl⟩
  · split at h
    · rename_i q; cases h; exact .inr (.inl ⟨beq_iff_eq.mp q, rfl⟩)
    · split at h
      · rename_i q; cases h; exact .inr (.inr ⟨beq_iff_eq.mp q, rfl⟩)
      · cases h
theorem old_of {s t : Shared} {N : Nat} (hN : s.heap.objs.size ≤ N) (e : EndOk N s t) (t1 : Heap.TableAt s.heap aStrCode aStrTab #[]) (t2 : Heap.TableAt s.heap aLenCode aLenTab #[]) : OldK s.heap t.heap := by
  obtain ⟨X, ⟨p1, _, z1⟩, ⟨p2, _, z2⟩⟩ := e
  refine ⟨fun b o ho => ?_, fun b o ho => X.dom b o ho⟩
  by_cases q1 : b = aStrTab
  · subst q1
    have := ho.symm.trans t1.2
    cases this
    exact .inr (.inl ⟨t1.isCodeTable, rfl, #[], p1, rfl, by rw [z1.2]; simp⟩)
  · by_cases q2 : b = aLenTab
    · subst q2
      have := ho.symm.trans t2.2
      cases this
      exact .inr (.inl ⟨t2.isCodeTable, rfl, #[], p2, rfl, by rw [z2.2]; simp⟩)
    · exact .inl (X.low b o (Nat.lt_of_lt_of_le (Heap.lt_size ho) hN) (fun z => z.elim q1 q2) ho)
theorem deep_ok {env : Env} : (callerA.deeper env).depth + 10 < recursionLimit ∧ (callerA.deeper env).units + 200 < cLine := by
  refine ⟨?_, ?_⟩
  · show callerA.depth + 1 + 10 < recursionLimit; decide
  · show callerA.units + 3 + 200 < cLine; decide
section
variable {K : Frag} {prog : Program} {w : World} {mg mb : Str → Option Value} {s : Shared} {E : Value → Shared → Prop}
theorem TbK.at {h : Heap} {c P : Addr} (t : TbK K c P) (X : K.In h) : h.TableAt c P #[] := ⟨⟨_, _, X _ _ t.t1, rfl, rfl, t.t2⟩, X _ _ t.t4⟩
theorem law_call {a : Addr} {vs : List Value} {ns : List Int} (F : KF prog w.params K) (f : FnK K aLaw aLawCode "law" prog.main.file top[13]? [] .none) (X : K.In s.heap) (G : TopG mg mb s.heap) (hL : Lst s.heap a vs) (hi : Ints vs ns) (hz : ns.length ≤ 63) (hg : AllBare s.gens) :
    wpC (model prog w) callerA (call (.ref aLaw) [.ref a]) (fun v t => v = .bool true ∧ OldK s.heap t.heap ∧ t.os = s.os ∧ AllBare t.gens) E s := by
  have T := tops_of (w := w) F X G
  have hN : topN ≤ s.heap.objs.size := by
    have : (159 : Nat) < s.heap.objs.size := Heap.lt_size (X _ _ f.fn)
    exact this
  have frs : Frs s.heap.objs.size s.heap [] := ⟨trivial, fun b hb => by cases hb⟩
  refine C_enterS (binds := [("script", .ref a)]) (by decide) frs (Nat.le_refl _) (f.is X) G.lim (fun fd h1 h2 h3 _ => BindsTo.of_eq ?_) (locs rfl) (fun L x c hc => ?_) fun env t₀ V S₀ X₀ => ?_
  · obtain ⟨nm, qn, pr, bd, sc, gl, cl, df, kw, dc, pm, an, co, ct, bi⟩ := fd
    simp only at h1 h2 h3
    subst h1 h2 h3
    rfl
  · have hc' : List.lookup x [(Str.ofString "rising", L + 1 + 1), (Str.ofString "texts", L + 1), (Str.ofString "deeds", L)] = some c := hc
    rcases look3 hc' with ⟨q, _⟩ | ⟨q, _⟩ | ⟨q, _⟩ <;> rw [q] <;> rfl
  have hce : env.cells = [(Str.ofString "rising", s.heap.objs.size + 1 + 1 + 1), (Str.ofString "texts", s.heap.objs.size + 1 + 1), (Str.ofString "deeds", s.heap.objs.size + 1)] := by rw [V.ce]; rfl
  have hlf : s.heap.get? env.locals = none := by rw [V.lo]; exact Heap.get?_none_of_le (Nat.le_refl _)
  have L : LX prog w mg mb (s.heap.nsMap aAccNs) s.heap.objs.size env [env] s t₀ (fun x => [(Str.ofString "script", Value.ref a)].reverse.lookup x) := by
    refine ⟨S₀, V.gl, V.bi, hlf, fun x c hc => ?_, T, fun b hb => ?_, ?_, ?_, hN, X₀.mono fun _ z => z.elim⟩
    · rw [hce] at hc
      rcases look3 hc with ⟨_, q⟩ | ⟨_, q⟩ | ⟨_, q⟩ <;> rw [q] <;> exact Heap.get?_none_of_le (by omega)
    · simp only [List.mem_cons, List.not_mem_nil, or_false] at hb
      rcases hb with rfl | rfl | rfl | rfl
      · exact ⟨_, X _ _ F.tb1.t1⟩
      · exact ⟨_, X _ _ F.tb1.t4⟩
      · exact ⟨_, X _ _ F.tb2.t1⟩
      · exact ⟨_, X _ _ F.tb2.t4⟩
    · exact (F.tb1.is X (by decide)).ext X₀ (Nat.lt_of_lt_of_le (by decide) hN) (Nat.lt_of_lt_of_le (by decide) hN) id id
    · exact (F.tb2.is X (by decide)).ext X₀ (Nat.lt_of_lt_of_le (by decide) hN) (Nat.lt_of_lt_of_le (by decide) hN) id id
  have key := @law_zero prog w mg mb (s.heap.nsMap aAccNs) (callerA.deeper env) (fun _ _ => False) s.heap.objs.size env [env] s t₀ _ _ _ _ a vs ns (fun f s' => (match f with | .ret v => v | _ => .none) = .bool true ∧ OldK s.heap s'.heap ∧ s'.os = s.os ∧ AllBare s'.gens) L ⟨rfl, rfl, deep_ok.1, deep_ok.2⟩ V.sc (by rw [hce]; rfl) (by rw [hce]; rfl) (by rw [hce]; rfl) (plain_law ns) rfl (hL.ext X₀ id) hi hz
    (fun t e => ⟨rfl, old_of (Nat.le_refl _) e (F.tb1.at X) (F.tb2.at X), e.1.os, e.1.gens hg⟩)
  assumption
end
end Mine
end
section
open PySem PySem.Calls PySem.W PyProof.Rows
set_option Elab.async false
set_option maxRecDepth 100000
namespace Mine
theorem ints_of {vs : List Value} {ns : List Int} (h : IntsAre vs ns) : Ints vs ns := by
  induction h with
  | nil => exact .nil
  | cons _ _ _ ih => exact .cons ih
section
variable {K : Frag} {prog : Program} {w : World} {mg mb : Str → Option Value} {s : Shared} {E : Value → Shared → Prop}
theorem law_good {c : ClaimW} {cl : Str → Option Addr} {mean : ExcName → Option Value} {args : List WData} {a : Addr} {vs : List Value} {ns : List Int} {P : Params} (F : KF prog w.params K) (f : FnK K aLaw aLawCode "law" prog.main.file top[13]? [] .none) (X : K.In s.heap) (G : TopG mg mb s.heap)
    (hI : IntsAre vs ns) (hL : s.heap.IsList a vs.toArray) (hW : Well P s.heap (.ref a) (ofPy (.list (ns.map .int)))) (hz : ns.length ≤ 63) (hg : s.gens = #[]) (hr : ∀ cls, c.raises args cls = false) (hp : c.post args (.bool true) args = true) :
    wpC (model prog w) callerA (call (.ref aLaw) [.ref a]) (fun v s' => GoodWG c cl mean args s (.ok (.ret v)) s') E s := by
  have hl : Lst s.heap a vs := by
    obtain ⟨o, ho, hc, n, hd⟩ := hL
    have hW' : Well P s.heap (.ref a) (.list (ofPys (ns.map .int))) := hW
    cases hW' with
    | list h1 h2 =>
      rw [ho] at h1
      cases h1
      cases hd
      exact ⟨_, ho⟩
  refine C_mono (law_call (E := E) F f X G hl (ints_of hI) hz (.of_eq hg)) (fun v t h => ?_) fun _ _ z => z
  obtain ⟨rfl, h1, h2, h3⟩ := h
  exact ⟨.inl ⟨_, _, [], rfl, hr, ReadsW.bool true, hp, fun _ => ⟨List.nodup_nil, fun _ hm => (nomatch hm)⟩⟩, h1, h2, h3⟩
end
end Mine
end
section
open PySem PySem.Calls PySem.W PyProof.Rows
open Sem (wp)
set_option Elab.async false
set_option maxRecDepth 100000
namespace Mine
theorem caller_HC : HC ⟨.builtin "claim.caller" {}, none, none, [], none⟩ := .inl rfl

theorem ends_C {prog : Program} {w : World} {t : Sem PySem.Fin} {s : Shared} {R : Result → Shared → Prop} (hreg : s.asleep)
    (h : wpC (model prog w) callerA t (fun fin s' => ∃ f, fin = .done f ∧ (R (.ok f) s' ∧ leftWithCleanup s'.gens = false)) (fun e s' => R (.error e) s' ∧ leftWithCleanup s'.gens = false) s) :
    ∃ n r s' s'', runN (denote table) prog w n s ⟨t, .builtin "claim.caller" {}, default, []⟩ = .halted (outcomeOf r) s' ∧
      schedN (denote table) prog w n (.single s ⟨t, .builtin "claim.caller" {}, default, []⟩) = .halted (outcomeOf r) s' ∧ s'.forget = s''.forget ∧ R r s'' := by
  have h0 : wp (model prog w) ⟨.builtin "claim.caller" {}, none, none, [], none⟩ t
      (Sem.finPost (model prog w) ⟨.builtin "claim.caller" {}, none, none, [], none⟩ fun r s' => R r s' ∧ leftWithCleanup s'.gens = false) (fun e _ s' => R (.error e) s' ∧ leftWithCleanup s'.gens = false) default s := by
    refine Sem.wp_mono _ _ t (fun fin p' s' h' => ?_) (fun _ _ _ h' => h') default s (h _ default caller_in caller_HC)
    obtain ⟨f, rfl, hf⟩ := h'
    exact hf
  obtain ⟨n, r, s₁, s₂, hs, hn, hfo, hR⟩ := wp_halts_full (M := model prog w) (R := R) hreg h0
  exact ⟨n, r, s₂, s₁, hn, hs, hfo, hR⟩

theorem callFrom_C {c : ClaimW} {tree : List Value → Sem PySem.Fin} {w : World} {s : Shared} {free : Addr → Prop} {gens : Prop} {kept : Heap → Prop} (hz : s.asleep) (hgens : s.gens = #[])
    (hspec : ∀ args, c.pre args = true → WData.layableAll args = true → ∀ ord : List DictEntry → List DictEntry, (∀ l, (ord l).Perm l) →
      ∃ vs s₁, layAllW c.records (classAt s.heap) w.params ord args s = some (vs, s₁) ∧
        wpC (model c.prog w) callerA (tree vs) (fun fin s' => ∃ f, fin = .done f ∧ (c.Ends s args vs s₁ (.ok f) s' ∧ s'.os = s.os ∧ AllBare s'.gens ∧ kept s'.heap))
          (fun e s' => c.Ends s args vs s₁ (.error e) s' ∧ s'.os = s.os ∧ AllBare s'.gens ∧ kept s'.heap) s₁) :
    c.CallFrom (fun vs => ⟨tree vs, .builtin "claim.caller" {}, default, []⟩) w free gens kept s := by
  intro args hpre hlay ord hord
  obtain ⟨vs, s₁, hlaid, hcode⟩ := hspec args hpre hlay ord hord
  have hal := layAllW_rest _ _ _ hlaid
  obtain ⟨k, r, s', s'', hrun, hsched, hfo, hcase, hos, hkp⟩ := ends_C (prog := c.prog) (w := w) (t := tree vs) (s := s₁)
    (R := fun r s' => c.Ends s args vs s₁ r s' ∧ s'.os = s.os ∧ kept s'.heap) (Shared.asleep_of_life hal.2.2.2 hz)
    (C_mono hcode (fun fin s' ⟨f, e, h1, h2, h3, h4⟩ => ⟨f, e, ⟨h1, h2, h4⟩, leftWithCleanup_false_of_bare h3⟩) fun e s' ⟨h1, h2, h3, h4⟩ => ⟨⟨h1, h2, h4⟩, leftWithCleanup_false_of_bare h3⟩)
  obtain ⟨eh, _, _, eo, _⟩ := Shared.forget_eq hfo
  have hcase := hcase.congr eh
  have hkp : kept s'.heap := by first | exact eh ▸ hkp | (rw [eh] at hkp; exact hkp) | (rw [← eh] at hkp; exact hkp)
  rw [← eo] at hos
  have hlife : s'.heap.life = s.heap.life := (runN_life _ _ _ hrun).trans hal.2.2.2
  refine ⟨vs, s₁, hlaid, k, _, s', hsched, ?_, (fun _ i x hx => by rw [hgens] at hx; simp at hx), hkp, by rw [hlife], Shared.rest_eq hos⟩
  rcases hcase with ⟨v, rfl, d1, d2, d3, d4, d5⟩ | ⟨e, ob, cls, rfl, d1, d2, d3, d4, d5⟩
  · exact .inl ⟨v, rfl, d1, d2, d3, fun b o y _ => d4 b o y, d5⟩
  · exact .inr ⟨e, ob, cls, rfl, d1, d2, d3, d4, fun b o y _ => d5 b o y⟩

theorem open_C {r : RowW} {tree : List Value → Sem PySem.Fin} {q : Program} {loose defs kps : List Str} {writes : Bool} {Xt : Shared → Bool} {XP : (Str → Option Value) → Heap → Prop} {α : Type} {Yf : Shared → α} {Ya : World → α} {YP : World → Heap → Prop} {N : Nat}
    (left : LeftO r.prog q loose Xt Yf Ya N) (hY : ∀ w s, Yf s = Ya w → YP w s.heap) (hYk : ∀ w h h', YP w h → (∀ b o, h.get? b = some o → h'.get? b = some o) → YP w h') (hX : ∀ s, Xt s = true → XP (s.heap.nsMap mainGlobals) s.heap) (hXk : ∀ mg h h', XP mg h → (∀ b o, h.get? b = some o → h'.get? b = some o) → XP mg h')
    (hRf : ∀ s, Xt s = true → RecFacts r.records s.heap) (hwr : (!writes || r.records.isEmpty) = true) (ok : (chainsOk q && opensWell r.prog && (frees r && r.within.isEmpty)) = true) (hb : r.prog.bare) (hw : r.promised)
    (ht : ∀ vs (w : World) (s : Shared) mg f (Q : PySem.Fin → Shared → Prop) (E : Value → Shared → Prop), s.heap.Ns mainGlobals mg → mg r.name = some f → wpC (model r.prog w) callerA (PySem.call f vs) (fun v s' => Q (.done (.ret v)) s') E s → wpC (model r.prog w) callerA (tree vs) Q E s)
    (pin : ∀ w s, s.heap.isNs mainGlobals = true → Ground q loose [] XP w s (s.heap.nsMap mainGlobals) (s.heap.nsMap builtinsNs) s.heap → ∀ n ∈ defs, isTheDefsW r.prog s.heap n)
    (call : ∀ (w : World) (s₀ s₁ : Shared) (mg mb : Str → Option Value), Ground q loose r.records XP w s₀ mg mb s₁.heap → YP w s₁.heap → ∀ (args : List WData) (vs : List Value) (as : List Addr),
      r.claim.pre args = true → WData.layableAll args = true → Laid r.records w s₀ s₁ args vs as → sysModules < s₀.heap.objs.size → ∃ f, mg r.name = some f ∧
        wpC (model r.prog w) callerA (PySem.call f vs) (fun v s' => GoodWG r.claim (classAt s₀.heap) (ExcName.means s₀.heap) args s₁ (.ok (.ret v)) s')
          (fun e s' => GoodWG r.claim (classAt s₀.heap) (ExcName.means s₀.heap) args s₁ (.error e) s') s₁) : r.claim.HoldsOpenBy (fun vs => ⟨tree vs, .builtin "claim.caller" {}, default, []⟩) defs kps writes := by
  obtain ⟨ok, k5⟩ := Bool.and_eq_true_iff.mp ok
  obtain ⟨hch, o1⟩ := Bool.and_eq_true_iff.mp ok
  obtain ⟨k5, k6⟩ := Bool.and_eq_true_iff.mp k5
  obtain ⟨hsame, hu, ha, hap, hm⟩ := frees_parts k5
  refine ⟨⟨hb, o1, by show r.makers.map _ = []; rw [hm]; rfl⟩, hw.witness, fun w => ⟨(left.behind hX hch w).1, fun s' hs' => ?_⟩⟩
  obtain ⟨s₀, hf, hg0, s, hT, hz, hgens, hg, G00, y⟩ := (left.behind (XP := fun mg h => XP mg h ∧ RecFacts r.records h) (fun s hs => ⟨hX s hs, hRf s hs⟩) hch w).2 s' hs'
  have G0 : Ground q loose [] XP w s (s.heap.nsMap mainGlobals) (s.heap.nsMap builtinsNs) s.heap := ⟨G00.T, G00.B, G00.D, G00.TE, G00.TD, G00.W, G00.X.1, G00.cls, G00.has, G00.apart, G00.once, G00.K⟩
  have RF := G00.X.2
  have hT' := hT
  refine ⟨s₀, hf, hg0, s, hT, pin w s hg G0, RF.1, RF.2.1, ?_⟩
  have hgens : s.gens = #[] := Array.eq_empty_of_size_eq_zero (beq_iff_eq.mp hgens)
  have G : Ground q loose r.records XP w s _ _ s.heap := RF.ground G0
  refine callFrom_C (c := r.claim) hz hgens fun args hpre hlay ord hord => ?_
  obtain ⟨⟨vs, s₁⟩, hlaid⟩ := Option.isSome_iff_exists.mp (layAllW_isSome (P := w.params) (ord := ord) G.has args r.args s (pre_splitW hpre).1)
  have keeps := layAllW_keeps _ _ _ hlaid
  have hal := layAllW_rest _ _ _ hlaid
  obtain ⟨as, hrd, hin, hold⟩ := reads_layAllW hord _ _ _ hlaid hlay s₁.heap (fun _ _ e => e)
  have L : Laid r.records w s s₁ args vs as := ⟨⟨ord, hord, hlaid⟩, hrd, hin, hold, keeps, hal.1.trans hgens, hal.2.2.1⟩
  have G₁ := G.keeps hXk keeps
  obtain ⟨f, hf, h⟩ := call w s s₁ _ _ G₁ (hYk _ _ _ (hY w s y) keeps) args vs as hpre hlay L G.low
  have hi := ident_freeW hu ha hap
  have hwi : r.claim.within = [] := List.isEmpty_iff.mp k6
  exact ⟨vs, s₁, hlaid, ht vs w s₁ _ f _ _ G₁.T.g hf (C_mono h (fun v s' g => ⟨_, rfl, have z := g.laid (c := r.claim) hsame hwi hi L; ⟨z.1, z.2.1, z.2.2, fun q => ⟨namesKept_of hT' hg kps keeps g.2.1.old, noTable hwr q⟩⟩⟩) fun e s' g => have z := g.laid (c := r.claim) hsame hwi hi L; ⟨z.1, z.2.1, z.2.2, fun q => ⟨namesKept_of hT' hg kps keeps g.2.1.old, noTable hwr q⟩⟩)⟩

abbrev WalkC (q : Program) (loose : List Str) (XP : (Str → Option Value) → Heap → Prop) (YP : World → Heap → Prop) (r : RowW) (d : DefRec) (kwd : List (Str × Expr)) : Prop :=
  ∀ (w : World) (s₀ s₁ : Shared) (mg mb : Str → Option Value), Ground q loose r.records XP w s₀ mg mb s₁.heap → YP w s₁.heap → ∀ (a : Addr) (o : Obj) (pm cd doc dV kV : Value), s₁.heap.get? a = some o →
    o.data = .func { docDef d.name d.params d.body d.scope pm cd doc with defaults := dV, kwdefaults := kV } → s₁.heap.CodeRec cd d.name → Dflts mg s₁.heap d.params kwd dV kV → mg d.name = some (.ref a) → s₁.gens = #[] →
    ∀ (args : List WData) (vals : List Value) (as : List Addr), r.claim.pre args = true → WData.layableAll args = true → ReadsAllW r.records (classAt s₀.heap) s₁.heap vals args as → WellAll w.params s₁.heap vals args → (∀ a ∈ as, (a == sysModules) = false) →
      wpC (model r.prog w) callerA (PySem.call (.ref a) vals) (fun v s' => GoodWG r.claim (classAt s₀.heap) (ExcName.means s₀.heap) args s₁ (.ok (.ret v)) s')
        (fun e s' => GoodWG r.claim (classAt s₀.heap) (ExcName.means s₀.heap) args s₁ (.error e) s') s₁

theorem PySem.W.holds_open {r : OpenRow} {q : Program} {loose : List Str} {Xt : Shared → Bool} {XP : (Str → Option Value) → Heap → Prop} {α : Type} {Yf : Shared → α} {Ya : World → α} {YP : World → Heap → Prop} {d : DefRec} {kwd : List (Str × Expr)} {N : Nat}
    (left : LeftO r.prog q loose Xt Yf Ya N) (hY : ∀ w s, Yf s = Ya w → YP w s.heap) (hYk : ∀ w h h', YP w h → (∀ b o, h.get? b = some o → h'.get? b = some o) → YP w h')
    (hX : ∀ s, Xt s = true → XP (s.heap.nsMap mainGlobals) s.heap) (hXk : ∀ mg h h', XP mg h → (∀ b o, h.get? b = some o → h'.get? b = some o) → XP mg h')
    (hdef : defOf q r.name = some (d, kwd)) (hp : r.prog.theDef r.name = some (d.params, d.body, d.scope)) (hk : kwWritten? d.params.kwonlyargs d.params.kw_defaults = some kwd) (hRf : ∀ s, Xt s = true → RecFacts r.records s.heap) (hwr : (!r.writes || r.records.isEmpty) = true)
    (k1 : r.wellSaid = true) (ok : (chainsOk q && opensWell r.prog && (frees r.toRowW && r.within.isEmpty)) = true) (hb : r.prog.bare) (hw : r.toRowW.promised)
    (call : WalkC q loose XP YP r.toRowW d kwd) : r.Holds := by
  refine ⟨k1, hw, open_C (r := r.toRowW) (tree := fun vs => do match ← nsGet mainNs r.name with
      | some f => do ret (← PySem.call f vs)
      | none => unsupported "claim.caller:no-such-global") left hY hYk hX hXk hRf hwr ok hb hw
    (fun vs w s mg f Q E hg hf h => C_bind (C_any (wpAny_nsGet hg (by rw [hf]; exact C_bind (C_q h fun _ _ x => C_pure x))))) (fun w s hg G n hn => ?_) fun w s₀ s₁ mg mb G Y args vs as hpre hlay L low => ?_⟩
  · obtain rfl : n = r.name := by split at hn <;> simp_all
    exact pinned_of_view hg G hdef hp hk
  · obtain ⟨a, o, pm, cd, doc, dV, kV, h1, h2, h3, h4, h5⟩ := G.fn hdef
    exact ⟨.ref a, h1, call w s₀ s₁ mg mb G Y a o pm cd doc dV kV h2 h3 h4 h5 (defOf_name hdef ▸ h1) L.gens args vs as hpre hlay L.reads L.well (L.low low)⟩
end Mine
end
section
open PySem PySem.Calls PySem.W PyProof.Rows
set_option maxRecDepth 100000
namespace Mine
set_option maxHeartbeats 0 in
theorem fin : PySem.Challenge.rw_ny0047_02.Holds := by
  w_on; o_law; x_head; (case hw => w_witness2)
  intro w s₀ s₁ mg mb G Y fa o pm cd doc dV kV ho hd hcd hD hmg hg args vals as hpre hlay hrd hwl hlo
  have KX := kIn_of Y
  have T := G.T
  have hfa : mg "law" = some (.ref aLaw) := ns_of KX T.g (by kernel_rfl)
  have efa : fa = aLaw := Value.ref.inj (Option.some.inj (hmg.symm.trans hfa))
  subst efa
  clear ho hd hcd hD G Y hmg
  wrow_args hpre hlay hrd hwl hlo
  refine law_good ?F ?f KX ⟨T.g, T.b, T.nolimit, T.builtins⟩ (by assumption) (by assumption) (by assumption) (by omega) hg (fun _ => rfl) (by first | rfl | wrow_post)
  case f => exact ⟨by kernel_rfl, by kernel_rfl, by kernel_rfl, by kernel_rfl⟩
  case F =>
    constructor
    case tb1 => exact ⟨by kernel_rfl, by kernel_rfl, ⟨_, _, _, _, _, _, _, by rfl, by rfl, by rfl, by rfl⟩, by kernel_rfl⟩
    case tb2 => exact ⟨by kernel_rfl, by kernel_rfl, ⟨_, _, _, _, _, _, _, by rfl, by rfl, by rfl, by rfl⟩, by kernel_rfl⟩
    case cvn => exact ⟨by kernel_rfl, by kernel_rfl⟩
    all_goals first | kernel_rfl | exact ⟨by kernel_rfl, by kernel_rfl, by kernel_rfl, by kernel_rfl⟩
end Mine
end
theorem PySem.Challenge.cw_ny0047_02_holds : PySem.Challenge.rw_ny0047_02.Holds :=
  Mine.fin
