import PyProof.Rows.All
import Wide.All
import OpenK.AllK
import Wide.FinOn
import PySem.Challenge.RW_xe0056_01
open PySem PySem.W PyProof.Rows PySem.Calls
set_option Elab.async false
set_option maxRecDepth 100000

/- part CL -/
namespace Mine
open Builtin.Bytes (decodersThatHold exported)

def badIds : List String := ["bytearray.__contains__", "bytearray.__mod__", "bytearray.__rmod__", "_struct.pack_into.held", "bytearray.find.held"] ++ decodersThatHold
def Clean : Code → Prop
  | .builtin id _ => badIds.contains id = false
  | _ => True
def CleanB (l : List (Code × Pos)) : Prop := ∀ x ∈ l, Clean x.1

def wpC {α : Type} (M : Model) (A : Around) (t : Sem α) (Q : α → Shared → Prop) (E : Value → Shared → Prop) (s : Shared) : Prop :=
  ∀ Γ p, Γ.In A → Clean Γ.code → CleanB Γ.below → Sem.wp M Γ t (fun a _ s' => Q a s') (fun e _ s' => E e s') p s
def codeC (M : Model) (A : Around) (c : Code) (R : Result → Shared → Prop) (s : Shared) : Prop :=
  ∀ Γ p, Γ.code = c → Γ.Below A → CleanB Γ.below → wpCode M Γ R p s

section
variable {α β : Type} {M : Model} {A : Around} {E : Value → Shared → Prop} {s : Shared}
theorem cOf {t : Sem α} {Q : α → Shared → Prop} (h : wpAny M A t Q E s) : wpC M A t Q E s := fun Γ p hΓ _ _ => h Γ p hΓ
theorem codeOf {c : Code} {R : Result → Shared → Prop} (h : codeAny M A c R s) : codeC M A c R s := fun Γ p hc hΓ _ => h Γ p hc hΓ
theorem cPure {a : α} {Q : α → Shared → Prop} (h : Q a s) : wpC M A (pure a) Q E s := fun _ _ _ _ _ => h
theorem cMono {t : Sem α} {Q Q' : α → Shared → Prop} {E' : Value → Shared → Prop} (h : wpC M A t Q E s)
    (hQ : ∀ a s, Q a s → Q' a s) (hE : ∀ e s, E e s → E' e s) : wpC M A t Q' E' s :=
  fun Γ p hΓ hc hb => Sem.wp_mono M Γ t (fun a _ s => hQ a s) (fun e _ s => hE e s) p s (h Γ p hΓ hc hb)
theorem cBind {m : Sem α} {f : α → Sem β} {Q : β → Shared → Prop} (h : wpC M A m (fun a s' => wpC M A (f a) Q E s') E s) :
    wpC M A (m >>= f) Q E s := fun Γ p hΓ hc hb => by
  rw [Sem.wp_bind']
  exact Sem.wp_mono M Γ m (fun a p' s' h' => h' Γ p' hΓ hc hb) (fun _ _ _ h' => h') p s (h Γ p hΓ hc hb)
/-- the first part walks by the library, the rest in a clean stack -/
theorem cBindA {m : Sem α} {f : α → Sem β} {Q : β → Shared → Prop} (h : wpAny M A m (fun a s' => wpC M A (f a) Q E s') E s) :
    wpC M A (m >>= f) Q E s := cBind (cOf h)
theorem cEq {m : Sem α} {a : α} {Q : α → Shared → Prop} (e : m = pure a) (h : Q a s) : wpC M A m Q E s := e ▸ cPure h
theorem cOnRaise {m : Sem α} {k : Value → Sem Unit} {Q : α → Shared → Prop}
    (h : wpC M A m Q (fun e s' => wpC M A (k e) (fun _ s'' => E e s'') E s') s) : wpC M A (m.onRaise k) Q E s := fun Γ p hΓ hc hb => by
  rw [Sem.wp_onRaise]
  exact Sem.wp_mono M Γ m (fun _ _ _ h' => h') (fun e p' s' h' => h' Γ p' hΓ hc hb) p s (h Γ p hΓ hc hb)
theorem cAttempt {m : Sem α} {Q : Except Value α → Shared → Prop} (h : wpC M A m (fun a => Q (.ok a)) (fun e => Q (.error e)) s) :
    wpC M A m.attempt Q E s := fun Γ p hΓ hc hb => by rw [Sem.wp_attempt]; exact h Γ p hΓ hc hb
theorem cHolding {vs : List Value} {m : Sem α} {Q : α → Shared → Prop} (h : wpC M A m Q E s) : wpC M A (holding vs m) Q E s :=
  fun Γ p hΓ hc hb => by rw [Sem.wp_holding]; exact h Γ p hΓ hc hb
theorem cKeep {vs : List Value} {m : Sem α} {Q : α → Shared → Prop} (h : wpC M A m Q E s) : wpC M A (m.keep vs) Q E s :=
  fun Γ p hΓ hc hb => by rw [Sem.wp_keep]; exact h Γ p hΓ hc hb
theorem cOperate {vs : List Value} {m : Sem Value} {Q : Value → Shared → Prop} (h : wpC M A m Q E s) : wpC M A (operate vs m) Q E s :=
  fun Γ p hΓ hc hb => by rw [Sem.wp_operate]; exact h Γ p hΓ hc hb
theorem cStandAt {pos : Pos} {Q : Unit → Shared → Prop} (h : Q () s) : wpC M A (standAt pos) Q E s := fun _ _ _ _ _ => h
theorem cPoint {Q : Unit → Shared → Prop} (h : Q () s) : wpC M A point Q E s := fun _ _ _ _ _ => h

theorem cRun {c : Code} {h : Option Value} {Q : Flow → Shared → Prop}
    (hc : codeC M (A.mark h) c (fun r s' => match r with | .ok f => Q f s' | .error e => E e s') s) (hnb : h ≠ some byPass := by intro x; cases x) :
    wpC M A (run c h) Q E s :=
  fun Γ p hΓ hcl hb => by
    rw [Sem.wp_run]
    exact hc _ p rfl (hΓ.enter c h p hnb) (fun x hx => by
      rcases List.mem_cons.mp hx with rfl | hx
      · exact hcl
      · exact hb x hx)
theorem cRunValue {c : Code} {Q : Value → Shared → Prop}
    (hc : codeC M A c (fun r s' => match r with | .ok (.ret v) => Q v s' | .ok _ => False | .error e => E e s') s) :
    wpC M A (runValue c) Q E s := fun Γ p hΓ hcl hb => by
  rw [Sem.wp_runValue]
  exact hc _ p rfl (hΓ.enter c none p (by intro x; cases x)) (fun x hx => by
      rcases List.mem_cons.mp hx with rfl | hx
      · exact hcl
      · exact hb x hx)
theorem cCall {f : Value} {pos : List Value} {kw : List (Str × Value)} {Q : Value → Shared → Prop}
    (hc : codeC M A (.call f ⟨pos, kw⟩) (fun r s' => match r with | .ok (.ret v) => Q v s' | .ok _ => False | .error e => E e s') s) :
    wpC M A (call f pos kw) Q E s := cRunValue hc
theorem codeMono {c : Code} {R R' : Result → Shared → Prop} (h : codeC M A c R s) (hR : ∀ r s, R r s → R' r s) : codeC M A c R' s :=
  fun Γ p hc hΓ hb => wpCode_mono hR (h Γ p hc hΓ hb)
theorem codeTree {c : Code} {R : Result → Shared → Prop} (hcl : Clean c)
    (h : wpC M (A.under c) (M.den c) (fun fin s' => match fin with | .done f => R (.ok f) s' | .again c' => c'.quiet = true ∧ codeC M A c' R s')
      (fun e s' => R (.error e) s') s) : codeC M A c R s := fun Γ p hc hΓ hb => by
  rw [wpCode_iff_wp, hc]
  refine Sem.wp_mono M Γ _ (fun fin p' s' h' => ?_) (fun _ _ _ h' => h') p s (h Γ p (hc ▸ hΓ.in) (hc ▸ hcl) hb)
  cases fin with
  | done f => exact h'
  | again c' => exact ⟨h'.1, h'.2 (Γ.goto c') p' rfl (hΓ.goto c') hb⟩
theorem codeLoop {c : Code} {R : Result → Shared → Prop} (hcl : Clean c) (hq : c.quiet = true) (I : Nat → Shared → Prop)
    (turn : ∀ n s, I n s → wpC M (A.under c) (M.den c)
      (fun fin s' => match fin with | .done f => R (.ok f) s' | .again c' => (c' = c ∧ ∃ m, m < n ∧ I m s') ∨ (c'.quiet = true ∧ codeC M A c' R s')) (fun e s' => R (.error e) s') s)
    (n : Nat) (h : I n s) : codeC M A c R s := by
  induction n using Nat.strongRecOn generalizing s with
  | ind n ih =>
    refine codeTree hcl (cMono (turn n s h) (fun fin s' hf => ?_) fun _ _ h' => h')
    cases fin with
    | done f => exact hf
    | again c' =>
      rcases hf with ⟨rfl, m, hm, hI⟩ | hf
      · exact ⟨hq, ih m hm hI⟩
      · exact hf

theorem clean_dec {id : String} (h : badIds.contains id = false) : decodersThatHold.contains id = false := by
  simp only [badIds, List.contains_eq_mem, List.mem_append, not_or, decide_eq_false_iff_not] at h ⊢
  exact h.2
theorem any_clean {l : List (Code × Pos)} (hl : CleanB l) {f : Code × Pos → Bool} (hf : ∀ x, Clean x.1 → f x = false) : l.any f = false := by
  rw [List.any_eq_false]
  intro x hx
  rw [hf x (hl x hx)]
  exact Bool.false_ne_true
theorem cExported {self : Value} {Q : Bool → Shared → Prop} (h : Q false s) : wpC M A (exported self) Q E s := fun Γ p hΓ hc hb => by
  have hl : CleanB ((Γ.code, p) :: Γ.below) := fun x hx => by
    rcases List.mem_cons.mp hx with rfl | hx
    · exact hc
    · exact hb x hx
  show Q (List.any ((Γ.code, p) :: Γ.below) _) s
  rw [any_clean hl]
  · exact h
  · intro x hx
    split <;> first
      | rfl
      | (exfalso; revert hx; show ¬ (badIds.contains _ = false); decide +kernel)
      | (rw [clean_dec hx, Bool.and_false])
end
end Mine

/- part CR -/
namespace Mine

section
variable {M : Model} {A : Around} {E : Value → Shared → Prop} {s : Shared} {env : Env}
theorem cExecsNil {Q : Flow → Shared → Prop} (h : Q .next s) : wpC M A (execs [] env) Q E s := fun _ _ _ _ _ => h
theorem cExecsCons {st rest} {Q : Flow → Shared → Prop}
    (h : wpC M A (exec st env) (fun f s' => match f with | .next => wpC M A (execs rest env) Q E s' | f => Q f s') E s) :
    wpC M A (execs (st :: rest) env) Q E s := by
  rw [execs_cons]
  refine cBind (cMono h (fun f s' h' => ?_) fun _ _ h' => h')
  cases f <;> first | exact h' | exact cPure h'
theorem cIf {test body orelse pos} {Q : Flow → Shared → Prop}
    (h : wpC M A (isTrue test env (eval test env))
      (fun b s₂ => if b then wpC M A (execs body env) Q E s₂ else wpC M A (execs orelse env) Q E s₂) E s) :
    wpC M A (exec (.If test body orelse pos) env) Q E s := by
  rw [exec_If]
  refine cBind (cStandAt (cBind (cMono h (fun b s₂ h₂ => ?_) fun _ _ h' => h')))
  cases b <;> exact h₂
theorem cAssignName {x pos' value pos} {Q : Flow → Shared → Prop}
    (h : wpC M A (eval value env) (fun v s₁ => wpAny M A (storeName env x v) (fun _ => Q .next) E s₁) E s)
    (hs : swapsWith value (some (.Name x pos')) pos.line env = pure false := by rfl) :
    wpC M A (exec (.Assign [.Name x pos'] value pos) env) Q E s := by
  rw [exec_Assign_Name env x pos' value pos hs]
  exact cBind (cStandAt (cBind (cMono h (fun v s₁ h₁ => cBind (cStandAt (cBind (cMono (cOf (wpAny_bindName h₁)) (fun _ _ q => cPure q) fun _ _ q => q)))) fun _ _ q => q)))
theorem cExpr {e pos} {Q : Flow → Shared → Prop} (h : wpC M A (eval e env) (fun v s' => match v with | .ref _ => False | _ => Q .next s') E s)
    (hi : interactive env = false := by rfl) (hs : swapsWith e none pos.line env = pure false := by rfl) :
    wpC M A (exec (.Expr e pos) env) Q E s := by
  rw [exec_Expr env e pos hi hs]
  refine cBind (cStandAt (cBind (cMono h (fun v s' h' => ?_) fun _ _ x => x)))
  have hv : ∀ a, v ≠ .ref a := fun a hva => by subst hva; exact h'
  rw [dropValue_plain hv]
  refine cPure ?_
  cases v <;> first | exact h' | exact (hv _ rfl).elim
theorem cRunOwn {c : Code} {h : Option Value} {Q : Flow → Shared → Prop}
    (hc : codeC M (A.mark h) c (fun r s' => match r with | .ok f => Q f s' | .error e => cameBackBy M A env E e s') s) (hnb : h ≠ some byPass := by intro x; cases x) :
    wpC M A (runOwn c env h) Q E s := by
  unfold runOwn
  refine cOnRaise (cMono (cRun hc hnb) (fun _ _ q => q) fun e s' q => ?_)
  exact cOf q
theorem cIsTrueCompare1 {l op r pos whole} {Q : Bool → Shared → Prop}
    (h : wpC M A (eval l env) (fun a s₁ => wpAny M A (eval r env) (fun b s₂ => wpAny M A (compareOp op a b)
      (fun c s₃ => wpAny M A (truthy c) Q E s₃) E s₂) E s₁) E s)
    (hm : behindInMarks op r = false := by with_unfolding_all rfl) : wpC M A (isTrue (.Compare l [op] [r] pos) env whole) Q E s := by
  rw [isTrue_Compare1, markedBehindIn_of_false hm]
  refine cBind (cMono h (fun a s₁ h₁ => cOf (wpAny_bind (wpAny_holding (wpAny_mono h₁ (fun b s₂ h₂ => wpAny_bind (wpAny_standAt (wpAny_bind ?_))) fun _ _ q => q)))) fun _ _ q => q)
  have h₂' : wpAny M A (operate [a, b] (compareOp op a b)) (fun c s₃ => wpAny M A (truthy c) Q E s₃) E s₂ := fun Γ p hΓ => by
    rw [Sem.wp_operate]; exact h₂ Γ p hΓ
  exact wpAny_mono h₂' (fun c s₃ h₃ => wpAny_holding h₃) fun _ _ q => q
theorem cIsTrueOrNil {pos whole} {Q : Bool → Shared → Prop} (h : Q false s) : wpC M A (isTrue (.BoolOp .Or [] pos) env whole) Q E s := cPure (a := false) h
theorem cIsTrueOr {x rest pos whole} {Q : Bool → Shared → Prop}
    (h : wpC M A (isTrue x env (eval x env)) (fun c s' => if c then Q true s' else wpC M A (isTrue (.BoolOp .Or rest pos) env whole) Q E s') E s) :
    wpC M A (isTrue (.BoolOp .Or (x :: rest) pos) env whole) Q E s := by
  show wpC M A (do
    match BoolOp.Or, ← isTrue x env (eval x env) with
    | .And, false => pure false
    | .Or, true => pure true
    | _, _ => allTrue .Or rest env) Q E s
  refine cBind (cMono h (fun c s' h' => ?_) fun _ _ x => x)
  cases c with
  | false => exact h'
  | true => exact cPure h'
theorem cCallName {id : Str} {p pos : Pos} {args : List Expr} {keywords : List Keyword} {Q : Value → Shared → Prop}
    (h : wpAny M A (eval (.Name id p) env) (fun f s₁ => wpC M A (callWith pos f [] (backTo pos (starEach args env)) (backToKw pos (keywordEach keywords env))) Q E s₁) E s) :
    wpC M A (eval (.Call (.Name id p) args keywords pos) env) Q E s := by
  rw [arm_eval_Call_Name']
  exact cBindA h
theorem cCallWithFunction {pos : Pos} {a : Addr} {o : Obj} {fd : FuncData} {first : List Value} {args : List (Bool × Sem Value)} {Q : Value → Shared → Prop}
    (h : wpAny M A (evalArgs (.ref a) true args []) (fun x s₁ => (s₁.heap.get? a = some o ∧ o.data = .func fd) ∧ wpC M A (call (.ref a) (first ++ x.pos) x.kw) Q E s₁) E s) :
    wpC M A (callWith pos (.ref a) first args []) Q E s := by
  unfold callWith
  refine cBind (cHolding (cMono (cOf h) (fun x s₁ h₁ => cBind (cStandAt ?_)) fun _ _ x => x))
  have tail : ∀ {t : Sem Value}, wpC M A t Q E s₁ → wpC M A (t >>= fun r => holding [r] point >>= fun _ => pure r) Q E s₁ :=
    fun ht => cBind (cMono ht (fun r s₂ hr => cBind (cHolding (cPoint (cPure hr)))) fun _ _ x => x)
  cases hs : args.any (·.1) <;> simp only [List.any_nil, Bool.or_false] <;>
    refine cBindA (m := keeperOf (.ref a)) ?_ <;> unfold keeperOf <;>
    refine wpAny_bind (wpAny_load h₁.1.1 ?_) <;> rw [h₁.1.2] <;> refine wpAny_pure ?_
  · dsimp only
    by_cases hz : args.length + 2 * ([] : List (Option Str × Sem Value)).length > 30
    · rw [if_pos hz]; exact tail h₁.2
    · rw [if_neg hz]
      refine tail (t := callMarked _ _ _ _) ?_
      unfold callMarked
      exact cKeep h₁.2
  · dsimp only
    refine tail (t := callMarked _ _ _ _) ?_
    unfold callMarked
    exact cKeep h₁.2
theorem cCallWithType {pos : Pos} {T : String} {first : List Value} {args : List (Bool × Sem Value)} {Q : Value → Shared → Prop}
    (hplain : args.any (·.1) = false)
    (h : wpAny M A (evalArgs (.type T) true args []) (fun a s₁ => wpC M A (call (.type T) (first ++ a.pos) a.kw) Q E s₁) E s) :
    wpC M A (callWith pos (.type T) first args []) Q E s := by
  unfold callWith
  refine cBind (cHolding (cMono (cOf h) (fun a s₁ h₁ => cBind (cStandAt ?_)) fun _ _ x => x))
  simp only [hplain, List.any_nil, Bool.or_false]
  refine cBind (cPure ?_)
  exact cBind (cMono h₁ (fun r s₂ hr => cBind (cHolding (cPoint (cPure hr)))) fun _ _ x => x)
theorem cTryExcept {body orelse : List Stmt} {h₀ : ExceptHandler} {hs : List ExceptHandler} {pos : Pos} {Q : Flow → Shared → Prop}
    (h : wpC M A (execs body env) (fun f s₁ => match f with | .next => wpC M A (execs orelse env) Q E s₁ | f => Q f s₁)
      (fun e s₁ => wpAny M A (noteFrame e env) (fun _ s₂ => wpAny M A (setFlight e none) (fun _ s₃ => wpAny M A (handleBy e env (h₀ :: hs)) Q E s₃) E s₂) E s₁) s) :
    wpC M A (exec (.Try body (h₀ :: hs) orelse [] pos) env) Q E s := by
  rw [arm_exec_Try]
  refine cBind (cStandAt ?_)
  unfold tryStmt
  simp only [List.isEmpty_nil, if_true, List.isEmpty_cons, Bool.false_and, Bool.false_eq_true, if_false]
  refine cBind (cAttempt (cMono h (fun f s₁ h₁ => ?_) fun e s₁ h₁ => ?_))
  · cases f <;> first | exact h₁ | exact cPure h₁
  · exact cOf (wpAny_bind (wpAny_mono h₁ (fun _ _ h₂ => wpAny_bind h₂) fun _ _ x => x))
end

section
variable {prog : Program} {w : World} {A : Around} {E : Value → Shared → Prop} {s : Shared} {R : Result → Shared → Prop} {env : Env}
theorem codeFunc {body env}
    (h : wpC (model prog w) (A.deeper env) (execs body env) (fun f s' => R (.ok (.ret (match f with | .ret v => v | _ => .none))) s')
      (fun e s' => wpAny (model prog w) (A.deeper env) (leaving env e) (fun _ s'' => R (.error e) s'') (fun e' s'' => R (.error e') s'') s') s) :
    codeC (model prog w) A (.func body env) R s := by
  refine codeTree trivial ?_
  show wpC _ (A.deeper env) (do point; match ← (execs body env).onRaise (leaving env) with | .ret v => ret v | _ => ret .none) _ _ s
  refine cBind (cPoint (cBind (cOnRaise (cMono h (fun f s' h' => ?_) fun _ _ h' => cOf h'))))
  cases f <;> exact cPure h'
theorem codeCallFunction {a : Addr} {args : Args} {o : Obj} {fd : FuncData} {body : List Stmt} (hroom : A.depth < recursionLimit)
    (ho : s.heap.get? a = some o)
    (hd' : o.data = .func fd) (hco : fd.scope.isCoroutine = false) (hgen : fd.scope.isGenerator = false) (hbody : fd.body = .stmts body) (hcd : s.heap.CodeRec fd.code fd.qualname)
    (h : wpAny (model prog w) A.in1 (bindArgs fd args) (fun binds s₁ =>
      wpAny (model prog w) A.in1 (newFunctionEnv fd.scope fd.globals fd.closure binds (fd.qualname ++ ".<locals>.") (some a) fd.code none fd.builtins)
        (fun env s₂ => s₂.heap.NoLimit ∧ codeC (model prog w) A (.func body env) R s₂) (fun e s' => R (.error e) s') s₁) (fun e s' => R (.error e) s') s) :
    codeC (model prog w) A (.call (.ref a) args) R s := by
  refine codeTree trivial ?_
  show wpC _ A.in1 (callAny (.ref a) args) _ _ s
  simp only [callAny]
  refine cBindA (wpAny_load ho ?_)
  obtain ⟨c, oc, vs, tq, hc, hoc, hdc, hq⟩ := hcd
  simp only [hd', callFunction, hco, hgen, hbody, hc]
  rw [hc] at h
  refine cBindA (m := field (.ref c) 1) (wpAny_field hoc hdc hq (cBind (cPure ?_)))
  exact cBindA (wpAny_mono h (fun binds s₁ h₁ => cBindA (wpAny_mono h₁ (fun env s₂ h₂ => cBindA (wpAny_enterFrame h₂.1 hroom
    (cPure (And.intro rfl h₂.2)))) fun _ _ h' => h')) fun _ _ h' => h')
theorem cNoted {α : Type} {M : Model} {A : Around} {E : Value → Shared → Prop} {s : Shared} {env : Env} {m : Sem α} {Q : α → Shared → Prop} (h : wpC M A m Q (notedBy M A env E) s) : wpC M A (m.onRaise fun x => do noteFrame x env; theTreesLotGoes x) Q E s :=
  cOnRaise (cMono h (fun _ _ q => q) fun _ _ hx => cOf (wpAny_bind (wpAny_mono hx (fun _ _ e => wpAny_theTreesLotGoes e) fun _ _ e => e)))
theorem codeForLoop {target it body env} (I : Nat → Shared → Prop)
    (turn : ∀ n s, I n s → wpAny (model prog w) A (pyNext it) (fun r s₁ => match r with
      | none => R (.ok .next) s₁
      | some v => wpAny (model prog w) A (assign target env v) (fun _ s₂ => wpC (model prog w) A (execs body env) (fun f s₃ => match f with
          | .next | .cont => ∃ m, m < n ∧ I m s₃
          | .brk => R (.ok .next) s₃
          | .ret v => R (.ok (.ret v)) s₃) (notedBy (model prog w) A env fun e s' => R (.error e) s') s₂) (notedBy (model prog w) A env fun e s' => R (.error e) s') s₁) (notedBy (model prog w) A env fun e s' => R (.error e) s') s)
    (n : Nat) (h : I n s) (ht : ∀ v, letOwnedTupleGo target it v = pure () := by intro _; rfl) : codeC (model prog w) A (.forLoop target it body [] env) R s := by
  refine codeLoop trivial rfl I (fun n s hI => ?_) n h
  show wpC _ _ ((forTurn target it body [] env).onRaise (fun x => do noteFrame x env; theTreesLotGoes x)) _ _ s
  refine cNoted ?_
  simp only [forTurn]
  refine cBind (cStandAt (cBindA (wpAny_onRaise (wpAny_mono (turn n s hI) (fun r s₁ h₁ => ?_) fun _ _ h' => wpAny_standAt h'))))
  cases r with
  | none => exact cPure (.inr ⟨rfl, codeOf (codeAny_block (wpAny_execs_nil h₁))⟩)
  | some v =>
    refine cBind (cEq (ht v) ?_)
    refine cBindA (wpAny_mono h₁ (fun _ s₂ h₂ => cBind (cMono h₂ (fun f s₃ h₃ => ?_) fun _ _ h' => h')) fun _ _ h' => h')
    cases f with
    | next => exact cPure (.inl ⟨rfl, h₃⟩)
    | cont => exact cPure (.inl ⟨rfl, h₃⟩)
    | brk => exact cPure h₃
    | ret v => exact cPure h₃
theorem cFor {target iter body pos} {Q : Flow → Shared → Prop} {M : Model}
    (h : wpAny M A (eval iter env) (fun x s₁ => wpAny M A (pyIter x) (fun it s₂ =>
      codeC M A (.forLoop target it body [] env) (fun r s' => match r with | .ok f => Q f s' | .error e => cameBackBy M A env E e s') s₂) E s₁) E s)
    (hs : ∀ x, foldedSetIterable iter env x = pure x := by intro _; rfl) :
    wpC M A (exec (.For target iter body [] pos) env) Q E s := by
  rw [exec_For]
  exact cBind (cStandAt (cBindA (wpAny_mono h (fun x s₁ h₁ => cBind (cEq (hs x) (cBind (cStandAt (cBindA (wpAny_holding
    (wpAny_mono h₁ (fun it s₂ h₂ => cRunOwn h₂) fun _ _ h' => h'))))))) fun _ _ h' => h')))
end
end Mine

/- part BA -/
namespace Mine
namespace F
theorem mro : mroOf (.type "bytearray") = pure [.type "bytearray", .type "object"] := by rw [mroOf_type]; kernel_rfl
theorem lookup_new : typeLookup (.type "bytearray") "__new__" = pure (some (.builtin "bytearray.__new__")) := by rw [typeLookup_type, builtinLookup_eq_fast]; kernel_rfl
theorem slot_init : Slot "bytearray" "__init__" "bytearray.__init__" :=
  .of (owner := "bytearray") (n := "__init__") (by rw [typeLookup_type, builtinLookup_eq_fast]; kernel_rfl) (by decide +kernel) (by decide +kernel) (by decide +kernel)
    (by first | exact .inl (by decide +kernel) | exact .inr (by decide +kernel)) (by rw [isSubtype_type]; kernel_rfl)
theorem slot_setitem : Slot "bytearray" "__setitem__" "bytearray.__setitem__" :=
  .of (owner := "bytearray") (n := "__setitem__") (by rw [typeLookup_type, builtinLookup_eq_fast]; kernel_rfl) (by decide +kernel) (by decide +kernel) (by decide +kernel)
    (by first | exact .inl (by decide +kernel) | exact .inr (by decide +kernel)) (by rw [isSubtype_type]; kernel_rfl)
theorem called : TypeCalled "bytearray" "bytearray.__new__" "bytearray.__init__" :=
  ⟨by decide +kernel, by decide +kernel, ⟨_, _, mro⟩, madeBy_type mro lookup_new (by decide +kernel), by decide +kernel, by rw [isSubtype_type]; kernel_rfl, slot_init⟩
theorem typeCall (a : Value) : checkTypeCall "bytearray" ⟨[a], []⟩ = pure () := by kernel_rfl
theorem newCall (a : Value) : checkBuiltinCall "bytearray.__new__" ⟨[.type "bytearray", a], []⟩ = pure () := by kernel_rfl
theorem entry_new : entryFor table "bytearray.__new__" = some Builtin.«list.__new__» :=
  entryFor_alias (id' := "list.__new__") (by kernel_rfl) (by first | rfl | decide +kernel | (unfold String.splitOn; simp +decide [String.splitOnAux])) (by decide +kernel) (by kernel_rfl)
theorem entry_init : entryFor table "bytearray.__init__" = some Builtin.«bytearray.__init__» := by first | exact entryFor_of_fast (by kernel_rfl) | exact entryFor_of_tree (by kernel_rfl)
theorem entry_setitem : entryFor table "bytearray.__setitem__" = some Builtin.«bytearray.__setitem__» := by first | exact entryFor_of_fast (by kernel_rfl) | exact entryFor_of_tree (by kernel_rfl)
theorem plain_new : plainId "bytearray.__new__" = true := by decide +kernel
theorem plain_init : plainId "bytearray.__init__" = true := by decide +kernel
theorem args_init (a b : Value) : argsOk "bytearray.__init__" ⟨[a, b], []⟩ := by unfold argsOk; kernel_rfl
theorem args_setitem (a b c : Value) : argsOk "bytearray.__setitem__" ⟨[a, b, c], []⟩ := by unfold argsOk; kernel_rfl
theorem bind_init (v : Value) : Builtin.Bytes.bindOptional "bytearray.__init__" "bytearray" ["source", "encoding", "errors"] [v] [] = pure [some v, none, none] := by kernel_rfl
theorem sub_self : isSubtype (.type "bytearray") (.type "bytearray") = pure true := by rw [isSubtype_type]; kernel_rfl
theorem lookup_release : typeLookup (.type "bytearray") "__release_buffer__" = pure (some (.builtin "bytearray.__release_buffer__")) := by rw [typeLookup_type, builtinLookup_eq_fast]; kernel_rfl
theorem lookup_buffer : typeLookup (.type "bytearray") "__buffer__" = pure (some (.builtin "bytearray.__buffer__")) := by rw [typeLookup_type, builtinLookup_eq_fast]; kernel_rfl
theorem noBytes : typeLookup (.type "bytearray") "__bytes__" = pure none := by rw [typeLookup_type, builtinLookup_eq_fast]; kernel_rfl
theorem noIndex : typeLookup (.type "bytearray") "__index__" = pure none := by rw [typeLookup_type, builtinLookup_eq_fast]; kernel_rfl
theorem int_index : typeLookup (.type "int") "__index__" = pure (some (.builtin "int.__index__")) := by rw [typeLookup_type, builtinLookup_eq_fast]; kernel_rfl
theorem owner_new : ("bytearray.__new__".splitOn ".__new__").headD "" = "bytearray" := by rw [split_bytearray]; rfl
end F
end Mine

/- part BB -/
namespace Mine
abbrev baObj (b : Array UInt8) : Obj := { cls := .type "bytearray", data := .bytearray b }

section
variable {prog : Program} {w : World} {A : Around} {E : Value → Shared → Prop} {s : Shared} {R : Result → Shared → Prop}

theorem codeBuiltin {id : String} {args : Args} {b : Builtin} (hcl : badIds.contains id = false) (hb : entryFor table id = some b)
    (h : wpC (model prog w) (A.under (.builtin id args)) (b args)
      (fun fin s' => match fin with | .done f => R (.ok f) s' | .again c' => c'.quiet = true ∧ codeC (model prog w) A c' R s') (fun e s' => R (.error e) s') s) :
    codeC (model prog w) A (.builtin id args) R s := by
  refine codeTree hcl ?_
  show wpC _ _ (match entryFor table id with | some b => b args | none => unsupported ((withoutEnding? id "#data").getD id)) _ _ s
  rw [hb]; exact h
theorem codeCallBuiltin {id : String} {args : Args} {b : Builtin} (hcl : badIds.contains id = false) (hq : plainId id = true) (hb : entryFor table id = some b)
    (h : wpAny (model prog w) A.in1 (checkBuiltinCall id args) (fun _ s₁ => wpC (model prog w) A.in1 (b args)
      (fun fin s' => match fin with | .done f => R (.ok f) s' | .again c' => c'.quiet = true ∧ codeC (model prog w) A c' R s') (fun e s' => R (.error e) s') s₁)
      (fun e s' => R (.error e) s') s) : codeC (model prog w) A (.call (.builtin id) args) R s := by
  refine codeTree trivial ?_
  show wpC _ A.in1 (do checkBuiltinCall id args; again (.builtin id args)) _ _ s
  exact cBindA (wpAny_mono h (fun _ s₁ h₁ => cPure (And.intro (plainId_quiet hq args) (codeBuiltin hcl hb (by rw [Around.under_plainId hq args]; exact h₁)))) fun _ _ h' => h')

theorem code_new (a : Value) {Q₁ : Value → Shared → Prop}
    (h : Q₁ (.ref s.heap.objs.size) { s with heap := s.heap.push (baObj #[]) }) :
    codeAny (model prog w) A (.call (.builtin "bytearray.__new__") ⟨[.type "bytearray", a], []⟩) (wants Q₁ E) s := by
  refine codeAny_of_tree ?_
  show wpAny _ A.in1 (do checkBuiltinCall "bytearray.__new__" ⟨[.type "bytearray", a], []⟩; again (.builtin "bytearray.__new__" ⟨[.type "bytearray", a], []⟩)) _ _ s
  refine wpAny_bind (wpAny_of_eq (F.newCall a) (wpAny_pure ⟨plainId_quiet F.plain_new _, codeAny_builtin_stack F.entry_new rfl fun p st => ?_⟩))
  rw [Around.under_plainId F.plain_new _]
  have hsub := F.sub_self
  have hown := F.owner_new
  obtain ⟨hp, g, d, tk, os⟩ := s
  simp only [hown]
  wp_walk
  exact h

theorem write_ba {S : Addr} {b c : Array UInt8} {f : Array UInt8 → Array UInt8} {Q : Unit → Shared → Prop} (hS : s.heap.get? S = some (baObj b)) (hc : f b = c) (hz : c.size ≤ sizeLine)
    (h : ∀ h', h'.get? S = some (baObj c) → Heap.SameBut S s.heap h' → Q () { s with heap := h' }) : wpAny (model prog w) A (Builtin.Bytes.write (.ref S) f) Q E s := by
  show wpAny _ _ (updateBytearray S f) _ _ _
  unfold updateBytearray
  refine wpAny_bind (wpAny_load hS ?_)
  show wpAny _ _ (update S (Obj.mapBytearray f) >>= fun _ => lookBehind S) _ _ _
  refine wpAny_bind (wpAny_update hS ?_)
  have hS₂ : (s.heap.update S (Obj.mapBytearray f)).get? S = some (baObj c) := by
    rw [← hc]; exact Heap.get?_update_self (Obj.mapBytearray f) hS rfl
  refine wpAny_lookBehind hS₂ ?_ (h _ hS₂ (Heap.SameBut.update ..))
  show (if c.size > sizeLine then some "bytearray:memory" else none) = none
  rw [if_neg (Nat.not_lt.mpr hz)]

end
end Mine

/- part BC -/
namespace Mine
section
variable {prog : Program} {w : World} {A : Around} {E : Value → Shared → Prop} {s : Shared} {R : Result → Shared → Prop}
theorem ownRelease_ba {M : Model} {S : Addr} {b : Array UInt8} {Q : Bool → Shared → Prop} (hS : s.heap.get? S = some (baObj b)) (h : Q false s) : wpAny M A (Builtin.Bytes.ownRelease (.ref S)) Q E s := by
  have hT : s.TypeIs (.ref S) "bytearray" := ⟨_, hS, rfl⟩
  unfold Builtin.Bytes.ownRelease Builtin.Bytes.slotIsOwn
  refine wpAny_bind (wpAny_bind (wpAny_specialOf hT F.lookup_release ?_))
  dsimp only
  refine bm_if_false (by decide +kernel) ?_
  rw [show ("bytearray.__release_buffer__".dropRight ("__release_buffer__".length + 1)) = "bytearray" from by decide +kernel]
  refine wpAny_isInstance hT F.sub_self (wpAny_pure h)

theorem code_init {S : Addr} {n : Nat} {t : Tok} (hS : s.heap.get? S = some (baObj #[])) (hn : n ≤ sizeLine)
    (hR : ∀ h', h'.get? S = some (baObj (Array.replicate n 0)) → (∀ b o, b ≠ S → s.heap.get? b = some o → h'.get? b = some o) → R (.ok (.ret .none)) { s with heap := h' }) :
    codeC (model prog w) A (.call (.builtin "bytearray.__init__") ⟨[.ref S, .int (n : Int) t], []⟩) R s := by
  have hT : s.TypeIs (.ref S) "bytearray" := ⟨_, hS, rfl⟩
  refine codeCallBuiltin (by decide +kernel) F.plain_init F.entry_init (F.slot_init.check _ _ _ _ _ _ _ _ hT (F.args_init _ _) ?_)
  unfold Builtin.«bytearray.__init__»
  refine cBindA (ownRelease_ba hS ?_)
  refine cBind (cEq (F.bind_init _) ?_)
  dsimp only
  refine cBind (cEq (a := ()) rfl ?_)
  refine cBind (cEq (a := ()) rfl ?_)
  refine cBind (cBind (cExported ?_))
  refine cOf ?_
  show wpAny _ _ (Builtin.Bytes.exportsOf (Value.ref S) >>= fun n => pure (decide (n > 0))) _ _ _
  refine wpAny_bind ?_
  show wpAny _ _ (load S >>= _) _ _ _
  refine wpAny_bind (wpAny_load hS ?_)
  refine wpAny_pure (wpAny_pure (cOf ?_))
  refine bm_if_false (by rfl) ?_
  refine wpAny_bind (write_ba hS rfl (Nat.zero_le _) fun h₁ hS₁ hs₁ => ?_)
  have e1 : asStr? (Value.int (n : Int) t) = pure none := rfl
  have e2 : specialOf (Value.int (n : Int) t) (Str.ofString "__index__") = pure (some (.builtin "int.__index__")) := by
    show (typeOf (Value.int (n : Int) t) >>= fun T => typeLookup T (Str.ofString "__index__")) = _
    rw [show typeOf (Value.int (n : Int) t) = pure (.type "int") from rfl, pure_bind]
    exact F.int_index
  have e3 : asIndex (Value.int (n : Int) t) = pure (n : Int) := rfl
  have e4 : (pure (n : Int) : Sem Int).attempt = pure (Except.ok (n : Int)) := rfl
  have hz : sizeLine = 16777216 := sizeLine_eq
  have hf : Builtin.Bytes.fitsIndex (n : Int) = true := by
    unfold Builtin.Bytes.fitsIndex
    simp only [Bool.and_eq_true, decide_eq_true_eq]; omega
  have hneg : ¬ ((n : Int) < 0) := by omega
  have hne : ((n : Int) == 2 ^ 63 - 1) = false := by
    simp only [beq_eq_false_iff_ne, ne_eq]; omega
  have htl : Builtin.Bytes.tooLong (n : Int).toNat = false := by
    unfold Builtin.Bytes.tooLong
    simp only [decide_eq_false_iff_not]; omega
  simp only [e1, e2, e3, e4, hf, hneg, hne, htl, pure_bind, Option.isSome_none, Option.isSome_some, Bool.false_eq_true, if_false, if_true, Bool.not_true]
  refine wpAny_bind (wpAny_rule ?_)
  have hk : ∀ h' : Heap, (∀ b o, b ≠ S → h₁.get? b = some o → h'.get? b = some o) → ∀ b o, b ≠ S → s.heap.get? b = some o → h'.get? b = some o :=
    fun h' k b o hb e => k b o hb ((hs₁.2 b hb).trans e)
  by_cases h0 : n = 0
  · subst h0
    rw [if_neg (by omega)]
    exact wpAny_pure (hR h₁ hS₁ (hk h₁ fun _ _ _ e => e))
  · rw [if_pos (by omega)]
    refine wpAny_bind (write_ba (c := Array.replicate n 0) hS₁ (by simp) (by simpa using hn) fun h₂ hS₂ hs₂ => ?_)
    exact wpAny_pure (hR h₂ hS₂ (hk h₂ fun b o hb e => (hs₂.2 b hb).trans e))
end
end Mine

/- part BD -/
namespace Mine
section
variable {prog : Program} {w : World} {A : Around} {E : Value → Shared → Prop} {s : Shared} {R : Result → Shared → Prop}
theorem cCallBytearray {n : Nat} {t : Tok} {Q : Value → Shared → Prop} (hn : n ≤ sizeLine)
    (hQ : ∀ h' : Heap, h'.get? s.heap.objs.size = some (baObj (Array.replicate n 0)) → (∀ b o, s.heap.get? b = some o → h'.get? b = some o) → Q (.ref s.heap.objs.size) { s with heap := h' }) :
    wpC (model prog w) A (call (.type "bytearray") [.int (n : Int) t]) Q E s := by
  refine cCall (codeTree trivial ?_)
  show wpC _ _ (callAny (.type "bytearray") _) _ _ _
  refine cPure ⟨Code.quiet_builtin _ (by decide +kernel), codeBuiltin (by decide +kernel) PySem.F.entry_type_call ?_⟩
  rw [Around.under_plain (weight_type_call_type "bytearray" [.int (n : Int) t] []) (units_type_call_type "bytearray" [.int (n : Int) t] [])]
  have h1 := F.called.notType
  have h2 := F.called.canCreate
  have h3 := F.called.made
  have h4 := F.mro
  have h5 := F.typeCall (.int (n : Int) t)
  unfold Builtin.«type.__call__»
  simp only [h1, h2, h3, h4, h5, pure_bind, Bool.false_eq_true, if_false, List.isEmpty_cons]
  refine cBindA (wpAny_holding (wpAny_call (code_new (.int (n : Int) t) (Q₁ := fun v s₁ => wpC (model prog w) A.in1 _ _ _ s₁) ?_)))
  have hS : (s.heap.push (baObj #[])).get? s.heap.objs.size = some (baObj #[]) := Heap.get?_push_size _ rfl
  have hT : Shared.TypeIs { s with heap := s.heap.push (baObj #[]) } (.ref s.heap.objs.size) "bytearray" := ⟨_, hS, rfl⟩
  refine cBindA (wpAny_isInstance hT F.sub_self ?_)
  simp only [Bool.not_true, Bool.false_eq_true, if_false]
  refine cBind (cHolding ?_)
  unfold callSpecial?
  refine cBindA (wpAny_specialOf hT F.slot_init.lookup ?_)
  refine cHolding ?_
  simp only [F.slot_init.bind, pure_bind]
  refine cBind (cCall (codeMono (code_init (R := fun r s' => r = .ok (.ret .none) ∧ ∃ h' : Heap, s' = { s with heap := h' } ∧ h'.get? s.heap.objs.size = some (baObj (Array.replicate n 0)) ∧ ∀ b o, s.heap.get? b = some o → h'.get? b = some o) hS hn ?_) ?_))
  · intro h' hS' hk
    exact ⟨rfl, h', rfl, hS', fun b o e => hk b o (Nat.ne_of_lt (Heap.lt_size e)) (Heap.get?_push_of_some _ e)⟩
  · rintro r s' ⟨rfl, h', rfl, hS', hk⟩
    exact cPure (cPure (hQ h' hS' hk))
end
end Mine

/- part BE -/
namespace Mine
theorem subscript_int {k : Int} {t : Tok} (hlo : -(2 ^ 63) ≤ k) (hhi : k < 2 ^ 63) : Builtin.Bytes.subscript? (.int k t) = pure (some k) := by
  have e2 : specialOf (Value.int k t) (Str.ofString "__index__") = pure (some (.builtin "int.__index__")) := by
    show (typeOf (Value.int k t) >>= fun T => typeLookup T (Str.ofString "__index__")) = _
    rw [show typeOf (Value.int k t) = pure (.type "int") from rfl, pure_bind]
    exact F.int_index
  have e3 : asIndex (Value.int k t) = pure k := rfl
  have hf : Builtin.Bytes.fitsIndex k = true := by
    unfold Builtin.Bytes.fitsIndex
    simp only [Bool.and_eq_true, decide_eq_true_eq]; omega
  unfold Builtin.Bytes.subscript?
  simp only [e2, e3, hf, pure_bind, Option.isNone_some, Bool.false_eq_true, if_false, Bool.not_true]
theorem byte_int {x : Int} {t : Tok} (h0 : 0 ≤ x) (h1 : x < 256) : Builtin.Bytes.byteValue (.int x t) = pure x.toNat.toUInt8 := by
  have e3 : asIndex (Value.int x t) = pure x := rfl
  unfold Builtin.Bytes.byteValue
  have hc : ¬ ((decide (x < 0) || decide (x ≥ 256)) = true) := by
    simp only [Bool.or_eq_true, decide_eq_true_eq]; omega
  simp only [e3, pure_bind]
  rw [if_neg hc]
theorem seqIndex_in {k : Int} {n : Nat} (h0 : 0 ≤ k) (h1 : k < n) : seqIndex? k n = some k.toNat := by
  have hn : ¬ (k < 0) := by omega
  unfold seqIndex?
  simp only [hn, if_false]
  rw [if_pos (by simp only [Bool.and_eq_true, decide_eq_true_eq]; omega)]
theorem seqIndex_out {k : Int} {n : Nat} (h1 : (n : Int) ≤ k) : seqIndex? k n = none := by
  have hn : ¬ (k < 0) := by omega
  unfold seqIndex?
  simp only [hn, if_false]
  rw [if_neg (by simp only [Bool.and_eq_true, decide_eq_true_eq]; omega)]
section
variable {prog : Program} {w : World} {A : Around} {E : Value → Shared → Prop} {s : Shared}
theorem payload_ba {S : Addr} {b : Array UInt8} {Q : Array UInt8 → Shared → Prop} (hS : s.heap.get? S = some (baObj b)) (h : Q b s) : wpAny (model prog w) A (Builtin.Bytes.payload (.ref S)) Q E s := by
  unfold Builtin.Bytes.payload Builtin.Bytes.payload?
  refine wpAny_bind (wpAny_bind (wpAny_load hS ?_))
  exact wpAny_pure (wpAny_pure h)
theorem setItem_ba {S : Addr} {b : Array UInt8} {k x : Int} {t u : Tok} {Q : Unit → Shared → Prop} (hS : s.heap.get? S = some (baObj b)) (hz : b.size ≤ sizeLine) (h0 : 0 ≤ k) (h1 : k < b.size) (hx0 : 0 ≤ x) (hx1 : x < 256)
    (hQ : ∀ h', h'.get? S = some (baObj (b.setIfInBounds k.toNat x.toNat.toUInt8)) → Heap.SameBut S s.heap h' → Q () { s with heap := h' }) :
    wpAny (model prog w) A (setItem (.ref S) (.int k t) (.int x u)) Q E s := by
  have hT : s.TypeIs (.ref S) "bytearray" := ⟨_, hS, rfl⟩
  have hk : k < 2 ^ 63 := by have := sizeLine_eq; omega
  unfold setItem
  refine wpAny_holding ?_
  refine wpAny_bind (wpAny_sequenceKey hT (by decide) ?_)
  refine wpAny_bind (wpAny_callSpecial?_slot (name := Str.ofString "__setitem__") hT F.slot_setitem
    (wpAny_call_entry F.slot_setitem hT F.entry_setitem ?_ (F.args_setitem _ _ _)))
  unfold Builtin.«bytearray.__setitem__»
  simp only [subscript_int (by omega) hk, byte_int hx0 hx1, pure_bind, List.isEmpty_nil, Bool.not_true, Bool.false_eq_true, if_false]
  refine wpAny_bind (payload_ba hS ?_)
  simp only [seqIndex_in h0 h1]
  refine wpAny_bind (write_ba hS rfl (by simpa using hz) fun h' hS' hs' => wpAny_pure ⟨_, rfl, wpAny_pure (hQ h' hS' hs')⟩)
theorem setItem_ba_out {S : Addr} {b : Array UInt8} {k x : Int} {t u : Tok} {Q : Unit → Shared → Prop} (hA : A.handled = none) (hS : s.heap.get? S = some (baObj b)) (h1 : (b.size : Int) ≤ k) (hk : k < 2 ^ 63) (hx0 : 0 ≤ x) (hx1 : x < 256)
    (hE : ∀ h' tk e, Heap.NewExc s.heap h' e "IndexError" → E (.ref e) { s with heap := h', toks := tk }) :
    wpAny (model prog w) A (setItem (.ref S) (.int k t) (.int x u)) Q E s := by
  have hT : s.TypeIs (.ref S) "bytearray" := ⟨_, hS, rfl⟩
  unfold setItem
  refine wpAny_holding ?_
  refine wpAny_bind (wpAny_sequenceKey hT (by decide) ?_)
  refine wpAny_bind (wpAny_callSpecial?_slot (name := Str.ofString "__setitem__") hT F.slot_setitem
    (wpAny_call_entry F.slot_setitem hT F.entry_setitem ?_ (F.args_setitem _ _ _)))
  unfold Builtin.«bytearray.__setitem__»
  simp only [subscript_int (by omega) hk, byte_int hx0 hx1, pure_bind, List.isEmpty_nil, Bool.not_true, Bool.false_eq_true, if_false]
  refine wpAny_bind (payload_ba hS ?_)
  simp only [seqIndex_out h1]
  first
    | exact wpAny_bind (wpAny_rule (by exact_raiseError plainExc_IndexError hA hE))
    | exact wpAny_bind (wpAny_rule (wpAny_bind (by exact_raiseError plainExc_IndexError hA hE)))
    | exact wpAny_bind (wpAny_bind (wpAny_rule (by exact_raiseError plainExc_IndexError hA hE)))
    | exact wpAny_rule (by exact_raiseError plainExc_IndexError hA hE)
    | exact wpAny_bind (by exact_raiseError plainExc_IndexError hA hE)
    | trace_state
end
end Mine

/- part BF -/
namespace Mine
section
variable {prog : Program} {w : World} {A : Around} {E : Value → Shared → Prop} {s : Shared}
theorem asStr_ba {M : Model} {S : Addr} {b : Array UInt8} {Q : Option Str → Shared → Prop} (hS : s.heap.get? S = some (baObj b)) (h : Q none s) : wpAny M A (asStr? (.ref S)) Q E s := by
  show wpAny _ _ (load S >>= _) _ _ _
  refine wpAny_bind (wpAny_load hS ?_)
  exact wpAny_pure h
theorem buffer_ba {S : Addr} {b : Array UInt8} {id : String} {f : Bool} {Q : Option (Array UInt8) → Shared → Prop} (hS : s.heap.get? S = some (baObj b)) (h : Q (some b) s) :
    wpAny (model prog w) A (Builtin.Bytes.buffer? id (.ref S) f) Q E s := by
  have hT : s.TypeIs (.ref S) "bytearray" := ⟨_, hS, rfl⟩
  unfold Builtin.Bytes.buffer?
  refine wpAny_bind (wpAny_specialOf hT F.lookup_buffer ?_)
  dsimp only
  refine wpAny_bind ?_
  unfold Builtin.Bytes.slotIsOwn
  refine wpAny_bind (wpAny_specialOf hT F.lookup_buffer ?_)
  dsimp only
  refine bm_if_false (by decide +kernel) ?_
  rw [show ("bytearray.__buffer__".dropRight ("__buffer__".length + 1)) = "bytearray" from by decide +kernel]
  refine wpAny_isInstance hT F.sub_self ?_
  simp only [Bool.not_true, Bool.false_eq_true, if_false]
  refine wpAny_bind (wpAny_specialOf hT F.lookup_buffer ?_)
  refine wpAny_bind (ownRelease_ba hS ?_)
  simp only [Bool.false_eq_true, if_false]
  exact wpAny_bind (payload_ba hS (wpAny_pure h))
theorem bytes_new_ba {S : Addr} {b : Array UInt8} {Q : Value → Shared → Prop} (hS : s.heap.get? S = some (baObj b)) (hz : b.size ≤ sizeLine)
    (hQ : ∀ t k, Q (.bytes b t) { s with toks := k }) :
    codeAny (model prog w) A (.call (.builtin "bytes.__new__") ⟨[.type "bytes", .ref S], []⟩) (wants Q E) s := by
  refine codeAny_of_tree ?_
  show wpAny _ A.in1 (do checkBuiltinCall "bytes.__new__" ⟨[.type "bytes", .ref S], []⟩; again (.builtin "bytes.__new__" ⟨[.type "bytes", .ref S], []⟩)) _ _ s
  refine wpAny_bind (wpAny_of_eq (PySem.F.bm_newCall _) (wpAny_pure ⟨plainId_quiet PySem.F.bm_plain _, codeAny_builtin PySem.F.bm_entry ?_⟩))
  rw [Around.under_plainId PySem.F.bm_plain _]
  have hT : s.TypeIs (.ref S) "bytearray" := ⟨_, hS, rfl⟩
  have e1 : isType (.type "bytes") = pure true := rfl
  have e2 := PySem.F.bm_sub
  have e3 := PySem.F.bm_bind (.ref S)
  have e4 : ∀ a b c, Builtin.Bytes.checkCodecArg a b c none = pure () := fun _ _ _ => rfl
  unfold Builtin.«bytes.__new__»
  simp only [e1, e2, e3, e4, pure_bind, Bool.not_true, Bool.false_eq_true, if_false, Option.isSome_none]
  refine wpAny_bind (wpAny_specialOf hT F.noBytes ?_)
  refine wpAny_bind (wpAny_bind (asStr_ba hS (wpAny_pure ?_)))
  simp only [Bool.false_eq_true, if_false, Option.isSome_none]
  refine wpAny_bind (wpAny_specialOf hT F.noIndex ?_)
  simp only [Option.isNone_none, if_true]
  show wpAny _ _ (Builtin.Bytes.buffer? "bytes.__new__" (.ref S) true >>= _) _ _ _
  refine wpAny_bind (buffer_ba hS ?_)
  dsimp only
  refine wpAny_bind (wpAny_rule (wpAny_bind (wpAny_mkBytes ?_ hz)))
  show wpAny _ _ (if (Value.type "bytes" == Value.type "bytes") = true then _ else _) _ _ _
  rw [if_pos (by decide)]
  exact wpAny_pure (hQ _ _)
theorem call_bytes_ba {S : Addr} {b : Array UInt8} {Q : Value → Shared → Prop} (hS : s.heap.get? S = some (baObj b)) (hz : b.size ≤ sizeLine)
    (hQ : ∀ t k, Q (.bytes b t) { s with toks := k }) : wpAny (model prog w) A (call (.type "bytes") [.ref S]) Q E s := by
  refine callType_codes (Q₁ := fun obj s₁ => s₁.TypeIs obj "bytes" ∧ Q obj s₁) PySem.F.bm_called (PySem.F.bm_typeCall _) PySem.F.entry_object_init
    (bytes_new_ba hS hz fun t k => ⟨PySem.W.typeIs_bytes _ _ _, hQ t k⟩) fun obj s₁ h₁ => ?_
  exact ⟨h₁.1, PySem.F.args_object_init_2 obj _, object_init_meets PySem.F.bm_called.init.lookup PySem.F.bm_called.made (by decide) prog w A.in1 _ s₁ ⟨h₁.1, rfl, h₁.2⟩⟩
end
end Mine

/- part LP -/
namespace Mine
def it (x left c : Int) : Obj := { cls := .type "range_iterator", data := .fields #[rawInt x, rawInt left, rawInt c] }
/-- the state behind a step: only heap and tokens have moved -/
def After (h₀ : Heap) (L : Addr) (s : Shared) (m : Str → Option Value) (news : List (Addr × Obj)) (s' : Shared) : Prop :=
  ∃ h tk, s' = { s with heap := h, toks := tk } ∧ Fr h₀ L h m ∧ News h₀ L h news
theorem sameBut_fr {h₀ h h' : Heap} {L I : Addr} {m : Str → Option Value} {news : List (Addr × Obj)} {o : Obj} (F : Fr h₀ L h m) (N : News h₀ L h ((I, o) :: news)) (hs : Heap.ExtBut I h h') : Fr h₀ L h' m := by
  have z := N (I, o) (.head _)
  obtain ⟨oL, a1, a2, hoL, a3⟩ := F.ns
  exact ⟨⟨oL, a1, a2, hs L oL (Ne.symm z.2.1) hoL, a3⟩, fun b x e => hs b x (fun q => by rw [q] at e; have z3 := z.2.2; rw [e] at z3; cases z3) (F.keep b x e), F.above⟩
theorem sameBut_news {h₀ h h' : Heap} {L I : Addr} {news : List (Addr × Obj)} (N : News h₀ L h news) (off : ∀ p ∈ news, p.1 ≠ I) (hs : Heap.ExtBut I h h') : News h₀ L h' news :=
  fun p hp => ⟨hs _ _ (off p hp) (N p hp).1, (N p hp).2⟩
section
variable {prog : Program} {w : World} {A : Around} {E : Value → Shared → Prop} {s : Shared} {h₀ : Heap} {L : Addr} {m : Str → Option Value} {news : List (Addr × Obj)}
theorem next_item {I : Addr} {x left c : Int} {Q : Option Value → Shared → Prop} (F : Fr h₀ L s.heap m) (N : News h₀ L s.heap ((I, it x left c) :: news)) (off : ∀ p ∈ news, p.1 ≠ I) (hl : 0 < left)
    (hQ : ∀ h', Fr h₀ L h' m → News h₀ L h' ((I, it (x + c) (left - 1) c) :: news) → Q (some (.int x s.toks)) { s with heap := h', toks := s.toks + 1 }) : wpAny (model prog w) A (pyNext (.ref I)) Q E s := by
  refine wpAny_pyNext_range_item (x := x) (left := left) (step := c) (N (I, it x left c) (.head _)).1 hl fun h' hit hs => hQ h' (sameBut_fr F N hs.extBut) fun p hp => ?_
  rcases List.mem_cons.mp hp with rfl | hp
  · exact ⟨hit, (N (I, it x left c) (.head _)).2⟩
  · exact sameBut_news (fun q hq => N q (.tail _ hq)) off hs.extBut p hp
theorem next_done {I : Addr} {x left c : Int} {Q : Option Value → Shared → Prop} (hh : A.handled = none) (F : Fr h₀ L s.heap m) (N : News h₀ L s.heap ((I, it x left c) :: news)) (off : ∀ p ∈ news, p.1 ≠ I) (hl : left ≤ 0)
    (hQ : ∀ h', Fr h₀ L h' m → News h₀ L h' news → Q none { s with heap := h' }) : wpAny (model prog w) A (pyNext (.ref I)) Q E s := by
  refine wpAny_pyNext_range_end hh (x := x) (left := left) (step := c) (N (I, it x left c) (.head _)).1 hl fun h' hs => hQ h' (sameBut_fr F N hs) (sameBut_news (fun q hq => N q (.tail _ hq)) off hs)
theorem iter_new {r : Addr} {a b c : Int} {t u v : Tok} {n : Nat} {Q : Value → Shared → Prop} (F : Fr h₀ L s.heap m) (N : News h₀ L s.heap news) (hr : IsRange s.heap r a b c t u v) (hsm : Builtin.Range.small a b c = true) (hn : Builtin.Range.rangeSize a b c = (n : Int))
    (hQ : ∀ h', Fr h₀ L h' m → News h₀ L h' ((s.heap.objs.size, it a n c) :: news) → (∀ p ∈ news, p.1 ≠ s.heap.objs.size) → Q (.ref s.heap.objs.size) { s with heap := h' }) : wpAny (model prog w) A (pyIter (.ref r)) Q E s := by
  refine wpAny_pyIter_range hr hsm ?_
  rw [hn]
  exact hQ _ (F.push _) (N.push F _) fun p hp => Nat.ne_of_lt (Heap.lt_size (N p hp).1)
end

section
variable {prog : Program} {w : World} {A : Around} {s : Shared} {env : Env} {h₀ : Heap} {m₀ : Str → Option Value} {news₀ : List (Addr × Obj)} {R : Result → Shared → Prop} {tgt : Expr} {body : List Stmt}
def TurnQ (h₀ : Heap) (L : Addr) (s : Shared) (I : Addr) (a c : Int) (n : Nat) (J : Nat → (Str → Option Value) → List (Addr × Obj) → Prop) (i : Nat) (R : Result → Shared → Prop) (f : Flow) (s₃ : Shared) : Prop :=
  match f with
  | .next => ∃ m' news', After h₀ L s m' ((I, it (a + ((i + 1 : Nat) : Int) * c) ((n : Int) - ((i + 1 : Nat) : Int)) c) :: news') s₃ ∧ (∀ p ∈ news', p.1 ≠ I) ∧ J (i + 1) m' news'
  | .ret v => R (.ok (.ret v)) s₃
  | _ => False
theorem it_step {a c : Int} {n i : Nat} : it (a + (i : Int) * c + c) ((n : Int) - (i : Int) - 1) c = it (a + ((i + 1 : Nat) : Int) * c) ((n : Int) - ((i + 1 : Nat) : Int)) c := by
  rw [show a + ((i + 1 : Nat) : Int) * c = a + (i : Int) * c + c by push_cast; rw [Int.add_mul, Int.one_mul, Int.add_assoc], show (n : Int) - ((i + 1 : Nat) : Int) = (n : Int) - (i : Int) - 1 by push_cast; omega]
theorem codeForRange {I : Addr} {a c : Int} {n : Nat} (hh : A.handled = none) (J : Nat → (Str → Option Value) → List (Addr × Obj) → Prop)
    (F : Fr h₀ env.locals s.heap m₀) (N : News h₀ env.locals s.heap ((I, it a n c) :: news₀)) (off : ∀ p ∈ news₀, p.1 ≠ I) (hJ : J 0 m₀ news₀)
    (turn : ∀ i m news h tk t, i < n → J i m news → (∀ p ∈ news, p.1 ≠ I) → Fr h₀ env.locals h m → News h₀ env.locals h ((I, it (a + ((i + 1 : Nat) : Int) * c) ((n : Int) - ((i + 1 : Nat) : Int)) c) :: news) →
      wpAny (model prog w) A (assign tgt env (.int (a + (i : Int) * c) t)) (fun _ s₂ => wpAny (model prog w) A (execs body env) (TurnQ h₀ env.locals s I a c n J i R) (notedBy (model prog w) A env fun e s' => R (.error e) s') s₂)
        (notedBy (model prog w) A env fun e s' => R (.error e) s') { s with heap := h, toks := tk })
    (done : ∀ m news h tk, J n m news → Fr h₀ env.locals h m → News h₀ env.locals h news → R (.ok .next) { s with heap := h, toks := tk })
    (ht : ∀ v, letOwnedTupleGo tgt (.ref I) v = pure () := by intro _; rfl) : codeAny (model prog w) A (.forLoop tgt (.ref I) body [] env) R s := by
  refine codeAny_forLoop (fun k s' => ∃ i m news, i ≤ n ∧ k = n + 1 - i ∧ After h₀ env.locals s m ((I, it (a + (i : Int) * c) ((n : Int) - (i : Int)) c) :: news) s' ∧ (∀ p ∈ news, p.1 ≠ I) ∧ J i m news) ?_ (n + 1)
    ⟨0, m₀, news₀, Nat.zero_le _, rfl, ⟨s.heap, s.toks, rfl, F, by simpa using N⟩, off, hJ⟩ ht
  rintro k s' ⟨i, m, news, hi, rfl, ⟨h, tk, rfl, F', N'⟩, off', hJ'⟩
  by_cases hlt : i < n
  · refine next_item F' N' off' (by omega) fun h₁ F₁ N₁ => ?_
    rw [it_step] at N₁
    refine wpAny_mono (turn i m news h₁ _ _ hlt hJ' off' F₁ N₁) (fun _ s₂ h₂ => wpAny_mono h₂ (fun f s₃ h₃ => ?_) fun _ _ q => q) fun _ _ q => q
    cases f with
    | next =>
      obtain ⟨m', news', hA, ho, hJ₂⟩ := h₃
      exact ⟨n + 1 - (i + 1), by omega, i + 1, m', news', hlt, rfl, hA, ho, hJ₂⟩
    | ret v => exact h₃
    | brk => exact h₃.elim
    | cont => exact h₃.elim
  · obtain rfl : i = n := by omega
    refine next_done hh F' N' off' (by omega) fun h₁ F₁ N₁ => wpAny_execs_nil (done m news h₁ _ hJ' F₁ N₁)
theorem codeForRangeC {I : Addr} {a c : Int} {n : Nat} (hh : A.handled = none) (J : Nat → (Str → Option Value) → List (Addr × Obj) → Prop)
    (F : Fr h₀ env.locals s.heap m₀) (N : News h₀ env.locals s.heap ((I, it a n c) :: news₀)) (off : ∀ p ∈ news₀, p.1 ≠ I) (hJ : J 0 m₀ news₀)
    (turn : ∀ i m news h tk t, i < n → J i m news → (∀ p ∈ news, p.1 ≠ I) → Fr h₀ env.locals h m → News h₀ env.locals h ((I, it (a + ((i + 1 : Nat) : Int) * c) ((n : Int) - ((i + 1 : Nat) : Int)) c) :: news) →
      wpAny (model prog w) A (assign tgt env (.int (a + (i : Int) * c) t)) (fun _ s₂ => wpC (model prog w) A (execs body env) (TurnQ h₀ env.locals s I a c n J i R) (notedBy (model prog w) A env fun e s' => R (.error e) s') s₂)
        (notedBy (model prog w) A env fun e s' => R (.error e) s') { s with heap := h, toks := tk })
    (done : ∀ m news h tk, J n m news → Fr h₀ env.locals h m → News h₀ env.locals h news → R (.ok .next) { s with heap := h, toks := tk })
    (ht : ∀ v, letOwnedTupleGo tgt (.ref I) v = pure () := by intro _; rfl) : codeC (model prog w) A (.forLoop tgt (.ref I) body [] env) R s := by
  refine codeForLoop (fun k s' => ∃ i m news, i ≤ n ∧ k = n + 1 - i ∧ After h₀ env.locals s m ((I, it (a + (i : Int) * c) ((n : Int) - (i : Int)) c) :: news) s' ∧ (∀ p ∈ news, p.1 ≠ I) ∧ J i m news) ?_ (n + 1)
    ⟨0, m₀, news₀, Nat.zero_le _, rfl, ⟨s.heap, s.toks, rfl, F, by simpa using N⟩, off, hJ⟩ ht
  rintro k s' ⟨i, m, news, hi, rfl, ⟨h, tk, rfl, F', N'⟩, off', hJ'⟩
  by_cases hlt : i < n
  · refine next_item F' N' off' (by omega) fun h₁ F₁ N₁ => ?_
    rw [it_step] at N₁
    refine wpAny_mono (turn i m news h₁ _ _ hlt hJ' off' F₁ N₁) (fun _ s₂ h₂ => cMono h₂ (fun f s₃ h₃ => ?_) fun _ _ q => q) fun _ _ q => q
    cases f with
    | next =>
      obtain ⟨m', news', hA, ho, hJ₂⟩ := h₃
      exact ⟨n + 1 - (i + 1), by omega, i + 1, m', news', hlt, rfl, hA, ho, hJ₂⟩
    | ret v => exact h₃
    | brk => exact h₃.elim
    | cont => exact h₃.elim
  · obtain rfl : i = n := by omega
    refine next_done hh F' N' off' (by omega) fun h₁ F₁ N₁ => done m news h₁ _ hJ' F₁ N₁
end
end Mine

/- part EV -/
namespace Mine
/-- what the walk asks of the module's names -/
structure G0 (mg mb : Str → Option Value) (h : Heap) : Prop where
  g : h.Ns mainGlobals mg
  b : h.Ns builtinsNs mb
  lim : h.NoLimit
  nlen : mg "len" = none
  nrange : mg "range" = none
  nbytes : mg "bytes" = none
  nba : mg "bytearray" = none
  vlen : mb "len" = some (.builtin "len")
  vrange : mb "range" = some (.type "range")
  vbytes : mb "bytes" = some (.type "bytes")
  vba : mb "bytearray" = some (.type "bytearray")
theorem G0.keeps {mg mb : Str → Option Value} {h h' : Heap} (G : G0 mg mb h) (hk : ∀ b o, h.get? b = some o → h'.get? b = some o) : G0 mg mb h' :=
  ⟨G.g.keeps hk, G.b.keeps hk, G.lim.keeps hk, G.nlen, G.nrange, G.nbytes, G.nba, G.vlen, G.vrange, G.vbytes, G.vba⟩
section
variable {prog : Program} {w : World} {A : Around} {E : Value → Shared → Prop} {s : Shared} {env : Env} {h₀ h : Heap} {L : Addr} {m mg mb : Str → Option Value} {news : List (Addr × Obj)}
theorem name_b {x : Str} {v : Value} {pos : Pos} {Q : Value → Shared → Prop} (G : G0 mg mb s.heap) (hn : mg x = none) (hv : mb x = some v) (h : Q v s)
    (hg : env.globals = mainGlobals := by rfl) (hb : env.builtins = builtinsNs := by rfl) (hk : env.scope.kind = .function := by rfl) (hx : env.kindOf x = some .globalImplicit := by rfl) (hd : (x == ("__debug__" : Str)) = false := by decide) :
    wpAny (model prog w) A (eval (.Name x pos) env) Q E s :=
  Name_function_global hk hx (loadGlobal_builtin (hg ▸ G.g) hn (hb ▸ G.b) hv h) hd
theorem name_g {x : Str} {v : Value} {pos : Pos} {Q : Value → Shared → Prop} (G : G0 mg mb s.heap) (hn : mg x = some v) (h : Q v s)
    (hg : env.globals = mainGlobals := by rfl) (hk : env.scope.kind = .function := by rfl) (hx : env.kindOf x = some .globalImplicit := by rfl) (hd : (x == ("__debug__" : Str)) = false := by decide) :
    wpAny (model prog w) A (eval (.Name x pos) env) Q E s :=
  Name_function_global hk hx (loadGlobal_global (hg ▸ G.g) hn h) hd
theorem name_l {x : Str} {v : Value} {pos : Pos} {Q : Value → Shared → Prop} (F : Fr h₀ env.locals s.heap m) (hv : m x = some v) (h : Q v s)
    (hk : env.scope.kind = .function := by rfl) (hx : env.kindOf x = some .local := by rfl) (hd : (x == ("__debug__" : Str)) = false := by decide) :
    wpAny (model prog w) A (eval (.Name x pos) env) Q E s := wpAny_Name (wpAny_loadName_local hk hx F.ns hv h) hd

/-- an expression that answers an int and leaves the heap alone -/
def EvI (prog : Program) (w : World) (A : Around) (E : Value → Shared → Prop) (env : Env) (h : Heap) (e : Expr) (v : Int) : Prop :=
  ∀ (s : Shared) (Q : Value → Shared → Prop), s.heap = h → (∀ t tk, Q (.int v t) { s with toks := tk }) → wpAny (model prog w) A (eval e env) Q E s
/-- an expression that answers just that value -/
def EvV (prog : Program) (w : World) (A : Around) (E : Value → Shared → Prop) (env : Env) (h : Heap) (e : Expr) (v : Value) : Prop :=
  ∀ (s : Shared) (Q : Value → Shared → Prop), s.heap = h → (∀ tk, Q v { s with toks := tk }) → wpAny (model prog w) A (eval e env) Q E s
theorem EvI.go {e : Expr} {v : Int} {Q : Value → Shared → Prop} (H : EvI prog w A E env s.heap e v) (hQ : ∀ t tk, Q (.int v t) { s with toks := tk }) : wpAny (model prog w) A (eval e env) Q E s := H s Q rfl hQ
theorem EvV.go {e : Expr} {v : Value} {Q : Value → Shared → Prop} (H : EvV prog w A E env s.heap e v) (hQ : ∀ tk, Q v { s with toks := tk }) : wpAny (model prog w) A (eval e env) Q E s := H s Q rfl hQ
theorem EvV.int {e : Expr} {v : Int} {t : Tok} (H : EvV prog w A E env h e (.int v t)) : EvI prog w A E env h e v := fun s Q hs hQ => H s Q hs fun tk => hQ t tk
theorem evL {x : Str} {pos : Pos} {v : Value} (F : Fr h₀ env.locals h m) (hv : m x = some v)
    (hk : env.scope.kind = .function := by rfl) (hx : env.kindOf x = some .local := by rfl) (hd : (x == ("__debug__" : Str)) = false := by decide) : EvV prog w A E env h (.Name x pos) v := by
  rintro s Q rfl hQ
  exact wpAny_Name (wpAny_loadName_local hk hx F.ns hv (hQ s.toks)) hd
theorem evC {x : Str} {pos : Pos} {v : Value} {c : Addr} {o : Obj} (N : News h₀ L h news) (hc : env.cells.lookup x = some c) (hm : (c, o) ∈ news) (ho : o.data = .cell (some v))
    (hk : env.scope.kind = .function := by rfl) (hx : env.kindOf x = some .cell := by rfl) (hd : (x == ("__debug__" : Str)) = false := by decide) : EvV prog w A E env h (.Name x pos) v := by
  rintro s Q rfl hQ
  exact wpAny_Name (wpAny_loadName_cell hk hx hc ⟨o, N.get hm, ho⟩ (hQ s.toks)) hd
theorem evF {x : Str} {pos : Pos} {v : Value} {c : Addr} {o : Obj} (N : News h₀ L h news) (hc : env.cells.lookup x = some c) (hm : (c, o) ∈ news) (ho : o.data = .cell (some v))
    (hk : env.scope.kind = .function := by rfl) (hx : env.kindOf x = some .free := by rfl) (hd : (x == ("__debug__" : Str)) = false := by decide) (hn : (x == ("__classdict__" : Str)) = false := by decide) : EvV prog w A E env h (.Name x pos) v := by
  rintro s Q rfl hQ
  exact wpAny_Name (wpAny_loadName_free hk hx hc ⟨o, N.get hm, ho⟩ (hQ s.toks) hn) hd
theorem evLi {x : Str} {pos : Pos} {v : Int} {t : Tok} (F : Fr h₀ env.locals h m) (hv : m x = some (.int v t))
    (hk : env.scope.kind = .function := by rfl) (hx : env.kindOf x = some .local := by rfl) (hd : (x == ("__debug__" : Str)) = false := by decide) : EvI prog w A E env h (.Name x pos) v := (evL F hv hk hx hd).int
theorem evCi {x : Str} {pos : Pos} {v : Int} {t : Tok} {c : Addr} {o : Obj} (N : News h₀ L h news) (hc : env.cells.lookup x = some c) (hm : (c, o) ∈ news) (ho : o.data = .cell (some (.int v t)))
    (hk : env.scope.kind = .function := by rfl) (hx : env.kindOf x = some .cell := by rfl) (hd : (x == ("__debug__" : Str)) = false := by decide) : EvI prog w A E env h (.Name x pos) v := (evC N hc hm ho hk hx hd).int
theorem evFi {x : Str} {pos : Pos} {v : Int} {t : Tok} {c : Addr} {o : Obj} (N : News h₀ L h news) (hc : env.cells.lookup x = some c) (hm : (c, o) ∈ news) (ho : o.data = .cell (some (.int v t)))
    (hk : env.scope.kind = .function := by rfl) (hx : env.kindOf x = some .free := by rfl) (hd : (x == ("__debug__" : Str)) = false := by decide) (hn : (x == ("__classdict__" : Str)) = false := by decide) : EvI prog w A E env h (.Name x pos) v := (evF N hc hm ho hk hx hd hn).int
theorem evK {i : Int} {k : Nat} {pos : Pos} : EvI prog w A E env h (.Constant (.int i) k pos) i := by
  rintro s Q rfl hQ
  exact wpAny_Constant_int (hQ _ _)
theorem evAdd {l r : Expr} {a b : Int} {pos : Pos} (hl : EvI prog w A E env h l a) (hr : EvI prog w A E env h r b) : EvI prog w A E env h (.BinOp l .Add r pos) (a + b) := by
  rintro s Q rfl hQ
  exact wpAny_BinOp (hl s _ rfl fun t tk => hr _ _ rfl fun u tk' => PyProof.Rows.add_int (hQ _ _))
theorem evSub {l r : Expr} {a b : Int} {pos : Pos} (hl : EvI prog w A E env h l a) (hr : EvI prog w A E env h r b) : EvI prog w A E env h (.BinOp l .Sub r pos) (a - b) := by
  rintro s Q rfl hQ
  exact wpAny_BinOp (hl s _ rfl fun t tk => hr _ _ rfl fun u tk' => PyProof.Rows.sub_int (hQ _ _))
theorem evMul {l r : Expr} {a b : Int} {pos : Pos} (hl : EvI prog w A E env h l a) (hr : EvI prog w A E env h r b) (h0 : -(2 ^ 62) ≤ a) (h1 : a < 2 ^ 62) : EvI prog w A E env h (.BinOp l .Mult r pos) (a * b) := by
  rintro s Q rfl hQ
  exact wpAny_BinOp (hl s _ rfl fun t tk => hr _ _ rfl fun u tk' => PyProof.Rows.mul_int (hQ _ _) (PySem.IntMulOk.of_left (PySem.intBits_le_64 (by omega) (by omega))))
theorem evDiv {l r : Expr} {a b : Int} {pos : Pos} (hl : EvI prog w A E env h l a) (hr : EvI prog w A E env h r b) (h0 : 0 < b) (h1 : b < 1000) : EvI prog w A E env h (.BinOp l .FloorDiv r pos) (a.fdiv b) := by
  rintro s Q rfl hQ
  exact wpAny_BinOp (hl s _ rfl fun t tk => hr _ _ rfl fun u tk' => PyProof.Rows.floordiv_int (by omega) (hQ _ _) (Or.inl (PyProof.noPylong_small (by omega))))
theorem evMod {l r : Expr} {a b : Int} {pos : Pos} (hl : EvI prog w A E env h l a) (hr : EvI prog w A E env h r b) (h0 : 0 < b) : EvI prog w A E env h (.BinOp l .Mod r pos) (a.fmod b) := by
  rintro s Q rfl hQ
  exact wpAny_BinOp (hl s _ rfl fun t tk => hr _ _ rfl fun u tk' => PyProof.Rows.mod_int (by omega) (hQ _ _))

/-- a call of a builtin function or type by its name, one operand -/
theorem call1 {x : Str} {id : String} {e : Expr} {p pos : Pos} {Q : Value → Shared → Prop} (G : G0 mg mb s.heap) (hn : mg x = none) (hv : mb x = some (.builtin id))
    (h : wpAny (model prog w) A (eval e env) (fun v s₁ => wpAny (model prog w) A (call (.builtin id) [v]) Q E s₁) E s)
    (hs : starEach [e] env = [(false, eval e env)] := by rfl)
    (hg : env.globals = mainGlobals := by rfl) (hb : env.builtins = builtinsNs := by rfl) (hk : env.scope.kind = .function := by rfl) (hx : env.kindOf x = some .globalImplicit := by rfl) (hd : (x == ("__debug__" : Str)) = false := by decide) :
    wpAny (model prog w) A (eval (.Call (.Name x p) [e] [] pos) env) Q E s :=
  Call_Name1 (name_b G hn hv (PySem.callWith_builtin1 h) hg hb hk hx hd) hs
theorem callT1 {x : Str} {T : String} {e : Expr} {p pos : Pos} {Q : Value → Shared → Prop} (G : G0 mg mb s.heap) (hn : mg x = none) (hv : mb x = some (.type T))
    (h : wpAny (model prog w) A (eval e env) (fun v s₁ => wpAny (model prog w) A (call (.type T) [v]) Q E s₁) E s)
    (hs : starEach [e] env = [(false, eval e env)] := by rfl)
    (hg : env.globals = mainGlobals := by rfl) (hb : env.builtins = builtinsNs := by rfl) (hk : env.scope.kind = .function := by rfl) (hx : env.kindOf x = some .globalImplicit := by rfl) (hd : (x == ("__debug__" : Str)) = false := by decide) :
    wpAny (model prog w) A (eval (.Call (.Name x p) [e] [] pos) env) Q E s :=
  Call_Name1 (name_b G hn hv (PySem.callWith_type1 h) hg hb hk hx hd) hs
theorem evLenB {e : Expr} {p pos : Pos} {b : Array UInt8} {t : Tok} (G : G0 mg mb h) (he : EvV prog w A E env h e (.bytes b t)) (hz : b.size ≤ 1099511627776)
    (hs : starEach [e] env = [(false, eval e env)] := by rfl)
    (hg : env.globals = mainGlobals := by rfl) (hb : env.builtins = builtinsNs := by rfl) (hk : env.scope.kind = .function := by rfl) (hx : env.kindOf "len" = some .globalImplicit := by rfl) :
    EvI prog w A E env h (.Call (.Name "len" p) [e] [] pos) b.size := by
  rintro s Q rfl hQ
  exact call1 G G.nlen G.vlen (he s _ rfl fun tk => PySem.W.len_bytes hz (hQ _ _)) hs hg hb hk hx
theorem evLenL {e : Expr} {p pos : Pos} {l : Addr} {vs : List Value} (G : G0 mg mb h) (he : EvV prog w A E env h e (.ref l)) (hl : h.IsList l vs.toArray) (hz : vs.length < 2 ^ 63)
    (hs : starEach [e] env = [(false, eval e env)] := by rfl)
    (hg : env.globals = mainGlobals := by rfl) (hb : env.builtins = builtinsNs := by rfl) (hk : env.scope.kind = .function := by rfl) (hx : env.kindOf "len" = some .globalImplicit := by rfl) :
    EvI prog w A E env h (.Call (.Name "len" p) [e] [] pos) vs.length := by
  rintro s Q rfl hQ
  exact call1 G G.nlen G.vlen (he s _ rfl fun tk => PyProof.Rows.len_list (items := vs.toArray) hl (by rw [List.size_toArray]; omega) (by simpa using hQ _ _)) hs hg hb hk hx
/-- data[e]: a byte of a bytes object -/
theorem evByte {o e : Expr} {pos : Pos} {b : List UInt8} {t : Tok} {i : Int} (ho : EvV prog w A E env h o (.bytes b.toArray t)) (he : EvI prog w A E env h e i) (hz : b.length ≤ 1099511627776) (h0 : 0 ≤ i) (h1 : i < b.length)
    (hs : ∀ u, subscripted e false (.bytes b.toArray t) (.int i u) = operate [.bytes b.toArray t, .int i u] (getItem (.bytes b.toArray t) (.int i u)) := by intro _; with_unfolding_all rfl)
    (ht : ∀ r, letTemporaryGo o (.bytes b.toArray t) r = pure () := by intro _; with_unfolding_all rfl) :
    EvI prog w A E env h (.Subscript o e pos) (b.getD i.toNat 0).toNat := by
  rintro s Q rfl hQ
  exact Subscript_ (ho s _ rfl fun tk => he _ _ rfl fun u tk' => subscriptTail_builtin (typeIs_bytes _ _ _) FB.slot_bytes_getitem.lookup (getItem_bytes hz h0 h1 (hQ _ _)) (hs u) ht)
/-- list[e] -/
theorem evItem {o e : Expr} {pos : Pos} {l : Addr} {vs : List Value} {i : Int} {x : Value} (ho : EvV prog w A E env h o (.ref l)) (he : EvI prog w A E env h e i) (hl : h.IsList l vs.toArray) (h0 : 0 ≤ i) (h1 : i < 2 ^ 63) (hx : vs[i.toNat]? = some x)
    (hs : ∀ u, subscripted e false (.ref l) (.int i u) = operate [.ref l, .int i u] (getItem (.ref l) (.int i u)) := by intro _; with_unfolding_all rfl)
    (ht : ∀ r, letTemporaryGo o (.ref l) r = pure () := by intro _; with_unfolding_all rfl) :
    EvV prog w A E env h (.Subscript o e pos) x := by
  rintro s Q rfl hQ
  exact Subscript_ (ho s _ rfl fun tk => he _ _ rfl fun u tk' => item_listL hl h0 h1 hx (hQ _) (hs u) ht)
end
end Mine

/- part FR -/
namespace Mine
section
variable {prog : Program} {w : World} {A : Around} {E : Value → Shared → Prop} {s : Shared} {env : Env} {h₀ h : Heap} {L : Addr} {m m₀ mg mb : Str → Option Value} {news news₀ : List (Addr × Obj)}
/-- an expression that answers a new range -/
def EvR (prog : Program) (w : World) (A : Around) (E : Value → Shared → Prop) (env : Env) (h : Heap) (e : Expr) (a b c : Int) : Prop :=
  ∀ (s : Shared) (Q : Value → Shared → Prop) (h₀ : Heap) (L : Addr) (m : Str → Option Value) (news : List (Addr × Obj)), s.heap = h → Fr h₀ L h m → News h₀ L h news →
    (∀ r h' tk t u v, IsRange h' r a b c t u v → Fr h₀ L h' m → News h₀ L h' news → Q (.ref r) { s with heap := h', toks := tk }) → wpAny (model prog w) A (eval e env) Q E s
theorem evRange1 {e : Expr} {b : Int} {p pos : Pos} (G : G0 mg mb h) (he : EvI prog w A E env h e b)
    (hs : starEach [e] env = [(false, eval e env)] := by rfl)
    (hg : env.globals = mainGlobals := by rfl) (hb : env.builtins = builtinsNs := by rfl) (hk : env.scope.kind = .function := by rfl) (hx : env.kindOf "range" = some .globalImplicit := by rfl) :
    EvR prog w A E env h (.Call (.Name "range" p) [e] [] pos) 0 b 1 := by
  rintro s Q h₀ L m news rfl F N hQ
  refine callT1 G G.nrange G.vrange (he s _ rfl fun t tk => PySem.call_range_1 ?_) hs hg hb hk hx
  exact hQ _ _ _ _ _ _ (IsRange.new ..) (F.push _) fun p hq => ⟨Heap.get?_push_of_some _ (N p hq).1, (N p hq).2⟩
theorem evRange2 {e₁ e₂ : Expr} {a b : Int} {p pos : Pos} (G : G0 mg mb h) (h1 : EvI prog w A E env h e₁ a) (h2 : EvI prog w A E env h e₂ b)
    (he : starEach (e₁ :: [e₂]) env = (false, eval e₁ env) :: starEach [e₂] env := by rfl) (he' : starEach [e₂] env = (false, eval e₂ env) :: starEach [] env := by rfl) (hp : (backTo pos (starEach [e₂] env)).any (·.1) = false := by rfl)
    (hg : env.globals = mainGlobals := by rfl) (hb : env.builtins = builtinsNs := by rfl) (hk : env.scope.kind = .function := by rfl) (hx : env.kindOf "range" = some .globalImplicit := by rfl) :
    EvR prog w A E env h (.Call (.Name "range" p) [e₁, e₂] [] pos) a b 1 := by
  rintro s Q h₀ L m news rfl F N hQ
  refine Call_ (name_b G G.nrange G.vrange (callWith_type1 ?_ he hp) hg hb hk hx)
  refine args_cons (h1 s _ rfl fun t tk => args_cons (h2 _ _ rfl fun u tk' => args_nil (PySem.call_range_2 ?_)) he') he
  exact hQ _ _ _ _ _ _ (IsRange.new ..) (F.push _) fun p hq => ⟨Heap.get?_push_of_some _ (N p hq).1, (N p hq).2⟩
theorem evRange3 {e₁ e₂ e₃ : Expr} {a b c : Int} {p pos : Pos} (G : G0 mg mb h) (h1 : EvI prog w A E env h e₁ a) (h2 : EvI prog w A E env h e₂ b) (h3 : EvI prog w A E env h e₃ c) (hc : 0 < c) (hc' : c < 1000)
    (he : starEach (e₁ :: [e₂, e₃]) env = (false, eval e₁ env) :: starEach [e₂, e₃] env := by rfl) (he' : starEach (e₂ :: [e₃]) env = (false, eval e₂ env) :: starEach [e₃] env := by rfl)
    (he'' : starEach [e₃] env = (false, eval e₃ env) :: starEach [] env := by rfl) (hp : (backTo pos (starEach [e₂, e₃] env)).any (·.1) = false := by rfl)
    (hg : env.globals = mainGlobals := by rfl) (hb : env.builtins = builtinsNs := by rfl) (hk : env.scope.kind = .function := by rfl) (hx : env.kindOf "range" = some .globalImplicit := by rfl) :
    EvR prog w A E env h (.Call (.Name "range" p) [e₁, e₂, e₃] [] pos) a b c := by
  rintro s Q h₀ L m news rfl F N hQ
  refine Call_ (name_b G G.nrange G.vrange (callWith_type1 ?_ he hp) hg hb hk hx)
  refine args_cons (h1 s _ rfl fun t tk => args_cons (h2 _ _ rfl fun u tk' => args_cons (h3 _ _ rfl fun v tk'' => args_nil (PySem.call_range_3 (by omega) ?_ (Or.inl (PyProof.noPylong_small (by omega))))) he'') he') he
  exact hQ _ _ _ _ _ _ (IsRange.new ..) (F.push _) fun p hq => ⟨Heap.get?_push_of_some _ (N p hq).1, (N p hq).2⟩

def ForR (prog : Program) (w : World) (A : Around) (env : Env) (Q : Flow → Shared → Prop) (E : Value → Shared → Prop) : Result → Shared → Prop :=
  fun r s' => match r with | .ok f => Q f s' | .error e => cameBackBy (model prog w) A env E e s'
theorem wFor {tgt iter : Expr} {body : List Stmt} {pos : Pos} {a b c : Int} {n : Nat} {Q : Flow → Shared → Prop} (hE : PassesOwn (model prog w) A env E) (hh : A.handled = none)
    (F : Fr h₀ env.locals s.heap m₀) (N : News h₀ env.locals s.heap news₀) (hr : EvR prog w A E env s.heap iter a b c) (hsm : Builtin.Range.small a b c = true) (hn : Builtin.Range.rangeSize a b c = (n : Int))
    (J : Nat → (Str → Option Value) → List (Addr × Obj) → Prop) (hJ : J 0 m₀ news₀)
    (turn : ∀ I i m news h tk t, i < n → J i m news → (∀ p ∈ news, p.1 ≠ I) → Fr h₀ env.locals h m → News h₀ env.locals h ((I, it (a + ((i + 1 : Nat) : Int) * c) ((n : Int) - ((i + 1 : Nat) : Int)) c) :: news) →
      wpAny (model prog w) A (assign tgt env (.int (a + (i : Int) * c) t)) (fun _ s₂ => wpAny (model prog w) A (execs body env) (TurnQ h₀ env.locals s I a c n J i (ForR prog w A env Q E)) E s₂) E { s with heap := h, toks := tk })
    (done : ∀ m news h tk, J n m news → Fr h₀ env.locals h m → News h₀ env.locals h news → Q .next { s with heap := h, toks := tk })
    (ht : ∀ I v, letOwnedTupleGo tgt (.ref I) v = pure () := by intro _ _; rfl) (hs : ∀ x, foldedSetIterable iter env x = pure x := by intro _; rfl) :
    wpAny (model prog w) A (exec (.For tgt iter body [] pos) env) Q E s := by
  refine wpAny_For (hr s _ h₀ env.locals m₀ news₀ rfl F N fun r h' tk t u v hR F' N' => ?_) hs
  refine iter_new F' N' hR hsm hn fun h₁ F₁ N₁ off => ?_
  refine codeForRange (R := ForR prog w A env Q E) hh J F₁ N₁ off hJ ?_ ?_ (ht _)
  · intro i m news h tk t hi hJ off F N
    exact wpAny_mono (turn _ i m news h tk t hi hJ off F N) (fun _ s₂ h₂ => wpAny_mono h₂ (fun f s₃ h₃ => h₃) hE) hE
  · intro m news h tk hJ F N
    exact done m news h tk hJ F N
theorem wForC {tgt iter : Expr} {body : List Stmt} {pos : Pos} {a b c : Int} {n : Nat} {Q : Flow → Shared → Prop} (hE : PassesOwn (model prog w) A env E) (hh : A.handled = none)
    (F : Fr h₀ env.locals s.heap m₀) (N : News h₀ env.locals s.heap news₀) (hr : EvR prog w A E env s.heap iter a b c) (hsm : Builtin.Range.small a b c = true) (hn : Builtin.Range.rangeSize a b c = (n : Int))
    (J : Nat → (Str → Option Value) → List (Addr × Obj) → Prop) (hJ : J 0 m₀ news₀)
    (turn : ∀ I i m news h tk t, i < n → J i m news → (∀ p ∈ news, p.1 ≠ I) → Fr h₀ env.locals h m → News h₀ env.locals h ((I, it (a + ((i + 1 : Nat) : Int) * c) ((n : Int) - ((i + 1 : Nat) : Int)) c) :: news) →
      wpAny (model prog w) A (assign tgt env (.int (a + (i : Int) * c) t)) (fun _ s₂ => wpC (model prog w) A (execs body env) (TurnQ h₀ env.locals s I a c n J i (ForR prog w A env Q E)) E s₂) E { s with heap := h, toks := tk })
    (done : ∀ m news h tk, J n m news → Fr h₀ env.locals h m → News h₀ env.locals h news → Q .next { s with heap := h, toks := tk })
    (ht : ∀ I v, letOwnedTupleGo tgt (.ref I) v = pure () := by intro _ _; rfl) (hs : ∀ x, foldedSetIterable iter env x = pure x := by intro _; rfl) :
    wpC (model prog w) A (exec (.For tgt iter body [] pos) env) Q E s := by
  refine cFor (hr s _ h₀ env.locals m₀ news₀ rfl F N fun r h' tk t u v hR F' N' => ?_) hs
  refine iter_new F' N' hR hsm hn fun h₁ F₁ N₁ off => ?_
  refine codeForRangeC (R := ForR prog w A env Q E) hh J F₁ N₁ off hJ ?_ ?_ (ht _)
  · intro i m news h tk t hi hJ off F N
    exact wpAny_mono (turn _ i m news h tk t hi hJ off F N) (fun _ s₂ h₂ => cMono h₂ (fun f s₃ h₃ => h₃) hE) hE
  · intro m news h tk hJ F N
    exact done m news h tk hJ F N
end
end Mine

/- part PG -/
namespace Mine
def defAt (i : Nat) : DefRec := match PySem.Challenge.pw_xe0056_01.main.body[i]? with
  | some (.FunctionDef n a b _ _ _ sc _ _ p) => ⟨n, a, b, sc, p⟩
  | _ => ⟨Str.empty, ⟨[], [], none, [], [], none, []⟩, [], default, default⟩
def bsD : DefRec := defAt 1
def rfD : DefRec := defAt 3
def lwD : DefRec := defAt 4
def bsBody : List Stmt := bsD.body
def bsScope : Scope := bsD.scope
def rfBody : List Stmt := rfD.body
def rfScope : Scope := rfD.scope
def lwBody : List Stmt := lwD.body
def lwScope : Scope := lwD.scope
example : bsScope.kind = .function := rfl
example : bsScope.names.lookup (Str.ofString "i") = some .local := rfl
example : (envOf "_byteswap" bsScope 5 6 .none).kindOf "i" = some .local := by rfl
example : bsD.name = "_byteswap" := by rfl
example : lwD.name = "law" := by decide +kernel
example : ∃ a b c, bsBody = [a, b, c] := ⟨_, _, _, rfl⟩
end Mine

/- part BS -/
namespace Mine
/-- one store of the swap -/
def stB (b : List UInt8) (wd : Nat) (acc : Array UInt8) (k : Nat) : Array UInt8 := acc.setIfInBounds (k / wd * wd + wd - 1 - k % wd) (b.getD k 0)
def cAt (b : List UInt8) (wd k : Nat) : Array UInt8 := (List.range k).foldl (stB b wd) (Array.replicate b.length 0)
theorem cAt_zero (b : List UInt8) (wd : Nat) : cAt b wd 0 = Array.replicate b.length 0 := rfl
theorem cAt_succ (b : List UInt8) (wd k : Nat) : cAt b wd (k + 1) = stB b wd (cAt b wd k) k := by
  unfold cAt; rw [List.range_succ, List.foldl_append]; rfl
theorem cAt_size (b : List UInt8) (wd k : Nat) : (cAt b wd k).size = b.length := by
  induction k with
  | zero => simp [cAt_zero]
  | succ k ih => rw [cAt_succ]; unfold stB; rw [Array.size_setIfInBounds]; exact ih
theorem cAt_at {b : List UInt8} {wd i j : Nat} (hj : j < wd) : cAt b wd (i * wd + (j + 1)) = (cAt b wd (i * wd + j)).setIfInBounds (i * wd + wd - 1 - j) (b.getD (i * wd + j) 0) := by
  rw [← Nat.add_assoc, cAt_succ]; unfold stB
  have h1 : (i * wd + j) / wd = i := by rw [Nat.mul_comm, Nat.mul_add_div (by omega), Nat.div_eq_of_lt hj]; omega
  have h2 : (i * wd + j) % wd = j := by rw [Nat.mul_comm, Nat.mul_add_mod]; exact Nat.mod_eq_of_lt hj
  rw [h1, h2]
def cnt (n wd : Nat) : Nat := (n + wd - 1) / wd
theorem rangeSize_cnt {n wd : Nat} (h : 0 < wd) : Builtin.Range.rangeSize 0 (n : Int) (wd : Int) = (cnt n wd : Int) := by
  unfold Builtin.Range.rangeSize cnt
  rw [if_pos (by omega)]
  by_cases hn : n = 0
  · subst hn
    rw [if_neg (by omega), Nat.div_eq_of_lt (by omega)]; rfl
  · rw [if_pos (by omega), show (n : Int) - 0 - 1 = ((n - 1 : Nat) : Int) by omega, show n + wd - 1 = (n - 1) + wd by omega, Nat.add_div_right _ h]
    push_cast; rfl
theorem small_of {n wd : Nat} (h : 0 < wd) (hn : n ≤ 1000) (hw : wd ≤ 1000) : Builtin.Range.small 0 (n : Int) (wd : Int) = true := by
  have e := rangeSize_cnt (n := n) h
  have hc : cnt n wd ≤ 2000 := Nat.le_trans (Nat.div_le_self _ _) (by omega)
  have hm : cnt n wd * wd ≤ 3000 := Nat.le_trans (Nat.div_mul_le_self _ _) (by omega)
  unfold Builtin.Range.small
  rw [e]
  simp only [Builtin.Range.rangeFitsLong, Bool.and_eq_true, Bool.or_eq_true, decide_eq_true_eq, beq_iff_eq]
  refine ⟨⟨⟨⟨?_, ?_⟩, ?_⟩, ?_⟩, ?_⟩ <;> first
    | omega
    | (right; rw [if_pos (by omega)]; simp only [Bool.and_eq_true, decide_eq_true_eq]; omega)
theorem cnt_lt {n wd i : Nat} (h : 0 < wd) (hi : i < cnt n wd) : i * wd < n := by
  have h1 : (i + 1) * wd ≤ cnt n wd * wd := Nat.mul_le_mul_right _ hi
  have h2 : cnt n wd * wd ≤ n + wd - 1 := Nat.div_mul_le_self _ _
  rw [Nat.add_mul, Nat.one_mul] at h1
  omega
theorem cnt_ge {n wd : Nat} (h : 0 < wd) : n ≤ cnt n wd * wd := by
  have h1 : n + wd - 1 < (n + wd - 1) / wd * wd + wd := Nat.lt_div_mul_add h
  have h2 : cnt n wd = (n + wd - 1) / wd := rfl
  rw [← h2] at h1
  omega
section
variable {prog : Program} {w : World} {A : Around} {E : Value → Shared → Prop} {s : Shared} {g : Heap} {L a : Addr} {cd : Value} {m mg mb : Str → Option Value} {news : List (Addr × Obj)}
abbrev bsEnv (L a : Addr) (cd : Value) : Env := envX "_byteswap" bsScope L a cd []
/-- the facts of _byteswap's names -/
structure BsM (b : List UInt8) (wd : Nat) (t u : Tok) (S : Addr) (m : Str → Option Value) : Prop where
  data : m "data" = some (.bytes b.toArray t)
  width : m "width" = some (.int (wd : Int) u)
  out : m "swapped_data" = some (.ref S)
theorem BsM.set {b : List UInt8} {wd : Nat} {t u : Tok} {S : Addr} {m : Str → Option Value} {x : Str} {v : Value} (M : BsM b wd t u S m) (h1 : ("data" : Str) ≠ x) (h2 : ("width" : Str) ≠ x) (h3 : ("swapped_data" : Str) ≠ x) :
    BsM b wd t u S (fun y => if y = x then some v else m y) := ⟨by rw [if_neg h1]; exact M.data, by rw [if_neg h2]; exact M.width, by rw [if_neg h3]; exact M.out⟩

def forBody : Stmt → List Stmt
  | .For _ _ b _ _ => b
  | _ => []
def nthS (l : List Stmt) (i : Nat) : Stmt := match l[i]? with
  | some x => x
  | none => .Pass default
def bsTurn : List Stmt := forBody (nthS bsBody 1)
def bsStore : List Stmt := forBody (nthS bsTurn 0)
theorem bs_store {b : List UInt8} {wd : Nat} {t u ti tj : Tok} {S : Addr} {arr : Array UInt8} {x y : Int} {pre post : List (Addr × Obj)} {Q : Flow → Shared → Prop} (M : BsM b wd t u S m) (F : Fr g L s.heap m) (N : News g L s.heap (pre ++ (S, baObj arr) :: post))
    (h1 : ∀ p ∈ pre, p.1 ≠ S) (h2 : ∀ p ∈ post, p.1 ≠ S) (hi : m "i" = some (.int x ti)) (hj : m "j" = some (.int y tj)) (hz : b.length ≤ 1000) (ha : arr.size = b.length) (hx : 0 ≤ x + y) (hx' : x + y < b.length) (ht : 0 ≤ x + (wd : Int) - 1 - y) (ht' : x + (wd : Int) - 1 - y < 2 ^ 63)
    (hh : A.handled = none)
    (hQ : x + (wd : Int) - 1 - y < b.length → ∀ h' tk, Fr g L h' m → News g L h' (pre ++ (S, baObj (arr.setIfInBounds (x + (wd : Int) - 1 - y).toNat (b.getD (x + y).toNat 0))) :: post) → Q .next { s with heap := h', toks := tk })
    (hE : (b.length : Int) ≤ x + (wd : Int) - 1 - y → ∀ h' tk e, Heap.NewExc s.heap h' e "IndexError" → E (.ref e) { s with heap := h', toks := tk }) :
    wpAny (model prog w) A (execs bsStore (bsEnv L a cd)) Q E s := by
  have hsz := sizeLine_eq
  have hS := N (S, baObj arr) (List.mem_append_right _ (.head _))
  refine wpAny_execs_cons (wpAny_Assign_Subscript ?_)
  refine EvI.go (evByte (b := b) (t := t) (i := x + y) (evL F M.data) (evAdd (evLi F hi) (evLi F hj)) (by omega) hx hx') fun t₁ tk₁ => ?_
  refine EvV.go (evL F M.out) fun tk₂ => ?_
  refine EvI.go (evSub (evSub (evAdd (evLi F hi) (evLi F M.width)) evK) (evLi F hj)) fun t₃ tk₃ => ?_
  by_cases hb : x + (wd : Int) - 1 - y < b.length
  · refine setItem_ba (b := arr) hS.1 (by omega) ht (by omega) (by omega) (by have := (b.getD (x + y).toNat 0).toNat_lt; omega) fun h' hS' hs => wpAny_execs_nil (hQ hb h' _ ?_ ?_)
    · exact ⟨F.ns.sameBut hs (Ne.symm hS.2.1), fun c oc e => (hs.2 c (fun q => by have z := hS.2.2; rw [← q, e] at z; cases z)).trans (F.keep c oc e), F.above⟩
    · refine N.setAt h1 h2 hs ?_
      rw [hS']
      simp
  · exact setItem_ba_out (b := arr) hh hS.1 (by omega) ht' (by omega) (by have := (b.getD (x + y).toNat 0).toNat_lt; omega) fun h' tk e hx => hE (by omega) h' tk e hx
end
end Mine

/- part BT -/
namespace Mine
section
variable {prog : Program} {w : World} {A : Around} {E : Value → Shared → Prop} {s : Shared} {g : Heap} {L a : Addr} {cd : Value} {m mg mb : Str → Option Value} {news : List (Addr × Obj)}
theorem it_ne_ba {x l c : Int} {b : Array UInt8} {g h : Heap} {L I S : Addr} {news : List (Addr × Obj)} (N : News g L h news) (h1 : (I, it x l c) ∈ news) (h2 : (S, baObj b) ∈ news) : I ≠ S := fun e => by
  have z1 := (N _ h1).1
  have z2 := (N _ h2).1
  dsimp only at z1 z2
  rw [e, z2] at z1
  have z3 := congrArg (fun o : Option Obj => o.map (·.cls)) z1
  simp [it, baObj] at z3
def excRoom (g : Heap) (L : Addr) (news : List (Addr × Obj)) (E : Value → Shared → Prop) (s : Shared) : Prop :=
  ∀ h₁ m' h' tk e, Fr g L h₁ m' → News g L h₁ news → Heap.NewExc h₁ h' e "IndexError" → E (.ref e) { s with heap := h', toks := tk }
theorem bs_turn {b : List UInt8} {wd i : Nat} {t u ti : Tok} {S I : Addr} {x₀ l₀ c₀ : Int} {Q : Flow → Shared → Prop} (G : G0 mg mb s.heap) (M : BsM b wd t u S m) (F : Fr g L s.heap m)
    (N : News g L s.heap ((I, it x₀ l₀ c₀) :: (S, baObj (cAt b wd (i * wd))) :: news)) (hS : ∀ p ∈ news, p.1 ≠ S) (hi : m "i" = some (.int ((i * wd : Nat) : Int) ti))
    (hz : b.length ≤ 1000) (hw : 1 ≤ wd) (hw' : wd ≤ 5) (hlt : i * wd < b.length) (hh : A.handled = none) (hE : PassesOwn (model prog w) A (bsEnv L a cd) E)
    (hQ : (i + 1) * wd ≤ b.length → ∀ h' tk m', BsM b wd t u S m' → Fr g L h' m' → News g L h' ((I, it x₀ l₀ c₀) :: (S, baObj (cAt b wd ((i + 1) * wd))) :: news) → Q .next { s with heap := h', toks := tk })
    (hR : ¬ (i + 1) * wd ≤ b.length → excRoom g L news E s) :
    wpAny (model prog w) A (execs bsTurn (bsEnv L a cd)) Q E s := by
  have hIS : I ≠ S := it_ne_ba N (.head _) (.tail _ (.head _))
  have hmul : (i + 1) * wd = i * wd + wd := by rw [Nat.add_mul, Nat.one_mul]
  refine wpAny_execs_cons ?_
  refine wFor (a := 0) (b := (wd : Int)) (c := 1) (n := wd) hE hh F N (evRange1 G (evLi F M.width)) (small_one (by omega) (by omega) (by omega) (by omega)) (by rw [rangeSize_one]; split <;> omega)
    (fun j m' news' => BsM b wd t u S m' ∧ (∃ ti, m' "i" = some (.int ((i * wd : Nat) : Int) ti)) ∧ news' = (I, it x₀ l₀ c₀) :: (S, baObj (cAt b wd (i * wd + j))) :: news ∧ (0 < j → (i + 1) * wd ≤ b.length))
    ⟨M, ⟨ti, hi⟩, rfl, fun h => absurd h (Nat.lt_irrefl 0)⟩ ?_ ?_
  · rintro I' j m' _ h tk t' hj ⟨M', ⟨ti', hi'⟩, rfl, hpos⟩ off F' N'
    refine wpAny_assign_Name (storeX_L F' N' fun h₁ F₁ N₁ => ?_)
    have hI'S : I' ≠ S := it_ne_ba N₁ (.head _) (.tail _ (.tail _ (.head _)))
    refine bs_store (b := b) (wd := wd) (x := ((i * wd : Nat) : Int)) (y := 0 + (j : Int) * 1) (pre := [(I', _), (I, it x₀ l₀ c₀)]) (post := news) (M'.set (by decide) (by decide) (by decide)) F₁ N₁ ?_ hS
      (by rw [if_neg (by decide)]; exact hi') (by rw [if_pos rfl]) hz (cAt_size _ _ _) (by omega) ?_ (by omega) (by omega) hh ?_ ?_
    · rintro p hp
      rcases List.mem_cons.mp hp with rfl | hp
      · exact hI'S
      · rcases List.mem_cons.mp hp with rfl | hp
        · exact hIS
        · cases hp
    · by_cases h0 : 0 < j
      · have := hpos h0; omega
      · omega
    · intro hb h₂ tk₂ F₂ N₂
      have hfit : (i + 1) * wd ≤ b.length := by
        by_cases h0 : 0 < j
        · exact hpos h0
        · omega
      refine ⟨_, _, ⟨_, _, rfl, F₂, N₂⟩, ?_, M'.set (by decide) (by decide) (by decide), ⟨ti', (if_neg (by decide)).trans hi'⟩, ?_, fun _ => hfit⟩
      · intro p hp
        rcases List.mem_cons.mp hp with rfl | hp
        · exact off _ (.head _)
        · rcases List.mem_cons.mp hp with rfl | hp
          · exact Ne.symm hI'S
          · exact off p (.tail _ (.tail _ hp))
      · rw [cAt_at hj, show (((i * wd : Nat) : Int) + (wd : Int) - 1 - (0 + (j : Int) * 1)).toNat = i * wd + wd - 1 - j by omega, show (((i * wd : Nat) : Int) + (0 + (j : Int) * 1)).toNat = i * wd + j by omega]
        rfl
    · intro hb h₂ tk₂ e hx
      have hfit : ¬ (i + 1) * wd ≤ b.length := by
        omega
      exact hR hfit h₁ _ h₂ tk₂ e F₁ (fun p hp => N₁ p (.tail _ (.tail _ (.tail _ hp)))) hx
  · rintro m' _ h tk ⟨M', _, rfl, hpos⟩ F' N'
    refine wpAny_execs_nil (hQ (hpos (by omega)) h tk m' M' F' ?_)
    rw [hmul]
    exact N'

theorem bs_body {b : List UInt8} {wd : Nat} {t u : Tok} {Q : Flow → Shared → Prop} (G : G0 mg mb g) (F : Fr g L s.heap m) (N : News g L s.heap news) (hd : m "data" = some (.bytes b.toArray t)) (hwd : m "width" = some (.int (wd : Int) u))
    (hz : b.length ≤ 1000) (hw : 1 ≤ wd) (hw' : wd ≤ 5) (hh : A.handled = none) (hE : PassesOwn (model prog w) A (bsEnv L a cd) E)
    (hQ : b.length % wd = 0 → ∀ h' tk m' t', Fr g L h' m' → News g L h' news → Q (.ret (.bytes (cAt b wd b.length) t')) { s with heap := h', toks := tk })
    (hR : b.length % wd ≠ 0 → excRoom g L news E s) :
    wpC (model prog w) A (execs bsBody (bsEnv L a cd)) Q E s := by
  have hsz := sizeLine_eq
  refine cExecsCons (cAssignName (cCallName (name_b (G.keeps F.keep) G.nba G.vba (cCallWithType rfl (evalArgs_plain (args_cons (EvI.go (evLenB (b := b.toArray) (G.keeps F.keep) (evL F hd) (by simp; omega)) fun t₁ tk₁ => args_nil ?_)))))))
  rw [show ((b.toArray.size : Nat) : Int) = ((b.length : Nat) : Int) by simp]
  refine cCallBytearray (by omega) fun h₁ hS hk => ?_
  have F₁ : Fr g L h₁ m := ⟨F.ns.keeps hk, fun c o e => hk c o (F.keep c o e), F.above⟩
  have N₁ : News g L h₁ ((s.heap.objs.size, baObj (Array.replicate b.length 0)) :: news) := by
    intro p hp
    rcases List.mem_cons.mp hp with rfl | hp
    · obtain ⟨oL, _, _, hL, _⟩ := F.ns
      refine ⟨hS, Nat.ne_of_gt (Heap.lt_size hL), ?_⟩
      cases hq : g.get? s.heap.objs.size with
      | none => rfl
      | some o' => exact absurd (Heap.lt_size (F.keep _ _ hq)) (Nat.lt_irrefl _)
    · exact ⟨hk _ _ (N p hp).1, (N p hp).2⟩
  have hoff : ∀ p ∈ news, p.1 ≠ s.heap.objs.size := fun p hp => Nat.ne_of_lt (Heap.lt_size (N p hp).1)
  generalize s.heap.objs.size = S at *
  refine storeX_L F₁ N₁ fun h₂ F₂ N₂ => ?_
  have M₂ : BsM b wd t u S (fun y => if y = "swapped_data" then some (.ref S) else m y) := ⟨by rw [if_neg (by decide)]; exact hd, by rw [if_neg (by decide)]; exact hwd, by rw [if_pos rfl]⟩
  refine cExecsCons (cOf ?_)
  refine wFor (a := 0) (b := ((b.length : Nat) : Int)) (c := (wd : Int)) (n := cnt b.length wd) hE hh F₂ N₂
    (evRange3 (G.keeps F₂.keep) evK ?_ (evLi F₂ M₂.width) (by omega) (by omega)) (small_of hw hz (by omega)) (rangeSize_cnt hw)
    (fun i m' news' => BsM b wd t u S m' ∧ news' = (S, baObj (cAt b wd (i * wd))) :: news ∧ i * wd ≤ b.length)
    ⟨M₂, by rw [Nat.zero_mul]; rfl, by omega⟩ ?_ ?_
  · rw [show ((b.length : Nat) : Int) = ((b.toArray.size : Nat) : Int) by simp]
    exact evLenB (b := b.toArray) (G.keeps F₂.keep) (evL F₂ M₂.data) (by simp; omega)
  · rintro I i m' _ h tk t' hi ⟨M', rfl, hle⟩ off F' N'
    have hlt := cnt_lt hw hi
    refine wpAny_assign_Name (storeX_L F' N' fun h₃ F₃ N₃ => ?_)
    refine bs_turn (G.keeps F₃.keep) (M'.set (by decide) (by decide) (by decide)) F₃ N₃ hoff (ti := t') (by rw [if_pos rfl]; congr 2; push_cast; omega) hz hw hw' hlt hh hE ?_ ?_
    · intro hfit h₄ tk₄ m₄ M₄ F₄ N₄
      exact ⟨m₄, _, ⟨_, _, rfl, F₄, N₄⟩, fun p hp => by
        rcases List.mem_cons.mp hp with rfl | hp
        · exact off (S, baObj (cAt b wd (i * wd))) (.head _)
        · exact off p (.tail _ hp), M₄, rfl, hfit⟩
    · intro hfit h₅ m₅ h₆ tk₆ e F₅ N₅ hx
      refine hR (fun hm => hfit ?_) h₅ m₅ h₆ tk₆ e F₅ N₅ hx
      obtain ⟨q, hq⟩ := Nat.dvd_of_mod_eq_zero hm
      rw [hq] at hlt ⊢
      rw [Nat.mul_comm wd q] at hlt ⊢
      exact Nat.mul_le_mul_right _ (Nat.lt_of_mul_lt_mul_right hlt)
  · rintro m' _ h tk ⟨M', rfl, hle⟩ F' N'
    have hge := cnt_ge (n := b.length) hw
    have heq : cnt b.length wd * wd = b.length := by omega
    have hmod : b.length % wd = 0 := by
      have := Nat.mul_mod_left (cnt b.length wd) wd
      rw [heq] at this
      exact this
    rw [heq] at N'
    refine cExecsCons (cOf (wpAny_Return_some (callT1 (G.keeps F'.keep) G.nbytes G.vbytes (EvV.go (evL F' M'.out) fun tk' => ?_))))
    refine call_bytes_ba (N' _ (.head _)).1 (by rw [cAt_size]; omega) fun t' k => ?_
    exact hQ hmod _ _ m' t' F' (fun p hp => N' p (.tail _ hp))
end
end Mine

/- part CB -/
namespace Mine
/-- the module's function d lies at f -/
structure DefAt (mg : Str → Option Value) (h : Heap) (d : DefRec) (f : Addr) (cd : Value) : Prop where
  named : mg d.name = some (.ref f)
  obj : ∃ o pm doc, h.get? f = some o ∧ o.data = .func (docDef d.name d.params d.body d.scope pm cd doc)
  code : h.CodeRec cd d.name
theorem DefAt.keeps {mg : Str → Option Value} {h h' : Heap} {d : DefRec} {f : Addr} {cd : Value} (D : DefAt mg h d f cd) (hk : ∀ b o, h.get? b = some o → h'.get? b = some o) : DefAt mg h' d f cd :=
  ⟨D.named, let ⟨o, pm, doc, h1, h2⟩ := D.obj; ⟨o, pm, doc, hk _ _ h1, h2⟩, D.code.keeps hk⟩
theorem turn_back {h₀ g g' h : Heap} {L L' : Addr} {m m' : Str → Option Value} {news' : List (Addr × Obj)} (FG : Fr h₀ L g m) (T : KtsTurn [L] g g') (F' : Fr g' L' h m') (N' : News g' L' h news') : Fr h₀ L h m ∧ News h₀ L h news' := by
  have nL₀ : h₀.get? L = none := kts_self FG
  obtain ⟨oL, es, ep, hL, hLd, hLk, hLf⟩ := FG.ns
  obtain ⟨sl, hs⟩ := T.up hL
  refine ⟨⟨⟨_, es, ep, F'.keep _ _ hs, hLd, hLk, hLf⟩, fun b o e => F'.keep b o (T.other b o (FG.keep b o e) (fun q => by
    rw [List.mem_singleton.mp q, nL₀] at e
    cases e)), FG.above⟩, fun p hp => ⟨(N' p hp).1, fun q => ?_, ?_⟩⟩
  · have := (N' p hp).2.2; rw [q, hs] at this; cases this
  · cases q : h₀.get? p.1 with
    | none => rfl
    | some o =>
      obtain ⟨sl', hs'⟩ := T.up (FG.keep _ _ q)
      have := (N' p hp).2.2
      rw [hs'] at this
      cases this
section
variable {prog : Program} {w : World} {A₀ A : Around} {s : Shared} {base h₀ : Heap} {outer : List Env} {L : Addr} {m mg mb : Str → Option Value} {env : Env} {news : List (Addr × Obj)}
  {R : Result → Shared → Prop} {d : DefRec} {cd : Value} {f : Addr} {args : Args} {binds : List (Str × Value)}
theorem cCallX (B : Below A₀ base outer h₀) (F : Fr h₀ L s.heap m) (N : News h₀ L s.heap news) (hlim : h₀.NoLimit) (hA : A.frames = some (env :: outer)) (hf : env.frame = some L) (hke : env.scope.kind = .function)
    (D : DefAt mg h₀ d f cd) (hroom : A.depth < recursionLimit)
    (hbind : ∀ pm doc, bindArgs (docDef d.name d.params d.body d.scope pm cd doc) args = pure binds) (hloc : ∀ y ∈ binds, d.scope.names.lookup y.1 = some .local)
    (h : ∀ g L' h₁ tk, Fr h₀ L g m → Fr g L' h₁ (fun y => binds.reverse.lookup y) → News g L' h₁ news → Below A base (env :: outer) g → h₀.StaysIn g → (∀ p ∈ news, p.1 < L') →
      wpC (model prog w) (A.deeper (envX d.name d.scope L' f cd [])) (execs d.body (envX d.name d.scope L' f cd []))
        (fun fl s' => R (.ok (.ret (match fl with | .ret v => v | _ => .none))) s')
        (fun e s' => wpAny (model prog w) (A.deeper (envX d.name d.scope L' f cd [])) (leaving (envX d.name d.scope L' f cd []) e) (fun _ s'' => R (.error e) s'') (fun e' s'' => R (.error e') s'') s')
        { s with heap := h₁, toks := tk })
    (hcell : ∀ x ∈ d.scope.names, x.2 ≠ .cell) (hco : d.scope.isCoroutine = false := by rfl) (hgen : d.scope.isGenerator = false := by rfl) (hk : d.scope.kind = .function := by rfl) : codeC (model prog w) A (.call (.ref f) args) R s := by
  obtain ⟨FG, BG, st, _⟩ := groundX (R := R) B F N hA hf hke
  obtain ⟨o, pm, doc, ho, hd⟩ := D.obj
  refine codeCallFunction hroom (F.keep _ _ ho) hd hco hgen rfl (D.code.keeps F.keep) ?_
  rw [hbind]
  refine wpAny_pure (wpAny_newFunctionEnv hcell hloc (fun h₁ hns hsb => ⟨(hlim.keeps F.keep).fresh _ hsb, ?_⟩) hk)
  have hk₁ : ∀ b o, s.heap.get? b = some o → h₁.get? b = some o := fun b o e => hsb.extBut b o (Nat.ne_of_lt (Heap.lt_size e)) (Heap.get?_push_of_some _ e)
  refine codeFunc ?_
  exact h _ s.heap.objs.size h₁ _ FG ⟨hns, fun b o e => hk₁ b o (of_hideAll _ e), Nat.le_of_eq (hideAll_size _ _)⟩
    (fun p hp => ⟨hk₁ _ _ (N p hp).1, Nat.ne_of_lt (Heap.lt_size (N p hp).1), hideAll_none _ (List.mem_map_of_mem hp)⟩) BG st (fun p hp => Heap.lt_size (N p hp).1)

theorem bs_call {b : List UInt8} {wd : Nat} {t u : Tok} (B : Below A₀ base outer h₀) (F : Fr h₀ L s.heap m) (N : News h₀ L s.heap news) (G : G0 mg mb h₀) (hA : A.frames = some (env :: outer)) (hf : env.frame = some L) (hke : env.scope.kind = .function)
    (D : DefAt mg h₀ bsD f cd) (hroom : A.depth < recursionLimit) (hh : A.handled = none)
    (hz : b.length ≤ 1000) (hw : 1 ≤ wd) (hw' : wd ≤ 5)
    (hQ : b.length % wd = 0 → ∀ h' tk t', Fr h₀ L h' m → News h₀ L h' news → R (.ok (.ret (.bytes (cAt b wd b.length) t'))) { s with heap := h', toks := tk })
    (hR : b.length % wd ≠ 0 → ∀ g h' tk e, Fr h₀ L g m → h₀.StaysIn g → RaisedSN base g (env :: outer) e (.type "IndexError") news h' → g.UpToSlots h' → R (.error (.ref e)) { s with heap := h', toks := tk }) :
    codeC (model prog w) A (.call (.ref f) ⟨[.bytes b.toArray t, .int (wd : Int) u], []⟩) R s := by
  refine cCallX (binds := [("data", .bytes b.toArray t), ("width", .int (wd : Int) u)]) B F N G.lim hA hf hke D hroom (fun _ _ => by rfl) (locs (by rfl)) (fun g L' h₁ tk FG F' N' B' st lt => ?_) (by decide +kernel)
  refine bs_body (mg := mg) (mb := mb) (G.keeps st) F' N' rfl rfl hz hw hw' hh PassesOwn.leaving ?_ ?_
  · intro hm h' tk' m' t' F₁ N₁
    obtain ⟨F₂, N₂⟩ := turn_back FG .refl F₁ N₁
    exact hQ hm h' tk' t' F₂ N₂
  · intro hm h₂ m' h' tk' e F₂ N₂ hx
    exact leave_newS B' hx F₂ N₂ (fun h'' RS _ U => hR hm g h'' tk' e FG st RS U) rfl

theorem rf_call {b : List UInt8} {wd : Nat} {t u : Tok} {fb : Addr} {cdb : Value} {KF : Frag} {p : Program} {loose : List Str} {mean : ExcName → Option Value} (B : Below A₀ base [] h₀) (F : Fr h₀ L s.heap m) (N : News h₀ L s.heap news) (G : G0 mg mb h₀)
    (hA : A.frames = some [env]) (hf : env.frame = some L) (hke : env.scope.kind = .function) (D : DefAt mg h₀ rfD f cd) (Db : DefAt mg h₀ bsD fb cdb) (XB : KF.In base) (TB : Top p loose mean mg mb base) (ex : nsIn KF mainGlobals "IndexError" = some none)
    (hroom : A.depth + 1 < recursionLimit) (hh : A.handled = none) (hz : b.length ≤ 1000) (hw : 1 ≤ wd) (hw' : wd ≤ 5)
    (hQ : ∀ h' tk, Fr h₀ L h' m → News h₀ L h' news → R (.ok (.ret (.bool (decide (b.length % wd ≠ 0))))) { s with heap := h', toks := tk }) :
    codeC (model prog w) A (.call (.ref f) ⟨[.bytes b.toArray t, .int (wd : Int) u], []⟩) R s := by
  refine cCallX (binds := [("plain", .bytes b.toArray t), ("width", .int (wd : Int) u)]) B F N G.lim hA hf hke D (Nat.lt_of_succ_lt hroom) (fun _ _ => by rfl) (locs (by rfl)) (fun g L' h₁ tk FG F' N' B' st lt => ?_) (by decide +kernel)
  have Db' := Db.keeps (fun b o e => F'.keep b o (st b o e))
  obtain ⟨ob, pm, doc, hob, hdb⟩ := Db'.obj
  refine cExecsCons (cTryExcept ?_)
  refine cExecsCons (cExpr (cCallName (name_g (G.keeps (fun b o e => F'.keep b o (st b o e))) Db.named ?_)))
  refine cCallWithFunction (o := ob) (evalArgs_plain (args_cons (EvV.go (evL F' rfl) fun tk₁ => args_cons (EvV.go (evL F' rfl) fun tk₂ => args_nil ⟨⟨hob, hdb⟩, ?_⟩))))
  refine cCall (bs_call (b := b) (wd := wd) (mg := mg) (mb := mb) (news := news) B' F' N' (G.keeps st) (Around.frames_deeper B'.stack) rfl rfl (Db.keeps st) hroom hh hz hw hw' ?_ ?_)
  · intro hm h' tk' t' F₂ N₂
    refine cExecsNil ?_
    refine cExecsNil ?_
    refine cExecsCons (cOf (wpAny_Return_some (PySem.wpAny_Constant_bool ?_)))
    obtain ⟨F₃, N₃⟩ := turn_back FG .refl F₂ N₂
    have z := hQ _ tk' F₃ N₃
    rw [decide_eq_false (by omega)] at z
    exact z
  · intro hm g₂ h' tk' e F₂ st₂ RS U
    have hfr : [env].filterMap (·.frame) = [L] := by simp [hf]
    refine caught_SN0 (KF := KF) (p := p) (loose := loose) (mean := mean) (mg := mg) (mb := mb) (g₀ := g) (T' := "IndexError") RS F₂ B' U XB TB ?_ .refl ex rfl (by decide) PySem.F.isExc_IndexError PySem.F.notTuple_IndexError ?_ ?_ (hE := PassesOwnAt.leaving)
    · rw [hfr]
      intro c hc
      obtain rfl := List.mem_singleton.mp hc
      obtain ⟨oL, es, ep, hL, hLd, _⟩ := FG.ns
      exact ⟨oL, es, ep, hL, hLd⟩
    · rw [isSubtype_type]; kernel_rfl
    · intro h₃ g' T F₃ N₃ _ _ _ _
      rw [hfr] at T
      obtain ⟨F₄, N₄⟩ := turn_back FG T F₃ N₃
      refine wpAny_execs_cons (wpAny_Return_some (PySem.wpAny_Constant_bool ?_))
      have z := hQ h₃ tk' F₄ N₄
      rw [decide_eq_true hm] at z
      exact z
end
end Mine

/- part LC -/
namespace Mine
open PyProof.Rows.LCg (NsObj lst Off3 Off1 CompEnd CompRest block_U)
def Turn (prog : Program) (w : World) (A : Around) (h₀ : Heap) (L : Addr) (m : Str → Option Value) (env : Env) (elt : Expr) (x : Str) (scope : Scope) (cl : List (Str × Addr)) (s : Shared) (a c : Int) (n : Nat) (Inv : Nat → List Value → List (Addr × Obj) → Prop) : Prop :=
  ∀ i t ys news I oI C oC D m₂ h tk (E' : Value → Shared → Prop), i < n → Inv i ys news → NsObj oC m₂ → m₂ x = some (.int (a + (i : Int) * c) t) → Fr h₀ L h m → News h₀ L h ((I, oI) :: (C, oC) :: (D, lst ys) :: news) → Off3 I C D news → (I ≠ C ∧ I ≠ D ∧ C ≠ D) →
    wpAny (model prog w) A (eval elt (compEnvC scope cl C env)) (fun y s' => ∃ h' tk' news', s' = { s with heap := h', toks := tk' } ∧ Fr h₀ L h' m ∧ News h₀ L h' ((I, oI) :: (C, oC) :: (D, lst ys) :: news') ∧ Off3 I C D news' ∧ Inv (i + 1) (ys ++ [y]) news') E' { s with heap := h, toks := tk }
section
variable {prog : Program} {w : World} {A : Around} {E : Value → Shared → Prop} {s : Shared} {h₀ : Heap} {L : Addr} {m : Str → Option Value} {env : Env} {news : List (Addr × Obj)}
theorem rest_of {elt : Expr} {x : Str} {scope : Scope} {cl : List (Str × Addr)} {a c : Int} {n : Nat} {Inv : Nat → List Value → List (Addr × Obj) → Prop} {Fin : List Value → List (Addr × Obj) → Prop}
    (turn : Turn prog w A h₀ L m env elt x scope cl s a c n Inv) (fin : ∀ ys news, Inv n ys news → Fin ys news) :
    ∀ (j i : Nat) (ys : List Value) (news : List (Addr × Obj)), i + j = n → Inv i ys news → CompRest prog w A h₀ L m env elt x scope cl s (fun _ => True) (fun i v => i < n ∧ ∃ t, v = .int (a + (i : Int) * c) t) Fin j i ys news
  | 0, i, ys, news, hi, hI => by
    obtain rfl : i = n := by omega
    exact CompRest.zero (fin ys news hI)
  | j + 1, i, ys, news, hi, hI => by
    refine CompRest.succ ?_
    rintro v I oI C oC D m₂ h tk E' ⟨hlt, t, rfl⟩ hC hx F N off ne
    refine wpAny_mono (turn i t ys news I oI C oC D m₂ h tk E' hlt hI hC hx F N off ne) (fun y s' q => ?_) fun _ _ e => e
    obtain ⟨h', tk', news', rfl, F', N', off', hI'⟩ := q
    exact ⟨h', tk', news', rfl, F', N', off', trivial, rest_of turn fin j (i + 1) (ys ++ [y]) news' (by omega) hI'⟩
theorem turn_at {elt : Expr} {x : Str} {scope : Scope} {cl : List (Str × Addr)} {a c : Int} {n : Nat} {Inv : Nat → List Value → List (Addr × Obj) → Prop} {g : Heap} {k : Nat} (turn : Turn prog w A h₀ L m env elt x scope cl s a c n Inv) :
    Turn prog w A h₀ L m env elt x scope cl { s with heap := g, toks := k } a c n Inv := turn
theorem rng_st {I : Addr} {a c : Int} {n : Nat} : ∀ i (h h' : Heap) (o : Obj) (nw : List (Addr × Obj)), IsRangeIter h I (a + (i : Nat) * c) ((n : Int) - (i : Nat)) c → h.get? I = some o → h'.get? I = some o → (∀ b o, h₀.get? b = some o → h'.get? b = some o) → News h₀ L h' nw → True → IsRangeIter h' I (a + (i : Nat) * c) ((n : Int) - (i : Nat)) c :=
  fun i h h' o nw st e e' _ _ _ => by
    have st' : h.get? I = some _ := st
    show h'.get? I = some _
    rw [e', ← e]; exact st'
theorem lcEval {elt iter : Expr} {x : Str} {px : Pos} {scope : Scope} {cl : List (Str × Addr)} {pos : Pos} {a b c : Int} {n : Nat} {Q : Value → Shared → Prop} (hh : A.handled = none) (F : Fr h₀ L s.heap m) (N : News h₀ L s.heap news)
    (hr : EvR prog w A E env s.heap iter a b c) (hsm : Builtin.Range.small a b c = true) (hn : Builtin.Range.rangeSize a b c = (n : Int)) (hsz : n ≤ sizeLine)
    (Inv : Nat → List Value → List (Addr × Obj) → Prop) (h0 : Inv 0 [] news) (turn : Turn prog w A h₀ L m env elt x scope cl s a c n Inv)
    (fin : ∀ ys news' D h tk, Inv n ys news' → Fr h₀ L h m → News h₀ L h ((D, lst ys) :: news') → Off1 D news' → Q (.ref D) { s with heap := h, toks := tk })
    (hclos : closureFor scope env = pure cl) (hcell : ∀ y ∈ scope.names, y.2 ≠ .cell) (hkind : scope.kind = .function)
    (hnames : ∀ y ∈ scope.names, y.2 = .local → scope.names.lookup y.1 = some .local) (hx : scope.names.lookup x = some .local)
    (hs : ∀ x, foldedSetIterable iter env x = pure x := by intro _; rfl) :
    wpAny (model prog w) A (eval (.ListComp elt [⟨.Name x px, iter, [], 0⟩] scope pos) env) Q E s := by
  rw [eval_ListComp]
  refine wpAny_comprehension_free (use := none) rfl hs hclos hkind hnames (hr s _ h₀ L m news rfl F N fun r h₁ tk t u v hR F₁ N₁ => ?_)
  refine wpAny_pyIter_range hR hsm ?_
  refine block_U (Walks.range hh _ a c n).bound hsz (fun i h st => ⟨_, st⟩) rng_st hcell hkind hx (by show IsRangeIter _ _ _ _ _; rw [hn]; simpa using Heap.get?_push_size _ rfl) (fun b hb => ?_)
    (F₁.keeps fun _ _ e => Heap.get?_push_of_some _ e) (N₁.grown fun _ _ e => Heap.get?_push_of_some _ e) (Nat.ne_of_lt F₁.ns.lt) (next_is_new F₁) (fun p hp => Nat.ne_of_lt (Heap.lt_size (N₁ p hp).1)) trivial
    (rest_of (turn_at turn) (Fin := fun ys news' => ∀ D h tk, Fr h₀ L h m → News h₀ L h ((D, lst ys) :: news') → Off1 D news' → Q (.ref D) { s with heap := h, toks := tk }) (fun ys news' hI D h tk => fin ys news' D h tk hI) n 0 [] news (by omega) h0) ?_
  · rw [List.mem_singleton.mp hb]
    show h₁.objs.size < (h₁.push _).objs.size
    rw [Heap.size_push]; exact Nat.lt_succ_self _
  · intro D C h tk m' ys news' F' N' o1 hn hC₀ hD₀ hCL hDL hCD offC fin
    refine ⟨m', hn, fun h'' hs'' => fin D h'' tk (F'.change hs'' hCL hC₀) (fun p hp => ?_) o1⟩
    refine ⟨hs''.extBut _ _ ?_ (N' p hp).1, (N' p hp).2⟩
    rcases List.mem_cons.mp hp with rfl | hp
    · exact Ne.symm hCD
    · exact offC p hp
theorem lcAssign {elt iter : Expr} {x y : Str} {px py : Pos} {scope : Scope} {cl : List (Str × Addr)} {pos spos : Pos} {a b c : Int} {n : Nat} {Q : Flow → Shared → Prop} (hh : A.handled = none) (F : Fr h₀ env.locals s.heap m) (N : News h₀ env.locals s.heap news)
    (hr : EvR prog w A E env s.heap iter a b c) (hsm : Builtin.Range.small a b c = true) (hn : Builtin.Range.rangeSize a b c = (n : Int)) (hsz : n ≤ sizeLine)
    (Inv : Nat → List Value → List (Addr × Obj) → Prop) (h0 : Inv 0 [] news) (turn : Turn prog w A h₀ env.locals m env elt x scope cl s a c n Inv)
    (fin : ∀ ys news' D h tk, Inv n ys news' → Fr h₀ env.locals h (fun z => if z = y then some (.ref D) else m z) → News h₀ env.locals h ((D, lst ys) :: news') → Off1 D news' → Q .next { s with heap := h, toks := tk })
    (hsw : swapsWith (.ListComp elt [⟨.Name x px, iter, [], 0⟩] scope pos) (some (.Name y py)) spos.line env = pure true)
    (hclos : closureFor scope env = pure cl) (hcell : ∀ y ∈ scope.names, y.2 ≠ .cell) (hkind : scope.kind = .function)
    (hnames : ∀ y ∈ scope.names, y.2 = .local → scope.names.lookup y.1 = some .local) (hx : scope.names.lookup x = some .local)
    (hy : env.kindOf y = some .local) (hp : (env.scope.kind == .class || (env.scope.kind == .module && env.locals != env.globals)) = false)
    (hs : ∀ x, foldedSetIterable iter env x = pure x := by intro _; rfl) :
    wpAny (model prog w) A (exec (.Assign [.Name y py] (.ListComp elt [⟨.Name x px, iter, [], 0⟩] scope pos) spos) env) Q E s := by
  rw [exec_Assign_Name_used _ _ _ _ hsw]
  refine wpAny_bind (wpAny_standAt (wpAny_bind ?_))
  show wpAny _ A (do let _ ← comprehension (.ListComp elt [⟨.Name x px, iter, [], 0⟩] scope pos) scope env _ (newList []) false (eval iter env) (some (assign (.Name y py) env))) _ _ s
  refine wpAny_bind (wpAny_mono (wpAny_comprehension_free (use := some (assign (.Name y py) env)) (Q := fun _ s' => Q .next s') rfl hs hclos hkind hnames
    (hr s _ h₀ env.locals m news rfl F N fun r h₁ tk t u v hR F₁ N₁ => ?_)) (fun _ s' hq => wpAny_pure (wpAny_pure hq)) fun _ _ e => e)
  refine wpAny_pyIter_range hR hsm ?_
  refine block_U (Walks.range hh _ a c n).bound hsz (fun i h st => ⟨_, st⟩) rng_st hcell hkind hx (by show IsRangeIter _ _ _ _ _; rw [hn]; simpa using Heap.get?_push_size _ rfl) (fun b hb => ?_)
    (F₁.keeps fun _ _ e => Heap.get?_push_of_some _ e) (N₁.grown fun _ _ e => Heap.get?_push_of_some _ e) (Nat.ne_of_lt F₁.ns.lt) (next_is_new F₁) (fun p hp => Nat.ne_of_lt (Heap.lt_size (N₁ p hp).1)) trivial
    (rest_of (turn_at turn) (Fin := fun ys news' => ∀ D h tk, Fr h₀ env.locals h (fun z => if z = y then some (.ref D) else m z) → News h₀ env.locals h ((D, lst ys) :: news') → Off1 D news' → Q .next { s with heap := h, toks := tk }) (fun ys news' hI D h tk => fin ys news' D h tk hI) n 0 [] news (by omega) h0) ?_
  · rw [List.mem_singleton.mp hb]
    show h₁.objs.size < (h₁.push _).objs.size
    rw [Heap.size_push]; exact Nat.lt_succ_self _
  · intro D C h' tk m' ys news' F' N' o1 hn hC₀ hD₀ hCL hDL hCD offC fin
    show wpAny _ A (assign (.Name y py) env (.ref D)) _ _ _
    refine wpAny_assign_Name (wpAny_storeName_local hy F'.ns (fun h₂ hn₂ hs₂ => ?_) hp)
    have hL₀ : h₀.get? env.locals = none := Heap.get?_none_of_le F'.above
    have F₂ : Fr h₀ env.locals h₂ (fun z => if z = y then some (.ref D) else m z) := ⟨hn₂, fun b o e => hs₂.extBut b o (fun q => by rw [q, hL₀] at e; cases e) (F'.keep b o e), F'.above⟩
    refine ⟨m', hn.sameBut hs₂ hCL, fun h'' hs'' => fin D h'' _ (F₂.change hs'' hCL hC₀) (fun p hp => ?_) o1⟩
    have z : h₂.get? p.1 = some p.2 := hs₂.extBut _ _ (N' p hp).2.1 (N' p hp).1
    refine ⟨hs''.extBut _ _ ?_ z, (N' p hp).2⟩
    rcases List.mem_cons.mp hp with rfl | hp
    · exact Ne.symm hCD
    · exact offC p hp
end
end Mine

/- part LA -/
namespace Mine
open PyProof.Rows.LCg (NsObj lst Off3 Off1)
abbrev lwCells (L : Addr) : List (Str × Addr) := [("k", L + 3), ("whole", L + 2), ("width", L + 1)]
example (L : Addr) : cellsFrom (L + 1) lwScope.names [] = lwCells L := by rfl
abbrev lwEnv (L a : Addr) (cd : Value) : Env := envX "law" lwScope L a cd (lwCells L)
/-- the law's frame: its locals m, its three cells, and the objects it made -/
structure LS (h₀ : Heap) (L : Addr) (wv wh kv : Option Value) (h : Heap) (m : Str → Option Value) (objs : List (Addr × Obj)) : Prop where
  fr : Fr h₀ L h m
  led : ∃ c1 c2 c3, c1.data = .cell wv ∧ c2.data = .cell wh ∧ c3.data = .cell kv ∧ News h₀ L h ((L + 1, c1) :: (L + 2, c2) :: (L + 3, c3) :: objs)
  apart : ∀ p ∈ objs, p.1 ≠ L + 1 ∧ p.1 ≠ L + 2 ∧ p.1 ≠ L + 3
section
variable {prog : Program} {w : World} {A : Around} {E : Value → Shared → Prop} {s : Shared} {h₀ h h' : Heap} {L a : Addr} {cd : Value} {m : Str → Option Value} {objs objs' : List (Addr × Obj)} {wv wh kv : Option Value}
theorem LS.sub (S : LS h₀ L wv wh kv h m objs) (hs : ∀ p ∈ objs', p ∈ objs) : LS h₀ L wv wh kv h m objs' := by
  obtain ⟨F, ⟨c1, c2, c3, d1, d2, d3, N⟩, ap⟩ := S
  refine ⟨F, ⟨c1, c2, c3, d1, d2, d3, fun p hp => ?_⟩, fun p hp => ap p (hs p hp)⟩
  rcases List.mem_cons.mp hp with rfl | hp
  · exact N _ (.head _)
  · rcases List.mem_cons.mp hp with rfl | hp
    · exact N _ (.tail _ (.head _))
    · rcases List.mem_cons.mp hp with rfl | hp
      · exact N _ (.tail _ (.tail _ (.head _)))
      · exact N _ (.tail _ (.tail _ (.tail _ (hs p hp))))
theorem LS.keeps (S : LS h₀ L wv wh kv h m objs) (hk : ∀ b o, h.get? b = some o → h'.get? b = some o) : LS h₀ L wv wh kv h' m objs := by
  obtain ⟨F, ⟨c1, c2, c3, d1, d2, d3, N⟩, ap⟩ := S
  exact ⟨F.keeps hk, ⟨c1, c2, c3, d1, d2, d3, fun p hp => ⟨hk _ _ (N p hp).1, (N p hp).2⟩⟩, ap⟩
theorem LS.lt (S : LS h₀ L wv wh kv h m objs) : L + 3 < h.objs.size := by
  obtain ⟨F, ⟨c1, c2, c3, d1, d2, d3, N⟩, ap⟩ := S
  exact Heap.lt_size (N _ (.tail _ (.tail _ (.head _)))).1
theorem LS.push (S : LS h₀ L wv wh kv h m objs) (o : Obj) (hf : o.isFreed = false := by rfl) : LS h₀ L wv wh kv (h.push o) m ((h.objs.size, o) :: objs) := by
  have hlt := S.lt
  obtain ⟨F, ⟨c1, c2, c3, d1, d2, d3, N⟩, ap⟩ := S
  have N' := News.push F N o hf
  refine ⟨F.push o, ⟨c1, c2, c3, d1, d2, d3, fun p hp => N' p ?_⟩, fun p hp => ?_⟩
  · rcases List.mem_cons.mp hp with rfl | hp
    · exact .tail _ (.head _)
    · rcases List.mem_cons.mp hp with rfl | hp
      · exact .tail _ (.tail _ (.head _))
      · rcases List.mem_cons.mp hp with rfl | hp
        · exact .tail _ (.tail _ (.tail _ (.head _)))
        · rcases List.mem_cons.mp hp with rfl | hp
          · exact .head _
          · exact .tail _ (.tail _ (.tail _ (.tail _ hp)))
  · rcases List.mem_cons.mp hp with rfl | hp
    · have h1 : L + 1 < h.objs.size := Nat.lt_trans (Nat.add_lt_add_left (by decide) L) hlt
      have h2 : L + 2 < h.objs.size := Nat.lt_trans (Nat.add_lt_add_left (by decide) L) hlt
      exact ⟨Nat.ne_of_gt h1, Nat.ne_of_gt h2, Nat.ne_of_gt hlt⟩
    · exact ap p hp
theorem LS.get (S : LS h₀ L wv wh kv h m objs) {p : Addr × Obj} (hp : p ∈ objs) : h.get? p.1 = some p.2 := by
  obtain ⟨F, ⟨c1, c2, c3, d1, d2, d3, N⟩, ap⟩ := S
  exact (N p (.tail _ (.tail _ (.tail _ hp)))).1
theorem evN {x : Str} {pos : Pos} {v : Value} {env : Env} (n : h.Ns env.locals m) (hv : m x = some v)
    (hk : env.scope.kind = .function := by rfl) (hx : env.kindOf x = some .local := by rfl) (hd : (x == ("__debug__" : Str)) = false := by decide) : EvV prog w A E env h (.Name x pos) v := by
  rintro s Q rfl hQ
  exact wpAny_Name (wpAny_loadName_local hk hx n hv (hQ s.toks)) hd
theorem evNi {x : Str} {pos : Pos} {v : Int} {t : Tok} {env : Env} (n : h.Ns env.locals m) (hv : m x = some (.int v t))
    (hk : env.scope.kind = .function := by rfl) (hx : env.kindOf x = some .local := by rfl) (hd : (x == ("__debug__" : Str)) = false := by decide) : EvI prog w A E env h (.Name x pos) v := (evN n hv hk hx hd).int
theorem LS.evW {pos : Pos} {v : Int} {t : Tok} {env : Env} (S : LS h₀ L wv wh kv h m objs) (e : wv = some (.int v t)) (hc : env.cells.lookup (Str.ofString "width") = some (L + 1) := by rfl) (hk : env.scope.kind = .function := by rfl) (hx : env.kindOf "width" = some .cell := by rfl) : EvI prog w A E env h (.Name "width" pos) v := by
  obtain ⟨F, ⟨c1, c2, c3, d1, d2, d3, N⟩, ap⟩ := S
  subst e
  exact evCi N (c := L + 1) hc (.head _) d1 hk hx
theorem LS.evWv {pos : Pos} {v : Value} {env : Env} (S : LS h₀ L wv wh kv h m objs) (e : wv = some v) (hc : env.cells.lookup (Str.ofString "width") = some (L + 1) := by rfl) (hk : env.scope.kind = .function := by rfl) (hx : env.kindOf "width" = some .cell := by rfl) : EvV prog w A E env h (.Name "width" pos) v := by
  obtain ⟨F, ⟨c1, c2, c3, d1, d2, d3, N⟩, ap⟩ := S
  subst e
  exact evC N (c := L + 1) hc (.head _) d1 hk hx
theorem LS.evH {pos : Pos} {v : Value} {env : Env} (S : LS h₀ L wv wh kv h m objs) (e : wh = some v) (hc : env.cells.lookup (Str.ofString "whole") = some (L + 2) := by rfl) (hk : env.scope.kind = .function := by rfl) (hx : env.kindOf "whole" = some .cell := by rfl) : EvV prog w A E env h (.Name "whole" pos) v := by
  obtain ⟨F, ⟨c1, c2, c3, d1, d2, d3, N⟩, ap⟩ := S
  subst e
  exact evC N (c := L + 2) hc (.tail _ (.head _)) d2 hk hx
theorem LS.evK {pos : Pos} {v : Int} {t : Tok} {env : Env} (S : LS h₀ L wv wh kv h m objs) (e : kv = some (.int v t)) (hc : env.cells.lookup (Str.ofString "k") = some (L + 3) := by rfl) (hk : env.scope.kind = .function := by rfl) (hx : env.kindOf "k" = some .cell := by rfl) : EvI prog w A E env h (.Name "k" pos) v := by
  obtain ⟨F, ⟨c1, c2, c3, d1, d2, d3, N⟩, ap⟩ := S
  subst e
  exact evCi N (c := L + 3) hc (.tail _ (.tail _ (.head _))) d3 hk hx
theorem ls_local {x : Str} {v : Value} {Q : Unit → Shared → Prop} (S : LS h₀ L wv wh kv s.heap m objs)
    (hQ : ∀ h', LS h₀ L wv wh kv h' (fun y => if y = x then some v else m y) objs → Q () { s with heap := h', toks := s.toks + 1 })
    (hx : (lwEnv L a cd).kindOf x = some .local := by rfl) : wpAny (model prog w) A (storeName (lwEnv L a cd) x v) Q E s := by
  obtain ⟨F, ⟨c1, c2, c3, d1, d2, d3, N⟩, ap⟩ := S
  exact storeX_L F N (fun h' F' N' => hQ h' ⟨F', ⟨c1, c2, c3, d1, d2, d3, N'⟩, ap⟩) (by rfl) hx
theorem ne12 (L : Addr) : L + 1 ≠ L + 2 := Nat.ne_of_lt (Nat.add_lt_add_left (by decide) L)
theorem ne13 (L : Addr) : L + 1 ≠ L + 3 := Nat.ne_of_lt (Nat.add_lt_add_left (by decide) L)
theorem ne23 (L : Addr) : L + 2 ≠ L + 3 := Nat.ne_of_lt (Nat.add_lt_add_left (by decide) L)
theorem ls_whole {v : Value} {Q : Unit → Shared → Prop} (S : LS h₀ L wv wh kv s.heap m objs)
    (hQ : ∀ h', LS h₀ L wv (some v) kv h' m objs → Q () { s with heap := h' }) : wpAny (model prog w) A (storeName (lwEnv L a cd) "whole" v) Q E s := by
  obtain ⟨F, ⟨c1, c2, c3, d1, d2, d3, N⟩, ap⟩ := S
  refine storeX_C F N (c := L + 2) rfl (UpdF.tail (ne12 L) (UpdF.head fun p hp => ?_)) d2 (fun h' o' F' N' hd' => hQ h' ⟨F', ⟨c1, o', c3, d1, hd', d3, N'⟩, ap⟩)
  rcases List.mem_cons.mp hp with rfl | hp
  · exact Ne.symm (ne23 L)
  · exact (ap p hp).2.1
end
end Mine

/- part LF -/
namespace Mine
open PyProof.Rows.LCg (NsObj lst Off3 Off1)
section
variable {prog : Program} {w : World} {A : Around} {E : Value → Shared → Prop} {s : Shared} {h₀ : Heap} {L a : Addr} {cd : Value} {m : Str → Option Value} {objs : List (Addr × Obj)} {wv wh kv : Option Value}
def LedgerJ (L : Addr) (P : Option Value → Option Value → Option Value → (Str → Option Value) → List (Addr × Obj) → Prop) (m : Str → Option Value) (news : List (Addr × Obj)) : Prop :=
  ∃ c1 c2 c3 wv wh kv objs, news = (L + 1, c1) :: (L + 2, c2) :: (L + 3, c3) :: objs ∧ c1.data = .cell wv ∧ c2.data = .cell wh ∧ c3.data = .cell kv ∧ (∀ p ∈ objs, p.1 ≠ L + 1 ∧ p.1 ≠ L + 2 ∧ p.1 ≠ L + 3) ∧ P wv wh kv m objs
theorem ls_forK {iter : Expr} {px pos : Pos} {body : List Stmt} {x c b : Int} {n : Nat} {Q : Flow → Shared → Prop} (hE : PassesOwn (model prog w) A (lwEnv L a cd) E) (hh : A.handled = none)
    (S : LS h₀ L wv wh kv s.heap m objs) (hr : EvR prog w A E (lwEnv L a cd) s.heap iter x b c) (hsm : Builtin.Range.small x b c = true) (hn : Builtin.Range.rangeSize x b c = (n : Int))
    (J : Nat → (Str → Option Value) → List (Addr × Obj) → Prop) (hJ : J 0 m objs)
    (turn : ∀ I i m objs h tk t, i < n → J i m objs → (∀ p ∈ objs, p.1 ≠ I) → LS h₀ L wv wh (some (.int (x + (i : Int) * c) t)) h m ((I, it (x + ((i + 1 : Nat) : Int) * c) ((n : Int) - ((i + 1 : Nat) : Int)) c) :: objs) →
      wpAny (model prog w) A (execs body (lwEnv L a cd)) (fun f s₃ => match f with
        | .next => ∃ h' tk' kv' m' objs', s₃ = { s with heap := h', toks := tk' } ∧ LS h₀ L wv wh kv' h' m' ((I, it (x + ((i + 1 : Nat) : Int) * c) ((n : Int) - ((i + 1 : Nat) : Int)) c) :: objs') ∧ (∀ p ∈ objs', p.1 ≠ I) ∧ J (i + 1) m' objs'
        | .ret v => Q (.ret v) s₃
        | _ => False) E { s with heap := h, toks := tk })
    (done : ∀ m objs h tk kv, J n m objs → LS h₀ L wv wh kv h m objs → Q .next { s with heap := h, toks := tk })
    (hs : ∀ x, foldedSetIterable iter (lwEnv L a cd) x = pure x := by intro _; rfl) :
    wpAny (model prog w) A (exec (.For (.Name "k" px) iter body [] pos) (lwEnv L a cd)) Q E s := by
  obtain ⟨F, ⟨c1, c2, c3, d1, d2, d3, N⟩, ap⟩ := S
  refine wFor hE hh F N hr hsm hn (fun i m news => LedgerJ L (fun wv' wh' _ m objs => wv = wv' ∧ wh = wh' ∧ J i m objs) m news)
    ⟨c1, c2, c3, wv, wh, kv, objs, rfl, d1, d2, d3, ap, rfl, rfl, hJ⟩ ?_ ?_ (fun _ _ => rfl) hs
  · rintro I i m _ h tk t hi ⟨c1, c2, c3, _, _, kv, objs, rfl, d1, d2, d3, ap, rfl, rfl, hJ⟩ off F N
    have n1 : L + 1 ≠ I := off _ (.head _)
    have n2 : L + 2 ≠ I := off _ (.tail _ (.head _))
    have n3 : L + 3 ≠ I := off (L + 3, c3) (.tail _ (.tail _ (.head _)))
    refine wpAny_assign_Name (storeX_C F N (c := L + 3) rfl (UpdF.tail (Ne.symm n3) (UpdF.tail (ne13 L) (UpdF.tail (ne23 L) (UpdF.head fun p hp => (ap p hp).2.2)))) d3 (fun h' o' F' N' hd' => ?_))
    have S' : LS h₀ L wv wh (some (.int (x + (i : Int) * c) t)) h' m ((I, it (x + ((i + 1 : Nat) : Int) * c) ((n : Int) - ((i + 1 : Nat) : Int)) c) :: objs) := by
      refine ⟨F', ⟨c1, c2, o', d1, d2, hd', fun p hp => N' p ?_⟩, fun p hp => ?_⟩
      · rcases List.mem_cons.mp hp with rfl | hp
        · exact .tail _ (.head _)
        · rcases List.mem_cons.mp hp with rfl | hp
          · exact .tail _ (.tail _ (.head _))
          · rcases List.mem_cons.mp hp with rfl | hp
            · exact .tail _ (.tail _ (.tail _ (.head _)))
            · rcases List.mem_cons.mp hp with rfl | hp
              · exact .head _
              · exact .tail _ (.tail _ (.tail _ (.tail _ hp)))
      · rcases List.mem_cons.mp hp with rfl | hp
        · exact ⟨Ne.symm n1, Ne.symm n2, Ne.symm n3⟩
        · exact ap p hp
    refine wpAny_mono (turn I i m objs h' tk t hi hJ (fun p hp => off p (.tail _ (.tail _ (.tail _ hp)))) S') (fun f s₃ q => ?_) fun _ _ e => e
    cases f with
    | next =>
      obtain ⟨h₃, tk₃, kv', m', objs', rfl, S₃, off', hJ'⟩ := q
      obtain ⟨F₃, ⟨e1, e2, e3, g1, g2, g3, N₃⟩, ap₃⟩ := S₃
      refine ⟨m', (L + 1, e1) :: (L + 2, e2) :: (L + 3, e3) :: objs', ⟨h₃, tk₃, rfl, F₃, fun p hp => N₃ p ?_⟩, fun p hp => ?_, ⟨e1, e2, e3, wv, wh, kv', objs', rfl, g1, g2, g3, fun p hp => ap₃ p (.tail _ hp), rfl, rfl, hJ'⟩⟩
      · rcases List.mem_cons.mp hp with rfl | hp
        · exact .tail _ (.tail _ (.tail _ (.head _)))
        · rcases List.mem_cons.mp hp with rfl | hp
          · exact .head _
          · rcases List.mem_cons.mp hp with rfl | hp
            · exact .tail _ (.head _)
            · rcases List.mem_cons.mp hp with rfl | hp
              · exact .tail _ (.tail _ (.head _))
              · exact .tail _ (.tail _ (.tail _ (.tail _ hp)))
      · rcases List.mem_cons.mp hp with rfl | hp
        · exact n1
        · rcases List.mem_cons.mp hp with rfl | hp
          · exact n2
          · rcases List.mem_cons.mp hp with rfl | hp
            · exact n3
            · exact off' p hp
    | ret v => exact q
    | brk => exact q.elim
    | cont => exact q.elim
  · rintro m _ h tk ⟨c1, c2, c3, _, _, kv, objs, rfl, d1, d2, d3, ap, rfl, rfl, hJ⟩ F N
    exact done m objs h tk kv hJ ⟨F, ⟨c1, c2, c3, d1, d2, d3, N⟩, ap⟩
theorem ls_forW {iter : Expr} {px pos : Pos} {body : List Stmt} {x c b : Int} {n : Nat} {Q : Flow → Shared → Prop} (hE : PassesOwn (model prog w) A (lwEnv L a cd) E) (hh : A.handled = none)
    (S : LS h₀ L wv wh kv s.heap m objs) (hr : EvR prog w A E (lwEnv L a cd) s.heap iter x b c) (hsm : Builtin.Range.small x b c = true) (hn : Builtin.Range.rangeSize x b c = (n : Int))
    (J : Nat → (Str → Option Value) → List (Addr × Obj) → Prop) (hJ : J 0 m objs)
    (turn : ∀ I i m objs h tk t wh kv, i < n → J i m objs → (∀ p ∈ objs, p.1 ≠ I) → LS h₀ L (some (.int (x + (i : Int) * c) t)) wh kv h m ((I, it (x + ((i + 1 : Nat) : Int) * c) ((n : Int) - ((i + 1 : Nat) : Int)) c) :: objs) →
      wpC (model prog w) A (execs body (lwEnv L a cd)) (fun f s₃ => match f with
        | .next => ∃ h' tk' wv' wh' kv' m' objs', s₃ = { s with heap := h', toks := tk' } ∧ LS h₀ L wv' wh' kv' h' m' ((I, it (x + ((i + 1 : Nat) : Int) * c) ((n : Int) - ((i + 1 : Nat) : Int)) c) :: objs') ∧ (∀ p ∈ objs', p.1 ≠ I) ∧ J (i + 1) m' objs'
        | .ret v => Q (.ret v) s₃
        | _ => False) E { s with heap := h, toks := tk })
    (done : ∀ m objs h tk wv wh kv, J n m objs → LS h₀ L wv wh kv h m objs → Q .next { s with heap := h, toks := tk })
    (hs : ∀ x, foldedSetIterable iter (lwEnv L a cd) x = pure x := by intro _; rfl) :
    wpC (model prog w) A (exec (.For (.Name "width" px) iter body [] pos) (lwEnv L a cd)) Q E s := by
  obtain ⟨F, ⟨c1, c2, c3, d1, d2, d3, N⟩, ap⟩ := S
  refine wForC hE hh F N hr hsm hn (fun i m news => LedgerJ L (fun _ _ _ m objs => J i m objs) m news)
    ⟨c1, c2, c3, wv, wh, kv, objs, rfl, d1, d2, d3, ap, hJ⟩ ?_ ?_ (fun _ _ => rfl) hs
  · rintro I i m _ h tk t hi ⟨c1, c2, c3, _, wh, kv, objs, rfl, d1, d2, d3, ap, hJ⟩ off F N
    have n1 : L + 1 ≠ I := off _ (.head _)
    have n2 : L + 2 ≠ I := off _ (.tail _ (.head _))
    have n3 : L + 3 ≠ I := off (L + 3, c3) (.tail _ (.tail _ (.head _)))
    refine wpAny_assign_Name (storeX_C F N (c := L + 1) rfl (UpdF.tail (Ne.symm n1) (UpdF.head fun p hp => ?_)) d1 (fun h' o' F' N' hd' => ?_))
    · rcases List.mem_cons.mp hp with rfl | hp
      · exact Ne.symm (ne12 L)
      · rcases List.mem_cons.mp hp with rfl | hp
        · exact Ne.symm (ne13 L)
        · exact (ap p hp).1
    have S' : LS h₀ L (some (.int (x + (i : Int) * c) t)) wh kv h' m ((I, it (x + ((i + 1 : Nat) : Int) * c) ((n : Int) - ((i + 1 : Nat) : Int)) c) :: objs) := by
      refine ⟨F', ⟨o', c2, c3, hd', d2, d3, fun p hp => N' p ?_⟩, fun p hp => ?_⟩
      · rcases List.mem_cons.mp hp with rfl | hp
        · exact .tail _ (.head _)
        · rcases List.mem_cons.mp hp with rfl | hp
          · exact .tail _ (.tail _ (.head _))
          · rcases List.mem_cons.mp hp with rfl | hp
            · exact .tail _ (.tail _ (.tail _ (.head _)))
            · rcases List.mem_cons.mp hp with rfl | hp
              · exact .head _
              · exact .tail _ (.tail _ (.tail _ (.tail _ hp)))
      · rcases List.mem_cons.mp hp with rfl | hp
        · exact ⟨Ne.symm n1, Ne.symm n2, Ne.symm n3⟩
        · exact ap p hp
    refine cMono (turn I i m objs h' tk t wh kv hi hJ (fun p hp => off p (.tail _ (.tail _ (.tail _ hp)))) S') (fun f s₃ q => ?_) fun _ _ e => e
    cases f with
    | next =>
      obtain ⟨h₃, tk₃, wv', wh', kv', m', objs', rfl, S₃, off', hJ'⟩ := q
      obtain ⟨F₃, ⟨e1, e2, e3, g1, g2, g3, N₃⟩, ap₃⟩ := S₃
      refine ⟨m', (L + 1, e1) :: (L + 2, e2) :: (L + 3, e3) :: objs', ⟨h₃, tk₃, rfl, F₃, fun p hp => N₃ p ?_⟩, fun p hp => ?_, ⟨e1, e2, e3, wv', wh', kv', objs', rfl, g1, g2, g3, fun p hp => ap₃ p (.tail _ hp), hJ'⟩⟩
      · rcases List.mem_cons.mp hp with rfl | hp
        · exact .tail _ (.tail _ (.tail _ (.head _)))
        · rcases List.mem_cons.mp hp with rfl | hp
          · exact .head _
          · rcases List.mem_cons.mp hp with rfl | hp
            · exact .tail _ (.head _)
            · rcases List.mem_cons.mp hp with rfl | hp
              · exact .tail _ (.tail _ (.head _))
              · exact .tail _ (.tail _ (.tail _ (.tail _ hp)))
      · rcases List.mem_cons.mp hp with rfl | hp
        · exact n1
        · rcases List.mem_cons.mp hp with rfl | hp
          · exact n2
          · rcases List.mem_cons.mp hp with rfl | hp
            · exact n3
            · exact off' p hp
    | ret v => exact q
    | brk => exact q.elim
    | cont => exact q.elim
  · rintro m _ h tk ⟨c1, c2, c3, wv, wh, kv, objs, rfl, d1, d2, d3, ap, hJ⟩ F N
    exact done m objs h tk wv wh kv hJ ⟨F, ⟨c1, c2, c3, d1, d2, d3, N⟩, ap⟩
end
end Mine

/- part LB -/
namespace Mine
open PyProof.Rows.LCg (NsObj lst Off3 Off1)
def lstObj (vs : List Value) (k : Nat) : Obj := { cls := .type "list", data := .seq vs.toArray k }
abbrev bInt (l : List UInt8) : List Int := l.map fun u => ((u.toNat : Nat) : Int)
/-- v is a list of objs that holds the ints of l -/
def BL (objs : List (Addr × Obj)) (v : Value) (l : List UInt8) : Prop := ∃ a vs k, v = .ref a ∧ (a, lstObj vs k) ∈ objs ∧ IntsAre vs (bInt l)
theorem BL.mono {objs objs' : List (Addr × Obj)} {v : Value} {l : List UInt8} (B : BL objs v l) (hs : ∀ p ∈ objs, p ∈ objs') : BL objs' v l := let ⟨a, vs, k, e, hm, hi⟩ := B; ⟨a, vs, k, e, hs _ hm, hi⟩
theorem BL.tail {objs : List (Addr × Obj)} {p : Addr × Obj} {v : Value} {l : List UInt8} (B : BL objs v l) : BL (p :: objs) v l := B.mono fun _ h => .tail _ h
theorem ints_range {l : List UInt8} : ∀ n ∈ bInt l, 0 ≤ n ∧ n < 256 := by
  intro n hn
  obtain ⟨u, _, rfl⟩ := List.mem_map.mp hn
  have := u.toNat_lt
  exact ⟨by omega, by omega⟩
theorem byteArr_ints (l : List UInt8) : byteArr (bInt l) = l.toArray := by
  unfold byteArr bInt
  rw [List.map_map]
  congr 1
  rw [show ((fun n : Int => n.toNat.toUInt8) ∘ fun u : UInt8 => ((u.toNat : Nat) : Int)) = id from ?_]
  · simp
  · funext u
    show ((u.toNat : Nat) : Int).toNat.toUInt8 = u
    simp
theorem isList_of {h : Heap} {a : Addr} {vs : List Value} {k : Nat} (e : h.get? a = some (lstObj vs k)) : h.IsList a vs.toArray := ⟨_, e, rfl, k, rfl⟩
theorem IntsAre.get {vs : List Value} {l : List UInt8} (hi : IntsAre vs (bInt l)) {i : Nat} (h : i < l.length) : ∃ t, vs[i]? = some (.int (((l.getD i 0).toNat : Nat) : Int) t) := by
  have hl : vs.length = l.length := by have := hi.length; simpa [bInt] using this
  obtain ⟨v, hv⟩ : ∃ v, vs[i]? = some v := ⟨vs[i], List.getElem?_eq_getElem (by omega)⟩
  obtain ⟨k, t, e, hk⟩ := IntsAre.at hi i v hv
  rw [hv, e]
  refine ⟨t, ?_⟩
  have : (bInt l)[i]? = some (((l.getD i 0).toNat : Nat) : Int) := by
    unfold bInt
    rw [List.getElem?_map, List.getElem?_eq_getElem h, Option.map_some, List.getD_eq_getElem?_getD, List.getElem?_eq_getElem h, Option.getD_some]
  rw [this] at hk
  rw [Option.some.inj hk]
section
variable {prog : Program} {w : World} {A : Around} {E : Value → Shared → Prop} {s : Shared} {h₀ h : Heap} {L a : Addr} {cd : Value} {m mg mb : Str → Option Value} {objs : List (Addr × Obj)} {wv wh kv : Option Value} {env : Env}
theorem ls_bytes {v : Value} {l : List UInt8} {Q : Value → Shared → Prop} (hh : A.handled = none) (S : LS h₀ L wv wh kv s.heap m objs) (B : BL objs v l) (hz : l.length ≤ 1000)
    (hQ : ∀ h' t k, LS h₀ L wv wh kv h' m objs → Q (.bytes l.toArray t) { s with heap := h', toks := k }) : wpAny (model prog w) A (call (.type "bytes") [v]) Q E s := by
  obtain ⟨x, vs, k, rfl, hm, hi⟩ := B
  have hl : vs.length = l.length := by have := hi.length; simpa [bInt] using this
  have hsz := sizeLine_eq
  refine call_bytes_ints (isList_of (S.get hm)) hi ints_range (by omega) hh fun h' t k hk => ?_
  rw [byteArr_ints]
  exact hQ h' t k (S.keeps hk)
/-- bytes(e) for a list e of the ledger -/
theorem ls_bytesOf {e : Expr} {p pos : Pos} {v : Value} {l : List UInt8} {Q : Value → Shared → Prop} (hh : A.handled = none) (G : G0 mg mb h₀) (S : LS h₀ L wv wh kv s.heap m objs) (he : EvV prog w A E (lwEnv L a cd) s.heap e v) (B : BL objs v l) (hz : l.length ≤ 1000)
    (hQ : ∀ h' t k, LS h₀ L wv wh kv h' m objs → Q (.bytes l.toArray t) { s with heap := h', toks := k })
    (hs : starEach [e] (lwEnv L a cd) = [(false, eval e (lwEnv L a cd))] := by rfl) : wpAny (model prog w) A (eval (.Call (.Name "bytes" p) [e] [] pos) (lwEnv L a cd)) Q E s :=
  callT1 (G.keeps S.fr.keep) G.nbytes G.vbytes (he.go fun tk => ls_bytes (s := { s with toks := tk }) hh S B hz hQ) hs
/-- len(e) for a list e of the ledger -/
theorem ls_len {e : Expr} {p pos : Pos} {v : Value} {l : List UInt8} (G : G0 mg mb h₀) (S : LS h₀ L wv wh kv h m objs) (he : EvV prog w A E env h e v) (B : BL objs v l) (hz : l.length ≤ 1000)
    (hs : starEach [e] env = [(false, eval e env)] := by rfl)
    (hg : env.globals = mainGlobals := by rfl) (hb : env.builtins = builtinsNs := by rfl) (hk : env.scope.kind = .function := by rfl) (hx : env.kindOf "len" = some .globalImplicit := by rfl) :
    EvI prog w A E env h (.Call (.Name "len" p) [e] [] pos) l.length := by
  obtain ⟨x, vs, k, rfl, hm, hi⟩ := B
  have hl : vs.length = l.length := by have := hi.length; simpa [bInt] using this
  rw [← hl]
  exact evLenL (G.keeps S.fr.keep) he (isList_of (S.get hm)) (by omega) hs hg hb hk hx
/-- e[i] for a list e of the ledger -/
theorem ls_item {o e : Expr} {pos : Pos} {v : Value} {l : List UInt8} {i : Int} (he : EvV prog w A E env h o v) (hi' : EvI prog w A E env h e i) (N : ∀ p ∈ objs, h.get? p.1 = some p.2) (B : BL objs v l) (hz : l.length ≤ 1000) (h0 : 0 ≤ i) (h1 : i < l.length)
    (hs : ∀ r u, subscripted e false (.ref r) (.int i u) = operate [.ref r, .int i u] (getItem (.ref r) (.int i u)) := by intro _ _; with_unfolding_all rfl)
    (ht : ∀ r' r, letTemporaryGo o (.ref r') r = pure () := by intro _ _; with_unfolding_all rfl) :
    EvI prog w A E env h (.Subscript o e pos) (((l.getD i.toNat 0).toNat : Nat) : Int) := by
  obtain ⟨x, vs, k, rfl, hm, hi⟩ := B
  obtain ⟨t, ht'⟩ := IntsAre.get hi (i := i.toNat) (by omega)
  exact (evItem he hi' (isList_of (N _ hm)) h0 (by omega) ht' (hs x) (ht x)).int
end
end Mine

/- part LD -/
namespace Mine
open PyProof.Rows.LCg (NsObj lst Off3 Off1)
/-- what the law's body stands on -/
structure LX (A₀ A : Around) (base h₀ : Heap) (L a : Addr) (cd : Value) (mg mb : Str → Option Value) (fb fr : Addr) (cdb cdr : Value) (KF : Frag) (p : Program) (loose : List Str) (mean : ExcName → Option Value) : Prop where
  B : Below A₀ base [] h₀
  fs : A.frames = some [lwEnv L a cd]
  G : G0 mg mb h₀
  Db : DefAt mg h₀ bsD fb cdb
  Dr : DefAt mg h₀ rfD fr cdr
  KB : KF.In base
  TB : Top p loose mean mg mb base
  ex : nsIn KF mainGlobals "IndexError" = some none
  room : A.depth + 1 < recursionLimit
  hh : A.handled = none
section
variable {prog : Program} {w : World} {A₀ A : Around} {E : Value → Shared → Prop} {s : Shared} {base h₀ h : Heap} {L a fb fr : Addr} {cd cdb cdr : Value} {m mg mb : Str → Option Value} {objs : List (Addr × Obj)} {wv wh kv : Option Value}
  {KF : Frag} {p : Program} {loose : List Str} {mean : ExcName → Option Value}
theorem ls_swap {e : Expr} {p1 p2 p3 p4 pos : Pos} {v : Value} {l : List UInt8} {wd : Nat} {u : Tok} {Q : Value → Shared → Prop} (X : LX A₀ A base h₀ L a cd mg mb fb fr cdb cdr KF p loose mean) (S : LS h₀ L wv wh kv s.heap m objs) (hw : wv = some (.int (wd : Int) u))
    (he : EvV prog w A E (lwEnv L a cd) s.heap e v) (B : BL objs v l) (hz : l.length ≤ 1000) (h1 : 1 ≤ wd) (h5 : wd ≤ 5) (hm : l.length % wd = 0)
    (hQ : ∀ h' tk t', LS h₀ L wv wh kv h' m objs → Q (.bytes (cAt l wd l.length) t') { s with heap := h', toks := tk })
    (hs : starEach [e] (lwEnv L a cd) = [(false, eval e (lwEnv L a cd))] := by rfl) :
    wpC (model prog w) A (eval (.Call (.Name "_byteswap" p1) [.Call (.Name "bytes" p2) [e] [] p3, .Name "width" p4] [] pos) (lwEnv L a cd)) Q E s := by
  refine cCallName (name_g (X.G.keeps S.fr.keep) X.Db.named ?_)
  refine cCallWithFunction (o := X.Db.obj.choose) (evalArgs_plain (args_cons (ls_bytesOf X.hh X.G S he B hz (fun h' t k S' => args_cons (EvV.go (S'.evWv hw) fun tk => args_nil ⟨⟨S'.fr.keep _ _ X.Db.obj.choose_spec.choose_spec.choose_spec.1, X.Db.obj.choose_spec.choose_spec.choose_spec.2⟩, ?_⟩)) hs)))
  obtain ⟨F, ⟨c1, c2, c3, d1, d2, d3, N⟩, ap⟩ := S'
  refine cCall (bs_call (b := l) (wd := wd) X.B F N X.G X.fs rfl rfl X.Db (Nat.lt_of_succ_lt X.room) X.hh hz h1 h5 ?_ fun hne => absurd hm hne)
  intro _ h₂ tk₂ t' F₂ N₂
  exact hQ h₂ tk₂ t' ⟨F₂, ⟨c1, c2, c3, d1, d2, d3, N₂⟩, ap⟩
theorem ls_refused {e : Expr} {p1 p2 p3 p4 pos : Pos} {v : Value} {l : List UInt8} {wd : Nat} {u : Tok} {Q : Value → Shared → Prop} (X : LX A₀ A base h₀ L a cd mg mb fb fr cdb cdr KF p loose mean) (S : LS h₀ L wv wh kv s.heap m objs) (hw : wv = some (.int (wd : Int) u))
    (he : EvV prog w A E (lwEnv L a cd) s.heap e v) (B : BL objs v l) (hz : l.length ≤ 1000) (h1 : 1 ≤ wd) (h5 : wd ≤ 5)
    (hQ : ∀ h' tk, LS h₀ L wv wh kv h' m objs → Q (.bool (decide (l.length % wd ≠ 0))) { s with heap := h', toks := tk })
    (hs : starEach [e] (lwEnv L a cd) = [(false, eval e (lwEnv L a cd))] := by rfl) :
    wpC (model prog w) A (eval (.Call (.Name "_law_refused" p1) [.Call (.Name "bytes" p2) [e] [] p3, .Name "width" p4] [] pos) (lwEnv L a cd)) Q E s := by
  refine cCallName (name_g (X.G.keeps S.fr.keep) X.Dr.named ?_)
  refine cCallWithFunction (o := X.Dr.obj.choose) (evalArgs_plain (args_cons (ls_bytesOf X.hh X.G S he B hz (fun h' t k S' => args_cons (EvV.go (S'.evWv hw) fun tk => args_nil ⟨⟨S'.fr.keep _ _ X.Dr.obj.choose_spec.choose_spec.choose_spec.1, X.Dr.obj.choose_spec.choose_spec.choose_spec.2⟩, ?_⟩)) hs)))
  obtain ⟨F, ⟨c1, c2, c3, d1, d2, d3, N⟩, ap⟩ := S'
  refine cCall (rf_call (b := l) (wd := wd) (mg := mg) (mb := mb) X.B F N X.G X.fs rfl rfl X.Dr X.Db X.KB X.TB X.ex X.room X.hh hz h1 h5 ?_)
  intro h₂ tk₂ F₂ N₂
  exact hQ h₂ tk₂ ⟨F₂, ⟨c1, c2, c3, d1, d2, d3, N₂⟩, ap⟩
theorem ls_add {v₁ v₂ : Value} {l₁ l₂ : List UInt8} {Q : Value → Shared → Prop} (S : LS h₀ L wv wh kv s.heap m objs) (B₁ : BL objs v₁ l₁) (B₂ : BL objs v₂ l₂) (hz : l₁.length + l₂.length ≤ 2000)
    (hQ : ∀ h' r vs k, LS h₀ L wv wh kv h' m ((r, lstObj vs k) :: objs) → IntsAre vs (bInt (l₁ ++ l₂)) → Q (.ref r) { s with heap := h' }) : wpAny (model prog w) A (binaryOp .Add v₁ v₂) Q E s := by
  obtain ⟨x₁, vs₁, k₁, rfl, hm₁, hi₁⟩ := B₁
  obtain ⟨x₂, vs₂, k₂, rfl, hm₂, hi₂⟩ := B₂
  have e₁ : vs₁.length = l₁.length := by have := hi₁.length; simpa [bInt] using this
  have e₂ : vs₂.length = l₂.length := by have := hi₂.length; simpa [bInt] using this
  have hsz := sizeLine_eq
  have g₁ := S.get hm₁
  have g₂ := S.get hm₂
  have hlt := S.lt
  obtain ⟨F, ⟨c1, c2, c3, d1, d2, d3, N⟩, ap⟩ := S
  refine add_arrays F N (isList_of g₁) (isList_of g₂) (fun h' F' N' => ?_) (by simp; omega)
  refine hQ h' _ (vs₁ ++ vs₂) 0 ⟨F', ⟨c1, c2, c3, d1, d2, d3, fun p hp => N' p ?_⟩, fun p hp => ?_⟩ (by unfold bInt at *; rw [List.map_append]; exact hi₁.append hi₂)
  · rcases List.mem_cons.mp hp with rfl | hp
    · exact .tail _ (.head _)
    · rcases List.mem_cons.mp hp with rfl | hp
      · exact .tail _ (.tail _ (.head _))
      · rcases List.mem_cons.mp hp with rfl | hp
        · exact .tail _ (.tail _ (.tail _ (.head _)))
        · rcases List.mem_cons.mp hp with rfl | hp
          · simp only [List.toList_toArray]
            exact .head _
          · exact .tail _ (.tail _ (.tail _ (.tail _ hp)))
  · rcases List.mem_cons.mp hp with rfl | hp
    · have h1 : L + 1 < s.heap.objs.size := Nat.lt_trans (Nat.add_lt_add_left (by decide) L) hlt
      have h2 : L + 2 < s.heap.objs.size := Nat.lt_trans (Nat.add_lt_add_left (by decide) L) hlt
      exact ⟨Nat.ne_of_gt h1, Nat.ne_of_gt h2, Nat.ne_of_gt hlt⟩
    · exact ap p hp
theorem ls_list0 {pos : Pos} {Q : Value → Shared → Prop} {env : Env} (S : LS h₀ L wv wh kv s.heap m objs)
    (hQ : ∀ h' r, LS h₀ L wv wh kv h' m ((r, lstObj [] 0) :: objs) → Q (.ref r) { s with heap := h' }) : wpAny (model prog w) A (eval (.List [] pos) env) Q E s :=
  List_ (args_nil (wpAny_newObj_type (hQ _ _ (S.push _)) (Nat.zero_le _)))
end
end Mine

/- part LE -/
namespace Mine
open PyProof.Rows.LCg (NsObj lst Off3 Off1)
section
variable {prog : Program} {w : World} {A : Around} {E : Value → Shared → Prop} {s : Shared} {h₀ : Heap} {L a : Addr} {cd : Value} {m : Str → Option Value} {objs : List (Addr × Obj)} {wv wh kv : Option Value}
theorem bInt_take {l : List UInt8} {i : Nat} {ys : List Value} {t : Tok} (hi : i < l.length) (h : IntsAre ys (bInt (l.take i))) : IntsAre (ys ++ [.int (((l.getD i 0).toNat : Nat) : Int) t]) (bInt (l.take (i + 1))) := by
  rw [List.take_add_one, List.getElem?_eq_getElem hi]
  unfold bInt at *
  rw [List.map_append]
  refine h.append ?_
  rw [List.getD_eq_getElem?_getD, List.getElem?_eq_getElem hi]
  exact .cons _ t .nil
theorem compTurn {elt : Expr} {x : Str} {scope : Scope} {cl : List (Str × Addr)} {b c : Int} {n : Nat} {c1 c2 c3 : Obj} {l : List UInt8} (hl : l.length = n) (d1 : c1.data = .cell wv) (d2 : c2.data = .cell wh) (d3 : c3.data = .cell kv) (ap : ∀ p ∈ objs, p.1 ≠ L + 1 ∧ p.1 ≠ L + 2 ∧ p.1 ≠ L + 3)
    (turn : ∀ i t h C m₂ (E' : Value → Shared → Prop), i < n → LS h₀ L wv wh kv h m objs → h.Ns C m₂ → m₂ x = some (.int (b + (i : Int) * c) t) → EvI prog w A E' (compEnvC scope cl C (lwEnv L a cd)) h elt (((l.getD i 0).toNat : Nat) : Int)) :
    Turn prog w A h₀ L m (lwEnv L a cd) elt x scope cl s b c n (fun i ys news => news = (L + 1, c1) :: (L + 2, c2) :: (L + 3, c3) :: objs ∧ IntsAre ys (bInt (l.take i))) := by
  rintro i t ys _ I oI C oC D m₂ h tk E' hi ⟨rfl, hI⟩ hC hx F N off ne
  have S : LS h₀ L wv wh kv h m objs := ⟨F, ⟨c1, c2, c3, d1, d2, d3, fun p hp => N p (.tail _ (.tail _ (.tail _ hp)))⟩, ap⟩
  refine EvI.go (turn i t h C m₂ E' hi S (hC.ns (N _ (.tail _ (.head _))).1) hx) fun t' tk' => ?_
  exact ⟨h, tk', _, rfl, F, N, off, rfl, bInt_take (by omega) hI⟩
theorem made_LS {c1 c2 c3 : Obj} {D : Addr} {ys : List Value} {h : Heap} (d1 : c1.data = .cell wv) (d2 : c2.data = .cell wh) (d3 : c3.data = .cell kv) (ap : ∀ p ∈ objs, p.1 ≠ L + 1 ∧ p.1 ≠ L + 2 ∧ p.1 ≠ L + 3) (F : Fr h₀ L h m)
    (N : News h₀ L h ((D, lst ys) :: (L + 1, c1) :: (L + 2, c2) :: (L + 3, c3) :: objs)) (o1 : Off1 D ((L + 1, c1) :: (L + 2, c2) :: (L + 3, c3) :: objs)) : LS h₀ L wv wh kv h m ((D, lstObj ys ys.length) :: objs) := by
  refine ⟨F, ⟨c1, c2, c3, d1, d2, d3, fun p hp => N p ?_⟩, fun p hp => ?_⟩
  · rcases List.mem_cons.mp hp with rfl | hp
    · exact .tail _ (.head _)
    · rcases List.mem_cons.mp hp with rfl | hp
      · exact .tail _ (.tail _ (.head _))
      · rcases List.mem_cons.mp hp with rfl | hp
        · exact .tail _ (.tail _ (.tail _ (.head _)))
        · rcases List.mem_cons.mp hp with rfl | hp
          · exact .head _
          · exact .tail _ (.tail _ (.tail _ (.tail _ hp)))
  · rcases List.mem_cons.mp hp with rfl | hp
    · exact ⟨Ne.symm o1.1, Ne.symm o1.2.1, Ne.symm o1.2.2.1⟩
    · exact ap p hp
theorem ls_compInt {elt iter : Expr} {x : Str} {px : Pos} {scope : Scope} {cl : List (Str × Addr)} {pos : Pos} {b c b' : Int} {n : Nat} {Q : Value → Shared → Prop} (hh : A.handled = none) (S : LS h₀ L wv wh kv s.heap m objs)
    (hr : EvR prog w A E (lwEnv L a cd) s.heap iter b b' c) (hsm : Builtin.Range.small b b' c = true) (hn : Builtin.Range.rangeSize b b' c = (n : Int)) (hsz : n ≤ 1000) (l : List UInt8) (hl : l.length = n)
    (turn : ∀ i t h C m₂ (E' : Value → Shared → Prop), i < n → LS h₀ L wv wh kv h m objs → h.Ns C m₂ → m₂ x = some (.int (b + (i : Int) * c) t) → EvI prog w A E' (compEnvC scope cl C (lwEnv L a cd)) h elt (((l.getD i 0).toNat : Nat) : Int))
    (fin : ∀ h' tk r vs k, LS h₀ L wv wh kv h' m ((r, lstObj vs k) :: objs) → IntsAre vs (bInt l) → Q (.ref r) { s with heap := h', toks := tk })
    (hclos : closureFor scope (lwEnv L a cd) = pure cl) (hcell : ∀ y ∈ scope.names, y.2 ≠ .cell) (hkind : scope.kind = .function)
    (hnames : ∀ y ∈ scope.names, y.2 = .local → scope.names.lookup y.1 = some .local) (hx : scope.names.lookup x = some .local)
    (hs : ∀ x, foldedSetIterable iter (lwEnv L a cd) x = pure x := by intro _; rfl) :
    wpAny (model prog w) A (eval (.ListComp elt [⟨.Name x px, iter, [], 0⟩] scope pos) (lwEnv L a cd)) Q E s := by
  have hsz' := sizeLine_eq
  obtain ⟨F, ⟨c1, c2, c3, d1, d2, d3, N⟩, ap⟩ := S
  refine lcEval hh F N hr hsm hn (by omega) _ ⟨rfl, by simp only [List.take_zero]; exact .nil⟩ (compTurn hl d1 d2 d3 ap turn) ?_ hclos hcell hkind hnames hx hs
  rintro ys _ D h tk ⟨rfl, hI⟩ F' N' o1
  rw [← hl, List.take_length] at hI
  exact fin h tk D ys _ (made_LS d1 d2 d3 ap F' N' o1) hI
theorem ls_compIntA {elt iter : Expr} {x y : Str} {px py : Pos} {scope : Scope} {cl : List (Str × Addr)} {pos spos : Pos} {b c b' : Int} {n : Nat} {Q : Flow → Shared → Prop} (hh : A.handled = none) (S : LS h₀ L wv wh kv s.heap m objs)
    (hr : EvR prog w A E (lwEnv L a cd) s.heap iter b b' c) (hsm : Builtin.Range.small b b' c = true) (hn : Builtin.Range.rangeSize b b' c = (n : Int)) (hsz : n ≤ 1000) (l : List UInt8) (hl : l.length = n)
    (turn : ∀ i t h C m₂ (E' : Value → Shared → Prop), i < n → LS h₀ L wv wh kv h m objs → h.Ns C m₂ → m₂ x = some (.int (b + (i : Int) * c) t) → EvI prog w A E' (compEnvC scope cl C (lwEnv L a cd)) h elt (((l.getD i 0).toNat : Nat) : Int))
    (fin : ∀ h' tk r vs k, LS h₀ L wv wh kv h' (fun z => if z = y then some (.ref r) else m z) ((r, lstObj vs k) :: objs) → IntsAre vs (bInt l) → Q .next { s with heap := h', toks := tk })
    (hsw : swapsWith (.ListComp elt [⟨.Name x px, iter, [], 0⟩] scope pos) (some (.Name y py)) spos.line (lwEnv L a cd) = pure true)
    (hclos : closureFor scope (lwEnv L a cd) = pure cl) (hcell : ∀ y ∈ scope.names, y.2 ≠ .cell) (hkind : scope.kind = .function)
    (hnames : ∀ y ∈ scope.names, y.2 = .local → scope.names.lookup y.1 = some .local) (hx : scope.names.lookup x = some .local) (hy : (lwEnv L a cd).kindOf y = some .local)
    (hs : ∀ x, foldedSetIterable iter (lwEnv L a cd) x = pure x := by intro _; rfl) :
    wpAny (model prog w) A (exec (.Assign [.Name y py] (.ListComp elt [⟨.Name x px, iter, [], 0⟩] scope pos) spos) (lwEnv L a cd)) Q E s := by
  have hsz' := sizeLine_eq
  obtain ⟨F, ⟨c1, c2, c3, d1, d2, d3, N⟩, ap⟩ := S
  refine lcAssign hh F N hr hsm hn (by omega) _ ⟨rfl, by simp only [List.take_zero]; exact .nil⟩ (compTurn hl d1 d2 d3 ap turn) ?_ hsw hclos hcell hkind hnames hx hy (by rfl) hs
  rintro ys _ D h tk ⟨rfl, hI⟩ F' N' o1
  rw [← hl, List.take_length] at hI
  exact fin h tk D ys _ (made_LS d1 d2 d3 ap F' N' o1) hI
end
end Mine

/- part PL -/
namespace Mine
def sg (wd p : Nat) : Nat := p / wd * wd + (wd - 1 - p % wd)
theorem sg_div {wd p : Nat} (h : 0 < wd) : sg wd p / wd = p / wd := by
  have := Nat.mod_lt p h
  unfold sg
  rw [Nat.mul_comm (p / wd) wd, Nat.mul_add_div h, Nat.div_eq_of_lt (show wd - 1 - p % wd < wd by omega), Nat.add_zero]
theorem sg_mod {wd p : Nat} (h : 0 < wd) : sg wd p % wd = wd - 1 - p % wd := by
  have := Nat.mod_lt p h
  unfold sg
  rw [Nat.mul_comm, Nat.mul_add_mod]
  exact Nat.mod_eq_of_lt (by omega)
theorem sg_sg {wd p : Nat} (h : 0 < wd) : sg wd (sg wd p) = p := by
  have h1 := Nat.mod_lt p h
  have h2 := Nat.div_add_mod p wd
  rw [Nat.mul_comm] at h2
  show sg wd p / wd * wd + (wd - 1 - sg wd p % wd) = p
  rw [sg_div h, sg_mod h]
  omega
theorem div_lt_of {p n wd : Nat} (h : 0 < wd) (hp : p < n * wd) : p / wd < n := (Nat.div_lt_iff_lt_mul h).mpr hp
theorem at_lt {q n wd r : Nat} (hq : q < n) (hr : r < wd) : q * wd + r < n * wd := by
  have : (q + 1) * wd ≤ n * wd := Nat.mul_le_mul_right _ hq
  rw [Nat.add_mul, Nat.one_mul] at this
  omega
theorem sg_lt {wd p n : Nat} (h : 0 < wd) (hp : p < n * wd) : sg wd p < n * wd := at_lt (div_lt_of h hp) (by have := Nat.mod_lt p h; omega)
theorem cAt_inv {l : List UInt8} {wd : Nat} (h : 0 < wd) : ∀ k p, p < l.length → (cAt l wd k)[p]? = some (if sg wd p < k then l.getD (sg wd p) 0 else 0)
  | 0, p, hp => by
    rw [cAt_zero, if_neg (Nat.not_lt_zero _)]
    simp [hp]
  | k + 1, p, hp => by
    have ih := cAt_inv h k p hp
    have hs := cAt_size l wd k
    have hm := Nat.mod_lt k h
    have e : k / wd * wd + wd - 1 - k % wd = sg wd k := by unfold sg; omega
    rw [cAt_succ]
    unfold stB
    rw [Array.getElem?_setIfInBounds, e]
    by_cases hk : sg wd k = p
    · have hk' : sg wd p = k := by rw [← hk, sg_sg h]
      rw [if_pos hk, if_pos (by rw [hs, hk]; exact hp), if_pos (by omega), hk']
    · have hk' : sg wd p ≠ k := fun q => hk (by rw [← q, sg_sg h])
      rw [if_neg hk, ih]
      congr 1
      by_cases hlt : sg wd p < k
      · rw [if_pos hlt, if_pos (by omega)]
      · rw [if_neg hlt, if_neg (by omega)]
theorem swap_at {l : List UInt8} {wd n p : Nat} (h : 0 < wd) (hl : l.length = n * wd) (hp : p < l.length) : (cAt l wd l.length).toList[p]? = l[sg wd p]? := by
  have hs : sg wd p < l.length := hl ▸ sg_lt h (hl ▸ hp)
  rw [Array.getElem?_toList, cAt_inv h _ p hp, if_pos hs, List.getD_eq_getElem?_getD, List.getElem?_eq_getElem hs]
  rfl
theorem swap_len (l : List UInt8) (wd k : Nat) : (cAt l wd k).toList.length = l.length := by rw [Array.length_toList, cAt_size]
theorem ext_at {a b : List UInt8} (hl : a.length = b.length) (h : ∀ p, p < a.length → a[p]? = b[p]?) : a = b := by
  refine List.ext_getElem? fun p => ?_
  by_cases hp : p < a.length
  · exact h p hp
  · rw [List.getElem?_eq_none (by omega), List.getElem?_eq_none (by omega)]
theorem flat_at {wd : Nat} (h : 0 < wd) {f : Nat → List UInt8} : ∀ i, (∀ q, q < i → (f q).length = wd) → ((List.range i).flatMap f).length = i * wd ∧ ∀ p, p < i * wd → ((List.range i).flatMap f)[p]? = (f (p / wd))[p % wd]?
  | 0, _ => ⟨by simp, fun p hp => by omega⟩
  | i + 1, hf => by
    obtain ⟨ih1, ih2⟩ := flat_at h i fun q hq => hf q (by omega)
    have e : (List.range (i + 1)).flatMap f = (List.range i).flatMap f ++ f i := by rw [List.range_succ, List.flatMap_append]; simp
    have hm : (i + 1) * wd = i * wd + wd := by rw [Nat.add_mul, Nat.one_mul]
    refine ⟨by rw [e, List.length_append, ih1, hf i (by omega), hm], fun p hp => ?_⟩
    rw [e]
    by_cases hlt : p < i * wd
    · rw [List.getElem?_append_left (by rw [ih1]; exact hlt)]
      exact ih2 p hlt
    · rw [List.getElem?_append_right (by rw [ih1]; omega), ih1]
      obtain ⟨r, rfl⟩ : ∃ r, p = i * wd + r := ⟨p - i * wd, by omega⟩
      have h1 : (i * wd + r) / wd = i := by rw [Nat.mul_comm i wd, Nat.mul_add_div h, Nat.div_eq_of_lt (by omega), Nat.add_zero]
      have h2 : (i * wd + r) % wd = r := by
        rw [Nat.mul_comm i wd, Nat.mul_add_mod]
        exact Nat.mod_eq_of_lt (by omega)
      rw [h1, h2, Nat.add_sub_cancel_left]
def dueTurn (l : List UInt8) (wd q : Nat) : List UInt8 := (List.range wd).map fun j => l.getD (q * wd + (wd - 1 - j)) 0
def dueAt (l : List UInt8) (wd i : Nat) : List UInt8 := (List.range i).flatMap (dueTurn l wd)
def grp (l : List UInt8) (wd q : Nat) : List UInt8 := (l.drop (q * wd)).take wd
def trnAt (l : List UInt8) (wd n i : Nat) : List UInt8 := (List.range i).flatMap fun q => grp l wd (n - 1 - q)
theorem dueAt_succ (l : List UInt8) (wd i : Nat) : dueAt l wd (i + 1) = dueAt l wd i ++ dueTurn l wd i := by unfold dueAt; rw [List.range_succ, List.flatMap_append]; simp
theorem trnAt_succ (l : List UInt8) (wd n i : Nat) : trnAt l wd n (i + 1) = trnAt l wd n i ++ grp l wd (n - 1 - i) := by unfold trnAt; rw [List.range_succ, List.flatMap_append]; simp
theorem dueTurn_len (l : List UInt8) (wd q : Nat) : (dueTurn l wd q).length = wd := by simp [dueTurn]
theorem grp_len {l : List UInt8} {wd n q : Nat} (hl : l.length = n * wd) (hq : q < n) : (grp l wd q).length = wd := by
  have : (q + 1) * wd ≤ n * wd := Nat.mul_le_mul_right _ hq
  rw [Nat.add_mul, Nat.one_mul] at this
  unfold grp; rw [List.length_take, List.length_drop]; omega
theorem grp_at {l : List UInt8} {wd q r : Nat} (hr : r < wd) : (grp l wd q)[r]? = l[q * wd + r]? := by
  unfold grp; rw [List.getElem?_take, if_pos hr, List.getElem?_drop]
theorem due_len {l : List UInt8} {wd i : Nat} (h : 0 < wd) : (dueAt l wd i).length = i * wd := (flat_at h i fun q _ => dueTurn_len l wd q).1
theorem trn_len {l : List UInt8} {wd n i : Nat} (h : 0 < wd) (hl : l.length = n * wd) (hi : i ≤ n) : (trnAt l wd n i).length = i * wd := (flat_at h i fun q hq => grp_len hl (by omega)).1
theorem due_at {l : List UInt8} {wd n p : Nat} (h : 0 < wd) (hl : l.length = n * wd) (hp : p < n * wd) : (dueAt l wd n)[p]? = l[sg wd p]? := by
  have hm := Nat.mod_lt p h
  have hs : sg wd p < l.length := hl ▸ sg_lt h hp
  unfold dueAt
  rw [(flat_at h n fun q _ => dueTurn_len l wd q).2 p hp]
  unfold dueTurn
  rw [List.getElem?_map, List.getElem?_range hm, Option.map_some, List.getD_eq_getElem?_getD]
  show some ((l[sg wd p]?).getD 0) = _
  rw [List.getElem?_eq_getElem hs]
  rfl
theorem plain_due {l : List UInt8} {wd n : Nat} (h : 0 < wd) (hl : l.length = n * wd) : (cAt l wd l.length).toList = dueAt l wd n := by
  refine ext_at (by rw [swap_len, due_len h, hl]) fun p hp => ?_
  rw [swap_len] at hp
  rw [swap_at h hl hp, due_at h hl (hl ▸ hp)]
theorem plain_back {l : List UInt8} {wd n : Nat} (h : 0 < wd) (hl : l.length = n * wd) : (cAt (dueAt l wd n) wd (dueAt l wd n).length).toList = l := by
  have hd : (dueAt l wd n).length = n * wd := due_len h
  refine ext_at (by rw [swap_len, hd, hl]) fun p hp => ?_
  rw [swap_len] at hp
  rw [swap_at h hd hp, due_at h hl (sg_lt h (hd ▸ hp)), sg_sg h]
theorem plain_turned {l : List UInt8} {wd n : Nat} (h : 0 < wd) (hl : l.length = n * wd) : (cAt l.reverse wd l.reverse.length).toList = trnAt l wd n n := by
  have hr : l.reverse.length = n * wd := by rw [List.length_reverse, hl]
  refine ext_at (by rw [swap_len, hr, trn_len h hl (Nat.le_refl _)]) fun p hp => ?_
  rw [swap_len] at hp
  rw [hr] at hp
  have hm := Nat.mod_lt p h
  have hq := div_lt_of h hp
  have hs := sg_lt h hp
  rw [swap_at h hr (hr ▸ hp), List.getElem?_reverse (by rw [hl]; exact hs)]
  unfold trnAt
  rw [(flat_at h n fun q hq => grp_len (q := n - 1 - q) hl (by omega)).2 p hp, grp_at hm, hl]
  congr 1
  have h1 : (n - 1 - p / wd) * wd + (p / wd * wd + wd) = n * wd := by
    have e : p / wd * wd + wd = (p / wd + 1) * wd := by rw [Nat.add_mul, Nat.one_mul]
    rw [e, ← Nat.add_mul]; congr 1; omega
  unfold sg
  omega
end Mine

/- part S1 -/
namespace Mine
open PyProof.Rows.LCg (NsObj lst Off3 Off1)
def lwLoop : List Stmt := forBody (nthS lwBody 1)
section
variable {prog : Program} {w : World} {A₀ A : Around} {E : Value → Shared → Prop} {s : Shared} {base h₀ h : Heap} {L a fb fr : Addr} {cd cdb cdr : Value} {m mg mb : Str → Option Value} {objs : List (Addr × Obj)} {wv wh kv : Option Value}
  {KF : Frag} {p : Program} {loose : List Str} {mean : ExcName → Option Value}
theorem fdiv_mul (n wd : Nat) : (n : Int).fdiv (wd : Int) * (wd : Int) = ((n / wd * wd : Nat) : Int) := by
  rw [Int.fdiv_eq_ediv_of_nonneg _ (by omega)]
  push_cast
  rfl
theorem st_whole {b : List UInt8} {wd : Nat} {u : Tok} {vo : Value} {Q : Flow → Shared → Prop} (X : LX A₀ A base h₀ L a cd mg mb fb fr cdb cdr KF p loose mean) (S : LS h₀ L wv wh kv s.heap m objs) (hw : wv = some (.int (wd : Int) u)) (hm : m "octets" = some vo) (B : BL objs vo b)
    (hz : b.length ≤ 1000) (h1 : 1 ≤ wd) (h5 : wd ≤ 5)
    (hQ : ∀ h' tk r vs k, LS h₀ L wv (some (.ref r)) kv h' m ((r, lstObj vs k) :: objs) → IntsAre vs (bInt (b.take (b.length / wd * wd))) → Q .next { s with heap := h', toks := tk }) :
    wpAny (model prog w) A (exec (nthS lwLoop 0) (lwEnv L a cd)) Q E s := by
  have hle : b.length / wd * wd ≤ b.length := Nat.div_mul_le_self _ _
  have hd : b.length / wd ≤ b.length := Nat.div_le_self _ _
  have hsz := sizeLine_eq
  refine wpAny_Assign_Name (wpAny_Subscript_list_slice (EvV.go (evL S.fr hm) fun tk₁ => evalPart_none_step (evalPart_some_step (EvI.go (evMul (evDiv (ls_len (h := s.heap) X.G S (evL S.fr hm) B hz) (S.evW hw) (by omega) (by omega)) (S.evW hw) ?_ ?_) fun t tk => ?_))))
  · rw [Int.fdiv_eq_ediv_of_nonneg _ (by omega), ← Int.natCast_ediv]; exact Int.le_trans (by decide) (Int.natCast_nonneg _)
  · rw [Int.fdiv_eq_ediv_of_nonneg _ (by omega), ← Int.natCast_ediv]; exact Int.lt_of_le_of_lt (Int.ofNat_le.mpr (Nat.le_trans hd hz)) (by decide)
  obtain ⟨x, vs, k, rfl, hmem, hi⟩ := B
  have hl : vs.length = b.length := by have := hi.length; simpa [bInt] using this
  refine ⟨x, vs.toArray, none, some _, rfl, isList_of (S.get hmem), by simp; omega, .none, .int _ _, ?_⟩
  rw [fdiv_mul]
  have hs := slice_ints_upto hi (y := ((b.length / wd * wd : Nat) : Int)) (Int.natCast_nonneg _) (by rw [List.length_map]; exact Int.ofNat_le.mpr hle)
  have S₁ := (S.push { cls := .type "slice", data := .fields #[.none, .int ((b.length / wd * wd : Nat) : Int) t, .none] }).push (lstObj (slicePick vs.toArray none (some ((b.length / wd * wd : Nat) : Int)) none).toList 0)
  rw [Heap.size_push] at S₁
  have S₂ := S₁.sub (objs' := (s.heap.objs.size + 1, lstObj (slicePick vs.toArray none (some ((b.length / wd * wd : Nat) : Int)) none).toList 0) :: objs) (fun q hq => by
    rcases List.mem_cons.mp hq with rfl | hq
    · exact .head _
    · exact .tail _ (.tail _ hq))
  refine ls_whole (m := m) (wv := wv) (wh := wh) (kv := kv) (h₀ := h₀) (objs := (s.heap.objs.size + 1, lstObj (slicePick vs.toArray none (some ((b.length / wd * wd : Nat) : Int)) none).toList 0) :: objs) ?_ fun h' S' => ?_
  · exact S₂
  · refine hQ h' tk _ _ 0 S' ?_
    rw [show ((b.length / wd * wd : Nat) : Int).toNat = b.length / wd * wd by omega] at hs
    unfold bInt at *
    rw [List.map_take]
    exact hs
theorem st_due0 {Q : Flow → Shared → Prop} (S : LS h₀ L wv wh kv s.heap m objs)
    (hQ : ∀ h' tk r, LS h₀ L wv wh kv h' (fun y => if y = "due" then some (.ref r) else m y) ((r, lstObj [] 0) :: objs) → Q .next { s with heap := h', toks := tk }) :
    wpAny (model prog w) A (exec (nthS lwLoop 1) (lwEnv L a cd)) Q E s :=
  wpAny_Assign_Name (ls_list0 S fun h' r S' => ls_local (s := { s with heap := h' }) S' fun h'' S'' => hQ h'' _ r S'')
theorem st_turned0 {Q : Flow → Shared → Prop} (S : LS h₀ L wv wh kv s.heap m objs)
    (hQ : ∀ h' tk r, LS h₀ L wv wh kv h' (fun y => if y = "turned" then some (.ref r) else m y) ((r, lstObj [] 0) :: objs) → Q .next { s with heap := h', toks := tk }) :
    wpAny (model prog w) A (exec (nthS lwLoop 6) (lwEnv L a cd)) Q E s :=
  wpAny_Assign_Name (ls_list0 S fun h' r S' => ls_local (s := { s with heap := h' }) S' fun h'' S'' => hQ h'' _ r S'')
end
end Mine

/- part S2 -/
namespace Mine
open PyProof.Rows.LCg (NsObj lst Off3 Off1)
theorem mem_rot {α : Type} {p q r : α} {l : List α} : ∀ x ∈ p :: q :: r :: l, x ∈ q :: r :: p :: l := fun x hx => by
  rcases List.mem_cons.mp hx with rfl | hx
  · exact .tail _ (.tail _ (.head _))
  · rcases List.mem_cons.mp hx with rfl | hx
    · exact .head _
    · rcases List.mem_cons.mp hx with rfl | hx
      · exact .tail _ (.head _)
      · exact .tail _ (.tail _ (.tail _ hx))
theorem cnt_mul {n wd : Nat} (h : 0 < wd) : cnt (n * wd) wd = n := by
  unfold cnt
  rw [Nat.add_sub_assoc h, Nat.mul_comm n wd, Nat.mul_add_div h, Nat.div_eq_of_lt (by omega), Nat.add_zero]
section
variable {prog : Program} {w : World} {A₀ A : Around} {E : Value → Shared → Prop} {s : Shared} {base h₀ h : Heap} {L a fb fr : Addr} {cd cdb cdr : Value} {m mg mb : Str → Option Value} {objs : List (Addr × Obj)} {wv wh kv : Option Value}
  {KF : Frag} {p : Program} {loose : List Str} {mean : ExcName → Option Value}
theorem ne_it {I r : Addr} {x l c : Int} {vs : List Value} {k : Nat} (S : LS h₀ L wv wh kv h m objs) (h1 : (I, it x l c) ∈ objs) (h2 : (r, lstObj vs k) ∈ objs) : r ≠ I := fun e => by
  have z1 := S.get h1
  have z2 := S.get h2
  dsimp only at z1 z2
  rw [e] at z2
  have z3 := z1.symm.trans z2
  have z4 := congrArg (fun o : Option Obj => o.map (·.cls)) z3
  simp [it, lstObj] at z4
theorem st_due {l : List UInt8} {n wd : Nat} {u : Tok} {vw : Value} {r0 : Addr} {Q : Flow → Shared → Prop} (X : LX A₀ A base h₀ L a cd mg mb fb fr cdb cdr KF p loose mean) (hE : PassesOwn (model prog w) A (lwEnv L a cd) E) (S : LS h₀ L wv wh kv s.heap m objs) (hw : wv = some (.int (wd : Int) u)) (hwh : wh = some vw) (B : BL objs vw l)
    (hl : l.length = n * wd) (hz : l.length ≤ 1000) (h1 : 1 ≤ wd) (h5 : wd ≤ 5) (hd : m "due" = some (.ref r0)) (hr : (r0, lstObj [] 0) ∈ objs)
    (hQ : ∀ h' tk kv' m' objs', LS h₀ L wv wh kv' h' m' objs' → (∀ p ∈ objs, p ∈ objs') → (∃ vd, m' "due" = some vd ∧ BL objs' vd (dueAt l wd n)) → (∀ y : Str, y ≠ "due" → m' y = m y) → Q .next { s with heap := h', toks := tk }) :
    wpAny (model prog w) A (exec (nthS lwLoop 2) (lwEnv L a cd)) Q E s := by
  have hcn : cnt l.length wd = n := by rw [hl]; exact cnt_mul h1
  have hrs := rangeSize_cnt (n := l.length) h1
  rw [hcn] at hrs
  refine ls_forK (x := 0) (b := ((l.length : Nat) : Int)) (c := (wd : Int)) (n := n) hE X.hh S (evRange3 (X.G.keeps S.fr.keep) evK (ls_len X.G S (S.evH hwh) B hz) (S.evW hw) (by omega) (by omega)) (small_of h1 hz (by omega)) hrs
    (fun i m' objs' => (∀ p ∈ objs, p ∈ objs') ∧ (∃ vd, m' "due" = some vd ∧ BL objs' vd (dueAt l wd i)) ∧ (∀ y : Str, y ≠ "due" → m' y = m y))
    ⟨fun _ h => h, ⟨_, hd, r0, [], 0, rfl, hr, .nil⟩, fun _ _ => rfl⟩ ?_ ?_
  · rintro I i m' objs' h tk t hi ⟨hsub, ⟨vd, hvd, Bd⟩, hm'⟩ off S'
    have Bw' : BL ((I, it (0 + ((i + 1 : Nat) : Int) * (wd : Int)) ((n : Int) - ((i + 1 : Nat) : Int)) (wd : Int)) :: objs') vw l := (B.mono hsub).tail
    have hfit : i * wd + wd ≤ l.length := by
      have : (i + 1) * wd ≤ n * wd := Nat.mul_le_mul_right _ hi
      rw [Nat.add_mul, Nat.one_mul] at this
      omega
    have hdl : (dueAt l wd i).length = i * wd := due_len h1
    refine wpAny_execs_cons (wpAny_Assign_Name (wpAny_BinOp (EvV.go (evL S'.fr hvd) fun tk₁ => ?_)))
    refine ls_compInt (b := 0) (b' := (wd : Int)) (c := 1) (n := wd) (cl := [("width", L + 1), ("whole", L + 2), ("k", L + 3)]) X.hh S' (evRange1 (X.G.keeps S'.fr.keep) (S'.evW hw)) (small_one (by omega) (by omega) (by omega) (by omega)) (by rw [rangeSize_one]; split <;> omega) (by omega)
      (dueTurn l wd i) (dueTurn_len l wd i) ?_ ?_ (by with_unfolding_all rfl) (by decide) (by rfl) (by decide) (by rfl)
    · intro j t' h₂ C m₂ E' hj S₂ hn hx
      have hidx : (0 + (i : Int) * (wd : Int) + (wd : Int) - 1 - (0 + (j : Int) * 1)) = ((i * wd + (wd - 1 - j) : Nat) : Int) := by push_cast; omega
      have hv : (dueTurn l wd i).getD j 0 = l.getD (0 + (i : Int) * (wd : Int) + (wd : Int) - 1 - (0 + (j : Int) * 1)).toNat 0 := by
        rw [hidx, Int.toNat_natCast]
        unfold dueTurn
        rw [List.getD_eq_getElem?_getD, List.getElem?_map, List.getElem?_range hj]
        rfl
      rw [hv]
      exact ls_item (S₂.evH hwh) (evSub (evSub (evAdd (S₂.evK rfl) (S₂.evW hw)) evK) (evNi hn hx)) (fun q hq => S₂.get hq) Bw' hz (by rw [hidx]; exact Int.natCast_nonneg _) (by rw [hidx]; exact Int.ofNat_lt.mpr (by omega))
    · intro h₂ tk₂ r vs k S₂ hi₂
      refine ls_add (s := { s with heap := h₂, toks := tk₂ }) S₂ (Bd.mono fun q hq => .tail _ (.tail _ hq)) ⟨r, vs, k, rfl, .head _, hi₂⟩ (by rw [hdl, dueTurn_len]; omega) fun h₃ r₃ vs₃ k₃ S₃ hi₃ => ?_
      refine ls_local (s := { s with heap := h₃, toks := tk₂ }) S₃ fun h₄ S₄ => wpAny_execs_nil ?_
      have S₅ := S₄.sub (mem_rot (q := (r₃, lstObj vs₃ k₃)) (r := (r, lstObj vs k)))
      exact ⟨h₄, _, _, _, (r₃, lstObj vs₃ k₃) :: (r, lstObj vs k) :: objs', rfl, S₅, fun q hq => (by
        rcases List.mem_cons.mp hq with rfl | hq
        · exact ne_it S₅ (.head _) (.tail _ (.head _))
        · rcases List.mem_cons.mp hq with rfl | hq
          · exact ne_it S₅ (.head _) (.tail _ (.tail _ (.head _)))
          · exact off q hq), fun q hq => .tail _ (.tail _ (hsub q hq)), ⟨_, if_pos rfl, r₃, vs₃, k₃, rfl, .head _, by rw [dueAt_succ]; exact hi₃⟩, fun y hy => (if_neg hy).trans (hm' y hy)⟩
  · rintro m' objs' h tk kv' ⟨hsub, hd', hm'⟩ S'
    exact hQ h tk kv' m' objs' S' hsub hd' hm'
end
end Mine

/- part S3 -/
namespace Mine
section
variable {prog : Program} {w : World} {A₀ A : Around} {E : Value → Shared → Prop} {s : Shared} {base h₀ h : Heap} {L a fb fr : Addr} {cd cdb cdr : Value} {m mg mb : Str → Option Value} {objs : List (Addr × Obj)} {wv wh kv : Option Value}
  {KF : Frag} {p : Program} {loose : List Str} {mean : ExcName → Option Value}
theorem st_if1 {l : List UInt8} {n wd : Nat} {u : Tok} {vw vd : Value} {Q : Flow → Shared → Prop} (X : LX A₀ A base h₀ L a cd mg mb fb fr cdb cdr KF p loose mean) (S : LS h₀ L wv wh kv s.heap m objs) (hw : wv = some (.int (wd : Int) u)) (hwh : wh = some vw) (B : BL objs vw l)
    (hl : l.length = n * wd) (hz : l.length ≤ 1000) (h1 : 1 ≤ wd) (h5 : wd ≤ 5) (hd : m "due" = some vd) (Bd : BL objs vd (dueAt l wd n))
    (hQ : ∀ h' tk, LS h₀ L wv wh kv h' m objs → Q .next { s with heap := h', toks := tk }) :
    wpC (model prog w) A (exec (nthS lwLoop 3) (lwEnv L a cd)) Q E s := by
  have hdl : (dueAt l wd n).length = n * wd := due_len h1
  have e1 : ((cAt l wd l.length).toList != (dueAt l wd n).toArray.toList) = false := by rw [plain_due h1 hl]; simp
  have e2 : ((cAt (dueAt l wd n) wd (dueAt l wd n).length).toList != l.toArray.toList) = false := by rw [plain_back h1 hl]; simp
  refine cIf (cIsTrueOr (cIsTrueCompare1 (ls_swap X S hw (S.evH hwh) B hz h1 h5 (by rw [hl]; exact Nat.mul_mod_left _ _) fun h₁ k₁ t₁ S₁ => ?_)))
  refine ls_bytesOf X.hh X.G S₁ (evL S₁.fr hd) Bd (by omega) fun h₂ t₂ k₂ S₂ => PySem.W.ne_bytes ?_
  rw [e1]
  refine wpAny_truthy_bool ?_
  refine cIsTrueOr (s := { s with heap := h₂, toks := k₂ }) (cIsTrueCompare1 (ls_swap X S₂ hw (evL S₂.fr hd) Bd (by omega) h1 h5 (by rw [hdl]; exact Nat.mul_mod_left _ _) fun h₃ k₃ t₃ S₃ => ?_))
  refine ls_bytesOf X.hh X.G S₃ (S₃.evH hwh) B hz fun h₄ t₄ k₄ S₄ => PySem.W.ne_bytes ?_
  rw [e2]
  refine wpAny_truthy_bool ?_
  exact cIsTrueOrNil (s := { s with heap := h₄, toks := k₄ }) (cExecsNil (s := { s with heap := h₄, toks := k₄ }) (hQ h₄ k₄ S₄))
theorem st_if2 {l : List UInt8} {n wd : Nat} {u : Tok} {vb vt : Value} {Q : Flow → Shared → Prop} (X : LX A₀ A base h₀ L a cd mg mb fb fr cdb cdr KF p loose mean) (S : LS h₀ L wv wh kv s.heap m objs) (hw : wv = some (.int (wd : Int) u))
    (hl : l.length = n * wd) (hz : l.length ≤ 1000) (h1 : 1 ≤ wd) (h5 : wd ≤ 5) (hb : m "back" = some vb) (Bb : BL objs vb l.reverse) (ht : m "turned" = some vt) (Bt : BL objs vt (trnAt l wd n n))
    (hQ : ∀ h' tk, LS h₀ L wv wh kv h' m objs → Q .next { s with heap := h', toks := tk }) :
    wpC (model prog w) A (exec (nthS lwLoop 8) (lwEnv L a cd)) Q E s := by
  have htl : (trnAt l wd n n).length = n * wd := trn_len h1 hl (Nat.le_refl _)
  have hrl : l.reverse.length = n * wd := by rw [List.length_reverse, hl]
  have e1 : ((cAt l.reverse wd l.reverse.length).toList != (trnAt l wd n n).toArray.toList) = false := by rw [plain_turned h1 hl]; simp
  refine cIf (cIsTrueCompare1 (ls_swap X S hw (evL S.fr hb) Bb (by omega) h1 h5 (by rw [hrl]; exact Nat.mul_mod_left _ _) fun h₁ k₁ t₁ S₁ => ?_))
  refine ls_bytesOf X.hh X.G S₁ (evL S₁.fr ht) Bt (by omega) fun h₂ t₂ k₂ S₂ => PySem.W.ne_bytes ?_
  rw [e1]
  refine wpAny_truthy_bool ?_
  exact cExecsNil (s := { s with heap := h₂, toks := k₂ }) (hQ h₂ k₂ S₂)
theorem st_if3 {b : List UInt8} {wd : Nat} {u : Tok} {vo : Value} {Q : Flow → Shared → Prop} (X : LX A₀ A base h₀ L a cd mg mb fb fr cdb cdr KF p loose mean) (S : LS h₀ L wv wh kv s.heap m objs) (hw : wv = some (.int (wd : Int) u))
    (hz : b.length ≤ 1000) (h1 : 1 ≤ wd) (h5 : wd ≤ 5) (ho : m "octets" = some vo) (B : BL objs vo b)
    (hQ : ∀ h' tk, LS h₀ L wv wh kv h' m objs → Q .next { s with heap := h', toks := tk }) :
    wpC (model prog w) A (exec (nthS lwLoop 9) (lwEnv L a cd)) Q E s := by
  have e1 : (!(Value.bool (decide (b.length % wd ≠ 0)) == Value.bool ((b.length : Int).fmod (wd : Int) != 0))) = false := by
    have e : ((b.length : Int).fmod (wd : Int) != 0) = decide (b.length % wd ≠ 0) := by
      rw [Int.fmod_eq_emod_of_nonneg _ (by omega), ← Int.natCast_emod]
      by_cases hm : b.length % wd = 0
      · simp [hm]
      · simp [hm]; omega
    rw [e]; simp
  refine cIf (cIsTrueCompare1 (ls_refused X S hw (evL S.fr ho) B hz h1 h5 fun h₁ k₁ S₁ => ?_))
  refine wpAny_Compare1 (EvI.go (evMod (ls_len (h := h₁) X.G S₁ (evL S₁.fr ho) B hz) (S₁.evW hw) (by omega)) fun t₂ k₂ => EvI.go evK fun t₃ k₃ => PyProof.Rows.ne_int ?_)
  refine wpAny_isNot_plain (by rfl) ?_
  rw [e1]
  refine wpAny_truthy_bool ?_
  exact cExecsNil (s := { s with heap := h₁, toks := k₃ }) (hQ h₁ k₃ S₁)
end
end Mine

/- part S4 -/
namespace Mine
open PyProof.Rows.LCg (NsObj lst Off3 Off1)
/-- v is a list of objs whose items are lists, the groups of l -/
def GL (objs : List (Addr × Obj)) (v : Value) (l : List UInt8) (wd n : Nat) : Prop :=
  ∃ r gs k, v = .ref r ∧ (r, lstObj gs k) ∈ objs ∧ gs.length = n ∧ ∀ q, q < n → ∃ v, gs[q]? = some v ∧ BL objs v (grp l wd q)
theorem GL.mono {objs objs' : List (Addr × Obj)} {v : Value} {l : List UInt8} {wd n : Nat} (B : GL objs v l wd n) (hs : ∀ p ∈ objs, p ∈ objs') : GL objs' v l wd n :=
  let ⟨r, gs, k, e, hm, hl, hg⟩ := B
  ⟨r, gs, k, e, hs _ hm, hl, fun q hq => let ⟨v, h1, h2⟩ := hg q hq; ⟨v, h1, h2.mono hs⟩⟩
section
variable {prog : Program} {w : World} {A₀ A : Around} {E : Value → Shared → Prop} {s : Shared} {base h₀ h : Heap} {L a fb fr : Addr} {cd cdb cdr : Value} {m mg mb : Str → Option Value} {objs : List (Addr × Obj)} {wv wh kv : Option Value}
  {KF : Frag} {p : Program} {loose : List Str} {mean : ExcName → Option Value}
theorem st_back {l : List UInt8} {vw : Value} {Q : Flow → Shared → Prop} (X : LX A₀ A base h₀ L a cd mg mb fb fr cdb cdr KF p loose mean) (S : LS h₀ L wv wh kv s.heap m objs) (hwh : wh = some vw) (B : BL objs vw l) (hz : l.length ≤ 1000)
    (hQ : ∀ h' tk r vs k, LS h₀ L wv wh kv h' (fun y => if y = "back" then some (.ref r) else m y) ((r, lstObj vs k) :: objs) → IntsAre vs (bInt l.reverse) → Q .next { s with heap := h', toks := tk }) :
    wpAny (model prog w) A (exec (nthS lwLoop 4) (lwEnv L a cd)) Q E s := by
  refine ls_compIntA (b := 0) (b' := ((l.length : Nat) : Int)) (c := 1) (n := l.length) (cl := [("whole", L + 2)]) X.hh S (evRange1 (X.G.keeps S.fr.keep) (ls_len X.G S (S.evH hwh) B hz)) (small_one (by omega) (by omega) (by omega) (by omega)) (by rw [rangeSize_one]; split <;> omega) hz
    l.reverse (by rw [List.length_reverse]) ?_ hQ (by with_unfolding_all rfl) (by with_unfolding_all rfl) (by decide) (by rfl) (by decide) (by rfl) (by rfl)
  intro i t h₂ C m₂ E' hi S₂ hn hx
  have hidx : ((l.length : Nat) : Int) - 1 - (0 + (i : Int) * 1) = ((l.length - 1 - i : Nat) : Int) := by omega
  have hv : l.reverse.getD i 0 = l.getD (((l.length : Nat) : Int) - 1 - (0 + (i : Int) * 1)).toNat 0 := by
    rw [hidx, Int.toNat_natCast, List.getD_eq_getElem?_getD, List.getElem?_reverse hi, ← List.getD_eq_getElem?_getD]
  rw [hv]
  exact ls_item (S₂.evH hwh) (evSub (evSub (ls_len X.G S₂ (S₂.evH hwh) B hz) evK) (evNi hn hx)) (fun q hq => S₂.get hq) B hz (by rw [hidx]; exact Int.natCast_nonneg _) (by rw [hidx]; exact Int.ofNat_lt.mpr (by omega))

def GInv (L : Addr) (c1 c2 c3 : Obj) (objs : List (Addr × Obj)) (l : List UInt8) (wd i : Nat) (ys : List Value) (news : List (Addr × Obj)) : Prop :=
  ∃ ex, news = (L + 1, c1) :: (L + 2, c2) :: (L + 3, c3) :: (ex ++ objs) ∧ (∀ p ∈ ex, p.1 ≠ L + 1 ∧ p.1 ≠ L + 2 ∧ p.1 ≠ L + 3) ∧ ys.length = i ∧ ∀ q, q < i → ∃ v, ys[q]? = some v ∧ BL (ex ++ objs) v (grp l wd q)
theorem st_groups {l : List UInt8} {n wd : Nat} {u : Tok} {vw : Value} {Q : Flow → Shared → Prop} (X : LX A₀ A base h₀ L a cd mg mb fb fr cdb cdr KF p loose mean) (S : LS h₀ L wv wh kv s.heap m objs) (hw : wv = some (.int (wd : Int) u)) (hwh : wh = some vw) (B : BL objs vw l)
    (hl : l.length = n * wd) (hz : l.length ≤ 1000) (h1 : 1 ≤ wd) (h5 : wd ≤ 5)
    (hQ : ∀ h' tk r objs', LS h₀ L wv wh kv h' (fun y => if y = "groups" then some (.ref r) else m y) objs' → (∀ p ∈ objs, p ∈ objs') → GL objs' (.ref r) l wd n → Q .next { s with heap := h', toks := tk }) :
    wpAny (model prog w) A (exec (nthS lwLoop 5) (lwEnv L a cd)) Q E s := by
  have hcn : cnt l.length wd = n := by rw [hl]; exact cnt_mul h1
  have hrs := rangeSize_cnt (n := l.length) h1
  rw [hcn] at hrs
  have hsz := sizeLine_eq
  have hnl : n ≤ l.length := by rw [hl]; exact Nat.le_mul_of_pos_right _ h1
  have S₀ := S
  obtain ⟨F, ⟨c1, c2, c3, d1, d2, d3, N⟩, ap⟩ := S
  refine lcAssign (a := 0) (b := ((l.length : Nat) : Int)) (c := (wd : Int)) (n := n) (cl := [("width", L + 1), ("whole", L + 2)]) X.hh F N ?_ (small_of h1 hz (by omega)) hrs (by omega)
    (GInv L c1 c2 c3 objs l wd) ⟨[], rfl, fun p hp => (nomatch hp), rfl, fun q hq => absurd hq (Nat.not_lt_zero _)⟩ ?_ ?_ (by with_unfolding_all rfl) (by with_unfolding_all rfl) (by decide) (by rfl) (by decide) (by rfl) (by rfl) (by rfl)
  · exact evRange3 (X.G.keeps S₀.fr.keep) evK (ls_len X.G S₀ (S₀.evH hwh) B hz) (S₀.evW hw) (by omega) (by omega)
  · rintro i t ys _ I oI C oC D m₂ h tk E' hi ⟨ex, rfl, apx, hyl, hg⟩ hC hx F₁ N₁ off ne
    have S₁ : LS h₀ L wv wh kv h m (ex ++ objs) := ⟨F₁, ⟨c1, c2, c3, d1, d2, d3, fun p hp => N₁ p (.tail _ (.tail _ (.tail _ hp)))⟩, fun p hp => (List.mem_append.mp hp).elim (apx p) (ap p)⟩
    have hn := hC.ns (N₁ _ (.tail _ (.head _))).1
    have hfit : i * wd + wd ≤ l.length := by
      have : (i + 1) * wd ≤ n * wd := Nat.mul_le_mul_right _ hi
      rw [Nat.add_mul, Nat.one_mul] at this
      omega
    obtain ⟨x, vs, k, rfl, hmem, hvs⟩ := B
    have hvl : vs.length = l.length := by have := hvs.length; simpa [bInt] using this
    refine wpAny_Subscript_list_slice (EvV.go (S₁.evH hwh) fun tk₁ => evalPart_some_step (EvI.go (evNi hn hx) fun t₂ tk₂ => evalPart_some_step (EvI.go (evAdd (evNi hn hx) (S₁.evW hw)) fun t₃ tk₃ => ?_)))
    refine ⟨x, vs.toArray, some _, some _, rfl, isList_of (S₁.get (List.mem_append_right _ hmem)), by simp; omega, .int _ _, .int _ _, ?_⟩
    have hs := slice_ints hvs (x := 0 + (i : Int) * (wd : Int)) (y := 0 + (i : Int) * (wd : Int) + (wd : Int)) (by have := Int.natCast_nonneg (i * wd); push_cast at this; omega) (by omega) (by have := Int.ofNat_le.mpr hfit; unfold bInt; rw [List.length_map]; push_cast at this; omega)
    rw [show (0 + (i : Int) * (wd : Int)).toNat = i * wd by rw [Int.zero_add]; exact Int.toNat_natCast _, show (0 + (i : Int) * (wd : Int) + (wd : Int) - (0 + (i : Int) * (wd : Int))).toNat = wd by omega] at hs
    have hs' : IntsAre (slicePick vs.toArray (some (0 + (i : Int) * (wd : Int))) (some (0 + (i : Int) * (wd : Int) + (wd : Int))) none).toList (bInt (grp l wd i)) := by
      unfold grp bInt at *
      rw [List.map_take, List.map_drop]
      exact hs
    generalize hP : slicePick vs.toArray (some (0 + (i : Int) * (wd : Int))) (some (0 + (i : Int) * (wd : Int) + (wd : Int))) none = P at hs'
    have lt1 : ∀ {b : Addr} {o : Obj}, h.get? b = some o → h.objs.size + 1 ≠ b := fun e => Nat.ne_of_gt (Nat.lt_succ_of_lt (Heap.lt_size e))
    have hlt := S₁.lt
    have N₂ := News.push (F₁.push { cls := .type "slice", data := .fields #[.int (0 + (i : Int) * (wd : Int)) t₂, .int (0 + (i : Int) * (wd : Int) + (wd : Int)) t₃, .none] }) (N₁.grown fun _ _ e => Heap.get?_push_of_some _ e) (lstObj P.toList 0)
    rw [Heap.size_push] at N₂
    refine ⟨_, tk₃, (L + 1, c1) :: (L + 2, c2) :: (L + 3, c3) :: (((h.objs.size + 1, lstObj P.toList 0) :: ex) ++ objs), rfl, (F₁.push _).push _, ?_, ?_, (h.objs.size + 1, lstObj P.toList 0) :: ex, rfl, ?_, by rw [List.length_append, hyl]; rfl, ?_⟩
    · intro q hq
      refine N₂ q ?_
      simp only [List.cons_append, List.mem_cons] at hq ⊢
      rcases hq with e | e | e | e | e | e | e | e <;> simp only [e, true_or, or_true]
    · exact ⟨off.1, off.2.1, off.2.2.1, ⟨lt1 (N₁ _ (.head _)).1, lt1 (N₁ _ (.tail _ (.head _))).1, lt1 (N₁ _ (.tail _ (.tail _ (.head _)))).1⟩, off.2.2.2⟩
    · intro q hq
      rcases List.mem_cons.mp hq with rfl | hq
      · have h1 : L + 1 < h.objs.size := Nat.lt_trans (Nat.add_lt_add_left (by decide) L) hlt
        have h2 : L + 2 < h.objs.size := Nat.lt_trans (Nat.add_lt_add_left (by decide) L) hlt
        exact ⟨Nat.ne_of_gt (Nat.lt_succ_of_lt h1), Nat.ne_of_gt (Nat.lt_succ_of_lt h2), Nat.ne_of_gt (Nat.lt_succ_of_lt hlt)⟩
      · exact apx q hq
    · intro q hq
      by_cases hqi : q < i
      · obtain ⟨v, g1, g2⟩ := hg q hqi
        exact ⟨v, by rw [List.getElem?_append_left (by omega)]; exact g1, g2.tail⟩
      · obtain rfl : q = i := by omega
        refine ⟨.ref (h.objs.size + 1), ?_, h.objs.size + 1, P.toList, 0, rfl, .head _, hs'⟩
        rw [List.getElem?_append_right (by omega), hyl, Nat.sub_self]
        rfl
  · rintro ys _ D h tk ⟨ex, rfl, apx, hyl, hg⟩ F' N' o1
    have S' := made_LS (objs := ex ++ objs) d1 d2 d3 (fun p hp => (List.mem_append.mp hp).elim (apx p) (ap p)) F' N' o1
    refine hQ h tk D _ S' (fun p hp => .tail _ (List.mem_append_right _ hp)) ⟨D, ys, _, rfl, .head _, hyl, fun q hq => ?_⟩
    obtain ⟨v, h1, h2⟩ := hg q hq
    exact ⟨v, h1, h2.tail⟩
end
end Mine

/- part S5 -/
namespace Mine
open PyProof.Rows.LCg (NsObj lst Off3 Off1)
theorem mem_rot2 {α : Type} {p q : α} {l : List α} : ∀ x ∈ p :: q :: l, x ∈ q :: p :: l := fun x hx => by
  rcases List.mem_cons.mp hx with rfl | hx
  · exact .tail _ (.head _)
  · rcases List.mem_cons.mp hx with rfl | hx
    · exact .head _
    · exact .tail _ (.tail _ hx)
section
variable {prog : Program} {w : World} {A₀ A : Around} {E : Value → Shared → Prop} {s : Shared} {base h₀ h : Heap} {L a fb fr : Addr} {cd cdb cdr : Value} {m mg mb : Str → Option Value} {objs : List (Addr × Obj)} {wv wh kv : Option Value}
  {KF : Frag} {p : Program} {loose : List Str} {mean : ExcName → Option Value}
theorem gl_len {e : Expr} {p pos : Pos} {v : Value} {l : List UInt8} {wd n : Nat} {env : Env} (G : G0 mg mb h₀) (S : LS h₀ L wv wh kv h m objs) (he : EvV prog w A E env h e v) (B : GL objs v l wd n) (hz : n ≤ 1000)
    (hs : starEach [e] env = [(false, eval e env)] := by rfl)
    (hg : env.globals = mainGlobals := by rfl) (hb : env.builtins = builtinsNs := by rfl) (hk : env.scope.kind = .function := by rfl) (hx : env.kindOf "len" = some .globalImplicit := by rfl) :
    EvI prog w A E env h (.Call (.Name "len" p) [e] [] pos) n := by
  obtain ⟨r, gs, k, rfl, hm, hl, _⟩ := B
  rw [← hl]
  exact evLenL (G.keeps S.fr.keep) he (isList_of (S.get hm)) (by omega) hs hg hb hk hx
theorem st_turned {l : List UInt8} {n wd : Nat} {vg : Value} {r0 : Addr} {Q : Flow → Shared → Prop} (X : LX A₀ A base h₀ L a cd mg mb fb fr cdb cdr KF p loose mean) (hE : PassesOwn (model prog w) A (lwEnv L a cd) E) (S : LS h₀ L wv wh kv s.heap m objs) 
    (hg : m "groups" = some vg) (B : GL objs vg l wd n) (hl : l.length = n * wd) (hz : l.length ≤ 1000) (h1 : 1 ≤ wd) (hd : m "turned" = some (.ref r0)) (hr : (r0, lstObj [] 0) ∈ objs)
    (hQ : ∀ h' tk kv' m' objs', LS h₀ L wv wh kv' h' m' objs' → (∀ p ∈ objs, p ∈ objs') → (∃ vd, m' "turned" = some vd ∧ BL objs' vd (trnAt l wd n n)) → (∀ y : Str, y ≠ "turned" → m' y = m y) → Q .next { s with heap := h', toks := tk }) :
    wpAny (model prog w) A (exec (nthS lwLoop 7) (lwEnv L a cd)) Q E s := by
  have hnl : n ≤ l.length := by rw [hl]; exact Nat.le_mul_of_pos_right _ h1
  refine ls_forK (x := 0) (b := (n : Int)) (c := 1) (n := n) hE X.hh S (evRange1 (X.G.keeps S.fr.keep) (gl_len X.G S (evL S.fr hg) B (by omega))) (small_one (by omega) (by omega) (by omega) (by omega)) (by rw [rangeSize_one]; split <;> omega)
    (fun i m' objs' => (∀ p ∈ objs, p ∈ objs') ∧ (∃ vd, m' "turned" = some vd ∧ BL objs' vd (trnAt l wd n i)) ∧ (∀ y : Str, y ≠ "turned" → m' y = m y))
    ⟨fun _ h => h, ⟨_, hd, r0, [], 0, rfl, hr, .nil⟩, fun _ _ => rfl⟩ ?_ ?_
  · rintro I i m' objs' h tk t hi ⟨hsub, ⟨vd, hvd, Bd⟩, hm'⟩ off S'
    have B' : GL ((I, it (0 + ((i + 1 : Nat) : Int) * 1) ((n : Int) - ((i + 1 : Nat) : Int)) 1) :: objs') vg l wd n := B.mono fun q hq => .tail _ (hsub q hq)
    have hg' : m' "groups" = some vg := (hm' "groups" (by decide)).trans hg
    have hdl : (trnAt l wd n i).length = i * wd := trn_len h1 hl (by omega)
    have hfit : i * wd + wd ≤ l.length := by
      have : (i + 1) * wd ≤ n * wd := Nat.mul_le_mul_right _ hi
      rw [Nat.add_mul, Nat.one_mul] at this
      omega
    have B₂ := B'
    obtain ⟨rg, gs, kg, rfl, hmg, hgl, hgi⟩ := B'
    obtain ⟨vq, hq1, hq2⟩ := hgi (n - 1 - i) (by omega)
    have hidx : ((n : Int) - 1 - (0 + (i : Int) * 1)) = ((n - 1 - i : Nat) : Int) := by omega
    refine wpAny_execs_cons (wpAny_Assign_Name (wpAny_BinOp (EvV.go (evL S'.fr hvd) fun tk₁ => EvV.go (evItem (evL S'.fr hg') (evSub (evSub (gl_len X.G S' (evL S'.fr hg') B₂ (by omega)) evK) (S'.evK rfl)) (isList_of (S'.get hmg)) (by rw [hidx]; exact Int.natCast_nonneg _) (by rw [hidx]; omega) (by rw [hidx, Int.toNat_natCast]; exact hq1)) fun tk₂ => ?_)))
    refine ls_add (s := { s with heap := h, toks := tk₂ }) S' (Bd.mono fun q hq => .tail _ hq) hq2 (by rw [hdl, grp_len hl (by omega)]; omega) fun h₃ r₃ vs₃ k₃ S₃ hi₃ => ?_
    refine ls_local (s := { s with heap := h₃, toks := tk₂ }) S₃ fun h₄ S₄ => wpAny_execs_nil ?_
    have S₅ := S₄.sub (mem_rot2 (q := (r₃, lstObj vs₃ k₃)))
    exact ⟨h₄, _, _, _, (r₃, lstObj vs₃ k₃) :: objs', rfl, S₅, fun q hq => (by
      rcases List.mem_cons.mp hq with rfl | hq
      · exact ne_it S₅ (.head _) (.tail _ (.head _))
      · exact off q hq), fun q hq => .tail _ (hsub q hq), ⟨_, if_pos rfl, r₃, vs₃, k₃, rfl, .head _, by rw [trnAt_succ]; exact hi₃⟩, fun y hy => (if_neg hy).trans (hm' y hy)⟩
  · rintro m' objs' h tk kv' ⟨hsub, hd', hm'⟩ S'
    exact hQ h tk kv' m' objs' S' hsub hd' hm'
end
end Mine

/- part S6 -/
namespace Mine
section
variable {prog : Program} {w : World} {A₀ A : Around} {E : Value → Shared → Prop} {s : Shared} {base h₀ h : Heap} {L a fb fr : Addr} {cd cdb cdr : Value} {m mg mb : Str → Option Value} {objs : List (Addr × Obj)} {wv wh kv : Option Value}
  {KF : Frag} {p : Program} {loose : List Str} {mean : ExcName → Option Value}
theorem st_loop {b : List UInt8} {wd : Nat} {u : Tok} {vo : Value} {Q : Flow → Shared → Prop} (X : LX A₀ A base h₀ L a cd mg mb fb fr cdb cdr KF p loose mean) (hE : PassesOwn (model prog w) A (lwEnv L a cd) E) (S : LS h₀ L (some (.int (wd : Int) u)) wh kv s.heap m objs)
    (ho : m "octets" = some vo) (Bo : BL objs vo b) (hz : b.length ≤ 1000) (h1 : 1 ≤ wd) (h5 : wd ≤ 5)
    (hQ : ∀ h' tk wh' kv' m', LS h₀ L (some (.int (wd : Int) u)) wh' kv' h' m' objs → m' "octets" = some vo → Q .next { s with heap := h', toks := tk }) :
    wpC (model prog w) A (execs lwLoop (lwEnv L a cd)) Q E s := by
  have hle : b.length / wd * wd ≤ b.length := Nat.div_mul_le_self _ _
  have hl : (b.take (b.length / wd * wd)).length = b.length / wd * wd := by rw [List.length_take]; omega
  generalize hgl : b.take (b.length / wd * wd) = l at hl
  generalize hgn : b.length / wd = n at hl hle
  have hlz : l.length ≤ 1000 := by omega
  refine cExecsCons (cOf (st_whole X S rfl ho Bo hz h1 h5 fun g1 k1 rw vsw kw S1 hi1 => ?_))
  rw [hgn, ← hgn, hgl] at hi1
  have Bw1 : BL ((rw, lstObj vsw kw) :: objs) (.ref rw) l := ⟨rw, vsw, kw, rfl, .head _, hi1⟩
  refine cExecsCons (s := { s with heap := g1, toks := k1 }) (cOf (st_due0 S1 fun g2 k2 rd S2 => ?_))
  refine cExecsCons (s := { s with heap := g2, toks := k2 }) (cOf (st_due X hE S2 rfl rfl Bw1.tail hl hlz h1 h5 (if_pos rfl) (.head _) fun g3 k3 kv3 m3 o3 S3 sub3 hd3 hm3 => ?_))
  obtain ⟨vd, hvd, Bd⟩ := hd3
  have Bw3 := Bw1.tail.mono sub3
  refine cExecsCons (s := { s with heap := g3, toks := k3 }) (st_if1 X S3 rfl rfl Bw3 hl hlz h1 h5 hvd Bd fun g4 k4 S4 => ?_)
  refine cExecsCons (s := { s with heap := g4, toks := k4 }) (cOf (st_back X S4 rfl Bw3 hlz fun g5 k5 rb vsb kb S5 hi5 => ?_))
  have Bb5 : BL ((rb, lstObj vsb kb) :: o3) (.ref rb) l.reverse := ⟨rb, vsb, kb, rfl, .head _, hi5⟩
  refine cExecsCons (s := { s with heap := g5, toks := k5 }) (cOf (st_groups X S5 rfl rfl Bw3.tail hl hlz h1 h5 fun g6 k6 rg o6 S6 sub6 Bg6 => ?_))
  refine cExecsCons (s := { s with heap := g6, toks := k6 }) (cOf (st_turned0 S6 fun g7 k7 rt S7 => ?_))
  refine cExecsCons (s := { s with heap := g7, toks := k7 }) (cOf (st_turned X hE S7 (vg := .ref rg) ?_ (Bg6.mono fun q hq => .tail _ hq) hl hlz h1 (if_pos rfl) (.head _) fun g8 k8 kv8 m8 o8 S8 sub8 hd8 hm8 => ?_))
  · exact (if_neg (by decide)).trans (if_pos rfl)
  obtain ⟨vt, hvt, Bt⟩ := hd8
  refine cExecsCons (s := { s with heap := g8, toks := k8 }) (st_if2 X S8 rfl hl hlz h1 h5 (vb := .ref rb) ?_ ((Bb5.mono sub6).tail.mono sub8) hvt Bt fun g9 k9 S9 => ?_)
  · exact (hm8 _ (by decide)).trans ((if_neg (by decide)).trans ((if_neg (by decide)).trans (if_pos rfl)))
  have ho9 : m8 "octets" = some vo := (hm8 _ (by decide)).trans ((if_neg (by decide)).trans ((if_neg (by decide)).trans ((if_neg (by decide)).trans ((hm3 _ (by decide)).trans ((if_neg (by decide)).trans ho)))))
  have sub9 : ∀ q ∈ objs, q ∈ o8 := fun q hq => sub8 _ (.tail _ (sub6 _ (.tail _ (sub3 _ (.tail _ (.tail _ hq))))))
  refine cExecsCons (s := { s with heap := g9, toks := k9 }) (st_if3 X S9 rfl hz h1 h5 ho9 (Bo.mono sub9) fun g10 k10 S10 => ?_)
  exact cExecsNil (s := { s with heap := g10, toks := k10 }) (hQ g10 k10 _ _ m8 (S10.sub sub9) ho9)
end
end Mine

/- part S7 -/
namespace Mine
open PyProof.Rows.LCg (NsObj lst Off3 Off1)
def octs (ns : List Int) : List UInt8 := ns.map fun n => (n.fmod 256).toNat.toUInt8
theorem octs_int (ns : List Int) : bInt (octs ns) = ns.map fun n => n.fmod 256 := by
  unfold bInt octs
  rw [List.map_map]
  refine List.map_congr_left fun n _ => ?_
  exact byte_back (Int.fmod_nonneg_of_pos n (by decide)) (Int.fmod_lt_of_pos n (by decide))
section
variable {prog : Program} {w : World} {A₀ A : Around} {E : Value → Shared → Prop} {s : Shared} {base h₀ h : Heap} {L a fb fr : Addr} {cd cdb cdr : Value} {m mg mb : Str → Option Value} {objs : List (Addr × Obj)} {wv wh kv : Option Value}
  {KF : Frag} {p : Program} {loose : List Str} {mean : ExcName → Option Value}
theorem st_octets {ls : Addr} {vs : List Value} {ns : List Int} {Q : Flow → Shared → Prop} (hh : A.handled = none) (S : LS h₀ L wv wh kv s.heap m objs) (hs : m "script" = some (.ref ls)) (hl : h₀.IsList ls vs.toArray) (hi : IntsAre vs ns) (hz : ns.length ≤ 1000)
    (hQ : ∀ h' tk r vs k, LS h₀ L wv wh kv h' (fun y => if y = "octets" then some (.ref r) else m y) ((r, lstObj vs k) :: objs) → IntsAre vs (bInt (octs ns)) → Q .next { s with heap := h', toks := tk }) :
    wpAny (model prog w) A (exec (nthS lwBody 0) (lwEnv L a cd)) Q E s := by
  have hsz := sizeLine_eq
  have hvl := hi.length
  obtain ⟨F, ⟨c1, c2, c3, d1, d2, d3, N⟩, ap⟩ := S
  refine LCg.Assign_ListComp_U (cl := []) F rfl (by with_unfolding_all rfl) (by with_unfolding_all rfl) (by decide) (by rfl) (by decide) (by rfl) (by rfl) (by rfl) (EvV.go (evL F hs) fun tk₁ => ?_)
  refine LCg.CompSrc.base hh F N hl (by simp; omega) fun g' => ?_
  refine kcf_list (fun n => n.fmod 256) hi ?_ ?_
  · rintro k t I oI C oC D m₂ ys h tk E' hk hC hx F₁ N₁ off ne _
    refine EvI.go (evMod (evNi (hC.ns (N₁ _ (.tail _ (.head _))).1) hx) evK (by decide)) fun t' tk' => ?_
    exact ⟨h, tk', _, rfl, F₁, N₁, off, .inl hl, rfl, t', rfl⟩
  · show ∀ ys, _ → _
    intro ys hy D h tk F' N' o1
    exact hQ h tk D ys _ (made_LS d1 d2 d3 ap F' N' o1) (by rw [octs_int]; exact hy)
theorem lw_body {ls : Addr} {vs : List Value} {ns : List Int} {Q : Flow → Shared → Prop} (X : LX A₀ A base h₀ L a cd mg mb fb fr cdb cdr KF p loose mean) (hE : PassesOwn (model prog w) A (lwEnv L a cd) E) (S : LS h₀ L wv wh kv s.heap m objs)
    (hs : m "script" = some (.ref ls)) (hl : h₀.IsList ls vs.toArray) (hi : IntsAre vs ns) (hz : ns.length ≤ 1000)
    (hQ : ∀ h' tk m', Fr h₀ L h' m' → Q (.ret (.bool true)) { s with heap := h', toks := tk }) :
    wpC (model prog w) A (execs lwBody (lwEnv L a cd)) Q E s := by
  have hz' : (octs ns).length ≤ 1000 := by simpa [octs] using hz
  refine cExecsCons (cOf (st_octets X.hh S hs hl hi hz fun g1 k1 r vso k S1 hi1 => ?_))
  have Bo : BL ((r, lstObj vso k) :: objs) (.ref r) (octs ns) := ⟨r, vso, k, rfl, .head _, hi1⟩
  refine cExecsCons (s := { s with heap := g1, toks := k1 }) ?_
  refine ls_forW (s := { s with heap := g1, toks := k1 }) (x := 1) (b := 6) (c := 1) (n := 5) hE X.hh S1 (evRange2 (X.G.keeps S1.fr.keep) evK evK) (small_one (by decide) (by decide) (by decide) (by decide)) (by rfl)
    (fun i m' objs' => m' "octets" = some (.ref r) ∧ objs' = (r, lstObj vso k) :: objs) ⟨if_pos rfl, rfl⟩ ?_ ?_
  · rintro I i m' _ h tk t wh' kv' hi' ⟨ho, rfl⟩ off S'
    have e : (1 + (i : Int) * 1) = ((i + 1 : Nat) : Int) := by omega
    rw [e] at S'
    refine st_loop (s := { s with heap := h, toks := tk }) X hE S' ho Bo.tail hz' (by omega) (by omega) ?_
    intro h' tk' wh'' kv'' m'' S'' ho''
    exact ⟨h', tk', _, _, _, m'', _, rfl, S'', off, ho'', rfl⟩
  · rintro m' _ h tk wv' wh' kv' ⟨ho, rfl⟩ S'
    exact cExecsCons (s := { s with heap := h, toks := tk }) (cOf (wpAny_Return_some (PySem.wpAny_Constant_bool (hQ h tk m' S'.fr))))
end
end Mine

/- part HD -/
namespace Mine
abbrev ctx0 : Ctx := ⟨.builtin "claim.caller" {}, none, none, [], none⟩
theorem thread_ends {prog : Program} {w : World} {t : Sem Fin} {s : Shared} {R : Result → Shared → Prop} (hreg : s.asleep)
    (h : wpC (model prog w) callerA t (fun fin s' => ∃ f, fin = .done f ∧ (R (.ok f) s' ∧ leftWithCleanup s'.gens = false)) (fun e s' => R (.error e) s' ∧ leftWithCleanup s'.gens = false) s) :
    ∃ n r s' s'', runN (denote table) prog w n s ⟨t, .builtin "claim.caller" {}, default, []⟩ = .halted (outcomeOf r) s' ∧
      schedN (denote table) prog w n (.single s ⟨t, .builtin "claim.caller" {}, default, []⟩) = .halted (outcomeOf r) s' ∧ s'.forget = s''.forget ∧ R r s'' := by
  have hw : Sem.wp (model prog w) ctx0 t (Sem.finPost (model prog w) ctx0 fun r s' => R r s' ∧ leftWithCleanup s'.gens = false) (fun e _ s' => R (.error e) s' ∧ leftWithCleanup s'.gens = false) default s := by
    refine Sem.wp_mono _ _ t (fun fin p' s' h' => ?_) (fun _ _ _ h' => h') default s (h ctx0 default caller_in (by show badIds.contains "claim.caller" = false; decide +kernel) (fun x hx => nomatch hx))
    obtain ⟨f, rfl, hf⟩ := h'
    exact hf
  obtain ⟨n, r, s₁, s₂, hs, hn, hfo, hR⟩ := wp_halts_full (M := model prog w) (R := R) hreg hw
  exact ⟨n, r, s₂, s₁, hn, hs, hfo, hR⟩

theorem callFrom {c : ClaimW} {tree : List Value → Sem Fin} {w : World} {s : Shared} {free : Addr → Prop} {gens : Prop} {kept : Heap → Prop} (hz : s.asleep) (hgens : s.gens = #[])
    (hspec : ∀ args, c.pre args = true → WData.layableAll args = true →
      ∀ ord : List DictEntry → List DictEntry, (∀ l, (ord l).Perm l) →
      ∃ vs s₁, layAllW c.records (classAt s.heap) w.params ord args s = some (vs, s₁) ∧
        wpC (model c.prog w) callerA (tree vs) (fun fin s' => ∃ f, fin = .done f ∧ (c.Ends s args vs s₁ (.ok f) s' ∧ s'.os = s.os ∧ AllBare s'.gens ∧ kept s'.heap))
          (fun e s' => c.Ends s args vs s₁ (.error e) s' ∧ s'.os = s.os ∧ AllBare s'.gens ∧ kept s'.heap) s₁) :
    c.CallFrom (fun vs => ⟨tree vs, .builtin "claim.caller" {}, default, []⟩) w free gens kept s := by
  intro args hpre hlay ord hord
  obtain ⟨vs, s₁, hlaid, hcode⟩ := hspec args hpre hlay ord hord
  have hal := layAllW_rest _ _ _ hlaid
  obtain ⟨k, r, s', s'', hrun, hsched, hfo, hcase, hos, hkp⟩ := thread_ends (prog := c.prog) (w := w) (t := tree vs) (s := s₁)
    (R := fun r s' => c.Ends s args vs s₁ r s' ∧ s'.os = s.os ∧ kept s'.heap)
    (Shared.asleep_of_life hal.2.2.2 hz)
    (cMono hcode (by
      rintro fin s' ⟨f, e, h1, h2, h3, h4⟩
      exact ⟨f, e, ⟨h1, h2, h4⟩, leftWithCleanup_false_of_bare h3⟩) (by
      rintro e s' ⟨h1, h2, h3, h4⟩
      exact ⟨⟨h1, h2, h4⟩, leftWithCleanup_false_of_bare h3⟩))
  obtain ⟨eh, _, _, eo, _⟩ := Shared.forget_eq hfo
  have hcase := hcase.congr eh
  have hkp : kept s'.heap := by first | exact eh ▸ hkp | (rw [eh] at hkp; exact hkp) | (rw [← eh] at hkp; exact hkp)
  rw [← eo] at hos
  have hlife : s'.heap.life = s.heap.life := (runN_life _ _ _ hrun).trans hal.2.2.2
  refine ⟨vs, s₁, hlaid, k, _, s', hsched, ?_, (fun _ i x hx => by rw [hgens] at hx; simp at hx), hkp, by rw [hlife], Shared.rest_eq hos⟩
  rcases hcase with ⟨v, rfl, d1, d2, d3, d4, d5⟩ | ⟨e, ob, cls, rfl, d1, d2, d3, d4, d5⟩
  · exact .inl ⟨v, rfl, d1, d2, d3, fun b o y _ => d4 b o y, d5⟩
  · exact .inr ⟨e, ob, cls, rfl, d1, d2, d3, d4, fun b o y _ => d5 b o y⟩

theorem openTree {r : RowW} {run : Value → List Value → Sem Value} {tree : List Value → Sem Fin} {q : Program} {loose defs kps : List Str} {writes : Bool} {Xt : Shared → Bool} {XP : (Str → Option Value) → Heap → Prop} {α : Type} {Yf : Shared → α} {Ya : World → α} {YP : World → Heap → Prop} {N : Nat}
    (left : LeftO r.prog q loose Xt Yf Ya N) (hY : ∀ w s, Yf s = Ya w → YP w s.heap) (hYk : ∀ w h h', YP w h → (∀ b o, h.get? b = some o → h'.get? b = some o) → YP w h') (hX : ∀ s, Xt s = true → XP (s.heap.nsMap mainGlobals) s.heap) (hXk : ∀ mg h h', XP mg h → (∀ b o, h.get? b = some o → h'.get? b = some o) → XP mg h')
    (hRf : ∀ s, Xt s = true → RecFacts r.records s.heap) (hwr : (!writes || r.records.isEmpty) = true) (ok : (chainsOk q && opensWell r.prog && (frees r && r.within.isEmpty)) = true) (hb : r.prog.bare) (hw : r.promised)
    (ht : ∀ vs (w : World) (s : Shared) mg f (Q : Fin → Shared → Prop) (E : Value → Shared → Prop), s.heap.Ns mainGlobals mg → mg r.name = some f → wpC (model r.prog w) callerA (run f vs) (fun v s' => Q (.done (.ret v)) s') E s → wpC (model r.prog w) callerA (tree vs) Q E s)
    (pin : ∀ w s, s.heap.isNs mainGlobals = true → Ground q loose [] XP w s (s.heap.nsMap mainGlobals) (s.heap.nsMap builtinsNs) s.heap → ∀ n ∈ defs, isTheDefsW r.prog s.heap n)
    (call : ∀ (w : World) (s₀ s₁ : Shared) (mg mb : Str → Option Value), Ground q loose r.records XP w s₀ mg mb s₁.heap → YP w s₁.heap → ∀ (args : List WData) (vs : List Value) (as : List Addr),
      r.claim.pre args = true → WData.layableAll args = true → Laid r.records w s₀ s₁ args vs as → sysModules < s₀.heap.objs.size → ∃ f, mg r.name = some f ∧
        wpC (model r.prog w) callerA (run f vs) (fun v s' => GoodWG r.claim (classAt s₀.heap) (ExcName.means s₀.heap) args s₁ (.ok (.ret v)) s')
          (fun e s' => GoodWG r.claim (classAt s₀.heap) (ExcName.means s₀.heap) args s₁ (.error e) s') s₁) : r.claim.HoldsOpenBy (fun vs => ⟨tree vs, .builtin "claim.caller" {}, default, []⟩) defs kps writes := by
  obtain ⟨ok, k5⟩ := Bool.and_eq_true_iff.mp ok
  obtain ⟨hch, o1⟩ := Bool.and_eq_true_iff.mp ok
  obtain ⟨k5, k6⟩ := Bool.and_eq_true_iff.mp k5
  obtain ⟨hsame, hu, ha, hap, hm⟩ := frees_parts k5
  refine ⟨⟨hb, o1, by show r.makers.map _ = []; rw [hm]; rfl⟩, hw.witness, fun w => ⟨(left.behind hX hch w).1, fun s' hs' => ?_⟩⟩
  obtain ⟨s₀, hf, hg0, s, hT, hz, hgens, hg, G00, y⟩ := (left.behind (XP := fun mg h => XP mg h ∧ RecFacts r.records h) (fun s hs => ⟨hX s hs, hRf s hs⟩) hch w).2 s' hs'
  have G0 : Ground q loose [] XP w s (s.heap.nsMap mainGlobals) (s.heap.nsMap builtinsNs) s.heap := ⟨G00.T, G00.B, G00.D, G00.TE, G00.TD, G00.W, G00.X.1, G00.cls, G00.has, G00.apart, G00.once, G00.K⟩
  have RF := G00.X.2
  have hT' := hT
  refine ⟨s₀, hf, hg0, s, hT, pin w s hg G0, RF.1, RF.2.1, ?_⟩
  have hgens : s.gens = #[] := Array.eq_empty_of_size_eq_zero (beq_iff_eq.mp hgens)
  have G : Ground q loose r.records XP w s _ _ s.heap := RF.ground G0
  refine callFrom (c := r.claim) hz hgens fun args hpre hlay ord hord => ?_
  obtain ⟨⟨vs, s₁⟩, hlaid⟩ := Option.isSome_iff_exists.mp (layAllW_isSome (P := w.params) (ord := ord) G.has args r.args s (pre_splitW hpre).1)
  have keeps := layAllW_keeps _ _ _ hlaid
  have hal := layAllW_rest _ _ _ hlaid
  obtain ⟨as, hrd, hin, hold⟩ := reads_layAllW hord _ _ _ hlaid hlay s₁.heap (fun _ _ e => e)
  have L : Laid r.records w s s₁ args vs as := ⟨⟨ord, hord, hlaid⟩, hrd, hin, hold, keeps, hal.1.trans hgens, hal.2.2.1⟩
  have G₁ := G.keeps hXk keeps
  obtain ⟨f, hf, h⟩ := call w s s₁ _ _ G₁ (hYk _ _ _ (hY w s y) keeps) args vs as hpre hlay L G.low
  have hi := ident_freeW hu ha hap
  have hwi : r.claim.within = [] := List.isEmpty_iff.mp k6
  exact ⟨vs, s₁, hlaid, ht vs w s₁ _ f _ _ G₁.T.g hf (cMono h (fun v s' g => ⟨_, rfl, have z := g.laid (c := r.claim) hsame hwi hi L; ⟨z.1, z.2.1, z.2.2, fun q => ⟨namesKept_of hT' hg kps keeps g.2.1.old, noTable hwr q⟩⟩⟩) fun e s' g => have z := g.laid (c := r.claim) hsame hwi hi L; ⟨z.1, z.2.1, z.2.2, fun q => ⟨namesKept_of hT' hg kps keeps g.2.1.old, noTable hwr q⟩⟩)⟩

/-- what is left of the law, in a clean stack -/
abbrev WalkClean (q : Program) (loose : List Str) (XP : (Str → Option Value) → Heap → Prop) (YP : World → Heap → Prop) (r : RowW) (d : DefRec) (kwd : List (Str × Expr)) : Prop :=
  ∀ (w : World) (s₀ s₁ : Shared) (mg mb : Str → Option Value), Ground q loose r.records XP w s₀ mg mb s₁.heap → YP w s₁.heap → ∀ (a : Addr) (o : Obj) (pm cd doc dV kV : Value), s₁.heap.get? a = some o →
    o.data = .func { docDef d.name d.params d.body d.scope pm cd doc with defaults := dV, kwdefaults := kV } → s₁.heap.CodeRec cd d.name → Dflts mg s₁.heap d.params kwd dV kV → mg d.name = some (.ref a) → s₁.gens = #[] →
    ∀ (args : List WData) (vals : List Value) (as : List Addr), r.claim.pre args = true → WData.layableAll args = true → ReadsAllW r.records (classAt s₀.heap) s₁.heap vals args as → WellAll w.params s₁.heap vals args → (∀ a ∈ as, (a == sysModules) = false) →
      wpC (model r.prog w) callerA (PySem.call (.ref a) vals) (fun v s' => GoodWG r.claim (classAt s₀.heap) (ExcName.means s₀.heap) args s₁ (.ok (.ret v)) s')
        (fun e s' => GoodWG r.claim (classAt s₀.heap) (ExcName.means s₀.heap) args s₁ (.error e) s') s₁

end Mine
namespace Mine.PySem
/-- the head's last step, for a clean stack: open_top finds this one in «namespace Mine» -/
theorem W.holds_open {r : OpenRow} {q : Program} {loose : List Str} {Xt : Shared → Bool} {XP : (Str → Option Value) → Heap → Prop} {α : Type} {Yf : Shared → α} {Ya : World → α} {YP : World → Heap → Prop} {d : DefRec} {kwd : List (Str × Expr)} {N : Nat}
    (left : LeftO r.prog q loose Xt Yf Ya N) (hY : ∀ w s, Yf s = Ya w → YP w s.heap) (hYk : ∀ w h h', YP w h → (∀ b o, h.get? b = some o → h'.get? b = some o) → YP w h')
    (hX : ∀ s, Xt s = true → XP (s.heap.nsMap mainGlobals) s.heap) (hXk : ∀ mg h h', XP mg h → (∀ b o, h.get? b = some o → h'.get? b = some o) → XP mg h')
    (hdef : defOf q r.name = some (d, kwd)) (hp : r.prog.theDef r.name = some (d.params, d.body, d.scope)) (hk : kwWritten? d.params.kwonlyargs d.params.kw_defaults = some kwd) (hRf : ∀ s, Xt s = true → RecFacts r.records s.heap) (hwr : (!r.writes || r.records.isEmpty) = true)
    (k1 : r.wellSaid = true) (ok : (chainsOk q && opensWell r.prog && (frees r.toRowW && r.within.isEmpty)) = true) (hb : r.prog.bare) (hw : r.toRowW.promised)
    (call : WalkClean q loose XP YP r.toRowW d kwd) : r.Holds := by
  refine ⟨k1, hw, openTree (r := r.toRowW) (run := fun f vs => PySem.call f vs) (tree := fun vs => do match ← nsGet mainNs r.name with
      | some f => do ret (← PySem.call f vs)
      | none => unsupported "claim.caller:no-such-global") left hY hYk hX hXk hRf hwr ok hb hw
    (fun vs w s mg f Q E hg hf h => cBindA (wpAny_nsGet hg (by rw [hf]; exact cBind (cMono h (fun _ _ x => cPure x) fun _ _ x => x))))
    (fun w s hg G n hn => ?_) fun w s₀ s₁ mg mb G Y args vs as hpre hlay L low => ?_⟩
  · obtain rfl : n = r.name := by split at hn <;> simp_all
    exact pinned_of_view hg G hdef hp hk
  · obtain ⟨a, o, pm, cd, doc, dV, kV, h1, h2, h3, h4, h5⟩ := G.fn hdef
    exact ⟨.ref a, h1, call w s₀ s₁ mg mb G Y a o pm cd doc dV kV h2 h3 h4 h5 (defOf_name hdef ▸ h1) L.gens args vs as hpre hlay L.reads L.well (L.low low)⟩
end Mine.PySem

/- part HJ -/
namespace Mine
section
variable {prog : Program} {w : World} {A : Around} {s : Shared} {R : Result → Shared → Prop}
theorem cCallCells {d : DefRec} {a : Addr} {o : Obj} {pm cd doc : Value} {vals : List Value} {binds : List (Str × Value)} (hroom : A.depth < recursionLimit) (ho : s.heap.get? a = some o)
    (hd : o.data = .func (docDef d.name d.params d.body d.scope pm cd doc)) (hcd : s.heap.CodeRec cd d.name) (hlim : s.heap.NoLimit)
    (hbind : bindArgs (docDef d.name d.params d.body d.scope pm cd doc) ⟨vals, []⟩ = pure binds)
    (hkind : ∀ n, ∀ x ∈ binds, d.scope.names.lookup x.1 = some .local ∨ (d.scope.names.lookup x.1 = some .cell ∧ ((cellsFrom n d.scope.names []).lookup x.1).isSome = true))
    (hnd : ((cellsFrom 0 d.scope.names []).map (·.1)).Nodup)
    (h : ∀ h₁ tk cells, Fr s.heap s.heap.objs.size h₁ (bindL (envOfC d.name d.scope s.heap.objs.size a cd).kindOf binds fun _ => none) → News s.heap s.heap.objs.size h₁ cells →
      CellsAre (bindC (envOfC d.name d.scope s.heap.objs.size a cd).kindOf binds fun _ => none) (cellsFrom (s.heap.objs.size + 1) d.scope.names []) cells →
      wpC (model prog w) (A.deeper (envOfC d.name d.scope s.heap.objs.size a cd)) (execs d.body (envOfC d.name d.scope s.heap.objs.size a cd))
        (fun f s' => R (.ok (.ret (match f with | .ret v => v | _ => .none))) s')
        (fun e s' => wpAny (model prog w) (A.deeper (envOfC d.name d.scope s.heap.objs.size a cd)) (leaving (envOfC d.name d.scope s.heap.objs.size a cd) e) (fun _ s'' => R (.error e) s'') (fun e' s'' => R (.error e') s'') s')
        { s with heap := h₁, toks := tk })
    (hco : d.scope.isCoroutine = false := by rfl) (hgen : d.scope.isGenerator = false := by rfl) (hk : d.scope.kind = .function := by rfl) : codeC (model prog w) A (.call (.ref a) ⟨vals, []⟩) R s := by
  refine codeCallFunction hroom ho hd hco hgen rfl hcd ?_
  rw [hbind]
  refine wpAny_pure (wpAny_newFunctionEnv_cells hk (hkind _) fun env' he s' x => ?_)
  subst he
  refine ⟨hlim.keeps x.toInCall.keep, codeFunc ?_⟩
  obtain ⟨h₁, tk, rfl, _⟩ := x.done
  have hk₁ := x.toInCall.keep
  obtain ⟨cells, NC, Y⟩ := Cl.news (h₀ := s.heap) (Nat.le_refl _) fun n c hm => ⟨x.cell n c (lookup_of_mem_nodup (cellsFrom_names d.scope.names 0 (s.heap.objs.size + 1) [] [] rfl ▸ hnd) hm), x.above n c hm⟩
  exact h h₁ tk cells ⟨x.toInCall.ns, hk₁, Nat.le_refl _⟩ NC Y
/-- the law, called from outside on a list of ints -/
theorem law_call {a : Addr} {o : Obj} {pm cd doc : Value} {ls : Addr} {vs : List Value} {ns : List Int} {mg mb : Str → Option Value} {fb fr : Addr} {cdb cdr : Value} {KF : Frag} {p : Program} {loose : List Str} {mean : ExcName → Option Value}
    (ho : s.heap.get? a = some o) (hd : o.data = .func (docDef lwD.name lwD.params lwD.body lwD.scope pm cd doc)) (hcd : s.heap.CodeRec cd lwD.name)
    (G : G0 mg mb s.heap) (Db : DefAt mg s.heap bsD fb cdb) (Dr : DefAt mg s.heap rfD fr cdr) (KB : KF.In s.heap) (TB : Top p loose mean mg mb s.heap) (ex : nsIn KF mainGlobals "IndexError" = some none)
    (hl : s.heap.IsList ls vs.toArray) (hi : IntsAre vs ns) (hz : ns.length ≤ 1000)
    (hQ : ∀ h' tk m', Fr s.heap s.heap.objs.size h' m' → R (.ok (.ret (.bool true))) { s with heap := h', toks := tk }) :
    codeC (model prog w) callerA (.call (.ref a) ⟨[.ref ls], []⟩) R s := by
  refine cCallCells (d := lwD) (binds := [("script", .ref ls)]) (by decide) ho hd hcd G.lim (by rfl) ?_ (by decide +kernel) ?_
  · intro n x hx
    obtain rfl := List.mem_singleton.mp hx
    exact .inl (by rfl)
  · intro h₁ tk cells F N Y
    have Y' : CellsAre _ (lwCells s.heap.objs.size) cells := Y
    obtain ⟨o1, o2, o3, rfl, e1, e2, e3⟩ := CellsAre.three Y'
    have S : LS s.heap s.heap.objs.size none none none h₁ (bindL (envOfC lwD.name lwD.scope s.heap.objs.size a cd).kindOf [("script", .ref ls)] fun _ => none) [] := by
      refine ⟨F, ⟨o3, o2, o1, e3, e2, e1, fun q hq => N q ?_⟩, fun q hq => (nomatch hq)⟩
      rcases List.mem_cons.mp hq with rfl | hq
      · exact .tail _ (.tail _ (.head _))
      · rcases List.mem_cons.mp hq with rfl | hq
        · exact .tail _ (.head _)
        · rcases List.mem_cons.mp hq with rfl | hq
          · exact .head _
          · cases hq
    have X : LX callerA (callerA.deeper (lwEnv s.heap.objs.size a cd)) s.heap s.heap s.heap.objs.size a cd mg mb fb fr cdb cdr KF p loose mean :=
      ⟨below_caller _, Around.frames_deeper (below_caller s.heap).stack, G, Db, Dr, KB, TB, ex, (by simp only [depth_deeper, depth_caller]; decide), rfl⟩
    exact lw_body (s := { s with heap := h₁, toks := tk }) X PassesOwn.leaving S rfl hl hi hz fun h' tk' m' F' => hQ h' tk' m' F'
end
end Mine

/- part HK -/
namespace Mine
set_option maxRecDepth 100000 in
set_option maxHeartbeats 8000000 in
open_top top for PySem.Challenge.rw_xe0056_01
theorem ns_free (P : Params) : nsIn (top.heap_39 P) mainGlobals "len" = some none ∧ nsIn (top.heap_39 P) mainGlobals "range" = some none ∧ nsIn (top.heap_39 P) mainGlobals "bytes" = some none ∧
    nsIn (top.heap_39 P) mainGlobals "bytearray" = some none ∧ nsIn (top.heap_39 P) mainGlobals "IndexError" = some none := ⟨by rfl, by rfl, by rfl, by rfl, by rfl⟩
theorem bs_in : bsD ∈ recsOf top.view_39 := List.mem_of_getElem? (i := 0) (by rfl)
theorem rf_in : rfD ∈ recsOf top.view_39 := List.mem_of_getElem? (i := 1) (by rfl)
theorem main : PySem.Challenge.rw_xe0056_01.Holds := by
  refine top ?_
  intro w s₀ s₁ mg mb G Y a o pm cd doc dV kV ho hd hcd hD hmg hg args vals as hpre hlay hrd hwl hlo
  have KB := kIn_of Y
  obtain rfl := Dflts.none hD rfl
  obtain rfl := Dflts.noKw hD
  clear hD Y
  obtain ⟨n1, n2, n3, n4, n5⟩ := ns_free w.params
  have T := G.T
  have G₀ : G0 mg mb s₁.heap := ⟨T.g, T.b, T.nolimit, mg_none_of KB T.g n1, mg_none_of KB T.g n2, mg_none_of KB T.g n3, mg_none_of KB T.g n4,
    (T.builtins "len" (by decide)).trans (by rfl), (T.builtins "range" (by decide)).trans (by rfl), (T.builtins "bytes" (by decide)).trans (by rfl), (T.builtins "bytearray" (by decide)).trans (by rfl)⟩
  obtain ⟨fb, ob, pmb, cdb, docb, b1, b2, b3, b4⟩ := T.fn bsD bs_in
  obtain ⟨fr, orr, pmr, cdr, docr, r1, r2, r3, r4⟩ := T.fn rfD rf_in
  have Db : DefAt mg s₁.heap bsD fb cdb := ⟨b1, ⟨ob, pmb, docb, b2, b3⟩, b4⟩
  have Dr : DefAt mg s₁.heap rfD fr cdr := ⟨r1, ⟨orr, pmr, docr, r2, r3⟩, r4⟩
  wrow_args hpre hlay hrd hwl hlo
  rename IntsAre _ _ => hI
  rename Heap.IsList _ _ _ => hL
  rename ¬ _ < _ => hlen
  refine cCall (law_call ho hd hcd G₀ Db Dr KB T n5 hL hI (by omega) fun h' tk m' F' => ?_)
  refine GoodW.toG (goodW_bool F' hg ?_ ?_)
  · refine raisesW_false ?_
    wrow_none_raised
  · refine postW_of (by wrow_shape) (by wtm_val) ?_
    w_fin
end Mine

theorem PySem.Challenge.cw_xe0056_01_holds : PySem.Challenge.rw_xe0056_01.Holds :=
  Mine.main
