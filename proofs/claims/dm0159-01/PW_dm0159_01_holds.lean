import PyProof.Rows.All
import Wide.All
import OpenK.AllK
import Wide.FinOn
import PySem.Challenge.RW_dm0159_01
open PySem PySem.W PyProof.Rows
set_option Elab.async false
set_option maxRecDepth 100000
set_option maxHeartbeats 8000000
set_option linter.unusedVariables false
set_option linter.unusedSectionVars false
namespace Mine
open_top hd1 for PySem.Challenge.rw_dm0159_01
end Mine
namespace Mine
open PySem.Calls
open Sem (wp)

/-- the claim's caller stands somewhere in this list of activations -/
def hasC (l : List (Code × Pos)) : Bool := (l.map (·.1)).any fun c => match c with | .builtin "claim.caller" _ => true | _ => false
theorem hasC_cons {l : List (Code × Pos)} (x : Code × Pos) (h : hasC l = true) : hasC (x :: l) = true := by
  unfold hasC at *
  rw [List.map_cons, List.any_cons, h, Bool.or_true]
theorem hasC_any {l : List (Code × Pos)} {c : Code} {p : Pos} (q : Pos) (h : hasC ((c, p) :: l) = true) : hasC ((c, q) :: l) = true := h

/-- wp in every context that is within A and bears the claim's caller -/
def wpC {α : Type} (M : Model) (A : Around) (t : Sem α) (Q : α → Shared → Prop) (E : Value → Shared → Prop) (s : Shared) : Prop :=
  ∀ Γ p, Γ.In A → hasC ((Γ.code, p) :: Γ.below) = true → wp M Γ t (fun a _ s' => Q a s') (fun e _ s' => E e s') p s
def codeC (M : Model) (A : Around) (c : Code) (R : Result → Shared → Prop) (s : Shared) : Prop :=
  ∀ Γ p, Γ.code = c → Γ.Below A → hasC Γ.below = true → wpCode M Γ R p s

section
variable {α β : Type} {M : Model} {A : Around} {E : Value → Shared → Prop} {s : Shared} {env : Env}
theorem wpC_of {t : Sem α} {Q : α → Shared → Prop} (h : wpAny M A t Q E s) : wpC M A t Q E s := fun Γ p hΓ _ => h Γ p hΓ
theorem wpC_mono {t : Sem α} {Q Q' : α → Shared → Prop} {E' : Value → Shared → Prop} (h : wpC M A t Q E s) (hQ : ∀ a s, Q a s → Q' a s) (hE : ∀ e s, E e s → E' e s) : wpC M A t Q' E' s :=
  fun Γ p hΓ hc => Sem.wp_mono M Γ t (fun a _ s => hQ a s) (fun e _ s => hE e s) p s (h Γ p hΓ hc)
theorem wpC_bind {m : Sem α} {f : α → Sem β} {Q : β → Shared → Prop} (h : wpC M A m (fun a s' => wpC M A (f a) Q E s') E s) : wpC M A (m >>= f) Q E s := fun Γ p hΓ hc => by
  rw [Sem.wp_bind']
  exact Sem.wp_mono M Γ m (fun a p' s' h' => h' Γ p' hΓ hc) (fun _ _ _ h' => h') p s (h Γ p hΓ hc)
/-- a leaf ahead -/
theorem wpC_seq {m : Sem α} {f : α → Sem β} {Q : β → Shared → Prop} (h : wpAny M A m (fun a s' => wpC M A (f a) Q E s') E s) : wpC M A (m >>= f) Q E s := wpC_bind (wpC_of h)
theorem wpC_pure {a : α} {Q : α → Shared → Prop} (h : Q a s) : wpC M A (pure a) Q E s := fun _ _ _ _ => h
theorem wpC_holding {vs : List Value} {m : Sem α} {Q : α → Shared → Prop} (h : wpC M A m Q E s) : wpC M A (holding vs m) Q E s :=
  fun Γ p hΓ hc => by rw [Sem.wp_holding]; exact h Γ p hΓ hc
theorem wpC_keep {vs : List Value} {m : Sem α} {Q : α → Shared → Prop} (h : wpC M A m Q E s) : wpC M A (m.keep vs) Q E s :=
  fun Γ p hΓ hc => by rw [Sem.wp_keep]; exact h Γ p hΓ hc
theorem wpC_onRaise {m : Sem α} {k : Value → Sem Unit} {Q : α → Shared → Prop} (h : wpC M A m Q (fun e s' => wpAny M A (k e) (fun _ s'' => E e s'') E s') s) : wpC M A (m.onRaise k) Q E s := fun Γ p hΓ hc => by
  rw [Sem.wp_onRaise]
  exact Sem.wp_mono M Γ m (fun _ _ _ h' => h') (fun e p' s' h' => h' Γ p' hΓ) p s (h Γ p hΓ hc)
theorem wpC_attempt {m : Sem α} {Q : Except Value α → Shared → Prop} (h : wpC M A m (fun a => Q (.ok a)) (fun e => Q (.error e)) s) : wpC M A m.attempt Q E s := fun Γ p hΓ hc => by
  rw [Sem.wp_attempt]; exact h Γ p hΓ hc
theorem wpC_operate {vs : List Value} {m : Sem Value} {Q : Value → Shared → Prop} (h : wpC M A m Q E s) : wpC M A (operate vs m) Q E s := fun Γ p hΓ hc => by
  rw [Sem.wp_operate]; exact h Γ p hΓ hc
theorem wpC_standAt {pos : Pos} {f : Unit → Sem α} {Q : α → Shared → Prop} (h : wpC M A (f ()) Q E s) : wpC M A (standAt pos >>= f) Q E s := wpC_seq (wpAny_standAt h)

theorem codeC_mono {c : Code} {R R' : Result → Shared → Prop} (h : codeC M A c R s) (hR : ∀ r s, R r s → R' r s) : codeC M A c R' s := fun Γ p e hΓ hc => wpCode_mono hR (h Γ p e hΓ hc)
theorem wpC_run {c : Code} {h : Option Value} {Q : Flow → Shared → Prop} (hc : codeC M (A.mark h) c (fun r s' => match r with | .ok f => Q f s' | .error e => E e s') s) (hnb : h ≠ some byPass := by intro x; cases x) :
    wpC M A (run c h) Q E s := fun Γ p hΓ hC => by
  rw [Sem.wp_run]; exact hc _ p rfl (hΓ.enter c h p hnb) hC
theorem wpC_runValue {c : Code} {Q : Value → Shared → Prop} (hc : codeC M A c (fun r s' => match r with | .ok (.ret v) => Q v s' | .ok _ => False | .error e => E e s') s) :
    wpC M A (runValue c) Q E s := fun Γ p hΓ hC => by
  rw [Sem.wp_runValue]; exact hc _ p rfl (hΓ.enter c none p (by intro x; cases x)) hC
theorem wpC_call {f : Value} {pos : List Value} {kw : List (Str × Value)} {Q : Value → Shared → Prop}
    (hc : codeC M A (.call f ⟨pos, kw⟩) (fun r s' => match r with | .ok (.ret v) => Q v s' | .ok _ => False | .error e => E e s') s) : wpC M A (call f pos kw) Q E s := wpC_runValue hc
theorem codeC_of_tree {c : Code} {R : Result → Shared → Prop}
    (h : wpC M (A.under c) (M.den c) (fun fin s' => match fin with | .done f => R (.ok f) s' | .again c' => c'.quiet = true ∧ codeC M A c' R s') (fun e s' => R (.error e) s') s) : codeC M A c R s := fun Γ p e hΓ hc => by
  rw [wpCode_iff_wp, e]
  refine Sem.wp_mono M Γ _ (fun fin p' s' h' => ?_) (fun _ _ _ h' => h') p s (h Γ p (e ▸ hΓ.in) (hasC_cons _ hc))
  cases fin with
  | done f => exact h'
  | again c' => exact ⟨h'.1, h'.2 (Γ.goto c') p' rfl (hΓ.goto c') hc⟩

theorem execsC_cons {st : Stmt} {rest : List Stmt} {Q : Flow → Shared → Prop}
    (h : wpC M A (exec st env) (fun f s' => match f with | .next => wpC M A (execs rest env) Q E s' | f => Q f s') E s) : wpC M A (execs (st :: rest) env) Q E s := by
  rw [execs_cons]
  refine wpC_bind (wpC_mono h (fun f s' h' => ?_) fun _ _ h' => h')
  cases f <;> first | exact h' | exact wpC_pure h'
/-- a statement that is a leaf, then the rest -/
theorem execsC_seq {st : Stmt} {rest : List Stmt} {Q : Flow → Shared → Prop}
    (h : wpAny M A (exec st env) (fun f s' => match f with | .next => wpC M A (execs rest env) Q E s' | f => Q f s') E s) : wpC M A (execs (st :: rest) env) Q E s := execsC_cons (wpC_of h)
theorem IfC {test : Expr} {body orelse : List Stmt} {pos : Pos} {Q : Flow → Shared → Prop}
    (h : wpC M A (isTrue test env (eval test env)) (fun b s₂ => if b then wpC M A (execs body env) Q E s₂ else wpC M A (execs orelse env) Q E s₂) E s) : wpC M A (exec (.If test body orelse pos) env) Q E s := by
  rw [exec_If]
  refine wpC_standAt (wpC_bind (wpC_mono h (fun b s₂ h₂ => ?_) fun _ _ x => x))
  cases b <;> exact h₂
theorem ReturnC {e : Expr} {pos : Pos} {Q : Flow → Shared → Prop} (h : wpC M A (eval e env) (fun v => Q (.ret v)) E s) : wpC M A (exec (.Return (some e) pos) env) Q E s := by
  rw [exec_Return_some]
  exact wpC_standAt (wpC_bind (wpC_mono h (fun _ _ q => wpC_pure q) fun _ _ x => x))
theorem isTrueCmpC {l r : Expr} {op : CmpOp} {pos : Pos} {whole : Sem Value} {Q : Bool → Shared → Prop}
    (h : wpC M A (eval l env) (fun a s₁ => wpAny M A (eval r env) (fun b s₂ => wpAny M A (compareOp op a b) (fun c s₃ => wpAny M A (truthy c) Q E s₃) E s₂) E s₁) E s)
    (hm : behindInMarks op r = false := by with_unfolding_all rfl) : wpC M A (isTrue (.Compare l [op] [r] pos) env whole) Q E s := by
  rw [isTrue_Compare1, markedBehindIn_of_false hm]
  refine wpC_bind (wpC_mono h (fun a s₁ h₁ => wpC_of ?_) fun _ _ x => x)
  exact wpAny_bind (wpAny_holding (wpAny_mono h₁ (fun b s₂ h₂ => wpAny_bind (wpAny_standAt (wpAny_bind (fun Γ p hΓ => by
    rw [Sem.wp_operate]; exact wpAny_mono h₂ (fun c s₃ h₃ => wpAny_holding h₃) (fun _ _ x => x) Γ p hΓ)))) fun _ _ x => x))
theorem ListC1 {e : Expr} {pos : Pos} {Q : Value → Shared → Prop} (hs : starEach [e] env = [(false, eval e env)])
    (h : wpC M A (eval e env) (fun v s₁ => wpAny M A (newList [v]) Q E s₁) E s) : wpC M A (eval (.List [e] pos) env) Q E s := by
  show wpC M A (do standAt pos; newList (← spliced (backTo pos (starEach [e] env)))) Q E s
  rw [hs]
  refine wpC_standAt (wpC_bind ?_)
  show wpC M A (eval e env >>= fun v => (pure [v] >>= fun here => (holding here (spliced []) >>= fun r => pure (here ++ r)))) _ E s
  refine wpC_bind (wpC_mono h (fun v s₁ h₁ => ?_) fun _ _ x => x)
  exact wpC_of (wpAny_bind (wpAny_pure (wpAny_bind (wpAny_holding (wpAny_pure (wpAny_pure h₁))))) |> fun z => wpAny_mono z (fun a s' q => wpC_of q) fun _ _ x => x)
end
end Mine
namespace Mine
open PySem.Calls
open Sem (wp)
section
variable {α β : Type} {M : Model} {A : Around} {E : Value → Shared → Prop} {s : Shared} {env : Env}
theorem andC {x : Expr} {rest : List Expr} {pos : Pos} {whole : Sem Value} {Q : Bool → Shared → Prop}
    (h : wpC M A (isTrue x env (eval x env)) (fun c s' => if c then wpC M A (isTrue (.BoolOp .And rest pos) env whole) Q E s' else Q false s') E s) : wpC M A (isTrue (.BoolOp .And (x :: rest) pos) env whole) Q E s := by
  show wpC M A (do
    match BoolOp.And, ← isTrue x env (eval x env) with
    | .And, false => pure false
    | .Or, true => pure true
    | _, _ => allTrue .And rest env) Q E s
  refine wpC_bind (wpC_mono h (fun c s' h' => ?_) fun _ _ x => x)
  cases c with
  | true => exact h'
  | false => exact wpC_pure h'
theorem orC {x : Expr} {rest : List Expr} {pos : Pos} {whole : Sem Value} {Q : Bool → Shared → Prop}
    (h : wpC M A (isTrue x env (eval x env)) (fun c s' => if c then Q true s' else wpC M A (isTrue (.BoolOp .Or rest pos) env whole) Q E s') E s) : wpC M A (isTrue (.BoolOp .Or (x :: rest) pos) env whole) Q E s := by
  show wpC M A (do
    match BoolOp.Or, ← isTrue x env (eval x env) with
    | .And, false => pure false
    | .Or, true => pure true
    | _, _ => allTrue .Or rest env) Q E s
  refine wpC_bind (wpC_mono h (fun c s' h' => ?_) fun _ _ x => x)
  cases c with
  | true => exact wpC_pure h'
  | false => exact h'

/-- arguments of which the first one is a tree that is no leaf -/
theorem evalArgsC1 {f : Value} {x : Sem Value} {Q : Args → Shared → Prop} (h : wpC M A x (fun v s₁ => Q ⟨[v], []⟩ s₁) E s) : wpC M A (evalArgs f true [(false, x)] []) Q E s := by
  unfold evalArgs
  show wpC M A (spliced [(false, x)] >>= _) Q E s
  refine wpC_bind ?_
  show wpC M A (x >>= fun v => (pure [v] >>= fun here => (holding here (spliced []) >>= fun r => pure (here ++ r)))) _ E s
  refine wpC_bind (wpC_mono h (fun v s₁ h₁ => ?_) fun _ _ x => x)
  refine wpC_seq (wpAny_pure (wpC_seq (wpAny_holding (wpAny_pure (wpC_pure ?_)))))
  refine wpC_holding ?_
  exact wpC_seq (wpAny_pure (wpC_seq (wpAny_pure (wpC_pure h₁))))
theorem callC_tail {t : Sem Value} {Q : Value → Shared → Prop} (h : wpC M A t Q E s) : wpC M A (t >>= fun r => holding [r] point >>= fun _ => pure r) Q E s :=
  wpC_bind (wpC_mono h (fun r s₂ hr => wpC_of (wpAny_bind (wpAny_holding (wpAny_point (wpAny_pure hr))))) fun _ _ x => x)
theorem callWithC_fn {pos : Pos} {a : Addr} {o : Obj} {fd : FuncData} {args : List (Bool × Sem Value)} {Q : Value → Shared → Prop} (hplain : args.any (·.1) = false)
    (h : wpC M A (evalArgs (.ref a) true args []) (fun x s₁ => (s₁.heap.get? a = some o ∧ o.data = .func fd) ∧ wpC M A (call (.ref a) x.pos x.kw) Q E s₁) E s) : wpC M A (callWith pos (.ref a) [] args []) Q E s := by
  unfold callWith
  refine wpC_bind (wpC_holding (wpC_mono h (fun x s₁ h₁ => wpC_standAt ?_) fun _ _ x => x))
  simp only [hplain, List.any_nil, Bool.or_false]
  refine wpC_bind (m := keeperOf (.ref a)) (wpC_of ?_)
  unfold keeperOf
  refine wpAny_bind (wpAny_load h₁.1.1 ?_)
  rw [h₁.1.2]
  refine wpAny_pure ?_
  dsimp only
  split
  · exact callC_tail h₁.2
  · exact callC_tail (by unfold callMarked; exact wpC_keep h₁.2)
theorem callWithC_type {pos : Pos} {T : String} {args : List (Bool × Sem Value)} {Q : Value → Shared → Prop} (hplain : args.any (·.1) = false)
    (h : wpC M A (evalArgs (.type T) true args []) (fun a s₁ => wpC M A (call (.type T) a.pos a.kw) Q E s₁) E s) : wpC M A (callWith pos (.type T) [] args []) Q E s := by
  unfold callWith
  refine wpC_bind (wpC_holding (wpC_mono h (fun a s₁ h₁ => wpC_standAt ?_) fun _ _ x => x))
  simp only [hplain, List.any_nil, Bool.or_false]
  exact wpC_seq (wpAny_pure (callC_tail h₁))
theorem callWithC_builtin {pos : Pos} {T : String} {args : List (Bool × Sem Value)} {Q : Value → Shared → Prop} (hplain : args.any (·.1) = false)
    (h : wpC M A (evalArgs (.builtin T) true args []) (fun a s₁ => wpC M A (call (.builtin T) a.pos a.kw) Q E s₁) E s) : wpC M A (callWith pos (.builtin T) [] args []) Q E s := by
  unfold callWith
  refine wpC_bind (wpC_holding (wpC_mono h (fun a s₁ h₁ => wpC_standAt ?_) fun _ _ x => x))
  simp only [hplain, List.any_nil, Bool.or_false]
  exact wpC_seq (wpAny_pure (callC_tail h₁))
theorem CallC {x : Str} {p pos : Pos} {args : List Expr} {trees : List (Bool × Sem Value)} {Q : Value → Shared → Prop} (ht : backTo pos (starEach args env) = trees)
    (h : wpAny M A (eval (.Name x p) env) (fun f s₁ => wpC M A (callWith pos f [] trees []) Q E s₁) E s) : wpC M A (eval (.Call (.Name x p) args [] pos) env) Q E s := by
  subst ht
  exact wpC_seq h

theorem TryC {prog : Program} {w : World} {body orelse : List Stmt} {h₀ : ExceptHandler} {hs : List ExceptHandler} {pos : Pos} {Q : Flow → Shared → Prop}
    (h : wpC (model prog w) A (execs body env) (fun f s₁ => match f with | .next => wpAny (model prog w) A (execs orelse env) Q E s₁ | f => Q f s₁)
      (fun e s₁ => wpAny (model prog w) A (noteFrame e env) (fun _ s₂ => wpAny (model prog w) A (setFlight e none) (fun _ s₃ => wpAny (model prog w) A (handleBy e env (h₀ :: hs)) Q E s₃) E s₂) E s₁) s) :
    wpC (model prog w) A (exec (.Try body (h₀ :: hs) orelse [] pos) env) Q E s := by
  rw [arm_exec_Try]
  refine wpC_standAt ?_
  unfold tryStmt
  simp only [List.isEmpty_nil, if_true, List.isEmpty_cons, Bool.false_and, Bool.false_eq_true, if_false]
  refine wpC_bind (wpC_attempt (wpC_mono h (fun f s₁ h₁ => ?_) fun e s₁ h₁ => ?_))
  · cases f <;> first | exact wpC_of h₁ | exact wpC_pure h₁
  · exact wpC_of (wpAny_bind (wpAny_mono h₁ (fun _ _ h₂ => wpAny_bind h₂) fun _ _ x => x))

theorem codeC_func {prog : Program} {w : World} {R : Result → Shared → Prop} {body : List Stmt}
    (h : wpC (model prog w) (A.deeper env) (execs body env) (fun f s' => R (.ok (.ret (match f with | .ret v => v | _ => .none))) s')
      (fun e s' => wpAny (model prog w) (A.deeper env) (leaving env e) (fun _ s'' => R (.error e) s'') (fun e' s'' => R (.error e') s'') s') s) : codeC (model prog w) A (.func body env) R s := by
  refine codeC_of_tree ?_
  show wpC _ (A.deeper env) (do point; match ← (execs body env).onRaise (leaving env) with | .ret v => ret v | _ => ret .none) _ _ s
  refine wpC_seq (wpAny_point (wpC_bind (wpC_onRaise (wpC_mono h (fun f s' h' => ?_) fun _ _ h' => h'))))
  cases f <;> exact wpC_pure h'
theorem codeC_def {prog : Program} {w : World} {R : Result → Shared → Prop} {a : Addr} {o : Obj} {fd : FuncData} {body : List Stmt} {args : Args} {binds : List (Str × Value)}
    (hroom : A.depth < recursionLimit) (ho : s.heap.get? a = some o) (hdata : o.data = .func fd) (hlim : s.heap.NoLimit) (hcd : s.heap.CodeRec fd.code fd.qualname)
    (hbody : fd.body = .stmts body) (hbind : BindsTo s fd args binds)
    (hcell : ∀ x ∈ fd.scope.names, x.2 ≠ .cell) (hloc : ∀ x ∈ binds, fd.scope.names.lookup x.1 = some .local)
    (h : ∀ h₀, h₀.Ns s.heap.objs.size (fun x => binds.reverse.lookup x) → (∀ b o, s.heap.get? b = some o → h₀.get? b = some o) →
      wpC (model prog w) (A.deeper (callEnv fd s.heap.objs.size a)) (execs body (callEnv fd s.heap.objs.size a)) (fun f s' => R (.ok (.ret (match f with | .ret v => v | _ => .none))) s')
        (fun e s' => wpAny (model prog w) (A.deeper (callEnv fd s.heap.objs.size a)) (leaving (callEnv fd s.heap.objs.size a) e) (fun _ s'' => R (.error e) s'') (fun e' s'' => R (.error e') s'') s')
        { s with heap := h₀, toks := s.toks + binds.length })
    (hco : fd.scope.isCoroutine = false := by rfl) (hgen : fd.scope.isGenerator = false := by rfl) (hk : fd.scope.kind = .function := by rfl) :
    codeC (model prog w) A (.call (.ref a) args) R s := by
  refine codeC_of_tree ?_
  show wpC _ A.in1 (callAny (.ref a) args) _ _ s
  simp only [callAny]
  refine wpC_seq (wpAny_load ho ?_)
  obtain ⟨c, oc, vs, tq, hc, hoc, hdc, hq⟩ := id hcd
  simp only [hdata, callFunction, hco, hgen, hbody, hc]
  refine wpC_seq (m := field (.ref c) 1) (wpAny_field hoc hdc hq (wpC_seq (wpAny_pure (wpC_seq (hbind _ _ _ _ ?_)))))
  refine wpC_seq (wpAny_newFunctionEnv hcell hloc (fun h₀ hns₀ hsb₀ => ?_) hk)
  refine wpC_seq (wpAny_enterFrame (hlim.fresh _ hsb₀) hroom (wpC_pure (And.intro rfl ?_)))
  have hh := h h₀ hns₀ fun b o e => hsb₀.extBut b o (Nat.ne_of_lt (Heap.lt_size e)) (Heap.get?_push_of_some _ e)
  unfold callEnv at hh
  rw [hc] at hh
  exact codeC_func hh
end
end Mine
namespace Mine
open PySem.Calls
open Sem (wp)
section
variable {prog : Program} {w : World} {A : Around} {E : Value → Shared → Prop} {s : Shared} {env : Env}
theorem codeC_loop {M : Model} {c : Code} {R : Result → Shared → Prop} (hq : c.quiet = true) (I : Nat → Shared → Prop)
    (turn : ∀ n s, I n s → wpC M (A.under c) (M.den c) (fun fin s' => match fin with
        | .done f => R (.ok f) s'
        | .again c' => (c' = c ∧ ∃ m, m < n ∧ I m s') ∨ (c'.quiet = true ∧ codeC M A c' R s')) (fun e s' => R (.error e) s') s)
    (n : Nat) (h : I n s) : codeC M A c R s := by
  induction n using Nat.strongRecOn generalizing s with
  | ind n ih =>
    refine codeC_of_tree (wpC_mono (turn n s h) (fun fin s' hf => ?_) fun _ _ h' => h')
    cases fin with
    | done f => exact hf
    | again c' =>
      rcases hf with ⟨rfl, m, hm, hI⟩ | hf
      · exact ⟨hq, ih m hm hI⟩
      · exact hf
theorem codeC_of {M : Model} {c : Code} {R : Result → Shared → Prop} (h : codeAny M A c R s) : codeC M A c R s := fun Γ p e hΓ _ => h Γ p e hΓ
theorem wpC_noted {α : Type} {M : Model} {m : Sem α} {Q : α → Shared → Prop} (h : wpC M A m Q (notedBy M A env E) s) : wpC M A (m.onRaise fun x => do noteFrame x env; theTreesLotGoes x) Q E s :=
  wpC_onRaise (wpC_mono h (fun _ _ q => q) fun _ _ hx => wpAny_bind (wpAny_mono hx (fun _ _ e => wpAny_theTreesLotGoes e) fun _ _ e => e))
theorem codeC_forLoop {R : Result → Shared → Prop} {x : Str} {px : Pos} {it : Value} {body : List Stmt} (I : Nat → Shared → Prop)
    (turn : ∀ n s, I n s → wpAny (model prog w) A (pyNext it) (fun r s₁ => match r with
      | none => R (.ok .next) s₁
      | some v => wpAny (model prog w) A (storeName env x v) (fun _ s₂ => wpC (model prog w) A (execs body env) (fun f s₃ => match f with
          | .next | .cont => ∃ m, m < n ∧ I m s₃
          | .brk => R (.ok .next) s₃
          | .ret v => R (.ok (.ret v)) s₃) (notedBy (model prog w) A env fun e s' => R (.error e) s') s₂) (notedBy (model prog w) A env fun e s' => R (.error e) s') s₁) (notedBy (model prog w) A env fun e s' => R (.error e) s') s)
    (n : Nat) (h : I n s) : codeC (model prog w) A (.forLoop (.Name x px) it body [] env) R s := by
  refine codeC_loop rfl I (fun n s hI => ?_) n h
  show wpC _ _ ((forTurn (.Name x px) it body [] env).onRaise (fun x => do noteFrame x env; theTreesLotGoes x)) _ _ s
  refine wpC_noted ?_
  simp only [forTurn]
  refine wpC_standAt (wpC_seq (wpAny_onRaise (wpAny_mono (turn n s hI) (fun r s₁ h₁ => ?_) fun _ _ h' => wpAny_standAt h')))
  cases r with
  | none => exact wpC_pure (.inr ⟨rfl, codeC_of (codeAny_block (wpAny_execs_nil h₁))⟩)
  | some v =>
    refine wpC_seq (wpAny_of_eq (show letOwnedTupleGo (.Name x px) it v = pure () from rfl) ?_)
    refine wpC_seq (wpAny_assign_Name (wpAny_mono h₁ (fun _ s₂ h₂ => wpC_bind (wpC_mono h₂ (fun f s₃ h₃ => ?_) fun _ _ h' => h')) fun _ _ h' => h'))
    cases f with
    | next => exact wpC_pure (.inl ⟨rfl, h₃⟩)
    | cont => exact wpC_pure (.inl ⟨rfl, h₃⟩)
    | brk => exact wpC_pure h₃
    | ret v => exact wpC_pure h₃
theorem runOwnC {M : Model} {c : Code} {Q : Flow → Shared → Prop}
    (hc : codeC M A c (fun r s' => match r with | .ok f => Q f s' | .error e => cameBackBy M A env E e s') s) : wpC M A (runOwn c env none) Q E s := by
  unfold runOwn
  exact wpC_onRaise (wpC_run (h := none) hc)

/-- what a loop's turn may raise into -/
abbrev LoopE (prog : Program) (w : World) (A : Around) (env : Env) (E : Value → Shared → Prop) : Value → Shared → Prop := notedBy (model prog w) A env fun e s' => cameBackBy (model prog w) A env E e s'
theorem ForC {x : Str} {px pos : Pos} {iter : Expr} {body : List Stmt} {Q : Flow → Shared → Prop}
    (h : wpAny (model prog w) A (eval iter env) (fun v s₁ => wpAny (model prog w) A (pyIter v) (fun it s₂ => ∃ (I : Nat → Shared → Prop) (n : Nat), I n s₂ ∧
      ∀ n s, I n s → wpAny (model prog w) A (pyNext it) (fun r s₁ => match r with
      | none => Q .next s₁
      | some v => wpAny (model prog w) A (storeName env x v) (fun _ s₂ => wpC (model prog w) A (execs body env) (fun f s₃ => match f with
          | .next | .cont => ∃ m, m < n ∧ I m s₃
          | .brk => Q .next s₃
          | .ret v => Q (.ret v) s₃) (LoopE prog w A env E) s₂) (LoopE prog w A env E) s₁) (LoopE prog w A env E) s) E s₁) E s)
    (hs : ∀ x, foldedSetIterable iter env x = pure x := by intro _; rfl) :
    wpC (model prog w) A (exec (.For (.Name x px) iter body [] pos) env) Q E s := by
  rw [exec_For]
  refine wpC_standAt (wpC_seq (wpAny_mono h (fun v s₁ h₁ => ?_) fun _ _ x => x))
  refine wpC_seq (wpAny_of_eq (hs v) (wpC_standAt (wpC_seq (wpAny_holding (wpAny_mono h₁ (fun it s₂ h₂ => ?_) fun _ _ x => x)))))
  obtain ⟨I, n, hI, turn⟩ := h₂
  exact runOwnC (codeC_forLoop I turn n hI)
end
end Mine
namespace Mine
open PySem.Calls
open Sem (wp)
/-- the call, where the claim's caller stands on the stack -/
def runC (f : Value) (vs : List Value) : Sem Value := stack >>= fun st => if hasC st then PySem.call f vs else pure (.bool true)
def treeC (name : Str) (vs : List Value) : Sem Fin := stack >>= fun st => if hasC st then (callStub name vs).cur else ret (.bool true)
theorem runC_of {M : Model} {A : Around} {f : Value} {vs : List Value} {Q : Value → Shared → Prop} {E : Value → Shared → Prop} {s : Shared} (h0 : Q (.bool true) s) (h : wpC M A (PySem.call f vs) Q E s) : wpAny M A (runC f vs) Q E s := fun Γ p hΓ => by
  show wp M Γ (if hasC ((Γ.code, p) :: Γ.below) then PySem.call f vs else pure (.bool true)) _ _ p s
  cases hc : hasC ((Γ.code, p) :: Γ.below) with
  | true => exact h Γ p hΓ hc
  | false => exact h0
theorem treeC_of {prog : Program} {w : World} {s : Shared} {name : Str} {vs : List Value} {mg : Str → Option Value} {f : Value} {Q : Fin → Shared → Prop} {E : Value → Shared → Prop} (hg : s.heap.Ns mainGlobals mg) (hf : mg name = some f)
    (h : wpAny (model prog w) callerA (runC f vs) (fun v s' => Q (.done (.ret v)) s') E s) : wpAny (model prog w) callerA (treeC name vs) Q E s := fun Γ p hΓ => by
  have h1 : wp (model prog w) Γ (if hasC ((Γ.code, p) :: Γ.below) then PySem.call f vs else pure (.bool true)) (fun v _ s' => Q (.done (.ret v)) s') (fun e _ s' => E e s') p s := h Γ p hΓ
  show wp _ Γ (if hasC ((Γ.code, p) :: Γ.below) then (callStub name vs).cur else ret (.bool true)) _ _ p s
  cases hc : hasC ((Γ.code, p) :: Γ.below) with
  | false =>
    rw [hc] at h1
    exact h1
  | true =>
    rw [hc] at h1
    have h2 : wpC (model prog w) callerA (callStub name vs).cur Q E s → wp (model prog w) Γ (callStub name vs).cur (fun a _ s' => Q a s') (fun e _ s' => E e s') p s := fun k => k Γ p hΓ hc
    show wp _ Γ (nsGet mainNs name >>= _) _ _ p s
    rw [Sem.wp_bind']
    refine wpAny_nsGet (Q := fun a s' => ∀ p', wp (model prog w) Γ (match a with | some f => do ret (← PySem.call f vs) | none => unsupported "claim.caller:no-such-global") (fun a _ s' => Q a s') (fun e _ s' => E e s') p' s' ) (E := E) hg ?_ Γ p hΓ |> fun z => Sem.wp_mono _ Γ _ (fun a p' s' k => k p') (fun _ _ _ k => k) p s z
    rw [hf]
    intro p'
    have h3 : wp (model prog w) Γ (PySem.call f vs) (fun v _ s' => Q (.done (.ret v)) s') (fun e _ s' => E e s') p' s := by
      have := h Γ p' hΓ
      have e : hasC ((Γ.code, p') :: Γ.below) = true := hc
      change wp (model prog w) Γ (if hasC ((Γ.code, p') :: Γ.below) then PySem.call f vs else pure (.bool true)) _ _ p' s at this
      rw [e] at this
      exact this
    show wp _ Γ (PySem.call f vs >>= fun v => ret v) _ _ p' s
    rw [Sem.wp_bind']
    exact Sem.wp_mono _ Γ _ (fun _ _ _ k => k) (fun _ _ _ k => k) p' s h3

theorem run_of_treeC {p : Program} {w : World} {name : Str} {vs : List Value} {s s' : Shared} {o : Outcome} (hs : s.asleep) : ∀ n, schedN (denote table) p w n (.single s ⟨treeC name vs, .builtin "claim.caller" {}, default, []⟩) = .halted o s' → ∃ n, schedN (denote table) p w n (.single s (callStub name vs)) = .halted o s'
  | 0, h => nomatch h
  | n + 1, h => by
    have e : step (denote table) p w s ⟨treeC name vs, .builtin "claim.caller" {}, default, []⟩ = .go s (callStub name vs) := rfl
    have e2 := (sstep_single (denote table) p w s ⟨treeC name vs, .builtin "claim.caller" {}, default, []⟩ rfl hs).resolve_right (by rw [e]; intro q; cases q)
    rw [e] at e2
    refine ⟨n, ?_⟩
    have h' := h
    unfold schedN at h'
    rw [e2] at h'
    exact h'

theorem headC {r : OpenRow} {q : Program} {loose : List Str} {Xt : Shared → Bool} {XP : (Str → Option Value) → Heap → Prop} {α : Type} {Yf : Shared → α} {Ya : World → α} {YP : World → Heap → Prop} {d : DefRec} {kwd : List (Str × Expr)} {N : Nat}
    (left : LeftO r.prog q loose Xt Yf Ya N) (hY : ∀ w s, Yf s = Ya w → YP w s.heap) (hYk : ∀ w h h', YP w h → (∀ b o, h.get? b = some o → h'.get? b = some o) → YP w h')
    (hX : ∀ s, Xt s = true → XP (s.heap.nsMap mainGlobals) s.heap) (hXk : ∀ mg h h', XP mg h → (∀ b o, h.get? b = some o → h'.get? b = some o) → XP mg h')
    (hdef : defOf q r.name = some (d, kwd)) (hp : r.prog.theDef r.name = some (d.params, d.body, d.scope)) (hk : kwWritten? d.params.kwonlyargs d.params.kw_defaults = some kwd) (hRf : ∀ s, Xt s = true → RecFacts r.records s.heap) (hwr : (!r.writes || r.records.isEmpty) = true)
    (k1 : r.wellSaid = true) (ok : (chainsOk q && opensWell r.prog && (frees r.toRowW && r.within.isEmpty)) = true) (hb : r.prog.bare) (hw : r.toRowW.promised)
    (call : WalkO q loose XP YP r.toRowW d kwd runC) : r.Holds := by
  have H := open_anyG (r := r.toRowW) (run := runC) (tree := treeC r.name) (defs := if r.pinned then [r.name] else []) (kps := r.keeps) (writes := r.writes) left hY hYk hX hXk hRf hwr ok hb hw
    (fun vs w s mg f Q E hg hf h => treeC_of hg hf h)
    (fun w s hg G n hn => by
      obtain rfl : n = r.name := by split at hn <;> simp_all
      exact pinned_of_view hg G hdef hp hk)
    (fun w s₀ s₁ mg mb G Y args vs as hpre hlay L low => by
      obtain ⟨a, o, pm, cd, doc, dV, kV, h1, h2, h3, h4, h5⟩ := G.fn hdef
      exact ⟨.ref a, h1, call w s₀ s₁ mg mb G Y a o pm cd doc dV kV h2 h3 h4 h5 (defOf_name hdef ▸ h1) L.gens args vs as hpre hlay L.reads L.well (L.low low)⟩)
  refine ⟨k1, hw, H.1, H.2.1, fun w => ⟨(H.2.2 w).1, fun s hs => ?_⟩⟩
  obtain ⟨s₀, hf, hg, s₁, hT, hd, hr, hr2, hC⟩ := (H.2.2 w).2 s hs
  refine ⟨s₀, hf, hg, s₁, hT, hd, hr, hr2, fun args h1 h2 ord h3 => ?_⟩
  obtain ⟨vs, s₂, hl, n, o, s', hrun, rest⟩ := hC args h1 h2 ord h3
  have z : s₂.asleep := Shared.asleep_of_life ((layAllW_rest _ _ _ hl).2.2.2.trans (hT.2.1.trans (fence_lifeW hf))) (AfterImport.life hs)
  obtain ⟨n', hn'⟩ := run_of_treeC z n hrun
  exact ⟨vs, s₂, hl, n', o, s', hn', rest⟩
end Mine
namespace Mine
noncomputable abbrev H1 : Hook := kHook Mine.hd1.heap_39 [2, 3, 6, 15, 17, 18, 20, 21, 22, 24, 25, 27, 28, 29, 31, 32, 34, 35] (fun _ => by kernel_rfl)
theorem left1 : LeftO PySem.Challenge.rw_dm0159_01.row.prog Mine.hd1.view_39 [] (fun s => xlAt Mine.hd1.view_39 [] s && recOk PySem.Challenge.rw_dm0159_01.row.records s) H1.obs H1.val 880 :=
  by intro w; kernel_rfl
end Mine
namespace Mine
theorem headOf1 (walk : WalkO Mine.hd1.view_39 [] (XL Mine.hd1.view_39 []) H1.says PySem.Challenge.rw_dm0159_01.row.toRowW ((defOf Mine.hd1.view_39 PySem.Challenge.rw_dm0159_01.row.name).get (by decide +kernel)).1 [] runC) : PySem.Challenge.rw_dm0159_01.Holds := by
  w_on
  o_law
  refine headC (q := Mine.hd1.view_39) (loose := []) (Xt := fun s => xlAt Mine.hd1.view_39 [] s && recOk PySem.Challenge.rw_dm0159_01.row.records s) (XP := XL Mine.hd1.view_39 []) (Yf := H1.obs) (Ya := H1.val) (YP := H1.says) (N := 880) left1 (Hook.of H1) (Hook.keeps H1) (fun s e => xl_of s (Bool.and_eq_true_iff.mp e).1) XL.keeps (by rfl) (by rfl) (by rfl) (fun s e => recFacts_of (Bool.and_eq_true_iff.mp e).2) (by rfl) (by assumption) (by decide +kernel) ⟨rfl, rfl, rfl, rfl, rfl, by decide +kernel⟩ ?hw walk
  case hw => w_witness2
end Mine
namespace Mine
open PySem.Calls
open Sem (wp)
theorem enterC {M : Model} {A : Around} {s : Shared} {f : Value} {pos : List Value} {kw : List (Str × Value)} {c : ClaimW} {cl : Str → Option Addr} {mean : ExcName → Option Value} {args : List WData} {s₁ : Shared}
    (h : codeC M A (.call f ⟨pos, kw⟩) (GoodWG c cl mean args s₁) s) : wpC M A (PySem.call f pos kw) (fun v s' => GoodWG c cl mean args s₁ (.ok (.ret v)) s') (fun e s' => GoodWG c cl mean args s₁ (.error e) s') s :=
  wpC_call (codeC_mono h fun res s' g => by rcases g.1 with ⟨v, _, _, rfl, _⟩ | ⟨e, _, _, rfl, _⟩ <;> exact g)
/-- a def of the text's own, called -/
theorem fullC {prog : Program} {w : World} {A : Around} {R : Result → Shared → Prop} {s : Shared} {name : Str} {params : Arguments} {body : List Stmt} {scope : Scope}
    {dV kV pm cd doc : Value} {a : Addr} {o : Obj} {args : Args} {binds : List (Str × Value)}
    (hroom : A.depth < recursionLimit) (ho : s.heap.get? a = some o) (hdata : o.data = .func { docDef name params body scope pm cd doc with defaults := dV, kwdefaults := kV }) (hlim : s.heap.NoLimit) (hcd : s.heap.CodeRec cd name)
    (hbind : BindsTo s { docDef name params body scope pm cd doc with defaults := dV, kwdefaults := kV } args binds)
    (hloc : ∀ x ∈ binds, scope.names.lookup x.1 = some .local)
    (h : ∀ h₁, Fr s.heap s.heap.objs.size h₁ (fun x => binds.reverse.lookup x) →
      wpC (model prog w) (A.deeper (envOf name scope s.heap.objs.size a cd)) (execs body (envOf name scope s.heap.objs.size a cd))
        (fun f s' => R (.ok (.ret (match f with | .ret v => v | _ => .none))) s')
        (fun e s' => wpAny (model prog w) (A.deeper (envOf name scope s.heap.objs.size a cd)) (leaving (envOf name scope s.heap.objs.size a cd) e)
          (fun _ s'' => R (.error e) s'') (fun e' s'' => R (.error e') s'') s')
        { s with heap := h₁, toks := s.toks + binds.length })
    (hco : scope.isCoroutine = false := by rfl) (hgen : scope.isGenerator = false := by rfl) (hk : scope.kind = .function := by rfl)
    (hcell : ∀ x ∈ scope.names, x.2 ≠ .cell := by decide) :
    codeC (model prog w) A (.call (.ref a) args) R s :=
  codeC_def hroom ho hdata hlim hcd rfl hbind hcell hloc (fun h₁ hns hkeep => h h₁ ⟨hns, hkeep, Nat.le_refl _⟩) hco hgen hk
end Mine
namespace Mine
open PySem.Calls PySem.NumText
/-- the number that figures tell by eights -/
def octal (ds : List Nat) : Nat := ds.foldl (fun a d => a * 8 + d) 0
theorem octal_snoc (ds : List Nat) (d : Nat) : octal (ds ++ [d]) = octal ds * 8 + d := by
  unfold octal; rw [List.foldl_append]; rfl
/-- the signs of figures -/
def figs (ds : List Nat) : List Nat := ds.map (· + 48)
theorem figs_mem {ds : List Nat} (h : ∀ d ∈ ds, d < 10) : AllDigits (figs ds) := by
  intro c hc
  obtain ⟨d, hd, rfl⟩ := List.mem_map.mp hc
  have := h d hd
  omega
theorem step8 {d : Nat} {p : Array Nat × Bool} (h : d < 10) : step 8 p (d + 48) = if d < 8 then some (p.1.push d, true) else none := by
  unfold NumText.step
  rw [if_neg (by rw [beq_iff_eq]; omega), digit_of (by omega)]
  rfl
theorem numDigits_good : ∀ (ds : List Nat) (a : Array Nat) (b : Bool), (∀ d ∈ ds, d < 8) →
    (figs ds).foldlM (step 8) (a, b) = some (a ++ ds.toArray, b || !ds.isEmpty)
  | [], a, b, _ => by simp [figs]
  | d :: ds, a, b, h => by
    have hd := h d (List.mem_cons_self ..)
    show ((d + 48) :: figs ds).foldlM _ _ = _
    rw [List.foldlM_cons, step8 (by omega), if_pos hd]
    show (figs ds).foldlM _ (a.push d, true) = _
    rw [numDigits_good ds _ _ fun d hd => h d (List.mem_cons_of_mem _ hd)]
    simp
theorem numDigits_bad : ∀ (ds : List Nat) (p : Array Nat × Bool), (∀ d ∈ ds, d < 10) → (∃ d ∈ ds, 8 ≤ d) →
    (figs ds).foldlM (step 8) p = none
  | [], _, _, h => by obtain ⟨_, h, _⟩ := h; cases h
  | d :: ds, p, h, hb => by
    have hd := h d (List.mem_cons_self ..)
    show ((d + 48) :: figs ds).foldlM _ _ = _
    rw [List.foldlM_cons, step8 (by omega)]
    by_cases h8 : d < 8
    · rw [if_pos h8]
      show (figs ds).foldlM _ (p.1.push d, true) = _
      refine numDigits_bad ds _ (fun d hd => h d (List.mem_cons_of_mem _ hd)) ?_
      obtain ⟨e, he, h9⟩ := hb
      rcases List.mem_cons.mp he with rfl | he
      · omega
      · exact ⟨e, he, h9⟩
    · rw [if_neg h8]
      rfl
theorem prefix_none {cs : List Nat} (h : AllDigits cs) : prefix? cs = none := by
  unfold prefix?
  split
  · rename_i c _
    have := h c (by simp)
    rw [if_neg (by simp; omega), if_neg (by simp; omega), if_neg (by simp; omega)]
  · rfl
theorem based8 {cs : List Nat} (h : AllDigits cs) : based 8 cs = (8, false, cs) := by
  unfold based; rw [prefix_none h]; rfl
theorem sign8 {cs : List Nat} (h : AllDigits cs) : sign cs = (false, cs) := by
  cases cs with
  | nil => rfl
  | cons c r => have := h.head; exact sign_of (by omega) (by omega)
theorem read8 {cs : List Nat} (h : AllDigits cs) : (int_private% "readNumeral") 0 8 cs = judge 0 false 8 false (digits? 8 cs) := by
  refine (readNumeral_eq 0 8 cs).trans ?_
  simp only [dropWhile_digits h, sign8 h, based8 h, dropWhile_digits h.reverse, List.reverse_reverse]
theorem read_good {ds : List Nat} (h : ∀ d ∈ ds, d < 8) (hn : ds ≠ []) : (int_private% "readNumeral") 0 8 (figs ds) = (int_private% "Numeral.value") ((octal ds : Nat) : Int) := by
  rw [read8 (figs_mem fun d hd => Nat.lt_trans (h d hd) (by decide))]
  have e : digits? 8 (figs ds) = some ds.toArray := by
    unfold digits?
    have h0 : ds.isEmpty = false := by cases ds with | nil => exact absurd rfl hn | cons _ _ => rfl
    rw [numDigits_good ds #[] false h, h0]
    simp
  rw [e]
  simp [judge, octal]
theorem read_bad {ds : List Nat} (h : ∀ d ∈ ds, d < 10) (hb : ∃ d ∈ ds, 8 ≤ d) : (int_private% "readNumeral") 0 8 (figs ds) = (int_private% "Numeral.invalid") := by
  rw [read8 (figs_mem h)]
  have e : digits? 8 (figs ds) = none := by
    unfold digits?
    rw [numDigits_bad ds (#[], false) h hb]
    rfl
  rw [e]; rfl
theorem seen8 {ds : List Nat} (h : ∀ d ∈ ds, d < 10) : (figs ds).takeWhile (· != 0) = figs ds :=
  takeWhile_all fun c hc => by have := figs_mem h c hc; exact bne_iff_ne.mpr (by omega)

/-- the text of figures -/
def rowOf (ds : List Nat) : Str := ⟨(figs ds).toArray⟩
theorem rowOf_small {ds : List Nat} (h : ∀ d ∈ ds, d < 10) : (rowOf ds).cps.all (· < 128) = true := by
  rw [← Array.all_toList, List.all_eq_true]
  intro c hc
  have := figs_mem h c hc
  exact decide_eq_true (by omega)
end Mine
namespace Mine
open PySem.Calls PySem.NumText
theorem wp_oct {M : Model} {A : Around} {E : Value → Shared → Prop} {s : Shared} {Q : Value → Shared → Prop} {v : Value} {text : List Nat} {n : Int}
    (hs : (text.takeWhile (· != 0)).length ≤ 640) (hr : (int_private% "readNumeral") 0 8 (text.takeWhile (· != 0)) = (int_private% "Numeral.value") n)
    (ha : ((text.takeWhile (· != 0)).length == text.length) = true) (h : Q (.int n s.toks) { s with toks := s.toks + 1 }) :
    wpAny M A ((int_private% "intFromText") v text 8) Q E s := by
  obtain ⟨hp, g, d, tk, os⟩ := s
  repeat (any_goals (first
    | assumption
    | (with_reducible refine wpAny_ite_true (decide_eq_true hs) ?_)
    | (with_reducible refine wpAny_ite_true (decide_eq_true ha) ?_)
    | wp_step))
  all_goals (try rw [hr])
  all_goals (try dsimp only)
  repeat (any_goals (first
    | assumption
    | (with_reducible refine wpAny_ite_true (decide_eq_true hs) ?_)
    | (with_reducible refine wpAny_ite_true (decide_eq_true ha) ?_)
    | wp_step))
theorem typeCall_int_2 (a b : Value) : checkTypeCall "int" ⟨[a, b], []⟩ = pure () := by kernel_rfl
theorem newCall_int_2 (a b : Value) : checkBuiltinCall "int.__new__" ⟨[.type "int", a, b], []⟩ = pure () := by kernel_rfl
theorem init_3 (obj a b : Value) : argsOk "object.__init__" ⟨[obj, a, b], []⟩ := by kernel_rfl
structure Hid (p : Prop) : Prop where
  out : p
theorem text8 {ds : List Nat} (h : ∀ d ∈ ds, d < 10) : numTextOf (rowOf ds) = figs ds ∧ numSeenOf (rowOf ds) = figs ds :=
  numText_signs (x := rowOf ds) fun c hc => .inr (figs_mem h c hc)
theorem gives_oct {ds : List Nat} {u u' : Tok} (hd : ∀ d ∈ ds, d < 8) (hn : ds ≠ []) (hl : ds.length ≤ 640) : Gives (Builtin.«int.__new__» ⟨[.type "int", .str (rowOf ds) u, .int 8 u'], []⟩) (.int ((octal ds : Nat) : Int)) :=
  .of_wp fun M A E s Q h => by
    obtain ⟨hp, g, d, tk, os⟩ := s
    have f1 := F.conv_sub_int
    have f2 := F.madeHere_int
    obtain ⟨e1, e2⟩ := text8 (ds := ds) fun d q => Nat.lt_trans (hd d q) (by decide)
    have hk := Hid.mk (And.intro (show (numSeenOf (rowOf ds)).length ≤ 640 by rw [e2]; simpa [figs] using hl) (And.intro (show (int_private% "readNumeral") 0 8 (numSeenOf (rowOf ds)) = (int_private% "Numeral.value") ((octal ds : Nat) : Int) by rw [e2]; exact read_good hd hn) (show ((numSeenOf (rowOf ds)).length == (numTextOf (rowOf ds)).length) = true by rw [e1, e2]; exact beq_self_eq_true _)))
    clear hd hn hl e1 e2
    repeat (any_goals (first
      | assumption
      | ((with_reducible show wpAny _ _ ((int_private% "intFromText") _ _ _) _ _ _); refine wp_oct hk.out.1 hk.out.2.1 hk.out.2.2 ?_)
      | wp_step))
    all_goals first | exact ⟨_, rfl, h⟩ | skip
section
variable {prog : Program} {w : World} {A : Around} {E : Value → Shared → Prop} {s : Shared} {Q : Value → Shared → Prop} {t u : Tok} {ds : List Nat}
theorem call_oct (hd : ∀ d ∈ ds, d < 8) (hn : ds ≠ []) (hl : ds.length ≤ 640) (h : Q (.int ((octal ds : Nat) : Int) s.toks) { s with toks := s.toks + 1 }) : wpAny (model prog w) A (call (.type "int") [.str (rowOf ds) t, .int 8 u]) Q E s :=
  callType_new F.called_int F.newNe_int (typeCall_int_2 _ _) (newCall_int_2 _ _) (fun obj => init_3 obj _ _) F.entry_int_new (gives_oct hd hn hl).meets (show (Made.int ((octal ds : Nat) : Int)).post _ s from ⟨rfl, h⟩)
end
end Mine
namespace Mine
open PySem.Calls PySem.NumText
section
variable {α β : Type} {M : Model} {A : Around} {E : Value → Shared → Prop} {s : Shared}
theorem wpC_if_pos {c : Prop} [Decidable c] {t e : Sem α} {Q : α → Shared → Prop} (hc : c) (h : wpC M A t Q E s) : wpC M A (if c then t else e) Q E s := by rw [if_pos hc]; exact h
theorem wpC_if_neg {c : Prop} [Decidable c] {t e : Sem α} {Q : α → Shared → Prop} (hc : ¬ c) (h : wpC M A e Q E s) : wpC M A (if c then t else e) Q E s := by rw [if_neg hc]; exact h
theorem wpC_stack {Q : List (Code × Pos) → Shared → Prop} (h : ∀ st, hasC st = true → Q st s) : wpC M A stack Q E s := fun Γ p _ hc => by
  show Q ((Γ.code, p) :: Γ.below) s
  exact h _ hc
theorem not_made {own : List String} {st : List (Code × Pos)} (h : hasC st = true) : pythonCodeMadeTheCall own (st.map (·.1)) = false := by
  show ((!(hasC st) && _) && _) = false
  rw [h]; rfl
/-- under the claim's caller a refusal is not marked -/
theorem wpC_mark {own : List String} {e : Value} {Q : Unit → Shared → Prop} (h : Q () s) : wpC M A (markTheRefusal own e) Q E s := by
  unfold markTheRefusal
  refine wpC_bind (wpC_stack fun st hc => ?_)
  rw [not_made hc]
  exact wpC_pure h
end
section
variable {prog : Program} {w : World} {A : Around} {E : Value → Shared → Prop} {s : Shared} {Q : Value → Shared → Prop} {t u : Tok} {ds : List Nat}
theorem intBadC {x : Str} {text : List Nat} (hh : A.handled = none) (hs : (text.takeWhile (· != 0)).length ≤ 640) (hr : (int_private% "readNumeral") 0 8 (text.takeWhile (· != 0)) = (int_private% "Numeral.invalid"))
    (hz : (reprText x).length ≤ sizeLine)
    (h : ∀ h' tk e, Heap.NewExc s.heap h' e "ValueError" → E (.ref e) { s with heap := h', toks := tk }) : wpC (model prog w) A ((int_private% "intFromText") (.str x t) text 8) Q E s := by
  obtain ⟨hp, g, d, tk, os⟩ := s
  show wpC _ _ (if _ then _ else _) _ _ _
  refine wpC_if_pos hs ?_
  refine wpC_seq (wpAny_pure ?_)
  dsimp only
  rw [hr]
  dsimp only
  refine wpC_seq (wpAny_pure ?_)
  refine wpC_if_neg (by simp) ?_
  refine wpC_seq (wpAny_rule ?_)
  refine wpC_seq (wpAny_pure ?_)
  dsimp only
  refine wpC_seq (wpAny_pyRepr_str ?_ hz)
  refine wpC_seq (wpAny_mkStr ?_ ?_)
  · refine wpC_seq (wpAny_newExc_plain plainExc_ValueError fun h' e hx => ?_)
    refine wpC_bind (wpC_mark ?_)
    refine wpC_of (wpAny_raiseNew_none hh ?_)
    exact h _ _ _ hx.newExc
  · rw [Str.length_append, PySem.ofString_length, sizeLine_eq]
    have e1 : (⟨(reprText x).cps.extract 0 200⟩ : Str).length ≤ 200 := by
      show ((reprText x).cps.extract 0 200).size ≤ 200
      simp only [Array.size_extract]; omega
    have e2 : (toString "invalid literal for int() with base " ++ toString 8 ++ toString ": ").length = 39 := by decide +kernel
    rw [e2]; omega
theorem intNewBadC (hh : A.handled = none) (hd : ∀ d ∈ ds, d < 10) (hb : ∃ d ∈ ds, 8 ≤ d) (hl : ds.length ≤ 640) (hz : (reprText (rowOf ds)).length ≤ sizeLine)
    (h : ∀ h' tk e, Heap.NewExc s.heap h' e "ValueError" → E (.ref e) { s with heap := h', toks := tk }) {Q : Fin → Shared → Prop} :
    wpC (model prog w) A (Builtin.«int.__new__» ⟨[.type "int", .str (rowOf ds) t, .int 8 u], []⟩) Q E s := by
  obtain ⟨e1, e2⟩ := text8 hd
  obtain ⟨hp, g, d, tk, os⟩ := s
  have f1 := F.conv_sub_int
  have f2 := F.madeHere_int
  refine wpC_seq ?_
  repeat (first
    | ((with_reducible show wpC _ _ ((int_private% "intFromText") _ _ _ >>= _) _ _ _); refine wpC_bind (intBadC hh (text := numTextOf (rowOf ds)) ?_ ?_ hz h))
    | wp_step
    | (with_reducible refine wpC_seq ?_)
    | (with_reducible refine wpC_if_neg (by first | decide | simp) ?_)
    | dsimp only
    | refine wpC_seq ?_)
  · show (numSeenOf (rowOf ds)).length ≤ 640
    rw [e2]; simpa [figs] using hl
  · show (int_private% "readNumeral") 0 8 (numSeenOf (rowOf ds)) = _
    rw [e2]; exact read_bad hd hb
theorem codeC_builtin_call {id : String} {args : Args} {b : Builtin} {R : Result → Shared → Prop} (hq : plainId id = true) (hb : entryFor table id = some b) (hc : checkBuiltinCall id args = pure ())
    (h : wpC (model prog w) A.in1 (b args)
      (fun fin s' => match fin with | .done f => R (.ok f) s' | .again c' => c'.quiet = true ∧ codeC (model prog w) A c' R s') (fun e s' => R (.error e) s') s) : codeC (model prog w) A (.call (.builtin id) args) R s := by
  refine codeC_of_tree ?_
  show wpC _ A.in1 (do checkBuiltinCall id args; again (.builtin id args)) _ _ s
  rw [hc]
  refine wpC_seq (wpAny_pure (wpC_pure ⟨plainId_quiet hq args, codeC_of_tree ?_⟩))
  show wpC _ (A.under (.builtin id args)) (match entryFor table id with | some b => b args | none => unsupported ((withoutEnding? id "#data").getD id)) _ _ s
  rw [hb, Around.under_plainId hq args]; exact h
theorem codeC_builtin {id : String} {args : Args} {b : Builtin} {R : Result → Shared → Prop} (hb : entryFor table id = some b)
    (h : wpC (model prog w) (A.under (.builtin id args)) (b args)
      (fun fin s' => match fin with | .done f => R (.ok f) s' | .again c' => c'.quiet = true ∧ codeC (model prog w) A c' R s') (fun e s' => R (.error e) s') s) :
    codeC (model prog w) A (.builtin id args) R s := by
  refine codeC_of_tree ?_
  show wpC _ _ (match entryFor table id with | some b => b args | none => unsupported ((withoutEnding? id "#data").getD id)) _ _ s
  rw [hb]; exact h
theorem callBadC (hh : A.handled = none) (hd : ∀ d ∈ ds, d < 10) (hb : ∃ d ∈ ds, 8 ≤ d) (hl : ds.length ≤ 640) (hz : (reprText (rowOf ds)).length ≤ sizeLine)
    (h : ∀ h' tk e, Heap.NewExc s.heap h' e "ValueError" → E (.ref e) { s with heap := h', toks := tk }) :
    wpC (model prog w) A (call (.type "int") [.str (rowOf ds) t, .int 8 u]) Q E s := by
  have ft := F.called_int
  obtain ⟨c, tl, hmro⟩ := ft.mro
  have hmade := ft.made
  have hsub := ft.sub
  have hct := typeCall_int_2 (.str (rowOf ds) t) (.int 8 u)
  refine wpC_call (codeC_of_tree ?_)
  show wpC _ _ (callAny (.type "int") _) _ _ _
  refine wpC_pure ⟨Code.quiet_builtin _ (by decide +kernel), codeC_builtin F.entry_type_call ?_⟩
  rw [Around.under_plain (weight_type_call_type "int" _ []) (units_type_call_type "int" _ [])]
  have h1 := ft.notType
  have h2 := ft.canCreate
  unfold Builtin.«type.__call__»
  dsimp only
  with_reducible refine wpC_if_neg (by rw [h1]; simp) ?_
  with_reducible refine wpC_if_neg (by rw [h2]; simp) ?_
  repeat (first
    | ((with_reducible show wpC _ _ (holding _ (call (Value.builtin "int.__new__") _ _) >>= _) _ _ _); refine wpC_bind (wpC_holding (wpC_call (codeC_builtin_call ft.plain F.entry_int_new (newCall_int_2 _ _) ?_))))
    | wp_step
    | (with_reducible refine wpC_seq ?_)
    | (with_reducible refine wpC_if_neg (by first | decide | simp) ?_)
    | dsimp only)
  exact intNewBadC (A := A.in1.in1) hh hd hb hl hz h
end
end Mine
namespace Mine
open PySem.Calls
theorem Fr.off {h₀ h h' : Heap} {L I : Addr} {m : Str → Option Value} (F : Fr h₀ L h m) (hL : L ≠ I) (hI : h₀.get? I = none) (hx : Heap.ExtBut I h h') : Fr h₀ L h' m := by
  obtain ⟨oL, a1, a2, hl, a3⟩ := F.ns
  refine ⟨⟨oL, a1, a2, hx _ _ hL hl, a3⟩, fun b o e => hx b o (fun q => ?_) (F.keep b o e), F.above⟩
  rw [q, hI] at e; cases e
theorem News.off {h₀ h h' : Heap} {L I : Addr} {news : List (Addr × Obj)} (N : News h₀ L h news) (hI : ∀ p ∈ news, p.1 ≠ I) (hx : Heap.ExtBut I h h') : News h₀ L h' news :=
  fun p hp => ⟨hx _ _ (hI p hp) (N p hp).1, (N p hp).2⟩
section
variable {prog : Program} {w : World} {A : Around} {E : Value → Shared → Prop} {s : Shared} {name : Str} {scope : Scope} {L a : Addr} {cd : Value} {h₀ : Heap} {x : Str} {body : List Stmt} {Q : Flow → Shared → Prop}
/-- a turn's end -/
def TurnEnd (h₀ : Heap) (L : Addr) (news : List (Addr × Obj)) (J : (Str → Option Value) → Prop) (s s₃ : Shared) : Prop :=
  ∃ h' tk' m', s₃ = { s with heap := h', toks := tk' } ∧ Fr h₀ L h' m' ∧ News h₀ L h' news ∧ J m'
theorem iterC {l : Addr} {ol : Obj} {vs : List Value} {news : List (Addr × Obj)} {m₀ : Str → Option Value} (J : Nat → (Str → Option Value) → Prop)
    (hh : A.handled = none) (F : Fr h₀ L s.heap m₀) (N : News h₀ L s.heap news) (hm : (l, ol) ∈ news) (hcls : ol.cls = .type "list") (hdat : ∃ n, ol.data = .seq vs.toArray n) (hj : J 0 m₀)
    (turn : ∀ i v m₁ h tk it oi, vs[i]? = some v → J i m₁ → Fr h₀ L h (fun y => if y = x then some v else m₁ y) → News h₀ L h ((it, oi) :: news) →
      wpC (model prog w) A (execs body (envOf name scope L a cd)) (fun f s₃ => match f with
        | .next | .cont => TurnEnd h₀ L ((it, oi) :: news) (J (i + 1)) s s₃
        | .brk => Q .next s₃
        | .ret v => Q (.ret v) s₃) (LoopE prog w A (envOf name scope L a cd) E) { s with heap := h, toks := tk })
    (done : ∀ m₁ h tk, J vs.length m₁ → Fr h₀ L h m₁ → News h₀ L h news → Q .next { s with heap := h, toks := tk })
    (hk : scope.kind = .function := by rfl) (hlo : (envOf name scope L a cd).kindOf x = some .local := by rfl) :
    wpAny (model prog w) A (pyIter (.ref l)) (fun it s₂ => ∃ (I : Nat → Shared → Prop) (n : Nat), I n s₂ ∧
      ∀ n s, I n s → wpAny (model prog w) A (pyNext it) (fun r s₁ => match r with
      | none => Q .next s₁
      | some v => wpAny (model prog w) A (storeName (envOf name scope L a cd) x v) (fun _ s₂ => wpC (model prog w) A (execs body (envOf name scope L a cd)) (fun f s₃ => match f with
          | .next | .cont => ∃ m, m < n ∧ I m s₃
          | .brk => Q .next s₃
          | .ret v => Q (.ret v) s₃) (LoopE prog w A (envOf name scope L a cd) E) s₂) (LoopE prog w A (envOf name scope L a cd) E) s₁) (LoopE prog w A (envOf name scope L a cd) E) s) E s := by
  have hls : s.heap.IsList l vs.toArray := ⟨ol, (N _ hm).1, hcls, hdat⟩
  refine wpAny_pyIter_list hls ?_
  have hIL : L ≠ s.heap.objs.size := Nat.ne_of_lt F.ns.lt
  have hI0 : h₀.get? s.heap.objs.size = none := next_is_new F
  have hIN : ∀ p ∈ news, p.1 ≠ s.heap.objs.size := fun p hp => Nat.ne_of_lt (Heap.lt_size (N p hp).1)
  refine ⟨fun n s' => ∃ i m h tk, i ≤ vs.length ∧ n = vs.length - i ∧ s' = { s with heap := h, toks := tk } ∧ h.IsListIter s.heap.objs.size l i ∧ Fr h₀ L h m ∧ News h₀ L h news ∧ J i m, vs.length,
    ⟨0, m₀, _, s.toks, Nat.zero_le _, rfl, rfl, ⟨_, Heap.get?_push_size _ rfl, rfl, rfl⟩, F.push _, fun p hp => ⟨Heap.get?_push_of_some _ (N p hp).1, (N p hp).2⟩, hj⟩, ?_⟩
  rintro n s' ⟨i, m, h, tk, hi, rfl, rfl, hit, F₁, N₁, hJ⟩
  have hl₁ : h.IsList l vs.toArray := ⟨ol, (N₁ _ hm).1, hcls, hdat⟩
  by_cases he : i < vs.length
  · refine wpAny_pyNext_list_item (s := { s with heap := h, toks := tk }) hit hl₁ (x := vs[i]) (by simp [he]) fun h' hit' hs' => ?_
    have F₂ := Fr.off F₁ hIL hI0 hs'.extBut
    have N₂ := News.off N₁ hIN hs'.extBut
    obtain ⟨oi, hoi, hoc, hod⟩ := id hit'
    have N₃ : News h₀ L h' ((s.heap.objs.size, oi) :: news) := by
      intro p hp
      rcases List.mem_cons.mp hp with rfl | hp
      · exact ⟨hoi, Ne.symm hIL, hI0⟩
      · exact N₂ p hp
    refine stN (s := { s with heap := h', toks := tk }) F₂ N₃ (fun h₂ F₄ N₄ => ?_) hk hlo
    refine wpC_mono (turn i vs[i] m h₂ (tk + 1) s.heap.objs.size oi (by simp [he]) hJ F₄ N₄) (fun f s₃ q => ?_) fun _ _ e => e
    have fin : TurnEnd h₀ L ((s.heap.objs.size, oi) :: news) (J (i + 1)) s s₃ → _ := fun ⟨h₅, tk₅, m₅, e, F₅, N₅, hJ₅⟩ =>
      (⟨vs.length - (i + 1), by omega, i + 1, m₅, h₅, tk₅, by omega, rfl, e, ⟨oi, (N₅ _ (.head _)).1, hoc, hod⟩, F₅, fun p hp => N₅ p (.tail _ hp), hJ₅⟩ : ∃ m, m < vs.length - i ∧ ∃ i m_1 h tk, i ≤ vs.length ∧ m = vs.length - i ∧ s₃ = { s with heap := h, toks := tk } ∧ h.IsListIter s.heap.objs.size l i ∧ Fr h₀ L h m_1 ∧ News h₀ L h news ∧ J i m_1)
    cases f with
    | ret v => exact q
    | brk => exact q
    | next => exact fin q
    | cont => exact fin q
  · refine wpAny_pyNext_list_end (s := { s with heap := h, toks := tk }) hh hit hl₁ (by simp; omega) fun h' he' => ?_
    have e : i = vs.length := by omega
    subst e
    exact done m h' tk hJ (Fr.off F₁ hIL hI0 he') (News.off N₁ hIN he')
/-- what a loop over a made list wants, once the list stands -/
def MadeFor (prog : Program) (w : World) (A : Around) (h₀ : Heap) (name : Str) (scope : Scope) (L a : Addr) (cd : Value) (x : Str) (body : List Stmt) (Q : Flow → Shared → Prop) (E : Value → Shared → Prop) (u : Value) (s : Shared) : Prop :=
  ∃ (l : Addr) (ol : Obj) (vs : List Value) (news : List (Addr × Obj)) (m₀ : Str → Option Value) (J : Nat → (Str → Option Value) → Prop), u = .ref l ∧ Fr h₀ L s.heap m₀ ∧ News h₀ L s.heap news ∧ (l, ol) ∈ news ∧ ol.cls = .type "list" ∧ (∃ n, ol.data = .seq vs.toArray n) ∧ J 0 m₀ ∧
    (∀ i v m₁ h tk it oi, vs[i]? = some v → J i m₁ → Fr h₀ L h (fun y => if y = x then some v else m₁ y) → News h₀ L h ((it, oi) :: news) →
      wpC (model prog w) A (execs body (envOf name scope L a cd)) (fun f s₃ => match f with
        | .next | .cont => TurnEnd h₀ L ((it, oi) :: news) (J (i + 1)) s s₃
        | .brk => Q .next s₃
        | .ret v => Q (.ret v) s₃) (LoopE prog w A (envOf name scope L a cd) E) { s with heap := h, toks := tk }) ∧
    (∀ m₁ h tk, J vs.length m₁ → Fr h₀ L h m₁ → News h₀ L h news → Q .next { s with heap := h, toks := tk })
theorem ForMadeC {px pos : Pos} {iter : Expr} (h₀ : Heap) (hh : A.handled = none)
    (h : wpAny (model prog w) A (eval iter (envOf name scope L a cd)) (fun v s₁ => MadeFor prog w A h₀ name scope L a cd x body Q E v s₁) E s)
    (hs : ∀ x, foldedSetIterable iter (envOf name scope L a cd) x = pure x := by intro _; rfl)
    (hk : scope.kind = .function := by rfl) (hlo : (envOf name scope L a cd).kindOf x = some .local := by rfl) :
    wpC (model prog w) A (exec (.For (.Name x px) iter body [] pos) (envOf name scope L a cd)) Q E s :=
  ForC (wpAny_mono h (fun v s₁ q => by
    obtain ⟨l, ol, vs, news, m₀, J, rfl, F, N, hm, hc, hd, hj, turn, done⟩ := q
    exact iterC J hh F N hm hc hd hj turn done hk hlo) fun _ _ e => e) hs
end
end Mine
namespace Mine
abbrev dOf {q : Program} {loose : List Str} {XP : (Str → Option Value) → Heap → Prop} {YP : World → Heap → Prop} {r : RowW} {d : DefRec} {kwd : List (Str × Expr)} {run : Value → List Value → Sem Value} {P : Prop} (_ : WalkO q loose XP YP r d kwd run → P) : DefRec := d
abbrev law1 : DefRec := dOf hd1
def forBody : List Stmt → List Stmt
  | .For _ _ b _ _ :: _ => b
  | _ :: r => forBody r
  | [] => []
abbrev env1 (L fa : Addr) (cd : Value) : Env := envOf law1.name law1.scope L fa cd
abbrev body1 : List Stmt := forBody law1.body
theorem headOf1b (walk : WalkO Mine.hd1.view_39 [] (XL Mine.hd1.view_39 []) H1.says PySem.Challenge.rw_dm0159_01.row.toRowW law1 [] runC) : PySem.Challenge.rw_dm0159_01.Holds := headOf1 walk
def J1 (i : Nat) (m : Str → Option Value) : Prop :=
  ∃ ds tr t tt tn, m (Str.ofString "row") = some (.str (rowOf ds) tr) ∧ m (Str.ofString "text") = some (.str t tt) ∧ m (Str.ofString "number") = some (.int ((octal ds : Nat) : Int) tn) ∧
    (∀ d ∈ ds, d < 8) ∧ ds.length ≤ i ∧ octal ds ≤ 1114111 ∧ t.length ≤ i ∧ PyData.strOk t = true
end Mine
namespace Mine
/-- the frame of the law's call -/
abbrev A1 (L fa : Addr) (cd : Value) : Around := callerA.deeper (env1 L fa cd)
abbrev P1 : Program := PySem.Challenge.rw_dm0159_01.row.prog
/-- m with one name set -/
abbrev put (m : Str → Option Value) (x : String) (v : Value) : Str → Option Value := fun y => if y = Str.ofString x then some v else m y
theorem put_same {m : Str → Option Value} {x : String} {v : Value} (h : m (Str.ofString x) = some v) : m = put m x v := by
  funext y
  unfold put
  by_cases e : y = Str.ofString x
  · rw [if_pos e, e, h]
  · rw [if_neg e]
/-- a statement of the law's frame went by, the frame is m', the ledger news -/
def Went (h₀ : Heap) (L : Addr) (g : Array GenState) (dr : Drawn) (os : OsState) (m' : Str → Option Value) (news : List (Addr × Obj)) (s' : Shared) : Prop :=
  ∃ h' tk', s' = ⟨h', g, dr, tk', os⟩ ∧ Fr h₀ L h' m' ∧ News h₀ L h' news
theorem fig_text : ∀ n : Nat, n < 10 → Str.ofString (toString ((n : Nat) : Int)) = ⟨#[n + 48]⟩ := by decide
theorem row_snoc (ds : List Nat) {f : Int} (h0 : 0 ≤ f) (h1 : f < 10) : rowOf ds ++ Str.ofString (toString f) = rowOf (ds ++ [f.toNat]) := by
  obtain ⟨n, rfl⟩ := Int.eq_ofNat_of_zero_le h0
  rw [fig_text n (by omega)]
  show (⟨(figs ds).toArray ++ #[n + 48]⟩ : Str) = ⟨(figs (ds ++ [(n : Int).toNat])).toArray⟩
  simp [figs]
theorem row_len (ds : List Nat) : (rowOf ds).length = ds.length := by
  show (figs ds).toArray.size = _
  simp [figs]
theorem ok_snoc {t : Str} {k : Nat} (h : PyData.strOk t = true) (hk : k < 1114112) : PyData.strOk (t ++ ⟨#[k]⟩) = true := by
  unfold PyData.strOk at *
  show (t.cps ++ #[k]).all _ = true
  rw [Array.all_append, h]
  simpa using hk
theorem put_ne {m : Str → Option Value} {x : String} {v : Value} {y : Str} (h : y ≠ Str.ofString x) : put m x v y = m y := if_neg h
theorem put_eq {m : Str → Option Value} {x : String} {v : Value} : put m x v (Str.ofString x) = some v := if_pos rfl
/-- an end that the walk leaves alone -/
def EndS (f : Flow) (P : Prop) : Prop := f = .next ∧ P
theorem Went.intro {h₀ h' : Heap} {L : Addr} {g : Array GenState} {dr : Drawn} {os : OsState} {m' m : Str → Option Value} {news news' : List (Addr × Obj)} {tk : Nat} (F : Fr h₀ L h' m) (N : News h₀ L h' news') (hm : m = m') (hn : ∀ p ∈ news, p ∈ news') : Went h₀ L g dr os m' news ⟨h', g, dr, tk, os⟩ :=
  ⟨h', tk, rfl, hm ▸ F, fun p hp => N p (hn p hp)⟩
def stmtAt : List Stmt → Nat → Stmt
  | s :: _, 0 => s
  | _ :: r, n + 1 => stmtAt r n
  | [], _ => .Pass default
end Mine
namespace Mine
section
variable {w : World} {s₀ s₁ : Shared} {mg mb : Str → Option Value} (KX : (hd1.heap_39 w.params).In s₁.heap) (X : Flt.MathXP hd1.view_39 mg s₁.heap) (V : LooseAre [] mg s₁.heap)
  (GL : Glob 0 mg mb (List.map itemOf (recsOf hd1.view_39)) (scalarsOf [] ++ constsW hd1.view_39) [] (namesW hd1.view_39 []) s₁.heap)
  (T : Top hd1.view_39 (looseW hd1.view_39 []) (ExcName.means s₀.heap) mg mb s₁.heap) (B : Tables hd1.view_39 w mg s₁.heap) (TE : TopE hd1.view_39 (looseW hd1.view_39 []) mg s₁.heap) (TW : TopW hd1.view_39 mg s₁.heap)
  (K0 : Below callerA s₁.heap [] s₁.heap)
  {fa : Addr} {cd : Value} {E : Value → Shared → Prop} {g : Array GenState} {dr : Drawn} {os : OsState} {h : Heap} {tk : Nat} {m : Str → Option Value} {it D : Addr} {oi oD : Obj}
include KX X V GL T B TE TW K0
theorem s1 {x : Int} {xt : Tok} (hx : m (Str.ofString "x") = some (.int x xt)) (F : Fr s₁.heap s₁.heap.objs.size h m) (N : News s₁.heap s₁.heap.objs.size h [(it, oi), (D, oD)]) :
    wpAny (model P1 w) (A1 s₁.heap.objs.size fa cd) (exec (stmtAt body1 0) (env1 s₁.heap.objs.size fa cd))
      (fun f s' => EndS f <| ∃ t1 t2, Went s₁.heap s₁.heap.objs.size g dr os (put (put m "rest" (.int (x.fdiv 10) t1)) "figure" (.int (x.fmod 10) t2)) [(it, oi), (D, oD)] s') E ⟨h, g, dr, tk, os⟩ := by
  have e := put_same hx
  rw [e] at F
  revert KX; k_fill; intro KX
  w_top on
  dsimp only [stmtAt, body1, forBody, law1, dOf]
  k_steps
  rename Fr _ _ _ _ => F2
  rename News _ _ _ _ => N2
  rw [← e] at F2
  exact ⟨rfl, _, _, Went.intro F2 N2 rfl (by intro p hp; first | exact hp | exact .tail _ hp)⟩
end
end Mine
namespace Mine
section
variable {w : World} {s₀ s₁ : Shared} {mg mb : Str → Option Value} (KX : (hd1.heap_39 w.params).In s₁.heap) (X : Flt.MathXP hd1.view_39 mg s₁.heap) (V : LooseAre [] mg s₁.heap)
  (GL : Glob 0 mg mb (List.map itemOf (recsOf hd1.view_39)) (scalarsOf [] ++ constsW hd1.view_39) [] (namesW hd1.view_39 []) s₁.heap)
  (T : Top hd1.view_39 (looseW hd1.view_39 []) (ExcName.means s₀.heap) mg mb s₁.heap) (B : Tables hd1.view_39 w mg s₁.heap) (TE : TopE hd1.view_39 (looseW hd1.view_39 []) mg s₁.heap) (TW : TopW hd1.view_39 mg s₁.heap)
  (K0 : Below callerA s₁.heap [] s₁.heap)
  {fa : Addr} {cd : Value} {E : Value → Shared → Prop} {g : Array GenState} {dr : Drawn} {os : OsState} {h : Heap} {tk : Nat} {m : Str → Option Value} {it D : Addr} {oi oD : Obj}
include KX X V GL T B TE TW K0

theorem s2 {r : Int} {rt : Tok} (hx : m (Str.ofString "rest") = some (.int r rt)) (F : Fr s₁.heap s₁.heap.objs.size h m) (N : News s₁.heap s₁.heap.objs.size h [(it, oi), (D, oD)]) :
    wpAny (model P1 w) (A1 s₁.heap.objs.size fa cd) (exec (stmtAt body1 1) (env1 s₁.heap.objs.size fa cd))
      (fun f s' => EndS f <| ∃ t1, Went s₁.heap s₁.heap.objs.size g dr os (put m "code" (.int (r.fmod 1112064) t1)) [(it, oi), (D, oD)] s') E ⟨h, g, dr, tk, os⟩ := by
  have e := put_same hx
  rw [e] at F
  revert KX; k_fill; intro KX
  w_top on
  dsimp only [stmtAt, body1, forBody, law1, dOf]
  k_steps
  rename Fr _ _ _ _ => F2
  rename News _ _ _ _ => N2
  rw [← e] at F2
  exact ⟨rfl, _, Went.intro F2 N2 rfl (by intro p hp; first | exact hp | exact .tail _ hp)⟩
theorem s3 {c : Int} {ct tt : Tok} {t : Str} (hx : m (Str.ofString "code") = some (.int c ct)) (hc0 : 0 ≤ c) (hc1 : c < 1112064) (ht : m (Str.ofString "text") = some (.str t tt)) (htl : t.length ≤ 66) (hto : PyData.strOk t = true) (F : Fr s₁.heap s₁.heap.objs.size h m) (N : News s₁.heap s₁.heap.objs.size h [(it, oi), (D, oD)]) :
    wpAny (model P1 w) (A1 s₁.heap.objs.size fa cd) (exec (stmtAt body1 2) (env1 s₁.heap.objs.size fa cd))
      (fun f s' => EndS f <| ∃ t' t1, t'.length = t.length + 1 ∧ PyData.strOk t' = true ∧ Went s₁.heap s₁.heap.objs.size g dr os (put m "text" (.str t' t1)) [(it, oi), (D, oD)] s') E ⟨h, g, dr, tk, os⟩ := by
  have e : m = put (put m "text" (.str t tt)) "code" (.int c ct) := by rw [← put_same ht]; exact put_same hx
  rw [e] at F
  revert KX; k_fill; intro KX
  w_top on
  dsimp only [stmtAt, body1, forBody, law1, dOf]
  k_steps
  all_goals (
    rename Fr _ _ _ _ => F2
    rename News _ _ _ _ => N2
    rw [← e] at F2
    exact ⟨rfl, _, _, by rw [Str.length_append]; rfl, ok_snoc hto (by omega), Went.intro F2 N2 rfl (by intro p hp; first | exact hp | exact .tail _ hp)⟩)
end
end Mine
namespace Mine
section
variable {w : World} {s₀ s₁ : Shared} {mg mb : Str → Option Value} (KX : (hd1.heap_39 w.params).In s₁.heap) (X : Flt.MathXP hd1.view_39 mg s₁.heap) (V : LooseAre [] mg s₁.heap)
  (GL : Glob 0 mg mb (List.map itemOf (recsOf hd1.view_39)) (scalarsOf [] ++ constsW hd1.view_39) [] (namesW hd1.view_39 []) s₁.heap)
  (T : Top hd1.view_39 (looseW hd1.view_39 []) (ExcName.means s₀.heap) mg mb s₁.heap) (B : Tables hd1.view_39 w mg s₁.heap) (TE : TopE hd1.view_39 (looseW hd1.view_39 []) mg s₁.heap) (TW : TopW hd1.view_39 mg s₁.heap)
  (K0 : Below callerA s₁.heap [] s₁.heap)
  {fa : Addr} {cd : Value} {E : Value → Shared → Prop} {g : Array GenState} {dr : Drawn} {os : OsState} {h : Heap} {tk : Nat} {m : Str → Option Value} {it D : Addr} {oi oD : Obj}
include KX X V GL T B TE TW K0

theorem s4 {f0 : Int} {ft tr : Tok} {ds : List Nat} (hx : m (Str.ofString "figure") = some (.int f0 ft)) (hc0 : 0 ≤ f0) (hc1 : f0 < 10) (ht : m (Str.ofString "row") = some (.str (rowOf ds) tr)) (htl : (rowOf ds).length ≤ 66) (F : Fr s₁.heap s₁.heap.objs.size h m) (N : News s₁.heap s₁.heap.objs.size h [(it, oi), (D, oD)]) :
    wpAny (model P1 w) (A1 s₁.heap.objs.size fa cd) (exec (stmtAt body1 3) (env1 s₁.heap.objs.size fa cd))
      (fun f s' => EndS f <| ∃ t1, Went s₁.heap s₁.heap.objs.size g dr os (put m "row" (.str (rowOf (ds ++ [f0.toNat])) t1)) [(it, oi), (D, oD)] s') E ⟨h, g, dr, tk, os⟩ := by
  have e : m = put (put m "row" (.str (rowOf ds) tr)) "figure" (.int f0 ft) := by rw [← put_same ht]; exact put_same hx
  rw [e] at F
  revert KX; k_fill; intro KX
  w_top on
  dsimp only [stmtAt, body1, forBody, law1, dOf]
  k_steps
  rename Fr _ _ _ _ => F2
  rename News _ _ _ _ => N2
  rw [← e, row_snoc ds hc0 hc1] at F2
  exact ⟨rfl, _, Went.intro F2 N2 rfl (by intro p hp; first | exact hp | exact .tail _ hp)⟩
theorem s5 {f0 n : Int} {ft tn : Tok} (hx : m (Str.ofString "figure") = some (.int f0 ft)) (hc0 : 0 ≤ f0) (hc1 : f0 < 10) (ht : m (Str.ofString "number") = some (.int n tn)) (hn0 : 0 ≤ n) (hn1 : n ≤ 1114111) (F : Fr s₁.heap s₁.heap.objs.size h m) (N : News s₁.heap s₁.heap.objs.size h [(it, oi), (D, oD)]) :
    wpAny (model P1 w) (A1 s₁.heap.objs.size fa cd) (exec (stmtAt body1 4) (env1 s₁.heap.objs.size fa cd))
      (fun f s' => EndS f <| ∃ t1, Went s₁.heap s₁.heap.objs.size g dr os (put m "number" (.int (8 * n + f0) t1)) [(it, oi), (D, oD)] s') E ⟨h, g, dr, tk, os⟩ := by
  have e : m = put (put m "number" (.int n tn)) "figure" (.int f0 ft) := by rw [← put_same ht]; exact put_same hx
  rw [e] at F
  revert KX; k_fill; intro KX
  w_top on
  dsimp only [stmtAt, body1, forBody, law1, dOf]
  k_steps
  rename Fr _ _ _ _ => F2
  rename News _ _ _ _ => N2
  rw [← e] at F2
  exact ⟨rfl, _, Went.intro F2 N2 rfl (by intro p hp; first | exact hp | exact .tail _ hp)⟩
theorem s6 (F : Fr s₁.heap s₁.heap.objs.size h m) (N : News s₁.heap s₁.heap.objs.size h [(it, oi), (D, oD)]) :
    wpAny (model P1 w) (A1 s₁.heap.objs.size fa cd) (exec (stmtAt body1 5) (env1 s₁.heap.objs.size fa cd))
      (fun f s' => EndS f <| ∃ t1, Went s₁.heap s₁.heap.objs.size g dr os (put m "due" (.str (Str.ofString "unasked") t1)) [(it, oi), (D, oD)] s') E ⟨h, g, dr, tk, os⟩ := by
  revert KX; k_fill; intro KX
  w_top on
  dsimp only [stmtAt, body1, forBody, law1, dOf]
  k_steps
  rename Fr _ _ _ _ => F2
  rename News _ _ _ _ => N2
  exact ⟨rfl, _, Went.intro F2 N2 rfl (by intro p hp; first | exact hp | exact .tail _ hp)⟩
end
end Mine
namespace Mine
/-- what the law holds due, and what it has made for it -/
def DueIs (f0 n : Int) (dv : Value) (extra : List (Addr × Obj)) : Prop :=
  ((7 < f0 ∨ 1114111 < n) ∧ ∃ t, dv = .str (Str.ofString "refused") t ∧ extra = []) ∨
  (¬ 7 < f0 ∧ ¬ 1114111 < n ∧ ∃ l t, dv = .ref l ∧ extra = [(l, W.listOf #[.str ⟨#[n.toNat]⟩ t] 0)]) ∨
  (¬ 7 < f0 ∧ ¬ 1114111 < n ∧ ∃ t, dv = .str (Str.ofString "unasked") t ∧ extra = [])
section
variable {w : World} {s₀ s₁ : Shared} {mg mb : Str → Option Value} (KX : (hd1.heap_39 w.params).In s₁.heap) (X : Flt.MathXP hd1.view_39 mg s₁.heap) (V : LooseAre [] mg s₁.heap)
  (GL : Glob 0 mg mb (List.map itemOf (recsOf hd1.view_39)) (scalarsOf [] ++ constsW hd1.view_39) [] (namesW hd1.view_39 []) s₁.heap)
  (T : Top hd1.view_39 (looseW hd1.view_39 []) (ExcName.means s₀.heap) mg mb s₁.heap) (B : Tables hd1.view_39 w mg s₁.heap) (TE : TopE hd1.view_39 (looseW hd1.view_39 []) mg s₁.heap) (TW : TopW hd1.view_39 mg s₁.heap)
  (K0 : Below callerA s₁.heap [] s₁.heap)
  {fa : Addr} {cd : Value} {E : Value → Shared → Prop} {g : Array GenState} {dr : Drawn} {os : OsState} {h : Heap} {tk : Nat} {m : Str → Option Value} {it D : Addr} {oi oD : Obj}
include KX X V GL T B TE TW K0

theorem s7 {f0 n : Int} {ft tn td : Tok} (hx : m (Str.ofString "figure") = some (.int f0 ft)) (hc0 : 0 ≤ f0) (hc1 : f0 < 10) (ht : m (Str.ofString "number") = some (.int n tn)) (hn0 : 0 ≤ n) (hn1 : n ≤ 9000000)
    (hd : m (Str.ofString "due") = some (.str (Str.ofString "unasked") td)) (F : Fr s₁.heap s₁.heap.objs.size h m) (N : News s₁.heap s₁.heap.objs.size h [(it, oi), (D, oD)]) :
    wpAny (model P1 w) (A1 s₁.heap.objs.size fa cd) (exec (stmtAt body1 6) (env1 s₁.heap.objs.size fa cd))
      (fun f s' => EndS f <| ∃ dv extra, DueIs f0 n dv extra ∧ Went s₁.heap s₁.heap.objs.size g dr os (put m "due" dv) (extra ++ [(it, oi), (D, oD)]) s') E ⟨h, g, dr, tk, os⟩ := by
  have e : m = put (put (put m "due" (.str (Str.ofString "unasked") td)) "number" (.int n tn)) "figure" (.int f0 ft) := by rw [← put_same hd, ← put_same ht]; exact put_same hx
  rw [e] at F
  revert KX; k_fill; intro KX
  w_top on
  dsimp only [stmtAt, body1, forBody, law1, dOf]
  k_steps
  all_goals (
    rename Fr _ _ _ _ => F2
    rename News _ _ _ _ => N2
    rw [← e] at F2)
  · exact ⟨rfl, _, _, .inl ⟨.inl (by assumption), _, rfl, rfl⟩, Went.intro F2 N2 rfl fun p hp => hp⟩
  · exact ⟨rfl, _, _, .inl ⟨.inr (by assumption), _, rfl, rfl⟩, Went.intro F2 N2 rfl fun p hp => hp⟩
  · exact ⟨rfl, _, _, .inr (.inl ⟨by assumption, by assumption, _, _, rfl, rfl⟩), Went.intro F2 N2 rfl fun p hp => hp⟩
  · exact ⟨rfl, _, _, .inr (.inl ⟨by assumption, by assumption, _, _, rfl, rfl⟩), Went.intro F2 N2 rfl fun p hp => hp⟩
  · exact ⟨rfl, _, _, .inr (.inr ⟨by assumption, by assumption, _, rfl, rfl⟩), Went.intro F2 N2 (put_same hd) fun p hp => hp⟩
end
end Mine
namespace Mine
open PySem.Builtin
section
variable {prog : Program} {w : World} {A : Around} {E : Value → Shared → Prop} {s : Shared}
theorem evalArgsS {f : Value} {trees : List (Bool × Sem Value)} {Q : Args → Shared → Prop} {M : Model} (ht : ∃ x rest, trees = (false, x) :: rest)
    (h : wpAny M A (spliced trees) (fun vs s' => Q ⟨vs, []⟩ s') E s) : wpAny M A (evalArgs f true trees []) Q E s := by
  obtain ⟨x, rest, rfl⟩ := ht
  exact Calls.evalArgs_plain h
theorem reprRow {ds : List Nat} (h : ∀ d ∈ ds, d < 10) (hl : ds.length ≤ 640) : (reprText (rowOf ds)).length ≤ sizeLine := by
  have := StrLaws.reprText_len (rowOf ds) (fun c hc => by have := figs_mem h c hc; omega)
  rw [row_len] at this
  rw [sizeLine_eq]; omega
/-- a call of a function that stands -/
def CallRef (M : Model) (A : Around) (a : Addr) (o : Obj) (Q : Value → Shared → Prop) (E : Value → Shared → Prop) (vs : List Value) (s : Shared) : Prop := s.heap.get? a = some o ∧ wpC M A (call (.ref a) vs []) Q E s
theorem callWithC_ref {M : Model} {pos : Pos} {a : Addr} {o : Obj} {fd : FuncData} {args : List (Bool × Sem Value)} {Q : Value → Shared → Prop} (hd : o.data = .func fd) (hplain : args.any (·.1) = false) (ht : ∃ x rest, args = (false, x) :: rest)
    (h : wpAny M A (spliced args) (fun vs s₁ => CallRef M A a o Q E vs s₁) E s) : wpC M A (callWith pos (.ref a) [] args []) Q E s :=
  callWithC_fn (o := o) (fd := fd) hplain (wpC_of (evalArgsS ht (wpAny_mono h (fun _ _ q => ⟨⟨q.1, hd⟩, q.2⟩) fun _ _ x => x)))
/-- a def of the text's own, by its name -/
theorem nameFn {M : Model} {h₀ : Heap} {L a : Addr} {m mg mb : Str → Option Value} {name : Str} {scope : Scope} {cd : Value} {p : Program} {loose : List Str} {mean : ExcName → Option Value} {d : DefRec} {pos : Pos} {Q : Value → Shared → Prop}
    (F : Fr h₀ L s.heap m) (T : Top p loose mean mg mb h₀) (hm : d ∈ recsOf p)
    (h : ∀ f o pm code doc, h₀.get? f = some o → o.data = .func (Calls.docDef d.name d.params d.body d.scope pm code doc) → h₀.CodeRec code d.name → Q (.ref f) s)
    (hk : scope.kind = .function := by rfl) (hx : (envOf name scope L a cd).kindOf d.name = some .globalImplicit := by rfl) (hd : (d.name == ("__debug__" : Str)) = false := by decide +kernel) :
    wpAny M A (eval (.Name d.name pos) (envOf name scope L a cd)) Q E s := by
  obtain ⟨f, o, pm, code, doc, h1, h2, h3, h4⟩ := T.fn d hm
  exact ld_global_at F T.g h1 (h f o pm code doc h2 h3 h4) hk hx hd
theorem truthRow {ds : List Nat} (hn : ds ≠ []) : (rowOf ds).length ≠ 0 := by
  rw [row_len]; intro e; exact hn (List.length_eq_zero_iff.mp e)
theorem truthyRow {ds : List Nat} {t : Tok} {Q : Bool → Shared → Prop} (hn : ds ≠ []) (hl : ds.length ≤ 640) (h : Q true { s with toks := s.toks + 1 + 1 }) : wpAny (model prog w) A (truthy (.str (rowOf ds) t)) Q E s := by
  refine PySem.P.truthy_str (by rw [row_len]; omega) ?_
  have e : (((rowOf ds).length : Int) != 0) = true := by
    have := truthRow hn
    rw [bne_iff_ne]; omega
  rw [e]; exact h
theorem chr_bad_meets (i : Int) (t : Tok) (h : 1114111 < i) : Meets («chr» ⟨[.int i t], []⟩) (raisesNew "ValueError") := by
  show Meets (if (decide (i < 0) || decide (i > 0x10FFFF)) = true then _ else retStr ⟨#[i.toNat]⟩) _
  rw [if_pos (by simp; omega)]
  exact Meets.rule (fun prog w A R s hs => by
    refine wpAny_bind ?_
    exact_raiseError plainExc_ValueError hs.1 (fun h' tk e hx => hs.2 h' tk e hx))
theorem chr_bad {i : Int} {t : Tok} {Q : Value → Shared → Prop} (hA : A.handled = none) (hi : 1114111 < i) (h : ∀ h' tk e, Heap.NewExc s.heap h' e "ValueError" → E (.ref e) { s with heap := h', toks := tk }) :
    wpAny (model prog w) A (call (.builtin "chr") [.int i t]) Q E s :=
  call_function_meets F.kind_chr F.plain_chr F.entry_chr (F.args_chr1 _) (chr_bad_meets i t hi) ⟨hA, h⟩
end
end Mine
namespace Mine
noncomputable abbrev uDef : DefRec := ((defOf hd1.view_39 (Str.ofString "_unquote_replace")).get (by decide +kernel)).1
noncomputable abbrev tDef : DefRec := ((defOf hd1.view_39 (Str.ofString "_law_told")).get (by decide +kernel)).1
theorem uMem : uDef ∈ recsOf hd1.view_39 := List.Mem.head _
theorem tMem : tDef ∈ recsOf hd1.view_39 := List.Mem.tail _ (List.Mem.head _)
section
variable {w : World} {mg mb : Str → Option Value} {mean : ExcName → Option Value} {s : Shared} (KX : (hd1.heap_39 w.params).In s.heap) (X : Flt.MathXP hd1.view_39 mg s.heap) (V : LooseAre [] mg s.heap)
  (GL : Glob 0 mg mb (List.map itemOf (recsOf hd1.view_39)) (scalarsOf [] ++ constsW hd1.view_39) [] (namesW hd1.view_39 []) s.heap)
  (T : Top hd1.view_39 (looseW hd1.view_39 []) mean mg mb s.heap) (B : Tables hd1.view_39 w mg s.heap) (TE : TopE hd1.view_39 (looseW hd1.view_39 []) mg s.heap) (TW : TopW hd1.view_39 mg s.heap)
  {A : Around} {fU : Addr} {o : Obj} {pm cd doc : Value} {R : Result → Shared → Prop} {Tp : Addr} {ot : Obj}
  (hf : s.heap.get? fU = some o) (hd : o.data = .func (Calls.docDef uDef.name uDef.params uDef.body uDef.scope pm cd doc)) (hcd : s.heap.CodeRec cd uDef.name)
  (hroom : A.depth < recursionLimit) (hA : A.handled = none) {tk0 : Tok} {fig beh : Value}
  (hT : IsTup s.heap Tp #[.str (Str.ofString "k") tk0, fig, beh])
include KX X V GL T B TE TW hf hd hcd hroom hA hT
theorem u_none (hfig : fig = .none) (hR : ∀ h' tk, s.heap.StaysIn h' → R (.ok (.ret beh)) { s with heap := h', toks := tk }) : codeAny (model P1 w) A (.call (.ref fU) ⟨[.ref Tp], []⟩) R s := by
  subst hfig
  revert KX; k_fill; intro KX
  w_top on
  refine call_fullW (dV := .none) (kV := .none) hroom hf hd (Top.nolimit T) hcd (BindsTo.of_eq rfl) (locs rfl) fun h₁ F => ?_
  w_binds F
  have N0 := (News.nil : News _ _ _ []).at F
  k_steps
  exact hR _ _ F.keep
theorem u_empty {t : Tok} (hfig : fig = .str (Str.ofString "") t) (hR : ∀ h' tk, s.heap.StaysIn h' → R (.ok (.ret beh)) { s with heap := h', toks := tk }) : codeAny (model P1 w) A (.call (.ref fU) ⟨[.ref Tp], []⟩) R s := by
  subst hfig
  revert KX; k_fill; intro KX
  w_top on
  refine call_fullW (dV := .none) (kV := .none) hroom hf hd (Top.nolimit T) hcd (BindsTo.of_eq rfl) (locs rfl) fun h₁ F => ?_
  w_binds F
  have N0 := (News.nil : News _ _ _ []).at F
  k_steps
  exact hR _ _ F.keep
local macro_rules | `(tactic| walk_at "truthy str") => `(tactic| (k_here; (with_reducible show wpAny _ _ (PySem.truthy (Value.str (rowOf _) _)) _ _ _); refine truthyRow (by assumption) (by assumption) ?_))
local macro_rules | `(tactic| walk_at "call type:int") => `(tactic| (k_here; (with_reducible show wpAny _ _ (call (Value.type "int") [Value.str (rowOf _) _, Value.int 8 _]) _ _ _); refine call_oct (by assumption) (by assumption) (by assumption) ?_))
theorem u_good {t : Tok} {ds : List Nat} (hfig : fig = .str (rowOf ds) t) (hds : ∀ d ∈ ds, d < 8) (hn : ds ≠ []) (hl : ds.length ≤ 640) (ho : octal ds ≤ 1114111) (hR : ∀ h' tk t', s.heap.StaysIn h' → R (.ok (.ret (.str ⟨#[octal ds]⟩ t'))) { s with heap := h', toks := tk }) : codeAny (model P1 w) A (.call (.ref fU) ⟨[.ref Tp], []⟩) R s := by
  subst hfig
  have hlen := truthRow hn
  have ho' : ((octal ds : Nat) : Int) ≤ 1114111 := by omega
  revert KX; k_fill; intro KX
  w_top on
  refine call_fullW (dV := .none) (kV := .none) hroom hf hd (Top.nolimit T) hcd (BindsTo.of_eq rfl) (locs rfl) fun h₁ F => ?_
  w_binds F
  have N0 := (News.nil : News _ _ _ []).at F
  k_steps
  exact hR _ _ _ F.keep
end
end Mine
namespace Mine
section
variable {w : World} {mg mb : Str → Option Value} {mean : ExcName → Option Value} {s : Shared} (KX : (hd1.heap_39 w.params).In s.heap) (X : Flt.MathXP hd1.view_39 mg s.heap) (V : LooseAre [] mg s.heap)
  (GL : Glob 0 mg mb (List.map itemOf (recsOf hd1.view_39)) (scalarsOf [] ++ constsW hd1.view_39) [] (namesW hd1.view_39 []) s.heap)
  (T : Top hd1.view_39 (looseW hd1.view_39 []) mean mg mb s.heap) (B : Tables hd1.view_39 w mg s.heap) (TE : TopE hd1.view_39 (looseW hd1.view_39 []) mg s.heap) (TW : TopW hd1.view_39 mg s.heap)
  {A : Around} {fU : Addr} {o : Obj} {pm cd doc : Value} {R : Result → Shared → Prop} {Tp : Addr} {ot : Obj}
  (hf : s.heap.get? fU = some o) (hd : o.data = .func (Calls.docDef uDef.name uDef.params uDef.body uDef.scope pm cd doc)) (hcd : s.heap.CodeRec cd uDef.name)
  (hroom : A.depth < recursionLimit) (hA : A.handled = none) {tk0 : Tok} {fig beh : Value}
  (hT : IsTup s.heap Tp #[.str (Str.ofString "k") tk0, fig, beh])
include KX X V GL T B TE TW hf hd hcd hroom hA hT
local macro_rules | `(tactic| walk_at "truthy str") => `(tactic| (k_here; (with_reducible show wpAny _ _ (PySem.truthy (Value.str (rowOf _) _)) _ _ _); refine truthyRow (by assumption) (by assumption) ?_))
local macro_rules | `(tactic| walk_at "call type:int") => `(tactic| (k_here; (with_reducible show wpAny _ _ (call (Value.type "int") [Value.str (rowOf _) _, Value.int 8 _]) _ _ _); refine call_oct (by assumption) (by assumption) (by assumption) ?_))

local macro_rules | `(tactic| walk_at "call builtin:chr") => `(tactic| (k_here; (with_reducible show wpAny _ _ (call (Value.builtin "chr") [Value.int _ _]) _ _ _); refine chr_bad (by assumption) (by assumption) ?_; intro h' tk' e' x'))
local macro_rules | `(tactic| walk_at "leaving ref") => `(tactic| (k_here; refine leave_newS (by assumption) (by assumption) (by assumption) (by assumption) ?_; intro h' R' RN' U'))
theorem u_chr {t : Tok} {ds : List Nat} {base : Heap} {outer : List Env} (hfig : fig = .str (rowOf ds) t) (hds : ∀ d ∈ ds, d < 8) (hn : ds ≠ []) (hl : ds.length ≤ 640) (ho : 1114111 < octal ds) (K : Below A base outer s.heap)
    (hR : ∀ h' tk e, RaisedSN base s.heap outer e (.type "ValueError") [] h' → s.heap.UpToSlots h' → R (.error (.ref e)) { s with heap := h', toks := tk }) : codeAny (model P1 w) A (.call (.ref fU) ⟨[.ref Tp], []⟩) R s := by
  subst hfig
  have ho' : 1114111 < ((octal ds : Nat) : Int) := by omega
  revert KX; k_fill; intro KX
  w_top on
  refine call_fullW (dV := .none) (kV := .none) hroom hf hd (Top.nolimit T) hcd (BindsTo.of_eq rfl) (locs rfl) fun h₁ F => ?_
  w_binds F
  have N0 := (News.nil : News _ _ _ []).at F
  k_steps
  exact hR _ _ _ (by assumption) (by assumption)
theorem u_bad {t : Tok} {ds : List Nat} {base : Heap} {outer : List Env} (hfig : fig = .str (rowOf ds) t) (hds : ∀ d ∈ ds, d < 10) (hb : ∃ d ∈ ds, 8 ≤ d) (hl : ds.length ≤ 640) (K : Below A base outer s.heap)
    (hR : ∀ h' tk e, RaisedSN base s.heap outer e (.type "ValueError") [] h' → s.heap.UpToSlots h' → R (.error (.ref e)) { s with heap := h', toks := tk }) : codeC (model P1 w) A (.call (.ref fU) ⟨[.ref Tp], []⟩) R s := by
  subst hfig
  have hn : ds ≠ [] := by rintro rfl; obtain ⟨_, q, _⟩ := hb; cases q
  revert KX; k_fill; intro KX
  w_top on
  refine fullC (dV := .none) (kV := .none) hroom hf hd (Top.nolimit T) hcd (BindsTo.of_eq rfl) (locs rfl) fun h₁ F => ?_
  w_binds F
  have N0 := (News.nil : News _ _ _ []).at F
  refine execsC_cons (IfC (wpC_of ?_))
  k_steps
  refine execsC_cons (ReturnC (CallC rfl ?_))
  k_steps
  refine callWithC_builtin rfl (evalArgsC1 (CallC rfl ?_))
  k_steps
  refine callWithC_type rfl (wpC_of (evalArgsS ⟨_, _, rfl⟩ ?_))
  k_steps
  refine callBadC hA hds hb hl (reprRow hds hl) fun h' tk' e' hx => ?_
  exact leave_newS K hx F N0 fun h'' R' _ U' => hR _ _ _ R' U'
end
end Mine
namespace Mine
/-- what _unquote_replace gives -/
def UGives (fig beh v : Value) : Prop :=
  (fig = .none ∧ v = beh) ∨ (∃ t, fig = .str (Str.ofString "") t ∧ v = beh) ∨
  ∃ t ds t', fig = .str (rowOf ds) t ∧ (∀ d ∈ ds, d < 8) ∧ ds ≠ [] ∧ ds.length ≤ 640 ∧ octal ds ≤ 1114111 ∧ v = .str ⟨#[octal ds]⟩ t'
/-- where it refuses -/
def URefuses (fig : Value) : Prop :=
  ∃ t ds, fig = .str (rowOf ds) t ∧ ds ≠ [] ∧ ds.length ≤ 640 ∧ (((∀ d ∈ ds, d < 10) ∧ ∃ d ∈ ds, 8 ≤ d) ∨ ((∀ d ∈ ds, d < 8) ∧ 1114111 < octal ds))
section
variable {w : World} {mg mb : Str → Option Value} {mean : ExcName → Option Value} {s : Shared} (KX : (hd1.heap_39 w.params).In s.heap) (X : Flt.MathXP hd1.view_39 mg s.heap) (V : LooseAre [] mg s.heap)
  (GL : Glob 0 mg mb (List.map itemOf (recsOf hd1.view_39)) (scalarsOf [] ++ constsW hd1.view_39) [] (namesW hd1.view_39 []) s.heap)
  (T : Top hd1.view_39 (looseW hd1.view_39 []) mean mg mb s.heap) (B : Tables hd1.view_39 w mg s.heap) (TE : TopE hd1.view_39 (looseW hd1.view_39 []) mg s.heap) (TW : TopW hd1.view_39 mg s.heap)
  {A : Around} {fU : Addr} {o : Obj} {pm cd doc : Value} {R : Result → Shared → Prop} {Tp : Addr} {ot : Obj}
  (hf : s.heap.get? fU = some o) (hd : o.data = .func (Calls.docDef uDef.name uDef.params uDef.body uDef.scope pm cd doc)) (hcd : s.heap.CodeRec cd uDef.name)
  (hroom : A.depth < recursionLimit) (hA : A.handled = none) {tk0 : Tok} {fig beh : Value}
  (hT : IsTup s.heap Tp #[.str (Str.ofString "k") tk0, fig, beh])
include KX X V GL T B TE TW hf hd hcd hroom hA hT

theorem uC {base : Heap} {outer : List Env} (K : Below A base outer s.heap) (hcase : (∃ v, UGives fig beh v) ∨ URefuses fig)
    (hok : ∀ v h' tk, UGives fig beh v → s.heap.StaysIn h' → R (.ok (.ret v)) { s with heap := h', toks := tk })
    (hbad : ∀ h' tk e, URefuses fig → RaisedSN base s.heap outer e (.type "ValueError") [] h' → s.heap.UpToSlots h' → R (.error (.ref e)) { s with heap := h', toks := tk }) :
    codeC (model P1 w) A (.call (.ref fU) ⟨[.ref Tp], []⟩) R s := by
  rcases hcase with ⟨v, h⟩ | h
  · rcases h with ⟨h1, _⟩ | ⟨t, h1, _⟩ | ⟨t, ds, t', h1, h2, h3, h4, h5, _⟩
    · exact codeC_of (u_none KX X V GL T B TE TW hf hd hcd hroom hA hT h1 fun h' tk k => hok _ _ _ (.inl ⟨h1, rfl⟩) k)
    · exact codeC_of (u_empty KX X V GL T B TE TW hf hd hcd hroom hA hT h1 fun h' tk k => hok _ _ _ (.inr (.inl ⟨t, h1, rfl⟩)) k)
    · exact codeC_of (u_good KX X V GL T B TE TW hf hd hcd hroom hA hT h1 h2 h3 h4 h5 fun h' tk t' k => hok _ _ _ (.inr (.inr ⟨t, ds, t', h1, h2, h3, h4, h5, rfl⟩)) k)
  · obtain ⟨t, ds, h1, h2, h3, h4⟩ := id h
    rcases h4 with ⟨h5, h6⟩ | ⟨h5, h6⟩
    · exact u_bad KX X V GL T B TE TW hf hd hcd hroom hA hT h1 h5 h6 h3 K fun h' tk e r u => hbad h' tk e h r u
    · exact codeC_of (u_chr KX X V GL T B TE TW hf hd hcd hroom hA hT h1 h5 h2 h3 h6 K fun h' tk e r u => hbad h' tk e h r u)
end
end Mine
namespace Mine
section
variable {w : World} {s₀ s₁ : Shared} {mg mb : Str → Option Value} (KX : (hd1.heap_39 w.params).In s₁.heap) (X : Flt.MathXP hd1.view_39 mg s₁.heap) (V : LooseAre [] mg s₁.heap)
  (GL : Glob 0 mg mb (List.map itemOf (recsOf hd1.view_39)) (scalarsOf [] ++ constsW hd1.view_39) [] (namesW hd1.view_39 []) s₁.heap)
  (T : Top hd1.view_39 (looseW hd1.view_39 []) (ExcName.means s₀.heap) mg mb s₁.heap) (B : Tables hd1.view_39 w mg s₁.heap) (TE : TopE hd1.view_39 (looseW hd1.view_39 []) mg s₁.heap) (TW : TopW hd1.view_39 mg s₁.heap)
  (K0 : Below callerA s₁.heap [] s₁.heap)
  {L fa : Addr} {cd : Value} {m : Str → Option Value} {s : Shared} {fT : Addr} {o : Obj} {pm cdT doc : Value} {fig beh : Value} {R : Result → Shared → Prop}
include KX X V GL T B TE TW K0
theorem toldC (F : Fr s₁.heap L s.heap m) (hf : s.heap.get? fT = some o) (hd : o.data = .func (Calls.docDef tDef.name tDef.params tDef.body tDef.scope pm cdT doc)) (hcd : s.heap.CodeRec cdT tDef.name)
    (hcase : (∃ v, UGives fig beh v) ∨ URefuses fig)
    (hok : ∀ v h' tk l c, UGives fig beh v → s.heap.StaysIn h' → h'.get? l = some (W.listOf #[v] c) → s.heap.get? l = none → R (.ok (.ret (.ref l))) { s with heap := h', toks := tk })
    (hbad : ∀ g' h' tk t, URefuses fig → KtsTurn [L] s.heap g' → g'.StaysIn h' → R (.ok (.ret (.str (Str.ofString "refused") t))) { s with heap := h', toks := tk }) :
    codeC (model P1 w) (A1 L fa cd) (.call (.ref fT) ⟨[fig, beh], []⟩) R s := by
  have KB := KX
  have TB := T
  have K1 := K0.push (name := law1.name) (scope := law1.scope) (a := fa) (cd := cd) F
  have D1 : KtsDicts ([env1 L fa cd].filterMap (·.frame)) s.heap := by
    intro b hb
    obtain rfl : b = L := by simpa [env1, envOf] using hb
    obtain ⟨oL, es, ep, hL, hLd, _⟩ := F.ns
    exact ⟨oL, es, ep, hL, hLd⟩
  replace KX := KX.keeps F.keep
  replace X := Flt.MathXP.keeps _ _ _ X F.keep
  replace V := V.keeps F.keep
  replace GL := GL.keeps F.keep
  replace T := T.keeps F.keep
  replace B := B.keeps F.keep
  replace TE := TE.keeps F.keep
  replace TW := TW.keeps F.keep
  clear F
  revert KX; k_fill; intro KX
  w_top on
  refine fullC (dV := .none) (kV := .none) (by k_room) hf hd (Top.nolimit T) hcd (BindsTo.of_eq rfl) (locs rfl) fun h₁ F => ?_
  w_binds F
  have N0 := (News.nil : News _ _ _ []).at F
  refine execsC_cons (TryC (execsC_cons (ReturnC (ListC1 rfl (CallC rfl ?_)))))
  refine nameFn (d := uDef) F T uMem ?_
  intro fU oU pmU cU docU hfU hdU hcU
  refine callWithC_ref hdU rfl ⟨_, _, rfl⟩ ?_
  k_steps
  rename Fr _ _ _ _ => F2
  rename News _ _ _ _ => N2
  have K2 := K1.push (name := tDef.name) (scope := tDef.scope) (a := fT) (cd := cdT) F2
  refine ⟨F2.keep _ _ hfU, wpC_call (uC (KX.keeps F2.keep) (Flt.MathXP.keeps _ _ _ X F2.keep) (V.keeps F2.keep) (GL.keeps F2.keep) (T.keeps F2.keep) (B.keeps F2.keep) (TE.keeps F2.keep) (TW.keeps F2.keep) (F2.keep _ _ hfU) hdU (hcU.keeps F2.keep) ?room rfl (News.isTup N2 (.head _)) K2 hcase ?ok ?bad)⟩
  case room => k_room
  case ok =>
    intro v h' tk hg hs
    dsimp only
    refine wpAny_newList (hok v _ _ _ 0 hg ?_ ?_ ?_) (by show 1 ≤ sizeLine; decide)
    · exact fun b o e => Heap.get?_push_of_some _ (hs b o (F2.keep b o e))
    · exact Heap.get?_push_size _ rfl
    · cases q : s.heap.get? h'.objs.size with
      | none => rfl
      | some o => exact absurd (Heap.lt_size (hs _ _ (F2.keep _ _ q))) (Nat.lt_irrefl _)
  case bad =>
    intro h' tk e hr R' U'
    dsimp only
    refine caught_SN0 (T' := "ValueError") R' F2 K1 U' KB TB D1 KtsTurn.refl ?ex PyProof.Rows.Boot.«ValueError» ?hn PySem.F.isExc_ValueError PySem.F.notTuple_ValueError ?hsub ?_
    case ex => first | exact (by kernel_rfl) | rfl
    case hn => decide
    case hsub => rw [isSubtype_type]; kernel_rfl
    intro h3 g3 T3 F3 N3 K3 X3 P3 D3
    clear F2 N2 KX X V GL T B TE TW
    k_steps

    exact hbad g3 _ _ _ hr T3 F3.keep
end
end Mine
namespace Mine
/-- behind the call of a def that caught: the frame and the ledger stand -/
theorem turned_F {h₀ h g' h' : Heap} {L : Addr} {m : Str → Option Value} (F : Fr h₀ L h m) (T : KtsTurn [L] h g') (hs : g'.StaysIn h') : Fr h₀ L h' m := by
  obtain ⟨oL, es, ep, hL, hLd, hLk, hLf⟩ := F.ns
  obtain ⟨sl, hsl⟩ := T.up hL
  refine ⟨⟨_, es, ep, hs _ _ hsl, hLd, hLk, hLf⟩, fun b o e => hs b o (T.other b o (F.keep b o e) fun hb => ?_), F.above⟩
  rw [List.mem_singleton.mp hb, kts_self F] at e; cases e
theorem turned_N {h₀ h g' h' : Heap} {L : Addr} {news : List (Addr × Obj)} (N : News h₀ L h news) (T : KtsTurn [L] h g') (hs : g'.StaysIn h') : News h₀ L h' news :=
  fun p hp => ⟨hs _ _ (T.other _ _ (N p hp).1 fun hb => (N p hp).2.1 (List.mem_singleton.mp hb)), (N p hp).2⟩
theorem stays_N {h₀ h h' : Heap} {L : Addr} {news : List (Addr × Obj)} (N : News h₀ L h news) (hs : h.StaysIn h') : News h₀ L h' news :=
  fun p hp => ⟨hs _ _ (N p hp).1, (N p hp).2⟩
theorem more_N {h₀ h h' : Heap} {L l : Addr} {o : Obj} {m : Str → Option Value} {news : List (Addr × Obj)} (F : Fr h₀ L h m) (N : News h₀ L h news) (hs : h.StaysIn h') (hl : h'.get? l = some o) (hn : h.get? l = none) : News h₀ L h' ((l, o) :: news) := by
  intro p hp
  rcases List.mem_cons.mp hp with rfl | hp
  · refine ⟨hl, ?_, ?_⟩
    · intro e
      obtain ⟨oL, _, _, hL, _⟩ := F.ns
      rw [show l = L from e, hL] at hn; cases hn
    · cases q : h₀.get? l with
      | none => rfl
      | some o => rw [F.keep _ _ q] at hn; cases hn
  · exact stays_N N hs p hp
theorem row_ne {ds : List Nat} (h : ds ≠ []) : Str.ofString "" ≠ rowOf ds := fun e => truthRow h (by rw [← e]; rfl)
theorem gives_nil {beh v : Value} (h : UGives .none beh v) : v = beh := by
  rcases h with ⟨_, h⟩ | ⟨_, h, _⟩ | ⟨_, _, _, h, _⟩
  · exact h
  · cases h
  · cases h
theorem gives_empty {beh v : Value} {t : Tok} (h : UGives (.str (Str.ofString "") t) beh v) : v = beh := by
  rcases h with ⟨h, _⟩ | ⟨_, _, h⟩ | ⟨_, _, _, h, _, h2, _⟩
  · cases h
  · exact h
  · injection h with h; exact absurd h (row_ne h2)
theorem not_refuses_nil (h : URefuses .none) : False := by obtain ⟨_, _, h, _⟩ := h; cases h
theorem not_refuses_empty {t : Tok} (h : URefuses (.str (Str.ofString "") t)) : False := by
  obtain ⟨_, _, h, h2, _⟩ := h
  injection h with h; exact row_ne h2 h
theorem shaped1 {t : Str} (h : PyData.strOk t = true) : SeqAt.shaped (.list [.str t]) = true := by
  simp [SeqAt.shaped, PyData.canLay0, PyData.canLayAll0, PyData.depth, PyData.depthAll, h]
section
variable {w : World} {s₀ s₁ : Shared} {mg mb : Str → Option Value} (KX : (hd1.heap_39 w.params).In s₁.heap) (X : Flt.MathXP hd1.view_39 mg s₁.heap) (V : LooseAre [] mg s₁.heap)
  (GL : Glob 0 mg mb (List.map itemOf (recsOf hd1.view_39)) (scalarsOf [] ++ constsW hd1.view_39) [] (namesW hd1.view_39 []) s₁.heap)
  (T : Top hd1.view_39 (looseW hd1.view_39 []) (ExcName.means s₀.heap) mg mb s₁.heap) (B : Tables hd1.view_39 w mg s₁.heap) (TE : TopE hd1.view_39 (looseW hd1.view_39 []) mg s₁.heap) (TW : TopW hd1.view_39 mg s₁.heap)
  (K0 : Below callerA s₁.heap [] s₁.heap)
  {fa : Addr} {cd : Value} {E : Value → Shared → Prop} {g : Array GenState} {dr : Drawn} {os : OsState} {h : Heap} {tk : Nat} {m : Str → Option Value} {news : List (Addr × Obj)}
include KX X V GL T B TE TW K0
local macro_rules | `(tactic| ke_shaped) => `(tactic| exact shaped1 (by assumption))
theorem i1 {beh : Value} (hb : beh = .none ∨ ∃ t tt, beh = .str t tt ∧ PyData.strOk t = true) (hx : m (Str.ofString "behind") = some beh) (F : Fr s₁.heap s₁.heap.objs.size h m) (N : News s₁.heap s₁.heap.objs.size h news) :
    wpC (model P1 w) (A1 s₁.heap.objs.size fa cd) (exec (stmtAt (forBody body1) 0) (env1 s₁.heap.objs.size fa cd))
      (fun f s' => EndS f <| Went s₁.heap s₁.heap.objs.size g dr os m news s') E ⟨h, g, dr, tk, os⟩ := by
  have e := put_same hx
  rw [e] at F
  revert KX; k_fill; intro KX
  w_top on
  dsimp only [stmtAt, body1, forBody, law1, dOf]
  refine IfC (orC (isTrueCmpC (CallC rfl ?_)))
  refine nameFn (d := tDef) F T tMem ?_
  intro fT oT pmT cT docT hfT hdT hcT
  refine callWithC_ref hdT rfl ⟨_, _, rfl⟩ ?_
  k_steps
  refine ⟨F.keep _ _ hfT, wpC_call (toldC KX X V GL T B TE TW K0 F (F.keep _ _ hfT) hdT (hcT.keeps F.keep) (.inl ⟨beh, .inl ⟨rfl, rfl⟩⟩) ?ok ?bad)⟩
  case bad => intro _ _ _ _ h; exact (not_refuses_nil h).elim
  case ok =>
    intro v h' tk' l c hg hs hl hn
    obtain rfl : v = beh := gives_nil hg
    dsimp only at hs hn ⊢
    have N3 := more_N F N hs hl hn
    have F3 := F.keeps hs
    clear F N
    rcases hb with rfl | ⟨t, tt, rfl, hsk⟩
    all_goals (
      k_steps
      refine orC (isTrueCmpC (CallC rfl ?_))
      rename Fr _ _ _ _ => F
      rename News _ _ _ _ => N
      refine nameFn (d := tDef) F T tMem ?_
      intro fT2 oT2 pmT2 cT2 docT2 hfT2 hdT2 hcT2
      refine callWithC_ref hdT2 rfl ⟨_, _, rfl⟩ ?_
      k_steps
      refine ⟨F.keep _ _ hfT2, wpC_call (toldC KX X V GL T B TE TW K0 F (F.keep _ _ hfT2) hdT2 (hcT2.keeps F.keep) (.inl ⟨_, .inr (.inl ⟨_, rfl, rfl⟩)⟩) ?_ ?_)⟩
      · intro v h2 tk2 l2 c2 hg2 hs2 hl2 hn2
        have hv := gives_empty hg2
        subst hv
        dsimp only at hs2 hn2 ⊢
        have N4 := more_N F N hs2 hl2 hn2
        have F4 := F.keeps hs2
        clear F N
        k_steps
        refine wpC_of ?_
        k_steps
        refine wpC_of ?_
        k_steps
        rename Fr _ _ _ _ => F5
        rename News _ _ _ _ => N5
        rw [← e] at F5
        exact ⟨rfl, Went.intro F5 N5 rfl (fun p hp => .tail _ (.tail _ (.tail _ (.tail _ hp))))⟩
      · intro _ _ _ _ h; exact (not_refuses_empty h).elim)
end
end Mine
namespace Mine
theorem row_inj {ds es : List Nat} (h : rowOf ds = rowOf es) : ds = es := by
  have h1 : (figs ds).toArray = (figs es).toArray := congrArg Str.cps h
  have h2 : figs ds = figs es := by simpa using congrArg Array.toList h1
  exact (List.map_inj_right (fun a b e => by simpa using e)).mp h2
theorem row_empty {ds : List Nat} {t t' : Tok} (hn : ds ≠ []) (h : Value.str (rowOf ds) t = .str (Str.ofString "") t') : False := by
  injection h with h; exact row_ne hn h.symm
theorem gives_row {ds : List Nat} {t : Tok} {beh v : Value} (hn : ds ≠ []) (h : UGives (.str (rowOf ds) t) beh v) : (∀ d ∈ ds, d < 8) ∧ octal ds ≤ 1114111 ∧ ∃ t', v = .str ⟨#[octal ds]⟩ t' := by
  rcases h with ⟨h, _⟩ | ⟨_, h, _⟩ | ⟨_, es, t', h, h1, _, _, h3, h4⟩
  · cases h
  · exact (row_empty hn h).elim
  · injection h with h
    obtain rfl := row_inj h
    exact ⟨h1, h3, t', h4⟩
theorem not_both {ds : List Nat} {t : Tok} {beh v : Value} (h : UGives (.str (rowOf ds) t) beh v) (h' : URefuses (.str (rowOf ds) t)) : False := by
  obtain ⟨_, es, e, hn, _, h3⟩ := h'
  injection e with e
  obtain rfl := row_inj e
  obtain ⟨h1, h2, _⟩ := gives_row hn h
  rcases h3 with ⟨_, d, hd, h8⟩ | ⟨_, h8⟩
  · have := h1 d hd; omega
  · omega
theorem ok1 {n : Nat} (h : n ≤ 1114111) : PyData.strOk ⟨#[n]⟩ = true := by
  simp [PyData.strOk]; omega
section
variable {w : World} {s₀ s₁ : Shared} {mg mb : Str → Option Value} (KX : (hd1.heap_39 w.params).In s₁.heap) (X : Flt.MathXP hd1.view_39 mg s₁.heap) (V : LooseAre [] mg s₁.heap)
  (GL : Glob 0 mg mb (List.map itemOf (recsOf hd1.view_39)) (scalarsOf [] ++ constsW hd1.view_39) [] (namesW hd1.view_39 []) s₁.heap)
  (T : Top hd1.view_39 (looseW hd1.view_39 []) (ExcName.means s₀.heap) mg mb s₁.heap) (B : Tables hd1.view_39 w mg s₁.heap) (TE : TopE hd1.view_39 (looseW hd1.view_39 []) mg s₁.heap) (TW : TopW hd1.view_39 mg s₁.heap)
  (K0 : Below callerA s₁.heap [] s₁.heap)
  {fa : Addr} {cd : Value} {E : Value → Shared → Prop} {g : Array GenState} {dr : Drawn} {os : OsState} {h : Heap} {tk : Nat} {m : Str → Option Value} {news : List (Addr × Obj)}
include KX X V GL T B TE TW K0
local macro_rules | `(tactic| ke_shaped) => `(tactic| exact shaped1 (by assumption))

theorem i2c {td : Tok} (hx : m (Str.ofString "due") = some (.str (Str.ofString "unasked") td)) (F : Fr s₁.heap s₁.heap.objs.size h m) (N : News s₁.heap s₁.heap.objs.size h news) :
    wpC (model P1 w) (A1 s₁.heap.objs.size fa cd) (exec (stmtAt (forBody body1) 1) (env1 s₁.heap.objs.size fa cd))
      (fun f s' => EndS f <| Went s₁.heap s₁.heap.objs.size g dr os m news s') E ⟨h, g, dr, tk, os⟩ := by
  have e := put_same hx
  rw [e] at F
  revert KX; k_fill; intro KX
  w_top on
  dsimp only [stmtAt, body1, forBody, law1, dOf]
  refine IfC (andC (wpC_of ?_))
  k_steps
  refine wpC_of ?_
  k_steps
  rw [← e] at F
  exact ⟨rfl, Went.intro F N rfl fun p hp => hp⟩
theorem i2a {td tr : Tok} {ds : List Nat} {beh : Value} (hx : m (Str.ofString "due") = some (.str (Str.ofString "refused") td)) (hr : m (Str.ofString "row") = some (.str (rowOf ds) tr)) (hb : m (Str.ofString "behind") = some beh) (hU : URefuses (.str (rowOf ds) tr)) (F : Fr s₁.heap s₁.heap.objs.size h m) (N : News s₁.heap s₁.heap.objs.size h news) :
    wpC (model P1 w) (A1 s₁.heap.objs.size fa cd) (exec (stmtAt (forBody body1) 1) (env1 s₁.heap.objs.size fa cd))
      (fun f s' => EndS f <| Went s₁.heap s₁.heap.objs.size g dr os m news s') E ⟨h, g, dr, tk, os⟩ := by
  have e : m = put (put (put m "row" (.str (rowOf ds) tr)) "behind" beh) "due" (.str (Str.ofString "refused") td) := by rw [← put_same hr, ← put_same hb]; exact put_same hx
  rw [e] at F
  revert KX; k_fill; intro KX
  w_top on
  dsimp only [stmtAt, body1, forBody, law1, dOf]
  refine IfC (andC (wpC_of ?_))
  k_steps
  refine andC (isTrueCmpC (CallC rfl ?_))
  refine nameFn (d := tDef) F T tMem ?_
  intro fT oT pmT cT docT hfT hdT hcT
  refine callWithC_ref hdT rfl ⟨_, _, rfl⟩ ?_
  k_steps
  refine ⟨F.keep _ _ hfT, wpC_call (toldC KX X V GL T B TE TW K0 F (F.keep _ _ hfT) hdT (hcT.keeps F.keep) (.inr hU) ?ok ?bad)⟩
  case ok => intro v _ _ _ _ hg; exact (not_both hg hU).elim
  case bad =>
    intro g3 h3 tk3 t3 _ T3 hs3
    dsimp only at T3 ⊢
    have F3 := turned_F F T3 hs3
    have N3 := turned_N N T3 hs3
    clear F N
    k_steps
    refine wpC_of ?_
    k_steps
    rw [← e] at F3
    exact ⟨rfl, Went.intro F3 N3 rfl fun p hp => hp⟩
theorem i2b {tr : Tok} {ds : List Nat} {beh : Value} {l : Addr} {tq : Tok} (hx : m (Str.ofString "due") = some (.ref l)) (hr : m (Str.ofString "row") = some (.str (rowOf ds) tr)) (hb : m (Str.ofString "behind") = some beh) (hU : UGives (.str (rowOf ds) tr) beh (.str ⟨#[octal ds]⟩ tq)) (hoc : octal ds ≤ 1114111) (hn : ds ≠ []) (F : Fr s₁.heap s₁.heap.objs.size h m)
    {c : Nat} (N : News s₁.heap s₁.heap.objs.size h ((l, W.listOf #[.str ⟨#[octal ds]⟩ tq] c) :: news)) :
    wpC (model P1 w) (A1 s₁.heap.objs.size fa cd) (exec (stmtAt (forBody body1) 1) (env1 s₁.heap.objs.size fa cd))
      (fun f s' => EndS f <| Went s₁.heap s₁.heap.objs.size g dr os m ((l, W.listOf #[.str ⟨#[octal ds]⟩ tq] c) :: news) s') E ⟨h, g, dr, tk, os⟩ := by
  have e : m = put (put (put m "row" (.str (rowOf ds) tr)) "behind" beh) "due" (.ref l) := by rw [← put_same hr, ← put_same hb]; exact put_same hx
  rw [e] at F
  revert KX; k_fill; intro KX
  w_top on
  dsimp only [stmtAt, body1, forBody, law1, dOf]
  refine IfC (andC (wpC_of ?_))
  k_steps
  refine ne_dataH (reads_list_at (N.get (.head _)) rfl rfl (.cons (Reads.str _ _) .nil)) (Reads.str _ _) (shaped1 (ok1 hoc)) (by decide +kernel) (by ke_room) ?_
  rw [show PyData.eqv (.list [.str ⟨#[octal ds]⟩]) (.str (Str.ofString "unasked")) = false from by simp [PyData.eqv]]
  k_steps
  refine andC (isTrueCmpC (CallC rfl ?_))
  refine nameFn (d := tDef) F T tMem ?_
  intro fT oT pmT cT docT hfT hdT hcT
  refine callWithC_ref hdT rfl ⟨_, _, rfl⟩ ?_
  k_steps
  refine ⟨F.keep _ _ hfT, wpC_call (toldC KX X V GL T B TE TW K0 F (F.keep _ _ hfT) hdT (hcT.keeps F.keep) (.inl ⟨_, hU⟩) ?ok ?bad)⟩
  case bad => intro _ _ _ _ hg; exact (not_both hU hg).elim
  case ok =>
    intro v h3 tk3 l3 c3 hg hs3 hl3 hn3
    obtain ⟨_, _, t3, rfl⟩ := gives_row hn hg
    dsimp only at hs3 hn3 ⊢
    have N3 := more_N F N hs3 hl3 hn3
    have F3 := F.keeps hs3
    clear F N
    have hok := ok1 hoc
    k_steps
    refine wpC_of ?_
    k_steps
    rw [← e] at F3
    exact ⟨rfl, Went.intro F3 N3 rfl fun p hp => .tail _ hp⟩
end
end Mine
namespace Mine
/-- what the law knows of the row, the due and what it has made -/
def Asked (f0 n : Int) (ds : List Nat) (tr : Tok) : Prop :=
  ds ≠ [] ∧ n = ((octal ds : Nat) : Int) ∧ ((7 < f0 ∨ 1114111 < n) → URefuses (.str (rowOf ds) tr)) ∧ (¬ 7 < f0 → ¬ 1114111 < n → ∀ beh tq, UGives (.str (rowOf ds) tr) beh (.str ⟨#[octal ds]⟩ tq))
section
variable {w : World} {s₀ s₁ : Shared} {mg mb : Str → Option Value} (KX : (hd1.heap_39 w.params).In s₁.heap) (X : Flt.MathXP hd1.view_39 mg s₁.heap) (V : LooseAre [] mg s₁.heap)
  (GL : Glob 0 mg mb (List.map itemOf (recsOf hd1.view_39)) (scalarsOf [] ++ constsW hd1.view_39) [] (namesW hd1.view_39 []) s₁.heap)
  (T : Top hd1.view_39 (looseW hd1.view_39 []) (ExcName.means s₀.heap) mg mb s₁.heap) (B : Tables hd1.view_39 w mg s₁.heap) (TE : TopE hd1.view_39 (looseW hd1.view_39 []) mg s₁.heap) (TW : TopW hd1.view_39 mg s₁.heap)
  (K0 : Below callerA s₁.heap [] s₁.heap)
  {fa : Addr} {cd : Value} {E : Value → Shared → Prop} {g : Array GenState} {dr : Drawn} {os : OsState} {h : Heap} {tk : Nat} {m : Str → Option Value} {news : List (Addr × Obj)}
include KX X V GL T B TE TW K0

theorem i2 {f0 n : Int} {ds : List Nat} {tr : Tok} {dv beh : Value} {extra : List (Addr × Obj)} (hq : Asked f0 n ds tr) (hd : DueIs f0 n dv extra) (hx : m (Str.ofString "due") = some dv) (hr : m (Str.ofString "row") = some (.str (rowOf ds) tr)) (hb : m (Str.ofString "behind") = some beh)
    (hex : ∀ p ∈ extra, p ∈ news) (F : Fr s₁.heap s₁.heap.objs.size h m) (N : News s₁.heap s₁.heap.objs.size h news) :
    wpC (model P1 w) (A1 s₁.heap.objs.size fa cd) (exec (stmtAt (forBody body1) 1) (env1 s₁.heap.objs.size fa cd))
      (fun f s' => EndS f <| Went s₁.heap s₁.heap.objs.size g dr os m news s') E ⟨h, g, dr, tk, os⟩ := by
  obtain ⟨hn, hno, h1, h2⟩ := hq
  rcases hd with ⟨hc, t, rfl, _⟩ | ⟨hc1, hc2, l, t, rfl, rfl⟩ | ⟨_, _, t, rfl, _⟩
  · exact i2a KX X V GL T B TE TW K0 hx hr hb (h1 hc) F N
  · subst hno
    have N' : News s₁.heap s₁.heap.objs.size h ((l, W.listOf #[.str ⟨#[octal ds]⟩ t] 0) :: news) := by
      intro p hp
      rcases List.mem_cons.mp hp with rfl | hp
      · exact N _ (hex _ (.head _))
      · exact N p hp
    refine wpC_mono (i2b KX X V GL T B TE TW K0 hx hr hb (h2 hc1 hc2 beh t) (by omega) hn F N') (fun f s' q => ?_) fun _ _ x => x
    obtain ⟨q1, h', tk', q2, q3, q4⟩ := q
    exact ⟨q1, h', tk', q2, q3, fun p hp => q4 p (.tail _ hp)⟩
  · exact i2c KX X V GL T B TE TW K0 hx F N
theorem s8 {f0 n : Int} {ds : List Nat} {tr tt : Tok} {dv : Value} {t : Str} {extra : List (Addr × Obj)} (hq : Asked f0 n ds tr) (hd : DueIs f0 n dv extra) (hx : m (Str.ofString "due") = some dv) (hr : m (Str.ofString "row") = some (.str (rowOf ds) tr)) (ht : m (Str.ofString "text") = some (.str t tt)) (hto : PyData.strOk t = true)
    (hex : ∀ p ∈ extra, p ∈ news) (F : Fr s₁.heap s₁.heap.objs.size h m) (N : News s₁.heap s₁.heap.objs.size h news) :
    wpC (model P1 w) (A1 s₁.heap.objs.size fa cd) (exec (stmtAt body1 7) (env1 s₁.heap.objs.size fa cd))
      (fun f s' => EndS f <| ∃ m', (∀ y, y ≠ Str.ofString "behind" → m' y = m y) ∧ Went s₁.heap s₁.heap.objs.size g dr os m' news s') E ⟨h, g, dr, tk, os⟩ := by
  have e := put_same ht
  rw [e] at F
  revert KX; k_fill; intro KX
  w_top on
  dsimp only [stmtAt, body1, forBody, law1, dOf]
  refine ForMadeC s₁.heap rfl ?_
  k_steps
  rename Fr _ _ _ _ => F2
  rename News _ _ _ _ => N2
  rw [← e] at F2
  refine ⟨_, _, [.str t tt, .none], _, m, fun _ m' => ∀ y, y ≠ Str.ofString "behind" → m' y = m y, rfl, F2, N2, .head _, rfl, ⟨0, rfl⟩, fun _ _ => rfl, ?turn, ?done⟩
  case done =>
    intro m₁ h3 tk3 hJ F3 N3
    exact ⟨rfl, m₁, hJ, Went.intro F3 N3 rfl fun p hp => .tail _ hp⟩
  case turn =>
    intro i v m₁ h3 tk3 it oi hv hJ F3 N3
    clear F2 N2
    have hv' : v = .none ∨ ∃ t tt, v = .str t tt ∧ PyData.strOk t = true := by
      match i, hv with
      | 0, hv => exact .inr ⟨t, tt, (Option.some.inj hv).symm, hto⟩
      | 1, hv => exact .inl (Option.some.inj hv).symm
      | (k + 2), hv => cases hv
    have e1 : ∀ y v', y ≠ Str.ofString "behind" → m y = some v' → (fun y => if y = Str.ofString "behind" then some v else m₁ y) y = some v' := by
      intro y v' hy h
      dsimp only
      rw [if_neg hy, hJ y hy, h]
    have e2 : (fun y => if y = Str.ofString "behind" then some v else m₁ y) (Str.ofString "behind") = some v := if_pos rfl
    have e3 : ∀ y, y ≠ Str.ofString "behind" → (fun y => if y = Str.ofString "behind" then some v else m₁ y) y = m y := fun y hy => by dsimp only; rw [if_neg hy, hJ y hy]
    generalize (fun y => if y = Str.ofString "behind" then some v else m₁ y) = m2 at F3 e1 e2 e3
    refine execsC_cons (wpC_mono (i1 KX X V GL T B TE TW K0 hv' e2 F3 N3) (fun f s' q => ?_) fun _ _ x => x)
    obtain ⟨rfl, h', tk', rfl, F4, N4⟩ := q
    refine execsC_cons (wpC_mono (i2 KX X V GL T B TE TW K0 hq hd (e1 _ _ (by decide) hx) (e1 _ _ (by decide) hr) e2 (fun p hp => .tail _ (.tail _ (hex p hp))) F4 N4) (fun f s' q => ?_) fun _ _ x => x)
    obtain ⟨rfl, h', tk', rfl, F5, N5⟩ := q
    refine wpC_of ?_
    refine wpAny_execs_nil ?_
    exact ⟨h', tk', _, rfl, F5, N5, e3⟩
theorem s9 {f0 n : Int} {dv : Value} {extra : List (Addr × Obj)} (hd : DueIs f0 n dv extra) (hx : m (Str.ofString "due") = some dv)
    (hex : ∀ p ∈ extra, p ∈ news) (F : Fr s₁.heap s₁.heap.objs.size h m) (N : News s₁.heap s₁.heap.objs.size h news) :
    wpAny (model P1 w) (A1 s₁.heap.objs.size fa cd) (exec (stmtAt body1 8) (env1 s₁.heap.objs.size fa cd))
      (fun f s' => EndS f <| (¬ 7 < f0 ∧ ¬ 1114111 < n ∧ Went s₁.heap s₁.heap.objs.size g dr os m news s') ∨
        ∃ t1 t2 t3, Went s₁.heap s₁.heap.objs.size g dr os (put (put (put m "row" (.str (Str.ofString "") t1)) "text" (.str (Str.ofString "") t2)) "number" (.int 0 t3)) news s') E ⟨h, g, dr, tk, os⟩ := by
  have e := put_same hx
  rw [e] at F
  revert KX; k_fill; intro KX
  w_top on
  dsimp only [stmtAt, body1, forBody, law1, dOf]
  rcases hd with ⟨hc, t, rfl, _⟩ | ⟨hc1, hc2, l, t, rfl, rfl⟩ | ⟨hc1, hc2, t, rfl, _⟩
  · k_steps
    rename Fr _ _ _ _ => F2
    rename News _ _ _ _ => N2
    rw [← e] at F2
    exact ⟨rfl, .inr ⟨_, _, _, Went.intro F2 N2 rfl fun p hp => hp⟩⟩
  · k_steps
    refine eq_dataH (reads_list_at (N.get (hex _ (.head _))) rfl rfl (.cons (Reads.str _ _) .nil)) (Reads.str _ _) (shaped1 (ok1 (by omega))) (by decide +kernel) (by ke_room) ?_
    rw [show PyData.eqv (.list [.str ⟨#[n.toNat]⟩]) (.str (Str.ofString "refused")) = false from by simp [PyData.eqv]]
    k_steps
    rw [← e] at F
    exact ⟨rfl, .inl ⟨hc1, hc2, Went.intro F N rfl fun p hp => hp⟩⟩
  · k_steps
    rw [← e] at F
    exact ⟨rfl, .inl ⟨hc1, hc2, Went.intro F N rfl fun p hp => hp⟩⟩
end
end Mine
namespace Mine
theorem asked_of {ds : List Nat} {f0 : Int} {tr : Tok} (h0 : 0 ≤ f0) (h1 : f0 < 10) (hds : ∀ d ∈ ds, d < 8) (hl : ds.length ≤ 66) : Asked f0 (8 * ((octal ds : Nat) : Int) + f0) (ds ++ [f0.toNat]) tr := by
  have hlen : (ds ++ [f0.toNat]).length ≤ 640 := by simp; omega
  have hne : ds ++ [f0.toNat] ≠ [] := by simp
  have ho : octal (ds ++ [f0.toNat]) = octal ds * 8 + f0.toNat := octal_snoc ..
  refine ⟨hne, by rw [ho]; omega, fun hc => ?_, fun hc1 hc2 beh tq => ?_⟩
  · refine ⟨tr, _, rfl, hne, hlen, ?_⟩
    by_cases h7 : 7 < f0
    · refine .inl ⟨fun d hd => ?_, f0.toNat, by simp, by omega⟩
      rcases List.mem_append.mp hd with hd | hd
      · have := hds d hd; omega
      · have := List.mem_singleton.mp hd; omega
    · refine .inr ⟨fun d hd => ?_, by rw [ho]; omega⟩
      rcases List.mem_append.mp hd with hd | hd
      · exact hds d hd
      · have := List.mem_singleton.mp hd; omega
  · refine .inr (.inr ⟨tr, _, tq, rfl, fun d hd => ?_, hne, hlen, by rw [ho]; omega, rfl⟩)
    rcases List.mem_append.mp hd with hd | hd
    · exact hds d hd
    · have := List.mem_singleton.mp hd; omega
section
variable {w : World} {s₀ s₁ : Shared} {mg mb : Str → Option Value} (KX : (hd1.heap_39 w.params).In s₁.heap) (X : Flt.MathXP hd1.view_39 mg s₁.heap) (V : LooseAre [] mg s₁.heap)
  (GL : Glob 0 mg mb (List.map itemOf (recsOf hd1.view_39)) (scalarsOf [] ++ constsW hd1.view_39) [] (namesW hd1.view_39 []) s₁.heap)
  (T : Top hd1.view_39 (looseW hd1.view_39 []) (ExcName.means s₀.heap) mg mb s₁.heap) (B : Tables hd1.view_39 w mg s₁.heap) (TE : TopE hd1.view_39 (looseW hd1.view_39 []) mg s₁.heap) (TW : TopW hd1.view_39 mg s₁.heap)
  (K0 : Below callerA s₁.heap [] s₁.heap)
  {fa : Addr} {cd : Value} {E : Value → Shared → Prop} {Q : Flow → Shared → Prop} {g : Array GenState} {dr : Drawn} {os : OsState} {h : Heap} {tk : Nat} {m : Str → Option Value} {it D : Addr} {oi oD : Obj}
include KX X V GL T B TE TW K0
theorem turn1 {i : Nat} {x : Int} {xt : Tok} (hi : i < 66) (hx : m (Str.ofString "x") = some (.int x xt)) (hJ : J1 i m) (F : Fr s₁.heap s₁.heap.objs.size h m) (N : News s₁.heap s₁.heap.objs.size h [(it, oi), (D, oD)]) :
    wpC (model P1 w) (A1 s₁.heap.objs.size fa cd) (execs body1 (env1 s₁.heap.objs.size fa cd)) (fun f s₃ => match f with
        | .next | .cont => TurnEnd s₁.heap s₁.heap.objs.size [(it, oi), (D, oD)] (J1 (i + 1)) ⟨h, g, dr, tk, os⟩ s₃
        | .brk => Q .next s₃
        | .ret v => Q (.ret v) s₃) E ⟨h, g, dr, tk, os⟩ := by
  obtain ⟨ds, tr, t, tt, tn, hr, ht, hn, hds, hdl, hoc, htl, hto⟩ := hJ
  have f0a : 0 ≤ x.fmod 10 := Int.fmod_nonneg_of_pos x (by decide)
  have f0b : x.fmod 10 < 10 := Int.fmod_lt_of_pos x (by decide)
  refine execsC_seq (wpAny_mono (s1 KX X V GL T B TE TW K0 hx F N) (fun f s' q => ?_) fun _ _ x => x)
  obtain ⟨rfl, t1, t2, h1, k1, rfl, F1, N1⟩ := q
  have ca : 0 ≤ (x.fdiv 10).fmod 1112064 := Int.fmod_nonneg_of_pos _ (by decide)
  have cb : (x.fdiv 10).fmod 1112064 < 1112064 := Int.fmod_lt_of_pos _ (by decide)
  refine execsC_seq (wpAny_mono (s2 KX X V GL T B TE TW K0 ((put_ne (by decide)).trans put_eq) F1 N1) (fun f s' q => ?_) fun _ _ x => x)
  obtain ⟨rfl, t3, h2, k2, rfl, F2, N2⟩ := q
  refine execsC_seq (wpAny_mono (s3 KX X V GL T B TE TW K0 put_eq ca cb ((put_ne (by decide)).trans ((put_ne (by decide)).trans ((put_ne (by decide)).trans ht))) (by omega) hto F2 N2) (fun f s' q => ?_) fun _ _ x => x)
  obtain ⟨rfl, t', t4, hl', hto', h3, k3, rfl, F3, N3⟩ := q
  refine execsC_seq (wpAny_mono (s4 KX X V GL T B TE TW K0 ((put_ne (by decide)).trans ((put_ne (by decide)).trans put_eq)) f0a f0b ((put_ne (by decide)).trans ((put_ne (by decide)).trans ((put_ne (by decide)).trans ((put_ne (by decide)).trans hr)))) (by rw [row_len]; omega) F3 N3) (fun f s' q => ?_) fun _ _ x => x)
  obtain ⟨rfl, t5, h4, k4, rfl, F4, N4⟩ := q
  refine execsC_seq (wpAny_mono (s5 KX X V GL T B TE TW K0 ((put_ne (by decide)).trans ((put_ne (by decide)).trans ((put_ne (by decide)).trans put_eq))) f0a f0b ((put_ne (by decide)).trans ((put_ne (by decide)).trans ((put_ne (by decide)).trans ((put_ne (by decide)).trans ((put_ne (by decide)).trans hn))))) (by omega) (by omega) F4 N4) (fun f s' q => ?_) fun _ _ x => x)
  obtain ⟨rfl, t6, h5, k5, rfl, F5, N5⟩ := q
  refine execsC_seq (wpAny_mono (s6 KX X V GL T B TE TW K0 F5 N5) (fun f s' q => ?_) fun _ _ x => x)
  obtain ⟨rfl, t7, h6, k6, rfl, F6, N6⟩ := q
  refine execsC_seq (wpAny_mono (s7 KX X V GL T B TE TW K0 ((put_ne (by decide)).trans ((put_ne (by decide)).trans ((put_ne (by decide)).trans ((put_ne (by decide)).trans ((put_ne (by decide)).trans put_eq))))) f0a f0b ((put_ne (by decide)).trans put_eq) (by omega) (by omega) put_eq F6 N6) (fun f s' q => ?_) fun _ _ x => x)
  obtain ⟨rfl, dv, extra, hdue, h7, k7, rfl, F7, N7⟩ := q
  refine execsC_cons (wpC_mono (s8 KX X V GL T B TE TW K0 (asked_of f0a f0b hds (by omega)) hdue put_eq ((put_ne (by decide)).trans ((put_ne (by decide)).trans ((put_ne (by decide)).trans put_eq))) ((put_ne (by decide)).trans ((put_ne (by decide)).trans ((put_ne (by decide)).trans ((put_ne (by decide)).trans put_eq)))) hto' (fun p hp => List.mem_append_left _ hp) F7 N7) (fun f s' q => ?_) fun _ _ x => x)
  obtain ⟨rfl, m8, hm8, h8, k8, rfl, F8, N8⟩ := q
  refine execsC_seq (wpAny_mono (s9 KX X V GL T B TE TW K0 hdue ((hm8 _ (by decide)).trans put_eq) (fun p hp => List.mem_append_left _ hp) F8 N8) (fun f s' q => ?_) fun _ _ x => x)
  obtain ⟨rfl, q⟩ := q
  refine wpC_of (wpAny_execs_nil ?_)
  rcases q with ⟨c1, c2, h9, k9, rfl, F9, N9⟩ | ⟨u1, u2, u3, h9, k9, rfl, F9, N9⟩
  · refine ⟨h9, k9, _, rfl, F9, fun p hp => N9 p (List.mem_append_right _ hp), ds ++ [(x.fmod 10).toNat], t5, t', t4, t6, ?_, ?_, ?_, fun d hd => ?_, by simp; omega, by rw [octal_snoc]; omega, by omega, hto'⟩
    · exact (hm8 _ (by decide)).trans ((put_ne (by decide)).trans ((put_ne (by decide)).trans ((put_ne (by decide)).trans put_eq)))
    · exact (hm8 _ (by decide)).trans ((put_ne (by decide)).trans ((put_ne (by decide)).trans ((put_ne (by decide)).trans ((put_ne (by decide)).trans put_eq))))
    · refine (hm8 _ (by decide)).trans ((put_ne (by decide)).trans ((put_ne (by decide)).trans (put_eq.trans ?_)))
      rw [octal_snoc, show 8 * ((octal ds : Nat) : Int) + x.fmod 10 = ((octal ds * 8 + (x.fmod 10).toNat : Nat) : Int) by omega]
    · rcases List.mem_append.mp hd with hd | hd
      · exact hds d hd
      · have := List.mem_singleton.mp hd; omega
  · refine ⟨h9, k9, _, rfl, F9, fun p hp => N9 p (List.mem_append_right _ hp), [], u1, Str.ofString "", u2, u3, ?_, ?_, ?_, (fun d hd => absurd hd (by simp)), Nat.zero_le _, (by decide), Nat.zero_le _, (by decide +kernel)⟩
    · exact (put_ne (by decide)).trans ((put_ne (by decide)).trans put_eq)
    · exact (put_ne (by decide)).trans put_eq
    · exact put_eq
end
end Mine
namespace Mine
theorem made_head {h₀ h : Heap} {L : Addr} {p : Addr × Obj} {news : List (Addr × Obj)} (N : News h₀ L h (p :: news)) : News h₀ L h [p] :=
  fun q hq => N q (by rw [List.mem_singleton.mp hq]; exact .head _)
theorem item_of {ws : List Value} {ns : List Int} (hI : IntsAre ws ns) {i : Nat} {v : Value} (hv : ws[i]? = some v) : i < ns.length ∧ ∃ n t, v = .int n t := by
  have hin : i < ws.length := by
    rcases Nat.lt_or_ge i ws.length with q | q
    · exact q
    · rw [List.getElem?_eq_none q] at hv; cases hv
  have hlt : i < ns.length := by rw [← hI.length]; exact hin
  obtain ⟨t, hx⟩ := hI.get i ns[i] (List.getElem?_eq_getElem hlt)
  rw [hv] at hx
  exact ⟨hlt, ns[i], t, Option.some.inj hx⟩
theorem walk1 : WalkO Mine.hd1.view_39 [] (XL Mine.hd1.view_39 []) H1.says PySem.Challenge.rw_dm0159_01.row.toRowW law1 [] runC := by
  k_fill
  intro w s₀ s₁ mg mb G Y fa o pm cd doc dV kV ho hd hcd hD hmg hg args vals as hpre hlay hrd hwl hlo
  have KX := kIn_of Y
  have X := (Ground.X G).1
  have V := (Ground.X G).2
  have GL := glob_more (Ground.glob G (by first | k_qdec | decide +kernel) (by first | k_qdec | decide +kernel)) V
  refine Ground.open G ?_
  intro T B D TE TW
  try (refine guard_noD D (by decide +kernel) ?_; clear D)
  wrow_args hpre hlay hrd hwl hlo
  rename_i ns hs1 hl0 hL1 hr1 hl2 as1 as2 sa vs as3 hL ra w1 r0 hI hr3 hlen _
  have K0 := below_caller (Top.heap T)
  refine runC_of ?_ (enterC ?_)
  · refine GoodW.toG ⟨.inl ⟨_, .bool true, [], rfl, ?_, .bool true, ?_, unshared_nil⟩, fun _ _ e => e, rfl, hg⟩
    · exact raisesW_false (by wrow_none_raised)
    · exact postW_of (by wrow_shape) (by wtm_val) (by first | rfl | decide)
  w_top on
  refine codeC_mono ?_ (fun _ _ g => GoodW.toG g)
  have he := Dflts.none hD rfl; subst he
  refine fullC (by decide) ho hd (Top.nolimit T) hcd (BindsTo.of_eq rfl) (locs rfl) fun h₁ F => ?_
  w_binds F
  have N0 := (News.nil : News _ _ _ []).at F
  refine execsC_seq ?_
  k_steps
  refine execsC_seq ?_
  k_steps
  refine execsC_seq ?_
  k_steps
  refine execsC_cons (ForMadeC s₁.heap rfl ?_)
  k_steps
  rename Fr _ _ _ _ => F2
  rename News _ _ _ _ => N2
  rename IntsAre _ _ => hI2
  have N3 := made_head N2
  clear N2
  refine ⟨_, _, _, _, _, J1, rfl, F2, N3, List.Mem.head _, rfl, ⟨0, rfl⟩, ?start, ?turn, ?done⟩
  case start =>
    exact ⟨[], _, Str.ofString "", _, _, (by first | rfl | (simp [rowOf, figs]; rfl)), (by first | rfl | simp), (by first | rfl | simp [octal]), (by simp), (by simp), (by simp [octal]), (by decide), (by decide +kernel)⟩
  case done =>
    intro m₁ h tk hJ F3 N3
    dsimp only
    refine execsC_seq ?_
    k_steps
  case turn =>
    intro i v m₁ h tk it oi hv hJ F3 N3
    have q9 := item_of hI2 hv
    have hi : i < 66 := by
      have q8 := q9.1
      rw [List.length_append] at q8
      have q7 : ([651, 650, 651] : List Int).length = 3 := rfl
      omega
    obtain ⟨_, x, xt, hx⟩ := q9
    subst hx
    refine wpC_mono (turn1 (Q := fun _ _ => False) (g := s₁.gens) (dr := s₁.drawn) (os := s₁.os) KX X V GL T B TE TW K0 hi (if_pos rfl) ?_ F3 N3) (fun f s₃ q => ?_) fun _ _ e => e
    rotate_left
    · cases f with
      | next => exact q
      | cont => exact q
      | brk => exact q.elim
      | ret v => exact q.elim
    obtain ⟨ds, tr, t, tt, tn, hr, ht, hn, rest⟩ := hJ
    exact ⟨ds, tr, t, tt, tn, (if_neg (by decide)).trans hr, (if_neg (by decide)).trans ht, (if_neg (by decide)).trans hn, rest⟩
end Mine
theorem PySem.Challenge.cw_dm0159_01_holds : PySem.Challenge.rw_dm0159_01.Holds :=
  Mine.headOf1b Mine.walk1
