import PyProof.Rows.All
import Wide.All
import OpenK.AllK
import Wide.FinOn
import Lean
import PySem.Challenge.RW_bf0058_01

set_option Elab.async false

section
open PySem PySem.W PyProof.Rows PySem.Calls
namespace Mine
set_option maxRecDepth 100000
set_option maxHeartbeats 8000000

/-! wpH: as wpAny, over the contexts that hold the claim's caller alone -/
def HasB (Γ : PySem.Ctx) : Prop := (Γ.below.any fun x => x.1.isCaller) = true
def HasC (Γ : PySem.Ctx) : Prop := Γ.code.isCaller = true ∨ HasB Γ
def wpH {α : Type} (M : Model) (A : Around) (t : Sem α) (Q : α → Shared → Prop) (E : Value → Shared → Prop) (s : Shared) : Prop :=
  ∀ Γ p, Γ.In A → HasC Γ → Sem.wp M Γ t (fun a _ s' => Q a s') (fun e _ s' => E e s') p s
def codeH (M : Model) (A : Around) (c : Code) (R : Result → Shared → Prop) (s : Shared) : Prop :=
  ∀ Γ p, Γ.code = c → Γ.Below A → HasB Γ → wpCode M Γ R p s

theorem HasC.enter {Γ : PySem.Ctx} (h : HasC Γ) (c : Code) (hd : Option Value) (p : Pos) : HasB (Γ.enter c hd p) := by
  show (((Γ.code, p) :: Γ.below).any fun x => x.1.isCaller) = true
  rw [List.any_cons, Bool.or_eq_true]
  exact h
theorem HasB.c {Γ : PySem.Ctx} (h : HasB Γ) : HasC Γ := .inr h

section
variable {α β : Type} {M : Model} {A : Around} {E : Value → Shared → Prop} {s : Shared}
theorem wpH_of {t : Sem α} {Q : α → Shared → Prop} (h : wpAny M A t Q E s) : wpH M A t Q E s := fun Γ p hΓ _ => h Γ p hΓ
theorem codeH_of {c : Code} {R : Result → Shared → Prop} (h : codeAny M A c R s) : codeH M A c R s := fun Γ p hc hΓ _ => h Γ p hc hΓ
theorem wpH_mono {t : Sem α} {Q Q' : α → Shared → Prop} {E' : Value → Shared → Prop} (h : wpH M A t Q E s) (hQ : ∀ a s, Q a s → Q' a s) (hE : ∀ e s, E e s → E' e s) : wpH M A t Q' E' s :=
  fun Γ p hΓ hc => Sem.wp_mono M Γ t (fun a _ s => hQ a s) (fun e _ s => hE e s) p s (h Γ p hΓ hc)
theorem codeH_mono {c : Code} {R R' : Result → Shared → Prop} (h : codeH M A c R s) (hR : ∀ r s, R r s → R' r s) : codeH M A c R' s :=
  fun Γ p hc hΓ hb => wpCode_mono hR (h Γ p hc hΓ hb)
theorem wpH_bind {m : Sem α} {f : α → Sem β} {Q : β → Shared → Prop} (h : wpH M A m (fun a s' => wpH M A (f a) Q E s') E s) : wpH M A (m >>= f) Q E s := fun Γ p hΓ hc => by
  rw [Sem.wp_bind']
  exact Sem.wp_mono M Γ m (fun a p' s' h' => h' Γ p' hΓ hc) (fun _ _ _ h' => h') p s (h Γ p hΓ hc)
/-- the first part walks in every context -/
theorem wpH_step {m : Sem α} {f : α → Sem β} {Q : β → Shared → Prop} (h : wpAny M A m (fun a s' => wpH M A (f a) Q E s') E s) : wpH M A (m >>= f) Q E s := wpH_bind (wpH_of h)
theorem wpH_pure {a : α} {Q : α → Shared → Prop} (h : Q a s) : wpH M A (pure a) Q E s := fun _ _ _ _ => h
theorem wpH_onRaise {m : Sem α} {k : Value → Sem Unit} {Q : α → Shared → Prop} (h : wpH M A m Q (fun e s' => wpH M A (k e) (fun _ s'' => E e s'') E s') s) : wpH M A (m.onRaise k) Q E s := fun Γ p hΓ hc => by
  rw [Sem.wp_onRaise]
  exact Sem.wp_mono M Γ m (fun _ _ _ h' => h') (fun e p' s' h' => h' Γ p' hΓ hc) p s (h Γ p hΓ hc)
theorem wpH_attempt {m : Sem α} {Q : Except Value α → Shared → Prop} (h : wpH M A m (fun a => Q (.ok a)) (fun e => Q (.error e)) s) : wpH M A m.attempt Q E s := fun Γ p hΓ hc => by
  rw [Sem.wp_attempt]; exact h Γ p hΓ hc
theorem wpH_holding {vs : List Value} {m : Sem α} {Q : α → Shared → Prop} (h : wpH M A m Q E s) : wpH M A (holding vs m) Q E s := fun Γ p hΓ hc => by
  rw [Sem.wp_holding]; exact h Γ p hΓ hc
theorem wpH_of_eq {t t' : Sem α} {Q : α → Shared → Prop} (e : t = t') (h : wpH M A t' Q E s) : wpH M A t Q E s := by rw [e]; exact h
theorem wpH_run {c : Code} {h : Option Value} {Q : Flow → Shared → Prop}
    (hc : codeH M (A.mark h) c (fun r s' => match r with | .ok f => Q f s' | .error e => E e s') s) (hnb : h ≠ some byPass := by intro x; cases x) : wpH M A (run c h) Q E s :=
  fun Γ p hΓ hC => by rw [Sem.wp_run]; exact hc _ p rfl (hΓ.enter c h p hnb) (hC.enter c h p)
theorem wpH_runValue {c : Code} {Q : Value → Shared → Prop}
    (hc : codeH M A c (fun r s' => match r with | .ok (.ret v) => Q v s' | .ok _ => False | .error e => E e s') s) : wpH M A (runValue c) Q E s :=
  fun Γ p hΓ hC => by rw [Sem.wp_runValue]; exact hc _ p rfl (hΓ.enter c none p (by intro x; cases x)) (hC.enter c none p)
theorem wpH_call {f : Value} {pos : List Value} {kw : List (Str × Value)} {Q : Value → Shared → Prop}
    (hc : codeH M A (.call f ⟨pos, kw⟩) (fun r s' => match r with | .ok (.ret v) => Q v s' | .ok _ => False | .error e => E e s') s) : wpH M A (call f pos kw) Q E s := wpH_runValue hc
theorem codeH_of_tree {c : Code} {R : Result → Shared → Prop}
    (h : wpH M (A.under c) (M.den c) (fun fin s' => match fin with | .done f => R (.ok f) s' | .again c' => c'.quiet = true ∧ codeH M A c' R s') (fun e s' => R (.error e) s') s) : codeH M A c R s := fun Γ p hc hΓ hb => by
  rw [wpCode_iff_wp, hc]
  refine Sem.wp_mono M Γ _ (fun fin p' s' h' => ?_) (fun _ _ _ h' => h') p s (h Γ p (hc ▸ hΓ.in) hb.c)
  cases fin with
  | done f => exact h'
  | again c' => exact ⟨h'.1, h'.2 (Γ.goto c') p' rfl (hΓ.goto c') hb⟩
theorem codeH_loop {c : Code} {R : Result → Shared → Prop} (hq : c.quiet = true) (I : Nat → Shared → Prop)
    (turn : ∀ n s, I n s → wpH M (A.under c) (M.den c) (fun fin s' => match fin with
        | .done f => R (.ok f) s'
        | .again c' => (c' = c ∧ ∃ m, m < n ∧ I m s') ∨ (c'.quiet = true ∧ codeH M A c' R s')) (fun e s' => R (.error e) s') s)
    (n : Nat) (h : I n s) : codeH M A c R s := by
  induction n using Nat.strongRecOn generalizing s with
  | ind n ih =>
    refine codeH_of_tree (wpH_mono (turn n s h) (fun fin s' hf => ?_) fun _ _ h' => h')
    cases fin with
    | done f => exact hf
    | again c' =>
      rcases hf with ⟨rfl, m, hm, hI⟩ | hf
      · exact ⟨hq, ih m hm hI⟩
      · exact hf
end

section
variable {M : Model} {A : Around} {E : Value → Shared → Prop} {s : Shared} {env : Env}
theorem wpH_runOwn {c : Code} {h : Option Value} {Q : Flow → Shared → Prop}
    (hc : codeH M (A.mark h) c (fun r s' => match r with | .ok f => Q f s' | .error e => cameBackBy M A env E e s') s) (hnb : h ≠ some byPass := by intro x; cases x) : wpH M A (runOwn c env h) Q E s := by
  unfold runOwn
  exact wpH_onRaise (wpH_mono (wpH_run hc hnb) (fun _ _ x => x) fun _ _ x => wpH_of x)
theorem wpH_execs_cons {st : Stmt} {rest : List Stmt} {Q : Flow → Shared → Prop} (h : wpH M A (exec st env) (fun f s' => match f with | .next => wpH M A (execs rest env) Q E s' | f => Q f s') E s) : wpH M A (execs (st :: rest) env) Q E s := by
  rw [execs_cons]
  refine wpH_bind (wpH_mono h (fun f s' h' => ?_) fun _ _ x => x)
  cases f <;> first | exact h' | exact wpH_pure h'
theorem wpH_If {test : PySem.Expr} {body orelse : List Stmt} {pos : Pos} {Q : Flow → Shared → Prop}
    (h : wpH M A (isTrue test env (eval test env)) (fun b s₂ => if b then wpH M A (execs body env) Q E s₂ else wpH M A (execs orelse env) Q E s₂) E s) : wpH M A (exec (.If test body orelse pos) env) Q E s := fun Γ p hΓ hC => by
  simp only [exec_If, Sem.wp_bind', Sem.wp_cmd_standAt]
  refine Sem.wp_mono M Γ _ (fun b p₂ s₂ h₂ => ?_) (fun _ _ _ h' => h') _ _ (h Γ _ hΓ hC)
  cases b
  · exact (show wpH M A (execs orelse env) Q E s₂ from h₂) Γ p₂ hΓ hC
  · exact (show wpH M A (execs body env) Q E s₂ from h₂) Γ p₂ hΓ hC
theorem wpH_isTrue_Compare1 {l r : PySem.Expr} {op : CmpOp} {pos : Pos} {whole : Sem Value} {Q : Bool → Shared → Prop}
    (h : wpH M A (eval l env) (fun a s₁ => wpAny M A (eval r env) (fun b s₂ => wpAny M A (compareOp op a b) (fun c s₃ => wpAny M A (truthy c) Q E s₃) E s₂) E s₁) E s)
    (hm : behindInMarks op r = false := by with_unfolding_all rfl) : wpH M A (isTrue (.Compare l [op] [r] pos) env whole) Q E s := fun Γ p hΓ hC => by
  simp only [isTrue_Compare1, markedBehindIn_of_false hm, Sem.wp_bind', Sem.wp_holding, Sem.wp_cmd_standAt, Sem.wp_operate]
  exact Sem.wp_mono M Γ _ (fun a p₁ s₁ h₁ => Sem.wp_mono M Γ _ (fun b _ s₂ h₂ => Sem.wp_mono M Γ _ (fun c p₃ s₃ h₃ => h₃ Γ p₃ hΓ)
    (fun _ _ _ h' => h') _ _ (h₂ Γ _ hΓ)) (fun _ _ _ h' => h') _ _ (h₁ Γ p₁ hΓ)) (fun _ _ _ h' => h') _ _ (h Γ p hΓ hC)
theorem wpH_isTrue_or {x : PySem.Expr} {rest : List PySem.Expr} {pos : Pos} {whole : Sem Value} {Q : Bool → Shared → Prop}
    (h : wpH M A (isTrue x env (eval x env)) (fun c s' => if c then Q true s' else wpH M A (isTrue (.BoolOp .Or rest pos) env whole) Q E s') E s) : wpH M A (isTrue (.BoolOp .Or (x :: rest) pos) env whole) Q E s := by
  show wpH M A (do
    match BoolOp.Or, ← isTrue x env (eval x env) with
    | .And, false => pure false
    | .Or, true => pure true
    | _, _ => allTrue .Or rest env) Q E s
  refine wpH_bind (wpH_mono h (fun c s' h' => ?_) fun _ _ x => x)
  cases c with
  | false => exact h'
  | true => exact wpH_pure h'
theorem wpH_Return_some {e : PySem.Expr} {pos : Pos} {Q : Flow → Shared → Prop} (h : wpH M A (eval e env) (fun v => Q (.ret v)) E s) : wpH M A (exec (.Return (some e) pos) env) Q E s := fun Γ p hΓ hC => by
  simp only [exec_Return_some, Sem.wp_bind', Sem.wp_cmd_standAt, Sem.wp_pure']; exact h Γ _ hΓ hC
theorem wpH_Assign_Name {x : Str} {pos' pos : Pos} {value : PySem.Expr} {Q : Flow → Shared → Prop} (h : wpH M A (eval value env) (fun v s₁ => wpAny M A (storeName env x v) (fun _ => Q .next) E s₁) E s)
    (hs : swapsWith value (some (.Name x pos')) pos.line env = pure false := by rfl) : wpH M A (exec (.Assign [.Name x pos'] value pos) env) Q E s := fun Γ p hΓ hC => by
  simp only [exec_Assign_Name env x pos' value pos hs, Sem.wp_bind', Sem.wp_cmd_standAt, Sem.wp_bindName, Sem.wp_pure']
  exact Sem.wp_mono M Γ _ (fun v _ s₁ h₁ => h₁ Γ _ hΓ) (fun _ _ _ h' => h') _ _ (h Γ _ hΓ hC)
theorem wpH_tryStmt_except {body orelse : Sem Flow} {h₀ : ExceptHandler} {hs : List ExceptHandler} {Q : Flow → Shared → Prop}
    (h : wpH M A body (fun f s₁ => match f with | .next => wpAny M A orelse Q E s₁ | f => Q f s₁)
      (fun e s₁ => wpAny M A (noteFrame e env) (fun _ s₂ => wpAny M A (setFlight e none) (fun _ s₃ => wpAny M A (handleBy e env (h₀ :: hs)) Q E s₃) E s₂) E s₁) s) :
    wpH M A (tryStmt false body (h₀ :: hs) orelse [] env) Q E s := by
  unfold tryStmt
  simp only [List.isEmpty_nil, if_true, List.isEmpty_cons, Bool.false_and, Bool.false_eq_true, if_false]
  refine wpH_bind (wpH_attempt (wpH_mono h (fun f s₁ h₁ => ?_) fun e s₁ h₁ => ?_))
  · cases f <;> first | exact wpH_of h₁ | exact wpH_pure h₁
  · exact wpH_of (wpAny_bind (wpAny_mono h₁ (fun _ _ h₂ => wpAny_bind h₂) fun _ _ x => x))
theorem wpH_MethodCall {o : PySem.Expr} {name : Str} {apos pos : Pos} {args : List PySem.Expr} {pl : Sem Bool} {Q : Value → Shared → Prop}
    (h : wpAny M A (eval o env) (fun ov s₁ => wpAny M A (getMethod ov name pl) (fun fx s₂ => wpH M A (callWith pos fx.1 fx.2 (backTo pos (starEach args env)) []) Q E s₂) E s₁) E s)
    (he : eval (.Call (.Attribute o name apos) args [] pos) env = (do
      let ov ← eval o env
      standAt apos.atName
      let (f, first) ← holding [ov] (getMethod ov name pl)
      callWith pos f first (backTo pos (starEach args env)) []) := by rfl) : wpH M A (eval (.Call (.Attribute o name apos) args [] pos) env) Q E s := by
  rw [he]
  refine wpH_step (wpAny_mono h (fun ov s₁ h₁ => wpH_step (wpAny_standAt (wpH_step (wpAny_holding (wpAny_mono h₁ (fun fx s₂ h₂ => ?_) fun _ _ x => x))))) fun _ _ x => x)
  exact h₂
theorem wpH_Call {func : PySem.Expr} {args : List PySem.Expr} {pos : Pos} {Q : Value → Shared → Prop}
    (h : wpAny M A (eval func env) (fun f s₁ => wpH M A (callWith pos f [] (backTo pos (starEach args env)) []) Q E s₁) E s)
    (he : eval (.Call func args [] pos) env = (do callWith pos (← eval func env) [] (backTo pos (starEach args env)) (backToKw pos (keywordEach [] env))) := by rfl) :
    wpH M A (eval (.Call func args [] pos) env) Q E s := by
  rw [he]; exact wpH_step h
theorem wpH_keep {vs : List Value} {m : Sem Value} {Q : Value → Shared → Prop} (h : wpH M A m Q E s) : wpH M A (m.keep vs) Q E s := fun Γ p hΓ hC => by
  rw [Sem.wp_keep]; exact h Γ p hΓ hC
theorem wpH_callWith_of {P : Heap → Prop} {pos : Pos} {f : Value} {first : List Value} {args : List (Bool × Sem Value)} {Q : Value → Shared → Prop} (hplain : (args.any (·.1) || ([] : List (Option Str × Sem Value)).any (·.1.isNone)) = false)
    (hk : ∀ h, P h → ∃ k, (k = Keeper.frame ∨ k = Keeper.machine ∨ k = Keeper.boundFrame) ∧ Looks M h (keeperOf f) k)
    (h : wpAny M A (evalArgs f true args []) (fun a s₁ => P s₁.heap ∧ wpH M A (call f (first ++ a.pos) a.kw) Q E s₁) E s) : wpH M A (callWith pos f first args []) Q E s := by
  unfold callWith
  refine wpH_step (wpAny_holding (wpAny_mono h (fun a s₁ h₁ => wpH_step (wpAny_standAt ?_)) fun _ _ x => x))
  obtain ⟨k, hk', L⟩ := hk _ h₁.1
  simp only [hplain]
  refine wpH_step (L.here ?_)
  have tail : ∀ {t : Sem Value}, wpH M A t Q E s₁ → wpH M A (t >>= fun r => holding [r] point >>= fun _ => pure r) Q E s₁ :=
    fun ht => wpH_bind (wpH_mono ht (fun r s₂ hr => wpH_of (wpAny_bind (wpAny_holding (wpAny_point (wpAny_pure hr))))) fun _ _ x => x)
  have marked (mk : Value) : wpH M A (callMarked mk f (first ++ a.pos) a.kw) Q E s₁ := by unfold callMarked; exact wpH_keep h₁.2
  rcases hk' with rfl | rfl | rfl <;> dsimp only <;> first | exact tail h₁.2 | (split <;> first | exact tail h₁.2 | exact tail (marked _))
theorem wpH_callWith_K {K : Frag} {h₀ : Heap} {pos : Pos} {f : Value} {first : List Value} {e : PySem.Expr} {rest : List PySem.Expr} {Q : Value → Shared → Prop} (_X : K.In h₀) (hk : keepIn K f = true)
    (h : wpAny M A (spliced (backTo pos (starEach (e :: rest) env))) (fun vs s₁ => K.In s₁.heap ∧ wpH M A (call f (first ++ vs)) Q E s₁) E s)
    (he : starEach (e :: rest) env = (false, eval e env) :: starEach rest env := by rfl) (hplain : (backTo pos (starEach rest env)).any (·.1) = false := by rfl) :
    wpH M A (callWith pos f first (backTo pos (starEach (e :: rest) env)) []) Q E s := by
  rw [he] at h ⊢
  exact wpH_callWith_of (P := K.In) (by show ((false || (backTo pos (starEach rest env)).any (·.1)) || false) = false; rw [hplain]; rfl) (keeps_K hk) (evalArgs_plain h)
theorem wpH_callWith_type {pos : Pos} {T : String} {e : PySem.Expr} {rest : List PySem.Expr} {Q : Value → Shared → Prop}
    (h : wpAny M A (spliced (backTo pos (starEach (e :: rest) env))) (fun vs s₁ => wpH M A (call (.type T) vs) Q E s₁) E s)
    (he : starEach (e :: rest) env = (false, eval e env) :: starEach rest env := by rfl) (hplain : (backTo pos (starEach rest env)).any (·.1) = false := by rfl) :
    wpH M A (callWith pos (.type T) [] (backTo pos (starEach (e :: rest) env)) []) Q E s := by
  rw [he] at h ⊢
  exact wpH_callWith_of (P := fun _ => True) (by show ((false || (backTo pos (starEach rest env)).any (·.1)) || false) = false; rw [hplain]; rfl)
    (fun _ _ => ⟨.machine, .inr (.inl rfl), Looks.of_pure rfl⟩) (evalArgs_plain (wpAny_mono h (fun _ _ x => ⟨trivial, x⟩) fun _ _ x => x))
theorem wpH_Try_except {body orelse : List Stmt} {h₀ : ExceptHandler} {hs : List ExceptHandler} {pos : Pos} {Q : Flow → Shared → Prop} {prog : Program} {w : World}
    (h : wpH (model prog w) A (execs body env) (fun f s₁ => match f with | .next => wpAny (model prog w) A (execs orelse env) Q E s₁ | f => Q f s₁)
      (fun e s₁ => wpAny (model prog w) A (noteFrame e env) (fun _ s₂ => wpAny (model prog w) A (setFlight e none) (fun _ s₃ => wpAny (model prog w) A (handleBy e env (h₀ :: hs)) Q E s₃) E s₂) E s₁) s) :
    wpH (model prog w) A (exec (.Try body (h₀ :: hs) orelse [] pos) env) Q E s := by
  rw [arm_exec_Try]
  exact wpH_step (wpAny_standAt (wpH_tryStmt_except h))
theorem wpH_spliced1 {x : Sem Value} {Q : List Value → Shared → Prop} (h : wpH M A x (fun v s₁ => Q [v] s₁) E s) : wpH M A (spliced [(false, x)]) Q E s := by
  rw [spliced]
  refine wpH_bind (wpH_mono h (fun v s₁ h₁ => ?_) fun _ _ x => x)
  simp only [Bool.false_eq_true, if_false]
  exact wpH_of (wpAny_bind (wpAny_pure (wpAny_bind (wpAny_holding (Calls.spliced_nil (wpAny_pure h₁))))))
theorem wpH_List1 {e : PySem.Expr} {pos : Pos} {Q : Value → Shared → Prop}
    (h : wpH M A (eval e env) (fun v s₁ => wpAny M A (newList [v]) Q E s₁) E s) (he : starEach [e] env = [(false, eval e env)] := by rfl) : wpH M A (eval (.List [e] pos) env) Q E s := by
  show wpH M A (do standAt pos; newList (← spliced (backTo pos (starEach [e] env)))) Q E s
  rw [he]
  refine wpH_step (wpAny_standAt ?_)
  refine wpH_bind ?_
  show wpH M A (spliced [(false, eval e env)]) _ E s
  exact wpH_spliced1 (wpH_mono h (fun v s₁ h₁ => wpH_of h₁) fun _ _ x => x)
end

section
variable {prog : Program} {w : World} {A A₀ : Around} {R : Result → Shared → Prop} {s : Shared}
theorem codeH_func {body : List Stmt} {env : Env}
    (h : wpH (model prog w) (A.deeper env) (execs body env) (fun f s' => R (.ok (.ret (match f with | .ret v => v | _ => .none))) s')
      (fun e s' => wpAny (model prog w) (A.deeper env) (leaving env e) (fun _ s'' => R (.error e) s'') (fun e' s'' => R (.error e') s'') s') s) : codeH (model prog w) A (.func body env) R s := by
  refine codeH_of_tree ?_
  show wpH _ (A.deeper env) (do point; match ← (execs body env).onRaise (leaving env) with | .ret v => ret v | _ => ret .none) _ _ s
  refine wpH_step (wpAny_point (wpH_bind (wpH_onRaise (wpH_mono h (fun f s' h' => ?_) fun _ _ h' => wpH_of h'))))
  cases f <;> exact wpH_pure h'
theorem codeH_call_function {a : Addr} {args : Args} {o : Obj} {fd : FuncData} {body : List Stmt} (hroom : A.depth < recursionLimit)
    (ho : s.heap.get? a = some o) (hd' : o.data = .func fd) (hco : fd.scope.isCoroutine = false) (hgen : fd.scope.isGenerator = false) (hbody : fd.body = .stmts body) (hcd : s.heap.CodeRec fd.code fd.qualname)
    (h : wpAny (model prog w) A.in1 (bindArgs fd args) (fun binds s₁ =>
      wpAny (model prog w) A.in1 (newFunctionEnv fd.scope fd.globals fd.closure binds (fd.qualname ++ ".<locals>.") (some a) fd.code none fd.builtins)
        (fun env s₂ => s₂.heap.NoLimit ∧ codeH (model prog w) A (.func body env) R s₂) (fun e s' => R (.error e) s') s₁) (fun e s' => R (.error e) s') s) :
    codeH (model prog w) A (.call (.ref a) args) R s := by
  refine codeH_of_tree ?_
  show wpH _ A.in1 (callAny (.ref a) args) _ _ s
  simp only [callAny]
  refine wpH_step (wpAny_load ho ?_)
  obtain ⟨c, oc, vs, tq, hc, hoc, hdc, hq⟩ := hcd
  simp only [hd', callFunction, hco, hgen, hbody, hc]
  rw [hc] at h
  refine wpH_step (m := field (.ref c) 1) (wpAny_field hoc hdc hq (wpH_step (wpAny_pure ?_)))
  exact wpH_step (wpAny_mono h (fun binds s₁ h₁ => wpH_step (wpAny_mono h₁ (fun env s₂ h₂ => wpH_step (wpAny_enterFrame h₂.1 hroom
    (wpH_pure (And.intro rfl h₂.2)))) fun _ _ h' => h')) fun _ _ h' => h')
theorem codeH_call_def {a : Addr} {o : Obj} {fd : FuncData} {body : List Stmt} {args : Args} {binds : List (Str × Value)}
    (hroom : A.depth < recursionLimit) (ho : s.heap.get? a = some o) (hdata : o.data = .func fd) (hlim : s.heap.NoLimit) (hcd : s.heap.CodeRec fd.code fd.qualname)
    (hbody : fd.body = .stmts body) (hbind : BindsTo s fd args binds) (hcell : ∀ x ∈ fd.scope.names, x.2 ≠ .cell) (hloc : ∀ x ∈ binds, fd.scope.names.lookup x.1 = some .local)
    (h : ∀ h₀, h₀.Ns s.heap.objs.size (fun x => binds.reverse.lookup x) → (∀ b o, s.heap.get? b = some o → h₀.get? b = some o) →
      wpH (model prog w) (A.deeper (callEnv fd s.heap.objs.size a)) (execs body (callEnv fd s.heap.objs.size a)) (fun f s' => R (.ok (.ret (match f with | .ret v => v | _ => .none))) s')
        (fun e s' => wpAny (model prog w) (A.deeper (callEnv fd s.heap.objs.size a)) (leaving (callEnv fd s.heap.objs.size a) e) (fun _ s'' => R (.error e) s'') (fun e' s'' => R (.error e') s'') s')
        { s with heap := h₀, toks := s.toks + binds.length })
    (hco : fd.scope.isCoroutine = false := by rfl) (hgen : fd.scope.isGenerator = false := by rfl) (hk : fd.scope.kind = .function := by rfl) : codeH (model prog w) A (.call (.ref a) args) R s := by
  refine codeH_call_function hroom ho hdata hco hgen hbody hcd (hbind _ _ _ _ ?_)
  refine wpAny_newFunctionEnv hcell hloc (fun h₀ hns₀ hsb₀ => ⟨hlim.fresh _ hsb₀, codeH_func (h h₀ hns₀ fun b o e => ?_)⟩) hk
  exact hsb₀.extBut b o (Nat.ne_of_lt (Heap.lt_size e)) (Heap.get?_push_of_some _ e)
end
end Mine
end

section
open PySem PySem.W PyProof.Rows PySem.Calls
namespace Mine
set_option maxRecDepth 100000
set_option maxHeartbeats 8000000

theorem caller_H : HasC (⟨.builtin "claim.caller" {}, none, none, [], none⟩ : PySem.Ctx) := .inl rfl
theorem thread_ends_H {prog : Program} {w : World} {t : Sem Fin} {s : Shared} {R : Result → Shared → Prop} (hreg : s.asleep)
    (h : wpH (model prog w) callerA t (fun fin s' => ∃ f, fin = .done f ∧ (R (.ok f) s' ∧ leftWithCleanup s'.gens = false)) (fun e s' => R (.error e) s' ∧ leftWithCleanup s'.gens = false) s) :
    ∃ n r s' s'', runN (denote table) prog w n s ⟨t, .builtin "claim.caller" {}, default, []⟩ = .halted (outcomeOf r) s' ∧
      schedN (denote table) prog w n (.single s ⟨t, .builtin "claim.caller" {}, default, []⟩) = .halted (outcomeOf r) s' ∧ s'.forget = s''.forget ∧ R r s'' := by
  have hw : Sem.wp (model prog w) (⟨.builtin "claim.caller" {}, none, none, [], none⟩ : PySem.Ctx) t (Sem.finPost (model prog w) (⟨.builtin "claim.caller" {}, none, none, [], none⟩ : PySem.Ctx) fun r s' => R r s' ∧ leftWithCleanup s'.gens = false) (fun e _ s' => R (.error e) s' ∧ leftWithCleanup s'.gens = false) default s := by
    refine Sem.wp_mono _ _ t (fun fin p' s' h' => ?_) (fun _ _ _ h' => h') _ s (h _ default caller_in caller_H)
    obtain ⟨f, rfl, hf⟩ := h'
    exact hf
  obtain ⟨n, r, s₁, s₂, hs, hn, hfo, hR⟩ := wp_halts_full (M := model prog w) (R := R) hreg hw
  exact ⟨n, r, s₂, s₁, hn, hs, hfo, hR⟩

theorem callFrom_H {c : ClaimW} {tree : List Value → Sem Fin} {w : World} {s : Shared} {free : Addr → Prop} {gens : Prop} {kept : Heap → Prop} (hz : s.asleep) (hgens : s.gens = #[])
    (hspec : ∀ args, c.pre args = true → WData.layableAll args = true →
      ∀ ord : List DictEntry → List DictEntry, (∀ l, (ord l).Perm l) →
      ∃ vs s₁, layAllW c.records (classAt s.heap) w.params ord args s = some (vs, s₁) ∧
        wpH (model c.prog w) callerA (tree vs) (fun fin s' => ∃ f, fin = .done f ∧ (c.Ends s args vs s₁ (.ok f) s' ∧ s'.os = s.os ∧ AllBare s'.gens ∧ kept s'.heap))
          (fun e s' => c.Ends s args vs s₁ (.error e) s' ∧ s'.os = s.os ∧ AllBare s'.gens ∧ kept s'.heap) s₁) :
    c.CallFrom (fun vs => ⟨tree vs, .builtin "claim.caller" {}, default, []⟩) w free gens kept s := by
  intro args hpre hlay ord hord
  obtain ⟨vs, s₁, hlaid, hcode⟩ := hspec args hpre hlay ord hord
  have hal := layAllW_rest _ _ _ hlaid
  obtain ⟨k, r, s', s'', hrun, hsched, hfo, hcase, hos, hkp⟩ := thread_ends_H (prog := c.prog) (w := w) (t := tree vs) (s := s₁)
    (R := fun r s' => c.Ends s args vs s₁ r s' ∧ s'.os = s.os ∧ kept s'.heap)
    (Shared.asleep_of_life hal.2.2.2 hz)
    (wpH_mono hcode (by
      rintro fin s' ⟨f, e, h1, h2, h3, h4⟩
      exact ⟨f, e, ⟨h1, h2, h4⟩, leftWithCleanup_false_of_bare h3⟩) (by
      rintro e s' ⟨h1, h2, h3, h4⟩
      exact ⟨⟨h1, h2, h4⟩, leftWithCleanup_false_of_bare h3⟩))
  obtain ⟨eh, _, _, eo, _⟩ := Shared.forget_eq hfo
  have hcase := hcase.congr eh
  have hkp : kept s'.heap := by first | exact eh ▸ hkp | (rw [eh] at hkp; exact hkp) | (rw [← eh] at hkp; exact hkp)
  rw [← eo] at hos
  have hlife : s'.heap.life = s.heap.life := (runN_life _ _ _ hrun).trans hal.2.2.2
  refine ⟨vs, s₁, hlaid, k, _, s', hsched, ?_, (fun _ i x hx => by rw [hgens] at hx; simp at hx), hkp, by rw [hlife], Shared.rest_eq hos⟩
  rcases hcase with ⟨v, rfl, d1, d2, d3, d4, d5⟩ | ⟨e, ob, cls, rfl, d1, d2, d3, d4, d5⟩
  · exact .inl ⟨v, rfl, d1, d2, d3, fun b o y _ => d4 b o y, d5⟩
  · exact .inr ⟨e, ob, cls, rfl, d1, d2, d3, d4, fun b o y _ => d5 b o y⟩

theorem open_any_H {r : RowW} {run : Value → List Value → Sem Value} {tree : List Value → Sem Fin} {q : Program} {loose defs kps : List Str} {writes : Bool} {Xt : Shared → Bool} {XP : (Str → Option Value) → Heap → Prop} {α : Type} {Yf : Shared → α} {Ya : World → α} {YP : World → Heap → Prop} {N : Nat}
    (left : LeftO r.prog q loose Xt Yf Ya N) (hY : ∀ w s, Yf s = Ya w → YP w s.heap) (hYk : ∀ w h h', YP w h → (∀ b o, h.get? b = some o → h'.get? b = some o) → YP w h') (hX : ∀ s, Xt s = true → XP (s.heap.nsMap mainGlobals) s.heap) (hXk : ∀ mg h h', XP mg h → (∀ b o, h.get? b = some o → h'.get? b = some o) → XP mg h')
    (hRf : ∀ s, Xt s = true → RecFacts r.records s.heap) (hwr : (!writes || r.records.isEmpty) = true) (ok : (chainsOk q && opensWell r.prog && (frees r && r.within.isEmpty)) = true) (hb : r.prog.bare) (hw : r.promised)
    (ht : ∀ vs (w : World) (s : Shared) mg f (Q : Fin → Shared → Prop) (E : Value → Shared → Prop), s.heap.Ns mainGlobals mg → mg r.name = some f → wpH (model r.prog w) callerA (run f vs) (fun v s' => Q (.done (.ret v)) s') E s → wpH (model r.prog w) callerA (tree vs) Q E s)
    (pin : ∀ w s, s.heap.isNs mainGlobals = true → Ground q loose [] XP w s (s.heap.nsMap mainGlobals) (s.heap.nsMap builtinsNs) s.heap → ∀ n ∈ defs, isTheDefsW r.prog s.heap n)
    (call : ∀ (w : World) (s₀ s₁ : Shared) (mg mb : Str → Option Value), Ground q loose r.records XP w s₀ mg mb s₁.heap → YP w s₁.heap → ∀ (args : List WData) (vs : List Value) (as : List Addr),
      r.claim.pre args = true → WData.layableAll args = true → Laid r.records w s₀ s₁ args vs as → sysModules < s₀.heap.objs.size → ∃ f, mg r.name = some f ∧
        wpH (model r.prog w) callerA (run f vs) (fun v s' => GoodWG r.claim (classAt s₀.heap) (ExcName.means s₀.heap) args s₁ (.ok (.ret v)) s')
          (fun e s' => GoodWG r.claim (classAt s₀.heap) (ExcName.means s₀.heap) args s₁ (.error e) s') s₁) : r.claim.HoldsOpenBy (fun vs => ⟨tree vs, .builtin "claim.caller" {}, default, []⟩) defs kps writes := by
  obtain ⟨ok, k5⟩ := Bool.and_eq_true_iff.mp ok
  obtain ⟨hch, o1⟩ := Bool.and_eq_true_iff.mp ok
  obtain ⟨k5, k6⟩ := Bool.and_eq_true_iff.mp k5
  obtain ⟨hsame, hu, ha, hap, hm⟩ := frees_parts k5
  refine ⟨⟨hb, o1, by show r.makers.map _ = []; rw [hm]; rfl⟩, hw.witness, fun w => ⟨(left.behind hX hch w).1, fun s' hs' => ?_⟩⟩
  obtain ⟨s₀, hf, hg0, s, hT, hz, hgens, hg, G00, y⟩ := (left.behind (XP := fun mg h => XP mg h ∧ RecFacts r.records h) (fun s hs => ⟨hX s hs, hRf s hs⟩) hch w).2 s' hs'
  have G0 : Ground q loose [] XP w s (s.heap.nsMap mainGlobals) (s.heap.nsMap builtinsNs) s.heap := ⟨G00.T, G00.B, G00.D, G00.TE, G00.TD, G00.W, G00.X.1, G00.cls, G00.has, G00.apart, G00.once, G00.K⟩
  have RF := G00.X.2
  refine ⟨s₀, hf, hg0, s, hT, pin w s hg G0, RF.1, RF.2.1, ?_⟩
  have hgens : s.gens = #[] := Array.eq_empty_of_size_eq_zero (beq_iff_eq.mp hgens)
  have G : Ground q loose r.records XP w s _ _ s.heap := RF.ground G0
  refine callFrom_H (c := r.claim) hz hgens fun args hpre hlay ord hord => ?_
  obtain ⟨⟨vs, s₁⟩, hlaid⟩ := Option.isSome_iff_exists.mp (layAllW_isSome (P := w.params) (ord := ord) G.has args r.args s (pre_splitW hpre).1)
  have keeps := layAllW_keeps _ _ _ hlaid
  have hal := layAllW_rest _ _ _ hlaid
  obtain ⟨as, hrd, hin, hold⟩ := reads_layAllW hord _ _ _ hlaid hlay s₁.heap (fun _ _ e => e)
  have L : Laid r.records w s s₁ args vs as := ⟨⟨ord, hord, hlaid⟩, hrd, hin, hold, keeps, hal.1.trans hgens, hal.2.2.1⟩
  have G₁ := G.keeps hXk keeps
  obtain ⟨f, hf, h⟩ := call w s s₁ _ _ G₁ (hYk _ _ _ (hY w s y) keeps) args vs as hpre hlay L G.low
  have hi := ident_freeW hu ha hap
  have hwi : r.claim.within = [] := List.isEmpty_iff.mp k6
  exact ⟨vs, s₁, hlaid, ht vs w s₁ _ f _ _ G₁.T.g hf (wpH_mono h (fun v s' g => ⟨_, rfl, have z := g.laid (c := r.claim) hsame hwi hi L; ⟨z.1, z.2.1, z.2.2, fun q => ⟨namesKept_of hT hg kps keeps g.2.1.old, noTable hwr q⟩⟩⟩) fun e s' g => have z := g.laid (c := r.claim) hsame hwi hi L; ⟨z.1, z.2.1, z.2.2, fun q => ⟨namesKept_of hT hg kps keeps g.2.1.old, noTable hwr q⟩⟩)⟩

abbrev WalkH (q : Program) (loose : List Str) (XP : (Str → Option Value) → Heap → Prop) (YP : World → Heap → Prop) (r : RowW) (d : DefRec) (kwd : List (Str × Expr)) (run : Value → List Value → Sem Value) : Prop :=
  ∀ (w : World) (s₀ s₁ : Shared) (mg mb : Str → Option Value), Ground q loose r.records XP w s₀ mg mb s₁.heap → YP w s₁.heap → ∀ (a : Addr) (o : Obj) (pm cd doc dV kV : Value), s₁.heap.get? a = some o →
    o.data = .func { docDef d.name d.params d.body d.scope pm cd doc with defaults := dV, kwdefaults := kV } → s₁.heap.CodeRec cd d.name → Dflts mg s₁.heap d.params kwd dV kV → mg d.name = some (.ref a) → s₁.gens = #[] →
    ∀ (args : List WData) (vals : List Value) (as : List Addr), r.claim.pre args = true → WData.layableAll args = true → ReadsAllW r.records (classAt s₀.heap) s₁.heap vals args as → WellAll w.params s₁.heap vals args → (∀ a ∈ as, (a == sysModules) = false) →
      wpH (model r.prog w) callerA (run (.ref a) vals) (fun v s' => GoodWG r.claim (classAt s₀.heap) (ExcName.means s₀.heap) args s₁ (.ok (.ret v)) s')
        (fun e s' => GoodWG r.claim (classAt s₀.heap) (ExcName.means s₀.heap) args s₁ (.error e) s') s₁

theorem PySem.W.holds_open {r : OpenRow} {q : Program} {loose : List Str} {Xt : Shared → Bool} {XP : (Str → Option Value) → Heap → Prop} {α : Type} {Yf : Shared → α} {Ya : World → α} {YP : World → Heap → Prop} {d : DefRec} {kwd : List (Str × Expr)} {N : Nat}
    (left : LeftO r.prog q loose Xt Yf Ya N) (hY : ∀ w s, Yf s = Ya w → YP w s.heap) (hYk : ∀ w h h', YP w h → (∀ b o, h.get? b = some o → h'.get? b = some o) → YP w h')
    (hX : ∀ s, Xt s = true → XP (s.heap.nsMap mainGlobals) s.heap) (hXk : ∀ mg h h', XP mg h → (∀ b o, h.get? b = some o → h'.get? b = some o) → XP mg h')
    (hdef : defOf q r.name = some (d, kwd)) (hp : r.prog.theDef r.name = some (d.params, d.body, d.scope)) (hk : kwWritten? d.params.kwonlyargs d.params.kw_defaults = some kwd) (hRf : ∀ s, Xt s = true → RecFacts r.records s.heap) (hwr : (!r.writes || r.records.isEmpty) = true)
    (k1 : r.wellSaid = true) (ok : (chainsOk q && opensWell r.prog && (frees r.toRowW && r.within.isEmpty)) = true) (hb : r.prog.bare) (hw : r.toRowW.promised)
    (call : WalkH q loose XP YP r.toRowW d kwd fun f vs => PySem.call f vs) : r.Holds := by
  refine ⟨k1, hw, open_any_H (r := r.toRowW) (run := fun f vs => PySem.call f vs) (tree := fun vs => do match ← nsGet mainNs r.name with
      | some f => do ret (← PySem.call f vs)
      | none => unsupported "claim.caller:no-such-global") left hY hYk hX hXk hRf hwr ok hb hw
    (fun vs w s mg f Q E hg hf h => wpH_step (wpAny_nsGet hg (by rw [hf]; exact wpH_bind (wpH_mono h (fun _ _ x => wpH_pure x) fun _ _ x => x))))
    (fun w s hg G n hn => ?_) fun w s₀ s₁ mg mb G Y args vs as hpre hlay L low => ?_⟩
  · obtain rfl : n = r.name := by split at hn <;> simp_all
    exact pinned_of_view hg G hdef hp hk
  · obtain ⟨a, o, pm, cd, doc, dV, kV, h1, h2, h3, h4, h5⟩ := G.fn hdef
    exact ⟨.ref a, h1, call w s₀ s₁ mg mb G Y a o pm cd doc dV kV h2 h3 h4 h5 (defOf_name hdef ▸ h1) L.gens args vs as hpre hlay L.reads L.well (L.low low)⟩
end Mine
end

section
open PySem PySem.W PyProof.Rows
namespace Mine
set_option maxRecDepth 100000
set_option maxHeartbeats 8000000
open_top hd for PySem.Challenge.rw_bf0058_01
end Mine
end

section
open PySem PySem.W PyProof.Rows
namespace Mine
set_option maxRecDepth 100000
set_option maxHeartbeats 8000000

theorem next_claim (w : World) (mean : ExcName → Option Value) (mg mb : Str → Option Value)
    (dp un : Nat) (gd : Option (List Code)) (cn : Str) (cs : Scope) (a : Addr) (ccd : Value) (cl : List (Str × Addr)) (outer : List Env) (A₀ : Around) (base h₀ : Heap) (L : Addr) (m : Str → Option Value) (s : Shared) (Q E : Value → Shared → Prop)
    (S N : Addr) (vs : List Value) (ns : List Int) (n1 n2 : Nat) (at_ many : Int) (t tm : Tok) (own : List (Addr × Obj))
    (B : Below A₀ base outer h₀) (F : Fr h₀ L s.heap m) (X : (hd.heap_39 w.params).In h₀) (N0 : News h₀ L s.heap ((S, listOf [.ref N, .int at_ t].toArray n1) :: (N, listOf vs.toArray n2) :: own)) (T : Top hd.view_39 (looseW hd.view_39 [Str.ofString "BaseConverter", Str.ofString "NumberConverter", Str.ofString "IntegerConverter"]) mean mg mb h₀) (hk : cs.kind = .function)
    (hi : IntsAre vs ns) (hNS : @Ne Nat N S) (hoff : OwnOff own [S]) (hn : 0 < ns.length) (hn2 : ns.length ≤ 27) (ha : 0 ≤ at_) (ha2 : at_ ≤ 100) (hm : 0 < many) (hm2 : many ≤ 100)
    (hd1 : dp + 1 < recursionLimit) (hu1 : un + 8 < cLine)
    (hret : ∀ (r : Int) (t t' : Tok) (h' : Heap) (tk' : Nat), 0 ≤ r → r < many → Fr h₀ L h' m → News h₀ L h' ((S, listOf [.ref N, .int (at_ + 1) t'].toArray n1) :: (N, listOf vs.toArray n2) :: own) → Q (.int r t) { s with heap := h', toks := tk' }) :
    wpAny (model PySem.Challenge.rw_bf0058_01.row.prog w) (ktrTop dp un gd cn cs L a ccd cl outer) (call (.ref 130) [.ref S, .int many tm]) Q E s := by
  have hq0 : 0 ≤ at_.fdiv ↑ns.length := Int.fdiv_nonneg ha (by omega)
  have hq1 : at_.fdiv ↑ns.length ≤ 100 := by
    rw [Int.fdiv_eq_ediv_of_nonneg _ (by omega)]
    exact Int.le_trans (Int.ediv_le_self _ ha) ha2
  revert X
  k_fill
  intro X
  refine wpAny_call ?_
  k_dflt ktr_enter
  k_steps
  refine' hret _ _ ?tt _ _ (Int.fmod_nonneg_of_pos _ hm) (Int.fmod_lt_of_pos _ hm) (by k_asm) ?nn
  (case nn => refine' cb_drop ?cbN ?cbS; (case cbN => assumption); (case cbS => kcj_all))

theorem next_upd {w : World} {mean : ExcName → Option Value} {mg mb : Str → Option Value}
    {dp un : Nat} {gd : Option (List Code)} {cn : Str} {cs : Scope} {a : Addr} {ccd : Value} {cl : List (Str × Addr)} {outer : List Env} {A₀ : Around} {base h₀ : Heap} {L : Addr} {m : Str → Option Value} {s : Shared} {Q E : Value → Shared → Prop}
    {S N : Addr} {vs : List Value} {ns : List Int} {n1 n2 : Nat} {at_ many : Int} {t tm : Tok} {news : List (Addr × Obj)} {news' : Tok → List (Addr × Obj)}
    (B : Below A₀ base outer h₀) (F : Fr h₀ L s.heap m) (X : (hd.heap_39 w.params).In h₀) (N0 : News h₀ L s.heap news) (T : Top hd.view_39 (looseW hd.view_39 [Str.ofString "BaseConverter", Str.ofString "NumberConverter", Str.ofString "IntegerConverter"]) mean mg mb h₀) (hk : cs.kind = .function)
    (U : ∀ t', Upd S (listOf [.ref N, .int at_ t].toArray n1) (listOf [.ref N, .int (at_ + 1) t'].toArray n1) news (news' t')) (hN : (N, listOf vs.toArray n2) ∈ news)
    (hi : IntsAre vs ns) (hNS : @Ne Nat N S) (hn : 0 < ns.length) (hn2 : ns.length ≤ 27) (ha : 0 ≤ at_) (ha2 : at_ ≤ 100) (hm : 0 < many) (hm2 : many ≤ 100)
    (hd1 : dp + 1 < recursionLimit) (hu1 : un + 8 < cLine)
    (hret : ∀ (r : Int) (t t' : Tok) (h' : Heap) (tk' : Nat), 0 ≤ r → r < many → Fr h₀ L h' m → News h₀ L h' (news' t') → Q (.int r t) { s with heap := h', toks := tk' }) :
    wpAny (model PySem.Challenge.rw_bf0058_01.row.prog w) (ktrTop dp un gd cn cs L a ccd cl outer) (call (.ref 130) [.ref S, .int many tm]) Q E s := by
  obtain ⟨pre, post, e1, _, a1, b1⟩ := (U 0).split
  subst e1
  refine next_claim w mean mg mb dp un gd cn cs a ccd cl outer A₀ base h₀ L m s Q E S N vs ns n1 n2 at_ many t tm (pre ++ post) B F X ?_ T hk hi hNS ?_ hn hn2 ha ha2 hm hm2 hd1 hu1 ?_
  · intro p hp
    rcases List.mem_cons.mp hp with rfl | hp
    · exact N0 _ (List.mem_append.mpr (.inr (.head _)))
    · rcases List.mem_cons.mp hp with rfl | hp
      · exact N0 _ hN
      · exact N0 _ (List.mem_append.mpr ((List.mem_append.mp hp).imp id fun h => .tail _ h))
  · intro p hp b hb
    have hps : p.1 ≠ S := (List.mem_append.mp hp).elim (a1 p) (b1 p)
    rw [List.mem_singleton.mp hb]
    exact hps
  · intro r t0 t' h' tk' hr0 hr1 F' N'
    refine hret r t0 t' h' tk' hr0 hr1 F' ?_
    obtain ⟨pre', post', e2, e3, a2, b2⟩ := (U t').split
    rw [e3]
    intro p hp
    have key : ∀ p, p ∈ pre' ++ (S, listOf [.ref N, .int at_ t].toArray n1) :: post' → p.1 ≠ S → p ∈ pre ++ post := by
      intro p hp hps
      rw [← e2] at hp
      rcases List.mem_append.mp hp with hp | hp
      · exact List.mem_append.mpr (.inl hp)
      · rcases List.mem_cons.mp hp with rfl | hp
        · exact absurd rfl hps
        · exact List.mem_append.mpr (.inr hp)
    rcases List.mem_append.mp hp with hp | hp
    · exact N' p (.tail _ (.tail _ (key p (List.mem_append.mpr (.inl hp)) (a2 p hp))))
    · rcases List.mem_cons.mp hp with rfl | hp
      · exact N' _ (.head _)
      · exact N' p (.tail _ (.tail _ (key p (List.mem_append.mpr (.inr (.tail _ hp))) (b2 p hp))))
end Mine
end

section
open PySem PySem.W PyProof.Rows
namespace Mine
set_option maxRecDepth 100000
set_option maxHeartbeats 8000000

section
variable {prog : Program} {w : World} {A : Around} {E : Value → Shared → Prop} {s : Shared} {env : Env} {h₀ : Heap} {x : Str} {body : List Stmt} {Q : Flow → Shared → Prop}

/-- what stands of the state list at a loop: its two entries, the rest of the ledger -/
abbrev ledS (S N : Addr) (vs : List Value) (n1 n2 : Nat) (rest : List (Addr × Obj)) (c : Int × Tok) : List (Addr × Obj) :=
  (S, listOf [.ref N, .int c.1 c.2].toArray n1) :: (N, listOf vs.toArray n2) :: rest

theorem loop3 {r S N : Addr} {a : Int} {t t₀ u₀ v₀ : Tok} {m₀ : Str → Option Value} {vs : List Value} {n1 n2 : Nat} {rest : List (Addr × Obj)} (step : Int) (stored : List Str)
    (hh : A.handled = none) (hr : IsRange s.heap r 0 3 1 t₀ u₀ v₀) (F : Fr h₀ env.locals s.heap m₀) (N0 : News h₀ env.locals s.heap (ledS S N vs n1 n2 rest (a, t)))
    (turn : ∀ (a' : Int) (t' : Tok) (pre : List Int) (k : Int) tq (u : Str → Option Value) h tk own, pre.length < 3 → OwnOff own (S :: N :: rest.map (·.1)) → a' = a + step * (pre.length : Int) →
      Fr h₀ env.locals h (fun y => if y = x then some (.int k tq) else if stored.contains y then u y else m₀ y) → News h₀ env.locals h ((S, listOf [.ref N, .int a' t'].toArray n1) :: (N, listOf vs.toArray n2) :: (rest ++ own)) →
      wpAny (model prog w) A (execs body env) (InvPostN h₀ env.locals (KstS (ledS S N vs n1 n2 rest) (fun _ => []) (fun _ => True) x stored m₀ (fun p c => c.1 = a + step * (p.length : Int)) (pre ++ [k])) own (S :: N :: rest.map (·.1)) { s with heap := h, toks := tk } Q) E { s with heap := h, toks := tk })
    (done : ∀ (t' : Tok) (u : Str → Option Value) h tk, Fr h₀ env.locals h (fun y => if y = x then u y else if stored.contains y then u y else m₀ y) → News h₀ env.locals h ((S, listOf [.ref N, .int (a + step * 3) t'].toArray n1) :: (N, listOf vs.toArray n2) :: rest) → Q .next { s with heap := h, toks := tk }) :
    wpAny (model prog w) A (pyIter (.ref r)) (fun it s₂ => LoopAtV prog w A h₀ env x body Q E it s₂) E s := by
  refine kst_range (n := 3) (σ := Int × Tok) (ledS S N vs n1 n2 rest) (fun _ => []) (fun _ => True) stored (fun p c => c.1 = a + step * (p.length : Int)) (a, t) hh hr (by decide) (by decide) F N0 trivial (fun _ h => nomatch h) (by simp) ?_ ?_
  · rintro ⟨a', t'⟩ pre k tq u h tk own _ hl hoff _ hp F' N'
    exact turn a' t' pre k tq u h tk own hl hoff hp F' N'
  · rintro ⟨a', t'⟩ u h tk _ hp F' N'
    have e : a' = a + step * 3 := by
      have := hp
      simp only [rangeKs_length] at this
      exact this
    subst e
    exact done t' u h tk F' N'
end
end Mine
end

section
open PySem PySem.W PyProof.Rows PySem.Calls
namespace Mine
set_option maxRecDepth 100000
set_option maxHeartbeats 8000000
def Hold (_n : Nat) (P : Prop) : Prop := P
theorem Hold.out {n : Nat} {P : Prop} (h : Hold n P) : P := h
theorem Hold.in {n : Nat} {P : Prop} (h : P) : Hold n P := h
theorem some_ints {vs : List Value} {l : List Int} (h : IntsAre vs (l ++ [5, 0, 11])) (hl : l.length ≤ 24) : ∃ ns : List Int, IntsAre vs ns ∧ 0 < ns.length ∧ ns.length ≤ 27 :=
  ⟨_, h, by simp, by simp; omega⟩

/-- a bound of a converter: none or an int -/
inductive OptV : Value → Option Int → Prop
  | none : OptV .none .none
  | int (i : Int) (t : Tok) : OptV (.int i t) (some i)

inductive OptVs : List Value → Prop
  | nil : OptVs []
  | none {vs : List Value} : OptVs vs → OptVs (Value.none :: vs)
  | int {vs : List Value} {i : Int} {t : Tok} : OptVs vs → OptVs (Value.int i t :: vs)
theorem OptVs.all {vs : List Value} (h : OptVs vs) : ∀ v ∈ vs, ∃ o, OptV v o := by
  induction h with
  | nil => intro v hv; cases hv
  | none _ ih =>
    intro v hv
    rcases List.mem_cons.mp hv with rfl | hv
    · exact ⟨_, .none⟩
    · exact ih v hv
  | int _ ih =>
    intro v hv
    rcases List.mem_cons.mp hv with rfl | hv
    · exact ⟨_, .int _ _⟩
    · exact ih v hv

theorem pick_optv {prog : Program} {w : World} {A : Around} {E : Value → Shared → Prop} {s : Shared} {h₀ : Heap} {L l : Addr} {news : List (Addr × Obj)} {value slice : PySem.Expr} {vs : List Value} {n : Nat} {i : Int} {u : Tok} {Q : Value → Shared → Prop}
    (N : News h₀ L s.heap news) (hm : (l, listOf (Value.none :: vs).toArray n) ∈ news) (hov : OptVs vs) (h0 : 0 ≤ i) (h1 : i < ((Value.none :: vs).length : Int)) (hfit : i < 2 ^ 63)
    (h : ∀ v o, OptV v o → Q v s)
    (hs : subscripted slice false (.ref l) (.int i u) = operate [.ref l, .int i u] (getItem (.ref l) (.int i u)) := by with_unfolding_all rfl) :
    wpAny (model prog w) A (subscriptTail value slice (.ref l) (.int i u)) Q E s := by
  have ho := (OptVs.none hov).all
  have hl : s.heap.IsList l (Value.none :: vs).toArray := ⟨_, (N _ hm).1, rfl, n, rfl⟩
  have hlt : i.toNat < (Value.none :: vs).length := by omega
  obtain ⟨o, ho'⟩ := ho _ (List.getElem_mem hlt)
  exact tail_any hl.typeIs slot_list_getitem.lookup (wpAny_getItem_list hl h0 hfit (x := (Value.none :: vs)[i.toNat]) (by simpa using hlt) (h _ o ho')) hs
end Mine
end

section
open PySem PySem.W PyProof.Rows PySem.Calls
namespace Mine
set_option maxRecDepth 100000
set_option maxHeartbeats 8000000

abbrev ent (w : World) (name : String) (t : Tok) (v : Value) : DictEntry := { hash := PyData.keyHash w.params (Str.ofString name), key := Value.str (Str.ofString name) t, val := v }
/-- the dict of a converter as its construction leaves it -/
inductive ConvD (w : World) (vfx vmin vmax : Value) : Bool → Obj → Prop
  | yes (t0 t1 t2 t3 t4 t5 t6 : Tok) : ConvD w vfx vmin vmax true (dictOf [ent w "regex" t0 (.str (Str.ofString "-?\\d+") t6), ent w "map" t1 .none, ent w "fixed_digits" t2 vfx, ent w "min" t3 vmin, ent w "max" t4 vmax, ent w "signed" t5 (.bool true)] 6)
  | no (t1 t2 t3 t4 t5 : Tok) : ConvD w vfx vmin vmax false (dictOf [ent w "map" t1 .none, ent w "fixed_digits" t2 vfx, ent w "min" t3 vmin, ent w "max" t4 vmax, ent w "signed" t5 (.bool false)] 5)

local macro_rules | `(tactic| k_room) => `(tactic| ktr_room)
local macro_rules | `(tactic| k_units) => `(tactic| ktr_units)
local macro_rules | `(tactic| walk_at "wpAt") => `(tactic| (ks_step "exec Expr"; k_dflt (refine ks_wpAt_Expr_any ?_)))
local macro_rules | `(tactic| walk_at "wpAt") => `(tactic| (ks_step "eval Call"; k_dflt (refine ks_wpAt_MethodCall ?_)))
local macro_rules | `(tactic| walk_at "wpAt") => `(tactic| (dsimp only; walk_at "wpAt"))

theorem make_claim {w : World} {mean : ExcName → Option Value} {mg mb : Str → Option Value}
    {dp un : Nat} {gd : Option (List Code)} {cn : Str} {cs : Scope} {a : Addr} {ccd : Value} {cl : List (Str × Addr)} {outer : List Env} {A₀ : Around} {base h₀ : Heap} {L : Addr} {m : Str → Option Value} {s : Shared} {Q E : Value → Shared → Prop}
    {fx : Int} {tf : Tok} {vmin vmax : Value} {omin omax : Option Int} {sg : Bool} {own : List (Addr × Obj)}
    (B : Below A₀ base outer h₀) (F : Fr h₀ L s.heap m) (X : (hd.heap_39 w.params).In h₀) (N0 : News h₀ L s.heap own) (T : Top hd.view_39 (looseW hd.view_39 [Str.ofString "BaseConverter", Str.ofString "NumberConverter", Str.ofString "IntegerConverter"]) mean mg mb h₀) (hk : cs.kind = .function)
    (hmin : OptV vmin omin) (hmax : OptV vmax omax)
    (hd1 : dp + 5 < recursionLimit) (hu1 : un + 30 < cLine)
    (hret : ∀ (x dx : Addr) (o : Obj) (h' : Heap) (tk' : Nat), ConvD w (.int fx tf) vmin vmax sg o → Fr h₀ L h' m → News h₀ L h' ((x, instObj 121 dx) :: (dx, o) :: own) → (∀ p ∈ own, p.1 < dx) → dx < x → Q (.ref x) { s with heap := h', toks := tk' }) :
    wpAny (model PySem.Challenge.rw_bf0058_01.row.prog w) (ktrTop dp un gd cn cs L a ccd cl outer) (call (.ref 121) [.none] [(Str.ofString "fixed_digits", .int fx tf), (Str.ofString "min", vmin), (Str.ofString "max", vmax), (Str.ofString "signed", .bool sg)]) Q E s := by
  revert X
  k_fill
  intro X
  k_dflt (refine' call_cls ?k1 ?k2 ?k3 ?k4 ?k5 ?k6 ?_; (case k1 => k_asm); (case k2 => k_asm); (case k3 => k_asm); (case k4 => k_is); (case k5 => k_is); (case k6 => k_is); intro x' d' h' F' N' l1 l2; (have q1 := l1); (have q2 := l2); (try k_lt l1); (try k_lt2 l2))
  k_dflt (refine' ks_code_super ?k1 ?k2 ?k3 ?k4 ?k5 ?kA ?kF ?kK ?k6 ?k7 ?k8 ?k9 ?kB ?_ ?c1 ?c2 ?c3 ?c4; (case kA => exact rfl); (case kF => exact rfl); (case kK => assumption); (case k1 => k_asm); (case k2 => k_asm); (case k3 => k_asm); (case k4 => k_asm); (case k5 => k_asm); (case k6 => k_is); (case k7 => k_is); (case k8 => ktr_room); (case k9 => first | exact binds_K (by k_in) rfl (by k_is) rfl rfl rfl | exact BindsTo.of_eq rfl); (case kB => exact locs rfl); (case c1 => decide); (case c2 => exact rfl); (case c3 => exact rfl); (case c4 => exact rfl); intro g' L' h' FG' F' N' B' X' T' l1; (try k_lt l1); (try dsimp only))
  cases sg
  all_goals k_steps
  · refine' hret _ d' _ _ _ (ConvD.no _ _ _ _ _) (by k_asm) (cb_drop (by assumption) ?nMem) q1 q2
    (case nMem => kcj_all)
  · refine' hret _ d' _ _ _ (ConvD.yes _ _ _ _ _ _ _) (by k_asm) (cb_drop (by assumption) ?yMem) q1 q2
    (case yMem => kcj_all)
end Mine
end

section
open PySem PySem.W PyProof.Rows PySem.Calls PySem.Builtin PySem.Builtin.ObjectAttr
namespace Mine
set_option maxRecDepth 100000
set_option maxHeartbeats 8000000

theorem looks_find_type {K : Frag} {M : Model} {h : Heap} (X : K.In h) {x C : Addr} {ox : Obj} {od : Option Obj} {name : Str} {cd : ClassData} {T : String} (I : InstAt h x ox C od)
    (hcd : clsIn K C = some cd) (ha : findIn K (.ref C) name = some (some (.type T))) (ht : typeOf (.type T) = pure (.type "type")) (hg : findIn K (.type "type") "__get__" = some none)
    (ho : PySem.W.ownOf cd od name = some none) (hcn : copiedNames.contains name = false) : Looks M h (find (.ref x) (.ref C) name) (.value (.type T)) := by
  have L1 := looks_findIn (M := M) X ha
  have L2 : Looks M h (getOf (some (.type T))) none := (Looks.of_pure ht).andThen (looks_findIn X hg)
  refine L1.andThen (L2.andThen ?_)
  refine Looks.now.andThen ?_
  refine (looks_own X I hcd ho).andThen ?_
  have G : Looks M h (copiedAttributeGuard name (.ref x)) () := by
    unfold copiedAttributeGuard
    dsimp only
    split
    · rename_i q2
      have q2 : copiedNames.contains name = true := q2
      rw [hcn] at q2; cases q2
    · exact .now
  refine G.andThen ?_
  exact Looks.tag ((Looks.of_pure (handedOut_of rfl)).andThen .now)

theorem type_get : (findIn [] (.type "type") "__get__") = some none := by decide +kernel
theorem method_typeattr {prog : Program} {w : World} {A : Around} {E : Value → Shared → Prop} {s : Shared} {K : Frag} {x C L : Addr} {h₀ : Heap} {m : Str → Option Value} {ox : Obj} {es : List DictEntry} {n : Nat} {name : Str} {T : String} {pl : Sem Bool} {Q : Value × List Value → Shared → Prop}
    (F : Fr h₀ L s.heap m) (X₀ : K.In h₀) (I : InstAt s.heap x ox C (some (dictOf es n))) (hgp : plainGet K C name = true) (hh : hasDictIn K C = true)
    (ha : findIn K (.ref C) name = some (some (.type T))) (ht : typeOf (.type T) = pure (.type "type")) (hcn : copiedNames.contains name = false) (hl : getL name es = some none)
    (h : Q (.type T, []) { s with toks := s.toks + 1 }) : wpAny (model prog w) A (getMethod (.ref x) name pl) Q E s := by
  have X := X₀.keeps F.keep
  have hg : findIn K (.type "type") "__get__" = some none := type_get
  obtain ⟨hga, hk⟩ := plainGet_of hgp
  have hcan := PySem.F.canon_object_ga
  obtain ⟨cd, hc, hdd⟩ := any_some hh
  have ho : PySem.W.ownOf cd (some (dictOf es n)) name = some none := by unfold PySem.W.ownOf; rw [if_pos hdd]; exact hl
  have LF := looks_find_type (M := model prog w) X I hc ha ht hg ho hcn
  have u : wpAny (model prog w) A (do return (← getAttr (.ref x) name, ([] : List Value))) Q E s := by
    refine wpAny_bind (wpAny_mono (Q := fun v s' => Q (v, []) s') (E := E) ?_ (fun _ _ z => wpAny_pure z) fun _ _ z => z)
    refine get_open X I hga ?_
    obtain ⟨hh', g, d, t, os⟩ := s
    have L0 := I.type (M := model prog w)
    refine wpAny_bind (wpAny_pure (wpAny_bind (L0.at (wpAny_bind (LF.at ?_)))))
    refine wpAny_pure ?_
    show wpAny _ _ (handedOut (.type T)) _ _ _
    rw [handedOut_of rfl]; exact wpAny_pure h
  unfold getMethod specialOf
  refine wpAny_bind (wpAny_bind (I.type.here ((looks_findIn X hga).here ?_)))
  dsimp only
  rw [hcan, if_neg (by decide)]
  refine wpAny_bind (wpAny_bind (I.type.here ((looks_findIn X hk).here ?_)))
  refine wpAny_bind (wpAny_bind (I.type.here ((looks_findIn X ha).here ?_)))
  refine wpAny_bind ((Looks.of_pure (M := model prog w) ht).here ?_)
  rw [if_pos (by decide)]
  exact u

def rgx : Bool → Str
  | true => Str.ofString "-?\\d+"
  | false => Str.ofString "\\d+"
theorem OptV.handed {v : Value} {o : Option Int} (h : OptV v o) : handedIn v = true := by cases h <;> rfl
section
variable {w : World} {A : Around} {E : Value → Shared → Prop} {s : Shared} {x dx L : Addr} {h₀ : Heap} {m : Str → Option Value} {news : List (Addr × Obj)} {o : Obj} {vfx vmin vmax : Value} {sg ex : Bool}

theorem conv_fixed {Q : Value → Shared → Prop} {fx : Int} {tf : Tok} (F : Fr h₀ L s.heap m) (X : (hd.heap_39 w.params).In h₀) (N : News h₀ L s.heap news) (h1 : (x, instObj 121 dx) ∈ news) (h2 : (dx, o) ∈ news) (hC : ConvD w (.int fx tf) vmin vmax sg o)
    (h : Q (.int fx tf) { s with toks := s.toks + 1 }) : wpAny (model PySem.Challenge.rw_bf0058_01.row.prog w) A (getAttr (.ref x) (Str.ofString "fixed_digits") ex) Q E s := by
  revert X; k_fill; intro X
  cases hC
  · refine' get_own F X (InstAt.of_news N h1 h2) ?a4 ?a5 ?a6 ?a7 ?a8 ?a9 h; (case a4 => k_is); (case a5 => k_is); (case a6 => k_is); (case a7 => k_is); (case a8 => k_get); (case a9 => k_handed)
  · refine' get_own F X (InstAt.of_news N h1 h2) ?b4 ?b5 ?b6 ?b7 ?b8 ?b9 h; (case b4 => k_is); (case b5 => k_is); (case b6 => k_is); (case b7 => k_is); (case b8 => k_get); (case b9 => k_handed)
theorem conv_min {Q : Value → Shared → Prop} {omin : Option Int} (F : Fr h₀ L s.heap m) (X : (hd.heap_39 w.params).In h₀) (N : News h₀ L s.heap news) (h1 : (x, instObj 121 dx) ∈ news) (h2 : (dx, o) ∈ news) (hC : ConvD w vfx vmin vmax sg o) (ho : OptV vmin omin)
    (h : Q vmin { s with toks := s.toks + 1 }) : wpAny (model PySem.Challenge.rw_bf0058_01.row.prog w) A (getAttr (.ref x) (Str.ofString "min") ex) Q E s := by
  revert X; k_fill; intro X
  cases hC
  · refine' get_own F X (InstAt.of_news N h1 h2) ?a4 ?a5 ?a6 ?a7 ?a8 ho.handed h; (case a4 => k_is); (case a5 => k_is); (case a6 => k_is); (case a7 => k_is); (case a8 => k_get)
  · refine' get_own F X (InstAt.of_news N h1 h2) ?b4 ?b5 ?b6 ?b7 ?b8 ho.handed h; (case b4 => k_is); (case b5 => k_is); (case b6 => k_is); (case b7 => k_is); (case b8 => k_get)
theorem conv_max {Q : Value → Shared → Prop} {omax : Option Int} (F : Fr h₀ L s.heap m) (X : (hd.heap_39 w.params).In h₀) (N : News h₀ L s.heap news) (h1 : (x, instObj 121 dx) ∈ news) (h2 : (dx, o) ∈ news) (hC : ConvD w vfx vmin vmax sg o) (ho : OptV vmax omax)
    (h : Q vmax { s with toks := s.toks + 1 }) : wpAny (model PySem.Challenge.rw_bf0058_01.row.prog w) A (getAttr (.ref x) (Str.ofString "max") ex) Q E s := by
  revert X; k_fill; intro X
  cases hC
  · refine' get_own F X (InstAt.of_news N h1 h2) ?a4 ?a5 ?a6 ?a7 ?a8 ho.handed h; (case a4 => k_is); (case a5 => k_is); (case a6 => k_is); (case a7 => k_is); (case a8 => k_get)
  · refine' get_own F X (InstAt.of_news N h1 h2) ?b4 ?b5 ?b6 ?b7 ?b8 ho.handed h; (case b4 => k_is); (case b5 => k_is); (case b6 => k_is); (case b7 => k_is); (case b8 => k_get)
theorem conv_num {Q : Value × List Value → Shared → Prop} {pl : Sem Bool} (F : Fr h₀ L s.heap m) (X : (hd.heap_39 w.params).In h₀) (N : News h₀ L s.heap news) (h1 : (x, instObj 121 dx) ∈ news) (h2 : (dx, o) ∈ news) (hC : ConvD w vfx vmin vmax sg o)
    (h : Q (.type "int", []) { s with toks := s.toks + 1 }) : wpAny (model PySem.Challenge.rw_bf0058_01.row.prog w) A (getMethod (.ref x) (Str.ofString "num_convert") pl) Q E s := by
  revert X; k_fill; intro X
  cases hC
  · refine' method_typeattr F X (InstAt.of_news N h1 h2) ?a4 ?a5 ?a6 rfl (by decide +kernel) ?a7 h; (case a4 => k_is); (case a5 => k_is); (case a6 => k_is); (case a7 => k_get)
  · refine' method_typeattr F X (InstAt.of_news N h1 h2) ?b4 ?b5 ?b6 rfl (by decide +kernel) ?b7 h; (case b4 => k_is); (case b5 => k_is); (case b6 => k_is); (case b7 => k_get)
theorem conv_topy {Q : Value × List Value → Shared → Prop} {pl : Sem Bool} (F : Fr h₀ L s.heap m) (X : (hd.heap_39 w.params).In h₀) (N : News h₀ L s.heap news) (h1 : (x, instObj 121 dx) ∈ news) (h2 : (dx, o) ∈ news) (hC : ConvD w vfx vmin vmax sg o)
    (h : Q (.ref 91, [.ref x]) s) : wpAny (model PySem.Challenge.rw_bf0058_01.row.prog w) A (getMethod (.ref x) (Str.ofString "to_python") pl) Q E s := by
  revert X; k_fill; intro X
  cases hC
  · refine' method_inst F X (InstAt.of_news N h1 h2) ?a4 ?a5 ?a6 ?a7 h; (case a4 => k_is); (case a5 => k_is); (case a6 => k_is); (case a7 => k_get)
  · refine' method_inst F X (InstAt.of_news N h1 h2) ?b4 ?b5 ?b6 ?b7 h; (case b4 => k_is); (case b5 => k_is); (case b6 => k_is); (case b7 => k_get)
theorem conv_tourl {Q : Value × List Value → Shared → Prop} {pl : Sem Bool} (F : Fr h₀ L s.heap m) (X : (hd.heap_39 w.params).In h₀) (N : News h₀ L s.heap news) (h1 : (x, instObj 121 dx) ∈ news) (h2 : (dx, o) ∈ news) (hC : ConvD w vfx vmin vmax sg o)
    (h : Q (.ref 98, [.ref x]) s) : wpAny (model PySem.Challenge.rw_bf0058_01.row.prog w) A (getMethod (.ref x) (Str.ofString "to_url") pl) Q E s := by
  revert X; k_fill; intro X
  cases hC
  · refine' method_inst F X (InstAt.of_news N h1 h2) ?a4 ?a5 ?a6 ?a7 h; (case a4 => k_is); (case a5 => k_is); (case a6 => k_is); (case a7 => k_get)
  · refine' method_inst F X (InstAt.of_news N h1 h2) ?b4 ?b5 ?b6 ?b7 h; (case b4 => k_is); (case b5 => k_is); (case b6 => k_is); (case b7 => k_get)
theorem conv_regex {Q : Value → Shared → Prop} (F : Fr h₀ L s.heap m) (X : (hd.heap_39 w.params).In h₀) (N : News h₀ L s.heap news) (h1 : (x, instObj 121 dx) ∈ news) (h2 : (dx, o) ∈ news) (hC : ConvD w vfx vmin vmax sg o)
    (h : ∀ t, Q (.str (rgx sg) t) { s with toks := s.toks + 1 }) : wpAny (model PySem.Challenge.rw_bf0058_01.row.prog w) A (getAttr (.ref x) (Str.ofString "regex") ex) Q E s := by
  revert X; k_fill; intro X
  rcases hC with ⟨t0, t1, t2, t3, t4, t5, t6⟩ | ⟨t1, t2, t3, t4, t5⟩
  · have h : ∀ t, Q (.str (Str.ofString "-?\\d+") t) { s with toks := s.toks + 1 } := h
    refine' get_own F X (InstAt.of_news N h1 h2) ?a4 ?a5 ?a6 ?a7 ?a8 ?a9 (h t6); (case a4 => k_is); (case a5 => k_is); (case a6 => k_is); (case a7 => k_is); (case a8 => k_get); (case a9 => k_handed)
  · have h : ∀ t, Q (.str (Str.ofString "\\d+") t) { s with toks := s.toks + 1 } := h
    refine' get_cls F X (InstAt.of_news N h1 h2) ?b4 ?b5 ?b6 ?b7 ?b8 ?b9 ?bA (h 349); (case b4 => k_is); (case b5 => k_is); (case b6 => k_is); (case b7 => k_is); (case b8 => k_handed); (case b9 => decide +kernel); (case bA => k_get)
end
end Mine
end

section
open PySem PySem.W PyProof.Rows PySem.Calls
namespace Mine
set_option maxRecDepth 100000
set_option maxHeartbeats 8000000
local macro_rules | `(tactic| k_room) => `(tactic| ktr_room)
local macro_rules | `(tactic| k_units) => `(tactic| ktr_units)
local macro_rules | `(tactic| walk_at "getMethod ref") => `(tactic| (
  k_here; (with_reducible show wpAny _ _ (PySem.getMethod (Value.ref _) (PySem.Str.ofString "num_convert") _) _ _ _);
  k_dflt (refine' conv_num ?k1 ?k2 ?k3 ?k4 ?k5 ?k6 ?_; (case k1 => k_asm); (case k2 => k_asm); (case k3 => k_asm); (case k4 => k_mem); (case k5 => k_mem); (case k6 => assumption))))
local macro_rules | `(tactic| walk_at "getMethod ref") => `(tactic| (
  k_here; (with_reducible show wpAny _ _ (PySem.getMethod (Value.ref _) (PySem.Str.ofString "to_python") _) _ _ _);
  k_dflt (refine' conv_topy ?k1 ?k2 ?k3 ?k4 ?k5 ?k6 ?_; (case k1 => k_asm); (case k2 => k_asm); (case k3 => k_asm); (case k4 => k_mem); (case k5 => k_mem); (case k6 => assumption))))
local macro_rules | `(tactic| walk_at "getAttr ref") => `(tactic| (
  k_here; (with_reducible show wpAny _ _ (PySem.getAttr (Value.ref _) (PySem.Str.ofString "fixed_digits") _) _ _ _);
  k_dflt (refine' conv_fixed ?k1 ?k2 ?k3 ?k4 ?k5 ?k6 ?_; (case k1 => k_asm); (case k2 => k_asm); (case k3 => k_asm); (case k4 => k_mem); (case k5 => k_mem); (case k6 => assumption))))
local macro_rules | `(tactic| walk_at "getAttr ref") => `(tactic| (
  k_here; (with_reducible show wpAny _ _ (PySem.getAttr (Value.ref _) (PySem.Str.ofString "min") _) _ _ _);
  k_dflt (refine' conv_min ?k1 ?k2 ?k3 ?k4 ?k5 ?k6 ?k7 ?_; (case k1 => k_asm); (case k2 => k_asm); (case k3 => k_asm); (case k4 => k_mem); (case k5 => k_mem); (case k6 => assumption); (case k7 => first | assumption | exact OptV.none | exact OptV.int _ _))))
local macro_rules | `(tactic| walk_at "getAttr ref") => `(tactic| (
  k_here; (with_reducible show wpAny _ _ (PySem.getAttr (Value.ref _) (PySem.Str.ofString "max") _) _ _ _);
  k_dflt (refine' conv_max ?k1 ?k2 ?k3 ?k4 ?k5 ?k6 ?k7 ?_; (case k1 => k_asm); (case k2 => k_asm); (case k3 => k_asm); (case k4 => k_mem); (case k5 => k_mem); (case k6 => assumption); (case k7 => first | assumption | exact OptV.none | exact OptV.int _ _))))
local macro_rules | `(tactic| walk_at "exec If") => `(tactic| ((with_reducible show wpAny _ _ (PySem.exec (Stmt.If (PySem.Expr.BoolOp BoolOp.Or _ _) _ _ _) _) _ _ _); (rename OptV _ _ => hv); refine Hold.out (n := 3) ?_))

def toldF (p : Option Int) (len : Nat) (fx : Int) (omin omax : Option Int) : Option Int :=
  if fx ≠ 0 ∧ (len : Int) ≠ fx then none else match p with
  | none => none
  | some n => if (omin.any fun i => decide (n < i)) || (omax.any fun i => decide (i < n)) then none else some n

theorem toldF_len {p : Option Int} {len : Nat} {fx : Int} {a b : Option Int} (h : fx ≠ 0) (h2 : (len : Int) ≠ fx) : toldF p len fx a b = none := by
  unfold toldF; rw [if_pos ⟨h, h2⟩]
theorem toldF_low {len : Nat} {fx n i : Int} {b : Option Int} (h1 : fx = 0 ∨ (len : Int) = fx) (h : n < i) : toldF (some n) len fx (some i) b = none := by
  unfold toldF
  rw [if_neg (by omega)]
  simp [h]
theorem toldF_high {len : Nat} {fx n i : Int} {a : Option Int} (h1 : fx = 0 ∨ (len : Int) = fx) (h : i < n) : toldF (some n) len fx a (some i) = none := by
  unfold toldF
  rw [if_neg (by omega)]
  simp [h]
theorem toldF_ok {len : Nat} {fx n : Int} {a b : Option Int} (h1 : fx = 0 ∨ (len : Int) = fx) (ha : ∀ i, a = some i → ¬ n < i) (hb : ∀ i, b = some i → ¬ i < n) : toldF (some n) len fx a b = some n := by
  unfold toldF
  rw [if_neg (by omega)]
  have e1 : (a.any fun i => decide (n < i)) = false := by
    cases a with
    | none => rfl
    | some i => simpa using ha i rfl
  have e2 : (b.any fun i => decide (i < n)) = false := by
    cases b with
    | none => rfl
    | some i => simpa using hb i rfl
  simp only [e1, e2]
  rfl
theorem toldF_bad {len : Nat} {fx : Int} {a b : Option Int} : toldF none len fx a b = none := by
  unfold toldF
  split <;> rfl

theorem told_some {w : World} {mean : ExcName → Option Value} {mg mb : Str → Option Value}
    {dp un : Nat} {gd : Option (List Code)} {cn : Str} {cs : Scope} {a : Addr} {ccd : Value} {A₀ : Around} {h₀ : Heap} {L : Addr} {m : Str → Option Value} {s : Shared} {Q E : Value → Shared → Prop}
    {fx : Int} {tf : Tok} {vmin vmax : Value} {omin omax : Option Int} {sg : Bool} {news : List (Addr × Obj)} {x dx : Addr} {o : Obj} {text : Str} {tt : Tok} {n : Int}
    (B : Below A₀ h₀ [] h₀) (F : Fr h₀ L s.heap m) (X : (hd.heap_39 w.params).In h₀) (N0 : News h₀ L s.heap news) (T : Top hd.view_39 (looseW hd.view_39 [Str.ofString "BaseConverter", Str.ofString "NumberConverter", Str.ofString "IntegerConverter"]) mean mg mb h₀) (hk : cs.kind = .function)
    (hx : (x, instObj 121 dx) ∈ news) (hdx : (dx, o) ∈ news)
    (hmin : OptV vmin omin) (hmax : OptV vmax omax) (hC : ConvD w (.int fx tf) vmin vmax sg o) (hlen : text.length ≤ 640) (hint : PySem.intText? text = some n)
    (hd1 : dp + 5 < recursionLimit) (hu1 : un + 30 < cLine)
    (hno : toldF (some n) text.length fx omin omax = none → ∀ (t : Tok) (h' : Heap) (tk' : Nat), Fr h₀ L h' m → News h₀ L h' news → Q (.str (Str.ofString "refused") t) { s with heap := h', toks := tk' })
    (hyes : ∀ (k : Int) (l : Addr) (t : Tok) (h' : Heap) (tk' : Nat), toldF (some n) text.length fx omin omax = some k → Fr h₀ L h' m → News h₀ L h' ((l, listOf [.int k t].toArray 0) :: news) → (∀ p ∈ news, p.1 < l) → Q (.ref l) { s with heap := h', toks := tk' }) :
    wpAny (model PySem.Challenge.rw_bf0058_01.row.prog w) (ktrTop dp un gd cn cs L a ccd [] []) (call (.ref 154) [.ref x, .str text tt] []) Q E s := by
  revert X
  k_fill
  intro X
  refine wpAny_call ?_
  k_dflt (refine' code_defS0 (cn := cn) (cs := cs) (a := a) (ccd := ccd) ?k1 ?k2 ?k3 ?k4 ?k5 ?kA ?k6 ?k7 ?k8 ?k9 ?kB ?_ ?cK ?c2 ?c3 ?c4 ?c5; (case kA => exact rfl); (case k2 => k_asm); (case k1 => k_asm); (case k3 => k_asm); (case k4 => k_asm); (case k5 => k_asm); (case k6 => k_is); (case k7 => k_is); (case k8 => k_room); (case k9 => first | exact binds_K (by k_in) rfl (by k_is) rfl rfl rfl | exact BindsTo.of_eq rfl | fail "kts_go: no rule for these arguments"); (case kB => exact locs rfl); (case cK => assumption); (case c2 => exact rfl); (case c3 => exact rfl); (case c4 => exact rfl); (case c5 => decide); intro g' L' h' FG' F' N' B' X' T' D'; (try dsimp only); (try k_lift B'); (try k_fold))
  k_steps
  all_goals try (refine Hold.in ?_; rename OptV vmin omin => h1; cases h1 <;> (rename OptV vmax omax => h2; cases h2 <;> k_steps))
  all_goals first
    | (refine hno ?_ _ _ _ (by k_asm) (by k_asm); first | exact toldF_len (by omega) (by omega) | exact toldF_low (by omega) (by omega) | exact toldF_high (by omega) (by omega))
    | (refine hyes n _ _ _ _ (toldF_ok (by omega) ?_ ?_) (by k_asm) (by k_asm) (by first | assumption | exact ktn_ltOf (by assumption)) <;> (intro i hi; cases hi; try omega))
end Mine
end

section
open PySem PySem.W PyProof.Rows PySem.Calls
namespace Mine
set_option maxRecDepth 100000
set_option maxHeartbeats 8000000

section
variable {prog : Program} {w : World} {A₀ A : Around} {s : Shared} {base h₀ g₀ : Heap} {outer : List Env} {L a : Addr} {m : Str → Option Value} {cn : Str} {cs : Scope} {ccd : Value} {news : List (Addr × Obj)} {K : Frag} {p : Program} {loose : List Str} {mean : ExcName → Option Value} {mg mb : Str → Option Value}
    {R : Result → Shared → Prop} {name qual : Str} {params : Arguments} {body : List Stmt} {scope : Scope} {dV kV doc pm cdv ct oc : Value} {an od : Option Addr} {osl : Array (Option Value)} {f : Addr} {args : Args} {binds : List (Str × Value)}

/-- a def that catches, called from the law's own frame: the H form of code_defS0 -/
theorem code_catchH0 (B : Below A₀ base [] h₀) (F : Fr h₀ L s.heap m) (X₀ : K.In h₀) (N : News h₀ L s.heap news) (T : Top p loose mean mg mb h₀) (hA : A.frames = some [envOf cn cs L a ccd])
    (ho : K.lookup f = some ⟨oc, od, .func (fnOf name qual params body scope dV kV doc pm an cdv ct), osl⟩) (hcd : codeIn K cdv qual = true) (hroom : A.depth < recursionLimit)
    (hbind : BindsTo s (fnOf name qual params body scope dV kV doc pm an cdv ct) args binds) (hloc : ∀ y ∈ binds, scope.names.lookup y.1 = some .local)
    (h : ∀ g L' h₁, Fr h₀ L g m → Fr g L' h₁ (fun y => binds.reverse.lookup y) → News g L' h₁ news → Below A base [envOf cn cs L a ccd] g → K.In g → Top p loose mean mg mb g → KtsDicts ([envOf cn cs L a ccd].filterMap (·.frame)) g →
      wpH (model prog w) (A.deeper (envOf qual scope L' f cdv)) (execs body (envOf qual scope L' f cdv))
        (fun fl s' => LeaveS0 ([envOf cn cs L a ccd].filterMap (·.frame)) h₀ L m g R (match fl with | .ret v => v | _ => .none) s')
        (fun e s' => wpAny (model prog w) (A.deeper (envOf qual scope L' f cdv)) (leaving (envOf qual scope L' f cdv) e) (fun _ s'' => R (.error e) s'') (fun e' s'' => R (.error e') s'') s')
        { s with heap := h₁, toks := s.toks + binds.length })
    (hck : cs.kind = .function) (hco : scope.isCoroutine = false) (hgen : scope.isGenerator = false) (hk : scope.kind = .function)
    (hcell : ∀ x ∈ scope.names, x.2 ≠ .cell) : codeH (model prog w) A (.call (.ref f) args) R s := by
  have X := X₀.keeps F.keep
  obtain ⟨oL, es, ep, hLg, hLd, hN, hNs, st, B₂⟩ := kts_enter B F N hA hck
  refine codeH_call_def (fd := fnOf name qual params body scope dV kV doc pm an cdv ct) (body := body) (binds := binds) hroom (X _ _ ho) rfl (T.nolimit.keeps F.keep) (codeRec_of X hcd) rfl hbind hcell hloc (fun h₁ hns hk₁ => ?_) hco hgen hk
  have dicts : KtsDicts ([envOf cn cs L a ccd].filterMap (·.frame)) (hideAll s.heap (news.map (·.1))) := fun b hb => by
    rcases kts_mem hb with rfl | z
    · exact ⟨oL, es, ep, hLg, hLd⟩
    · simp at z
  have Fnew : Fr (hideAll s.heap (news.map (·.1))) s.heap.objs.size h₁ (fun y => binds.reverse.lookup y) := ⟨hns, fun b o e => hk₁ b o (of_hideAll _ e), Nat.le_of_eq (hideAll_size _ _)⟩
  have Nnew : News (hideAll s.heap (news.map (·.1))) s.heap.objs.size h₁ news := fun q hq => ⟨hk₁ _ _ (N q hq).1, Nat.ne_of_lt (Heap.lt_size (N q hq).1), hideAll_none _ (List.mem_map_of_mem hq)⟩
  refine wpH_mono (h _ s.heap.objs.size h₁ ⟨hN _ hLg, st, F.above⟩ Fnew Nnew B₂ (X₀.keeps st) (T.keeps st) dicts) (fun fl s' hl => ?_) fun _ _ y => y
  obtain ⟨g', L', m', news', T', F', N', k⟩ := hl
  have nL₀ : h₀.get? L = none := kts_self F
  obtain ⟨sl, hs⟩ := T'.up hLg
  have keepH : ∀ b o, h₀.get? b = some o → s'.heap.get? b = some o := fun b o e => F'.keep b o (T'.other b o (st b o e) fun q => by
    rcases kts_mem q with z | z
    · rw [z, nL₀] at e; cases e
    · simp at z)
  refine k ⟨hNs sl _ (F'.keep _ _ hs), keepH, F.above⟩ fun q hq => ⟨(N' q hq).1, fun e => ?_, ?_⟩
  · have z := (N' q hq).2.2
    rw [e, hs] at z; cases z
  · cases e : h₀.get? q.1 with
    | none => rfl
    | some o =>
      obtain ⟨sl', hs'⟩ := T'.up (st _ _ e)
      have z := (N' q hq).2.2
      rw [hs'] at z; cases z

/-- a def that catches, called deeper: the H form of code_defS -/
theorem code_catchH (B : Below A₀ base outer h₀) (F : Fr h₀ L s.heap m) (X₀ : K.In h₀) (N : News h₀ L s.heap news) (T : Top p loose mean mg mb h₀) (XB : K.In base) (TB : Top p loose mean mg mb base) (D : KtsDicts (outer.filterMap (·.frame)) h₀)
    (T0 : KtsTurn (outer.filterMap (·.frame)) g₀ h₀) (hA : A.frames = some (envOf cn cs L a ccd :: outer))
    (ho : K.lookup f = some ⟨oc, od, .func (fnOf name qual params body scope dV kV doc pm an cdv ct), osl⟩) (hcd : codeIn K cdv qual = true) (hroom : A.depth < recursionLimit)
    (hbind : BindsTo s (fnOf name qual params body scope dV kV doc pm an cdv ct) args binds) (hloc : ∀ y ∈ binds, scope.names.lookup y.1 = some .local)
    (h : ∀ g L' h₁, Fr h₀ L g m → Fr g L' h₁ (fun y => binds.reverse.lookup y) → News g L' h₁ news → Below A base (envOf cn cs L a ccd :: outer) g → K.In g → Top p loose mean mg mb g → KtsDicts ((envOf cn cs L a ccd :: outer).filterMap (·.frame)) g →
      wpH (model prog w) (A.deeper (envOf qual scope L' f cdv)) (execs body (envOf qual scope L' f cdv))
        (fun fl s' => LeaveS ((envOf cn cs L a ccd :: outer).filterMap (·.frame)) A₀ base outer K p loose mean mg mb g₀ h₀ L m g R (match fl with | .ret v => v | _ => .none) s')
        (fun e s' => wpAny (model prog w) (A.deeper (envOf qual scope L' f cdv)) (leaving (envOf qual scope L' f cdv) e) (fun _ s'' => R (.error e) s'') (fun e' s'' => R (.error e') s'') s')
        { s with heap := h₁, toks := s.toks + binds.length })
    (hck : cs.kind = .function) (hco : scope.isCoroutine = false) (hgen : scope.isGenerator = false) (hk : scope.kind = .function)
    (hcell : ∀ x ∈ scope.names, x.2 ≠ .cell) : codeH (model prog w) A (.call (.ref f) args) R s := by
  have X := X₀.keeps F.keep
  obtain ⟨oL, es, ep, hLg, hLd, hN, hNs, st, B₂⟩ := kts_enter B F N hA hck
  refine codeH_call_def (fd := fnOf name qual params body scope dV kV doc pm an cdv ct) (body := body) (binds := binds) hroom (X _ _ ho) rfl (T.nolimit.keeps F.keep) (codeRec_of X hcd) rfl hbind hcell hloc (fun h₁ hns hk₁ => ?_) hco hgen hk
  have dicts : KtsDicts ((envOf cn cs L a ccd :: outer).filterMap (·.frame)) (hideAll s.heap (news.map (·.1))) := fun b hb => by
    rcases kts_mem hb with rfl | hb
    · exact ⟨oL, es, ep, hLg, hLd⟩
    · obtain ⟨o, es', n', ho', hd'⟩ := D b hb
      exact ⟨o, es', n', st b o ho', hd'⟩
  have Fnew : Fr (hideAll s.heap (news.map (·.1))) s.heap.objs.size h₁ (fun y => binds.reverse.lookup y) := ⟨hns, fun b o e => hk₁ b o (of_hideAll _ e), Nat.le_of_eq (hideAll_size _ _)⟩
  have Nnew : News (hideAll s.heap (news.map (·.1))) s.heap.objs.size h₁ news := fun q hq => ⟨hk₁ _ _ (N q hq).1, Nat.ne_of_lt (Heap.lt_size (N q hq).1), hideAll_none _ (List.mem_map_of_mem hq)⟩
  refine wpH_mono (h _ s.heap.objs.size h₁ ⟨hN _ hLg, st, F.above⟩ Fnew Nnew B₂ (X₀.keeps st) (T.keeps st) dicts) (fun fl s' hl => ?_) fun _ _ y => y
  have nL₀ : h₀.get? L = none := kts_self F
  rcases hl with ⟨L', m', news', F', N', k⟩ | ⟨g', L', m', news', T', F', N', k⟩
  · refine k ⟨hN _ (F'.keep _ _ hLg), fun b o e => F'.keep b o (st b o e), F.above⟩ fun q hq => ⟨(N' q hq).1, fun e => ?_, ?_⟩
    · have z := (N' q hq).2.2
      rw [e, hLg] at z; cases z
    · cases e : h₀.get? q.1 with
      | none => rfl
      | some o =>
        have z := (N' q hq).2.2
        rw [st _ _ e] at z; cases z
  · obtain ⟨sl, hs⟩ := T'.up hLg
    obtain ⟨T₁, S₁⟩ := kts_turn_at (h := s'.heap) (fs := outer.filterMap (·.frame)) (g := h₀)
      (fun b hb => let ⟨_, o, ho', _⟩ := B.frames.mem hb; ⟨o, ho'⟩)
      (fun b o e nmem => F'.keep b o (T'.other b o (st b o e) fun q => by
        rcases kts_mem q with z | z
        · rw [z, nL₀] at e; cases e
        · exact nmem z))
      (fun b o e _ => let ⟨sl', hs'⟩ := T'.up (st b o e); ⟨sl', F'.keep _ _ hs'⟩)
    have stays : base.StaysIn (ktsHeap s'.heap (outer.filterMap (·.frame)) h₀) := fun b o e => T₁.other b o (B.stays b o e) fun hm => by
      rw [(B.frames.mem hm).1] at e; cases e
    have B₃ : Below A₀ base outer (ktsHeap s'.heap (outer.filterMap (·.frame)) h₀) := ⟨B.stack, stays, B.frames.of_keeps fun b o e _ => let ⟨sl', hs'⟩ := T₁.up e; ⟨_, hs', rfl⟩⟩
    refine k _ (T0.trans T₁) ⟨hNs sl _ (F'.keep _ _ hs), S₁, by rw [T₁.size]; exact F.above⟩ (fun q hq => ⟨(N' q hq).1, fun e => ?_, ?_⟩) B₃ (XB.keeps stays) (TB.keeps stays) (D.turn T₁)
    · have z := (N' q hq).2.2
      rw [e, hs] at z; cases z
    · refine T₁.none_ _ ?_
      cases e : h₀.get? q.1 with
      | none => rfl
      | some o =>
        obtain ⟨sl', hs'⟩ := T'.up (st _ _ e)
        have z := (N' q hq).2.2
        rw [hs'] at z; cases z
end
end Mine
end

section
open PySem PySem.W PyProof.Rows PySem.Calls
namespace Mine
set_option maxRecDepth 100000
set_option maxHeartbeats 8000000

section
variable {α β : Type} {M : Model} {A : Around} {E : Value → Shared → Prop} {s : Shared}
theorem no_mark {own : List String} {l : List (Code × Pos)} (h : (l.any fun x => x.1.isCaller) = true) : pythonCodeMadeTheCall own (l.map (·.1)) = false := by
  have e : ((l.map (·.1)).any fun c => match c with | .builtin "claim.caller" _ => true | _ => false) = true := by
    rw [List.any_map]; exact h
  unfold pythonCodeMadeTheCall
  rw [Bool.and_eq_false_iff, Bool.and_eq_false_iff, Bool.not_eq_false']
  exact .inl (.inl e)
theorem wpH_mark {own : List String} {e : Value} {Q : Unit → Shared → Prop} (h : Q () s) : wpH M A (markTheRefusal own e) Q E s := fun Γ p hΓ hC => by
  unfold markTheRefusal
  have e' : (((Γ.code, p) :: Γ.below).any fun x => x.1.isCaller) = true := by rw [List.any_cons, Bool.or_eq_true]; exact hC
  have n := no_mark (own := own) e'
  rw [Sem.wp_bind']
  show Sem.wp M Γ (if pythonCodeMadeTheCall own (((Γ.code, p) :: Γ.below).map (·.1)) = true then _ else _) _ _ p s
  rw [n]
  exact h
theorem wpH_ite_true {c : Prop} [Decidable c] {a b : Sem α} {Q : α → Shared → Prop} (hc : decide c = true) (h : wpH M A a Q E s) : wpH M A (if c then a else b) Q E s := by rw [if_pos (of_decide_eq_true hc)]; exact h
theorem wpH_ite_false {c : Prop} [Decidable c] {a b : Sem α} {Q : α → Shared → Prop} (hc : decide c = false) (h : wpH M A b Q E s) : wpH M A (if c then a else b) Q E s := by rw [if_neg (of_decide_eq_false hc)]; exact h
theorem wpH_false {t : Sem α} {Q : α → Shared → Prop} (h : wpH M A t (fun _ _ => False) E s) : wpH M A t Q E s := wpH_mono h (fun _ _ x => x.elim) fun _ _ x => x
end

section
variable {prog : Program} {w : World} {A : Around} {E : Value → Shared → Prop} {s : Shared}
theorem msg_len (y : Array Nat) : (PySem.Str.ofString (toString "invalid literal for int() with base " ++ toString 10 ++ toString ": ") ++ (⟨y.extract 0 200⟩ : PySem.Str)).length ≤ sizeLine := by
  rw [PySem.Str.length_append]
  have h1 : (PySem.Str.ofString (toString "invalid literal for int() with base " ++ toString 10 ++ toString ": ")).length ≤ 100 := by decide +kernel
  have h2 : (⟨y.extract 0 200⟩ : PySem.Str).length ≤ 200 := by
    show (y.extract 0 200).size ≤ 200
    rw [Array.size_extract]; omega
  rw [sizeLine_eq]
  omega
theorem text_refused {x : PySem.Str} {u : Tok} {text : List Nat} (hh : A.handled = none) (hx : (reprText x).length ≤ sizeLine)
    (hs : (text.takeWhile (· != 0)).length ≤ 640)
    (hr : (int_private% "readNumeral") 0 10 (text.takeWhile (· != 0)) = (int_private% "Numeral.invalid") ∨
      ∃ i, (int_private% "readNumeral") 0 10 (text.takeWhile (· != 0)) = (int_private% "Numeral.value") i ∧ ¬ ((text.takeWhile (· != 0)).length == text.length) = true)
    (h : ∀ h' tk e, Heap.NewExc s.heap h' e "ValueError" → E (.ref e) { s with heap := h', toks := tk }) :
    wpH (model prog w) A ((int_private% "intFromText") (.str x u) text 10) (fun _ _ => False) E s := by
  obtain ⟨hp, g, d, tk, os⟩ := s
  refine wpH_ite_true (decide_eq_true hs) ?_
  refine wpH_step (wpAny_pure ?_)
  dsimp only
  rcases hr with hr | ⟨i, hr, hl⟩
  · rw [hr]
    dsimp only
    refine wpH_step (m := (int_private% "bytesOf?") (.str x u)) (wpAny_pure ?_)
    refine wpH_ite_false rfl ?_
    refine wpH_step (wpAny_rule ?_)
    refine wpH_step (m := (int_private% "bytesOf?") (.str x u)) (wpAny_pure ?_)
    dsimp only
    refine wpH_step (wpAny_pyRepr_str ?_ hx)
    refine wpH_step (wpAny_mkStr ?_ (msg_len _))
    refine wpH_step (wpAny_newExc_plain plainExc_ValueError (fun h' e hm => ?_))
    exact wpH_bind (wpH_mark (wpH_of (wpAny_raiseNew_none hh (h _ _ _ hm.newExc))))
  · rw [hr]
    dsimp only
    refine wpH_ite_false (decide_eq_false hl) ?_
    refine wpH_step (wpAny_rule ?_)
    refine wpH_step (m := (int_private% "bytesOf?") (.str x u)) (wpAny_pure ?_)
    dsimp only
    refine wpH_step (wpAny_pyRepr_str ?_ hx)
    refine wpH_step (wpAny_mkStr ?_ (msg_len _))
    refine wpH_step (wpAny_newExc_plain plainExc_ValueError (fun h' e hm => ?_))
    exact wpH_bind (wpH_mark (wpH_of (wpAny_raiseNew_none hh (h _ _ _ hm.newExc))))
end
end Mine
end

section
open PySem PySem.W PyProof.Rows PySem.Calls
namespace Mine
set_option maxRecDepth 100000
set_option maxHeartbeats 8000000

section
variable {prog : Program} {w : World} {A : Around} {E : Value → Shared → Prop} {s : Shared}
theorem obj_refused {x : PySem.Str} {u : Tok} {tail : Value → Sem Fin} {Q : Fin → Shared → Prop} (hh : A.handled = none) (hx : (reprText x).length ≤ sizeLine) (hl : x.length ≤ 640) (hn : PySem.intText? x = none)
    (h : ∀ h' tk e, Heap.NewExc s.heap h' e "ValueError" → E (.ref e) { s with heap := h', toks := tk }) :
    wpH (model prog w) A ((int_private% "intFromObject") (.str x u) >>= tail) Q E s := by
  have hs : (numSeenOf x).length ≤ 640 := Nat.le_trans (seen_length x) hl
  have hr : (int_private% "readNumeral") 0 10 (numSeenOf x) = (int_private% "Numeral.invalid") ∨
      ∃ i, (int_private% "readNumeral") 0 10 (numSeenOf x) = (int_private% "Numeral.value") i ∧ ¬ ((numSeenOf x).length == (numTextOf x).length) = true := by
    rcases read0 x hs with ⟨m, h1, h2, h3⟩ | ⟨_, h1⟩
    · rw [hn] at h1; cases h1
    · exact h1
  have f3 := KIN.str_int
  have f4 := KIN.str_idx
  have f5 := KIN.str_trunc
  have f6 : typeOf (.str x u) = pure (.type "str") := rfl
  refine wpH_bind (wpH_false ?_)
  obtain ⟨hp, g, d, tk, os⟩ := s
  refine wpH_step ?_
  repeat (first | wp_step | (with_reducible refine wpH_ite_false rfl ?_) | (with_reducible refine wpH_step ?_))
  exact wpH_mono (text_refused hh hx hs hr h) (fun _ _ x => x) fun _ _ x => x
theorem new_refused {x : PySem.Str} {u : Tok} {Q : Fin → Shared → Prop} (hh : A.handled = none) (hx : (reprText x).length ≤ sizeLine) (hl : x.length ≤ 640) (hn : PySem.intText? x = none)
    (h : ∀ h' tk e, Heap.NewExc s.heap h' e "ValueError" → E (.ref e) { s with heap := h', toks := tk }) :
    wpH (model prog w) A (Builtin.«int.__new__» ⟨[.type "int", .str x u], []⟩) Q E s := by
  have f1 := F.conv_sub_int
  have f2 := F.madeHere_int
  obtain ⟨hp, g, d, tk, os⟩ := s
  unfold Builtin.«int.__new__»
  dsimp only
  repeat (first | wp_step | (with_reducible refine wpH_ite_false rfl ?_) | (with_reducible refine wpH_step ?_))
  exact obj_refused hh hx hl hn h

theorem codeH_builtin {R : Result → Shared → Prop} {id : String} {args : Args} {b : Builtin} (hb : entryFor table id = some b)
    (h : wpH (model prog w) (A.under (.builtin id args)) (b args)
      (fun fin s' => match fin with | .done f => R (.ok f) s' | .again c' => c'.quiet = true ∧ codeH (model prog w) A c' R s') (fun e s' => R (.error e) s') s) :
    codeH (model prog w) A (.builtin id args) R s := by
  refine codeH_of_tree ?_
  show wpH _ _ (match entryFor table id with | some b => b args | none => unsupported ((withoutEnding? id "#data").getD id)) _ _ s
  rw [hb]; exact h
theorem codeH_call_builtin {R : Result → Shared → Prop} {id : String} {args : Args} {b : Builtin} (hq : plainId id = true) (hb : entryFor table id = some b)
    (h : wpAny (model prog w) A.in1 (checkBuiltinCall id args) (fun _ s₁ => wpH (model prog w) A.in1 (b args)
      (fun fin s' => match fin with | .done f => R (.ok f) s' | .again c' => c'.quiet = true ∧ codeH (model prog w) A c' R s') (fun e s' => R (.error e) s') s₁)
      (fun e s' => R (.error e) s') s) : codeH (model prog w) A (.call (.builtin id) args) R s := by
  refine codeH_of_tree ?_
  show wpH _ A.in1 (do checkBuiltinCall id args; again (.builtin id args)) _ _ s
  refine wpH_step (wpAny_mono h (fun _ s₁ h₁ => wpH_pure (And.intro (plainId_quiet hq args) (codeH_of_tree ?_))) fun _ _ h' => h')
  show wpH _ _ (match entryFor table id with | some b => b args | none => unsupported ((withoutEnding? id "#data").getD id)) _ _ s₁
  rw [hb, Around.under_plainId hq args]; exact h₁
theorem int_refused {x : PySem.Str} {u : Tok} {Q : Value → Shared → Prop} (hh : A.handled = none) (hx : (reprText x).length ≤ sizeLine) (hl : x.length ≤ 640) (hn : PySem.intText? x = none)
    (h : ∀ h' tk e, Heap.NewExc s.heap h' e "ValueError" → E (.ref e) { s with heap := h', toks := tk }) :
    wpH (model prog w) A (call (.type "int") [.str x u] []) Q E s := by
  obtain ⟨c, tl, hmro⟩ := F.called_int.mro
  have hmade := F.called_int.made
  have hct := F.typeCall_int_1 (.str x u)
  refine wpH_call (codeH_of_tree ?_)
  show wpH _ _ (callAny (.type "int") _) _ _ _
  refine wpH_pure ⟨Code.quiet_builtin _ (by decide +kernel), codeH_builtin F.entry_type_call ?_⟩
  rw [Around.under_plain (weight_type_call_type "int" [.str x u] []) (units_type_call_type "int" [.str x u] [])]
  have h1 := F.called_int.notType
  have h2 := F.called_int.canCreate
  obtain ⟨hp, g, d, tk, os⟩ := s
  unfold Builtin.«type.__call__»
  dsimp only
  repeat (first | assumption | ((with_reducible show wpH _ _ (holding _ _ >>= _) _ _ _); refine wpH_bind (wpH_holding (wpH_false (t := call _ _ _) ?_)); (refine (wpH_false (t := call _ _ _) ?_)); refine wpH_call (codeH_mono (R := fun r s' => match r with | .ok _ => False | .error e => E e s') ?_ ?_)) | ((with_reducible show codeH _ _ _ _ _); skip; fail) | wp_step | (with_reducible refine wpH_ite_false rfl ?_) | (with_reducible refine wpH_step ?_))
  · exact codeH_call_builtin (by decide +kernel) F.entry_int_new (wpAny_of_eq (F.newCall_int_1 _) (new_refused hh hx hl hn h))
  · intro r s' hr
    cases r with
    | ok f => exact hr.elim
    | error e => exact hr
end
end Mine
end

section
open PySem PySem.W PyProof.Rows PySem.Calls
namespace Mine
set_option maxRecDepth 100000
set_option maxHeartbeats 8000000

theorem entry_unchain : entryFor table "proto.unchain" = some Builtin.«proto.unchain» := entryFor_of_tree (by kernel_rfl)

section
variable {M : Model} {prog : Program} {w : World} {A : Around} {E : Value → Shared → Prop} {s : Shared} {env : Env}
variable {nm q : Str} {C N : Addr} {bs bm : List Value} {hdct : Bool} {sn : List Str} {sub : List Value} {ab : Bool} {col : Option Bool} {dd : Option Addr} {k0 k1 k2 k3 k5 : Option Value} {newId B newId' initId : String} {bmB : List Value}

theorem unchain_none {e1 : Addr} {v slow : Value} {b : Bool} {oe : Obj} {vs : Array Value} {Q : Value → Shared → Prop} (he : s.heap.get? e1 = some oe) (hd : oe.data = .fields vs) (h2 : vs[2]? = some .none) (h : Q .none s) :
    wpAny (model prog w) A (runValue (.builtin "proto.unchain" ⟨[v, .ref e1, slow, .bool b], []⟩)) Q E s := by
  refine wpAny_runValue (codeAny_builtin entry_unchain ?_)
  unfold Builtin.«proto.unchain»
  dsimp only
  refine wpAny_bind (wpAny_field he hd h2 ?_)
  rw [if_pos (by rfl)]
  exact wpAny_pure h

theorem raiseStmt_from {x y : Sem Value} {e1 : Addr} {X : String} {Q : Flow → Shared → Prop} (hbase : bm.contains (.type "BaseException") = true) (hh : A.handled = some (.ref e1))
    (hexc : isSubtype (.type X) (.type "BaseException") = pure true)
    (h : wpAny (model prog w) A x (fun v s₁ => ∃ e t, v = .ref e ∧ s₁.heap.get? C = some (excClassObj nm q C N bs bm hdct sn sub ab col dd k0 k1 k2 k3 k5 newId) ∧
      s₁.heap.get? e = some { cls := .ref C, data := .fields #[.ref t, .none, .none, .none, .bool false, .none] } ∧
      wpAny (model prog w) A y (fun c s₂ => c = .ref e1 ∧ s₂ = s₁) E s₁ ∧ e1 ≠ e ∧ (∃ oe vs, s₁.heap.get? e1 = some oe ∧ oe.cls = .type X ∧ oe.data = .fields vs ∧ vs[2]? = some .none) ∧
      ∀ h', h'.objs.size = s₁.heap.objs.size → (∀ b, b ≠ e → h'.get? b = s₁.heap.get? b) → h'.get? e = some { cls := .ref C, data := .fields #[.ref t, .none, .ref e1, .ref e1, .bool true, .none] } → E (.ref e) { s₁ with heap := h' }) E s) :
    wpAny (model prog w) A (raiseStmt env (some x) (some y)) Q E s := by
  have hcB : (Value.ref C :: bm).contains (.type "BaseException") = true := by rw [List.contains_cons, hbase, Bool.or_true]
  unfold raiseStmt
  dsimp only
  refine wpAny_bind (wpAny_mono h (fun v s₁ h₁ => ?_) fun _ _ x => x)
  obtain ⟨e, t, rfl, hC, he, hy, hne, ⟨oe, vs, he1, hcls, hd1, hd2⟩, hE⟩ := h₁
  refine wpAny_bind (wpAny_holding (wpAny_mono hy (fun c s₂ h₂ => ?_) fun _ _ x => x))
  obtain ⟨rfl, hs₂⟩ := h₂
  subst s₂
  refine wpAny_bind (wpAny_pure ?_)
  obtain ⟨hp, g, d, tk, os⟩ := s₁
  have hT : (⟨hp, g, d, tk, os⟩ : Shared).TypeIs (.ref e1) X := ⟨oe, he1, hcls⟩
  have hnt : ∀ {Q' : Bool → Shared → Prop}, Q' false ⟨hp, g, d, tk, os⟩ → wpAny (model prog w) A (isType (.ref e1)) Q' E ⟨hp, g, d, tk, os⟩ := by
    intro Q' hq
    simp only [isType, loadHead]
    refine wpAny_bind (wpAny_loadPart he1 ?_)
    rw [hd1]; exact wpAny_pure hq
  refine wpAny_bind (wpAny_holding ?_)
  unfold excFromValue isExcClass
  repeat (first | (with_reducible refine hnt ?_) | with_reducible refine wpAny_loadPart_at he ?_ | with_reducible refine wpAny_loadPart_at hC ?_ | (with_reducible refine wpAny_isSubtype_exc hC ?_; rw [hcB]) | wp_step)
  have hCe : e ≠ C := fun x => by
    rw [← x, he] at hC
    injection hC with hC
    injection hC with _ _ hC
    cases hC
  have hC2 : ((hp.update e (Obj.mapFields fun x => x.setIfInBounds 3 (Value.ref e1))).update e (Obj.mapFields fun x => x.setIfInBounds 4 (Value.bool true))).get? C = some (excClassObj nm q C N bs bm hdct sn sub ab col dd k0 k1 k2 k3 k5 newId) := by
    rw [Heap.get?_update_other _ _ hCe, Heap.get?_update_other _ _ hCe]; exact hC
  have he1' : ((hp.update e (Obj.mapFields fun x => x.setIfInBounds 3 (Value.ref e1))).update e (Obj.mapFields fun x => x.setIfInBounds 4 (Value.bool true))).get? e1 = some oe := by
    rw [Heap.get?_update_other _ _ hne.symm, Heap.get?_update_other _ _ hne.symm]; exact he1
  have he2 : ((hp.update e (Obj.mapFields fun x => x.setIfInBounds 3 (Value.ref e1))).update e (Obj.mapFields fun x => x.setIfInBounds 4 (Value.bool true))).get? e = some { cls := Value.ref C, data := Data.fields #[Value.ref t, Value.none, Value.none, Value.ref e1, Value.bool true, Value.none] } :=
    Heap.get?_update_self _ (Heap.get?_update_self _ he rfl) rfl
  refine wpAny_loadPart_at hC2 (wpAny_pure (wpAny_ite_true rfl (wpAny_pure (wpAny_bind ?_))))
  unfold setFlight
  refine wpAny_bind (wpAny_field he2 rfl rfl ?_)
  refine wpAny_ite_false rfl (wpAny_pure ?_)
  unfold raiseNew
  refine wpAny_bind (wpAny_handled ?_)
  rw [hh]
  dsimp only
  refine wpAny_ite_true (by simp [hne]) ?_
  refine wpAny_bind (wpAny_holding (unchain_none he1' hd1 hd2 ?_))
  refine wpAny_bind (m := setField (.ref e) 2 (.ref e1)) (wpAny_setField he2 rfl (by simp) (wpAny_throw (hE _ ?_ (fun b hb => ?_) (Heap.get?_update_self _ he2 rfl))))
  · simp only [Heap.size_after_update]
  · rw [Heap.get?_update_other _ _ hb.symm, Heap.get?_update_other _ _ hb.symm, Heap.get?_update_other _ _ hb.symm]

theorem Raise_from (FB : ExcBaseFacts B newId' initId bmB) {mN : Str → Option Value} {x y : Str} {np cpos pos yp : Pos} {e1 : Addr} {X : String} {Q : Flow → Shared → Prop}
    (hbase : bm.contains (.type "BaseException") = true) (hh : A.handled = some (.ref e1)) (hexc : isSubtype (.type X) (.type "BaseException") = pure true) (hni : mN "__init__" = none)
    (h : wpAny (model prog w) A (eval (.Name x np) env) (fun f s₁ => f = .ref C ∧ s₁ = s) E s)
    (hC : s.heap.get? C = some (excClassObj nm q C N bs bm hdct sn sub ab col dd k0 k1 k2 k3 k5 newId')) (hN : s.heap.Ns N mN) (T : OwnTail s.heap bmB bm)
    (he1 : ∃ oe vs, s.heap.get? e1 = some oe ∧ oe.cls = .type X ∧ oe.data = .fields vs ∧ vs[2]? = some .none)
    (hy : ∀ h', (∀ b o, s.heap.get? b = some o → h'.get? b = some o) → wpAny (model prog w) A (eval (.Name y yp) env) (fun c s₂ => c = .ref e1 ∧ s₂ = { s with heap := h' }) E { s with heap := h' })
    (hE : ∀ h' e t, (∀ b o, s.heap.get? b = some o → h'.get? b = some o) → s.heap.get? e = none → s.heap.get? t = none → e ≠ t →
      h'.get? e = some { cls := .ref C, data := .fields #[.ref t, .none, .ref e1, .ref e1, .bool true, .none] } → h'.get? t = some { cls := .type "tuple", data := .seq #[] } → E (.ref e) { s with heap := h' }) :
    wpAny (model prog w) A (exec (.Raise (some (.Call (.Name x np) [] [] cpos)) (some (.Name y yp)) pos) env) Q E s := by
  rw [arm_exec_Raise]
  simp only [evalOpt, Option.map]
  refine wpAny_bind (wpAny_standAt (raiseStmt_from (C := C) (nm := nm) (q := q) (N := N) (bs := bs) (bm := bm) (hdct := hdct) (sn := sn) (sub := sub) (ab := ab) (col := col) (dd := dd) (k0 := k0) (k1 := k1) (k2 := k2) (k3 := k3) (k5 := k5) (newId := newId') (X := X) (e1 := e1) hbase hh hexc
    (wpAny_bind (wpAny_mono (wpAny_Call_ofName (wpAny_mono h (fun f s₁ h₁ => ?_) fun _ _ x => x)) (fun v s₃ h₃ => wpAny_bind (wpAny_standAt (wpAny_pure h₃))) fun _ _ x => x))))
  obtain ⟨rfl, hs⟩ := h₁
  subst s₁
  unfold callWith
  refine wpAny_bind (wpAny_holding (evalArgs_empty ?_))
  refine wpAny_bind (wpAny_standAt ?_)
  obtain ⟨hp, g, d, tk, os⟩ := s
  obtain ⟨oe, vs, ho, hcls, hd1, hd2⟩ := he1
  refine wpAny_bind (wpAny_keeperOf_exc hC ?_)
  refine wpAny_bind (wpAny_call_exc_subT FB T hC hN hni fun h' e hm => wpAny_bind (wpAny_holding (wpAny_point (wpAny_pure ?_))))
  obtain ⟨t, ht, htn, htt⟩ := hm.there
  have hne : e1 ≠ e := fun z => by have := hm.new; rw [← z] at this; rw [show hp.get? e1 = some oe from ho] at this; cases this
  have het : e ≠ t := fun z => by rw [← z] at htt; rw [ht] at htt; injection htt with q; injection q with _ _ q; cases q
  refine ⟨e, t, rfl, hm.keeps _ _ hC, ht, wpAny_bind (wpAny_mono (hy _ hm.keeps) (fun c s₂ h₂ => wpAny_bind (wpAny_standAt (wpAny_pure h₂))) fun _ _ x => x), hne, ⟨oe, vs, hm.keeps _ _ ho, hcls, hd1, hd2⟩, fun h'' _ hk he => ?_⟩
  refine hE h'' e t (fun b o hb => ?_) hm.new htn het he ((hk t het.symm).trans htt)
  have hbe : b ≠ e := fun z => by have := hm.new; rw [← z, show hp.get? b = some o from hb] at this; cases this
  exact (hk b hbe).trans (hm.keeps b o hb)
end
end Mine
end

section
open PySem PySem.W PyProof.Rows PySem.Calls
namespace Mine
set_option maxRecDepth 100000
set_option maxHeartbeats 8000000

structure ExAt (B : Heap) (l : List Env) (e : Addr) (oe : Obj) (vs : Array Value) (fl : Value) (h : Heap) : Prop where
  stays : B.StaysIn h
  new : B.get? e = none
  frames : h.FunFrames B l
  there : ∃ T oT ts, h.get? e = some oe ∧ oe.data = .fields vs ∧ vs[1]? = some (.ref T) ∧ B.get? T = none ∧ T ≠ e ∧ h.get? T = some oT ∧ oT.data = .fields ts ∧ ts[3]? = some fl

theorem ups_set {g h h' : Heap} {L : Addr} (x : g.UpToSlots h) (hs : Heap.SameBut L h h') (hg : g.get? L = none) : g.UpToSlots h' := fun b o e hn => by
  obtain ⟨sl, hb⟩ := x b o e hn
  exact ⟨sl, (hs.2 b (fun q => by rw [q, hg] at e; cases e)).trans hb⟩

section
variable {M : Model} {A : Around} {E : Value → Shared → Prop} {s : Shared} {Q : Unit → Shared → Prop} {B : Heap} {l outer : List Env} {env : Env} {L e : Addr} {oe : Obj} {vs : Array Value} {fl : Value}

theorem note_first (hfr : A.frames = some (env :: outer)) (hl : s.heap.FunFrames B (env :: outer)) (hf : env.frame = some L)
    (he : s.heap.get? e = some oe) (hkb : B.StaysIn s.heap) (hen : B.get? e = none) (hd : oe.data = .fields vs) (h1 : vs[1]? = some .none)
    (h : ∀ h' oe' T, oe'.cls = oe.cls → ExAt B (env :: outer) e oe' (vs.setIfInBounds 1 (.ref T)) (rawInt L) h' → s.heap.UpToSlots h' → Q () { s with heap := h' }) : wpAny M A (noteFrame (.ref e) env) Q E s := by
  have hsz : 1 < vs.size := (Array.getElem?_eq_some_iff.mp h1).1
  unfold noteFrame
  simp only [hf]
  refine wpAny_bind (wpAny_field he hd h1 ?_)
  rw [if_neg (by decide)]
  have hene : e ∉ (env :: outer).filterMap (·.frame) := fun hm => by
    obtain ⟨_, o, ho, hnf⟩ := hl.mem hm
    rw [he] at ho; injection ho with ho; subst ho; exact hnf vs hd
  refine wpAny_bind (wpAny_frameOf_fun hfr hl hf fun h₁ hs₁ => ?_)
  refine wpAny_bind (wpAny_entryPlaceOf fun pl hpl => ?_)
  unfold EntryCells.newEntry newFields
  refine wpAny_bind (wpAny_newObj_type ?_ (hpl.sizeOk5 _ _ _ _ _))
  have he₁ : h₁.get? e = some oe := (hs₁.2.1 e hene).trans he
  have kb₁ : B.StaysIn h₁ := fun b o hbo => (hs₁.2.1 b fun hm => by rw [(hl.mem hm).1] at hbo; cases hbo).trans (hkb b o hbo)
  refine wpAny_setField (Heap.get?_push_of_some _ he₁) hd hsz (h _ (Obj.mapFields (·.setIfInBounds 1 (Value.ref h₁.objs.size)) oe) h₁.objs.size (Obj.cls_mapFields _ _) ⟨?_, hen, ?_, ?_⟩ ?_)
  · exact fun b o hbo => by
      rw [Heap.get?_update_other _ _ (fun q : e = b => by rw [← q, hen] at hbo; cases hbo)]
      exact Heap.get?_push_of_some _ (kb₁ b o hbo)
  · refine hl.of_keeps fun b o hb hnf => ?_
    obtain ⟨sl, hs⟩ := hs₁.2.2 b o hb
    refine ⟨{ o with slots := sl }, ?_, rfl⟩
    rw [Heap.get?_update_other _ _ (fun q : e = b => by rw [← q, he] at hb; injection hb with hb; subst hb; exact hnf vs hd)]
    exact Heap.get?_push_of_some _ hs
  · have hTe : h₁.objs.size ≠ e := Nat.ne_of_gt (Heap.lt_size he₁)
    refine ⟨h₁.objs.size, _, _, Heap.get?_update_self _ (Heap.get?_push_of_some _ he₁) (Obj.isFreed_of_fields (Obj.data_mapFields hd _)), Obj.data_mapFields hd _, by simp [hsz], kb₁.fresh, hTe, (Heap.get?_update_other _ _ (Ne.symm hTe)).trans (Heap.get?_push_size h₁ rfl), rfl, ?_⟩
    · rcases hpl with rfl | ⟨_, _, _, _, _, _, _, rfl⟩ <;> simp
  · intro b o hb hnf
    obtain ⟨sl, hs⟩ := hs₁.2.2 b o hb
    refine ⟨sl, ?_⟩
    rw [Heap.get?_update_other _ _ (fun q : e = b => by rw [← q, he] at hb; injection hb with hb; subst hb; exact hnf vs hd)]
    exact Heap.get?_push_of_some _ hs

theorem flight_to {fr : Option Addr} (H : ExAt B l e oe vs fl s.heap) (h : ∀ h', ExAt B l e oe vs (fr.elim .none fun f => rawInt f) h' → s.heap.UpToSlots h' → Q () { s with heap := h' }) : wpAny M A (setFlight (.ref e) fr) Q E s := by
  obtain ⟨hkb, hen, hl, T, oT, ts, he, hd, h1, hnT, hTe, hT, hdT, h3⟩ := H
  have hsz3 : 3 < ts.size := (Array.getElem?_eq_some_iff.mp h3).1
  have other : ∀ b, b ≠ T → (s.heap.update T (Obj.mapFields (·.setIfInBounds 3 (fr.elim Value.none fun f => rawInt f)))).get? b = s.heap.get? b :=
    fun b hb => Heap.get?_update_other _ _ (Ne.symm hb)
  have noRecord : ∀ b o, s.heap.get? b = some o → (∀ vs, o.data ≠ .fields vs) → b ≠ T := fun b o hb hnf q => by
    rw [q, hT] at hb; injection hb with hb; subst hb; exact hnf ts hdT
  unfold setFlight
  refine wpAny_bind (wpAny_field he hd h1 ?_)
  rw [if_pos (show (Value.ref T != Value.none) = true from by simp)]
  refine wpAny_setField hT hdT hsz3 (h _ ⟨fun b o hbo => (other b fun q => by rw [q, hnT] at hbo; cases hbo).trans (hkb b o hbo), hen,
    hl.of_keeps fun b o hb hnf => ⟨o, (other b (noRecord b o hb hnf)).trans hb, rfl⟩, ?_⟩ fun b o hb hnf => ⟨o.slots, (other b (noRecord b o hb hnf)).trans hb⟩)
  exact ⟨T, _, _, (other e (Ne.symm hTe)).trans he, hd, h1, hnT, hTe, Heap.get?_update_self _ hT (Obj.isFreed_of_fields (Obj.data_mapFields hdT _)), Obj.data_mapFields hdT _, by simp [hsz3]⟩

theorem note_again (hf : env.frame = some L) (H : ExAt B l e oe vs (rawInt L) s.heap) (h : Q () s) : wpAny M A (noteFrame (.ref e) env) Q E s := by
  obtain ⟨hkb, hen, hl, T, oT, ts, he, hd, h1, hnT, hTe, hT, hdT, h3⟩ := H
  unfold noteFrame
  simp only [hf]
  refine wpAny_bind (wpAny_field he hd h1 ?_)
  rw [if_pos (show (Value.ref T != Value.none) = true from by simp)]
  refine wpAny_bind (wpAny_field hT hdT h3 ?_)
  rw [if_pos (show (rawInt L == rawInt L) = true from by simp)]
  exact wpAny_pure h

theorem ExAt.set {h h' : Heap} {m : Str → Option Value} (H : ExAt B (env :: outer) e oe vs fl h) (hf : env.frame = some L) (hn : h'.Ns L m) (hns : ∀ o vs, h.get? L = some o → o.data ≠ .fields vs) (hs : Heap.SameBut L h h') : ExAt B (env :: outer) e oe vs fl h' := by
  obtain ⟨hkb, hen, hl, T, oT, ts, he, hd, h1, hnT, hTe, hT, hdT, h3⟩ := H
  have hLB : B.get? L = none := by
    obtain ⟨_, ⟨L', _, hf', hn', _⟩, _⟩ := hl
    rw [hf] at hf'; injection hf' with hf'; rw [hf']; exact hn'
  have hLe : e ≠ L := fun q => hns _ _ (q ▸ he) hd
  have hLT : T ≠ L := fun q => hns _ _ (q ▸ hT) hdT
  refine ⟨fun b o hbo => (hs.2 b fun q => by rw [q, hLB] at hbo; cases hbo).trans (hkb b o hbo), hen, ?_, T, oT, ts, (hs.2 _ hLe).trans he, hd, h1, hnT, hTe, (hs.2 _ hLT).trans hT, hdT, h3⟩
  have go : ∀ l : List Env, h.FunFrames B l → h'.FunFrames B l := by
    intro l
    induction l with
    | nil => exact fun x => x
    | cons env rest ih =>
      rintro ⟨hk, ⟨L', o, hf', hn', ho, hdo⟩, hr⟩
      refine ⟨hk, ?_, ih hr⟩
      by_cases q : L' = L
      · subst q
        obtain ⟨oL, es, ep, ho', hdL, _⟩ := hn
        exact ⟨L', oL, hf', hn', ho', fun vs z => by rw [hdL] at z; cases z⟩
      · exact ⟨L', o, hf', hn', (hs.2 _ q).trans ho, hdo⟩
  exact go _ hl
theorem ns_not {h : Heap} {m : Str → Option Value} (hn : h.Ns L m) : ∀ o vs, h.get? L = some o → o.data ≠ .fields vs := fun o vs ho z => by
  obtain ⟨oL, es, ep, ho', hdL, _⟩ := hn
  rw [ho] at ho'; injection ho' with q; subst q; rw [hdL] at z; cases z
end
end Mine
end

section
open PySem PySem.W PyProof.Rows PySem.Calls
namespace Mine
set_option maxRecDepth 100000
set_option maxHeartbeats 8000000

section
variable {prog : Program} {w : World} {A₀ : Around} {s' : Shared} {base g h0 : Heap} {outer : List Env} {L a e1 C : Addr} {m : Str → Option Value} {name : Str} {scope : Scope} {cd : Value}
  {n x y : Str} {pos np np2 cpos yp rpos : Pos} {rest : List ExceptHandler} {Q : Flow → Shared → Prop} {Q1 : Value → Unit → Shared → Prop} {E1 : Value → Value → Shared → Prop} {news : List (Addr × Obj)} {KF : Frag}
  {p : Program} {loose : List Str} {mean : ExcName → Option Value} {mg mb : Str → Option Value} {bmB : List Value} {newId initId : String}

theorem refuse_from (hx : Heap.NewExc h0 s'.heap e1 "ValueError") (F : Fr g L h0 m) (N : News g L h0 news) (K : Below A₀ base outer g) (XB : KF.In base) (TB : Top p loose mean mg mb base)
    (ex : nsIn KF mainGlobals x = some none) (hv : bootBuiltins x = some (.type "ValueError")) (hn' : x ≠ "__name__")
    (ey : nsIn KF mainGlobals y = some (some (.ref C))) (q : excIn KF C bmB newId = true) (FB : ExcBaseFacts "ValueError" newId initId bmB) (hbb : bmB.contains (.type "BaseException") = true)
    (hE : ∀ h' v t tk, RaisedS base g outer v (.ref C) t [] news h' → RaisedK base outer v (.ref C) t [] news h' → g.UpToSlots h' → Q1 (.ref v) () { s' with heap := h', toks := tk })
    (hk : scope.kind = .function := by rfl) (hlo : (envOf name scope L a cd).kindOf n = some .local := by rfl) (hxk : (envOf name scope L a cd).kindOf x = some .globalImplicit := by rfl) (hxd : (x == ("__debug__" : Str)) = false := by decide)
    (hyk : (envOf name scope L a cd).kindOf y = some .globalImplicit := by rfl) (hyd : (y == ("__debug__" : Str)) = false := by decide) (hnd : (n == ("__debug__" : Str)) = false := by decide) :
    wpAny (model prog w) (A₀.deeper (envOf name scope L a cd)) (noteFrame (.ref e1) (envOf name scope L a cd))
      (fun _ s₂ => wpAny (model prog w) (A₀.deeper (envOf name scope L a cd)) (setFlight (.ref e1) none) (fun _ s₃ =>
        wpAny (model prog w) (A₀.deeper (envOf name scope L a cd)) (handleBy (.ref e1) (envOf name scope L a cd) (.ExceptHandler (some (.Name x np)) (some n) [.Raise (some (.Call (.Name y yp) [] [] cpos)) (some (.Name n np2)) rpos] pos :: rest)) Q
          (fun e s => wpAny (model prog w) (A₀.deeper (envOf name scope L a cd)) (leaving (envOf name scope L a cd) e) (Q1 e) (E1 e) s) s₃)
          (fun e s => wpAny (model prog w) (A₀.deeper (envOf name scope L a cd)) (leaving (envOf name scope L a cd) e) (Q1 e) (E1 e) s) s₂)
      (fun e s => wpAny (model prog w) (A₀.deeper (envOf name scope L a cd)) (leaving (envOf name scope L a cd) e) (Q1 e) (E1 e) s) s' := by
  have gL : g.get? L = none := kts_self F
  have K' := K.push (name := name) (a := a) (cd := cd) F hk
  have hin : ∀ env ∈ (envOf name scope L a cd :: outer), ∀ b, env.frame = some b → b ∈ (envOf name scope L a cd :: outer).filterMap (·.frame) := fun env he b hb => List.mem_filterMap.mpr ⟨env, he, hb⟩
  have st : base.StaysIn (hideAll h0 ((envOf name scope L a cd :: outer).filterMap (·.frame))) := fun b o q => hideAll_get _ (K'.stays b o q) fun hm => by
    rw [(K'.frames.mem hm).1] at q; cases q
  have hBG : ∀ b o, h0.get? b = some o → b ∉ (envOf name scope L a cd :: outer).filterMap (·.frame) → (hideAll h0 ((envOf name scope L a cd :: outer).filterMap (·.frame))).get? b = some o := fun b o e nm => hideAll_get _ e nm
  have sg : ∀ b o, g.get? b = some o → b ∉ outer.filterMap (·.frame) → (hideAll h0 ((envOf name scope L a cd :: outer).filterMap (·.frame))).get? b = some o := fun b o q nm => hideAll_get _ (F.keep b o q) fun hm => by
    rcases kts_mem hm with z | z
    · rw [z, gL] at q
      cases q
    · exact nm z
  have hl : ∀ q ∈ news, (hideAll h0 ((envOf name scope L a cd :: outer).filterMap (·.frame))).get? q.1 = some q.2 ∧ g.get? q.1 = none ∧ base.get? q.1 = none := fun q hq => by
    refine ⟨hideAll_get _ (N q hq).1 fun hm => ?_, (N q hq).2.2, fresh_of_stays K.stays (N q hq).2.2⟩
    obtain ⟨env, he, hf⟩ := List.mem_filterMap.mp hm
    rcases List.mem_cons.mp he with rfl | he
    · exact (N q hq).2.1 (Option.some.inj hf).symm
    · obtain ⟨o, ho, _⟩ := (K.frames.mem (List.mem_filterMap.mpr ⟨env, he, hf⟩)).2
      rw [(N q hq).2.2] at ho; cases ho
  have fr0 := funFrames_hide K'.frames hin
  have hB0 : ∀ b o, (hideAll h0 ((envOf name scope L a cd :: outer).filterMap (·.frame))).get? b = some o → h0.get? b = some o := fun b o e => of_hideAll _ e
  generalize hideAll h0 ((envOf name scope L a cd :: outer).filterMap (·.frame)) = B at *
  have freshB : ∀ b, h0.get? b = none → B.get? b = none := fun b e => by
    cases z : B.get? b with
    | none => rfl
    | some o => rw [hB0 _ _ z] at e; cases e
  have hLB : B.get? L = none := by
    obtain ⟨_, ⟨L', _, hf, hn', _⟩, _⟩ := fr0
    obtain rfl : L = L' := Option.some.inj hf
    exact hn'
  have hfr : (A₀.deeper (envOf name scope L a cd)).frames = some (envOf name scope L a cd :: outer) := K'.stack
  have hfr' : ((A₀.deeper (envOf name scope L a cd)).mark (some (.ref e1))).frames = some (envOf name scope L a cd :: outer) := K'.stack
  obtain ⟨ob, tp, he, hcls, hd⟩ := hx.there
  refine note_first hfr (fr0.of_keeps fun b o hb _ => ⟨o, hx.keeps b o hb, rfl⟩) rfl he (fun b o hb => hx.keeps b o (hB0 b o hb)) (freshB _ hx.new) hd rfl fun h4 oe4 T4 hc4 A4 U4 => ?_
  refine flight_to A4 fun h5 A5 U5 => ?_
  have V5 : h0.UpToSlots h5 := ((Heap.UpToSlots.of_keeps hx.keeps).trans U4).trans U5
  obtain ⟨g5, T5, F5, K5⟩ := kts_ground K F hBG A5.stays V5
  have X5 : KF.In g5 := XB.keeps K5.stays
  have P5 : TopRead p loose mg mb g5 := topRead_of (TB.keeps K5.stays)
  have hob5 : ∃ ob, h5.get? e1 = some ob ∧ ob.cls = .type "ValueError" := by
    obtain ⟨_, _, _, z, _⟩ := A5.there
    exact ⟨_, z, hc4.trans hcls⟩
  refine wpAny_handleBy_builtin_as (X := "ValueError") (T := "ValueError") (b := true) PySem.F.isExc_ValueError PySem.F.notTuple_ValueError (by kts_sub) (name_B F5 X5 P5 ex hv hn' ⟨rfl, hob5, ?_⟩ hk hxk hxd)
  refine flight_to A5 fun h6 A6 U6 => ?_
  have V6 := V5.trans U6
  obtain ⟨g6, T6, F6, K6⟩ := kts_ground K F hBG A6.stays V6
  have X6 : KF.In g6 := XB.keeps K6.stays
  have P6 : TopRead p loose mg mb g6 := topRead_of (TB.keeps K6.stays)
  refine wpAny_storeName_local hlo F6.ns (fun h7 hn7 hs7 => ?_) (by show (scope.kind == .class || (scope.kind == .module && L != mainGlobals)) = false; rw [hk]; rfl)
  have F7 := F6.set hn7 hs7
  have A7 := A6.set rfl hn7 (ns_not F6.ns) hs7
  obtain ⟨bm, NN, nm, qq, bs, hdct, sn, sub, ab, col, dd, k0, k1, k2, k3, k5, mN, hC, hN, hni, TL⟩ := ((own_of_in X6 P6 ey q).keeps F7.keep).obj
  obtain ⟨T7, oT7, ts7, he7, hd7, h17, nT7, hTe7, hT7, hdT7, h37⟩ := A7.there
  have hLm : (fun y => if y = n then some (Value.ref e1) else m y) n = some (Value.ref e1) := if_pos rfl
  have hend : ∀ (h8 : Heap) (v t : Addr) (tk : Nat), (∀ b o, h7.get? b = some o → h8.get? b = some o) → h7.get? v = none → h7.get? t = none → v ≠ t →
      h8.get? v = some { cls := .ref C, data := .fields #[.ref t, .none, .ref e1, .ref e1, .bool true, .none] } → h8.get? t = some { cls := .type "tuple", data := .seq #[] } →
      AsSuiteRaised (model prog w) ((A₀.deeper (envOf name scope L a cd)).mark (some (.ref e1))) (envOf name scope L a cd) n pos (notedBy (model prog w) ((A₀.deeper (envOf name scope L a cd)).mark (some (.ref e1))) (envOf name scope L a cd) (cameBackBy (model prog w) (A₀.deeper (envOf name scope L a cd)) (envOf name scope L a cd)
        (fun e s => wpAny (model prog w) (A₀.deeper (envOf name scope L a cd)) (leaving (envOf name scope L a cd) e) (Q1 e) (E1 e) s))) (.ref v) { s' with heap := h8, toks := tk } := by
    intro h8 v t tk kp hv7 ht7 hvt hv8 ht8
    have fl8 : h8.FunFrames B (envOf name scope L a cd :: outer) := A7.frames.of_keeps fun b o hb _ => ⟨o, kp b o hb, rfl⟩
    have kb8 : B.StaysIn h8 := fun b o hb => kp b o (A7.stays b o hb)
    have tup8 : h8.TupAt t [] := ⟨_, 0, ht8, rfl, rfl⟩
    have g7 : g.UpToSlots h7 := ups_set ((Heap.UpToSlots.of_keeps F.keep).trans V6) hs7 gL
    have g8 := g7.trans (Heap.UpToSlots.of_keeps kp)
    refine note_first hfr' fl8 rfl hv8 kb8 (fresh_of_stays A7.stays hv7) rfl rfl fun h9 ov9 T9 hc9 A9 U9 => ?_
    refine wpAny_nameGoes hlo (U9.ns (hn7.keeps kp)) (by show (scope.kind == .class || (scope.kind == .module && L != mainGlobals)) = false; rw [hk]; rfl) fun h10 m10 hn10 hs10 => ?_
    have A10 := A9.set rfl hn10 (ns_not (U9.ns (hn7.keeps kp))) hs10
    have g10 : g.UpToSlots h10 := ups_set (g8.trans U9) hs10 gL
    have tup10 : h10.TupAt t [] := by
      obtain ⟨o, k, ho, hc, hdt⟩ := tup8.of_slots U9
      exact ⟨o, k, (hs10.2 t (fun z => by rw [z] at ht7; obtain ⟨_, _, _, z', _⟩ := hn7; rw [ht7] at z'; cases z')).trans ho, hc, hdt⟩
    unfold PySem.passOn
    obtain ⟨Tx, oTx, tsx, hex, hdx, h1x, _⟩ := id A10.there
    refine wpAny_bind (wpAny_field hex hdx h1x ?_)
    rw [if_neg (show ¬ ((Value.ref Tx == Value.none) = true) from by simp)]
    refine wpAny_bind (flight_to (fr := some L) A10 fun h11 A11 U11 => wpAny_throw ?_)
    refine note_again rfl A11 ?_
    obtain ⟨Ty, oTy, tsy, hey, hdy, h1y, _⟩ := id A11.there
    refine wpAny_bind (wpAny_field hey hdy h1y ?_)
    rw [if_neg (show ¬ ((Value.ref Ty == Value.none) = true) from by simp)]
    refine flight_to (fr := some L) A11 fun h12 A12 U12 => ?_
    unfold leaving
    refine wpAny_bind (note_again rfl A12 ?_)
    refine flight_to A12 fun h13 A13 U13 => ?_
    have tup13 : h13.TupAt t [] := ((tup10.of_slots U11).of_slots U12).of_slots U13
    have g13 := ((g10.trans U11).trans U12).trans U13
    obtain ⟨Tz, oTz, tsz, hez, hdz, h1z, nTz, hTez, hTz, hdTz, h3z⟩ := A13.there
    have R : RaisedS base g outer v (.ref C) t [] news h13 := ⟨⟨B, st, sg, hl, ⟨A13.stays, A13.new, A13.frames.2.2, ov9, _, Tz, oTz, tsz, hez, ⟨hc9, by simp⟩, hdz, h1z, nTz, hTez, hTz, hdTz, h3z⟩, fresh_of_stays A7.stays ht7⟩, tup13⟩
    exact hE h13 v t _ R R.toK g13
  refine wpAny_execs_cons (Raise_from (X := "ValueError") FB (TL.hasType hbb) rfl PySem.F.isExc_ValueError hni (name_K F7 X6 P6 ey ⟨rfl, rfl⟩ hk hyk hyd) hC hN TL ⟨_, _, he7, hc4.trans hcls, hd7, by simp⟩ (fun h' kp => ?_) (fun h' v t kp hv7 ht7 hvt hv8 ht8 => ?_))
  · exact wpAny_Name (wpAny_loadName_local hk hlo (hn7.keeps kp) hLm ⟨rfl, rfl⟩) hnd
  · exact hend h' v t _ kp hv7 ht7 hvt hv8 ht8
end
end Mine
end

section
open PySem PySem.W PyProof.Rows PySem.Calls
namespace Mine
set_option maxRecDepth 100000
set_option maxHeartbeats 8000000
local macro_rules | `(tactic| k_room) => `(tactic| ktr_room)
local macro_rules | `(tactic| k_units) => `(tactic| ktr_units)
local macro_rules | `(tactic| walk_at "getMethod ref") => `(tactic| (
  k_here; (with_reducible show wpAny _ _ (PySem.getMethod (Value.ref _) (PySem.Str.ofString "num_convert") _) _ _ _);
  k_dflt (refine' conv_num ?k1 ?k2 ?k3 ?k4 ?k5 ?k6 ?_; (case k1 => k_asm); (case k2 => k_asm); (case k3 => k_asm); (case k4 => k_mem); (case k5 => k_mem); (case k6 => assumption))))
local macro_rules | `(tactic| walk_at "getMethod ref") => `(tactic| (
  k_here; (with_reducible show wpAny _ _ (PySem.getMethod (Value.ref _) (PySem.Str.ofString "to_python") _) _ _ _);
  k_dflt (refine' conv_topy ?k1 ?k2 ?k3 ?k4 ?k5 ?k6 ?_; (case k1 => k_asm); (case k2 => k_asm); (case k3 => k_asm); (case k4 => k_mem); (case k5 => k_mem); (case k6 => assumption))))
local macro_rules | `(tactic| walk_at "getAttr ref") => `(tactic| (
  k_here; (with_reducible show wpAny _ _ (PySem.getAttr (Value.ref _) (PySem.Str.ofString "fixed_digits") _) _ _ _);
  k_dflt (refine' conv_fixed ?k1 ?k2 ?k3 ?k4 ?k5 ?k6 ?_; (case k1 => k_asm); (case k2 => k_asm); (case k3 => k_asm); (case k4 => k_mem); (case k5 => k_mem); (case k6 => assumption))))
local macro_rules | `(tactic| walk_at "getAttr ref") => `(tactic| (
  k_here; (with_reducible show wpAny _ _ (PySem.getAttr (Value.ref _) (PySem.Str.ofString "min") _) _ _ _);
  k_dflt (refine' conv_min ?k1 ?k2 ?k3 ?k4 ?k5 ?k6 ?k7 ?_; (case k1 => k_asm); (case k2 => k_asm); (case k3 => k_asm); (case k4 => k_mem); (case k5 => k_mem); (case k6 => assumption); (case k7 => first | assumption | exact OptV.none | exact OptV.int _ _))))
local macro_rules | `(tactic| walk_at "getAttr ref") => `(tactic| (
  k_here; (with_reducible show wpAny _ _ (PySem.getAttr (Value.ref _) (PySem.Str.ofString "max") _) _ _ _);
  k_dflt (refine' conv_max ?k1 ?k2 ?k3 ?k4 ?k5 ?k6 ?k7 ?_; (case k1 => k_asm); (case k2 => k_asm); (case k3 => k_asm); (case k4 => k_mem); (case k5 => k_mem); (case k6 => assumption); (case k7 => first | assumption | exact OptV.none | exact OptV.int _ _))))
local macro_rules | `(tactic| walk_at "exec If") => `(tactic| ((with_reducible show wpAny _ _ (PySem.exec (Stmt.If (PySem.Expr.BoolOp BoolOp.Or _ _) _ _ _) _) _ _ _); (rename OptV _ _ => hv); refine Hold.out (n := 3) ?_))


theorem told_none {w : World} {mean : ExcName → Option Value} {mg mb : Str → Option Value}
    {dp un : Nat} {gd : Option (List Code)} {cn : Str} {cs : Scope} {a : Addr} {ccd : Value} {A₀ : Around} {h₀ : Heap} {L : Addr} {m : Str → Option Value} {s : Shared} {Q E : Value → Shared → Prop}
    {fx : Int} {tf : Tok} {vmin vmax : Value} {omin omax : Option Int} {sg : Bool} {news : List (Addr × Obj)} {x dx : Addr} {o : Obj} {text : Str} {tt : Tok}
    (B : Below A₀ h₀ [] h₀) (F : Fr h₀ L s.heap m) (X : (hd.heap_39 w.params).In h₀) (N0 : News h₀ L s.heap news) (T : Top hd.view_39 (looseW hd.view_39 [Str.ofString "BaseConverter", Str.ofString "NumberConverter", Str.ofString "IntegerConverter"]) mean mg mb h₀) (hk : cs.kind = .function)
    (hx : (x, instObj 121 dx) ∈ news) (hdx : (dx, o) ∈ news)
    (hmin : OptV vmin omin) (hmax : OptV vmax omax) (hC : ConvD w (.int fx tf) vmin vmax sg o) (hlen : text.length ≤ 640) (hint : PySem.intText? text = none) (hrep : (reprText text).length ≤ sizeLine)
    (hd1 : dp + 5 < recursionLimit) (hu1 : un + 30 < cLine)
    (hno : ∀ (t : Tok) (h' : Heap) (tk' : Nat), Fr h₀ L h' m → News h₀ L h' news → Q (.str (Str.ofString "refused") t) { s with heap := h', toks := tk' }) :
    wpH (model PySem.Challenge.rw_bf0058_01.row.prog w) (ktrTop dp un gd cn cs L a ccd [] []) (call (.ref 154) [.ref x, .str text tt] []) Q E s := by
  revert X
  k_fill
  intro X
  refine wpH_call ?_
  k_dflt (refine' code_catchH0 (cn := cn) (cs := cs) (a := a) (ccd := ccd) ?k1 ?k2 ?k3 ?k4 ?k5 ?kA ?k6 ?k7 ?k8 ?k9 ?kB ?_ ?cK ?c2 ?c3 ?c4 ?c5; (case kA => exact rfl); (case k2 => k_asm); (case k1 => k_asm); (case k3 => k_asm); (case k4 => k_asm); (case k5 => k_asm); (case k6 => k_is); (case k7 => k_is); (case k8 => k_room); (case k9 => first | exact binds_K (by k_in) rfl (by k_is) rfl rfl rfl | exact BindsTo.of_eq rfl | fail "kts_go: no rule for these arguments"); (case kB => exact locs rfl); (case cK => assumption); (case c2 => exact rfl); (case c3 => exact rfl); (case c4 => exact rfl); (case c5 => decide); intro g' L' h' FG' F' N' B' X' T' D'; (try dsimp only); (try k_lift B'); (try k_fold))
  refine wpH_execs_cons ?_
  refine wpH_Try_except ?_
  refine wpH_execs_cons ?_
  refine wpH_Return_some ?_
  refine wpH_List1 ?_
  refine wpH_MethodCall ?_
  k_steps
  refine' wpH_callWith_K X' ?keepY ?_
  case keepY => k_is
  k_steps
  refine wpH_call ?_
  k_dflt (refine' code_catchH ?k1 ?k2 ?k3 ?k4 ?k5 ?XB ?TB ?D ?T0 ?kA ?k6 ?k7 ?k8 ?k9 ?kB ?_ ?cK ?c2 ?c3 ?c4 ?c5; (case kA => exact rfl); (case k2 => k_asm); (case k1 => k_asm); (case XB => assumption); (case TB => assumption); (case D => assumption); (case T0 => first | assumption | exact KtsTurn.refl); (case k3 => k_asm); (case k4 => k_asm); (case k5 => k_asm); (case k6 => k_is); (case k7 => k_is); (case k8 => k_room); (case k9 => first | exact binds_K (by k_in) rfl (by k_is) rfl rfl rfl | exact BindsTo.of_eq rfl | fail "kts_go: no rule for these arguments"); (case kB => exact locs rfl); (case cK => exact rfl); (case c2 => exact rfl); (case c3 => exact rfl); (case c4 => exact rfl); (case c5 => decide); intro g2 L2 h2 FG2 F2 N2 B2 X2 T2 D2; (try dsimp only); (try k_lift B2); (try k_fold))
  refine wpH_execs_cons ?_
  refine wpH_of ?_
  k_steps
  · exact hno _ _ _ (by k_asm) (by k_asm)
  all_goals
    dsimp only
    refine wpH_execs_cons ?_
    refine wpH_Try_except ?_
    refine wpH_execs_cons ?_
    refine wpH_Assign_Name ?_
    refine wpH_MethodCall ?_
    k_steps
    refine wpH_callWith_type ?_
    k_steps
    refine int_refused rfl hrep hlen hint ?_
    intro h3 tk3 e3 hx3
    k_dflt (refine' refuse_from ?khx ?kF ?kN ?kK ?kXB ?kTB ?kex PyProof.Rows.Boot.«ValueError» ?khn ?key ?kq PySem.F.excBase_ValueError ?khb ?_; (case khx => exact hx3); (case kF => assumption); (case kN => assumption); (case kK => assumption); (case kXB => assumption); (case kTB => assumption); (case kex => k_is); (case khn => decide); (case key => k_is); (case kq => k_exc); (case khb => decide +kernel); intro h' v t tk R' RK U')
    dsimp only
    k_steps
    exact hno _ _ _ (by k_asm) (by k_asm)
end Mine
end

section
open PySem PySem.W PyProof.Rows PySem.Calls
namespace Mine
set_option maxRecDepth 100000
set_option maxHeartbeats 8000000
def noDig (c : Str) : Bool := !(!(Builtin.Str.occurrences (Str.ofString "0123456789") c 0 (Str.ofString "0123456789").length 1).isEmpty)
theorem dig_at (n : Nat) : ∀ i : Nat, (([48, 49, 50, 51, 52, 53, 54, 55, 56, 57].drop i).take 1 == [n]) = true → n = 48 + i ∧ i < 10
  | 0, h | 1, h | 2, h | 3, h | 4, h | 5, h | 6, h | 7, h | 8, h | 9, h => by simp at h; omega
  | k + 10, h => by simp at h
theorem dig_find {n : Nat} (h : noDig ⟨#[n]⟩ = false) : Txt.find (Str.ofString "0123456789") ⟨#[n]⟩ = (n : Int) - 48 ∧ 48 ≤ n ∧ n ≤ 57 := by
  obtain ⟨f, hc⟩ := PySem.StrLaws.occ_chain (Str.ofString "0123456789") ⟨#[n]⟩ 1
  unfold noDig at h
  cases ho : Builtin.Str.occurrences (Str.ofString "0123456789") ⟨#[n]⟩ 0 (Str.ofString "0123456789").length 1 with
  | nil => rw [ho] at h; simp at h
  | cons i rest =>
    rw [ho] at hc
    have e : Txt.find (Str.ofString "0123456789") ⟨#[n]⟩ = (i : Int) := by simp [Txt.find, ho]
    obtain ⟨_, hat, _⟩ := hc
    obtain ⟨_, hsub⟩ := hat
    have hs : Builtin.Str.subAt (Str.ofString "0123456789") ⟨#[n]⟩ i = true := by assumption
    rw [StrLaws.subAt_eq] at hs
    have hd := dig_at n i hs
    rw [e]
    omega
end Mine
end

section
open PySem PySem.W PyProof.Rows PySem.Calls
namespace Mine
set_option maxRecDepth 100000
set_option maxHeartbeats 8000000
local macro_rules | `(tactic| k_room) => `(tactic| ktr_room)
local macro_rules | `(tactic| k_units) => `(tactic| ktr_units)

def readM (text : Str) (tt : Tok) (fx : Int) (tf : Tok) (vmin vmax : Value) : Str → Option Value := fun y => List.lookup y [(Str.ofString "most", vmax), (Str.ofString "least", vmin), (Str.ofString "fixed", .int fx tf), (Str.ofString "text", .str text tt)]
def dsOf (text : Str) : Str := if (Txt.slice text none (some 1) == Str.ofString "-") = true then Txt.slice text (some 1) none else text
theorem dsOf_len (text : Str) (h : text.length ≤ 640) (h2 : (Txt.slice text (some 1) none).length ≤ text.length) : (dsOf text).length ≤ 640 := by
  unfold dsOf; split <;> omega
def okRead (text : Str) (fx : Int) : Prop := (fx ≤ 0 ∨ (text.length : Int) = fx) ∧ dsOf text ≠ Str.ofString "" ∧ ∀ c ∈ PyProof.Rows.signs (dsOf text), noDig c = false
theorem dec_any {f : Str → PyData} {p : Str → Bool} : ∀ l : List Str, decide (0 < (List.map f (l.filter p)).length) = l.any p
  | [] => rfl
  | c :: l => by
    rw [List.filter_cons, List.any_cons]
    cases h : p c with
    | true => simp
    | false => rw [if_neg (by decide), Bool.false_or]; exact dec_any l
theorem okRead_no1 {text : Str} {fx : Int} (h : 0 < fx) (h2 : ¬ (text.length : Int) = fx) : ¬ okRead text fx := fun x => by have := x.1; omega
theorem okRead_no2 {text : Str} {fx : Int} (h : (dsOf text == Str.ofString "") = true) : ¬ okRead text fx := fun x => x.2.1 (eq_of_beq h)
theorem okRead_no3 {text : Str} {fx : Int} (h : (PyProof.Rows.signs (dsOf text)).any noDig = true) : ¬ okRead text fx := fun x => by
  obtain ⟨c, hc, hn⟩ := List.any_eq_true.mp h
  rw [x.2.2 c hc] at hn; cases hn
theorem okRead_yes {text : Str} {fx : Int} (h1 : fx ≤ 0 ∨ (text.length : Int) = fx) (h2 : (dsOf text == Str.ofString "") = false) (h : (PyProof.Rows.signs (dsOf text)).any noDig = false) : okRead text fx :=
  ⟨h1, fun e => by rw [e] at h2; revert h2; decide, fun c hc => by
    cases q : noDig c with
    | false => rfl
    | true => rw [List.any_eq_true.mpr ⟨c, hc, q⟩] at h; cases h⟩
local macro_rules | `(tactic| walk_at "pyIter str") => `(tactic| (
  k_dflt (refine' srcC_signsD (pz := noDig) (d := fun c => PyData.str c) ?sch ?scF ?scN (Hold.out (n := 11) ?_) (Hold.out (n := 12) ?_) (Hold.out (n := 13) ?_) ?scz; (case sch => rfl); (case scF => assumption); (case scN => assumption); (case scz => assumption))))
theorem sign_mem {x : Str} {pre post : List Int} {n : Nat} (h : KStt.codes x = pre ++ (n : Int) :: post) : (⟨#[n]⟩ : Str) ∈ PyProof.Rows.signs x := by
  have hm : (n : Int) ∈ KStt.codes x := by rw [h]; simp
  obtain ⟨c, hc, e⟩ := List.mem_map.mp hm
  have : c = n := by omega
  subst this
  unfold PyProof.Rows.signs
  exact List.mem_map.mpr ⟨c, hc, rfl⟩
theorem Fr.of_fun {h₀ h : Heap} {L : Addr} {m m' : Str → Option Value} (F : Fr h₀ L h m) (e : ∀ z, m z = m' z) : Fr h₀ L h m' := by
  rw [show m' = m from funext fun z => (e z).symm]; exact F
theorem turn_J {m' m₀ : Str → Option Value} {news : List (Addr × Obj)} {v : Int} {t9 : Tok} {P : List Int → Int × Tok → Prop} {pre : List Int} {x : Str} (e : m' (Str.ofString "number") = some (.int v t9))
    (h : ∀ z, z ≠ x → z ≠ Str.ofString "number" → m' z = m₀ z) (hp : P pre (v, t9)) :
    KstS (fun _ => news) (fun c : Int × Tok => [(Str.ofString "number", Value.int c.1 c.2)]) (fun _ => True) x [] m₀ P pre m' news :=
  ⟨(v, t9), rfl, trivial, (by intro p hp; rcases List.mem_cons.mp hp with rfl | hp; exact e; cases hp), (fun z h1 h2 _ => h z h1 (h2 _ (.head _))), hp⟩
def valOf (l : List Int) : Int := l.foldl (fun a n => 10 * a + (n - 48)) 0
theorem valOf_snoc (l : List Int) (n : Int) : valOf (l ++ [n]) = 10 * valOf l + (n - 48) := by unfold valOf; rw [List.foldl_append]; rfl
local macro_rules | `(tactic| walk_at "call builtin:str.index") => `(tactic| (
  k_dflt (refine' PyProof.Rows.index_or (by rfl) ?ixA ?ixB; (case ixA => (intro he _ h' tk e hx; exfalso; rename noDig _ = false => hz; have q := dig_find hz; omega)); intro _ _; rename noDig _ = false => hz; rw [(dig_find hz).1])))
def numOf (text : Str) : Int := if (Txt.slice text none (some 1) == Str.ofString "-") = true then -(valOf (KStt.codes (dsOf text))) else valOf (KStt.codes (dsOf text))
local macro_rules | `(tactic| walk_at "exec If") => `(tactic| ((with_reducible show wpAny _ _ (PySem.exec (Stmt.If (PySem.Expr.BoolOp BoolOp.Or [PySem.Expr.BoolOp BoolOp.And _ _, PySem.Expr.BoolOp BoolOp.And _ _] _) _ _ _) _) _ _ _); (rename OptV _ _ => hv); refine Hold.out (n := 3) ?_))
theorem read_claim {w : World} {mean : ExcName → Option Value} {mg mb : Str → Option Value}
    {dp un : Nat} {gd : Option (List Code)} {cn : Str} {cs : Scope} {a : Addr} {ccd : Value} {cl : List (Str × Addr)} {outer : List Env} {A₀ : Around} {base h₀ : Heap} {L : Addr} {m : Str → Option Value} {s : Shared} {Q E : Value → Shared → Prop}
    {fx : Int} {tf : Tok} {vmin vmax : Value} {omin omax : Option Int} {news : List (Addr × Obj)} {text : Str} {tt : Tok}
    (B : Below A₀ base outer h₀) (F : Fr h₀ L s.heap m) (X : (hd.heap_39 w.params).In h₀) (N0 : News h₀ L s.heap news) (T : Top hd.view_39 (looseW hd.view_39 [Str.ofString "BaseConverter", Str.ofString "NumberConverter", Str.ofString "IntegerConverter"]) mean mg mb h₀) (hk : cs.kind = .function)
    (hmin : OptV vmin omin) (hmax : OptV vmax omax) (hlen : text.length ≤ 640)
    (hd1 : dp + 5 < recursionLimit) (hu1 : un + 30 < cLine)
    (hno : ¬ okRead text fx ∨ (∃ i, omin = some i ∧ numOf text < i) ∨ (∃ i, omax = some i ∧ i < numOf text) → ∀ (t : Tok) (h' : Heap) (tk' : Nat), Fr h₀ L h' m → News h₀ L h' news → Q (.str (Str.ofString "refused") t) { s with heap := h', toks := tk' })
    (hyes : okRead text fx → (∀ i, omin = some i → ¬ numOf text < i) → (∀ i, omax = some i → ¬ i < numOf text) → ∀ (l : Addr) (t : Tok) (h' : Heap) (tk' : Nat), Fr h₀ L h' m → News h₀ L h' ((l, listOf [.int (numOf text) t].toArray 0) :: news) → (∀ p ∈ news, p.1 < l) → Q (.ref l) { s with heap := h', toks := tk' }) :
    wpAny (model PySem.Challenge.rw_bf0058_01.row.prog w) (ktrTop dp un gd cn cs L a ccd cl outer) (call (.ref 140) [.str text tt, .int fx tf, vmin, vmax] []) Q E s := by
  revert X
  k_fill
  intro X
  refine wpAny_call ?_
  k_dflt (refine' code_def ?k1 ?k2 ?k3 ?k4 ?k5 ?kA ?kF ?kK ?k6 ?k7 ?k8 ?k9 ?kB ?_ ?c2 ?c3 ?c4 ?c5; (case kA => exact rfl); (case kF => exact rfl); (case kK => assumption); (case k1 => k_asm); (case k2 => k_asm); (case k3 => k_asm); (case k4 => k_asm); (case k5 => k_asm); (case k6 => k_is); (case k7 => k_is); (case k8 => ktr_room); (case k9 => exact BindsTo.of_eq rfl); (case c5 => decide); (case kB => exact locs rfl); (case c2 => exact rfl); (case c3 => exact rfl); (case c4 => exact rfl); k_whole)
  intro g1 L1 h1 FG1 F1 N1 B1 X1 T1
  dsimp only
  try k_fold
  replace F1 : Fr g1 L1 h1 (readM text tt fx tf vmin vmax) := F1
  refine wpAny_execs_cons ?_
  refine wpAny_mono (Q := fun f s' => Hold 1 (f = .next ∧ ∃ (t : Tok) (h2 : Heap) (tk2 : Nat), s' = { s with heap := h2, toks := tk2 } ∧ Fr g1 L1 h2 (fun y => if y = Str.ofString "digits" then some (.str (dsOf text) t) else readM text tt fx tf vmin vmax y) ∧ News g1 L1 h2 news ∧ (dsOf text).length ≤ 640)) ?st1 (fun f s' hs => ?_) (fun _ _ x => x)
  case st1 =>
    k_steps
    · rename News g1 L1 _ _ => nF
      refine Hold.in ⟨rfl, ?tt1, _, _, rfl, ?ff1, nF, ?dd1⟩
      case ff1 =>
        unfold dsOf
        rw [if_pos (by assumption)]
        assumption
      case dd1 =>
        unfold dsOf
        rw [if_pos (by assumption)]
        omega
    · rename News g1 L1 _ _ => nF
      refine Hold.in ⟨rfl, ?tt2, _, _, rfl, ?ff2, nF, ?dd2⟩
      case ff2 =>
        unfold dsOf
        rw [if_neg (by simp only [*]; decide)]
        assumption
      case dd2 =>
        unfold dsOf
        rw [if_neg (by simp only [*]; decide)]
        omega
  obtain ⟨rfl, t2, h2, tk2, rfl, F2, N2, hds⟩ := hs
  dsimp only
  refine wpAny_execs_cons ?_
  refine wpAny_mono (Q := fun f s' => Hold 2 (∃ (h3 : Heap) (tk3 : Nat), s' = { s with heap := h3, toks := tk3 } ∧ Fr g1 L1 h3 (fun y => if y = Str.ofString "digits" then some (.str (dsOf text) t2) else readM text tt fx tf vmin vmax y) ∧ News g1 L1 h3 news ∧
    ((f = .next ∧ okRead text fx) ∨ (¬ okRead text fx ∧ ∃ t, f = .ret (.str (Str.ofString "refused") t))))) ?st2 (fun f s' hs => ?_) (fun _ _ x => x)
  case st2 =>
    have hsz : (dsOf text).length ≤ sizeLine := by rw [sizeLine_eq]; omega
    k_steps
    all_goals (try dsimp only)
    all_goals first
      | (refine Hold.in ⟨_, _, rfl, F2, N2, .inr ⟨?_, _, rfl⟩⟩; first | exact okRead_no2 (by assumption) | exact okRead_no1 (by assumption) (by assumption))
      | (refine Hold.in ?_; intro C c v s₂ m₂ E' hi hn hm ht; obtain ⟨u, rfl⟩ := ItemKind.str_is hi; k_steps; all_goals first | exact ⟨_, _, rfl, fun _ _ e => e⟩ | exact .str _ _)
      | (refine Hold.in ?_; intro C c v s₂ m₂ E' hi hpz hn hm ht; obtain ⟨u, rfl⟩ := ItemKind.str_is hi; k_steps; all_goals first | exact ⟨_, _, rfl, fun _ _ e => e⟩ | exact .str _ _)
      | (refine Hold.in ?_; intro D ys h' tk F' N' hD hl hnp hca; refine truthy_list_made hl hca ?lenB ?_; (case lenB => (rw [List.length_map]; exact Nat.le_trans (List.length_filter_le _ _) (by rw [PyProof.Rows.signs_length]; exact Nat.le_trans hds (by decide)))); rw [dec_any]; cases hB : (PyProof.Rows.signs (dsOf text)).any noDig <;> k_steps; all_goals (first | exact Hold.in ⟨_, _, rfl, (by assumption), (by assumption), .inl ⟨rfl, okRead_yes (by omega) (by assumption) (by assumption)⟩⟩ | exact Hold.in ⟨_, _, rfl, (by assumption), (by assumption), .inr ⟨okRead_no3 (by assumption), _, rfl⟩⟩))
  obtain ⟨h3, tk3, rfl, F3, N3, ⟨rfl, hok⟩ | ⟨hbad, t, rfl⟩⟩ := hs
  rotate_left
  · dsimp only
    k_steps
    exact hno (.inl hbad) _ _ _ (by k_asm) (by k_asm)
  dsimp only
  refine wpAny_execs_cons ?_
  refine wpAny_mono (Q := fun f s' => Hold 3 (f = .next ∧ ∃ (t : Tok) (h4 : Heap) (tk4 : Nat), s' = { s with heap := h4, toks := tk4 } ∧ Fr g1 L1 h4 (fun y => if y = Str.ofString "number" then some (.int 0 t) else if y = Str.ofString "digits" then some (.str (dsOf text) t2) else readM text tt fx tf vmin vmax y) ∧ News g1 L1 h4 news)) ?st3 (fun f s' hs => ?_) (fun _ _ x => x)
  case st3 =>
    k_steps
    exact Hold.in ⟨rfl, _, _, _, rfl, by assumption, by assumption⟩
  obtain ⟨rfl, t4, h4, tk4, rfl, F4, N4⟩ := hs
  dsimp only
  refine wpAny_execs_cons ?_
  refine wpAny_mono (Q := fun f s' => Hold 4 (f = .next ∧ ∃ (t : Tok) (h5 : Heap) (tk5 : Nat) (u : Str → Option Value), s' = { s with heap := h5, toks := tk5 } ∧ Fr g1 L1 h5 (fun y => if y = Str.ofString "sign" then u y else if y = Str.ofString "number" then some (.int (valOf (KStt.codes (dsOf text))) t) else if y = Str.ofString "digits" then some (.str (dsOf text) t2) else readM text tt fx tf vmin vmax y) ∧ News g1 L1 h5 news)) ?st4 (fun f s' hs => ?_) (fun _ _ x => x)
  case st4 =>
    with_unfolding_all refine' For_invVF F4 ?fa ?fb ?_
    case fa => exact rfl
    case fb => exact rfl
    k_steps
    refine KStt.kst_text (σ := Int × Tok) (fun _ => news) (fun c => [(Str.ofString "number", .int c.1 c.2)]) (fun _ => True) [] (fun pre c => c.1 = valOf pre) (0, t4) rfl F4 N4 trivial ?ps rfl ?turn ?done
    case ps =>
      intro p hp
      rcases List.mem_cons.mp hp with rfl | hp
      · exact if_pos rfl
      · cases hp
    case turn =>
      rintro ⟨num, tn⟩ pre post n t u h tk own hcodes hoff _ hP F' N'
      have hn : noDig ⟨#[n]⟩ = false := hok.2.2 _ (sign_mem hcodes)
      k_steps
      rename Fr g1 L1 _ _ => fT
      rename News g1 L1 _ _ => nT
      refine ⟨_, _, _, _, news, rfl, fT, nT, fun p hp => List.mem_append_left _ hp, fun p hp => List.mem_append_right _ hp, rfl, turn_J (if_pos rfl) ?_ ?_⟩
      · intro z hz1 e1
        show (if z = _ then _ else if z = _ then _ else _) = _
        rw [if_neg e1, if_neg hz1]
        show (if z = _ then _ else _) = _
        rw [if_neg e1]
        rfl
      · show _ = valOf (pre ++ [(n : Int)])
        rw [valOf_snoc, ← (show num = valOf pre from hP)]
    case done =>
      rintro ⟨num, tn⟩ u h tk _ hP F' N'
      have hP : num = valOf (KStt.codes (dsOf text)) := hP
      subst hP
      refine Hold.in ⟨rfl, tn, h, tk, u, rfl, Fr.of_fun F' fun z => ?_, N'⟩
      by_cases h1 : z = Str.ofString "sign"
      · rw [if_pos h1, if_pos h1]
      · rw [if_neg h1, if_neg h1]
        by_cases h2 : z = Str.ofString "number"
        · rw [if_pos h2]; exact if_pos h2
        · rw [if_neg h2]
          refine (if_neg h2).trans ?_
          show (if z = _ then _ else _) = _
          rw [if_neg h2]
  obtain ⟨rfl, t5, h5, tk5, u5, rfl, F5, N5⟩ := hs
  dsimp only
  refine wpAny_execs_cons ?_
  refine wpAny_mono (Q := fun f s' => Hold 5 (f = .next ∧ ∃ (t : Tok) (h6 : Heap) (tk6 : Nat), s' = { s with heap := h6, toks := tk6 } ∧ Fr g1 L1 h6 (fun y => if y = Str.ofString "number" then some (.int (numOf text) t) else if y = Str.ofString "sign" then u5 y else if y = Str.ofString "number" then some (.int (valOf (KStt.codes (dsOf text))) t5) else if y = Str.ofString "digits" then some (.str (dsOf text) t2) else readM text tt fx tf vmin vmax y) ∧ News g1 L1 h6 news)) ?st5 (fun f s' hs => ?_) (fun _ _ x => x)
  case st5 =>
    k_steps
    · rename News g1 L1 _ _ => nF
      refine Hold.in ⟨rfl, ?tt3, _, _, rfl, ?ff3, nF⟩
      case ff3 =>
        unfold numOf
        rw [if_pos (by assumption)]
        assumption
    · rename News g1 L1 _ _ => nF
      refine Hold.in ⟨rfl, ?tt4, _, _, rfl, ?ff4, nF⟩
      case ff4 =>
        unfold numOf
        rw [if_neg (by simp only [*]; decide)]
        assumption
  obtain ⟨rfl, t6, h6, tk6, rfl, F6, N6⟩ := hs
  dsimp only
  k_steps
  refine Hold.in ?_
  rename OptV vmax omax => hM
  rename OptV vmin omin => hm
  cases hm <;> cases hM <;> k_steps
  all_goals first
    | (refine hno (.inr ?_) _ _ _ (by k_asm) (by k_asm); first | exact .inl ⟨_, rfl, by omega⟩ | exact .inr ⟨_, rfl, by omega⟩)
    | (refine hyes hok ?_ ?_ _ _ _ _ (by k_asm) (by k_asm) (by first | assumption | exact ktn_ltOf (by assumption)) <;> (intro i hi; cases hi; try omega))
end Mine
end

section
open PySem PySem.W PyProof.Rows PySem.Calls
namespace Mine
set_option maxRecDepth 100000
set_option maxHeartbeats 8000000
local macro_rules | `(tactic| k_room) => `(tactic| ktr_room)
local macro_rules | `(tactic| k_units) => `(tactic| ktr_units)
local macro_rules | `(tactic| walk_at "getMethod ref") => `(tactic| (
  k_here; (with_reducible show wpAny _ _ (PySem.getMethod (Value.ref _) (PySem.Str.ofString "num_convert") _) _ _ _);
  k_dflt (refine' conv_num ?k1 ?k2 ?k3 ?k4 ?k5 ?k6 ?_; (case k1 => k_asm); (case k2 => k_asm); (case k3 => k_asm); (case k4 => k_mem); (case k5 => k_mem); (case k6 => assumption))))
local macro_rules | `(tactic| walk_at "getMethod ref") => `(tactic| (
  k_here; (with_reducible show wpAny _ _ (PySem.getMethod (Value.ref _) (PySem.Str.ofString "to_python") _) _ _ _);
  k_dflt (refine' conv_topy ?k1 ?k2 ?k3 ?k4 ?k5 ?k6 ?_; (case k1 => k_asm); (case k2 => k_asm); (case k3 => k_asm); (case k4 => k_mem); (case k5 => k_mem); (case k6 => assumption))))
local macro_rules | `(tactic| walk_at "getAttr ref") => `(tactic| (
  k_here; (with_reducible show wpAny _ _ (PySem.getAttr (Value.ref _) (PySem.Str.ofString "fixed_digits") _) _ _ _);
  k_dflt (refine' conv_fixed ?k1 ?k2 ?k3 ?k4 ?k5 ?k6 ?_; (case k1 => k_asm); (case k2 => k_asm); (case k3 => k_asm); (case k4 => k_mem); (case k5 => k_mem); (case k6 => assumption))))
local macro_rules | `(tactic| walk_at "getAttr ref") => `(tactic| (
  k_here; (with_reducible show wpAny _ _ (PySem.getAttr (Value.ref _) (PySem.Str.ofString "min") _) _ _ _);
  k_dflt (refine' conv_min ?k1 ?k2 ?k3 ?k4 ?k5 ?k6 ?k7 ?_; (case k1 => k_asm); (case k2 => k_asm); (case k3 => k_asm); (case k4 => k_mem); (case k5 => k_mem); (case k6 => assumption); (case k7 => first | assumption | exact OptV.none | exact OptV.int _ _))))
local macro_rules | `(tactic| walk_at "getAttr ref") => `(tactic| (
  k_here; (with_reducible show wpAny _ _ (PySem.getAttr (Value.ref _) (PySem.Str.ofString "max") _) _ _ _);
  k_dflt (refine' conv_max ?k1 ?k2 ?k3 ?k4 ?k5 ?k6 ?k7 ?_; (case k1 => k_asm); (case k2 => k_asm); (case k3 => k_asm); (case k4 => k_mem); (case k5 => k_mem); (case k6 => assumption); (case k7 => first | assumption | exact OptV.none | exact OptV.int _ _))))

def urlF (n fx : Int) : Str := if fx = 0 then Str.ofString (toString n) else Txt.zfill (Str.ofString (toString n)) fx
def writtenF (n fx : Int) : Str :=
  if n < 0 then Str.ofString "-" ++ Txt.mul (Str.ofString "0") (if fx - (1 : Nat) - (Str.ofString (toString (if n < 0 then -n else n))).length > 0 then fx - (1 : Nat) - (Str.ofString (toString (if n < 0 then -n else n))).length else 0) ++ Str.ofString (toString (if n < 0 then -n else n))
  else Str.ofString "" ++ Txt.mul (Str.ofString "0") (if fx - (0 : Nat) - (Str.ofString (toString (if n < 0 then -n else n))).length > 0 then fx - (0 : Nat) - (Str.ofString (toString (if n < 0 then -n else n))).length else 0) ++ Str.ofString (toString (if n < 0 then -n else n))

theorem url_claim {w : World} {mean : ExcName → Option Value} {mg mb : Str → Option Value}
    {dp un : Nat} {gd : Option (List Code)} {cn : Str} {cs : Scope} {a : Addr} {ccd : Value} {cl : List (Str × Addr)} {outer : List Env} {A₀ : Around} {base h₀ : Heap} {L : Addr} {m : Str → Option Value} {s : Shared} {Q E : Value → Shared → Prop}
    {fx : Int} {tf : Tok} {n : Int} {tn : Tok} {news : List (Addr × Obj)} {vmin vmax : Value} {sg : Bool} {x dx : Addr} {o : Obj}
    (B : Below A₀ base outer h₀) (F : Fr h₀ L s.heap m) (X : (hd.heap_39 w.params).In h₀) (N0 : News h₀ L s.heap news) (T : Top hd.view_39 (looseW hd.view_39 [Str.ofString "BaseConverter", Str.ofString "NumberConverter", Str.ofString "IntegerConverter"]) mean mg mb h₀) (hk : cs.kind = .function)
    (hd1 : dp + 5 < recursionLimit) (hu1 : un + 30 < cLine)
    (hx : (x, instObj 121 dx) ∈ news) (hdx : (dx, o) ∈ news) (hC : ConvD w (.int fx tf) vmin vmax sg o) (hf0 : 0 ≤ fx) (hf1 : fx ≤ 4) (hn0 : -10000 ≤ n) (hn1 : n ≤ 10000)
    (hret : ∀ (t : Tok) (h' : Heap) (tk' : Nat), Fr h₀ L h' m → News h₀ L h' news → Q (.str (urlF n fx) t) { s with heap := h', toks := tk' }) :
    wpAny (model PySem.Challenge.rw_bf0058_01.row.prog w) (ktrTop dp un gd cn cs L a ccd cl outer) (call (.ref 98) [.ref x, .int n tn] []) Q E s := by
  revert X
  k_fill
  intro X
  refine wpAny_call ?_
  k_dflt ktr_enter
  k_steps
  all_goals (have hret := fun t h' tk' => hret t h' tk'; unfold urlF at hret)
  · rw [if_neg (by omega)] at hret
    exact hret _ _ _ (by k_asm) (by k_asm)
  · rw [if_pos (by omega)] at hret
    exact hret _ _ _ (by k_asm) (by k_asm)

theorem written_claim {w : World} {mean : ExcName → Option Value} {mg mb : Str → Option Value}
    {dp un : Nat} {gd : Option (List Code)} {cn : Str} {cs : Scope} {a : Addr} {ccd : Value} {cl : List (Str × Addr)} {outer : List Env} {A₀ : Around} {base h₀ : Heap} {L : Addr} {m : Str → Option Value} {s : Shared} {Q E : Value → Shared → Prop}
    {fx : Int} {tf : Tok} {n : Int} {tn : Tok} {news : List (Addr × Obj)} {vmin vmax : Value} {sg : Bool} {x dx : Addr} {o : Obj}
    (B : Below A₀ base outer h₀) (F : Fr h₀ L s.heap m) (X : (hd.heap_39 w.params).In h₀) (N0 : News h₀ L s.heap news) (T : Top hd.view_39 (looseW hd.view_39 [Str.ofString "BaseConverter", Str.ofString "NumberConverter", Str.ofString "IntegerConverter"]) mean mg mb h₀) (hk : cs.kind = .function)
    (hd1 : dp + 5 < recursionLimit) (hu1 : un + 30 < cLine)
    (hf0 : 0 ≤ fx) (hf1 : fx ≤ 4) (hn0 : -10000 ≤ n) (hn1 : n ≤ 10000)
    (hret : ∀ (t : Tok) (h' : Heap) (tk' : Nat), Fr h₀ L h' m → News h₀ L h' news → Q (.str (writtenF n fx) t) { s with heap := h', toks := tk' }) :
    wpAny (model PySem.Challenge.rw_bf0058_01.row.prog w) (ktrTop dp un gd cn cs L a ccd cl outer) (call (.ref 147) [.int n tn, .int fx tf] []) Q E s := by
  revert X
  k_fill
  intro X
  refine wpAny_call ?_
  k_dflt ktr_enter
  k_steps
  all_goals (have hret := fun t h' tk' => hret t h' tk'; unfold writtenF at hret)
  · rw [if_pos (by omega)] at hret
    exact hret _ _ _ (by k_asm) (by k_asm)
  · rw [if_neg (by omega)] at hret
    exact hret _ _ _ (by k_asm) (by k_asm)
end Mine
end

section
open PySem PySem.W PyProof.Rows PySem.Calls
namespace Mine
set_option maxRecDepth 100000
set_option maxHeartbeats 8000000
/-- a text of the law: int() and the law's own reading agree -/
def okB (text : Str) : Bool := dsOf text != Str.ofString "" && (PyProof.Rows.signs (dsOf text)).all fun c => !noDig c
def lawB (text : Str) : Bool := decide (PySem.intText? text = if okB text then some (numOf text) else none) && decide (text.length ≤ 640) && decide ((reprText text).length ≤ 1000)
def theTexts : List Str := [Str.ofString "", Str.ofString "0", Str.ofString "7", Str.ofString "007", Str.ofString "12", Str.ofString "120", Str.ofString "-3", Str.ofString "-003", Str.ofString "x", Str.ofString "1x", Str.ofString "--1", Str.ofString "1.0", Str.ofString "999", Str.ofString "0007"]
theorem texts_law : theTexts.all lawB = true := by decide +kernel
def theNums : List Int := [0, 1, 2, 5, 6, 7, -5, -4, -3, 99, 100, 101, 120, 121, 122, -1234, -1233, -1232, 5001, 5002, 5003]
theorem nums_law : theNums.all (fun n => [0, 1, 3, 4].all fun fx => lawB (urlF n fx) && decide (urlF n fx = writtenF n fx)) = true := by decide +kernel
end Mine
end

section
open PySem PySem.W PyProof.Rows PySem.Calls
namespace Mine
set_option maxRecDepth 100000
set_option maxHeartbeats 8000000

theorem told_any {w : World} {mean : ExcName → Option Value} {mg mb : Str → Option Value}
    {dp un : Nat} {gd : Option (List Code)} {cn : Str} {cs : Scope} {a : Addr} {ccd : Value} {A₀ : Around} {h₀ : Heap} {L : Addr} {m : Str → Option Value} {s : Shared} {Q E : Value → Shared → Prop}
    {fx : Int} {tf : Tok} {vmin vmax : Value} {omin omax : Option Int} {sg : Bool} {news : List (Addr × Obj)} {x dx : Addr} {o : Obj} {text : Str} {tt : Tok}
    (B : Below A₀ h₀ [] h₀) (F : Fr h₀ L s.heap m) (X : (hd.heap_39 w.params).In h₀) (N0 : News h₀ L s.heap news) (T : Top hd.view_39 (looseW hd.view_39 [Str.ofString "BaseConverter", Str.ofString "NumberConverter", Str.ofString "IntegerConverter"]) mean mg mb h₀) (hk : cs.kind = .function)
    (hx : (x, instObj 121 dx) ∈ news) (hdx : (dx, o) ∈ news)
    (hmin : OptV vmin omin) (hmax : OptV vmax omax) (hC : ConvD w (.int fx tf) vmin vmax sg o) (hlen : text.length ≤ 640) (hrep : (reprText text).length ≤ sizeLine)
    (hd1 : dp + 5 < recursionLimit) (hu1 : un + 30 < cLine)
    (hno : toldF (PySem.intText? text) text.length fx omin omax = none → ∀ (t : Tok) (h' : Heap) (tk' : Nat), Fr h₀ L h' m → News h₀ L h' news → Q (.str (Str.ofString "refused") t) { s with heap := h', toks := tk' })
    (hyes : ∀ (k : Int) (l : Addr) (t : Tok) (h' : Heap) (tk' : Nat), toldF (PySem.intText? text) text.length fx omin omax = some k → Fr h₀ L h' m → News h₀ L h' ((l, listOf [.int k t].toArray 0) :: news) → (∀ p ∈ news, p.1 < l) → Q (.ref l) { s with heap := h', toks := tk' }) :
    wpH (model PySem.Challenge.rw_bf0058_01.row.prog w) (ktrTop dp un gd cn cs L a ccd [] []) (call (.ref 154) [.ref x, .str text tt] []) Q E s := by
  cases hint : PySem.intText? text with
  | none =>
    rw [hint] at hno
    exact told_none B F X N0 T hk hx hdx hmin hmax hC hlen hint hrep hd1 hu1 (hno toldF_bad)
  | some n =>
    rw [hint] at hno hyes
    exact wpH_of (told_some B F X N0 T hk hx hdx hmin hmax hC hlen hint hd1 hu1 hno hyes)

/-- what the law compares: told and read answer alike -/
def answer (text : Str) (fx : Int) (omin omax : Option Int) : Option Int := toldF (PySem.intText? text) text.length fx omin omax
theorem okRead_iff {text : Str} {fx : Int} : okRead text fx ↔ (fx ≤ 0 ∨ (text.length : Int) = fx) ∧ okB text = true := by
  unfold okRead okB
  rw [Bool.and_eq_true, List.all_eq_true, bne_iff_ne]
  simp only [Bool.not_eq_true']
theorem lawB_int {text : Str} (h : lawB text = true) : PySem.intText? text = (if okB text then some (numOf text) else none) ∧ text.length ≤ 640 ∧ (reprText text).length ≤ sizeLine := by
  unfold lawB at h
  rw [Bool.and_eq_true, Bool.and_eq_true, decide_eq_true_eq, decide_eq_true_eq, decide_eq_true_eq] at h
  exact ⟨h.1.1, h.1.2, Nat.le_trans h.2 (by decide)⟩
theorem read_no {text : Str} {fx : Int} {omin omax : Option Int} (h : lawB text = true) (hf : 0 ≤ fx)
    (hb : ¬ okRead text fx ∨ (∃ i, omin = some i ∧ numOf text < i) ∨ (∃ i, omax = some i ∧ i < numOf text)) : answer text fx omin omax = none := by
  unfold answer
  rw [(lawB_int h).1]
  by_cases hl : fx ≠ 0 ∧ (text.length : Int) ≠ fx
  · exact toldF_len hl.1 hl.2
  by_cases ho : okB text = true
  · rw [if_pos ho]
    rcases hb with hb | ⟨i, rfl, hi⟩ | ⟨i, rfl, hi⟩
    · exact absurd (okRead_iff.mpr ⟨by omega, ho⟩) hb
    · exact toldF_low (by omega) hi
    · exact toldF_high (by omega) hi
  · rw [if_neg ho]; exact toldF_bad
theorem read_yes {text : Str} {fx : Int} {omin omax : Option Int} (h : lawB text = true) (hf : 0 ≤ fx) (hb : okRead text fx) (h1 : ∀ i, omin = some i → ¬ numOf text < i) (h2 : ∀ i, omax = some i → ¬ i < numOf text) :
    answer text fx omin omax = some (numOf text) := by
  unfold answer
  obtain ⟨hl, ho⟩ := okRead_iff.mp hb
  rw [(lawB_int h).1, if_pos ho]
  exact toldF_ok (by omega) h1 h2
end Mine
end

section
open PySem PySem.W PyProof.Rows PySem.Calls
namespace Mine
set_option maxRecDepth 100000
set_option maxHeartbeats 8000000

section
variable {prog : Program} {w : World} {A : Around} {s : Shared} {env : Env} {h₀ : Heap} {E : Value → Shared → Prop}
theorem wpH_noted {α : Type} {M : Model} {m : Sem α} {Q : α → Shared → Prop} (h : wpH M A m Q (notedBy M A env E) s) : wpH M A (m.onRaise fun x => do noteFrame x env; theTreesLotGoes x) Q E s :=
  wpH_onRaise (wpH_mono h (fun _ _ x => x) fun _ _ x => wpH_of (wpAny_bind (wpAny_mono x (fun _ _ y => wpAny_theTreesLotGoes y) fun _ _ y => y)))

theorem codeH_forLoop {R : Result → Shared → Prop} {target : PySem.Expr} {it : Value} {body : List Stmt} (I : Nat → Shared → Prop)
    (turn : ∀ n s, I n s → wpAny (model prog w) A (pyNext it) (fun r s₁ => match r with
      | none => R (.ok .next) s₁
      | some v => wpAny (model prog w) A (assign target env v) (fun _ s₂ => wpH (model prog w) A (execs body env) (fun f s₃ => match f with
          | .next | .cont => ∃ m, m < n ∧ I m s₃
          | .brk => R (.ok .next) s₃
          | .ret v => R (.ok (.ret v)) s₃) (notedBy (model prog w) A env fun e s' => R (.error e) s') s₂) (notedBy (model prog w) A env fun e s' => R (.error e) s') s₁) (notedBy (model prog w) A env fun e s' => R (.error e) s') s)
    (n : Nat) (h : I n s) (ht : ∀ v, letOwnedTupleGo target it v = pure () := by intro _; rfl) : codeH (model prog w) A (.forLoop target it body [] env) R s := by
  refine codeH_loop rfl I (fun n s hI => ?_) n h
  show wpH _ _ ((forTurn target it body [] env).onRaise (fun x => do noteFrame x env; theTreesLotGoes x)) _ _ s
  refine wpH_noted ?_
  simp only [forTurn]
  refine wpH_step (wpAny_standAt (wpH_step (wpAny_onRaise (wpAny_mono (turn n s hI) (fun r s₁ h₁ => ?_) fun _ _ h' => wpAny_standAt h'))))
  cases r with
  | none => exact wpH_pure (.inr ⟨rfl, codeH_of (codeAny_block (wpAny_execs_nil h₁))⟩)
  | some v =>
    refine wpH_step (wpAny_of_eq (ht v) ?_)
    refine wpH_step (wpAny_mono h₁ (fun _ s₂ h₂ => wpH_bind (wpH_mono h₂ (fun f s₃ h₃ => ?_) fun _ _ h' => h')) fun _ _ h' => h')
    cases f with
    | next => exact wpH_pure (.inl ⟨rfl, h₃⟩)
    | cont => exact wpH_pure (.inl ⟨rfl, h₃⟩)
    | brk => exact wpH_pure h₃
    | ret v => exact wpH_pure h₃

theorem wpH_For {M : Model} {target iter : PySem.Expr} {body orelse : List Stmt} {pos : Pos} {Q : Flow → Shared → Prop}
    (h : wpAny M A (eval iter env) (fun x s₁ => wpAny M A (pyIter x) (fun it s₂ =>
      codeH M A (.forLoop target it body orelse env) (fun r s' => match r with | .ok f => Q f s' | .error e => cameBackBy M A env E e s') s₂) E s₁) E s)
    (hs : ∀ x, foldedSetIterable iter env x = pure x := by intro _; rfl) :
    wpH M A (exec (.For target iter body orelse pos) env) Q E s := by
  rw [exec_For]
  exact wpH_step (wpAny_standAt (wpH_step (wpAny_mono h (fun x s₁ h₁ => wpH_step (wpAny_of_eq (hs x) (wpH_step (wpAny_standAt (wpH_step (wpAny_holding
    (wpAny_mono h₁ (fun it s₂ h₂ => wpH_runOwn h₂) fun _ _ h' => h'))))))) fun _ _ h' => h')))

theorem codeH_forLoop_frV {R : Result → Shared → Prop} {x : Str} {px : Pos} {body : List Stmt} {I : Addr} {fp wr : List Addr} {n : Nat} {P : Nat → Value → Prop} {St : Nat → Heap → Prop} {m : Str → Option Value}
    {news : List (Addr × Obj)} (W : Walks prog w A I fp wr n P St) (hx : env.kindOf x = some .local)
    (hp : (env.scope.kind == .class || (env.scope.kind == .module && env.locals != env.globals)) = false)
    (hLf : env.locals ∉ fp) (hwr : ∀ b ∈ wr, h₀.get? b = none) (hnw : ∀ p ∈ news, p.1 ∉ wr)
    (hst : St 0 s.heap) (F : Fr h₀ env.locals s.heap m) (N : News h₀ env.locals s.heap news)
    (J : Nat → (Str → Option Value) → List (Addr × Obj) → Prop) (h0 : J 0 m news)
    (step : ∀ i v m₁ news₁ s₁ own, (∃ h tk, s₁ = { s with heap := h, toks := tk }) → i < n → P i v → J i m₁ news₁ → (∀ p ∈ news₁, p.1 ∉ wr) → (∀ p ∈ own, p.1 ∈ fp) → (∀ p ∈ own, s₁.heap.get? p.1 = some p.2) → (∀ b ∈ fp, h₀.get? b = none → ∀ o, s₁.heap.get? b = some o → (b, o) ∈ own) → St (i + 1) s₁.heap →
      Fr h₀ env.locals s₁.heap (fun y => if y = x then some v else m₁ y) → News h₀ env.locals s₁.heap (own ++ news₁) →
      wpH (model prog w) A (execs body env) (LoopStepV h₀ env.locals wr own (J (i + 1)) s₁ (fun v s' => R (.ok (.ret v)) s') fun s' => R (.ok .next) s') (notedBy (model prog w) A env fun e s' => R (.error e) s') s₁)
    (hR : ∀ h' tk m' news', Fr h₀ env.locals h' m' → News h₀ env.locals h' news' → (∀ p ∈ news', p.1 ∉ wr) → J n m' news' → R (.ok .next) { s with heap := h', toks := tk }) :
    codeH (model prog w) A (.forLoop (.Name x px) (.ref I) body [] env) R s := by
  have hLw : env.locals ∉ wr := fun h => hLf (W.sub _ h)
  have old : ∀ b o, h₀.get? b = some o → b ∉ wr := fun b o e hb => by rw [hwr b hb] at e; cases e
  refine codeH_forLoop
    (fun k s' => ∃ h' tk m' news' i, s' = { s with heap := h', toks := tk } ∧ St i h' ∧ Fr h₀ env.locals h' m' ∧ News h₀ env.locals h' news' ∧ (∀ p ∈ news', p.1 ∉ wr) ∧ J i m' news' ∧ i ≤ n ∧ k = n + 1 - i) ?_ (n + 1)
    ⟨s.heap, s.toks, m, news, 0, rfl, hst, F, N, hnw, h0, Nat.zero_le _, rfl⟩
  rintro k s' ⟨h', tk, m', news', i, rfl, hst', F', N', hnw', hJ, hi, rfl⟩
  have next : ∀ h₁ : Heap, (∀ b o, b ∉ wr → h'.get? b = some o → h₁.get? b = some o) → Fr h₀ env.locals h₁ m' ∧ News h₀ env.locals h₁ news' := fun h₁ hk₁ =>
    ⟨⟨F'.ns.at' fun o e => hk₁ _ o hLw e, fun b o e => hk₁ b o (old b o e) (F'.keep b o e), F'.above⟩, fun p hp => ⟨hk₁ _ _ (hnw' p hp) (N' p hp).1, (N' p hp).2⟩⟩
  by_cases hlt : i < n
  · refine W.item i _ _ _ hlt hst' fun v h₁ tk₁ hP hst₁ hk₁ => ?_
    obtain ⟨F₁, N₁⟩ := next h₁ hk₁
    refine wpAny_assign_Name (wpAny_storeName_local hx F₁.ns (fun h₂ hn₂ hs₂ => ?_) hp)
    have F₂ := F₁.set hn₂ hs₂
    have Nown : News h₀ env.locals h₂ (ownOf h₀ fp h₂) := news_ownOf hLf
    have hst₂ : St (i + 1) h₂ := W.frame _ _ _ hst₁ fun b hb o e => (hs₂.2 b fun q => hLf (q ▸ hb)).trans e
    have fin : ∀ s₃, LoopStepU h₀ env.locals wr (ownOf h₀ fp h₂) (J (i + 1)) { s with heap := h₂, toks := tk₁ + 1 } .next s₃ →
        ∃ m, m < n + 1 - i ∧ ∃ h' tk m' news' i, s₃ = { s with heap := h', toks := tk } ∧ St i h' ∧ Fr h₀ env.locals h' m' ∧ News h₀ env.locals h' news' ∧ (∀ p ∈ news', p.1 ∉ wr) ∧ J i m' news' ∧ i ≤ n ∧ m = n + 1 - i := by
      rintro s₃ ⟨_, h₃', tk₃, m₂, news₂, rfl, F₃, N₃, ha₃, hJ₃⟩
      refine ⟨n + 1 - (i + 1), by omega, h₃', tk₃, m₂, news₂, i + 1, rfl, ?_, F₃, N₃.right, ha₃, hJ₃, hlt, rfl⟩
      refine W.frame _ _ _ hst₁ fun b hb o e => ?_
      have e₂ : h₂.get? b = some o := (hs₂.2 b fun q => hLf (q ▸ hb)).trans e
      cases hn : h₀.get? b with
      | some o₀ =>
        have : o₀ = o := by have := F₂.keep b o₀ hn; rw [e₂] at this; exact (Option.some.inj this).symm
        exact this ▸ F₃.keep b o₀ hn
      | none => exact (N₃ _ (List.mem_append_left _ (mem_ownOf hb hn e₂))).1
    refine wpH_mono (step i v m' news' _ (ownOf h₀ fp h₂) ⟨_, _, rfl⟩ hlt hP hJ hnw' ownOf_sub (fun p hp => (Nown p hp).1) (fun b hb hn o e => mem_ownOf hb hn e) hst₂ F₂ (Nown.append (N₁.set hs₂))) (fun f s₃ h₃ => ?_) fun _ _ e => e
    cases f with
    | ret v => exact h₃
    | brk => exact h₃
    | cont => exact fin s₃ h₃
    | next => exact fin s₃ h₃
  · have hin : i = n := by omega
    subst hin
    refine W.done _ _ _ hst' fun h₁ tk₁ hk₁ => ?_
    obtain ⟨F₁, N₁⟩ := next h₁ hk₁
    exact hR h₁ tk₁ m' news' F₁ N₁ hnw' hJ
end
end Mine
end

section
open PySem PySem.W PyProof.Rows PySem.Calls
namespace Mine
set_option maxRecDepth 100000
set_option maxHeartbeats 8000000

/-- a turn's end: what the loop keeps stands in the ledger -/
def EndT (h₀ : Heap) (L S N : Addr) (vs : List Value) (n1 n2 : Nat) (rest : List (Addr × Obj)) (a' : Int) (own : List (Addr × Obj)) (x : Str) (stored : List Str) (m₀ : Str → Option Value) (s₁ : Shared) (f : Flow) (s₂ : Shared) : Prop :=
  f = .next ∧ ∃ h' tk m' t' news', s₂ = { s₁ with heap := h', toks := tk } ∧ Fr h₀ L h' m' ∧ (∀ z, z ≠ x → stored.contains z = false → m' z = m₀ z) ∧ News h₀ L h' news' ∧ (∀ p ∈ ledS S N vs n1 n2 rest (a', t'), p ∈ news') ∧ (∀ p ∈ own, p ∈ news')

section
variable {prog : Program} {w : World} {A : Around} {s : Shared} {env : Env} {h₀ : Heap} {E : Value → Shared → Prop} {Q : Flow → Shared → Prop}
theorem iter3_H {r S N : Addr} {x : Str} {px : Pos} {body : List Stmt} {a : Int} {t t₀ u₀ v₀ : Tok} {m₀ : Str → Option Value} {vs : List Value} {n1 n2 : Nat} {rest : List (Addr × Obj)} (step : Int) (stored : List Str)
    (hx : env.kindOf x = some .local) (hp : (env.scope.kind == .class || (env.scope.kind == .module && env.locals != env.globals)) = false)
    (hh : A.handled = none) (hr : IsRange s.heap r 0 3 1 t₀ u₀ v₀) (F : Fr h₀ env.locals s.heap m₀) (N0 : News h₀ env.locals s.heap (ledS S N vs n1 n2 rest (a, t)))
    (turn : ∀ (i : Nat) (t' : Tok) (k : Int) tq (u : Str → Option Value) h tk own, i < 3 → OwnOff own (S :: N :: rest.map (·.1)) →
      Fr h₀ env.locals h (fun y => if y = x then some (.int k tq) else if stored.contains y then u y else m₀ y) → News h₀ env.locals h ((S, listOf [.ref N, .int (a + step * (i : Int)) t'].toArray n1) :: (N, listOf vs.toArray n2) :: (rest ++ own)) →
      wpH (model prog w) A (execs body env) (EndT h₀ env.locals S N vs n1 n2 rest (a + step * ((i + 1 : Nat) : Int)) own x stored m₀ { s with heap := h, toks := tk }) (fun _ _ => False) { s with heap := h, toks := tk })
    (done : ∀ (t' : Tok) (u : Str → Option Value) h tk, Fr h₀ env.locals h (fun y => if y = x then u y else if stored.contains y then u y else m₀ y) → News h₀ env.locals h ((S, listOf [.ref N, .int (a + step * 3) t'].toArray n1) :: (N, listOf vs.toArray n2) :: rest) → Q .next { s with heap := h, toks := tk }) :
    wpAny (model prog w) A (pyIter (.ref r)) (fun it s₂ => codeH (model prog w) A (.forLoop (.Name x px) it body [] env) (fun r s' => match r with | .ok f => Q f s' | .error e => cameBackBy (model prog w) A env E e s') s₂) E s := by
  refine wpAny_pyIter_range hr (by decide) ?_
  have W : Walks prog w A s.heap.objs.size [s.heap.objs.size] [s.heap.objs.size] 3 (fun i v => i < 3 ∧ ∃ t, v = .int (0 + i * 1) t)
      (fun i h => IsRangeIter h s.heap.objs.size (0 + (i : Nat) * 1) ((3 : Nat) - (i : Nat) : Int) 1) := (Walks.range hh _ 0 1 3).bound
  refine codeH_mono (codeH_forLoop_frV (R := fun r s' => match r with | .ok f => Q f s' | .error _ => False) (h₀ := h₀) (m := m₀) (news := ledS S N vs n1 n2 rest (a, t)) W hx hp ?_ ?_ ?_ ?_ (F.push _) (fun p hp => ⟨Heap.get?_push_of_some _ (N0 p hp).1, (N0 p hp).2⟩)
    (fun i m nx => ∃ t', nx = ledS S N vs n1 n2 rest (a + step * (i : Int), t') ∧ ∀ z, z ≠ x → stored.contains z = false → m z = m₀ z) ⟨t, by simp, fun _ _ _ => rfl⟩ ?_ ?_) (fun r s' hr => ?_)
  · intro hm
    exact absurd F.ns.lt ((List.mem_singleton.mp hm) ▸ Nat.lt_irrefl _)
  · intro b hb
    rw [List.mem_singleton.mp hb]
    exact next_is_new F
  · intro p hp hI
    exact absurd (Heap.lt_size (N0 p hp).1) ((List.mem_singleton.mp hI) ▸ Nat.lt_irrefl _)
  · show IsRangeIter _ _ _ _ _
    simpa [Builtin.Range.rangeSize] using Heap.get?_push_size _ rfl
  · rintro i v m₁ news₁ s₁ own ⟨hh', tk', rfl⟩ hi ⟨_, tq, rfl⟩ ⟨t', rfl, hm⟩ hoff hown _ _ _ F₁ N₁
    have hsep : OwnOff own (S :: N :: rest.map (·.1)) := by
      intro p hp b hb e
      have hb' : b ∈ (ledS S N vs n1 n2 rest (a, t)).map (·.1) := hb
      obtain ⟨q, hq, rfl⟩ := List.mem_map.mp hb'
      have h1 := List.mem_singleton.mp (hown p hp)
      exact absurd (Heap.lt_size (N0 q hq).1) (by rw [← e, h1]; exact Nat.lt_irrefl _)
    have F₂ : Fr h₀ env.locals hh' (fun y => if y = x then some (.int (0 + (i : Int) * 1) tq) else if stored.contains y then m₁ y else m₀ y) := by
      have e : (fun y => if y = x then some (Value.int (0 + (i : Int) * 1) tq) else if stored.contains y then m₁ y else m₀ y) = (fun y => if y = x then some (Value.int (0 + (i : Int) * 1) tq) else m₁ y) := by
        funext y
        by_cases h1 : y = x
        · simp [h1]
        · simp only [if_neg h1]
          cases h2 : stored.contains y with
          | true => simp
          | false => simp only [Bool.false_eq_true, if_false]; exact (hm y h1 h2).symm
      rw [e]; exact F₁
    have N₂ : News h₀ env.locals hh' ((S, listOf [.ref N, .int (a + step * (i : Int)) t'].toArray n1) :: (N, listOf vs.toArray n2) :: (rest ++ own)) := by
      intro p hp
      refine N₁ p ?_
      rcases List.mem_cons.mp hp with rfl | hp
      · exact List.mem_append.mpr (.inr (.head _))
      · rcases List.mem_cons.mp hp with rfl | hp
        · exact List.mem_append.mpr (.inr (.tail _ (.head _)))
        · rcases List.mem_append.mp hp with hp | hp
          · exact List.mem_append.mpr (.inr (.tail _ (.tail _ hp)))
          · exact List.mem_append.mpr (.inl hp)
    refine wpH_mono (turn i t' _ tq m₁ hh' tk' own hi hsep F₂ N₂) (fun f s₂ p => ?_) fun _ _ x => x.elim
    obtain ⟨rfl, h', tk, m', t'', news', rfl, F', hm', N', hl, ho⟩ := p
    refine .next ⟨rfl, h', tk, m', ledS S N vs n1 n2 rest (a + step * ((i + 1 : Nat) : Int), t''), rfl, F', fun p hp => N' p ((List.mem_append.mp hp).elim (ho p) (hl p)), fun p hp hq => ?_, t'', rfl, hm'⟩
    have hb' : p.1 ∈ (ledS S N vs n1 n2 rest (a, t)).map (·.1) := by
      have : p.1 ∈ (ledS S N vs n1 n2 rest (a + step * ((i + 1 : Nat) : Int), t'')).map (·.1) := List.mem_map.mpr ⟨p, hp, rfl⟩
      exact this
    obtain ⟨q, hq', e⟩ := List.mem_map.mp hb'
    exact absurd (Heap.lt_size (N0 q hq').1) (by rw [e, List.mem_singleton.mp hq]; exact Nat.lt_irrefl _)
  · rintro h' tk m' news' F' N' _ ⟨t', rfl, hm⟩
    refine done t' m' h' tk ?_ N'
    have e : (fun y => if y = x then m' y else if stored.contains y then m' y else m₀ y) = m' := by
      funext y
      by_cases h1 : y = x
      · simp [h1]
      · simp only [if_neg h1]
        cases h2 : stored.contains y with
        | true => simp
        | false => simp only [Bool.false_eq_true, if_false]; exact (hm y h1 h2).symm
    rw [e]; exact F'
  · cases r with
    | ok f => exact hr
    | error e => exact hr.elim
end
end Mine
end

section
open PySem PySem.W PyProof.Rows PySem.Calls
namespace Mine
set_option maxRecDepth 100000
set_option maxHeartbeats 8000000

inductive IntIn (p : Int → Prop) : List Value → Prop
  | nil : IntIn p []
  | cons {vs : List Value} {i : Int} {t : Tok} : p i → IntIn p vs → IntIn p (Value.int i t :: vs)
inductive StrIn (p : Str → Prop) : List Value → Prop
  | nil : StrIn p []
  | cons {vs : List Value} {x : Str} {t : Tok} : p x → StrIn p vs → StrIn p (Value.str x t :: vs)
theorem IntIn.all {p : Int → Prop} {vs : List Value} (h : IntIn p vs) : ∀ v ∈ vs, ∃ i t, v = .int i t ∧ p i := by
  induction h with
  | nil => intro v hv; cases hv
  | cons hp _ ih =>
    intro v hv
    rcases List.mem_cons.mp hv with rfl | hv
    · exact ⟨_, _, rfl, hp⟩
    · exact ih v hv
theorem StrIn.all {p : Str → Prop} {vs : List Value} (h : StrIn p vs) : ∀ v ∈ vs, ∃ x t, v = .str x t ∧ p x := by
  induction h with
  | nil => intro v hv; cases hv
  | cons hp _ ih =>
    intro v hv
    rcases List.mem_cons.mp hv with rfl | hv
    · exact ⟨_, _, rfl, hp⟩
    · exact ih v hv
def fixIn (i : Int) : Prop := i ∈ ([0, 1, 3, 4] : List Int)
def numIn (i : Int) : Prop := i ∈ ([0, 5, -5, 99, 120, -1234, 5001] : List Int)
def strIn (x : Str) : Prop := x ∈ theTexts
theorem numIn.add {i r : Int} (h : numIn i) (h0 : 0 ≤ r) (h1 : r < 3) : i + r ∈ theNums := by
  unfold numIn at h
  unfold theNums
  simp only [List.mem_cons, List.not_mem_nil, or_false] at h ⊢
  omega
theorem fixIn.le {i : Int} (h : fixIn i) : 0 ≤ i ∧ i ≤ 4 := by
  unfold fixIn at h
  simp only [List.mem_cons, List.not_mem_nil, or_false] at h
  omega

section
variable {prog : Program} {w : World} {A : Around} {E : Value → Shared → Prop} {s : Shared} {h₀ : Heap} {L l : Addr} {news : List (Addr × Obj)} {value slice : PySem.Expr} {vs : List Value} {n : Nat} {i : Int} {u : Tok} {Q : Value → Shared → Prop}
theorem pick_mem (N : News h₀ L s.heap news) (hm : (l, listOf vs.toArray n) ∈ news) (h0 : 0 ≤ i) (h1 : i < (vs.length : Int)) (hfit : i < 2 ^ 63)
    (h : ∀ v ∈ vs, Q v s)
    (hs : subscripted slice false (.ref l) (.int i u) = operate [.ref l, .int i u] (getItem (.ref l) (.int i u))) :
    wpAny (model prog w) A (subscriptTail value slice (.ref l) (.int i u)) Q E s := by
  have hl : s.heap.IsList l vs.toArray := ⟨_, (N _ hm).1, rfl, n, rfl⟩
  have hlt : i.toNat < vs.length := by omega
  exact tail_any hl.typeIs slot_list_getitem.lookup (wpAny_getItem_list hl h0 hfit (x := vs[i.toNat]) (by simpa using hlt) (h _ (List.getElem_mem hlt))) hs
theorem pick_int {p : Int → Prop} (N : News h₀ L s.heap news) (hm : (l, listOf vs.toArray n) ∈ news) (hov : IntIn p vs) (h0 : 0 ≤ i) (h1 : i < (vs.length : Int)) (hfit : i < 2 ^ 63)
    (h : ∀ k t, p k → Q (.int k t) s)
    (hs : subscripted slice false (.ref l) (.int i u) = operate [.ref l, .int i u] (getItem (.ref l) (.int i u)) := by with_unfolding_all rfl) :
    wpAny (model prog w) A (subscriptTail value slice (.ref l) (.int i u)) Q E s :=
  pick_mem N hm h0 h1 hfit (fun v hv => let ⟨k, t, e, hp⟩ := hov.all v hv; e ▸ h k t hp) hs
theorem pick_str {p : Str → Prop} (N : News h₀ L s.heap news) (hm : (l, listOf vs.toArray n) ∈ news) (hov : StrIn p vs) (h0 : 0 ≤ i) (h1 : i < (vs.length : Int)) (hfit : i < 2 ^ 63)
    (h : ∀ x t, p x → Q (.str x t) s)
    (hs : subscripted slice false (.ref l) (.int i u) = operate [.ref l, .int i u] (getItem (.ref l) (.int i u)) := by with_unfolding_all rfl) :
    wpAny (model prog w) A (subscriptTail value slice (.ref l) (.int i u)) Q E s :=
  pick_mem N hm h0 h1 hfit (fun v hv => let ⟨k, t, e, hp⟩ := hov.all v hv; e ▸ h k t hp) hs
end

theorem codeH_call_law {prog : Program} {w : World} {A : Around} {R : Result → Shared → Prop} {s : Shared} {name : Str} {params : Arguments} {body : List Stmt} {scope : Scope}
    {dV kV pm cd doc : Value} {a : Addr} {o : Obj} {args : Args} {binds : List (Str × Value)}
    (hroom : A.depth < recursionLimit) (ho : s.heap.get? a = some o) (hdata : o.data = .func { docDef name params body scope pm cd doc with defaults := dV, kwdefaults := kV }) (hlim : s.heap.NoLimit) (hcd : s.heap.CodeRec cd name)
    (hbind : BindsTo s { docDef name params body scope pm cd doc with defaults := dV, kwdefaults := kV } args binds)
    (hloc : ∀ x ∈ binds, scope.names.lookup x.1 = some .local)
    (h : ∀ h₁, Fr s.heap s.heap.objs.size h₁ (fun x => binds.reverse.lookup x) →
      wpH (model prog w) (A.deeper (envOf name scope s.heap.objs.size a cd)) (execs body (envOf name scope s.heap.objs.size a cd))
        (fun f s' => R (.ok (.ret (match f with | .ret v => v | _ => .none))) s')
        (fun e s' => wpAny (model prog w) (A.deeper (envOf name scope s.heap.objs.size a cd)) (leaving (envOf name scope s.heap.objs.size a cd) e)
          (fun _ s'' => R (.error e) s'') (fun e' s'' => R (.error e') s'') s')
        { s with heap := h₁, toks := s.toks + binds.length })
    (hco : scope.isCoroutine = false := by rfl) (hgen : scope.isGenerator = false := by rfl) (hk : scope.kind = .function := by rfl)
    (hcell : ∀ x ∈ scope.names, x.2 ≠ .cell := by decide) :
    codeH (model prog w) A (.call (.ref a) args) R s :=
  codeH_call_def hroom ho hdata hlim hcd rfl hbind hcell hloc (fun h₁ hns hkeep => h h₁ ⟨hns, hkeep, Nat.le_refl _⟩) hco hgen hk

theorem enter_H {M : Model} {A : Around} {s : Shared} {f : Value} {pos : List Value} {kw : List (Str × Value)} {c : ClaimW} {cl : Str → Option Addr} {mean : ExcName → Option Value} {args : List WData} {s₁ : Shared}
    (h : codeH M A (.call f ⟨pos, kw⟩) (GoodW c cl mean args s₁) s) : wpH M A (PySem.call f pos kw) (fun v s' => GoodWG c cl mean args s₁ (.ok (.ret v)) s') (fun e s' => GoodWG c cl mean args s₁ (.error e) s') s :=
  wpH_call (codeH_mono h fun res s' g => by rcases g.1 with ⟨v, _, _, rfl, _⟩ | ⟨e, _, _, rfl, _⟩ <;> exact GoodW.toG g)
end Mine
end

section
open PySem PySem.W PyProof.Rows PySem.Calls
namespace Mine
set_option maxRecDepth 100000
set_option maxHeartbeats 8000000
local macro_rules | `(tactic| k_room) => `(tactic| ktr_room)
local macro_rules | `(tactic| k_units) => `(tactic| ktr_units)
local macro_rules | `(tactic| walk_at "wpAt") => `(tactic| (ks_step "exec Expr"; k_dflt (refine ks_wpAt_Expr_any ?_)))
local macro_rules | `(tactic| walk_at "wpAt") => `(tactic| (ks_step "eval Call"; k_dflt (refine ks_wpAt_MethodCall ?_)))
local macro_rules | `(tactic| walk_at "wpAt") => `(tactic| (dsimp only; walk_at "wpAt"))

theorem make_fixed {w : World} {mean : ExcName → Option Value} {mg mb : Str → Option Value}
    {dp un : Nat} {gd : Option (List Code)} {cn : Str} {cs : Scope} {a : Addr} {ccd : Value} {cl : List (Str × Addr)} {outer : List Env} {A₀ : Around} {base h₀ : Heap} {L : Addr} {m : Str → Option Value} {s : Shared} {Q E : Value → Shared → Prop}
    {fx : Int} {tf : Tok} {own : List (Addr × Obj)}
    (B : Below A₀ base outer h₀) (F : Fr h₀ L s.heap m) (X : (hd.heap_39 w.params).In h₀) (N0 : News h₀ L s.heap own) (T : Top hd.view_39 (looseW hd.view_39 [Str.ofString "BaseConverter", Str.ofString "NumberConverter", Str.ofString "IntegerConverter"]) mean mg mb h₀) (hk : cs.kind = .function)
    (hd1 : dp + 5 < recursionLimit) (hu1 : un + 30 < cLine)
    (hret : ∀ (x dx : Addr) (o : Obj) (h' : Heap) (tk' : Nat), ConvD w (.int fx tf) .none .none false o → Fr h₀ L h' m → News h₀ L h' ((x, instObj 121 dx) :: (dx, o) :: own) → (∀ p ∈ own, p.1 < dx) → dx < x → Q (.ref x) { s with heap := h', toks := tk' }) :
    wpAny (model PySem.Challenge.rw_bf0058_01.row.prog w) (ktrTop dp un gd cn cs L a ccd cl outer) (call (.ref 121) [.none] [(Str.ofString "fixed_digits", .int fx tf)]) Q E s := by
  revert X
  k_fill
  intro X
  k_dflt (refine' call_cls ?k1 ?k2 ?k3 ?k4 ?k5 ?k6 ?_; (case k1 => k_asm); (case k2 => k_asm); (case k3 => k_asm); (case k4 => k_is); (case k5 => k_is); (case k6 => k_is); intro x' d' h' F' N' l1 l2; (have q1 := l1); (have q2 := l2); (try k_lt l1); (try k_lt2 l2))
  k_dflt (refine' ks_code_super ?k1 ?k2 ?k3 ?k4 ?k5 ?kA ?kF ?kK ?k6 ?k7 ?k8 ?k9 ?kB ?_ ?c1 ?c2 ?c3 ?c4; (case kA => exact rfl); (case kF => exact rfl); (case kK => assumption); (case k1 => k_asm); (case k2 => k_asm); (case k3 => k_asm); (case k4 => k_asm); (case k5 => k_asm); (case k6 => k_is); (case k7 => k_is); (case k8 => ktr_room); (case k9 => first | exact binds_K (by k_in) rfl (by k_is) rfl rfl rfl | exact BindsTo.of_eq rfl); (case kB => exact locs rfl); (case c1 => decide); (case c2 => exact rfl); (case c3 => exact rfl); (case c4 => exact rfl); intro g' L' h' FG' F' N' B' X' T' l1; (try k_lt l1); (try dsimp only))
  all_goals k_steps
  refine' hret _ d' _ _ _ (ConvD.no _ _ _ _ _) (by k_asm) (cb_drop (by assumption) ?nMem) q1 q2
  (case nMem => kcj_all)
end Mine
end

section
open PySem PySem.W PyProof.Rows PySem.Calls
namespace Mine
set_option maxRecDepth 100000
set_option maxHeartbeats 8000000

theorem fix_getD {r : Int} (h0 : 0 ≤ r) (h1 : r < 5) : fixIn (([0, 0, 1, 3, 4] : List Int).getD r.toNat 0) := by
  have h : ∀ n : Nat, n < 5 → fixIn (([0, 0, 1, 3, 4] : List Int).getD n 0) := by unfold fixIn; decide
  exact h _ (by omega)
theorem num_getD {r : Int} (h0 : 0 ≤ r) (h1 : r < 7) : numIn (([0, 5, -5, 99, 120, -1234, 5001] : List Int).getD r.toNat 0) := by
  have h : ∀ n : Nat, n < 7 → numIn (([0, 5, -5, 99, 120, -1234, 5001] : List Int).getD n 0) := by unfold numIn; decide
  exact h _ (by omega)

/-- the frame at a turn's start: «state» known, the rest a letter -/
theorem turn_start {h₀ h : Heap} {L S : Addr} {k : Int} {tq : Tok} {x : Str} {stored : List Str} {u m0 : Str → Option Value}
    (F : Fr h₀ L h (fun y => if y = x then some (.int k tq) else if stored.contains y then u y else if y = Str.ofString "state" then some (.ref S) else m0 y))
    (hx : Str.ofString "state" ≠ x) (hs : stored.contains (Str.ofString "state") = false) :
    ∃ mT : Str → Option Value, Fr h₀ L h (fun y => if y = Str.ofString "state" then some (.ref S) else mT y) ∧ ∀ z, z ≠ x → stored.contains z = false → z ≠ Str.ofString "state" → mT z = m0 z := by
  refine ⟨_, F.known0 (n := Str.ofString "state") (w := .ref S) ?_, fun z h1 h2 h3 => ?_⟩
  · show (if _ then _ else _) = _
    rw [if_neg hx, hs]
    rfl
  · show (if _ then _ else _) = _
    rw [if_neg h1, h2, if_neg h3]
    rfl

/-- behind a statement: the ledger's two entries and the rest, a frame -/
def MidT (h₀ : Heap) (L S N : Addr) (vs : List Value) (n1 n2 : Nat) (a : Int) (rest : List (Addr × Obj)) (s₁ : Shared) (m : Str → Option Value) (s' : Shared) : Prop :=
  ∃ (t : Tok) (h : Heap) (tk : Nat), s' = { s₁ with heap := h, toks := tk } ∧ Fr h₀ L h m ∧ News h₀ L h ((S, listOf [.ref N, .int a t].toArray n1) :: (N, listOf vs.toArray n2) :: rest)
theorem MidT.intro {h₀ h : Heap} {L S N : Addr} {vs : List Value} {n1 n2 : Nat} {a : Int} {rest news : List (Addr × Obj)} {s₁ : Shared} {m : Str → Option Value} {t : Tok} {tk : Nat}
    (F : Fr h₀ L h m) (N0 : News h₀ L h news) (hn : ∀ p ∈ (S, listOf [.ref N, .int a t].toArray n1) :: (N, listOf vs.toArray n2) :: rest, p ∈ news) :
    MidT h₀ L S N vs n1 n2 a rest s₁ m { s₁ with heap := h, toks := tk } := ⟨t, h, tk, rfl, F, fun p hp => N0 p (hn p hp)⟩
def Post1 (h₀ : Heap) (L S N : Addr) (vs : List Value) (n1 n2 : Nat) (a : Int) (rest : List (Addr × Obj)) (s₁ : Shared) (mT : Str → Option Value) (f : Flow) (s' : Shared) : Prop :=
  f = .next ∧ ∃ (fx : Int) (tf : Tok) (sg : Bool), fixIn fx ∧ MidT h₀ L S N vs n1 n2 a rest s₁ (fun y => if y = Str.ofString "fixed" then some (.int fx tf) else if y = Str.ofString "signed" then some (.bool sg) else if y = Str.ofString "state" then some (.ref S) else mT y) s'
theorem Post1.intro {h₀ : Heap} {L S N : Addr} {vs : List Value} {n1 n2 : Nat} {a : Int} {rest : List (Addr × Obj)} {s₁ s' : Shared} {mT : Str → Option Value} {fx : Int} {tf : Tok} {sg : Bool} (hfx : fixIn fx)
   (h : MidT h₀ L S N vs n1 n2 a rest s₁ (fun y => if y = Str.ofString "fixed" then some (.int fx tf) else if y = Str.ofString "signed" then some (.bool sg) else if y = Str.ofString "state" then some (.ref S) else mT y) s') :
   Post1 h₀ L S N vs n1 n2 a rest s₁ mT .next s' := ⟨rfl, fx, tf, sg, hfx, h⟩

theorem cutF {prog : Program} {w : World} {A : Around} {t : Sem Flow} {Q : Flow → Shared → Prop} {E : Value → Shared → Prop} {s : Shared} {h₀ : Heap} {L : Addr} {m : Str → Option Value} (Post : (Str → Option Value) → Flow → Shared → Prop) (_F : Fr h₀ L s.heap m)
    (h1 : wpAny (model prog w) A t (Post m) E s) (h2 : ∀ f s', Post m f s' → Q f s') : wpAny (model prog w) A t Q E s := wpAny_mono h1 h2 fun _ _ x => x
/-- frames of the law's turn, as the walk stores them -/
def fr1 (S : Addr) (mT : Str → Option Value) (fx : Int) (tf : Tok) (sg : Bool) : Str → Option Value := fun y => if y = Str.ofString "fixed" then some (.int fx tf) else if y = Str.ofString "signed" then some (.bool sg) else if y = Str.ofString "state" then some (.ref S) else mT y
def fr2 (m : Str → Option Value) (vmin vmax : Value) : Str → Option Value := fun y => if y = Str.ofString "least" then some vmin else if y = Str.ofString "most" then some vmax else m y
def fr3 (m : Str → Option Value) (x : Addr) : Str → Option Value := fun y => if y = Str.ofString "converter" then some (.ref x) else m y
def Post2 (h₀ : Heap) (L S N : Addr) (vs : List Value) (n1 n2 : Nat) (a : Int) (rest : List (Addr × Obj)) (s₁ : Shared) (m : Str → Option Value) (f : Flow) (s' : Shared) : Prop :=
  f = .next ∧ ∃ (vmin vmax : Value) (omin omax : Option Int), OptV vmin omin ∧ OptV vmax omax ∧ MidT h₀ L S N vs n1 n2 a rest s₁ (fun y => if y = Str.ofString "least" then some vmin else if y = Str.ofString "most" then some vmax else m y) s'
theorem Post2.intro {h₀ : Heap} {L S N : Addr} {vs : List Value} {n1 n2 : Nat} {a : Int} {rest : List (Addr × Obj)} {s₁ s' : Shared} {m : Str → Option Value} {vmin vmax : Value} {omin omax : Option Int} (h1 : OptV vmin omin) (h2 : OptV vmax omax)
   (h : MidT h₀ L S N vs n1 n2 a rest s₁ (fun y => if y = Str.ofString "least" then some vmin else if y = Str.ofString "most" then some vmax else m y) s') :
   Post2 h₀ L S N vs n1 n2 a rest s₁ m .next s' := ⟨rfl, vmin, vmax, omin, omax, h1, h2, h⟩
def Post3 (w : World) (h₀ : Heap) (L S N : Addr) (vs : List Value) (n1 n2 : Nat) (a : Int) (own : List (Addr × Obj)) (s₁ : Shared) (m : Str → Option Value) (vfx vmin vmax : Value) (sg : Bool) (f : Flow) (s' : Shared) : Prop :=
  f = .next ∧ ∃ (x dx : Addr) (o : Obj), ConvD w vfx vmin vmax sg o ∧ (@LT.lt Nat _ S dx ∧ @LT.lt Nat _ N dx ∧ AllLt dx own) ∧ @LT.lt Nat _ dx x ∧ MidT h₀ L S N vs n1 n2 a ((x, instObj 121 dx) :: (dx, o) :: own) s₁ (fun y => if y = Str.ofString "converter" then some (.ref x) else m y) s'
theorem Post3.intro {w : World} {h₀ : Heap} {L S N : Addr} {vs : List Value} {n1 n2 : Nat} {a : Int} {own : List (Addr × Obj)} {s₁ s' : Shared} {m : Str → Option Value} {vfx vmin vmax : Value} {sg : Bool} {x dx : Addr} {o : Obj} (hC : ConvD w vfx vmin vmax sg o)
   (h1 : @LT.lt Nat _ S dx ∧ @LT.lt Nat _ N dx ∧ AllLt dx own) (h2 : @LT.lt Nat _ dx x) (h : MidT h₀ L S N vs n1 n2 a ((x, instObj 121 dx) :: (dx, o) :: own) s₁ (fun y => if y = Str.ofString "converter" then some (.ref x) else m y) s') :
   Post3 w h₀ L S N vs n1 n2 a own s₁ m vfx vmin vmax sg .next s' := ⟨rfl, x, dx, o, hC, h1, h2, h⟩
def Post4 (h₀ : Heap) (L S N : Addr) (vs : List Value) (n1 n2 : Nat) (a : Int) (rest : List (Addr × Obj)) (s₁ : Shared) (m : Str → Option Value) (f : Flow) (s' : Shared) : Prop :=
  f = .next ∧ MidT h₀ L S N vs n1 n2 a rest s₁ m s'
theorem Post4.intro {h₀ : Heap} {L S N : Addr} {vs : List Value} {n1 n2 : Nat} {a : Int} {rest : List (Addr × Obj)} {s₁ s' : Shared} {m : Str → Option Value}
   (h : MidT h₀ L S N vs n1 n2 a rest s₁ m s') : Post4 h₀ L S N vs n1 n2 a rest s₁ m .next s' := ⟨rfl, h⟩

theorem cutHF {M : Model} {A : Around} {t : Sem Flow} {Q : Flow → Shared → Prop} {E : Value → Shared → Prop} {s : Shared} {h₀ : Heap} {L : Addr} {m : Str → Option Value} (Post : (Str → Option Value) → Flow → Shared → Prop) (_F : Fr h₀ L s.heap m)
    (h1 : wpH M A t (Post m) E s) (h2 : ∀ f s', Post m f s' → Q f s') : wpH M A t Q E s := wpH_mono h1 h2 fun _ _ x => x

def stored2 : List Str := [Str.ofString "texts", Str.ofString "text", Str.ofString "number"]
/-- the frame at an inner turn's start -/
theorem turn_start2 {h₀ h : Heap} {L S cx : Addr} {k fx : Int} {tq tf : Tok} {sg : Bool} {vmin vmax : Value} {u mT : Str → Option Value}
    (F : Fr h₀ L h (fun y => if y = Str.ofString "k" then some (.int k tq) else if [Str.ofString "texts", Str.ofString "text", Str.ofString "number"].contains y then u y else
      if y = Str.ofString "converter" then some (.ref cx) else if y = Str.ofString "least" then some vmin else if y = Str.ofString "most" then some vmax else if y = Str.ofString "fixed" then some (.int fx tf) else if y = Str.ofString "signed" then some (.bool sg) else if y = Str.ofString "state" then some (.ref S) else mT y)) :
    ∃ mI : Str → Option Value, Fr h₀ L h (fun y => if y = Str.ofString "converter" then some (.ref cx) else if y = Str.ofString "least" then some vmin else if y = Str.ofString "most" then some vmax else if y = Str.ofString "fixed" then some (.int fx tf) else if y = Str.ofString "state" then some (.ref S) else mI y) ∧
      ∀ z, z ≠ Str.ofString "k" → [Str.ofString "texts", Str.ofString "text", Str.ofString "number"].contains z = false →
        (if z = Str.ofString "converter" then some (.ref cx) else if z = Str.ofString "least" then some vmin else if z = Str.ofString "most" then some vmax else if z = Str.ofString "fixed" then some (.int fx tf) else if z = Str.ofString "state" then some (.ref S) else mI z) =
        (if z = Str.ofString "converter" then some (.ref cx) else if z = Str.ofString "least" then some vmin else if z = Str.ofString "most" then some vmax else if z = Str.ofString "fixed" then some (.int fx tf) else if z = Str.ofString "signed" then some (.bool sg) else if z = Str.ofString "state" then some (.ref S) else mT z) := by
  let M : Str → Option Value := fun y => if y = Str.ofString "k" then some (.int k tq) else if [Str.ofString "texts", Str.ofString "text", Str.ofString "number"].contains y then u y else
      if y = Str.ofString "converter" then some (.ref cx) else if y = Str.ofString "least" then some vmin else if y = Str.ofString "most" then some vmax else if y = Str.ofString "fixed" then some (.int fx tf) else if y = Str.ofString "signed" then some (.bool sg) else if y = Str.ofString "state" then some (.ref S) else mT y
  have off : ∀ z, z ≠ Str.ofString "k" → [Str.ofString "texts", Str.ofString "text", Str.ofString "number"].contains z = false → M z =
        (if z = Str.ofString "converter" then some (.ref cx) else if z = Str.ofString "least" then some vmin else if z = Str.ofString "most" then some vmax else if z = Str.ofString "fixed" then some (.int fx tf) else if z = Str.ofString "signed" then some (.bool sg) else if z = Str.ofString "state" then some (.ref S) else mT z) := fun z h1 h2 => by
    show (if _ then _ else _) = _
    rw [if_neg h1, h2]
    rfl
  have e1 : M (Str.ofString "converter") = some (.ref cx) := by
    rw [off _ (by decide) (by decide)]; rfl
  have e2 : M (Str.ofString "least") = some vmin := by
    rw [off _ (by decide) (by decide), if_neg (by decide)]; rfl
  have e3 : M (Str.ofString "most") = some vmax := by
    rw [off _ (by decide) (by decide), if_neg (by decide), if_neg (by decide)]; rfl
  have e4 : M (Str.ofString "fixed") = some (.int fx tf) := by
    rw [off _ (by decide) (by decide), if_neg (by decide), if_neg (by decide), if_neg (by decide)]; rfl
  have e5 : M (Str.ofString "state") = some (.ref S) := by
    rw [off _ (by decide) (by decide), if_neg (by decide), if_neg (by decide), if_neg (by decide), if_neg (by decide), if_neg (by decide)]; rfl
  have e : ∀ z, M z = (if z = Str.ofString "converter" then some (.ref cx) else if z = Str.ofString "least" then some vmin else if z = Str.ofString "most" then some vmax else if z = Str.ofString "fixed" then some (.int fx tf) else if z = Str.ofString "state" then some (.ref S) else M z) := by
    intro z
    by_cases h1 : z = Str.ofString "converter"
    · rw [if_pos h1, h1, e1]
    · rw [if_neg h1]
      by_cases h2 : z = Str.ofString "least"
      · rw [if_pos h2, h2, e2]
      · rw [if_neg h2]
        by_cases h3 : z = Str.ofString "most"
        · rw [if_pos h3, h3, e3]
        · rw [if_neg h3]
          by_cases h4 : z = Str.ofString "fixed"
          · rw [if_pos h4, h4, e4]
          · rw [if_neg h4]
            by_cases h5 : z = Str.ofString "state"
            · rw [if_pos h5, h5, e5]
            · rw [if_neg h5]
  exact ⟨M, Mine.Fr.of_fun F e, fun z h1 h2 => (e z).symm.trans (off z h1 h2)⟩

theorem EndT.of {h₀ h : Heap} {L S N : Addr} {vs : List Value} {n1 n2 : Nat} {rest : List (Addr × Obj)} {a' : Int} {own news' : List (Addr × Obj)} {x : Str} {stored : List Str} {m₀ m' : Str → Option Value} {s₁ : Shared} {tk : Nat} {t' : Tok}
    (F : Fr h₀ L h m') (hm : ∀ z, z ≠ x → stored.contains z = false → m' z = m₀ z) (N0 : News h₀ L h news') (h1 : ∀ p ∈ ledS S N vs n1 n2 rest (a', t'), p ∈ news') (h2 : ∀ p ∈ own, p ∈ news') :
    EndT h₀ L S N vs n1 n2 rest a' own x stored m₀ s₁ .next { s₁ with heap := h, toks := tk } := ⟨rfl, h, tk, m', t', news', rfl, F, hm, N0, h1, h2⟩

/-- the outer turn's end: what was stored is stored -/
theorem outer_off {S cx : Addr} {fx : Int} {tf : Tok} {sg : Bool} {vmin vmax : Value} {u m0 mT : Str → Option Value}
    (hmT : ∀ z, z ≠ Str.ofString "turn" → [Str.ofString "fixed", Str.ofString "signed", Str.ofString "least", Str.ofString "most", Str.ofString "converter", Str.ofString "k", Str.ofString "texts", Str.ofString "text", Str.ofString "number"].contains z = false → z ≠ Str.ofString "state" → mT z = m0 z) :
    ∀ z, z ≠ Str.ofString "turn" → [Str.ofString "fixed", Str.ofString "signed", Str.ofString "least", Str.ofString "most", Str.ofString "converter", Str.ofString "k", Str.ofString "texts", Str.ofString "text", Str.ofString "number"].contains z = false →
      (if z = Str.ofString "k" then u z else if [Str.ofString "texts", Str.ofString "text", Str.ofString "number"].contains z then u z else
        if z = Str.ofString "converter" then some (.ref cx) else if z = Str.ofString "least" then some vmin else if z = Str.ofString "most" then some vmax else if z = Str.ofString "fixed" then some (.int fx tf) else if z = Str.ofString "signed" then some (.bool sg) else if z = Str.ofString "state" then some (.ref S) else mT z) =
      (if z = Str.ofString "state" then some (.ref S) else m0 z) := by
  intro z h1 h2
  have nm : ∀ x ∈ [Str.ofString "fixed", Str.ofString "signed", Str.ofString "least", Str.ofString "most", Str.ofString "converter", Str.ofString "k", Str.ofString "texts", Str.ofString "text", Str.ofString "number"], z ≠ x := by
    intro x hx e
    rw [e, List.contains_iff_mem.mpr hx] at h2
    cases h2
  have c2 : [Str.ofString "texts", Str.ofString "text", Str.ofString "number"].contains z = false := by
    cases q : [Str.ofString "texts", Str.ofString "text", Str.ofString "number"].contains z with
    | false => rfl
    | true =>
      have hz := List.contains_iff_mem.mp q
      exact absurd rfl (nm z (by
        simp only [List.mem_cons, List.not_mem_nil, or_false] at hz ⊢
        rcases hz with h | h | h <;> simp [h]))
  rw [if_neg (nm _ (by simp)), c2]
  simp only [Bool.false_eq_true, if_false]
  rw [if_neg (nm _ (by simp)), if_neg (nm _ (by simp)), if_neg (nm _ (by simp)), if_neg (nm _ (by simp)), if_neg (nm _ (by simp))]
  by_cases h3 : z = Str.ofString "state"
  · rw [if_pos h3, if_pos h3]
  · rw [if_neg h3, if_neg h3]
    exact hmT z h1 h2 h3

section
variable {w : World} {mean : ExcName → Option Value} {mg mb : Str → Option Value}
    {dp un : Nat} {gd : Option (List Code)} {cn : Str} {cs : Scope} {a : Addr} {ccd : Value} {cl : List (Str × Addr)} {outer : List Env} {A₀ : Around} {base h₀ : Heap} {L : Addr} {m : Str → Option Value} {s : Shared} {Q E : Value → Shared → Prop}
    {fx : Int} {tf : Tok} {vmin vmax : Value} {omin omax : Option Int} {news : List (Addr × Obj)} {text : Str} {tt : Tok}
theorem read_of_no
    (B : Below A₀ base outer h₀) (F : Fr h₀ L s.heap m) (X : (hd.heap_39 w.params).In h₀) (N0 : News h₀ L s.heap news) (T : Top hd.view_39 (looseW hd.view_39 [Str.ofString "BaseConverter", Str.ofString "NumberConverter", Str.ofString "IntegerConverter"]) mean mg mb h₀) (hk : cs.kind = .function)
    (hmin : OptV vmin omin) (hmax : OptV vmax omax) (hlaw : lawB text = true) (hf : 0 ≤ fx) (hans : answer text fx omin omax = none)
    (hd1 : dp + 5 < recursionLimit) (hu1 : un + 30 < cLine)
    (hno : ∀ (t : Tok) (h' : Heap) (tk' : Nat), Fr h₀ L h' m → News h₀ L h' news → Q (.str (Str.ofString "refused") t) { s with heap := h', toks := tk' }) :
    wpAny (model PySem.Challenge.rw_bf0058_01.row.prog w) (ktrTop dp un gd cn cs L a ccd cl outer) (call (.ref 140) [.str text tt, .int fx tf, vmin, vmax] []) Q E s :=
  read_claim B F X N0 T hk hmin hmax (lawB_int hlaw).2.1 hd1 hu1 (fun _ => hno) fun hb h1 h2 => by
    rw [read_yes hlaw hf hb h1 h2] at hans
    cases hans
theorem read_of_yes {k : Int}
    (B : Below A₀ base outer h₀) (F : Fr h₀ L s.heap m) (X : (hd.heap_39 w.params).In h₀) (N0 : News h₀ L s.heap news) (T : Top hd.view_39 (looseW hd.view_39 [Str.ofString "BaseConverter", Str.ofString "NumberConverter", Str.ofString "IntegerConverter"]) mean mg mb h₀) (hk : cs.kind = .function)
    (hmin : OptV vmin omin) (hmax : OptV vmax omax) (hlaw : lawB text = true) (hf : 0 ≤ fx) (hans : answer text fx omin omax = some k)
    (hd1 : dp + 5 < recursionLimit) (hu1 : un + 30 < cLine)
    (hyes : ∀ (l : Addr) (t : Tok) (h' : Heap) (tk' : Nat), Fr h₀ L h' m → News h₀ L h' ((l, listOf [.int k t].toArray 0) :: news) → (∀ p ∈ news, p.1 < l) → Q (.ref l) { s with heap := h', toks := tk' }) :
    wpAny (model PySem.Challenge.rw_bf0058_01.row.prog w) (ktrTop dp un gd cn cs L a ccd cl outer) (call (.ref 140) [.str text tt, .int fx tf, vmin, vmax] []) Q E s :=
  read_claim B F X N0 T hk hmin hmax (lawB_int hlaw).2.1 hd1 hu1
    (fun hb => by
      rw [read_no hlaw hf hb] at hans
      cases hans)
    fun hb h1 h2 => by
      rw [read_yes hlaw hf hb h1 h2] at hans
      cases hans
      exact hyes
theorem written_url {n : Int} {tn : Tok}
    (hw : urlF n fx = writtenF n fx) (B : Below A₀ base outer h₀) (F : Fr h₀ L s.heap m) (X : (hd.heap_39 w.params).In h₀) (N0 : News h₀ L s.heap news) (T : Top hd.view_39 (looseW hd.view_39 [Str.ofString "BaseConverter", Str.ofString "NumberConverter", Str.ofString "IntegerConverter"]) mean mg mb h₀) (hk : cs.kind = .function)
    (hd1 : dp + 5 < recursionLimit) (hu1 : un + 30 < cLine)
    (hf0 : 0 ≤ fx) (hf1 : fx ≤ 4) (hn0 : -10000 ≤ n) (hn1 : n ≤ 10000)
    (hret : ∀ (t : Tok) (h' : Heap) (tk' : Nat), Fr h₀ L h' m → News h₀ L h' news → Q (.str (urlF n fx) t) { s with heap := h', toks := tk' }) :
    wpAny (model PySem.Challenge.rw_bf0058_01.row.prog w) (ktrTop dp un gd cn cs L a ccd cl outer) (call (.ref 147) [.int n tn, .int fx tf] []) Q E s :=
  written_claim (vmin := .none) (vmax := .none) (sg := false) (x := 0) (dx := 0) (o := default) B F X N0 T hk hd1 hu1 hf0 hf1 hn0 hn1 (hw ▸ hret)
end
theorem text_lawB {x : Str} (h : strIn x) : lawB x = true := List.all_eq_true.mp texts_law x h
theorem num_lawB {n fx : Int} (h : n ∈ theNums) (hf : fixIn fx) : lawB (urlF n fx) = true ∧ urlF n fx = writtenF n fx := by
  have h1 := List.all_eq_true.mp (List.all_eq_true.mp nums_law n h) fx hf
  rw [Bool.and_eq_true, decide_eq_true_eq] at h1
  exact h1
theorem num_small {n : Int} (h : n ∈ theNums) : -10000 ≤ n ∧ n ≤ 10000 := by
  have q : theNums.all (fun n => decide (-10000 ≤ n ∧ n ≤ 10000)) = true := by decide +kernel
  simpa using List.all_eq_true.mp q n h

def PostA (h₀ : Heap) (L S N : Addr) (vs : List Value) (n1 n2 : Nat) (a : Int) (rest : List (Addr × Obj)) (s₁ : Shared) (m : Str → Option Value) (f : Flow) (s' : Shared) : Prop :=
  f = .next ∧ ∃ (text : Str) (tt : Tok), strIn text ∧ MidT h₀ L S N vs n1 n2 a rest s₁ (fun y => if y = Str.ofString "text" then some (.str text tt) else m y) s'
theorem PostA.intro {h₀ : Heap} {L S N : Addr} {vs : List Value} {n1 n2 : Nat} {a : Int} {rest : List (Addr × Obj)} {s₁ s' : Shared} {m : Str → Option Value} {text : Str} {tt : Tok} (h1 : strIn text)
   (h : MidT h₀ L S N vs n1 n2 a rest s₁ (fun y => if y = Str.ofString "text" then some (.str text tt) else m y) s') :
   PostA h₀ L S N vs n1 n2 a rest s₁ m .next s' := ⟨rfl, text, tt, h1, h⟩
def PostB (h₀ : Heap) (L S N : Addr) (vs : List Value) (n1 n2 : Nat) (a : Int) (rest : List (Addr × Obj)) (s₁ : Shared) (m : Str → Option Value) (f : Flow) (s' : Shared) : Prop :=
  f = .next ∧ ∃ (n : Int) (tn : Tok), n ∈ theNums ∧ MidT h₀ L S N vs n1 n2 a rest s₁ (fun y => if y = Str.ofString "number" then some (.int n tn) else m y) s'
theorem PostB.intro {h₀ : Heap} {L S N : Addr} {vs : List Value} {n1 n2 : Nat} {a : Int} {rest : List (Addr × Obj)} {s₁ s' : Shared} {m : Str → Option Value} {n : Int} {tn : Tok} (h1 : n ∈ theNums)
   (h : MidT h₀ L S N vs n1 n2 a rest s₁ (fun y => if y = Str.ofString "number" then some (.int n tn) else m y) s') :
   PostB h₀ L S N vs n1 n2 a rest s₁ m .next s' := ⟨rfl, n, tn, h1, h⟩

def PostC (h₀ : Heap) (L S N : Addr) (vs : List Value) (n1 n2 : Nat) (a : Int) (rest : List (Addr × Obj)) (s₁ : Shared) (text : Str) (m : Str → Option Value) (f : Flow) (s' : Shared) : Prop :=
  f = .next ∧ ∃ (tt : Tok), MidT h₀ L S N vs n1 n2 a rest s₁ (fun y => if y = Str.ofString "text" then some (.str text tt) else m y) s'
theorem PostC.intro {h₀ : Heap} {L S N : Addr} {vs : List Value} {n1 n2 : Nat} {a : Int} {rest : List (Addr × Obj)} {s₁ s' : Shared} {m : Str → Option Value} {text : Str} {tt : Tok}
   (h : MidT h₀ L S N vs n1 n2 a rest s₁ (fun y => if y = Str.ofString "text" then some (.str text tt) else m y) s') :
   PostC h₀ L S N vs n1 n2 a rest s₁ text m .next s' := ⟨rfl, tt, h⟩
/-- the inner turn's end: what was stored is stored -/
theorem inner_off {l : Addr} {n : Int} {tn t1 t2 : Tok} {x1 x2 : Str} {g m2 : Str → Option Value}
    (hg : ∀ z, z ≠ Str.ofString "k" → [Str.ofString "texts", Str.ofString "text", Str.ofString "number"].contains z = false → g z = m2 z) :
    ∀ z, z ≠ Str.ofString "k" → [Str.ofString "texts", Str.ofString "text", Str.ofString "number"].contains z = false →
      (if z = Str.ofString "text" then some (.str x1 t1) else if z = Str.ofString "number" then some (.int n tn) else if z = Str.ofString "text" then some (.str x2 t2) else if z = Str.ofString "texts" then some (.ref l) else g z) = m2 z := by
  intro z h1 h2
  have nm : ∀ x ∈ [Str.ofString "texts", Str.ofString "text", Str.ofString "number"], z ≠ x := by
    intro x hx e
    rw [e, List.contains_iff_mem.mpr hx] at h2
    cases h2
  rw [if_neg (nm _ (by simp)), if_neg (nm _ (by simp)), if_neg (nm _ (by simp)), if_neg (nm _ (by simp))]
  exact hg z h1 h2
theorem ne_self_str {x : Str} (h : (x != x) = true) : False := by simp at h
end Mine
end

section
open PySem PySem.W PyProof.Rows PySem.Calls
namespace Mine
set_option maxRecDepth 100000
set_option maxHeartbeats 8000000
local macro_rules | `(tactic| walk_at "pyIter ref") => `(tactic| (
  (with_reducible show wpAny _ _ (pyIter (Value.ref _)) (fun it s₂ => codeH _ _ (.forLoop _ it _ _ _) _ s₂) _ _); refine Hold.out (n := 21) ?_))
local macro_rules | `(tactic| walk_at "call ref") => `(tactic| (
  (with_reducible show wpAny _ _ (call (Value.ref 130) _ _) _ _ _);
  k_dflt (
    refine' next_upd ?k1 ?k2 ?k3 ?k4 ?k5 ?kK ?kU ?kN ?ki ?ks ?kl ?km ?ka ?kb ?kc ?kd ?ke ?kf ?_;
    (case k1 => k_asm); (case k2 => k_asm); (case k3 => k_asm); (case k4 => k_asm); (case k5 => k_asm); (case kK => first | exact rfl | assumption);
    (case kU => intro t'; k_upd); (case kN => k_mem); (case ki => l_ints); (case ks => k_ne); (case kl => assumption); (case km => assumption); (case ka => omega); (case kb => omega); (case kc => decide); (case kd => decide); (case ke => ktr_room); (case kf => ktr_units);
    intro r t1 t2 h' tk' hr0 hr1 F' N'; (try dsimp only); (try k_fold))))
local macro_rules | `(tactic| walk_at "subscriptTail") => `(tactic| (
  k_here; (with_reducible show wpAny _ _ (subscriptTail _ _ (Value.ref _) (Value.int _ _)) _ _ _);
  k_dflt (
    refine' pick_optv ?pN ?pm ?po ?pa ?pb ?pc ?_; (case pN => k_asm); (case pm => k_mem); (case po => repeat' (first | exact OptVs.nil | refine' OptVs.none ?_ | refine' OptVs.int ?_)); (case pa => omega); (case pb => (simp only [List.length_cons, List.length_nil]; omega)); (case pc => omega);
    intro v o hv)))
local macro_rules | `(tactic| walk_at "subscriptTail") => `(tactic| (
  k_here; (with_reducible show wpAny _ _ (subscriptTail _ _ (Value.ref _) (Value.int _ _)) _ _ _);
  k_dflt (
    refine' pick_str (p := strIn) ?pN ?pm ?po ?pa ?pb ?pc ?_; (case pN => k_asm); (case pm => k_mem); (case po => repeat' (first | exact StrIn.nil | refine' StrIn.cons (by unfold strIn; decide +kernel) ?_)); (case pa => omega); (case pb => (simp only [List.length_cons, List.length_nil]; omega)); (case pc => omega);
    intro xt tx hxt)))
local macro_rules | `(tactic| walk_at "call ref") => `(tactic| (
  (with_reducible show wpAny _ _ (call (Value.ref 121) _ _) _ _ _);
  k_dflt (
    refine' make_fixed ?k1 ?k2 ?k3 ?k4 ?k5 ?kK ?ke ?kf ?_;
    (case k1 => k_asm); (case k2 => k_asm); (case k3 => k_asm); (case k4 => k_asm); (case k5 => k_asm); (case kK => first | exact rfl | assumption); (case ke => ktr_room); (case kf => ktr_units);
    intro cx cdx co h' tk' hC F' N' l1 l2; (try k_lt l1); (try k_lt2 l2); (try dsimp only); (try k_fold))))
local macro_rules | `(tactic| walk_at "getMethod ref") => `(tactic| (
  k_here; (with_reducible show wpAny _ _ (PySem.getMethod (Value.ref _) (PySem.Str.ofString "to_url") _) _ _ _);
  k_dflt (refine' conv_tourl ?k1 ?k2 ?k3 ?k4 ?k5 ?k6 ?_; (case k1 => k_asm); (case k2 => k_asm); (case k3 => k_asm); (case k4 => k_mem); (case k5 => k_mem); (case k6 => assumption))))
local macro_rules | `(tactic| walk_at "call ref") => `(tactic| (
  (with_reducible show wpAny _ _ (call (Value.ref 98) _ _) _ _ _);
  k_dflt (
    refine' url_claim ?k1 ?k2 ?k3 ?k4 ?k5 ?kK ?ke ?kf ?kx ?ky ?kC ?kg ?kh ?ki ?kj ?_;
    (case k1 => k_asm); (case k2 => k_asm); (case k3 => k_asm); (case k4 => k_asm); (case k5 => k_asm); (case kK => first | exact rfl | assumption); (case ke => ktr_room); (case kf => ktr_units);
    (case kC => assumption); (case kx => k_mem); (case ky => k_mem); (case kg => omega); (case kh => omega); (case ki => omega); (case kj => omega);
    intro tu h' tk' F' N'; (try dsimp only); (try k_fold))))
local macro_rules | `(tactic| walk_at "call ref") => `(tactic| (
  (with_reducible show wpAny _ _ (call (Value.ref 121) _ _) _ _ _);
  k_dflt (
    refine' make_claim ?k1 ?k2 ?k3 ?k4 ?k5 ?kK ?km ?kn ?ke ?kf ?_;
    (case k1 => k_asm); (case k2 => k_asm); (case k3 => k_asm); (case k4 => k_asm); (case k5 => k_asm); (case kK => first | exact rfl | assumption); (case km => assumption); (case kn => assumption); (case ke => ktr_room); (case kf => ktr_units);
    intro cx cdx co h' tk' hC F' N' l1 l2; (try k_lt l1); (try dsimp only); (try k_fold))))
local macro_rules | `(tactic| walk_at "getAttr ref") => `(tactic| (
  k_here; (with_reducible show wpAny _ _ (PySem.getAttr (Value.ref _) (PySem.Str.ofString "regex") _) _ _ _);
  k_dflt (
    refine' conv_regex ?k1 ?k2 ?k3 ?k4 ?k5 ?k6 ?_; (case k1 => k_asm); (case k2 => k_asm); (case k3 => k_asm); (case k4 => k_mem); (case k5 => k_mem); (case k6 => assumption); intro tr; (try dsimp only [rgx]))))
local macro_rules | `(tactic| walk_at "call ref") => `(tactic| (
  (with_reducible show wpAny _ _ (call (Value.ref 140) _ _) _ _ _);
  k_dflt (
    refine' read_of_no ?k1 ?k2 ?k3 ?k4 ?k5 ?kK ?km ?kn ?kl ?ko ?ka ?ke ?kf ?_;
    (case k1 => k_asm); (case k2 => k_asm); (case k3 => k_asm); (case k4 => k_asm); (case k5 => k_asm); (case kK => first | exact rfl | assumption); (case km => assumption); (case kn => assumption); (case kl => assumption); (case ko => omega); (case ka => assumption); (case ke => ktr_room); (case kf => ktr_units);
    intro tR h' tk' F' N'; (try dsimp only); (try k_fold))))
local macro_rules | `(tactic| walk_at "call ref") => `(tactic| (
  (with_reducible show wpAny _ _ (call (Value.ref 140) _ _) _ _ _);
  k_dflt (
    refine' read_of_yes ?k1 ?k2 ?k3 ?k4 ?k5 ?kK ?km ?kn ?kl ?ko ?ka ?ke ?kf ?_;
    (case k1 => k_asm); (case k2 => k_asm); (case k3 => k_asm); (case k4 => k_asm); (case k5 => k_asm); (case kK => first | exact rfl | assumption); (case km => assumption); (case kn => assumption); (case kl => assumption); (case ko => omega); (case ka => assumption); (case ke => ktr_room); (case kf => ktr_units);
    intro lR tR h' tk' F' N' l1; (try k_lt l1); (try dsimp only); (try k_fold))))
local macro_rules | `(tactic| walk_at "call ref") => `(tactic| (
  (with_reducible show wpAny _ _ (call (Value.ref 147) _ _) _ _ _);
  k_dflt (
    refine' written_url ?kw ?k1 ?k2 ?k3 ?k4 ?k5 ?kK ?ke ?kf ?kg ?kh ?ki ?kj ?_;
    (case k1 => k_asm); (case k2 => k_asm); (case k3 => k_asm); (case k4 => k_asm); (case k5 => k_asm); (case kK => first | exact rfl | assumption); (case ke => ktr_room); (case kf => ktr_units);
    (case kw => assumption); (case kg => omega); (case kh => omega); (case ki => omega); (case kj => omega);
    intro tu h' tk' F' N'; (try dsimp only); (try k_fold))))
local macro_rules | `(tactic| walk_at "my told") => `(tactic| (
  (with_reducible show wpH _ _ (call (Value.ref 154) _ _) _ _ _);
  k_dflt (
    refine' told_any ?k1 ?k2 ?k3 ?k4 ?k5 ?kK ?kx ?ky ?km ?kn ?kC ?kl ?kr ?ke ?kf ?_ ?_;
    (case k1 => k_asm); (case k2 => k_asm); (case k3 => k_asm); (case k4 => k_asm); (case k5 => k_asm); (case kK => first | exact rfl | assumption); (case kx => k_mem); (case ky => k_mem); (case kC => assumption); (case km => assumption); (case kn => assumption); (case kl => assumption); (case kr => assumption); (case ke => ktr_room); (case kf => ktr_units))))
theorem st1_end {h₀ h : Heap} {L S N : Addr} {vs : List Value} {ns : List Int} {n1 n2 : Nat} {t : Tok} {m0 : Str → Option Value} {news : List (Addr × Obj)} {s₁ : Shared} {tk : Nat}
    (F : Fr h₀ L h (fun y => if y = Str.ofString "state" then some (.ref S) else m0 y)) (N0 : News h₀ L h news) (hi : IntsAre vs ns) (h0 : 0 < ns.length) (h1 : ns.length ≤ 27)
    (hS : (S, listOf [.ref N, .int 0 t].toArray n1) ∈ news) (hN : (N, listOf vs.toArray n2) ∈ news) (hne : N ≠ S) :
    Hold 1 (Flow.next = .next ∧ ∃ (S N : Addr) (vs : List Value) (ns : List Int) (n1 n2 : Nat) (t : Tok) (h2 : Heap) (tk2 : Nat) (m0 : Str → Option Value), { s₁ with heap := h, toks := tk } = { s₁ with heap := h2, toks := tk2 } ∧
     Fr h₀ L h2 (fun y => if y = Str.ofString "state" then some (.ref S) else m0 y) ∧ News h₀ L h2 (ledS S N vs n1 n2 [] (0, t)) ∧ IntsAre vs ns ∧ 0 < ns.length ∧ ns.length ≤ 27 ∧ N ≠ S) := by
  refine Hold.in ⟨rfl, S, N, vs, ns, n1, n2, t, h, tk, m0, rfl, F, fun p hp => N0 p ?_, hi, h0, h1, hne⟩
  rcases List.mem_cons.mp hp with rfl | hp
  · exact hS
  · rcases List.mem_cons.mp hp with rfl | hp
    · exact hN
    · cases hp
theorem law_holds : PySem.Challenge.rw_bf0058_01.Holds := hd (by w_strict (
  k_fill;
  intro w s₀ s₁ mg mb G Y fa o pm cd doc dV kV ho hd hcd hD hmg hg args vals as hpre hlay hrd hwl hlo;
  have KX := kIn_of Y;
  have X := (Ground.X G).1;
  have V := (Ground.X G).2;
  refine Ground.open G ?_;
  intro T B D TE TW;
  (try (refine guard_noD D (by decide +kernel) ?_; clear D));
  clear hmg;
  wrow_args hpre hlay hrd hwl hlo;
  refine enter_H ?_;
  w_top on;
  have K0 := below_caller (Top.heap T);
  have he := Dflts.none hD rfl; subst he;
  refine codeH_call_law (by decide) ho hd (Top.nolimit T) hcd (BindsTo.of_eq rfl) (locs rfl) fun h₁ F => ?_;
  w_binds F;
  have N0 := (News.nil : News _ _ _ []).at F;
  clear hd;
  k_drop;
  (try k_fold);
  refine wpH_execs_cons ?_;
  refine wpH_of ?_;
  refine wpAny_mono (Q := fun f s' => Hold 1 (f = .next ∧ ∃ (S N : Addr) (vs : List Value) (ns : List Int) (n1 n2 : Nat) (t : Tok) (h2 : Heap) (tk2 : Nat) (m0 : Str → Option Value), s' = { s₁ with heap := h2, toks := tk2 } ∧
     Fr s₁.heap s₁.heap.objs.size h2 (fun y => if y = Str.ofString "state" then some (.ref S) else m0 y) ∧ News s₁.heap s₁.heap.objs.size h2 (ledS S N vs n1 n2 [] (0, t)) ∧ IntsAre vs ns ∧ 0 < ns.length ∧ ns.length ≤ 27 ∧ N ≠ S)) ?st0 (fun f s' hs => ?_) (fun _ _ x => x);
  (case st0 => (
    k_steps;
    (rename IntsAre _ (_ ++ _) => iX);
    (obtain ⟨ns, hns, hns0, hns1⟩ := some_ints iX (by simp; omega));
    k_dflt (refine' st1_end ?qF ?qN hns hns0 hns1 ?qS ?qM ?qn; (case qF => assumption); (case qN => assumption); (case qS => k_mem); (case qM => k_mem); (case qn => k_ne))));
  clear F N0;
  (obtain ⟨rfl, S, N, lvs, ns, n1, n2, t, h2, tk2, m0, rfl, F, N0, hns, hns0, hns1, hNS⟩ := hs);
  dsimp only;
  refine wpH_execs_cons ?_;
  refine wpH_For ?_;
  k_steps;
  refine Hold.in ?_;
  (rename Fr _ _ _ _ => lF'); (rename News _ _ _ _ => lN'); (rename IsRange _ _ _ _ _ _ _ _ => rgX);
  (with_unfolding_all refine' iter3_H (N := N) (vs := lvs) (n1 := n1) (n2 := n2) (rest := []) (a := 0) 13 [Str.ofString "fixed", Str.ofString "signed", Str.ofString "least", Str.ofString "most", Str.ofString "converter", Str.ofString "k", Str.ofString "texts", Str.ofString "text", Str.ofString "number"] (by rfl) (by rfl) (by rfl) rgX lF' lN' ?lpA ?lpB);
  (all_goals clear lF' lN' rgX); (all_goals (try clear F)); (all_goals (try clear N0));
  (case lpB => (intro t' u h tk F' N'; (have hMk := kstMark); dsimp only; refine wpH_execs_cons ?_; refine wpH_of ?_; k_steps; done));
  (intro i t' k tq u h tk own hi hoff F' N'; (try simp only [List.map_nil] at hoff); (try dsimp only [List.nil_append] at N'));
  replace F' : Fr s₁.heap s₁.heap.objs.size h _ := F';
  replace N' : News s₁.heap s₁.heap.objs.size h _ := N';
  (obtain ⟨mT, FT, hmT⟩ := turn_start F' (by decide) (by decide); clear F');
  (try k_fold);
  refine wpH_execs_cons ?_;
  refine wpH_of ?_;
  refine wpAny_mono (Q := Post1 s₁.heap s₁.heap.objs.size S N lvs n1 n2 (0 + 13 * (i : Int) + 1 + 1) own s₁ mT) ?st1 (fun f s' hs => ?_) (fun _ _ x => x);
  (case st1 => (
    k_steps;
    k_dflt (refine' Post1.intro (fix_getD ?q0 ?q1) (MidT.intro ?qF ?qN ?qM); (case qF => assumption); (case q0 => assumption); (case q1 => assumption); (case qN => assumption); (case qM => kcj_all))));
  clear FT N';
  (obtain ⟨rfl, fx, tf, sg, hfx, t'', h3, tk3, rfl, FT, N'⟩ := hs);
  (try dsimp only at FT);
  dsimp only;
  refine wpH_execs_cons ?_;
  refine wpH_of ?_;
  refine cutF (Post2 s₁.heap s₁.heap.objs.size S N lvs n1 n2 (0 + 13 * (i : Int) + 1 + 1 + 1 + 1) own s₁) FT ?st2 (fun f s' hs => ?_);
  (case st2 => (
    k_steps;
    k_dflt (refine' Post2.intro ?q0 ?q1 (MidT.intro ?qF ?qN ?qM); (case qF => assumption); (case q0 => assumption); (case q1 => assumption); (case qN => assumption); (case qM => kcj_all))));
  clear FT N';
  (obtain ⟨rfl, vmin, vmax, omin, omax, hmin, hmax, t4, h4, tk4, rfl, FT, N'⟩ := hs);
  (try dsimp only at FT);
  dsimp only;
  refine wpH_execs_cons ?_;
  refine wpH_of ?_;
  refine cutF (fun m => Post3 w s₁.heap s₁.heap.objs.size S N lvs n1 n2 (0 + 13 * (i : Int) + 1 + 1 + 1 + 1) own s₁ m (.int fx tf) vmin vmax sg) FT ?st3 (fun f s' hs => ?_);
  (case st3 => (
    k_steps;
    k_dflt (refine' Post3.intro ?q0 ?q1 ?q2 (MidT.intro ?qF ?qN ?qM); (case qF => assumption); (case q0 => assumption); (case q1 => assumption); (case q2 => assumption); (case qN => assumption); (case qM => kcj_all))));
  clear FT N';
  (obtain ⟨rfl, cx, cdx, co, hC, hlt1, hlt2, t5, h5, tk5, rfl, FT, N'⟩ := hs);
  (try dsimp only at FT);
  dsimp only;
  refine wpH_execs_cons ?_;
  refine wpH_of ?_;
  refine cutF (Post4 s₁.heap s₁.heap.objs.size S N lvs n1 n2 (0 + 13 * (i : Int) + 1 + 1 + 1 + 1) ((cx, instObj 121 cdx) :: (cdx, co) :: own) s₁) FT ?st4 (fun f s' hs => ?_);
  (case st4 => (
    cases sg;
    all_goals k_steps;
    all_goals k_dflt (refine' Post4.intro (MidT.intro ?qF ?qN ?qM); (case qF => assumption); (case qN => assumption); (case qM => kcj_all))));
  clear FT N';
  (obtain ⟨rfl, t6, h6, tk6, rfl, FT, N'⟩ := hs);
  (try dsimp only at FT);
  dsimp only;
  refine wpH_execs_cons ?_;
  refine wpH_For ?_;
  k_steps;
  refine Hold.in ?_;
  (rename Fr _ _ _ _ => lF'); (rename News _ _ _ _ => lN'); (rename IsRange _ _ _ _ _ _ _ _ => rgX);
  (with_unfolding_all refine' iter3_H (N := N) (vs := lvs) (n1 := n1) (n2 := n2) (rest := (cx, instObj 121 cdx) :: (cdx, co) :: own) (a := 0 + 13 * (i : Int) + 1 + 1 + 1 + 1) 3 [Str.ofString "texts", Str.ofString "text", Str.ofString "number"] (by rfl) (by rfl) (by rfl) rgX lF' lN' ?lqA ?lqB);
  (all_goals clear lF' lN' rgX); (all_goals (try clear FT)); (all_goals (try clear N'));
  (case lqB => (
    intro t9 u9 h9 tk9 F9 N9; dsimp only;
    refine wpH_of (wpAny_execs_nil ?_);
    have ea : 0 + 13 * ((i + 1 : Nat) : Int) = 0 + 13 * (i : Int) + 1 + 1 + 1 + 1 + 3 * 3 := (by omega);
    rw [ea];
    refine EndT.of (t' := t9) F9 (outer_off hmT) N9 ?_ ?_;
    (intro p hp; rcases List.mem_cons.mp hp with rfl | hp; exact .head _; rcases List.mem_cons.mp hp with rfl | hp; exact .tail _ (.head _); cases hp);
    (intro p hp; exact .tail _ (.tail _ (.tail _ (.tail _ hp))))));
  (intro j t' k2 tq2 u2 h tk own2 hj hoff2 F' N');
  replace F' : Fr s₁.heap s₁.heap.objs.size h _ := F';
  replace N' : News s₁.heap s₁.heap.objs.size h _ := N';
  (obtain ⟨mI, FT, hmI⟩ := turn_start2 F'; clear F');
  (obtain ⟨ownA, hoA⟩ : ∃ l, l = own ++ own2 := ⟨_, rfl⟩);
  dsimp only [List.cons_append] at N';
  rw [← hoA] at N';
  have hoffA : OwnOff ownA [S, N] := (by
    rw [hoA];
    intro p hp b hb;
    rcases List.mem_append.mp hp with hp | hp;
    · exact hoff p hp b hb
    · exact hoff2 p hp b (by
        rcases List.mem_cons.mp hb with rfl | hb
        · exact .head _
        · rw [List.mem_singleton.mp hb]; exact .tail _ (.head _)));
  have hfl := hfx.le;
  (try k_fold);
  refine wpH_execs_cons ?_;
  refine wpH_of ?_;
  k_steps;
  (rename Fr _ _ _ _ => FQ); (rename News _ _ _ _ => NQ);
  refine wpH_execs_cons ?_;
  refine wpH_of ?_;
  refine cutF (PostA s₁.heap s₁.heap.objs.size S N lvs n1 n2 (0 + 13 * (i : Int) + 1 + 1 + 1 + 1 + 3 * (j : Int) + 1) ((cx, instObj 121 cdx) :: (cdx, co) :: ownA) s₁) FQ ?stA (fun f s' hs => ?_);
  (case stA => (
    k_steps;
    k_dflt (refine' PostA.intro ?q0 (MidT.intro ?qF ?qN ?qM); (case qF => assumption); (case q0 => assumption); (case qN => assumption); (case qM => kcj_all))));
  clear FQ NQ; (try clear FT); (try clear N');
  (obtain ⟨rfl, text, tt, htx, tA, hA, tkA, rfl, FT, N'⟩ := hs);
  (try dsimp only at FT);
  dsimp only;
  have hlaw := text_lawB htx;
  have hlen := (lawB_int hlaw).2.1;
  have hrep := (lawB_int hlaw).2.2;
  refine wpH_execs_cons ?_;
  refine cutHF (Post4 s₁.heap s₁.heap.objs.size S N lvs n1 n2 (0 + 13 * (i : Int) + 1 + 1 + 1 + 1 + 3 * (j : Int) + 1) ((cx, instObj 121 cdx) :: (cdx, co) :: ownA) s₁) FT ?stB (fun f s' hs => ?_);
  (case stB => (
    refine wpH_If ?_;
    refine wpH_isTrue_Compare1 ?_;
    refine wpH_Call ?_;
    k_steps;
    refine' wpH_callWith_K KX ?keepY ?_; (case keepY => k_is);
    k_steps;
    walk_at "my told";
    (focus (intro hans tR h' tk' F' N''; replace hans : answer text fx omin omax = none := hans; (try dsimp only); (try k_fold); k_steps; refine wpH_of (wpAny_execs_nil ?_); k_dflt (refine' Post4.intro (MidT.intro ?qF ?qN ?qM); (case qF => assumption); (case qN => assumption); (case qM => kcj_all))));
    (focus (intro kk lR tR h' tk' hans F' N'' l1; replace hans : answer text fx omin omax = some kk := hans; (try k_lt l1); (try dsimp only); (try k_fold); k_steps; refine wpH_of (wpAny_execs_nil ?_); k_dflt (refine' Post4.intro (MidT.intro ?qF ?qN ?qM); (case qF => assumption); (case qN => assumption); (case qM => kcj_all))))));
  clear FT N';
  (obtain ⟨rfl, tB, hB, tkB, rfl, FT, N'⟩ := hs);
  (try dsimp only at FT);
  dsimp only;
  refine wpH_execs_cons ?_;
  refine wpH_of ?_;
  refine cutF (PostB s₁.heap s₁.heap.objs.size S N lvs n1 n2 (0 + 13 * (i : Int) + 1 + 1 + 1 + 1 + 3 * (j : Int) + 1 + 1 + 1) ((cx, instObj 121 cdx) :: (cdx, co) :: ownA) s₁) FT ?stC (fun f s' hs => ?_);
  (case stC => (
    k_steps;
    k_dflt (refine' PostB.intro ?q0 (MidT.intro ?qF ?qN ?qM); (case qF => assumption); (case q0 => exact numIn.add (num_getD (by assumption) (by assumption)) (by assumption) (by assumption)); (case qN => assumption); (case qM => kcj_all))));
  clear FT N';
  (obtain ⟨rfl, n, tn, hn, tC, hhC, tkC, rfl, FT, N'⟩ := hs);
  (try dsimp only at FT);
  dsimp only;
  have hsm := num_small hn;
  (obtain ⟨hlaw2, hw⟩ := num_lawB hn hfx);
  refine wpH_execs_cons ?_;
  refine wpH_of ?_;
  refine cutF (PostC s₁.heap s₁.heap.objs.size S N lvs n1 n2 (0 + 13 * (i : Int) + 1 + 1 + 1 + 1 + 3 * (j : Int) + 1 + 1 + 1) ((cx, instObj 121 cdx) :: (cdx, co) :: ownA) s₁ (urlF n fx)) FT ?stD (fun f s' hs => ?_);
  (case stD => (
    k_steps;
    k_dflt (refine' PostC.intro (MidT.intro ?qF ?qN ?qM); (case qF => assumption); (case qN => assumption); (case qM => kcj_all))));
  clear FT N';
  (obtain ⟨rfl, tu, tD, hD4, tkD, rfl, FT, N'⟩ := hs);
  (try dsimp only at FT);
  dsimp only;
  have hlen2 := (lawB_int hlaw2).2.1;
  have hrep2 := (lawB_int hlaw2).2.2;
  refine wpH_execs_cons ?_;
  refine cutHF (Post4 s₁.heap s₁.heap.objs.size S N lvs n1 n2 (0 + 13 * (i : Int) + 1 + 1 + 1 + 1 + 3 * (j : Int) + 1 + 1 + 1) ((cx, instObj 121 cdx) :: (cdx, co) :: ownA) s₁) FT ?stE (fun f s' hs => ?_);
  (case stE => (
    refine wpH_If ?_;
    refine wpH_isTrue_or ?_;
    refine wpH_of ?_;
    k_steps;
    (focus (exfalso; exact ne_self_str (by assumption)));
    refine wpH_isTrue_or ?_;
    refine wpH_isTrue_Compare1 ?_;
    refine wpH_Call ?_;
    k_steps;
    refine' wpH_callWith_K KX ?keepZ ?_; (case keepZ => k_is);
    k_steps;
    walk_at "my told";
    (focus (intro hans tR h' tk' F' N''; replace hans : answer (urlF n fx) fx omin omax = none := hans; (try dsimp only); (try k_fold); k_steps; refine wpH_pure ?_; refine wpH_of (wpAny_execs_nil ?_); k_dflt (refine' Post4.intro (MidT.intro ?qF ?qN ?qM); (case qF => assumption); (case qN => assumption); (case qM => kcj_all))));
    (focus (intro kk lR tR h' tk' hans F' N'' l1; replace hans : answer (urlF n fx) fx omin omax = some kk := hans; (try k_lt l1); (try dsimp only); (try k_fold); k_steps; refine wpH_pure ?_; refine wpH_of (wpAny_execs_nil ?_); k_dflt (refine' Post4.intro (MidT.intro ?qF ?qN ?qM); (case qF => assumption); (case qN => assumption); (case qM => kcj_all))))));
  clear FT N';
  (obtain ⟨rfl, tE, hE, tkE, rfl, FT, N'⟩ := hs);
  (try dsimp only at FT);
  dsimp only;
  refine wpH_of (wpAny_execs_nil ?_);
  have ea : 0 + 13 * (i : Int) + 1 + 1 + 1 + 1 + 3 * ((j + 1 : Nat) : Int) = 0 + 13 * (i : Int) + 1 + 1 + 1 + 1 + 3 * (j : Int) + 1 + 1 + 1 := (by omega);
  rw [ea];
  refine EndT.of (t' := tE) FT (inner_off hmI) N' ?_ ?_;
  (intro p hp; rcases List.mem_cons.mp hp with rfl | hp; exact .head _; rcases List.mem_cons.mp hp with rfl | hp; exact .tail _ (.head _); rcases List.mem_cons.mp hp with rfl | hp; exact .tail _ (.tail _ (.head _)); rcases List.mem_cons.mp hp with rfl | hp; exact .tail _ (.tail _ (.tail _ (.head _))); exact .tail _ (.tail _ (.tail _ (.tail _ (hoA ▸ List.mem_append.mpr (.inl hp))))));
  (intro p hp; exact .tail _ (.tail _ (.tail _ (.tail _ (hoA ▸ List.mem_append.mpr (.inr hp))))))))
end Mine
end

theorem PySem.Challenge.cw_bf0058_01_holds : PySem.Challenge.rw_bf0058_01.Holds :=
  Mine.law_holds
