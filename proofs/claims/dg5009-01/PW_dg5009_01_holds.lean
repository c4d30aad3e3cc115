import PyProof.Rows.All
import Wide.All
import OpenK.AllK
import Wide.FinOn
import PySem.Challenge.RW_dg5009_01
set_option Elab.async false

section
open PySem PySem.W PyProof.Rows
set_option maxRecDepth 100000
namespace Mine
open Sem (wp)

/-! the logic: as wpAny, but only at contexts whose stack bears the claim's caller -/
def CalledB (Γ : Ctx) : Prop := Γ.below.any (fun x => x.1.isCaller) = true
def Called (Γ : Ctx) : Prop := Γ.code.isCaller = true ∨ CalledB Γ

theorem calledB_enter {Γ : Ctx} (h : Called Γ) (c : Code) (hd : Option Value) (p : Pos) : CalledB (Γ.enter c hd p) := by
  unfold CalledB Ctx.enter
  rw [List.any_cons]
  rcases h with h | h
  · rw [h]; rfl
  · rw [show Γ.below.any (fun x => x.1.isCaller) = true from h]; exact Bool.or_true _

def wpC {α : Type} (M : Model) (A : Around) (t : Sem α) (Q : α → Shared → Prop) (E : Value → Shared → Prop) (s : Shared) : Prop :=
  ∀ Γ p, Γ.In A → Called Γ → wp M Γ t (fun a _ s' => Q a s') (fun e _ s' => E e s') p s

def codeC (M : Model) (A : Around) (c : Code) (R : Result → Shared → Prop) (s : Shared) : Prop :=
  ∀ Γ p, Γ.code = c → Γ.Below A → CalledB Γ → wpCode M Γ R p s

section
variable {α β : Type} {M : Model} {A : Around} {E : Value → Shared → Prop} {s : Shared}

theorem wpC_of {t : Sem α} {Q : α → Shared → Prop} (h : wpAny M A t Q E s) : wpC M A t Q E s := fun Γ p hΓ _ => h Γ p hΓ
theorem codeC_of {c : Code} {R : Result → Shared → Prop} (h : codeAny M A c R s) : codeC M A c R s := fun Γ p hc hΓ _ => h Γ p hc hΓ
theorem wpC_pure {a : α} {Q : α → Shared → Prop} (h : Q a s) : wpC M A (pure a) Q E s := fun _ _ _ _ => h
theorem wpC_mono {t : Sem α} {Q Q' : α → Shared → Prop} {E' : Value → Shared → Prop} (h : wpC M A t Q E s)
    (hQ : ∀ a s, Q a s → Q' a s) (hE : ∀ e s, E e s → E' e s) : wpC M A t Q' E' s :=
  fun Γ p hΓ hC => Sem.wp_mono M Γ t (fun a _ s => hQ a s) (fun e _ s => hE e s) p s (h Γ p hΓ hC)
theorem wpC_monoQ {t : Sem α} {Q Q' : α → Shared → Prop} (h : wpC M A t Q E s) (hQ : ∀ a s, Q a s → Q' a s) : wpC M A t Q' E s := wpC_mono h hQ fun _ _ x => x
theorem wpC_bind {m : Sem α} {f : α → Sem β} {Q : β → Shared → Prop} (h : wpC M A m (fun a s' => wpC M A (f a) Q E s') E s) :
    wpC M A (m >>= f) Q E s := fun Γ p hΓ hC => by
  rw [Sem.wp_bind']
  exact Sem.wp_mono M Γ m (fun a p' s' h' => h' Γ p' hΓ hC) (fun _ _ _ h' => h') p s (h Γ p hΓ hC)
theorem wpC_bindL {m : Sem α} {f : α → Sem β} {Q : β → Shared → Prop} (h : wpAny M A m (fun a s' => wpC M A (f a) Q E s') E s) :
    wpC M A (m >>= f) Q E s := wpC_bind (wpC_of h)
theorem wpC_onRaise {m : Sem α} {k : Value → Sem Unit} {Q : α → Shared → Prop}
    (h : wpC M A m Q (fun e s' => wpC M A (k e) (fun _ s'' => E e s'') E s') s) : wpC M A (m.onRaise k) Q E s := fun Γ p hΓ hC => by
  rw [Sem.wp_onRaise]
  exact Sem.wp_mono M Γ m (fun _ _ _ h' => h') (fun e p' s' h' => h' Γ p' hΓ hC) p s (h Γ p hΓ hC)
theorem wpC_attempt {m : Sem α} {Q : Except Value α → Shared → Prop} (h : wpC M A m (fun a => Q (.ok a)) (fun e => Q (.error e)) s) :
    wpC M A m.attempt Q E s := fun Γ p hΓ hC => by rw [Sem.wp_attempt]; exact h Γ p hΓ hC
theorem wpC_holding {vs : List Value} {m : Sem α} {Q : α → Shared → Prop} (h : wpC M A m Q E s) : wpC M A (holding vs m) Q E s :=
  fun Γ p hΓ hC => by rw [Sem.wp_holding]; exact h Γ p hΓ hC
theorem wpC_keep {vs : List Value} {m : Sem α} {Q : α → Shared → Prop} (h : wpC M A m Q E s) : wpC M A (m.keep vs) Q E s :=
  fun Γ p hΓ hC => by rw [Sem.wp_keep]; exact h Γ p hΓ hC
theorem wpC_standAt {pos : Pos} {Q : Unit → Shared → Prop} (h : Q () s) : wpC M A (standAt pos) Q E s := fun _ _ _ _ => h
theorem wpC_point {Q : Unit → Shared → Prop} (h : Q () s) : wpC M A point Q E s := fun _ _ _ _ => h
theorem wpC_of_eq {t : Sem α} {a : α} {Q : α → Shared → Prop} (e : t = pure a) (h : Q a s) : wpC M A t Q E s := by rw [e]; exact wpC_pure h
theorem wpC_of_in1 {t : Sem α} {Q : α → Shared → Prop} (h : wpC M A.in1 t Q E s) : wpC M A t Q E s :=
  fun Γ p hΓ => h Γ p ⟨hΓ.1, hΓ.2.1, hΓ.2.2.1, hΓ.2.2.2.1, Nat.le_succ_of_le hΓ.2.2.2.2⟩

theorem codeC_mono {c : Code} {R R' : Result → Shared → Prop} (h : codeC M A c R s) (hR : ∀ r s, R r s → R' r s) : codeC M A c R' s :=
  fun Γ p hc hΓ hC => wpCode_mono hR (h Γ p hc hΓ hC)
theorem wpC_run {c : Code} {h : Option Value} {Q : Flow → Shared → Prop}
    (hc : codeC M (A.mark h) c (fun r s' => match r with | .ok f => Q f s' | .error e => E e s') s) (hnb : h ≠ some byPass := by intro x; cases x) :
    wpC M A (run c h) Q E s :=
  fun Γ p hΓ hC => by rw [Sem.wp_run]; exact hc _ p rfl (hΓ.enter c h p hnb) (calledB_enter hC c h p)
theorem wpC_runValue {c : Code} {Q : Value → Shared → Prop}
    (hc : codeC M A c (fun r s' => match r with | .ok (.ret v) => Q v s' | .ok _ => False | .error e => E e s') s) :
    wpC M A (runValue c) Q E s := fun Γ p hΓ hC => by
  rw [Sem.wp_runValue]; exact hc _ p rfl (hΓ.enter c none p (by intro x; cases x)) (calledB_enter hC c none p)
theorem wpC_call {f : Value} {pos : List Value} {kw : List (Str × Value)} {Q : Value → Shared → Prop}
    (hc : codeC M A (.call f ⟨pos, kw⟩) (fun r s' => match r with | .ok (.ret v) => Q v s' | .ok _ => False | .error e => E e s') s) :
    wpC M A (call f pos kw) Q E s := wpC_runValue hc
theorem wpC_runOwn {env : Env} {c : Code} {h : Option Value} {Q : Flow → Shared → Prop}
    (hc : codeC M (A.mark h) c (fun r s' => match r with | .ok f => Q f s' | .error e => cameBackBy M A env E e s') s) (hnb : h ≠ some byPass := by intro x; cases x) :
    wpC M A (runOwn c env h) Q E s := by
  unfold runOwn
  exact wpC_onRaise (wpC_mono (wpC_run hc hnb) (fun _ _ x => x) fun _ _ x => wpC_of x)

theorem codeC_of_tree {c : Code} {R : Result → Shared → Prop}
    (h : wpC M (A.under c) (M.den c) (fun fin s' => match fin with | .done f => R (.ok f) s' | .again c' => c'.quiet = true ∧ codeC M A c' R s')
      (fun e s' => R (.error e) s') s) : codeC M A c R s := fun Γ p hc hΓ hC => by
  rw [wpCode_iff_wp, hc]
  refine Sem.wp_mono M Γ _ (fun fin p' s' h' => ?_) (fun _ _ _ h' => h') p s (h Γ p (hc ▸ hΓ.in) (.inr hC))
  cases fin with
  | done f => exact h'
  | again c' => exact ⟨h'.1, h'.2 (Γ.goto c') p' rfl (hΓ.goto c') hC⟩

theorem codeC_loop {c : Code} {R : Result → Shared → Prop} (hq : c.quiet = true) (I : Nat → Shared → Prop)
    (turn : ∀ n s, I n s → wpC M (A.under c) (M.den c)
      (fun fin s' => match fin with
        | .done f => R (.ok f) s'
        | .again c' => (c' = c ∧ ∃ m, m < n ∧ I m s') ∨ (c'.quiet = true ∧ codeC M A c' R s')) (fun e s' => R (.error e) s') s)
    (n : Nat) (h : I n s) : codeC M A c R s := by
  induction n using Nat.strongRecOn generalizing s with
  | ind n ih =>
    refine codeC_of_tree (wpC_mono (turn n s h) (fun fin s' hf => ?_) fun _ _ h' => h')
    cases fin with
    | done f => exact hf
    | again c' =>
      rcases hf with ⟨rfl, m, hm, hI⟩ | hf
      · exact ⟨hq, ih m hm hI⟩
      · exact hf
end

/-! the statements and expressions that may lie above a refusing int() -/
section
variable {M : Model} {A : Around} {E : Value → Shared → Prop} {s : Shared} {env : Env}

theorem wpC_execs_cons {st : Stmt} {rest : List Stmt} {Q : Flow → Shared → Prop}
    (h : wpC M A (exec st env) (fun f s' => match f with | .next => wpC M A (execs rest env) Q E s' | f => Q f s') E s) :
    wpC M A (execs (st :: rest) env) Q E s := fun Γ p hΓ hC => by
  rw [execs_cons, Sem.wp_bind']
  refine Sem.wp_mono M Γ _ (fun f p' s' h' => ?_) (fun _ _ _ h' => h') _ _ (h Γ p hΓ hC)
  cases f <;> first | exact h' Γ p' hΓ hC | exact h'

theorem wpC_bindName {x : Str} {v : Value} {Q : Unit → Shared → Prop} (h : wpC M A (storeName env x v) Q E s) : wpC M A (bindName env x v) Q E s :=
  fun Γ p hΓ hC => by rw [Sem.wp_bindName]; exact h Γ p hΓ hC

theorem wpC_Assign_Name {x : Str} {pos' : Pos} {value : PySem.Expr} {pos : Pos} {Q : Flow → Shared → Prop}
    (h : wpC M A (eval value env) (fun v s₁ => wpC M A (storeName env x v) (fun _ => Q .next) E s₁) E s)
    (hs : swapsWith value (some (.Name x pos')) pos.line env = pure false := by rfl) :
    wpC M A (exec (.Assign [.Name x pos'] value pos) env) Q E s := fun Γ p hΓ hC => by
  simp only [exec_Assign_Name env x pos' value pos hs, Sem.wp_bind', Sem.wp_cmd_standAt, Sem.wp_bindName, Sem.wp_pure']
  exact Sem.wp_mono M Γ _ (fun v _ s₁ h₁ => h₁ Γ _ hΓ hC) (fun _ _ _ h' => h') _ _ (h Γ _ hΓ hC)

theorem wpC_boolOp_cons {pos : Pos} {op : BoolOp} {x y : Sem Value} {rest : List (Sem Value)} {Q : Value → Shared → Prop}
    (h : wpC M A x (fun v s₁ => wpAny M A (truthy v) (fun t s₂ => match op, t with
      | .And, false | .Or, true => Q v s₂
      | _, _ => wpC M A (boolOp pos op (y :: rest)) Q E s₂) E s₁) E s) :
    wpC M A (boolOp pos op (x :: y :: rest)) Q E s := by
  rw [boolOp]
  · refine wpC_bind (wpC_monoQ h fun v s₁ h₁ => wpC_bind (wpC_standAt (wpC_bind (wpC_holding (wpC_monoQ (wpC_of h₁) fun t s₂ h₂ => ?_)))))
    cases op <;> cases t <;> first | exact h₂ | exact wpC_pure h₂
  · intro x; cases x
theorem wpC_boolOp_one {pos : Pos} {op : BoolOp} {x : Sem Value} {Q : Value → Shared → Prop} (h : wpC M A x Q E s) : wpC M A (boolOp pos op [x]) Q E s := by
  rw [boolOp]; exact h

theorem wpC_tryStmt_except {body orelse : Sem Flow} {h₀ : ExceptHandler} {hs : List ExceptHandler} {Q : Flow → Shared → Prop}
    (h : wpC M A body (fun f s₁ => match f with | .next => wpC M A orelse Q E s₁ | f => Q f s₁)
      (fun e s₁ => wpAny M A (noteFrame e env) (fun _ s₂ => wpAny M A (setFlight e none) (fun _ s₃ => wpAny M A (handleBy e env (h₀ :: hs)) Q E s₃) E s₂) E s₁) s) :
    wpC M A (tryStmt false body (h₀ :: hs) orelse [] env) Q E s := by
  unfold tryStmt
  simp only [List.isEmpty_nil, if_true, List.isEmpty_cons, Bool.false_and, Bool.false_eq_true, if_false]
  refine wpC_bind (wpC_attempt (wpC_mono h (fun f s₁ h₁ => ?_) fun e s₁ h₁ => ?_))
  · cases f <;> first | exact h₁ | exact wpC_pure h₁
  · exact wpC_of (wpAny_bind (wpAny_mono h₁ (fun _ _ h₂ => wpAny_bind h₂) fun _ _ x => x))

theorem wpC_Try_except {body orelse : List Stmt} {h₀ : ExceptHandler} {hs : List ExceptHandler} {pos : Pos} {Q : Flow → Shared → Prop}
    (h : wpC M A (execs body env) (fun f s₁ => match f with | .next => wpC M A (execs orelse env) Q E s₁ | f => Q f s₁)
      (fun e s₁ => wpAny M A (noteFrame e env) (fun _ s₂ => wpAny M A (setFlight e none) (fun _ s₃ => wpAny M A (handleBy e env (h₀ :: hs)) Q E s₃) E s₂) E s₁) s) :
    wpC M A (exec (.Try body (h₀ :: hs) orelse [] pos) env) Q E s := by
  rw [arm_exec_Try]
  exact wpC_bind (wpC_standAt (wpC_tryStmt_except h))

theorem wpC_evalAll_cons {x : Sem Value} {rest : List (Sem Value)} {Q : List Value → Shared → Prop}
    (h : wpC M A x (fun v s₁ => wpC M A (evalAll rest) (fun vs s₂ => Q (v :: vs) s₂) E s₁) E s) : wpC M A (evalAll (x :: rest)) Q E s := by
  rw [evalAll]
  exact wpC_bind (wpC_monoQ h fun v s₁ h₁ => wpC_bind (wpC_holding (wpC_monoQ h₁ fun vs s₂ h₂ => wpC_pure h₂)))
theorem wpC_evalAll_nil {Q : List Value → Shared → Prop} (h : Q [] s) : wpC M A (evalAll []) Q E s := wpC_pure h

theorem wpC_spliced_nil {Q : List Value → Shared → Prop} (h : Q [] s) : wpC M A (spliced []) Q E s := wpC_pure h
theorem wpC_spliced_cons {x : Sem Value} {rest : List (Bool × Sem Value)} {Q : List Value → Shared → Prop}
    (h : wpC M A x (fun v s₁ => wpC M A (spliced rest) (fun vs s₂ => Q (v :: vs) s₂) E s₁) E s) : wpC M A (spliced ((false, x) :: rest)) Q E s := by
  rw [spliced]
  refine wpC_bind (wpC_monoQ h fun v s₁ h₁ => ?_)
  simp only [Bool.false_eq_true, if_false]
  exact wpC_bind (wpC_pure (wpC_bind (wpC_holding (wpC_monoQ h₁ fun vs s₂ h₂ => wpC_pure h₂))))

theorem wpC_evalArgs_plain {f : Value} {x : Sem Value} {rest : List (Bool × Sem Value)} {Q : Args → Shared → Prop}
    (h : wpC M A (spliced ((false, x) :: rest)) (fun vs s' => Q ⟨vs, []⟩ s') E s) : wpC M A (evalArgs f true ((false, x) :: rest) []) Q E s := by
  unfold evalArgs
  show wpC M A (spliced ((false, x) :: rest) >>= _) Q E s
  refine wpC_bind (wpC_monoQ h fun vs s' h' => ?_)
  refine wpC_holding ?_
  exact wpC_bind (wpC_pure (wpC_bind (wpC_pure (wpC_pure h'))))

theorem wpC_evalArgs_kw_nil {f : Value} {keywords : List (Option Str × Sem Value)} {Q : Args → Shared → Prop} (hall : keywords.all (·.1.isSome) = true)
    (h : wpC M A (evalAll (keywords.map (·.2))) (fun ks s₂ => Q ⟨[], (keywords.filterMap (·.1)).zip ks⟩ s₂) E s) : wpC M A (evalArgs f true [] keywords) Q E s := by
  unfold evalArgs
  show wpC M A (spliced [] >>= _) Q E s
  refine wpC_bind (wpC_spliced_nil ?_)
  refine wpC_bind (wpC_pure ?_)
  refine wpC_holding ?_
  simp only [hall, if_true]
  refine wpC_bind (wpC_monoQ h fun ks s₂ h₂ => ?_)
  exact wpC_bind (wpC_pure (wpC_pure h₂))

theorem wpC_callWith_of {pos : Pos} {f : Value} {first : List Value} {P : Heap → Prop} {args : List (Bool × Sem Value)} {keywords : List (Option Str × Sem Value)} {Q : Value → Shared → Prop}
    (hplain : (args.any (·.1) || keywords.any (·.1.isNone)) = false)
    (hk : ∀ h, P h → ∃ k, (k = Keeper.frame ∨ k = Keeper.machine ∨ k = Keeper.boundFrame) ∧ Looks M h (keeperOf f) k)
    (h : wpC M A (evalArgs f true args keywords) (fun a s₁ => P s₁.heap ∧ wpC M A (call f (first ++ a.pos) a.kw) Q E s₁) E s) : wpC M A (callWith pos f first args keywords) Q E s := by
  unfold callWith
  refine wpC_bind (wpC_holding (wpC_monoQ h fun a s₁ h₁ => wpC_bind (wpC_standAt ?_)))
  obtain ⟨k, hk', L⟩ := hk _ h₁.1
  simp only [hplain]
  refine wpC_bindL (L.here ?_)
  have tail : ∀ {t : Sem Value}, wpC M A t Q E s₁ → wpC M A (t >>= fun r => holding [r] point >>= fun _ => pure r) Q E s₁ :=
    fun ht => wpC_bind (wpC_monoQ ht fun r s₂ hr => wpC_bind (wpC_holding (wpC_point (wpC_pure hr))))
  have marked (mk : Value) : wpC M A (callMarked mk f (first ++ a.pos) a.kw) Q E s₁ := by unfold callMarked; exact wpC_keep h₁.2
  rcases hk' with rfl | rfl | rfl <;> dsimp only <;> first | exact tail h₁.2 | (split <;> first | exact tail h₁.2 | exact tail (marked _))

theorem wpC_Call_Name {id : Str} {p pos : Pos} {args : List PySem.Expr} {keywords : List Keyword} {Q : Value → Shared → Prop}
    (h : wpC M A (eval (.Name id p) env) (fun f s₁ => wpC M A (callWith pos f [] (backTo pos (starEach args env)) (backToKw pos (keywordEach keywords env))) Q E s₁) E s) :
    wpC M A (eval (.Call (.Name id p) args keywords pos) env) Q E s := by
  rw [arm_eval_Call_Name']
  exact wpC_bind h

theorem wpC_backTo {t : Sem Value} {pos : Pos} {Q : Value → Shared → Prop} (h : wpC M A t Q E s) : wpC M A (do let v ← t; standAt pos; pure v) Q E s :=
  wpC_bind (wpC_monoQ h fun _ _ q => wpC_bind (wpC_standAt (wpC_pure q)))
end
end Mine
end

section
open PySem PySem.W PyProof.Rows
set_option maxRecDepth 100000
namespace Mine
open Sem (wp)
open PySem.Calls
section
variable {prog : Program} {w : World} {A : Around} {R : Result → Shared → Prop} {s : Shared}

theorem codeC_func {body : List Stmt} {env : Env}
    (h : wpC (model prog w) (A.deeper env) (execs body env) (fun f s' => R (.ok (.ret (match f with | .ret v => v | _ => .none))) s')
      (fun e s' => wpAny (model prog w) (A.deeper env) (leaving env e) (fun _ s'' => R (.error e) s'') (fun e' s'' => R (.error e') s'') s') s) :
    codeC (model prog w) A (.func body env) R s := by
  refine codeC_of_tree ?_
  show wpC _ (A.deeper env) (do point; match ← (execs body env).onRaise (leaving env) with | .ret v => ret v | _ => ret .none) _ _ s
  refine wpC_bind (wpC_point (wpC_bind (wpC_onRaise (wpC_mono h (fun f s' h' => ?_) fun _ _ h' => wpC_of h'))))
  cases f <;> exact wpC_pure h'

theorem codeC_call_function {a : Addr} {args : Args} {o : Obj} {fd : FuncData} {body : List Stmt} (hroom : A.depth < recursionLimit)
    (ho : s.heap.get? a = some o)
    (hd' : o.data = .func fd) (hco : fd.scope.isCoroutine = false) (hgen : fd.scope.isGenerator = false) (hbody : fd.body = .stmts body) (hcd : s.heap.CodeRec fd.code fd.qualname)
    (h : wpAny (model prog w) A.in1 (bindArgs fd args) (fun binds s₁ =>
      wpAny (model prog w) A.in1 (newFunctionEnv fd.scope fd.globals fd.closure binds (fd.qualname ++ ".<locals>.") (some a) fd.code none fd.builtins)
        (fun env s₂ => s₂.heap.NoLimit ∧ codeC (model prog w) A (.func body env) R s₂) (fun e s' => R (.error e) s') s₁) (fun e s' => R (.error e) s') s) :
    codeC (model prog w) A (.call (.ref a) args) R s := by
  refine codeC_of_tree (wpC_of ?_)
  show wpAny _ A.in1 (callAny (.ref a) args) _ _ s
  simp only [callAny]
  refine wpAny_bind (wpAny_load ho ?_)
  obtain ⟨c, oc, vs, tq, hc, hoc, hdc, hq⟩ := hcd
  simp only [hd', callFunction, hco, hgen, hbody, hc]
  rw [hc] at h
  refine wpAny_bind (m := field (.ref c) 1) (wpAny_field hoc hdc hq (wpAny_bind (wpAny_pure ?_)))
  exact wpAny_bind (wpAny_mono h (fun binds s₁ h₁ => wpAny_bind (wpAny_mono h₁ (fun env s₂ h₂ => wpAny_bind (wpAny_enterFrame h₂.1 hroom
    (wpAny_pure (And.intro rfl h₂.2)))) fun _ _ h' => h')) fun _ _ h' => h')

theorem codeC_call_def {a : Addr} {o : Obj} {fd : FuncData} {body : List Stmt} {args : Args} {binds : List (Str × Value)}
    (hroom : A.depth < recursionLimit) (ho : s.heap.get? a = some o) (hdata : o.data = .func fd) (hlim : s.heap.NoLimit) (hcd : s.heap.CodeRec fd.code fd.qualname)
    (hbody : fd.body = .stmts body) (hbind : BindsTo s fd args binds)
    (hcell : ∀ x ∈ fd.scope.names, x.2 ≠ .cell) (hloc : ∀ x ∈ binds, fd.scope.names.lookup x.1 = some .local)
    (h : ∀ h₀, h₀.Ns s.heap.objs.size (fun x => binds.reverse.lookup x) → (∀ b o, s.heap.get? b = some o → h₀.get? b = some o) →
      wpC (model prog w) (A.deeper (callEnv fd s.heap.objs.size a)) (execs body (callEnv fd s.heap.objs.size a)) (fun f s' => R (.ok (.ret (match f with | .ret v => v | _ => .none))) s')
        (fun e s' => wpAny (model prog w) (A.deeper (callEnv fd s.heap.objs.size a)) (leaving (callEnv fd s.heap.objs.size a) e) (fun _ s'' => R (.error e) s'') (fun e' s'' => R (.error e') s'') s')
        { s with heap := h₀, toks := s.toks + binds.length })
    (hco : fd.scope.isCoroutine = false := by rfl) (hgen : fd.scope.isGenerator = false := by rfl) (hk : fd.scope.kind = .function := by rfl) :
    codeC (model prog w) A (.call (.ref a) args) R s := by
  refine codeC_call_function hroom ho hdata hco hgen hbody hcd (hbind _ _ _ _ ?_)
  refine wpAny_newFunctionEnv hcell hloc (fun h₀ hns₀ hsb₀ => ⟨hlim.fresh _ hsb₀, codeC_func (h h₀ hns₀ fun b o e => ?_)⟩) hk
  exact hsb₀.extBut b o (Nat.ne_of_lt (Heap.lt_size e)) (Heap.get?_push_of_some _ e)
end

section
variable {prog : Program} {w : World} {A A₀ : Around} {s : Shared} {K : Frag} {L : Addr} {h₀ base : Heap} {m mg mb : Str → Option Value} {news : List (Addr × Obj)} {p : Program} {loose : List Str} {mean : ExcName → Option Value}
  {env : Env} {outer : List Env} {R : Result → Shared → Prop} {name qual : Str} {params : Arguments} {body : List Stmt} {scope : Scope} {dV kV doc pm cdv ct oc : Value} {an od : Option Addr} {osl : Array (Option Value)} {f : Addr} {args : Args} {binds : List (Str × Value)}

/-- a def without a try of its own is entered -/
theorem codeC_def (B : Below A₀ base outer h₀) (F : Fr h₀ L s.heap m) (X₀ : K.In h₀) (N : News h₀ L s.heap news) (T : Top p loose mean mg mb h₀) (hA : A.frames = some (env :: outer)) (hf : env.frame = some L) (hke : env.scope.kind = .function)
    (ho : K.lookup f = some ⟨oc, od, .func (fnOf name qual params body scope dV kV doc pm an cdv ct), osl⟩) (hcd : codeIn K cdv qual = true) (hroom : A.depth < recursionLimit)
    (hbind : BindsTo s (fnOf name qual params body scope dV kV doc pm an cdv ct) args binds) (hloc : ∀ y ∈ binds, scope.names.lookup y.1 = some .local)
    (h : ∀ g L' h₁, Fr h₀ L g m → Fr g L' h₁ (fun y => binds.reverse.lookup y) → News g L' h₁ news → Below A base (env :: outer) g → K.In g → Top p loose mean mg mb g → h₀.StaysIn g →
      wpC (model prog w) (A.deeper (envOf qual scope L' f cdv)) (execs body (envOf qual scope L' f cdv))
        (fun fl s' => LeaveK h₀ L m g R (match fl with | .ret v => v | _ => .none) s')
        (fun e s' => wpAny (model prog w) (A.deeper (envOf qual scope L' f cdv)) (leaving (envOf qual scope L' f cdv) e) (fun _ s'' => R (.error e) s'') (fun e' s'' => R (.error e') s'') s')
        { s with heap := h₁, toks := s.toks + binds.length })
    (hco : scope.isCoroutine = false) (hgen : scope.isGenerator = false) (hk : scope.kind = .function)
    (hcell : ∀ x ∈ scope.names, x.2 ≠ .cell) : codeC (model prog w) A (.call (.ref f) args) R s := by
  have X := X₀.keeps F.keep
  obtain ⟨FG, BG, st, lv⟩ := groundX (R := R) B F N hA hf hke
  refine codeC_call_def (fd := fnOf name qual params body scope dV kV doc pm an cdv ct) (body := body) (binds := binds) hroom (X _ _ ho) rfl (T.nolimit.keeps F.keep) (codeRec_of X hcd) rfl hbind hcell hloc (fun h₁ hns hk₁ => ?_) hco hgen hk
  exact wpC_mono (h _ s.heap.objs.size h₁ FG ⟨hns, fun b o e => hk₁ b o (of_hideAll _ e), Nat.le_of_eq (hideAll_size _ _)⟩
    (fun q hq => ⟨hk₁ _ _ (N q hq).1, Nat.ne_of_lt (Heap.lt_size (N q hq).1), hideAll_none _ (List.mem_map_of_mem hq)⟩) BG (X₀.keeps st) (T.keeps st) st) (fun fl s' hl => lv _ _ hl) fun _ _ y => y
end
end Mine
end

section
open PySem PySem.W PyProof.Rows PySem.NumText PySem.Calls
set_option maxRecDepth 100000
namespace Mine
open Sem (wp)
open PySem.Calls
section
variable {M : Model} {A : Around} {E : Value → Shared → Prop} {s : Shared}

theorem called_any {Γ : Ctx} (h : Called Γ) (p : Pos) : (((Γ.code, p) :: Γ.below).map (·.1)).any (fun c => match c with | .builtin "claim.caller" _ => true | _ => false) = true := by
  have e : (fun c : Code => match c with | .builtin "claim.caller" _ => true | _ => false) = Code.isCaller := rfl
  rw [e, List.map_cons, List.any_cons]
  rcases h with h | h
  · rw [h]; rfl
  · rw [List.any_map, show Γ.below.any (Code.isCaller ∘ fun x => x.1) = true from h, Bool.or_true]

theorem wpC_mark {own : List String} {e : Value} {Q : Unit → Shared → Prop} (h : Q () s) : wpC M A (markTheRefusal own e) Q E s := fun Γ p hΓ hC => by
  unfold markTheRefusal
  rw [Sem.wp_bind']
  show wp M Γ (if pythonCodeMadeTheCall own (((Γ.code, p) :: Γ.below).map (·.1)) = true then _ else pure ()) _ _ p s
  have e0 : pythonCodeMadeTheCall own (((Γ.code, p) :: Γ.below).map (·.1)) = false := by
    unfold pythonCodeMadeTheCall
    refine Bool.and_eq_false_iff.mpr (.inl (Bool.and_eq_false_iff.mpr (.inl ?_)))
    exact congrArg (fun b => !b) (called_any hC p)
  rw [if_neg (by rw [e0]; exact Bool.false_ne_true)]
  exact h
end

section
variable {prog : Program} {w : World} {A : Around} {E : Value → Shared → Prop} {s : Shared}

theorem codeC_builtin {R : Result → Shared → Prop} {id : String} {args : Args} {b : Builtin} (hb : entryFor table id = some b)
    (h : wpC (model prog w) (A.under (.builtin id args)) (b args)
      (fun fin s' => match fin with | .done f => R (.ok f) s' | .again c' => c'.quiet = true ∧ codeC (model prog w) A c' R s') (fun e s' => R (.error e) s') s) :
    codeC (model prog w) A (.builtin id args) R s := by
  refine codeC_of_tree ?_
  show wpC _ _ (match entryFor table id with | some b => b args | none => unsupported ((withoutEnding? id "#data").getD id)) _ _ s
  rw [hb]; exact h

theorem codeC_call_builtin {R : Result → Shared → Prop} {id : String} {args : Args} {b : Builtin} (hq : plainId id = true) (hb : entryFor table id = some b)
    (hc : checkBuiltinCall id args = pure ())
    (h : wpC (model prog w) A.in1 (b args)
      (fun fin s' => match fin with | .done f => R (.ok f) s' | .again c' => c'.quiet = true ∧ codeC (model prog w) A c' R s') (fun e s' => R (.error e) s') s) :
    codeC (model prog w) A (.call (.builtin id) args) R s := by
  refine codeC_of_tree ?_
  show wpC _ A.in1 (do checkBuiltinCall id args; again (.builtin id args)) _ _ s
  refine wpC_bind (wpC_of_eq hc (wpC_pure (And.intro (plainId_quiet hq args) (codeC_builtin hb ?_))))
  rw [Around.under_plainId hq args]
  exact h

theorem text_fit (x : Str) : (Str.ofString (toString "invalid literal for int() with base " ++ toString 10 ++ toString ": ") ++ ⟨(reprText x).cps.extract 0 200⟩ : Str).length ≤ sizeLine := by
  rw [sizeLine_eq, Str.length_append]
  have h1 : (Str.ofString (toString "invalid literal for int() with base " ++ toString 10 ++ toString ": ")).length = 40 := by decide +kernel
  have h2 : (⟨(reprText x).cps.extract 0 200⟩ : Str).length ≤ 200 := by
    show ((reprText x).cps.extract 0 200).size ≤ 200
    rw [Array.size_extract]; omega
  omega

/-- int() of a text that is no number's, its last steps -/
theorem wpC_text_none {x : Str} {t : Tok} {text : List Nat} {Q : Value → Shared → Prop} (hh : A.handled = none) (hs : (text.takeWhile (· != 0)).length ≤ 640)
    (hn : (int_private% "readNumeral") 0 10 (text.takeWhile (· != 0)) = int_private% "Numeral.invalid" ∨ ∃ i, (int_private% "readNumeral") 0 10 (text.takeWhile (· != 0)) = (int_private% "Numeral.value") i ∧ ¬ ((text.takeWhile (· != 0)).length == text.length) = true)
    (hr : (reprText x).length ≤ 1000000)
    (h : ∀ h' e v tk, Heap.MadeExc s.heap h' e "ValueError" [v] → E (.ref e) { s with heap := h', toks := tk }) :
    wpC (model prog w) A ((int_private% "intFromText") (.str x t) text 10) Q E s := by
  show wpC _ _ (if (text.takeWhile (· != 0)).length ≤ 640 then _ else _) Q E s
  rw [if_pos hs]
  refine wpC_bind (wpC_pure ?_)
  dsimp only
  rcases hn with hn | ⟨i, hn, hne⟩
  all_goals (rw [hn]; dsimp only)
  case inl =>
    refine wpC_bind (wpC_of_eq (a := none) rfl ?_)
    rw [if_neg (by simp)]
    refine wpC_bind (wpC_of (wpAny_rule ?_))
    refine wpC_bind (wpC_of_eq (a := none) rfl ?_)
    dsimp only
    refine wpC_bindL (wpAny_pyRepr_str ?_ (by rw [sizeLine_eq]; omega))
    refine wpC_bindL (wpAny_mkStr ?_ ?_)
    · refine wpC_bindL (wpAny_newExc_plain plainExc_ValueError (fun h' e hm => ?_) (by rw [sizeLine_eq]; exact (by decide : (1:Nat) ≤ 16777216)))
      refine wpC_bind (wpC_mark ?_)
      exact wpC_of (wpAny_raiseNew_none hh (h h' e _ _ hm))
    · exact text_fit x
  case inr =>
    rw [if_neg hne]
    refine wpC_bind (wpC_of (wpAny_rule ?_))
    refine wpC_bind (wpC_of_eq (a := none) rfl ?_)
    dsimp only
    refine wpC_bindL (wpAny_pyRepr_str ?_ (by rw [sizeLine_eq]; omega))
    refine wpC_bindL (wpAny_mkStr ?_ ?_)
    · refine wpC_bindL (wpAny_newExc_plain plainExc_ValueError (fun h' e hm => ?_) (by rw [sizeLine_eq]; exact (by decide : (1:Nat) ≤ 16777216)))
      refine wpC_bind (wpC_mark ?_)
      exact wpC_of (wpAny_raiseNew_none hh (h h' e _ _ hm))
    · exact text_fit x

theorem int_obj_text (x : Str) (t : Tok) : (int_private% "intFromObject") (.str x t) = (int_private% "intFromText") (.str x t) (numTextOf x) 10 := by
  have f3 := KIN.str_int
  have f4 := KIN.str_idx
  have f5 := KIN.str_trunc
  have f6 : typeOf (.str x t) = pure (.type "str") := rfl
  have e1 : callSpecial? (.str x t) "__int__" = pure none := by
    unfold callSpecial? specialOf
    simp only [f6, pure_bind, f3]
  have e2 : specialOf (.str x t) "__index__" = pure none := by
    unfold specialOf
    simp only [f6, pure_bind, f4]
  have e3 : specialOf (.str x t) "__trunc__" = pure none := by
    unfold specialOf
    simp only [f6, pure_bind, f5]
  have e4 : (int_private% "numeralText?") (.str x t) = pure (some (numTextOf x)) := rfl
  show (callSpecial? (.str x t) "__int__" >>= _) = _
  rw [e1, pure_bind]
  show (specialOf (.str x t) "__index__" >>= _) = _
  rw [e2, pure_bind]
  show (specialOf (.str x t) "__trunc__" >>= _) = _
  rw [e3, pure_bind]
  show ((int_private% "numeralText?") (.str x t) >>= _) = _
  rw [e4, pure_bind]
theorem int_new_text (x : Str) (t : Tok) : Builtin.«int.__new__» ⟨[.type "int", .str x t], []⟩ = ((int_private% "intFromText") (.str x t) (numTextOf x) 10 >>= fun v => ret v) := by
  have f1 := F.conv_sub_int
  have f2 := F.madeHere_int
  have f7 : isType (.type "int") = pure true := rfl
  unfold Builtin.«int.__new__»
  simp only [f7, f1, f2, pure_bind, List.forIn_nil, Bool.not_true, Bool.false_eq_true, if_false]
  rw [if_neg (by intro h; cases h)]
  show ((int_private% "intFromObject") (.str x t) >>= _) = _
  rw [int_obj_text]
  rfl

theorem type_call_int (v : Value) : Builtin.«type.__call__» ⟨[.type "int", v], []⟩ = (holding [.builtin "int.__new__"] (call (.builtin "int.__new__") [.type "int", v] []) >>= fun obj => do
  if !(← isInstance obj (.type "int")) then rule "type.call.new-gave-other-type"; return ← ret obj
  match ← holding [obj] (callSpecial? obj "__init__" [v] []) with
  | none => ret obj
  | some r =>
    if r != .none then
      rule "type.call.init-returned-value"
      raiseError "TypeError" s!"__init__() should return None, not '{← typeNameOf r}'"
    ret obj) := by
  have h1 := F.called_int.notType
  have h2 := F.called_int.canCreate
  have h3 := F.mro_int
  have h4 := F.called_int.made
  have h5 := F.typeCall_int_1 v
  unfold Builtin.«type.__call__»
  dsimp only
  rw [if_neg (by rw [h1]; exact Bool.false_ne_true)]
  rw [if_neg (by rw [h2]; exact Bool.false_ne_true)]
  rw [h5]
  rw [pure_bind, h3, pure_bind]
  rw [if_neg (by decide)]
  rw [h4, pure_bind]
  dsimp only
  rw [pure_bind]
  rfl

theorem codeC_int_none {x : Str} {t : Tok} {R : Result → Shared → Prop} (hh : A.handled = none) (hl : x.length ≤ 640) (hn : PySem.intText? x = none) (hr : (reprText x).length ≤ 1000000)
    (h : ∀ h' e v tk, Heap.MadeExc s.heap h' e "ValueError" [v] → R (.error (.ref e)) { s with heap := h', toks := tk }) :
    codeC (model prog w) A (.call (.type "int") ⟨[.str x t], []⟩) R s := by
  refine codeC_of_tree ?_
  show wpC _ _ (callAny (.type "int") _) _ _ _
  refine wpC_pure (And.intro (Code.quiet_builtin _ (by decide +kernel)) (codeC_builtin F.entry_type_call ?_))
  rw [Around.under_plain (weight_type_call_type "int" [.str x t] []) (units_type_call_type "int" [.str x t] [])]
  rw [type_call_int]
  refine wpC_bind (wpC_holding (wpC_call (codeC_mono (codeC_call_builtin F.called_int.plain F.entry_int_new (F.newCall_int_1 _) ?_ (R := fun r s' => match r with | .ok _ => False | .error e => R (.error e) s')) fun r s₁ hr => ?_)))
  · rw [int_new_text]
    refine wpC_bind (wpC_text_none ?_ (Nat.le_trans (seen_length x) hl) ?_ hr fun h' e v tk hm => h h' e v tk hm)
    · exact hh
    · rcases read0 x (Nat.le_trans (seen_length x) hl) with ⟨m, h1, _⟩ | ⟨_, h2⟩
      · rw [hn] at h1; cases h1
      · exact h2
  · cases r with
    | error e => exact hr
    | ok f => exact hr.elim

theorem wpC_call_int_none {x : Str} {t : Tok} {E : Value → Shared → Prop} {Q : Value → Shared → Prop} (hh : A.handled = none) (hl : x.length ≤ 640) (hn : PySem.intText? x = none) (hr : (reprText x).length ≤ 1000000)
    (h : ∀ h' e v tk, Heap.MadeExc s.heap h' e "ValueError" [v] → E (.ref e) { s with heap := h', toks := tk }) : wpC (model prog w) A (call (.type "int") [.str x t] []) Q E s :=
  wpC_call (codeC_int_none hh hl hn hr h)
end
end Mine
end

section
open PySem PySem.W PyProof.Rows PySem.Spec PySem.Calls
set_option maxRecDepth 100000
namespace Mine
open Sem (wp)

/-! the head: what is asked of the call is asked only where the claim's caller is on the stack -/
theorem endsC {prog : Program} {w : World} {t : Sem Fin} {s : Shared} {R : Result → Shared → Prop} (hreg : s.asleep)
    (h : wpC (model prog w) callerA t (fun fin s' => ∃ f, fin = .done f ∧ (R (.ok f) s' ∧ leftWithCleanup s'.gens = false)) (fun e s' => R (.error e) s' ∧ leftWithCleanup s'.gens = false) s) :
    ∃ n r s' s'', runN (denote table) prog w n s ⟨t, .builtin "claim.caller" {}, default, []⟩ = .halted (outcomeOf r) s' ∧
      schedN (denote table) prog w n (.single s ⟨t, .builtin "claim.caller" {}, default, []⟩) = .halted (outcomeOf r) s' ∧ s'.forget = s''.forget ∧ R r s'' := by
  have h1 := h ⟨.builtin "claim.caller" {}, none, none, [], none⟩ default caller_in (Or.inl rfl)
  have h2 : wp (model prog w) ⟨.builtin "claim.caller" {}, none, none, [], none⟩ t (Sem.finPost (model prog w) ⟨.builtin "claim.caller" {}, none, none, [], none⟩ fun r s' => R r s' ∧ leftWithCleanup s'.gens = false)
      (fun e _ s' => R (.error e) s' ∧ leftWithCleanup s'.gens = false) default s := by
    refine Sem.wp_mono _ _ t (fun fin p' s' h' => ?_) (fun _ _ _ h' => h') default s h1
    obtain ⟨f, rfl, hf⟩ := h'
    exact hf
  obtain ⟨n, r, s₁, s₂, hs, hn, hfo, hR⟩ := wp_halts_full (M := model prog w) (R := R) hreg h2
  exact ⟨n, r, s₂, s₁, hn, hs, hfo, hR⟩

theorem fromC {c : ClaimW} {tree : List Value → Sem Fin} {w : World} {s : Shared} {free : Addr → Prop} {gens : Prop} {kept : Heap → Prop} (hz : s.asleep) (hgens : s.gens = #[])
    (hspec : ∀ args, c.pre args = true → WData.layableAll args = true → ∀ ord : List DictEntry → List DictEntry, (∀ l, (ord l).Perm l) →
      ∃ vs s₁, layAllW c.records (classAt s.heap) w.params ord args s = some (vs, s₁) ∧
        wpC (model c.prog w) callerA (tree vs) (fun fin s' => ∃ f, fin = .done f ∧ (c.Ends s args vs s₁ (.ok f) s' ∧ s'.os = s.os ∧ AllBare s'.gens ∧ kept s'.heap))
          (fun e s' => c.Ends s args vs s₁ (.error e) s' ∧ s'.os = s.os ∧ AllBare s'.gens ∧ kept s'.heap) s₁) :
    c.CallFrom (fun vs => ⟨tree vs, .builtin "claim.caller" {}, default, []⟩) w free gens kept s := by
  intro args hpre hlay ord hord
  obtain ⟨vs, s₁, hlaid, hcode⟩ := hspec args hpre hlay ord hord
  have hal := layAllW_rest _ _ _ hlaid
  obtain ⟨k, r, s', s'', hrun, hsched, hfo, hcase, hos, hkp⟩ := endsC (prog := c.prog) (w := w) (t := tree vs) (s := s₁)
    (R := fun r s' => c.Ends s args vs s₁ r s' ∧ s'.os = s.os ∧ kept s'.heap) (Shared.asleep_of_life hal.2.2.2 hz)
    (wpC_mono hcode (by rintro fin s' ⟨f, e, h1, h2, h3, h4⟩; exact ⟨f, e, ⟨h1, h2, h4⟩, leftWithCleanup_false_of_bare h3⟩)
      (by rintro e s' ⟨h1, h2, h3, h4⟩; exact ⟨⟨h1, h2, h4⟩, leftWithCleanup_false_of_bare h3⟩))
  obtain ⟨eh, _, _, eo, _⟩ := Shared.forget_eq hfo
  have hcase := hcase.congr eh
  rw [← eh] at hkp
  rw [← eo] at hos
  have hlife : s'.heap.life = s.heap.life := (runN_life _ _ _ hrun).trans hal.2.2.2
  refine ⟨vs, s₁, hlaid, k, _, s', hsched, ?_, (fun _ i x hx => by rw [hgens] at hx; simp at hx), hkp, by rw [hlife], Shared.rest_eq hos⟩
  rcases hcase with ⟨v, rfl, d1, d2, d3, d4, d5⟩ | ⟨e, ob, cls, rfl, d1, d2, d3, d4, d5⟩
  · exact .inl ⟨v, rfl, d1, d2, d3, fun b o y _ => d4 b o y, d5⟩
  · exact .inr ⟨e, ob, cls, rfl, d1, d2, d3, d4, fun b o y _ => d5 b o y⟩

abbrev WalkC (q : Program) (loose : List Str) (XP : (Str → Option Value) → Heap → Prop) (YP : World → Heap → Prop) (r : RowW) (d : DefRec) (kwd : List (Str × PySem.Expr)) (run : Value → List Value → Sem Value) : Prop :=
  ∀ (w : World) (s₀ s₁ : Shared) (mg mb : Str → Option Value), Ground q loose r.records XP w s₀ mg mb s₁.heap → YP w s₁.heap → ∀ (a : Addr) (o : Obj) (pm cd doc dV kV : Value), s₁.heap.get? a = some o →
    o.data = .func { docDef d.name d.params d.body d.scope pm cd doc with defaults := dV, kwdefaults := kV } → s₁.heap.CodeRec cd d.name → Dflts mg s₁.heap d.params kwd dV kV → mg d.name = some (.ref a) → s₁.gens = #[] →
    ∀ (args : List WData) (vals : List Value) (as : List Addr), r.claim.pre args = true → WData.layableAll args = true → ReadsAllW r.records (classAt s₀.heap) s₁.heap vals args as → WellAll w.params s₁.heap vals args → (∀ a ∈ as, (a == sysModules) = false) →
      wpC (model r.prog w) callerA (run (.ref a) vals) (fun v s' => GoodWG r.claim (classAt s₀.heap) (ExcName.means s₀.heap) args s₁ (.ok (.ret v)) s')
        (fun e s' => GoodWG r.claim (classAt s₀.heap) (ExcName.means s₀.heap) args s₁ (.error e) s') s₁

theorem PySem.W.holds_open {r : OpenRow} {q : Program} {loose : List Str} {Xt : Shared → Bool} {XP : (Str → Option Value) → Heap → Prop} {α : Type} {Yf : Shared → α} {Ya : World → α} {YP : World → Heap → Prop} {d : DefRec} {kwd : List (Str × PySem.Expr)} {N : Nat}
    (left : LeftO r.prog q loose Xt Yf Ya N) (hY : ∀ w s, Yf s = Ya w → YP w s.heap) (hYk : ∀ w h h', YP w h → (∀ b o, h.get? b = some o → h'.get? b = some o) → YP w h')
    (hX : ∀ s, Xt s = true → XP (s.heap.nsMap mainGlobals) s.heap) (hXk : ∀ mg h h', XP mg h → (∀ b o, h.get? b = some o → h'.get? b = some o) → XP mg h')
    (hdef : defOf q r.name = some (d, kwd)) (hp : r.prog.theDef r.name = some (d.params, d.body, d.scope)) (hk : kwWritten? d.params.kwonlyargs d.params.kw_defaults = some kwd) (hRf : ∀ s, Xt s = true → RecFacts r.records s.heap) (hwr : (!r.writes || r.records.isEmpty) = true)
    (k1 : r.wellSaid = true) (ok : (chainsOk q && opensWell r.prog && (frees r.toRowW && r.within.isEmpty)) = true) (hb : r.prog.bare) (hw : r.toRowW.promised)
    (call : WalkC q loose XP YP r.toRowW d kwd fun f vs => PySem.call f vs) : r.Holds := by
  obtain ⟨ok, k5⟩ := Bool.and_eq_true_iff.mp ok
  obtain ⟨hch, o1⟩ := Bool.and_eq_true_iff.mp ok
  obtain ⟨k5, k6⟩ := Bool.and_eq_true_iff.mp k5
  obtain ⟨hsame, hu, ha, hap, hm⟩ := frees_parts k5
  refine ⟨k1, hw, ⟨⟨hb, o1, by show r.toRowW.makers.map _ = []; rw [hm]; rfl⟩, hw.witness, fun w => ⟨(left.behind hX hch w).1, fun s' hs' => ?_⟩⟩⟩
  obtain ⟨s₀, hf, hg0, s, hT, hz, hgens, hg, G00, y⟩ := (left.behind (XP := fun mg h => XP mg h ∧ RecFacts r.records h) (fun s hs => ⟨hX s hs, hRf s hs⟩) hch w).2 s' hs'
  have G0 : Ground q loose [] XP w s (s.heap.nsMap mainGlobals) (s.heap.nsMap builtinsNs) s.heap := ⟨G00.T, G00.B, G00.D, G00.TE, G00.TD, G00.W, G00.X.1, G00.cls, G00.has, G00.apart, G00.once, G00.K⟩
  have RF := G00.X.2
  refine ⟨s₀, hf, hg0, s, hT, fun n hn => ?_, RF.1, RF.2.1, ?_⟩
  · obtain rfl : n = r.name := by split at hn <;> simp_all
    exact pinned_of_view hg G0 hdef hp hk
  have hgens : s.gens = #[] := Array.eq_empty_of_size_eq_zero (beq_iff_eq.mp hgens)
  have G : Ground q loose r.records XP w s _ _ s.heap := RF.ground G0
  refine fromC (c := r.toRowW.claim) hz hgens fun args hpre hlay ord hord => ?_
  obtain ⟨⟨vs, s₁⟩, hlaid⟩ := Option.isSome_iff_exists.mp (layAllW_isSome (P := w.params) (ord := ord) G.has args r.args s (pre_splitW hpre).1)
  have keeps := layAllW_keeps _ _ _ hlaid
  have hal := layAllW_rest _ _ _ hlaid
  obtain ⟨as, hrd, hin, hold⟩ := reads_layAllW hord _ _ _ hlaid hlay s₁.heap (fun _ _ e => e)
  have L : Laid r.records w s s₁ args vs as := ⟨⟨ord, hord, hlaid⟩, hrd, hin, hold, keeps, hal.1.trans hgens, hal.2.2.1⟩
  have G₁ := G.keeps hXk keeps
  obtain ⟨a, o, pm, cd, doc, dV, kV, h1, h2, h3, h4, h5⟩ := G₁.fn hdef
  have h := call w s s₁ _ _ G₁ (hYk _ _ _ (hY w s y) keeps) a o pm cd doc dV kV h2 h3 h4 h5 (defOf_name hdef ▸ h1) L.gens args vs as hpre hlay L.reads L.well (L.low G.low)
  have hi := ident_freeW hu ha hap
  have hwi : r.toRowW.claim.within = [] := List.isEmpty_iff.mp k6
  refine ⟨vs, s₁, hlaid, wpC_bindL (wpAny_nsGet G₁.T.g ?_)⟩
  rw [h1]
  refine wpC_bind (wpC_mono h (fun v s' g => wpC_pure ⟨_, rfl, ?_⟩) fun e s' g => ?_)
  all_goals (have z := g.laid (c := r.toRowW.claim) hsame hwi hi L; exact ⟨z.1, z.2.1, z.2.2, fun q => ⟨namesKept_of hT hg _ keeps g.2.1.old, noTable hwr q⟩⟩)
end Mine
end

section
open PySem PySem.W PyProof.Rows
set_option maxRecDepth 100000
set_option maxHeartbeats 8000000
namespace Mine
open_top hd for PySem.Challenge.rw_dg5009_01
end Mine
end

section
open PySem PySem.W PyProof.Rows
set_option maxRecDepth 100000
set_option maxHeartbeats 8000000
namespace Mine
def Ctr {D : Type} (T : Told D) (f : Addr) (d : D) : Prop := ∀ (w : World) (mean : ExcName → Option Value) (mg mb : Str → Option Value), Tells PySem.Challenge.pw_dg5009_01 w (hd.heap_39 w.params) hd.view_39 (looseW hd.view_39 [Str.ofString "_tuplegetter", Str.ofString "Time"]) mean mg mb f T d
end Mine
end

section
open PySem PySem.W PyProof.Rows
set_option maxRecDepth 100000
namespace Mine
open PySem.Calls
section
variable {prog : Program} {w : World} {A A₀ : Around} {s : Shared} {K : Frag} {L a : Addr} {h₀ base : Heap} {m mg mb : Str → Option Value} {news : List (Addr × Obj)} {p : Program} {loose : List Str} {mean : ExcName → Option Value} {cn : Str} {cs : Scope} {ccd : Value}
  {R : Result → Shared → Prop} {name qual : Str} {params : Arguments} {body : List Stmt} {scope : Scope} {dV kV doc pm cdv ct oc : Value} {an od : Option Addr} {osl : Array (Option Value)} {f : Addr} {args : Args} {binds : List (Str × Value)}

/-- a def that tries, called from one frame, is entered -/
theorem codeC_defT (B : Below A₀ base [] h₀) (F : Fr h₀ L s.heap m) (X₀ : K.In h₀) (N : News h₀ L s.heap news) (T : Top p loose mean mg mb h₀) (hA : A.frames = some [envOf cn cs L a ccd])
    (ho : K.lookup f = some ⟨oc, od, .func (fnOf name qual params body scope dV kV doc pm an cdv ct), osl⟩) (hcd : codeIn K cdv qual = true) (hroom : A.depth < recursionLimit)
    (hbind : BindsTo s (fnOf name qual params body scope dV kV doc pm an cdv ct) args binds) (hloc : ∀ y ∈ binds, scope.names.lookup y.1 = some .local)
    (h : ∀ g L' h₁, Fr h₀ L g m → Fr g L' h₁ (fun y => binds.reverse.lookup y) → News g L' h₁ news → Below A base [envOf cn cs L a ccd] g → K.In g → Top p loose mean mg mb g → KtsDicts ([envOf cn cs L a ccd].filterMap (·.frame)) g →
      wpC (model prog w) (A.deeper (envOf qual scope L' f cdv)) (execs body (envOf qual scope L' f cdv))
        (fun fl s' => LeaveS0 ([envOf cn cs L a ccd].filterMap (·.frame)) h₀ L m g R (match fl with | .ret v => v | _ => .none) s')
        (fun e s' => wpAny (model prog w) (A.deeper (envOf qual scope L' f cdv)) (leaving (envOf qual scope L' f cdv) e) (fun _ s'' => R (.error e) s'') (fun e' s'' => R (.error e') s'') s')
        { s with heap := h₁, toks := s.toks + binds.length })
    (hck : cs.kind = .function) (hco : scope.isCoroutine = false) (hgen : scope.isGenerator = false) (hk : scope.kind = .function)
    (hcell : ∀ x ∈ scope.names, x.2 ≠ .cell) : codeC (model prog w) A (.call (.ref f) args) R s := by
  have X := X₀.keeps F.keep
  refine codeC_call_def (fd := fnOf name qual params body scope dV kV doc pm an cdv ct) (body := body) (binds := binds) hroom (X _ _ ho) rfl (T.nolimit.keeps F.keep) (codeRec_of X hcd) rfl hbind hcell hloc (fun h₁ hns hk₁ => ?_) hco hgen hk
  obtain ⟨oL, es, ep, hLg, hLd, hN, hNs, st, B₂⟩ := kts_enter B F N hA hck
  have news₁ : News (hideAll s.heap (news.map (·.1))) s.heap.objs.size h₁ news := fun q hq => ⟨hk₁ _ _ (N q hq).1, Nat.ne_of_lt (Heap.lt_size (N q hq).1), hideAll_none _ (List.mem_map_of_mem hq)⟩
  have dicts : KtsDicts ([envOf cn cs L a ccd].filterMap (·.frame)) (hideAll s.heap (news.map (·.1))) := fun b hb => by
    rcases kts_mem hb with rfl | z
    · exact ⟨oL, es, ep, hLg, hLd⟩
    · simp at z
  refine wpC_mono (h _ s.heap.objs.size h₁ ⟨hN _ hLg, st, F.above⟩ ⟨hns, fun b o e => hk₁ b o (of_hideAll _ e), Nat.le_of_eq (hideAll_size _ _)⟩ news₁ B₂ (X₀.keeps st) (T.keeps st) dicts) (fun fl s' hl => ?_) fun _ _ y => y
  obtain ⟨g', L', m', news', T', F', N', k⟩ := hl
  obtain ⟨sl, hs⟩ := T'.up hLg
  have old : ∀ b o, h₀.get? b = some o → s'.heap.get? b = some o := fun b o e => F'.keep b o (T'.other b o (st b o e) (fun q => by
    rcases kts_mem q with z | z
    · rw [z, kts_self F] at e; cases e
    · simp at z))
  refine k ⟨hNs sl _ (F'.keep _ _ hs), old, F.above⟩ fun q hq => ⟨(N' q hq).1, fun e => ?_, ?_⟩
  · have := (N' q hq).2.2; rw [e, hs] at this; cases this
  · cases e : h₀.get? q.1 with
    | none => rfl
    | some o =>
      obtain ⟨sl', hs'⟩ := T'.up (st _ _ e)
      have := (N' q hq).2.2
      rw [hs'] at this
      cases this
end
end Mine
end

section
open PySem PySem.W PyProof.Rows
set_option maxRecDepth 100000
namespace Mine
section
variable {M : Model} {A : Around} {E : Value → Shared → Prop} {s : Shared} {env : Env} {pos : Pos} {Q : Value → Shared → Prop}
theorem wpC_callWith_type1 {T : String} {t : Sem Value} (h : wpC M A t (fun v s₁ => wpC M A (call (.type T) [v]) Q E s₁) E s) : wpC M A (callWith pos (.type T) [] [(false, t)] []) Q E s := by
  unfold callWith
  refine wpC_bind (wpC_holding (wpC_evalArgs_plain (wpC_spliced_cons (wpC_monoQ h fun v s₁ h₁ => wpC_spliced_nil (wpC_bind (wpC_standAt ?_))))))
  refine wpC_bind (wpC_pure ?_)
  exact wpC_bind (wpC_monoQ h₁ fun r s₂ hr => wpC_bind (wpC_holding (wpC_point (wpC_pure hr))))
structure NextI (I : Shared → Prop) (f : Flow) (s : Shared) : Prop where
  e : f = .next
  h : I s
theorem wpC_execs_stage {st : Stmt} {rest : List Stmt} {Q : Flow → Shared → Prop} {I : Shared → Prop} (h1 : wpC M A (exec st env) (NextI I) E s) (h2 : ∀ s', I s' → wpC M A (execs rest env) Q E s') :
    wpC M A (execs (st :: rest) env) Q E s := wpC_execs_cons (wpC_monoQ h1 fun f s' h => by obtain ⟨rfl, h⟩ := h; exact h2 s' h)
theorem wpAny_execs_stage {st : Stmt} {rest : List Stmt} {Q : Flow → Shared → Prop} {I : Shared → Prop} (h1 : wpAny M A (exec st env) (NextI I) E s) (h2 : ∀ s', I s' → wpC M A (execs rest env) Q E s') :
    wpC M A (execs (st :: rest) env) Q E s := wpC_execs_stage (wpC_of h1) h2
end
end Mine
end

section
open PySem PySem.W PyProof.Rows
set_option maxRecDepth 100000
namespace Mine
section
variable {M : Model} {A : Around} {E : Value → Shared → Prop} {s : Shared} {env : Env} {pos : Pos} {Q : Value → Shared → Prop}
theorem wpC_callWith_builtin1 {id : String} {first : List Value} {t : Sem Value} (h : wpC M A t (fun v s₁ => wpC M A (call (.builtin id) (first ++ [v])) Q E s₁) E s) : wpC M A (callWith pos (.builtin id) first [(false, t)] []) Q E s := by
  unfold callWith
  refine wpC_bind (wpC_holding (wpC_evalArgs_plain (wpC_spliced_cons (wpC_monoQ h fun v s₁ h₁ => wpC_spliced_nil (wpC_bind (wpC_standAt ?_))))))
  refine wpC_bind (wpC_pure ?_)
  exact wpC_bind (wpC_monoQ h₁ fun r s₂ hr => wpC_bind (wpC_holding (wpC_point (wpC_pure hr))))
theorem wpC_Call_method1 {o e : PySem.Expr} {name : Str} {apos : Pos} (hbase : attributeBase o name env (eval o env) = eval o env) (hline : (apos.endLine == pos.line) = true)
    (htrees : backTo pos (starEach [e] env) = [(false, eval e env)])
    (h : wpC M A (eval o env) (fun ov s₁ => wpAny M A (getMethod ov name (do return (← importBound o env).getD true)) (fun fm s₂ => wpC M A (callWith pos fm.1 fm.2 [(false, eval e env)] []) Q E s₂) E s₁) E s) :
    wpC M A (eval (.Call (.Attribute o name apos) [e] [] pos) env) Q E s := by
  rw [arm_eval_Call, hbase]
  refine wpC_bind (wpC_monoQ h fun ov s₁ h₁ => wpC_bind (wpC_standAt ?_))
  have hform : methodCallForm ([e].length + ([] : List Keyword).length) (backTo pos (starEach [e] env)) (backToKw pos (keywordEach [] env)) = true := by rw [htrees]; rfl
  unfold methodCall calleeOf methodCallPos
  simp only [hform, hline, if_true, Bool.not_true, Bool.or_true]
  refine wpC_bind (wpC_holding (wpC_monoQ (wpC_of h₁) fun fm s₂ h₂ => ?_))
  obtain ⟨f, first⟩ := fm
  refine wpC_bind (wpC_pure ?_)
  rw [htrees]
  exact h₂
theorem wpC_Expr {e : PySem.Expr} {Q : Flow → Shared → Prop} (h : wpC M A (eval e env) (fun v s' => v = .none ∧ Q .next s') E s)
    (hi : interactive env = false := by rfl) (hs : swapsWith e none pos.line env = pure false := by rfl) : wpC M A (exec (.Expr e pos) env) Q E s := by
  rw [exec_Expr env e pos hi hs]
  refine wpC_bind (wpC_standAt (wpC_bind (wpC_monoQ h fun v s' h' => ?_)))
  obtain ⟨rfl, h'⟩ := h'
  rw [dropValue_plain (by intro a x; cases x)]
  exact wpC_pure h'
end
end Mine
end

section
open PySem PySem.W PyProof.Rows
set_option maxRecDepth 100000
set_option maxHeartbeats 8000000
namespace Mine
open PySem.Calls Builtin Builtin.ObjectAttr Builtin.Getset_descriptor
section
variable {w : World} {A : Around} {R : Result → Shared → Prop} {s : Shared}
abbrev MM (w : World) : Model := model PySem.Challenge.pw_dg5009_01 w

theorem time_looks {h : Heap} (X : (hd.heap_39 w.params).In h) :
    Looks (MM w) h (specialOf (.ref 138) "__call__") (some (.builtin "type.__call__")) ∧
    Looks (MM w) h (isInstance (.ref 138) (.type "type")) true ∧
    Looks (MM w) h (Bind.madeBy (.ref 138)) none ∧
    Looks (MM w) h (isSubtype (.ref 138) (.ref 138)) true ∧
    Looks (MM w) h (isSubtype (.ref 138) (.type "object")) true ∧
    Looks (MM w) h (isSubtype (.ref 138) (.type "tuple")) true ∧
    Looks (MM w) h (typeLookup (.ref 138) "__init__") (some (.builtin "object.__init__")) :=
  ⟨looks_specialIn X (by kernel_rfl), looks_instIn X (by kernel_rfl), Looks.of_peek X (by kernel_rfl), looks_mroIn X (by kernel_rfl), looks_mroIn X (by kernel_rfl), looks_mroIn X (by kernel_rfl), looks_findIn X (by kernel_rfl)⟩

theorem time_cls {h : Heap} (X : (hd.heap_39 w.params).In h) : ∃ oc od cd sl, h.get? 138 = some ⟨oc, od, .cls cd, sl⟩ ∧ Looks (MM w) h (mroOf (.ref 138)) cd.mro ∧ cd.mro.isEmpty = false := by
  have e : (match (hd.heap_39 w.params).lookup 138 with | some ⟨_, _, .cls cd, _⟩ => !cd.mro.isEmpty | _ => false) = true := by kernel_rfl
  split at e
  · rename_i oc od cd sl ho
    have hc : clsIn (hd.heap_39 w.params) 138 = some cd := by unfold clsIn; rw [ho]
    refine ⟨oc, od, cd, sl, X _ _ ho, (looks_clsIn X hc).andThen .now, by simpa using e⟩
  · cases e

abbrev timeKw (a b c e : Value) : List (Str × Value) := [(Str.ofString "hour", a), (Str.ofString "minute", b), (Str.ofString "second", c), (Str.ofString "microsecond", e)]

theorem oi_args_kw (x a b c e : Value) : argsOk "object.__init__" ⟨[x], timeKw a b c e⟩ := by unfold argsOk; kernel_rfl

theorem time_code {h₀ : Heap} {L : Addr} {m : Str → Option Value} (F : Fr h₀ L s.heap m) (X₀ : (hd.heap_39 w.params).In h₀) {a b c e : Value}
    (hn : wpAny (MM w) (A.under (.builtin "type.__call__" ⟨[.ref 138], timeKw a b c e⟩)) (call (.ref 82) [.ref 138] (timeKw a b c e))
      (fun v s' => ∃ x o, v = .ref x ∧ s'.heap.get? x = some o ∧ o.cls = .ref 138 ∧ (hd.heap_39 w.params).In s'.heap ∧ R (.ok (.ret v)) s') (fun e s' => R (.error e) s') { s with toks := s.toks + 1 }) :
    codeAny (MM w) A (.call (.ref 138) ⟨[], timeKw a b c e⟩) R s := by
  have X := X₀.keeps F.keep
  obtain ⟨lcall, ltyp, lmade, lself, lobj, ltup, linit⟩ := time_looks X
  obtain ⟨oc, od, cd, sl, hC, hm, hem⟩ := time_cls X
  obtain ⟨h, g, d, t, os⟩ := s
  refine codeAny_of_tree ?_
  show wpAny _ _ (callAny (.ref 138) _) _ _ _
  refine nd_load hC ?_
  show wpAny _ _ (callAny.viaDunder (.ref 138) _) _ _ _
  unfold callAny.viaDunder
  refine wpAny_bind (lcall.at ?_)
  dsimp only
  rw [tc_bind]
  refine wpAny_bind (wpAny_pure (wpAny_bind (wpAny_pure ?_)))
  refine wpAny_pure (a := Fin.again (.call (.builtin "type.__call__") ⟨.ref 138 :: [], timeKw a b c e⟩)) (And.intro rfl ?_)
  refine codeAny_call_builtin_at (Code.quiet_builtin _ (by decide +kernel)) entry_typeCall (check_slot tc_kind tc_split ltyp (tc_args _ _ _) ?_)
  unfold Builtin.«type.__call__»
  dsimp only at F X lcall ltyp lmade lself lobj ltup linit hC hm hn
  have lsm : ∀ {A' : Around} {Q : Value → Shared → Prop} {E : Value → Shared → Prop}, Q (.ref 82) ⟨h, g, d, t + 1, os⟩ → wpAny (MM w) A' (getAttr (.ref 138) "__new__") Q E ⟨h, g, d, t, os⟩ :=
    fun {A'} {Q} {E} q => cls_sm (s := ⟨h, g, d, t, os⟩) (C := 138) (K := hd.heap_39 w.params) (mc := .type "type") (p := 139) (f := .ref 82) (rest := []) F X₀ (by kernel_rfl) (by kernel_rfl) (by kernel_rfl) (by kernel_rfl) rfl q
  repeat (first | (with_reducible refine lsm ?_) | (with_reducible refine wpAny_mono hn ?_ (fun _ _ e => e)) | simp only [hem, Bool.false_eq_true, if_false] | lk)
  intro v s' hv
  obtain ⟨x, o, rfl, hx, ho, X', hR⟩ := hv
  obtain ⟨h', g', d', t', os'⟩ := s'
  obtain ⟨_, _, lmade', lself', lobj', ltup', linit'⟩ := time_looks X'
  dsimp only at hx hR lmade' lself' lobj' ltup' linit'
  have t1 : Looks (MM w) h' (typeOf (.ref x)) (.ref 138) := by
    have := (Looks.ld (M := MM w) (part := none) hx).andThen (f := fun o => pure o.cls) (b := o.cls) .now
    rw [ho] at this
    exact this
  have t2 : Looks (MM w) h' (isInstance (.ref x) (.type "object")) true := t1.andThen lobj'
  unfold isInstance callSpecial? specialOf
  repeat (first | with_reducible refine wpAny_call ?_ | lk)
  refine codeAny_call_builtin oi_plain entry_oi (@check_slot (MM w) _ _ _ "object.__init__" "object" "__init__" (.ref x) [] (timeKw a b c e) _ oi_kind oi_split t2 (oi_args_kw _ _ _ _ _) ?_)
  unfold Builtin.«object.__init__»
  repeat lk
  exact hR
end
end Mine
end

section
open PySem PySem.W PyProof.Rows
set_option maxRecDepth 100000
set_option maxHeartbeats 8000000
namespace Mine
open PySem.Calls Builtin Builtin.ObjectAttr Builtin.Getset_descriptor
section
variable {w : World} {A : Around} {E : Value → Shared → Prop} {s : Shared} {h₀ : Heap} {L : Addr} {m : Str → Option Value} {news : List (Addr × Obj)}

theorem meta_tuple : typeOf (.type "tuple") = pure (.type "type") := by kernel_rfl
theorem stub_tuple : Manifest.isStub "tuple" = false := by decide +kernel
theorem find_new : findCls (hd.heap_39 w.params) (.type "tuple") (.type "type") "__new__" = some (.val (.builtin "tuple.__new__")) := by kernel_rfl
theorem getm_new {pl : Sem Bool} {Q : Value × List Value → Shared → Prop} (F : Fr h₀ L s.heap m) (X₀ : (hd.heap_39 w.params).In h₀)
    (h : Q (.builtin "tuple.__new__", []) { s with toks := s.toks + 1 }) : wpAny (MM w) A (getMethod (.type "tuple") (Str.ofString "__new__") pl) Q E s := by
  have hh : handedIn (.builtin "tuple.__new__") = true := by decide +kernel
  exact method_type (T := "tuple") (K := hd.heap_39 w.params) (v := .builtin "tuple.__new__") (name := Str.ofString "__new__") F X₀ meta_tuple stub_tuple find_new hh h

theorem tn_kind : builtinKind "tuple.__new__" = some .builtinFn := by decide +kernel
theorem tn_split : splitId "tuple.__new__" = some ("tuple", "__new__") := by decide +kernel
theorem tn_name : (("__new__" : String) == "__new__") = true := by decide
theorem tn_same : (Manifest.canonical "tuple.__new__" != Manifest.canonical "tuple.__new__") = false := bne_self_eq_false _
abbrev timeObj (dx : Addr) (vs : List Value) : Obj := { cls := .ref 138, dict := some dx, data := .seq vs.toArray }
theorem tn_args (a x : Value) : argsOk "tuple.__new__" ⟨[a, x], []⟩ := by unfold argsOk; kernel_rfl
theorem tn_l1 {h : Heap} (X : (hd.heap_39 w.params).In h) : Looks (MM w) h (isType (.ref 138)) true := Looks.of_peek X (by kernel_rfl)
theorem tn_l2 {h : Heap} (X : (hd.heap_39 w.params).In h) : Looks (MM w) h (Bind.staticBase (.ref 138)) (.type "tuple") := Looks.of_peek X (by kernel_rfl)
theorem tn_l3 {h : Heap} (X : (hd.heap_39 w.params).In h) : Looks (MM w) h (Bind.madeBy (.type "tuple")) (some "tuple.__new__") := Looks.of_peek X (by kernel_rfl)
theorem tn_l4 {h : Heap} (X : (hd.heap_39 w.params).In h) : Looks (MM w) h (Bind.madeHere "tuple.__new__" (.ref 138)) () := by
  unfold Bind.madeHere
  refine (tn_l2 X).andThen ((tn_l3 X).andThen (Looks.of_pure ?_))
  simp only [Option.map_some, bne_self_eq_false, Bool.false_eq_true, if_false]
theorem tn_check {x : Value} {Q : Unit → Shared → Prop} (X : (hd.heap_39 w.params).In s.heap) (q : Q () s) : wpAny (MM w) A (checkBuiltinCall "tuple.__new__" ⟨[.ref 138, x], []⟩) Q E s := by
  have l0 := (time_looks X).2.2.2.2.2.1
  have l1 := tn_l1 X
  have l2 := tn_l2 X
  have l3 := tn_l3 X
  have ha := tn_args (.ref 138) x
  simp only [checkBuiltinCall, tn_kind, tn_split, tn_name, if_true]
  refine wpAny_bind (l1.here ?_)
  simp only [Bool.not_true, Bool.false_eq_true, if_false]
  refine wpAny_bind (l0.here ?_)
  simp only [Bool.not_true, Bool.false_eq_true, if_false]
  refine wpAny_bind (l2.here ?_)
  refine wpAny_bind (l3.here ?_)
  simp only [tn_same, Bool.false_eq_true, if_false]
  cases hsig : Manifest.signature? "tuple.__new__" with
  | none => exact wpAny_pure q
  | some sig =>
    simp only [argsOk, hsig] at ha
    have h2 : Bind.checkArgs "tuple.__new__" sig ⟨[.ref 138, x], []⟩ = pure () := ha
    show wpAny (MM w) A (Bind.checkArgs "tuple.__new__" sig ⟨[.ref 138, x], []⟩) Q E s
    rw [h2]; exact wpAny_pure q

theorem tn_call {a : Addr} {vs : List Value} {n : Nat} {Q : Value → Shared → Prop} (F : Fr h₀ L s.heap m) (X₀ : (hd.heap_39 w.params).In h₀) (N : News h₀ L s.heap news)
    (hm : (a, ({ cls := .type "tuple", data := .seq vs.toArray n } : Obj)) ∈ news) (hsz : vs.length ≤ 100)
    (h : ∀ x dx h', Fr h₀ L h' m → News h₀ L h' ((x, timeObj dx vs) :: (dx, dictOf [] 0) :: news) → (∀ p ∈ news, p.1 < dx) → dx < x → Q (.ref x) { s with heap := h' }) :
    wpAny (MM w) A (call (.builtin "tuple.__new__") [.ref 138, .ref a]) Q E s := by
  have X := X₀.keeps F.keep
  obtain ⟨h₁, g, d, t, os⟩ := s
  dsimp only at X F N h
  have l0 := (time_looks X).2.2.2.2.2.1
  have l1 := tn_l1 X
  have l4 := tn_l4 X
  have l5 := (time_looks X).2.2.2.2.2.2
  refine wpAny_call (codeAny_call_builtin PySem.F.plain_tuple_new PySem.F.entry_tuple_new (tn_check X ?_))
  unfold Builtin.«tuple.__new__»
  refine wpAny_bind (l1.at ?_)
  simp only [Bool.not_true, Bool.false_eq_true, if_false]
  refine wpAny_bind (l0.at ?_)
  simp only [Bool.not_true, Bool.false_eq_true, if_false]
  refine wpAny_bind (l4.at ?_)
  refine wpAny_bind (l5.at ?_)
  have hsl : vs.toArray.size ≤ sizeLine := by
    rw [sizeLine_eq, List.size_toArray]; omega
  have hC : ∃ oc od cd sl, h₁.get? 138 = some ⟨oc, od, .cls cd, sl⟩ ∧ cd.hasDel = false := by
    have e : (match (hd.heap_39 w.params).lookup 138 with | some ⟨_, _, .cls cd, _⟩ => !cd.hasDel | _ => false) = true := by kernel_rfl
    split at e
    · rename_i oc od cd sl ho
      exact ⟨oc, od, cd, sl, X _ _ ho, by simpa using e⟩
    · cases e
  obtain ⟨oc, od, cd, sl, hC, hdel⟩ := hC
  rw [if_pos (beq_self_eq_true _)]
  refine wpAny_bind (wpAny_pure ?_)
  refine wpAny_bind (wpAny_pure ?_)
  have ne : (Value.ref 138 == Value.type "tuple") = false := by decide
  rw [ne]
  simp only [Bool.false_eq_true, if_false]
  refine wpAny_bind (wpAny_collect_seq (hsz := hsl) a (.inr rfl) (N _ hm).1 rfl rfl fun h₂ hk => ?_)
  refine wpAny_bind (wpAny_pure (wpAny_bind (wpAny_alloc (wpAny_bind ?_))))
  have F₂ : Fr h₀ L h₂ m := F.keeps hk
  have N₂ : News h₀ L h₂ news := fun p hp => ⟨hk _ _ (N p hp).1, (N p hp).2⟩
  have e : vs.toArray.toList.toArray = vs.toArray := by simp
  rw [e]
  have hk2 := Heap.get?_push_of_some (h := h₂) { cls := .type "dict", data := .dict #[] } (hk _ _ hC)
  unfold newObj
  dsimp only
  rw [if_neg (Nat.not_lt.mpr hsl)]
  unfold newObjAsIs classHasDel
  refine wpAny_bind (wpAny_alloc (wpAny_bind (wpAny_bind (wpAny_load (Heap.get?_push_of_some _ hk2) (wpAny_pure ?_)))))
  rw [hdel]
  refine wpAny_pure (wpAny_pure ?_)
  have N₃ := (N₂.push F₂ { cls := .type "dict", data := .dict #[] }).push (F₂.push _) (timeObj h₂.objs.size vs)
  rw [Heap.size_push] at N₃
  exact h _ h₂.objs.size _ ((F₂.push _).push _) (by rw [Heap.size_push]; exact N₃) (fun p hp => Heap.lt_size (N₂ p hp).1) (by rw [Heap.size_push]; exact Nat.lt_succ_self _)
end
end Mine
end

section
open PySem PySem.W PyProof.Rows
set_option maxRecDepth 100000
set_option maxHeartbeats 8000000
namespace Mine
open PySem.Calls Builtin Builtin.ObjectAttr Builtin.Getset_descriptor
section
variable {w : World} {A : Around} {E : Value → Shared → Prop} {s : Shared} {h₀ : Heap} {L : Addr} {m : Str → Option Value} {news : List (Addr × Obj)}
theorem sub_nested {prog : Program} {w' : World} {k : Value} {dep : Int} {tk : Tok} {Q : PySem.Fin → Shared → Prop} (X : (hd.heap_39 w.params).In s.heap) (hk : k = .int dep tk) (hq : Q (.done (.ret (.bool true))) s) :
    wpAny (model prog w') A (Builtin.«issubclass.nested» ⟨[.ref 138, .type "tuple", k], []⟩) Q E s := by
  subst hk
  unfold Builtin.«issubclass.nested»
  dsimp only
  rw [meta_tuple]
  refine wpAny_bind (wpAny_pure ?_)
  rw [if_pos (beq_self_eq_true _)]
  refine wpAny_bind ((Looks.of_peek (r := true) X ?_).here ?_)
  · kernel_rfl
  · exact wpAny_pure hq
theorem call_sub {Q : Value → Shared → Prop} (F : Fr h₀ L s.heap m) (X : (hd.heap_39 w.params).In h₀) (h : Q (.bool true) s) : wpAny (MM w) A (call (.builtin "issubclass") [.ref 138, .type "tuple"]) Q E s :=
  call_issubclass (S := fun _ R s => (hd.heap_39 w.params).In s.heap ∧ R (.ok (.ret (.bool true))) s) (fun _ _ _ _ _ hs => issubclass_outer (sub_nested hs.1 rfl hs.2)) ⟨X.keeps F.keep, h⟩
theorem find_gi : findCls (hd.heap_39 w.params) (.type "tuple") (.type "type") "__getitem__" = some (.val (.builtin "tuple.__getitem__")) := by kernel_rfl
theorem getm_gi {pl : Sem Bool} {Q : Value × List Value → Shared → Prop} (F : Fr h₀ L s.heap m) (X₀ : (hd.heap_39 w.params).In h₀)
    (h : Q (.builtin "tuple.__getitem__", []) { s with toks := s.toks + 1 }) : wpAny (MM w) A (getMethod (.type "tuple") (Str.ofString "__getitem__") pl) Q E s := by
  have hh : handedIn (.builtin "tuple.__getitem__") = true := by decide +kernel
  exact method_type (T := "tuple") (K := hd.heap_39 w.params) (v := .builtin "tuple.__getitem__") (name := Str.ofString "__getitem__") F X₀ meta_tuple stub_tuple find_gi hh h
theorem gi_plain : plainId "tuple.__getitem__" = true := by decide +kernel
theorem gi_kind : builtinKind "tuple.__getitem__" = some .slot := by decide +kernel
theorem gi_split : splitId "tuple.__getitem__" = some ("tuple", "__getitem__") := by decide +kernel
theorem gi_call {x dx : Addr} {vs : List Value} {k : Int} {u : Tok} {v : Value} {Q : Value → Shared → Prop} (F : Fr h₀ L s.heap m) (X₀ : (hd.heap_39 w.params).In h₀) (N : News h₀ L s.heap news)
    (h1 : (x, timeObj dx vs) ∈ news) (h0 : 0 ≤ k) (hk : k < 100) (hj : seqIndex? k vs.length = some k.toNat) (hx : vs[k.toNat]? = some v) (h : Q v s) :
    wpAny (MM w) A (call (.builtin "tuple.__getitem__") [.ref x, .int k u]) Q E s := by
  have X := X₀.keeps F.keep
  have hx0 := (N _ h1).1
  have t1 : Looks (MM w) s.heap (typeOf (.ref x)) (.ref 138) := (Looks.ld (M := MM w) (part := none) hx0).andThen .now
  have t2 : Looks (MM w) s.heap (isInstance (.ref x) (.type "tuple")) true := t1.andThen (time_looks X).2.2.2.2.2.1
  refine wpAny_call (codeAny_call_builtin gi_plain PySem.F.entry_tuple_getitem (@check_slot (MM w) _ _ _ "tuple.__getitem__" "tuple" "__getitem__" (.ref x) [.int k u] [] _ gi_kind gi_split t2 (PySem.F.args_tuple_getitem_2 _ _) ?_))
  show wpAny _ _ (Builtin.Tuple.tupleItemsOf (.ref x) >>= _) _ _ s
  unfold Builtin.Tuple.tupleItemsOf
  refine wpAny_bind (wpAny_bind (wpAny_seqItems hx0 rfl (wpAny_pure ?_)))
  refine wpAny_bind (wpAny_typeOf (typeIs_int s k u) ?_)
  rw [if_neg (by decide)]
  refine wpAny_bind (wpAny_specialOf (T := "int") (typeIs_int s k u) int_index ?_)
  rw [if_neg (by simp)]
  refine wpAny_bind (wpAny_of_eq (a := k) rfl ?_)
  rw [if_neg (by simp; omega)]
  have e : (seqIndex? k vs.toArray.size).bind (vs.toArray[·]?) = some v := by
    rw [List.size_toArray, hj, Option.bind_some]; simpa using hx
  rw [e]
  exact wpAny_pure h
end
end Mine
end

section
open PySem PySem.W PyProof.Rows
set_option maxRecDepth 100000
set_option maxHeartbeats 8000000
namespace Mine
open PySem.Calls Builtin Builtin.ObjectAttr Builtin.Getset_descriptor
section
variable {w : World} {A : Around} {E : Value → Shared → Prop} {s : Shared} {h₀ : Heap} {L : Addr} {m : Str → Option Value} {news : List (Addr × Obj)}
theorem time_inst {h : Heap} {x dx : Addr} {vs : List Value} (N : News h₀ L h news) (h1 : (x, timeObj dx vs) ∈ news) (h2 : (dx, dictOf [] 0) ∈ news) :
    InstAt h x (timeObj dx vs) 138 (some (dictOf [] 0)) := ⟨(N _ h1).1, rfl, rfl, (N _ h2).1⟩
theorem time_ga {h : Heap} (X : (hd.heap_39 w.params).In h) : Looks (MM w) h (typeLookup (.ref 138) "__getattribute__") (some (.builtin "tuple.__getattribute__")) := looks_findIn X (by kernel_rfl)
theorem time_gb {h : Heap} (X : (hd.heap_39 w.params).In h) : Looks (MM w) h (typeLookup (.ref 138) "__getattr__") none := looks_findIn X (by kernel_rfl)
theorem ga_plain : plainId "tuple.__getattribute__" = true := by decide +kernel
theorem ga_kind : builtinKind "tuple.__getattribute__" = some .slot := by decide +kernel
theorem ga_split : splitId "tuple.__getattribute__" = some ("tuple", "__getattribute__") := by decide +kernel
theorem ga_args (a b : Value) : argsOk "tuple.__getattribute__" ⟨[a, b], []⟩ := by unfold argsOk; kernel_rfl
theorem ga_bind (v : Value) : bindSpecial (.builtin "tuple.__getattribute__") v = pure (.builtin "tuple.__getattribute__", [v]) := PySem.F.slot_tuple_getattribute.bind v

theorem get_time {x dx : Addr} {vs : List Value} {name : Str} {a : Addr} {ex : Bool} {Q : Value → Shared → Prop} (F : Fr h₀ L s.heap m) (X₀ : (hd.heap_39 w.params).In h₀) (N : News h₀ L s.heap news)
    (h1 : (x, timeObj dx vs) ∈ news) (h2 : (dx, dictOf [] 0) ∈ news) (hf : findObj (hd.heap_39 w.params) 138 (some (dictOf [] 0)) name = some (.bind (.ref 43) (.ref a)))
    (h : ∀ E', wpAny (MM w) A.in1 (call (.ref 43) [.ref a, .ref x, .ref 138]) (fun v s' => wpAny (MM w) A (handedOut v) Q E s') E' { s with toks := s.toks + 1 }) :
    wpAny (MM w) A (getAttr (.ref x) name ex) Q E s := by
  have X := X₀.keeps F.keep
  have I := time_inst N h1 h2
  obtain ⟨hh, g, d, t, os⟩ := s
  dsimp only at X I F N
  have t1 : Looks (MM w) hh (typeOf (.ref x)) (.ref 138) := I.type
  have t2 : Looks (MM w) hh (isInstance (.ref x) (.type "tuple")) true := t1.andThen (time_looks X).2.2.2.2.2.1
  have t3 := looks_find (M := MM w) X I hf
  have t4 := time_ga X
  have t5 := time_gb X
  unfold getAttr getAttrBy
  refine wpAny_bind (wpAny_mkText (wpAny_holding (wpAny_bind (t1.at (wpAny_bind (t4.at ?_))))))
  show wpAny _ _ (getAttrByItsOwn (.ref x) (.str name t) (.ref 138) (.builtin "tuple.__getattribute__") true ex) _ _ _
  unfold getAttrByItsOwn hookBefore callGetattribute boundAndCalled
  refine wpAny_bind (t5.at ?_)
  refine wpAny_bind (wpAny_attempt (wpAny_holding ?_))
  have e : (ex && onTheHeap (.builtin "tuple.__getattribute__")) = false := by cases ex <;> rfl
  rw [e]
  simp only [Bool.false_eq_true, if_false]
  refine wpAny_bind (wpAny_of_eq (ga_bind _) ?_)
  refine wpAny_call (codeAny_call_builtin ga_plain am_entry_tuple_getattribute (@check_slot (MM w) _ _ _ "tuple.__getattribute__" "tuple" "__getattribute__" (.ref x) [.str name t] [] _ ga_kind ga_split t2 (ga_args _ _) ?_))
  unfold Builtin.«object.__getattribute__»
  refine wpAny_bind (wpAny_pure (wpAny_bind (wpAny_pure (wpAny_bind (t1.at (wpAny_bind (t3.at ?_)))))))
  show wpAny _ _ (bindTo (.ref 43) (.ref a) (.ref x) (.ref 138)) _ _ _
  show wpAny _ _ (holding [.ref a] (call (.ref 43) [.ref a, .ref x, .ref 138]) >>= ret) _ _ _
  exact wpAny_bind (wpAny_holding (wpAny_mono (h _) (fun v s' z => wpAny_pure z) fun _ _ z => z))
end
end Mine
end

section
open PySem PySem.W PyProof.Rows
set_option maxRecDepth 100000
set_option maxHeartbeats 8000000
namespace Mine
open PySem.Calls Builtin Builtin.ObjectAttr Builtin.Getset_descriptor
section
variable {w : World} {A : Around} {E : Value → Shared → Prop} {s : Shared} {h₀ : Heap} {L : Addr} {m : Str → Option Value} {news : List (Addr × Obj)}
theorem range_in (r : Addr) (i n : Int) (ti t u v : Tok) : Meets (Builtin.«range.__contains__» ⟨[.ref r, .int i ti], []⟩)
    (fun _ R s => IsRange s.heap r 0 n 1 t u v ∧ R (.ok (.ret (.bool (decide (0 ≤ i ∧ i < n))))) s) :=
  Meets.of_wp fun prog w A R s hs => by
    obtain ⟨hr, hq⟩ := hs
    have e : (Builtin.Range.rangePlace? 0 n 1 i).isSome = decide (0 ≤ i ∧ i < n) := by
      unfold Builtin.Range.rangePlace?
      have h1 : (i - 0) % 1 = 0 := Int.emod_one _
      rw [h1]
      by_cases h : 0 ≤ i ∧ i < n
      · simp [h]
      · rw [decide_eq_false h]
        have h2 : (decide (0 ≤ i) && decide (i < n)) = false := by
          rcases Classical.em (0 ≤ i) with h3 | h3
          · have h4 : ¬ i < n := fun h4 => h ⟨h3, h4⟩
            simp [h3, h4]
          · simp [h3]
        simp [h2]
    unfold Builtin.«range.__contains__»
    refine wpAny_bind (wpAny_pure ?_)
    dsimp only [Builtin.Range.rangeExactInt?]
    refine wpAny_bind (wpAny_rule ?_)
    unfold Builtin.Range.rangeFields
    refine wpAny_bind (wpAny_bind (wpAny_field hr rfl (x := .int 0 t) rfl (wpAny_bind (wpAny_pure (wpAny_bind (wpAny_field hr rfl (x := .int n u) rfl (wpAny_bind (wpAny_pure (wpAny_bind (wpAny_field hr rfl (x := .int 1 v) rfl (wpAny_bind (wpAny_pure (wpAny_pure ?_)))))))))))))
    rw [e]
    exact wpAny_pure ⟨_, rfl, hq⟩
theorem notin_range {r : Addr} {i n : Int} {ti t u v : Tok} {Q : Value → Shared → Prop} (hR : IsRange s.heap r 0 n 1 t u v)
    (h : Q (.bool (decide (i < 0 ∨ n ≤ i))) s) : wpAny (MM w) A (compareOp .NotIn (.int i ti) (.ref r)) Q E s := by
  have e : (!decide (0 ≤ i ∧ i < n)) = decide (i < 0 ∨ n ≤ i) := by
    rw [← decide_not]
    exact decide_eq_decide.mpr (by omega)
  exact PySem.SeqRoads2.notIn_meets (T := "range") ⟨_, hR, rfl⟩ PySem.F.slot_range_contains PySem.F.entry_range_contains (PySem.F.args_range_contains_2 _ _) (range_in r i n ti t u v) ⟨hR, _, rfl, by rw [e]; exact h⟩
end
end Mine
end

section
open PySem PySem.W PyProof.Rows
set_option maxRecDepth 100000
set_option maxHeartbeats 8000000
namespace Mine
local macro_rules | `(tactic| k_room) => `(tactic| ktr_room)
local macro_rules | `(tactic| k_units) => `(tactic| ktr_units)
local macro_rules | `(tactic| walk_at "getMethod type:tuple") => `(tactic| (k_here; (refine' getm_new ?k1 ?k2 ?_; (case k1 => k_asm); (case k2 => k_asm))))
local macro_rules | `(tactic| walk_at "call builtin:tuple.__new__") => `(tactic| (k_here; (refine' tn_call ?k1 ?k2 ?k3 ?k4 ?k5 ?_; (case k1 => k_asm); (case k2 => k_asm); (case k3 => k_asm); (case k4 => k_mem); (case k5 => exact Nat.le_of_ble_eq_true rfl)); intro x' d' h' F' N' l1 l2; (try k_lt l1); (try k_lt2 l2)))
theorem of_allLt {d : Nat} : ∀ {l : List (Addr × Obj)}, AllLt d l → ∀ p ∈ l, p.1 < d
  | [], _ => fun _ h => nomatch h
  | p :: r, h => fun q hq => by
    rcases List.mem_cons.mp hq with rfl | hq
    · exact h.1
    · exact of_allLt h.2 q hq
theorem time_new {w : World} {mean : ExcName → Option Value} {mg mb : Str → Option Value} {dp un : Nat} {gd : Option (List Code)} {cn : Str} {cs : Scope} {L a₀ : Addr} {ccd : Value} {cl : List (Str × Addr)} {outer : List Env} {A₀ : Around} {base h₀ : Heap}
   {m : Str → Option Value} {news : List (Addr × Obj)} {s : Shared} {Q E : Value → Shared → Prop} {a b c e : Int} {ta tb tc te : Tok}
   (B : Below A₀ base outer h₀) (F : Fr h₀ L s.heap m) (X : (hd.heap_39 w.params).In h₀) (N : News h₀ L s.heap news) (T : Top hd.view_39 (looseW hd.view_39 [Str.ofString "_tuplegetter", Str.ofString "Time"]) mean mg mb h₀) (hk : cs.kind = .function) (hd : dp + 4 < recursionLimit) (hu : un + 40 < cLine)
   (hret : ∀ x dx h' tk', Fr h₀ L h' m → News h₀ L h' ((x, timeObj dx [.int a ta, .int b tb, .int c tc, .int e te]) :: (dx, dictOf [] 0) :: news) → (∀ p ∈ news, p.1 < dx) → dx < x → Q (.ref x) { s with heap := h', toks := tk' }) :
   wpAny (model PySem.Challenge.pw_dg5009_01 w) (ktrTop dp un gd cn cs L a₀ ccd cl outer) (call (.ref 82) [.ref 138] (timeKw (.int a ta) (.int b tb) (.int c tc) (.int e te))) Q E s := by
  (have hfill : PySem.Challenge.rw_dg5009_01 = PySem.Challenge.rw_dg5009_01 ∧ Mine.hd.heap_39 = Mine.hd.heap_39 := by (k_fill; exact ⟨rfl, rfl⟩))
  w_on
  refine wpAny_call ?_
  k_dflt ktr_enter
  k_steps
  refine' hret _ _ _ _ ?h1 (cb_drop ?h2 ?h4) ?h3 ?h5
  case h1 => k_asm
  case h2 => k_asm
  case h4 => kcj_all
  case h3 =>
    (rename _ ∧ AllLt _ _ => hq)
    exact of_allLt hq.2
  case h5 => assumption
theorem time_call {w : World} {mean : ExcName → Option Value} {mg mb : Str → Option Value} {dp un : Nat} {gd : Option (List Code)} {cn : Str} {cs : Scope} {L a₀ : Addr} {ccd : Value} {cl : List (Str × Addr)} {outer : List Env} {A₀ : Around} {base h₀ : Heap}
   {m : Str → Option Value} {news : List (Addr × Obj)} {s : Shared} {Q E : Value → Shared → Prop} {a b c e : Int} {ta tb tc te : Tok}
   (B : Below A₀ base outer h₀) (F : Fr h₀ L s.heap m) (X : (hd.heap_39 w.params).In h₀) (N : News h₀ L s.heap news) (T : Top hd.view_39 (looseW hd.view_39 [Str.ofString "_tuplegetter", Str.ofString "Time"]) mean mg mb h₀) (hk : cs.kind = .function) (hd : dp + 5 < recursionLimit) (hu : un + 41 < cLine)
   (hret : ∀ x dx h' tk', Fr h₀ L h' m → News h₀ L h' ((x, timeObj dx [.int a ta, .int b tb, .int c tc, .int e te]) :: (dx, dictOf [] 0) :: news) → (∀ p ∈ news, p.1 < dx) → dx < x → Q (.ref x) { s with heap := h', toks := tk' }) :
   wpAny (model PySem.Challenge.pw_dg5009_01 w) (ktrTop dp un gd cn cs L a₀ ccd cl outer) (call (.ref 138) [] (timeKw (.int a ta) (.int b tb) (.int c tc) (.int e te))) Q E s := by
  refine wpAny_call (time_code F X ?_)
  show wpAny _ (ktrTop (dp + 1) (un + 1) gd cn cs L a₀ ccd cl outer) _ _ _ _
  exact time_new (s := { s with toks := s.toks + 1 }) B F X N T hk (by omega) (by omega) fun x dx h' tk' F' N' l l2 => ⟨x, _, rfl, (N' _ (.head _)).1, rfl, X.keeps F'.keep, hret x dx h' tk' F' N' l l2⟩
end Mine
end

section
open PySem PySem.W PyProof.Rows
set_option maxRecDepth 100000
set_option maxHeartbeats 8000000
namespace Mine
local macro_rules | `(tactic| k_room) => `(tactic| ktr_room)
local macro_rules | `(tactic| k_units) => `(tactic| ktr_units)
local macro_rules | `(tactic| ktr_enter) => `(tactic| (refine' code_def ?k1 ?k2 ?k3 ?k4 ?k5 ?kA ?kF ?kK ?k6 ?k7 ?k8 ?k9 ?kB ?_ ?c2 ?c3 ?c4 ?c5; (case kA => exact rfl); (case kF => exact rfl); (case kK => first | exact rfl | assumption); (case k1 => k_asm); (case k2 => k_asm); (case k3 => k_asm); (case k4 => k_asm); (case k5 => k_asm); (case k6 => k_is); (case k7 => k_is); (case k8 => ktr_room); (case k9 => first | exact BindsTo.of_eq rfl | exact binds_K (by k_in) rfl (by k_is) rfl rfl rfl); (case c5 => decide); (case kB => exact locs rfl); (case c2 => exact rfl); (case c3 => exact rfl); (case c4 => exact rfl); k_whole; intro g' L' h' FG' F' N' B' X' T'; (try dsimp only); (try k_fold)))
local macro_rules | `(tactic| k_inst) => `(tactic| (refine' time_inst ?N ?h1 ?h2; (case N => k_asm); (case h1 => first | assumption | k_mem); (case h2 => first | assumption | k_mem)))
local macro_rules | `(tactic| walk_at "getMethod type:tuple") => `(tactic| (k_here; (refine' getm_gi ?k1 ?k2 ?_; (case k1 => k_asm); (case k2 => k_asm))))
local macro_rules | `(tactic| walk_at "call builtin:issubclass") => `(tactic| (k_here; (refine' call_sub ?k1 ?k2 ?_; (case k1 => k_asm); (case k2 => k_asm))))
local macro_rules | `(tactic| walk_at "call builtin:tuple.__getitem__") => `(tactic| (k_here; (refine' gi_call ?k1 ?k2 ?k3 ?k4 ?k5 ?k6 ?k7 ?k8 ?_; (case k1 => k_asm); (case k2 => k_asm); (case k3 => k_asm); (case k4 => k_mem); (case k5 => decide); (case k6 => decide); (case k7 => exact rfl); (case k8 => exact rfl))))
theorem getter_hour {w : World} {mean : ExcName → Option Value} {mg mb : Str → Option Value} {dp un : Nat} {gd : Option (List Code)} {cn : Str} {cs : Scope} {L a₀ : Addr} {ccd : Value} {cl : List (Str × Addr)} {outer : List Env} {A₀ : Around} {base h₀ : Heap}
   {m : Str → Option Value} {news : List (Addr × Obj)} {s : Shared} {Q E : Value → Shared → Prop} {v0 v1 v2 v3 : Value} {x dx : Addr}
   (B : Below A₀ base outer h₀) (F : Fr h₀ L s.heap m) (X : (hd.heap_39 w.params).In h₀) (N : News h₀ L s.heap news) (T : Top hd.view_39 (looseW hd.view_39 [Str.ofString "_tuplegetter", Str.ofString "Time"]) mean mg mb h₀) (hk : cs.kind = .function) (hd : dp + 4 < recursionLimit) (hu : un + 40 < cLine)
   (h1 : (x, timeObj dx [v0, v1, v2, v3]) ∈ news) (h2 : (dx, dictOf [] 0) ∈ news)
   (hret : ∀ h' tk', Fr h₀ L h' m → News h₀ L h' news → Q v0 { s with heap := h', toks := tk' }) :
   wpAny (model PySem.Challenge.pw_dg5009_01 w) (ktrTop dp un gd cn cs L a₀ ccd cl outer) (call (.ref 43) [.ref 124, .ref x, .ref 138]) Q E s := by
  (have hfill : PySem.Challenge.rw_dg5009_01 = PySem.Challenge.rw_dg5009_01 ∧ Mine.hd.heap_39 = Mine.hd.heap_39 := by (k_fill; exact ⟨rfl, rfl⟩))
  w_on
  refine wpAny_call ?_
  k_dflt ktr_enter
  k_steps
  all_goals exact hret _ _ (by k_asm) (by k_asm)
theorem getter_minute {w : World} {mean : ExcName → Option Value} {mg mb : Str → Option Value} {dp un : Nat} {gd : Option (List Code)} {cn : Str} {cs : Scope} {L a₀ : Addr} {ccd : Value} {cl : List (Str × Addr)} {outer : List Env} {A₀ : Around} {base h₀ : Heap}
   {m : Str → Option Value} {news : List (Addr × Obj)} {s : Shared} {Q E : Value → Shared → Prop} {v0 v1 v2 v3 : Value} {x dx : Addr}
   (B : Below A₀ base outer h₀) (F : Fr h₀ L s.heap m) (X : (hd.heap_39 w.params).In h₀) (N : News h₀ L s.heap news) (T : Top hd.view_39 (looseW hd.view_39 [Str.ofString "_tuplegetter", Str.ofString "Time"]) mean mg mb h₀) (hk : cs.kind = .function) (hd : dp + 4 < recursionLimit) (hu : un + 40 < cLine)
   (h1 : (x, timeObj dx [v0, v1, v2, v3]) ∈ news) (h2 : (dx, dictOf [] 0) ∈ news)
   (hret : ∀ h' tk', Fr h₀ L h' m → News h₀ L h' news → Q v1 { s with heap := h', toks := tk' }) :
   wpAny (model PySem.Challenge.pw_dg5009_01 w) (ktrTop dp un gd cn cs L a₀ ccd cl outer) (call (.ref 43) [.ref 127, .ref x, .ref 138]) Q E s := by
  (have hfill : PySem.Challenge.rw_dg5009_01 = PySem.Challenge.rw_dg5009_01 ∧ Mine.hd.heap_39 = Mine.hd.heap_39 := by (k_fill; exact ⟨rfl, rfl⟩))
  w_on
  refine wpAny_call ?_
  k_dflt ktr_enter
  k_steps
  all_goals exact hret _ _ (by k_asm) (by k_asm)
theorem getter_second {w : World} {mean : ExcName → Option Value} {mg mb : Str → Option Value} {dp un : Nat} {gd : Option (List Code)} {cn : Str} {cs : Scope} {L a₀ : Addr} {ccd : Value} {cl : List (Str × Addr)} {outer : List Env} {A₀ : Around} {base h₀ : Heap}
   {m : Str → Option Value} {news : List (Addr × Obj)} {s : Shared} {Q E : Value → Shared → Prop} {v0 v1 v2 v3 : Value} {x dx : Addr}
   (B : Below A₀ base outer h₀) (F : Fr h₀ L s.heap m) (X : (hd.heap_39 w.params).In h₀) (N : News h₀ L s.heap news) (T : Top hd.view_39 (looseW hd.view_39 [Str.ofString "_tuplegetter", Str.ofString "Time"]) mean mg mb h₀) (hk : cs.kind = .function) (hd : dp + 4 < recursionLimit) (hu : un + 40 < cLine)
   (h1 : (x, timeObj dx [v0, v1, v2, v3]) ∈ news) (h2 : (dx, dictOf [] 0) ∈ news)
   (hret : ∀ h' tk', Fr h₀ L h' m → News h₀ L h' news → Q v2 { s with heap := h', toks := tk' }) :
   wpAny (model PySem.Challenge.pw_dg5009_01 w) (ktrTop dp un gd cn cs L a₀ ccd cl outer) (call (.ref 43) [.ref 130, .ref x, .ref 138]) Q E s := by
  (have hfill : PySem.Challenge.rw_dg5009_01 = PySem.Challenge.rw_dg5009_01 ∧ Mine.hd.heap_39 = Mine.hd.heap_39 := by (k_fill; exact ⟨rfl, rfl⟩))
  w_on
  refine wpAny_call ?_
  k_dflt ktr_enter
  k_steps
  all_goals exact hret _ _ (by k_asm) (by k_asm)
theorem getter_microsecond {w : World} {mean : ExcName → Option Value} {mg mb : Str → Option Value} {dp un : Nat} {gd : Option (List Code)} {cn : Str} {cs : Scope} {L a₀ : Addr} {ccd : Value} {cl : List (Str × Addr)} {outer : List Env} {A₀ : Around} {base h₀ : Heap}
   {m : Str → Option Value} {news : List (Addr × Obj)} {s : Shared} {Q E : Value → Shared → Prop} {v0 v1 v2 v3 : Value} {x dx : Addr}
   (B : Below A₀ base outer h₀) (F : Fr h₀ L s.heap m) (X : (hd.heap_39 w.params).In h₀) (N : News h₀ L s.heap news) (T : Top hd.view_39 (looseW hd.view_39 [Str.ofString "_tuplegetter", Str.ofString "Time"]) mean mg mb h₀) (hk : cs.kind = .function) (hd : dp + 4 < recursionLimit) (hu : un + 40 < cLine)
   (h1 : (x, timeObj dx [v0, v1, v2, v3]) ∈ news) (h2 : (dx, dictOf [] 0) ∈ news)
   (hret : ∀ h' tk', Fr h₀ L h' m → News h₀ L h' news → Q v3 { s with heap := h', toks := tk' }) :
   wpAny (model PySem.Challenge.pw_dg5009_01 w) (ktrTop dp un gd cn cs L a₀ ccd cl outer) (call (.ref 43) [.ref 133, .ref x, .ref 138]) Q E s := by
  (have hfill : PySem.Challenge.rw_dg5009_01 = PySem.Challenge.rw_dg5009_01 ∧ Mine.hd.heap_39 = Mine.hd.heap_39 := by (k_fill; exact ⟨rfl, rfl⟩))
  w_on
  refine wpAny_call ?_
  k_dflt ktr_enter
  k_steps
  all_goals exact hret _ _ (by k_asm) (by k_asm)
end Mine
end

section
open PySem PySem.W PyProof.Rows
set_option maxRecDepth 100000
set_option maxHeartbeats 8000000
namespace Mine
theorem time_f_hour {w : World} : findObj (hd.heap_39 w.params) 138 (some (dictOf [] 0)) (Str.ofString "hour") = some (.bind (.ref 43) (.ref 124)) := by kernel_rfl
theorem get_hour {w : World} {mean : ExcName → Option Value} {mg mb : Str → Option Value} {dp un : Nat} {gd : Option (List Code)} {cn : Str} {cs : Scope} {L a₀ : Addr} {ccd : Value} {cl : List (Str × Addr)} {outer : List Env} {A₀ : Around} {base h₀ : Heap}
   {m : Str → Option Value} {news : List (Addr × Obj)} {s : Shared} {Q E : Value → Shared → Prop} {a b c e : Int} {ta tb tc te : Tok} {x dx : Addr} {ex : Bool}
   (B : Below A₀ base outer h₀) (F : Fr h₀ L s.heap m) (X : (hd.heap_39 w.params).In h₀) (N : News h₀ L s.heap news) (T : Top hd.view_39 (looseW hd.view_39 [Str.ofString "_tuplegetter", Str.ofString "Time"]) mean mg mb h₀) (hk : cs.kind = .function) (hd : dp + 4 < recursionLimit) (hu : un + 41 < cLine)
   (h1 : (x, timeObj dx [.int a ta, .int b tb, .int c tc, .int e te]) ∈ news) (h2 : (dx, dictOf [] 0) ∈ news)
   (hret : ∀ h' tk', Fr h₀ L h' m → News h₀ L h' news → Q (.int a ta) { s with heap := h', toks := tk' }) :
   wpAny (model PySem.Challenge.pw_dg5009_01 w) (ktrTop dp un gd cn cs L a₀ ccd cl outer) (getAttr (.ref x) (Str.ofString "hour") ex) Q E s := by
  refine get_time F X N h1 h2 time_f_hour fun E' => ?_
  show wpAny _ (ktrTop dp (un + 1) gd cn cs L a₀ ccd cl outer) _ _ _ _
  exact getter_hour (s := { s with toks := s.toks + 1 }) B F X N T hk hd (by omega) h1 h2 fun h' tk' F' N' => handed_on rfl (hret h' tk' F' N')
theorem time_f_minute {w : World} : findObj (hd.heap_39 w.params) 138 (some (dictOf [] 0)) (Str.ofString "minute") = some (.bind (.ref 43) (.ref 127)) := by kernel_rfl
theorem get_minute {w : World} {mean : ExcName → Option Value} {mg mb : Str → Option Value} {dp un : Nat} {gd : Option (List Code)} {cn : Str} {cs : Scope} {L a₀ : Addr} {ccd : Value} {cl : List (Str × Addr)} {outer : List Env} {A₀ : Around} {base h₀ : Heap}
   {m : Str → Option Value} {news : List (Addr × Obj)} {s : Shared} {Q E : Value → Shared → Prop} {a b c e : Int} {ta tb tc te : Tok} {x dx : Addr} {ex : Bool}
   (B : Below A₀ base outer h₀) (F : Fr h₀ L s.heap m) (X : (hd.heap_39 w.params).In h₀) (N : News h₀ L s.heap news) (T : Top hd.view_39 (looseW hd.view_39 [Str.ofString "_tuplegetter", Str.ofString "Time"]) mean mg mb h₀) (hk : cs.kind = .function) (hd : dp + 4 < recursionLimit) (hu : un + 41 < cLine)
   (h1 : (x, timeObj dx [.int a ta, .int b tb, .int c tc, .int e te]) ∈ news) (h2 : (dx, dictOf [] 0) ∈ news)
   (hret : ∀ h' tk', Fr h₀ L h' m → News h₀ L h' news → Q (.int b tb) { s with heap := h', toks := tk' }) :
   wpAny (model PySem.Challenge.pw_dg5009_01 w) (ktrTop dp un gd cn cs L a₀ ccd cl outer) (getAttr (.ref x) (Str.ofString "minute") ex) Q E s := by
  refine get_time F X N h1 h2 time_f_minute fun E' => ?_
  show wpAny _ (ktrTop dp (un + 1) gd cn cs L a₀ ccd cl outer) _ _ _ _
  exact getter_minute (s := { s with toks := s.toks + 1 }) B F X N T hk hd (by omega) h1 h2 fun h' tk' F' N' => handed_on rfl (hret h' tk' F' N')
theorem time_f_second {w : World} : findObj (hd.heap_39 w.params) 138 (some (dictOf [] 0)) (Str.ofString "second") = some (.bind (.ref 43) (.ref 130)) := by kernel_rfl
theorem get_second {w : World} {mean : ExcName → Option Value} {mg mb : Str → Option Value} {dp un : Nat} {gd : Option (List Code)} {cn : Str} {cs : Scope} {L a₀ : Addr} {ccd : Value} {cl : List (Str × Addr)} {outer : List Env} {A₀ : Around} {base h₀ : Heap}
   {m : Str → Option Value} {news : List (Addr × Obj)} {s : Shared} {Q E : Value → Shared → Prop} {a b c e : Int} {ta tb tc te : Tok} {x dx : Addr} {ex : Bool}
   (B : Below A₀ base outer h₀) (F : Fr h₀ L s.heap m) (X : (hd.heap_39 w.params).In h₀) (N : News h₀ L s.heap news) (T : Top hd.view_39 (looseW hd.view_39 [Str.ofString "_tuplegetter", Str.ofString "Time"]) mean mg mb h₀) (hk : cs.kind = .function) (hd : dp + 4 < recursionLimit) (hu : un + 41 < cLine)
   (h1 : (x, timeObj dx [.int a ta, .int b tb, .int c tc, .int e te]) ∈ news) (h2 : (dx, dictOf [] 0) ∈ news)
   (hret : ∀ h' tk', Fr h₀ L h' m → News h₀ L h' news → Q (.int c tc) { s with heap := h', toks := tk' }) :
   wpAny (model PySem.Challenge.pw_dg5009_01 w) (ktrTop dp un gd cn cs L a₀ ccd cl outer) (getAttr (.ref x) (Str.ofString "second") ex) Q E s := by
  refine get_time F X N h1 h2 time_f_second fun E' => ?_
  show wpAny _ (ktrTop dp (un + 1) gd cn cs L a₀ ccd cl outer) _ _ _ _
  exact getter_second (s := { s with toks := s.toks + 1 }) B F X N T hk hd (by omega) h1 h2 fun h' tk' F' N' => handed_on rfl (hret h' tk' F' N')
theorem time_f_microsecond {w : World} : findObj (hd.heap_39 w.params) 138 (some (dictOf [] 0)) (Str.ofString "microsecond") = some (.bind (.ref 43) (.ref 133)) := by kernel_rfl
theorem get_microsecond {w : World} {mean : ExcName → Option Value} {mg mb : Str → Option Value} {dp un : Nat} {gd : Option (List Code)} {cn : Str} {cs : Scope} {L a₀ : Addr} {ccd : Value} {cl : List (Str × Addr)} {outer : List Env} {A₀ : Around} {base h₀ : Heap}
   {m : Str → Option Value} {news : List (Addr × Obj)} {s : Shared} {Q E : Value → Shared → Prop} {a b c e : Int} {ta tb tc te : Tok} {x dx : Addr} {ex : Bool}
   (B : Below A₀ base outer h₀) (F : Fr h₀ L s.heap m) (X : (hd.heap_39 w.params).In h₀) (N : News h₀ L s.heap news) (T : Top hd.view_39 (looseW hd.view_39 [Str.ofString "_tuplegetter", Str.ofString "Time"]) mean mg mb h₀) (hk : cs.kind = .function) (hd : dp + 4 < recursionLimit) (hu : un + 41 < cLine)
   (h1 : (x, timeObj dx [.int a ta, .int b tb, .int c tc, .int e te]) ∈ news) (h2 : (dx, dictOf [] 0) ∈ news)
   (hret : ∀ h' tk', Fr h₀ L h' m → News h₀ L h' news → Q (.int e te) { s with heap := h', toks := tk' }) :
   wpAny (model PySem.Challenge.pw_dg5009_01 w) (ktrTop dp un gd cn cs L a₀ ccd cl outer) (getAttr (.ref x) (Str.ofString "microsecond") ex) Q E s := by
  refine get_time F X N h1 h2 time_f_microsecond fun E' => ?_
  show wpAny _ (ktrTop dp (un + 1) gd cn cs L a₀ ccd cl outer) _ _ _ _
  exact getter_microsecond (s := { s with toks := s.toks + 1 }) B F X N T hk hd (by omega) h1 h2 fun h' tk' F' N' => handed_on rfl (hret h' tk' F' N')
end Mine
end

section
open PySem PySem.W PyProof.Rows
set_option maxRecDepth 100000
set_option maxHeartbeats 8000000
namespace Mine
local macro_rules | `(tactic| k_room) => `(tactic| ktr_room)
local macro_rules | `(tactic| k_units) => `(tactic| ktr_units)
local macro_rules | `(tactic| ktr_enter) => `(tactic| (refine' code_def ?k1 ?k2 ?k3 ?k4 ?k5 ?kA ?kF ?kK ?k6 ?k7 ?k8 ?k9 ?kB ?_ ?c2 ?c3 ?c4 ?c5; (case kA => exact rfl); (case kF => exact rfl); (case kK => first | exact rfl | assumption); (case k1 => k_asm); (case k2 => k_asm); (case k3 => k_asm); (case k4 => k_asm); (case k5 => k_asm); (case k6 => k_is); (case k7 => k_is); (case k8 => ktr_room); (case k9 => first | exact BindsTo.of_eq rfl | exact binds_K (by k_in) rfl (by k_is) rfl rfl rfl); (case kB => exact locs rfl); (case c2 => exact rfl); (case c3 => exact rfl); (case c4 => exact rfl); (case c5 => decide); k_whole; intro g' L' h' FG' F' N' B' X' T'; (try dsimp only); (try k_fold)))
theorem ff {b : Bool} {p : Prop} (h1 : b = true) (h2 : b = false) : p := by rw [h1] at h2; cases h2
def figS (x : Str) : Int := Txt.find (Str.ofString "0123456789") x
def winOf (d : Str) : Option Int :=
  if (d.length : Int) = 1 ∧ 0 ≤ figS d then some (figS d)
  else if (d.length : Int) ≠ 2 then none
  else if figS (Txt.item d 1) < 0 then none
  else if (Txt.item d 0 == Str.ofString "+") = true then some (figS (Txt.item d 1))
  else if (Txt.item d 0 == Str.ofString "-") = true then some (-figS (Txt.item d 1))
  else if figS (Txt.item d 0) < 0 then none
  else some (10 * figS (Txt.item d 0) + figS (Txt.item d 1))
abbrev windowT : Told Str where
  Rel := fun _ v d => ∃ t, v = .str d t
  Ok := fun d => d.length ≤ 2
  size := fun _ => 8
  Tl := fun tl => tl = []
  Out := fun _ r d => (r = .none ∧ winOf d = none) ∨ ∃ n t, r = .int n t ∧ winOf d = some n
theorem window_tells (d : Str) : Ctr windowT 163 d := by
  (have hfill : PySem.Challenge.rw_dg5009_01 = PySem.Challenge.rw_dg5009_01 ∧ Mine.hd.heap_39 = Mine.hd.heap_39 := by (k_fill; exact ⟨rfl, rfl⟩))
  w_on
  unfold Ctr Tells
  intro w mean mg mb dp un gd cn cs a ccd cl outer A₀ base h₀ L m news s v Q E B F X N T hk hR hok hd hu hret
  obtain ⟨t, rfl⟩ := hR
  dsimp only at hok
  refine wpAny_call ?_
  k_dflt ktr_enter
  k_steps
  all_goals (refine hret _ [] _ _ (by k_asm) (by first | k_asm | (simp only [List.append_nil]; k_asm)) (fun _ _ _ h9 => nomatch h9) rfl ?_; clear hret)
  all_goals (first | refine Or.inl ⟨rfl, ?_⟩ | refine Or.inr ⟨_, _, rfl, ?_⟩)
  all_goals (unfold winOf figS; repeat' split)
  all_goals first | rfl | exact ff (b := (Txt.item d 0 == Str.ofString "+")) (by assumption) (by assumption) | exact ff (b := (Txt.item d 0 == Str.ofString "-")) (by assumption) (by assumption) | contradiction | (exfalso; omega)
end Mine
end

section
open PySem PySem.W PyProof.Rows
set_option maxRecDepth 100000
set_option maxHeartbeats 8000000
namespace Mine
local macro_rules | `(tactic| k_room) => `(tactic| ktr_room)
local macro_rules | `(tactic| k_units) => `(tactic| ktr_units)
local macro_rules | `(tactic| ktr_enter) => `(tactic| (refine' code_def ?k1 ?k2 ?k3 ?k4 ?k5 ?kA ?kF ?kK ?k6 ?k7 ?k8 ?k9 ?kB ?_ ?c2 ?c3 ?c4 ?c5; (case kA => exact rfl); (case kF => exact rfl); (case kK => first | exact rfl | assumption); (case k1 => k_asm); (case k2 => k_asm); (case k3 => k_asm); (case k4 => k_asm); (case k5 => k_asm); (case k6 => k_is); (case k7 => k_is); (case k8 => ktr_room); (case k9 => first | exact BindsTo.of_eq rfl | exact binds_K (by k_in) rfl (by k_is) rfl rfl rfl); (case kB => exact locs rfl); (case c2 => exact rfl); (case c3 => exact rfl); (case c4 => exact rfl); (case c5 => decide); k_whole; intro g' L' h' FG' F' N' B' X' T'; (try dsimp only); (try k_fold)))
local macro_rules | `(tactic| walk_at "exec For Name Subscript cons nil") => `(tactic| (k_here; (rename Fr _ _ _ _ => lF'); (with_unfolding_all refine' For_invVF lF' ?k1 ?k2 ?_; (case k1 => exact rfl); (case k2 => exact rfl); k_whole)))
local macro_rules | `(tactic| walk_at "exec While Compare") => `(tactic| (k_here; (rename Fr _ _ _ _ => st9); clear st9; k_extra "exec While Compare cons nil"))
def figC (c : Int) : Int := figS ⟨#[c.toNat]⟩
def valC (l : List Int) : Int := l.foldl (fun a c => 10 * a + figC c) 0
def FP (pre : List Int) (total size : Int) : Prop := (∀ c ∈ pre, 0 ≤ figC c) ∧ (pre.length ≤ 6 → size = pre.length ∧ total = valC pre) ∧ (6 < pre.length → size = 6)
theorem FP_nil : FP [] 0 0 := ⟨by simp, fun _ => ⟨rfl, rfl⟩, by simp⟩
theorem figC_nat (n : Nat) : figC (n : Int) = Txt.find (Str.ofString "0123456789") ⟨#[n]⟩ := rfl
theorem valC_snoc (l : List Int) (c : Int) : valC (l ++ [c]) = 10 * valC l + figC c := by unfold valC; rw [List.foldl_append]; rfl
theorem FP_more {pre : List Int} {total size : Int} {n : Nat} (h : FP pre total size) (hn : ¬ Txt.find (Str.ofString "0123456789") ⟨#[n]⟩ < 0) (hs : size < 6) :
    FP (pre ++ [(n : Int)]) (10 * total + Txt.find (Str.ofString "0123456789") ⟨#[n]⟩) (size + 1) := by
  obtain ⟨h1, h2, h3⟩ := h
  have hl : (pre ++ [(n : Int)]).length = pre.length + 1 := by simp
  refine ⟨fun c hc => ?_, fun h => ?_, fun h => ?_⟩
  · rcases List.mem_append.mp hc with hc | hc
    · exact h1 c hc
    · rw [List.mem_singleton.mp hc, figC_nat]; omega
  · obtain ⟨e1, e2⟩ := h2 (by omega)
    rw [hl, valC_snoc, figC_nat, ← e2]
    exact ⟨by omega, rfl⟩
  · by_cases h6 : pre.length ≤ 6
    · have := h2 h6; omega
    · have := h3 (by omega); omega
theorem FP_same {pre : List Int} {total size : Int} {n : Nat} (h : FP pre total size) (hn : ¬ Txt.find (Str.ofString "0123456789") ⟨#[n]⟩ < 0) (hs : ¬ size < 6) :
    FP (pre ++ [(n : Int)]) total size := by
  obtain ⟨h1, h2, h3⟩ := h
  have hl : (pre ++ [(n : Int)]).length = pre.length + 1 := by simp
  refine ⟨fun c hc => ?_, fun h => ?_, fun h => ?_⟩
  · rcases List.mem_append.mp hc with hc | hc
    · exact h1 c hc
    · rw [List.mem_singleton.mp hc, figC_nat]; omega
  · have := h2 (by omega); omega
  · by_cases h6 : pre.length ≤ 6
    · have := h2 h6; omega
    · exact h3 (by omega)
def WPd (t₀ s₀ total size : Int) : Prop := s₀ ≤ size ∧ (size ≤ 6 ∨ size = s₀) ∧ total = t₀ * 10 ^ (size - s₀).toNat
theorem WP_start (t₀ s₀ : Int) : WPd t₀ s₀ t₀ s₀ := ⟨Int.le_refl _, .inr rfl, by rw [Int.sub_self]; exact (Int.mul_one _).symm⟩
theorem WP_more {t₀ s₀ total size : Int} (h : WPd t₀ s₀ total size) (hs : size < 6) : WPd t₀ s₀ (10 * total) (size + 1) := by
  obtain ⟨h1, h2, h3⟩ := h
  refine ⟨by omega, by omega, ?_⟩
  have e : (size + 1 - s₀).toNat = (size - s₀).toNat + 1 := by omega
  rw [e, Int.pow_succ, h3, Int.mul_comm 10, Int.mul_assoc]
def WQ (l : List Int) (total size : Int) : Prop := ∃ t₀ s₀, FP l t₀ s₀ ∧ WPd t₀ s₀ total size
theorem WQ_start {l : List Int} {t s : Int} (h : FP l t s) : WQ l t s := ⟨t, s, h, WP_start t s⟩
theorem WQ_more {l : List Int} {t s : Int} (h : WQ l t s) (hs : s < 6) : WQ l (10 * t) (s + 1) := by
  obtain ⟨a, b, h1, h2⟩ := h
  exact ⟨a, b, h1, WP_more h2 hs⟩
def fineOf (d : Str) : Option Int :=
  if (d == Str.ofString "") = true then some 0
  else if (Txt.item d 0 != Str.ofString ".") = true then none
  else if (d.length : Int) < 2 then none
  else if ∀ c ∈ KStt.codes (Txt.slice d (some 1) none), 0 ≤ figC c then some (valC (KStt.codes (Txt.slice d (some 1) none)) * 10 ^ (6 - (KStt.codes (Txt.slice d (some 1) none)).length))
  else none
theorem fine_bad {l pre post : List Int} {n : Nat} (e : l = pre ++ (n : Int) :: post) (h : Txt.find (Str.ofString "0123456789") ⟨#[n]⟩ < 0) : ¬ ∀ c ∈ l, 0 ≤ figC c := fun k => by
  have := k (n : Int) (by rw [e]; exact List.mem_append_right _ (List.mem_cons_self ..))
  rw [figC_nat] at this
  omega
theorem fine_good {l : List Int} {total size : Int} (h : WQ l total size) (hs : ¬ size < 6) (hl : l.length ≤ 6) : (∀ c ∈ l, 0 ≤ figC c) ∧ total = valC l * 10 ^ (6 - l.length) := by
  obtain ⟨t₀, s₀, ⟨h1, h2, _⟩, g1, g2, g3⟩ := h
  obtain ⟨e1, e2⟩ := h2 hl
  have e3 : size = 6 := by omega
  have e4 : (size - s₀).toNat = 6 - l.length := by omega
  exact ⟨h1, by rw [g3, e2, e4]⟩
abbrev fineT : Told Str where
  Rel := fun _ v d => ∃ t, v = .str d t
  Ok := fun d => d.length ≤ 6
  size := fun _ => 8
  Tl := fun tl => tl = []
  Out := fun _ r d => (r = .none ∧ fineOf d = none) ∨ ∃ n t, r = .int n t ∧ fineOf d = some n
theorem fine_tells (d : Str) : Ctr fineT 170 d := by
  (have hfill : PySem.Challenge.rw_dg5009_01 = PySem.Challenge.rw_dg5009_01 ∧ Mine.hd.heap_39 = Mine.hd.heap_39 := by (k_fill; exact ⟨rfl, rfl⟩))
  w_on
  unfold Ctr Tells
  intro w mean mg mb dp un gd cn cs a ccd cl outer A₀ base h₀ L m news s v Q E B F X N T hk hR hok hd hu hret
  obtain ⟨t, rfl⟩ := hR
  dsimp only at hok
  refine wpAny_call ?_
  k_dflt ktr_enter
  (k_with "pyIter str" => k_state (fun pre total size => FP pre total size) "total" "size")
  (k_with "exec While Compare cons nil" => k_while (fun (_ : List Int) total size => WQ (KStt.codes (Txt.slice d (some 1) none)) total size) (fun (_ : List Int) total size => (6 - size).toNat) "total" "size")
  (k_with "state" => first | exact FP_nil | exact FP_more (by assumption) (by assumption) (by assumption) | exact FP_same (by assumption) (by assumption) (by assumption) | exact WQ_start (by assumption) | exact WQ_more (by assumption) (by assumption))
  k_steps
  all_goals (refine hret _ [] _ _ (by k_asm) (by first | k_asm | (simp only [List.append_nil]; first | k_asm | ((rename News _ _ _ (_ ++ _) => nn9); exact kst_newsOf nn9 (fun _ hp => List.mem_append_left _ hp)))) (fun _ _ _ h9 => nomatch h9) rfl ?_; clear hret)
  all_goals (first | refine Or.inl ⟨rfl, ?_⟩ | refine Or.inr ⟨_, _, rfl, ?_⟩)
  all_goals unfold fineOf
  all_goals first
    | exact if_pos (by assumption)
    | (rw [if_neg (by rw [(by assumption : (d == Str.ofString "") = false)]; exact Bool.false_ne_true)]
       first
       | exact if_pos (by assumption)
       | (rw [if_neg (by rw [(by assumption : (Txt.item d 0 != Str.ofString ".") = false)]; exact Bool.false_ne_true)]
          first
          | exact if_pos (by assumption)
          | (rw [if_neg (by assumption)]
             first
             | exact if_neg (fine_bad (by assumption) (by assumption))
             | (have hfg := fine_good (by assumption) (by assumption) (by rw [KStt.codes_length]; omega)
                rw [if_pos hfg.1, hfg.2]))))
end Mine
end

section
open PySem PySem.W PyProof.Rows PySem.Builtin.Str
set_option maxRecDepth 100000
namespace Mine
def codesN (x : Str) : List Nat := x.cps.toList
theorem str_ext {x y : Str} (h : x.cps.toList = y.cps.toList) : x = y := by
  obtain ⟨⟨a⟩⟩ := x; obtain ⟨⟨b⟩⟩ := y
  cases (show a = b from h); rfl
theorem slice_clip {x : Str} {i j : Int} (h0 : 0 ≤ i) (h1 : 0 ≤ j) : Txt.slice x (some i) (some j) = Txt.slice x (some (min i x.length)) (some (min j x.length)) := by
  have e : strSliceIndices (some i) (some j) 1 x.length = strSliceIndices (some (min i x.length)) (some (min j x.length)) 1 x.length := by
    unfold strSliceIndices
    dsimp only
    have a1 : ¬ i < 0 := by omega
    have a2 : ¬ j < 0 := by omega
    have a3 : ¬ (min i (x.length : Int)) < 0 := by omega
    have a4 : ¬ (min j (x.length : Int)) < 0 := by omega
    simp only [a1, a2, a3, a4, if_false, show (1 : Int) > 0 by decide, if_true]
    congr 1 <;> omega
  unfold Txt.slice
  rw [e]
theorem slice_list {x : Str} {i j : Nat} (h : i ≤ j) : (Txt.slice x (some (i : Int)) (some (j : Int))).cps.toList = (x.cps.toList.drop i).take (j - i) := by
  rw [slice_clip (by omega) (by omega)]
  have hl : x.cps.toList.length = x.length := Array.length_toList
  have e := eq_of_beq (slice_closes (x := x) (i := min (i : Int) x.length) (j := min (j : Int) x.length) ⟨by omega, by omega, by rw [hl]; omega⟩)
  rw [e]
  by_cases hi : i ≤ x.length
  · by_cases hj : j ≤ x.length
    · have e1 : (min (i : Int) x.length).toNat = i := by omega
      have e2 : (min (j : Int) x.length - min (i : Int) x.length).toNat = j - i := by omega
      rw [e1, e2]
    · have e1 : (min (i : Int) x.length).toNat = i := by omega
      have e2 : (min (j : Int) x.length - min (i : Int) x.length).toNat = x.length - i := by omega
      rw [e1, e2, List.take_of_length_le (by rw [List.length_drop]; omega), List.take_of_length_le (by rw [List.length_drop]; omega)]
  · have e1 : (min (i : Int) x.length).toNat = x.length := by omega
    rw [e1, List.drop_of_length_le (by omega), List.drop_of_length_le (by omega), List.take_nil, List.take_nil]
theorem slice_len {x : Str} {i j : Nat} (h : i ≤ j) : (Txt.slice x (some (i : Int)) (some (j : Int))).length ≤ j - i := by
  have e : (Txt.slice x (some (i : Int)) (some (j : Int))).length = (Txt.slice x (some (i : Int)) (some (j : Int))).cps.toList.length := Array.length_toList.symm
  rw [e, slice_list h, List.length_take]; omega
theorem slice_02 (x : Str) : (Txt.slice x (some 0) (some 2)).length ≤ 2 := slice_len (i := 0) (j := 2) (by decide)
theorem slice_24 (x : Str) : (Txt.slice x (some 2) (some 4)).length ≤ 2 := slice_len (i := 2) (j := 4) (by decide)
theorem slice_46 (x : Str) : (Txt.slice x (some 4) (some 6)).length ≤ 2 := slice_len (i := 4) (j := 6) (by decide)
theorem slice_from {x : Str} {i : Nat} : (Txt.slice x (some (i : Int)) none).cps.toList = x.cps.toList.drop i := by
  have hl : x.cps.toList.length = x.length := Array.length_toList
  have e : strSliceIndices (some (i : Int)) none 1 x.length = strSliceIndices (some (min (i : Int) x.length)) (some (x.length : Int)) 1 x.length := by
    unfold strSliceIndices
    dsimp only
    have a1 : ¬ (i : Int) < 0 := by omega
    have a2 : ¬ (x.length : Int) < 0 := by omega
    have a3 : ¬ (min (i : Int) (x.length : Int)) < 0 := by omega
    simp only [a1, a2, a3, if_false, show (1 : Int) > 0 by decide, if_true]
    congr 1 <;> omega
  have e' : Txt.slice x (some (i : Int)) none = Txt.slice x (some (min (i : Int) x.length)) (some (x.length : Int)) := by
    unfold Txt.slice
    rw [e]
  rw [e', eq_of_beq (slice_closes (x := x) (i := min (i : Int) x.length) (j := (x.length : Int)) ⟨by omega, by omega, by rw [hl]; omega⟩)]
  show List.take _ _ = _
  by_cases hi : i ≤ x.length
  · have e1 : (min (i : Int) x.length).toNat = i := by omega
    rw [e1, List.take_of_length_le (by rw [List.length_drop]; omega)]
  · have e1 : (min (i : Int) x.length).toNat = x.length := by omega
    rw [e1, List.drop_of_length_le (by omega), List.drop_of_length_le (by omega), List.take_nil]
theorem slice_6len {x : Str} (h : x.length ≤ 12) : (Txt.slice x (some 6) none).length ≤ 6 := by
  have e : (Txt.slice x (some 6) none).length = (Txt.slice x (some 6) none).cps.toList.length := Array.length_toList.symm
  have e2 : (Txt.slice x (some 6) none).cps.toList = x.cps.toList.drop 6 := slice_from (i := 6)
  have hl : x.cps.toList.length = x.length := Array.length_toList
  rw [e, e2, List.length_drop]; omega
end Mine
end

section
open PySem PySem.W PyProof.Rows
set_option maxRecDepth 100000
set_option maxHeartbeats 8000000
namespace Mine
def oV (o : Option Int) (t : Tok) : Value := match o with | none => .none | some n => .int n t
section
variable {w : World} {mean : ExcName → Option Value} {mg mb : Str → Option Value} {dp un : Nat} {gd : Option (List Code)} {cn : Str} {cs : Scope} {a : Addr} {ccd : Value} {cl : List (Str × Addr)} {outer : List Env} {A₀ : Around} {base h₀ : Heap} {L : Addr} {m : Str → Option Value} {news : List (Addr × Obj)} {s : Shared}
    {Q E : Value → Shared → Prop} {d : Str} {t : Tok}
theorem win_use (B : Below A₀ base outer h₀) (F : Fr h₀ L s.heap m) (X : (hd.heap_39 w.params).In h₀) (N : News h₀ L s.heap news) (T : Top hd.view_39 (looseW hd.view_39 [Str.ofString "_tuplegetter", Str.ofString "Time"]) mean mg mb h₀) (hk : cs.kind = .function)
    (hd : dp + 8 < recursionLimit) (hu : un + 64 < cLine) (ok : d.length ≤ 2)
    (r : ∀ t h' tk', Fr h₀ L h' m → News h₀ L h' news → Q (oV (winOf d) t) { s with heap := h', toks := tk' }) :
    wpAny (model PySem.Challenge.pw_dg5009_01 w) (ktrTop dp un gd cn cs L a ccd cl outer) (call (.ref 163) [.str d t]) Q E s := by
  refine window_tells d w mean mg mb dp un gd cn cs a ccd cl outer A₀ base h₀ L m news s _ Q E B F X N T hk ⟨t, rfl⟩ ok hd hu ?_
  rintro v tl h' tk' F' N' hl rfl (⟨rfl, e⟩ | ⟨n, t', rfl, e⟩)
  · rw [List.append_nil] at N'; have z := r 0 h' tk' F' N'; rw [e] at z; exact z
  · rw [List.append_nil] at N'; have z := r t' h' tk' F' N'; rw [e] at z; exact z
theorem fine_use (B : Below A₀ base outer h₀) (F : Fr h₀ L s.heap m) (X : (hd.heap_39 w.params).In h₀) (N : News h₀ L s.heap news) (T : Top hd.view_39 (looseW hd.view_39 [Str.ofString "_tuplegetter", Str.ofString "Time"]) mean mg mb h₀) (hk : cs.kind = .function)
    (hd : dp + 8 < recursionLimit) (hu : un + 64 < cLine) (ok : d.length ≤ 6)
    (r : ∀ t h' tk', Fr h₀ L h' m → News h₀ L h' news → Q (oV (fineOf d) t) { s with heap := h', toks := tk' }) :
    wpAny (model PySem.Challenge.pw_dg5009_01 w) (ktrTop dp un gd cn cs L a ccd cl outer) (call (.ref 170) [.str d t]) Q E s := by
  refine fine_tells d w mean mg mb dp un gd cn cs a ccd cl outer A₀ base h₀ L m news s _ Q E B F X N T hk ⟨t, rfl⟩ ok hd hu ?_
  rintro v tl h' tk' F' N' hl rfl (⟨rfl, e⟩ | ⟨n, t', rfl, e⟩)
  · rw [List.append_nil] at N'; have z := r 0 h' tk' F' N'; rw [e] at z; exact z
  · rw [List.append_nil] at N'; have z := r t' h' tk' F' N'; rw [e] at z; exact z
end
local macro_rules | `(tactic| k_room) => `(tactic| ktr_room)
local macro_rules | `(tactic| k_units) => `(tactic| ktr_units)
local macro_rules | `(tactic| ktr_enter) => `(tactic| (refine' code_def ?k1 ?k2 ?k3 ?k4 ?k5 ?kA ?kF ?kK ?k6 ?k7 ?k8 ?k9 ?kB ?_ ?c2 ?c3 ?c4 ?c5; (case kA => exact rfl); (case kF => exact rfl); (case kK => first | exact rfl | assumption); (case k1 => k_asm); (case k2 => k_asm); (case k3 => k_asm); (case k4 => k_asm); (case k5 => k_asm); (case k6 => k_is); (case k7 => k_is); (case k8 => ktr_room); (case k9 => first | exact BindsTo.of_eq rfl | exact binds_K (by k_in) rfl (by k_is) rfl rfl rfl); (case kB => exact locs rfl); (case c2 => exact rfl); (case c3 => exact rfl); (case c4 => exact rfl); (case c5 => decide); k_whole; intro g' L' h' FG' F' N' B' X' T'; (try dsimp only); (try k_fold)))
structure Stop (p : Prop) : Prop where
  out : p
theorem of_stop {p : Prop} (h : Stop p) : p := h.out
structure Flag : Prop where
  x : True
local macro_rules | `(tactic| walk_at "exec If") => `(tactic| (k_here; (rename Flag => fl9); apply of_stop))
local macro_rules | `(tactic| walk_at "exec If BoolOp") => `(tactic| (k_here; (rename Flag => fl9); apply of_stop))
local macro_rules | `(tactic| walk_at "call ref") => `(tactic| (k_here; (with_reducible show wpAny _ _ (call (Value.ref 163) _) _ _ _); k_dflt (refine' win_use ?k1 ?k2 ?k3 ?k4 ?k5 ?kK ?kd ?ku ?ko ?_; (case k1 => k_asm); (case k2 => k_asm); (case k3 => k_asm); (case k4 => k_asm); (case k5 => k_asm); (case kK => first | exact rfl | assumption); (case kd => first | (dsimp only [ktrTop, Around.deeper, Around.in1]; omega) | ktr_room); (case ku => first | (dsimp only [ktrTop, Around.deeper, Around.in1]; (have hcL9 := cLine_is); omega) | ktr_units); (case ko => with_reducible assumption)); intro t' h' tk' F' N'))
local macro_rules | `(tactic| walk_at "call ref") => `(tactic| (k_here; (with_reducible show wpAny _ _ (call (Value.ref 170) _) _ _ _); k_dflt (refine' fine_use ?k1 ?k2 ?k3 ?k4 ?k5 ?kK ?kd ?ku ?ko ?_; (case k1 => k_asm); (case k2 => k_asm); (case k3 => k_asm); (case k4 => k_asm); (case k5 => k_asm); (case kK => first | exact rfl | assumption); (case kd => first | (dsimp only [ktrTop, Around.deeper, Around.in1]; omega) | ktr_room); (case ku => first | (dsimp only [ktrTop, Around.deeper, Around.in1]; (have hcL9 := cLine_is); omega) | ktr_units); (case ko => with_reducible assumption)); intro t' h' tk' F' N'))
def readC : Option Int → Option Int → Option Int → Option Int → Option (Int × Int × Int × Int)
  | some h, some m, some s, some f => if h < 0 ∨ 23 < h ∨ m < 0 ∨ 59 < m ∨ s < 0 ∨ 59 < s then none else some (h, m, s, f)
  | _, _, _, _ => none
def readOf (d : Str) : Option (Int × Int × Int × Int) :=
  readC (winOf (Txt.slice d (some 0) (some 2))) (winOf (Txt.slice d (some 2) (some 4))) (winOf (Txt.slice d (some 4) (some 6))) (fineOf (Txt.slice d (some 6) none))
theorem readC_1 {b c e : Option Int} : readC none b c e = none := rfl
theorem readC_2 {a c e : Option Int} : readC a none c e = none := by cases a <;> rfl
theorem readC_3 {a b e : Option Int} : readC a b none e = none := by cases a <;> cases b <;> rfl
theorem readC_4 {a b c : Option Int} : readC a b c none = none := by cases a <;> cases b <;> cases c <;> rfl
def datC : Option (Int × Int × Int × Int) → Dat
  | none => .str (Str.ofString "refused")
  | some (h, m, s, f) => .list [.int h, .int m, .int s, .int f]
def datOf (d : Str) : Dat := datC (readOf d)
section
variable {d : Str}
theorem dat_1 (e : winOf (Txt.slice d (some 0) (some 2)) = none) : datOf d = .str (Str.ofString "refused") := by unfold datOf readOf; rw [e]; rfl
theorem dat_2 (e : winOf (Txt.slice d (some 2) (some 4)) = none) : datOf d = .str (Str.ofString "refused") := by unfold datOf readOf; rw [e, readC_2]; rfl
theorem dat_3 (e : winOf (Txt.slice d (some 4) (some 6)) = none) : datOf d = .str (Str.ofString "refused") := by unfold datOf readOf; rw [e, readC_3]; rfl
theorem dat_4 (e : fineOf (Txt.slice d (some 6) none) = none) : datOf d = .str (Str.ofString "refused") := by unfold datOf readOf; rw [e, readC_4]; rfl
theorem dat_5 {h m s f : Int} (e1 : winOf (Txt.slice d (some 0) (some 2)) = some h) (e2 : winOf (Txt.slice d (some 2) (some 4)) = some m) (e3 : winOf (Txt.slice d (some 4) (some 6)) = some s) (e4 : fineOf (Txt.slice d (some 6) none) = some f)
    (hr : h < 0 ∨ 23 < h ∨ m < 0 ∨ 59 < m ∨ s < 0 ∨ 59 < s) : datOf d = .str (Str.ofString "refused") := by unfold datOf readOf readC; rw [e1, e2, e3, e4]; dsimp only; rw [if_pos hr]; rfl
theorem dat_6 {h m s f : Int} (e1 : winOf (Txt.slice d (some 0) (some 2)) = some h) (e2 : winOf (Txt.slice d (some 2) (some 4)) = some m) (e3 : winOf (Txt.slice d (some 4) (some 6)) = some s) (e4 : fineOf (Txt.slice d (some 6) none) = some f)
    (hr : ¬ (h < 0 ∨ 23 < h ∨ m < 0 ∨ 59 < m ∨ s < 0 ∨ 59 < s)) : datOf d = .list [.int h, .int m, .int s, .int f] := by unfold datOf readOf readC; rw [e1, e2, e3, e4]; dsimp only; rw [if_neg hr]; rfl
end
abbrev readingT : Told Str where
  Rel := fun _ v d => ∃ t, v = .str d t
  Ok := fun d => 5 ≤ d.length ∧ d.length ≤ 11
  size := fun _ => 16
  Tl := fun _ => True
  Out := fun news r d => DatIn news r (datOf d)
set_option maxHeartbeats 1600000 in
theorem reading_tells (d : Str) : Ctr readingT 177 d := by
  (have hfill : PySem.Challenge.rw_dg5009_01 = PySem.Challenge.rw_dg5009_01 ∧ Mine.hd.heap_39 = Mine.hd.heap_39 := by (k_fill; exact ⟨rfl, rfl⟩))
  w_on
  unfold Ctr Tells
  intro w mean mg mb dp un gd cn cs a ccd cl outer A₀ base h₀ L m news s v Q E B F X N T hk hR hok hd hu hret
  obtain ⟨t, rfl⟩ := hR
  dsimp only at hok
  have h02 := slice_02 d
  have h24 := slice_24 d
  have h46 := slice_46 d
  have h6 := slice_6len (x := d) (by omega)
  refine wpAny_call ?_
  k_dflt ktr_enter
  have fl : Flag := ⟨trivial⟩
  k_steps
  refine Stop.mk ?_
  (rename Flag => fl9); clear fl9
  generalize e1 : winOf (Txt.slice d (some 0) (some 2)) = o1 at *
  generalize e2 : winOf (Txt.slice d (some 2) (some 4)) = o2 at *
  generalize e3 : winOf (Txt.slice d (some 4) (some 6)) = o3 at *
  generalize e4 : fineOf (Txt.slice d (some 6) none) = o4 at *
  rename Fr _ _ _ _ => F9
  cases o1 with
  | none => simp only [oV] at F9; k_steps; all_goals exact hret _ [] _ _ (by k_asm) (by first | k_asm | (simp only [List.append_nil]; k_asm)) (fun _ _ _ h9 => nomatch h9) trivial (by show DatIn _ _ (datOf d); rw [dat_1 e1]; exact .str _ _)
  | some n1 =>
    cases o2 with
    | none => simp only [oV] at F9; k_steps; all_goals exact hret _ [] _ _ (by k_asm) (by first | k_asm | (simp only [List.append_nil]; k_asm)) (fun _ _ _ h9 => nomatch h9) trivial (by show DatIn _ _ (datOf d); rw [dat_2 e2]; exact .str _ _)
    | some n2 =>
      cases o3 with
      | none => simp only [oV] at F9; k_steps; all_goals exact hret _ [] _ _ (by k_asm) (by first | k_asm | (simp only [List.append_nil]; k_asm)) (fun _ _ _ h9 => nomatch h9) trivial (by show DatIn _ _ (datOf d); rw [dat_3 e3]; exact .str _ _)
      | some n3 =>
        cases o4 with
        | none => simp only [oV] at F9; k_steps; all_goals exact hret _ [] _ _ (by k_asm) (by first | k_asm | (simp only [List.append_nil]; k_asm)) (fun _ _ _ h9 => nomatch h9) trivial (by show DatIn _ _ (datOf d); rw [dat_4 e4]; exact .str _ _)
        | some n4 =>
          simp only [oV] at F9
          k_steps
          all_goals first
            | exact hret _ [] _ _ (by k_asm) (by first | k_asm | (simp only [List.append_nil]; k_asm)) (fun _ _ _ h9 => nomatch h9) trivial (by show DatIn _ _ (datOf d); rw [dat_5 e1 e2 e3 e4 (by omega)]; exact .str _ _)
            | (rename News _ _ _ (_ :: _) => nn9
               refine hret _ [_] _ _ (by k_asm) (kst_newsOf nn9 (fun p hp => (List.mem_append.mp hp).elim (fun h => .tail _ h) (fun h => (List.mem_singleton.mp h) ▸ .head _))) ?_ trivial ?_
               · intro q hq p hp
                 obtain rfl := List.mem_singleton.mp hp
                 exact (by assumption : ∀ p ∈ news, p.1 < _) q hq
               · show DatIn _ _ (datOf d); rw [dat_6 e1 e2 e3 e4 (by omega)]
                 exact .list (List.mem_append_right _ (List.mem_singleton.mpr rfl)) (.cons (.int _ _) (.cons (.int _ _) (.cons (.int _ _) (.cons (.int _ _) .nil)))))
end Mine
end

section
open PySem PySem.W PyProof.Rows PySem.Builtin.Str
set_option maxRecDepth 100000
namespace Mine
def isSign (c : Nat) : Prop := (48 ≤ c ∧ c ≤ 57) ∨ c = 43 ∨ c = 45 ∨ c = 46 ∨ c = 120
def Good (y : Str) : Prop := 5 ≤ y.length ∧ y.length ≤ 11 ∧ ∀ c ∈ y.cps.toList, isSign c
def WordOk (y : Str) : Prop := 6 ≤ y.length ∧ y.length ≤ 10 ∧ ∀ c ∈ y.cps.toList, isSign c
theorem len_list (x : Str) : x.cps.toList.length = x.length := Array.length_toList
theorem app_list (x y : Str) : (x ++ y).cps.toList = x.cps.toList ++ y.cps.toList := by
  show (x.cps ++ y.cps).toList = _
  exact Array.toList_append
theorem slice_to {x : Str} {j : Nat} : (Txt.slice x none (some (j : Int))).cps.toList = x.cps.toList.take j := by
  have e : strSliceIndices none (some (j : Int)) 1 x.length = strSliceIndices (some ((0 : Nat) : Int)) (some (j : Int)) 1 x.length := by
    unfold strSliceIndices
    dsimp only
    have a1 : ¬ ((0 : Nat) : Int) < 0 := by omega
    simp only [a1, show (1 : Int) > 0 by decide, if_true, if_false]
    congr 1
  have e' : Txt.slice x none (some (j : Int)) = Txt.slice x (some ((0 : Nat) : Int)) (some (j : Int)) := by
    unfold Txt.slice
    rw [e]
  rw [e', slice_list (Nat.zero_le j), List.drop_zero, Nat.sub_zero]
theorem good_of_word {d : Str} (h : WordOk d) : Good d := ⟨by have := h.1; omega, by have := h.2.1; omega, h.2.2⟩
theorem good_cut {d : Str} (h : WordOk d) {k : Nat} (hk : k < d.length) : Good (Txt.slice d none (some (k : Int)) ++ Txt.slice d (some ((k : Int) + 1)) none) := by
  have e : (Txt.slice d none (some (k : Int)) ++ Txt.slice d (some ((k : Int) + 1)) none).cps.toList = d.cps.toList.take k ++ d.cps.toList.drop (k + 1) := by
    rw [app_list, slice_to, show ((k : Int) + 1) = ((k + 1 : Nat) : Int) by omega, slice_from]
  have hl := len_list d
  obtain ⟨h1, h2, h3⟩ := h
  have el := congrArg List.length e
  rw [len_list, List.length_append, List.length_take, List.length_drop] at el
  refine ⟨by omega, by omega, fun c hc => ?_⟩
  rw [e] at hc
  rcases List.mem_append.mp hc with hc | hc
  · exact h3 c (List.mem_of_mem_take hc)
  · exact h3 c (List.mem_of_mem_drop hc)
theorem good_sub {d g : Str} (h : WordOk d) {k : Nat} (hk : k < d.length) (hg : g.length = 1) (hs : ∀ c ∈ g.cps.toList, isSign c) : Good (Txt.slice d none (some (k : Int)) ++ g ++ Txt.slice d (some ((k : Int) + 1)) none) := by
  have e : (Txt.slice d none (some (k : Int)) ++ g ++ Txt.slice d (some ((k : Int) + 1)) none).cps.toList = d.cps.toList.take k ++ g.cps.toList ++ d.cps.toList.drop (k + 1) := by
    rw [app_list, app_list, slice_to, show ((k : Int) + 1) = ((k + 1 : Nat) : Int) by omega, slice_from]
  have hl := len_list d
  have hl2 := len_list g
  obtain ⟨h1, h2, h3⟩ := h
  have el := congrArg List.length e
  rw [len_list, List.length_append, List.length_append, List.length_take, List.length_drop] at el
  refine ⟨by omega, by omega, fun c hc => ?_⟩
  rw [e] at hc
  rcases List.mem_append.mp hc with hc | hc
  · rcases List.mem_append.mp hc with hc | hc
    · exact h3 c (List.mem_of_mem_take hc)
    · exact hs c hc
  · exact h3 c (List.mem_of_mem_drop hc)
theorem good_put {d g : Str} (h : WordOk d) {k : Nat} (hg : g.length = 1) (hs : ∀ c ∈ g.cps.toList, isSign c) : Good (Txt.slice d none (some (k : Int)) ++ g ++ Txt.slice d (some (k : Int)) none) := by
  have e : (Txt.slice d none (some (k : Int)) ++ g ++ Txt.slice d (some (k : Int)) none).cps.toList = d.cps.toList.take k ++ g.cps.toList ++ d.cps.toList.drop k := by
    rw [app_list, app_list, slice_to, slice_from]
  have hl := len_list d
  have hl2 := len_list g
  obtain ⟨h1, h2, h3⟩ := h
  have el := congrArg List.length e
  rw [len_list, List.length_append, List.length_append, List.length_take, List.length_drop] at el
  refine ⟨by omega, by omega, fun c hc => ?_⟩
  rw [e] at hc
  rcases List.mem_append.mp hc with hc | hc
  · rcases List.mem_append.mp hc with hc | hc
    · exact h3 c (List.mem_of_mem_take hc)
    · exact hs c hc
  · exact h3 c (List.mem_of_mem_drop hc)
def isS (g : Str) : Prop := g.length = 1 ∧ ∀ c ∈ g.cps.toList, isSign c
theorem isS_0 : isS (Str.ofString "0") := by refine ⟨by decide +kernel, fun c hc => ?_⟩; rw [show (Str.ofString "0").cps.toList = [48] by decide +kernel] at hc; rw [List.mem_singleton.mp hc]; exact .inl ⟨by decide, by decide⟩
theorem isS_7 : isS (Str.ofString "7") := by refine ⟨by decide +kernel, fun c hc => ?_⟩; rw [show (Str.ofString "7").cps.toList = [55] by decide +kernel] at hc; rw [List.mem_singleton.mp hc]; exact .inl ⟨by decide, by decide⟩
theorem isS_p : isS (Str.ofString "+") := by refine ⟨by decide +kernel, fun c hc => ?_⟩; rw [show (Str.ofString "+").cps.toList = [43] by decide +kernel] at hc; rw [List.mem_singleton.mp hc]; exact .inr (.inl rfl)
theorem isS_m : isS (Str.ofString "-") := by refine ⟨by decide +kernel, fun c hc => ?_⟩; rw [show (Str.ofString "-").cps.toList = [45] by decide +kernel] at hc; rw [List.mem_singleton.mp hc]; exact .inr (.inr (.inl rfl))
theorem isS_d : isS (Str.ofString ".") := by refine ⟨by decide +kernel, fun c hc => ?_⟩; rw [show (Str.ofString ".").cps.toList = [46] by decide +kernel] at hc; rw [List.mem_singleton.mp hc]; exact .inr (.inr (.inr (.inl rfl)))
theorem isS_x : isS (Str.ofString "x") := by refine ⟨by decide +kernel, fun c hc => ?_⟩; rw [show (Str.ofString "x").cps.toList = [120] by decide +kernel] at hc; rw [List.mem_singleton.mp hc]; exact .inr (.inr (.inr (.inr rfl)))
def GoodD (y : Dat) : Prop := ∃ z, y = Dat.str z ∧ Good z
theorem nb_start {d : Str} (h : WordOk d) : [Dat.str d].length = 1 + 7 * ([] : List Int).length ∧ ∀ y ∈ [Dat.str d], ∃ z, y = Dat.str z ∧ Good z :=
  ⟨rfl, fun y hy => ⟨d, List.mem_singleton.mp hy, good_of_word h⟩⟩
theorem nb_turn1 {d : Str} {k : Int} {p : List Int} {l : List Dat} (hw : WordOk d) (e : k = 0 + (p.length : Int)) (hl : p.length < ((d.length : Int) - 0).toNat) (h1 : l.length = 1 + 7 * p.length) (h2 : ∀ y ∈ l, ∃ z, y = Dat.str z ∧ Good z) :
    (l ++ [Dat.str (Txt.slice d none (some k) ++ Txt.slice d (some (k + 1)) none), Dat.str (Txt.slice d none (some k) ++ Str.ofString "0" ++ Txt.slice d (some (k + 1)) none), Dat.str (Txt.slice d none (some k) ++ Str.ofString "7" ++ Txt.slice d (some (k + 1)) none),
      Dat.str (Txt.slice d none (some k) ++ Str.ofString "+" ++ Txt.slice d (some (k + 1)) none), Dat.str (Txt.slice d none (some k) ++ Str.ofString "-" ++ Txt.slice d (some (k + 1)) none), Dat.str (Txt.slice d none (some k) ++ Str.ofString "." ++ Txt.slice d (some (k + 1)) none),
      Dat.str (Txt.slice d none (some k) ++ Str.ofString "x" ++ Txt.slice d (some (k + 1)) none)]).length = 1 + 7 * (p ++ [k]).length ∧
    ∀ y ∈ l ++ [Dat.str (Txt.slice d none (some k) ++ Txt.slice d (some (k + 1)) none), Dat.str (Txt.slice d none (some k) ++ Str.ofString "0" ++ Txt.slice d (some (k + 1)) none), Dat.str (Txt.slice d none (some k) ++ Str.ofString "7" ++ Txt.slice d (some (k + 1)) none),
      Dat.str (Txt.slice d none (some k) ++ Str.ofString "+" ++ Txt.slice d (some (k + 1)) none), Dat.str (Txt.slice d none (some k) ++ Str.ofString "-" ++ Txt.slice d (some (k + 1)) none), Dat.str (Txt.slice d none (some k) ++ Str.ofString "." ++ Txt.slice d (some (k + 1)) none),
      Dat.str (Txt.slice d none (some k) ++ Str.ofString "x" ++ Txt.slice d (some (k + 1)) none)], ∃ z, y = Dat.str z ∧ Good z := by
  rw [Int.zero_add] at e
  subst e
  have hk : p.length < d.length := by omega
  refine ⟨by simp only [List.length_append, List.length_cons, List.length_nil]; omega, fun y hy => ?_⟩
  rcases List.mem_append.mp hy with hy | hy
  · exact h2 y hy
  · simp only [List.mem_cons, List.not_mem_nil, or_false] at hy
    rcases hy with rfl | rfl | rfl | rfl | rfl | rfl | rfl
    · exact ⟨_, rfl, good_cut hw hk⟩
    · exact ⟨_, rfl, good_sub hw hk isS_0.1 isS_0.2⟩
    · exact ⟨_, rfl, good_sub hw hk isS_7.1 isS_7.2⟩
    · exact ⟨_, rfl, good_sub hw hk isS_p.1 isS_p.2⟩
    · exact ⟨_, rfl, good_sub hw hk isS_m.1 isS_m.2⟩
    · exact ⟨_, rfl, good_sub hw hk isS_d.1 isS_d.2⟩
    · exact ⟨_, rfl, good_sub hw hk isS_x.1 isS_x.2⟩
theorem nb_start2 {d : Str} {l : List Dat} (h1 : l.length = 1 + 7 * (rangeKs 0 ((d.length : Int) - 0).toNat).length) (h2 : ∀ y ∈ l, ∃ z, y = Dat.str z ∧ Good z) :
    l.length = 1 + 7 * d.length + 6 * ([] : List Int).length ∧ ∀ y ∈ l, ∃ z, y = Dat.str z ∧ Good z := by
  rw [rangeKs_length] at h1
  exact ⟨by rw [h1]; simp only [List.length_nil]; omega, h2⟩
theorem nb_turn2 {d : Str} {k : Int} {p : List Int} {l : List Dat} (hw : WordOk d) (e : k = 0 + (p.length : Int)) (h1 : l.length = 1 + 7 * d.length + 6 * p.length) (h2 : ∀ y ∈ l, ∃ z, y = Dat.str z ∧ Good z) :
    (l ++ [Dat.str (Txt.slice d none (some k) ++ Str.ofString "0" ++ Txt.slice d (some k) none), Dat.str (Txt.slice d none (some k) ++ Str.ofString "7" ++ Txt.slice d (some k) none),
      Dat.str (Txt.slice d none (some k) ++ Str.ofString "+" ++ Txt.slice d (some k) none), Dat.str (Txt.slice d none (some k) ++ Str.ofString "-" ++ Txt.slice d (some k) none), Dat.str (Txt.slice d none (some k) ++ Str.ofString "." ++ Txt.slice d (some k) none),
      Dat.str (Txt.slice d none (some k) ++ Str.ofString "x" ++ Txt.slice d (some k) none)]).length = 1 + 7 * d.length + 6 * (p ++ [k]).length ∧
    ∀ y ∈ l ++ [Dat.str (Txt.slice d none (some k) ++ Str.ofString "0" ++ Txt.slice d (some k) none), Dat.str (Txt.slice d none (some k) ++ Str.ofString "7" ++ Txt.slice d (some k) none),
      Dat.str (Txt.slice d none (some k) ++ Str.ofString "+" ++ Txt.slice d (some k) none), Dat.str (Txt.slice d none (some k) ++ Str.ofString "-" ++ Txt.slice d (some k) none), Dat.str (Txt.slice d none (some k) ++ Str.ofString "." ++ Txt.slice d (some k) none),
      Dat.str (Txt.slice d none (some k) ++ Str.ofString "x" ++ Txt.slice d (some k) none)], ∃ z, y = Dat.str z ∧ Good z := by
  rw [Int.zero_add] at e
  subst e
  refine ⟨by simp only [List.length_append, List.length_cons, List.length_nil]; omega, fun y hy => ?_⟩
  rcases List.mem_append.mp hy with hy | hy
  · exact h2 y hy
  · simp only [List.mem_cons, List.not_mem_nil, or_false] at hy
    rcases hy with rfl | rfl | rfl | rfl | rfl | rfl
    · exact ⟨_, rfl, good_put hw isS_0.1 isS_0.2⟩
    · exact ⟨_, rfl, good_put hw isS_7.1 isS_7.2⟩
    · exact ⟨_, rfl, good_put hw isS_p.1 isS_p.2⟩
    · exact ⟨_, rfl, good_put hw isS_m.1 isS_m.2⟩
    · exact ⟨_, rfl, good_put hw isS_d.1 isS_d.2⟩
    · exact ⟨_, rfl, good_put hw isS_x.1 isS_x.2⟩
end Mine
end

section
open PySem PySem.W PyProof.Rows
set_option maxRecDepth 100000
set_option maxHeartbeats 40000000
namespace Mine
def signsItems : Array Value := #[.str (Str.ofString "0") 407, .str (Str.ofString "7") 408, .str (Str.ofString "+") 409, .str (Str.ofString "-") 410, .str (Str.ofString ".") 411, .str (Str.ofString "x") 412]
theorem signs_tup {P : Params} {h₀ h : Heap} {L : Addr} {m : Str → Option Value} (X : (hd.heap_39 P).In h₀) (F : Fr h₀ L h m) : IsTup h 149 signsItems := ⟨_, X.keeps F.keep _ _ rfl, rfl, 0, rfl⟩
theorem signs_ne {P : Params} {h₀ h : Heap} {L : Addr} {m : Str → Option Value} (X : (hd.heap_39 P).In h₀) (F : Fr h₀ L h m) : (149 : Addr) ≠ L := F.tup_ne (signs_tup X F)
theorem Upd_app {d : Addr} {o o' : Obj} {r r' own : List (Addr × Obj)} (h : ∀ p ∈ own, p.1 ≠ d) (u : Upd d o o' r r') : Upd d o o' (own ++ r) (own ++ r') := by
  induction own with
  | nil => exact u
  | cons q qs ih => exact .tail (h q (.head _)) (ih fun p hp => h p (.tail _ hp))
def Off9 (l : List (Addr × Obj)) (fp : List Addr) : Prop := ∀ p ∈ l, ∀ b ∈ fp, b ≠ p.1
theorem off9 {P : Params} {h₀ h : Heap} {L : Addr} {l : List (Addr × Obj)} (X : (hd.heap_39 P).In h₀) (N : News h₀ L h l) : Off9 l [h.objs.size, 149] := by
  intro p hp b hb e
  rcases List.mem_cons.mp hb with rfl | hb
  · exact absurd (Heap.lt_size (N p hp).1) (e ▸ Nat.lt_irrefl _)
  · rw [List.mem_singleton.mp hb] at e
    obtain ⟨o, q⟩ : ∃ o, (hd.heap_39 P).lookup 149 = some o := ⟨_, rfl⟩
    have z := X _ _ q
    rw [e, (N p hp).2.2] at z
    cases z
theorem app_off {own l : List (Addr × Obj)} {fp : List Addr} {d : Addr} {o : Obj} (h1 : ∀ p ∈ own, p.1 ∈ fp) (h2 : Off9 ((d, o) :: l) fp) : ∀ p ∈ own, p.1 ≠ d := fun p hp => h2 _ (.head _) _ (h1 p hp)
local macro_rules | `(tactic| k_upd) => `(tactic| (refine' Upd_app ?a ?b; (case a => exact app_off (by assumption) (by assumption)); (case b => k_upd)))
local macro_rules | `(tactic| walk_at "pyIter ref") => `(tactic| (k_here; (with_reducible show wpAny _ _ (pyIter (Value.ref 149)) (fun it s₂ => UnrAt _ _ _ _ _ _ _ _ _ it s₂) _ _); (rename Fr _ _ _ _ => F'); (rename News _ _ _ _ => N'); (have hO9 := off9 (by assumption) N'); (with_reducible refine' Iter_tuple_unr (items := #[PySem.Value.str (PySem.Str.ofString "0") 407, PySem.Value.str (PySem.Str.ofString "7") 408, PySem.Value.str (PySem.Str.ofString "+") 409, PySem.Value.str (PySem.Str.ofString "-") 410, PySem.Value.str (PySem.Str.ofString ".") 411, PySem.Value.str (PySem.Str.ofString "x") 412]) ?hh ?ht ?F ?N ?htL ?_); (case F => with_unfolding_all exact F'); (case N => with_unfolding_all exact N'); (case hh => with_unfolding_all rfl); (case ht => exact signs_tup (by assumption) (by with_unfolding_all exact F')); (case htL => exact signs_ne (by assumption) (by with_unfolding_all exact F'))))
local macro_rules | `(tactic| walk_at "eval BinOp") => `(tactic| (k_here; (rename Flag => fl9); (with_reducible show wpAny _ _ (eval (PySem.Expr.BinOp (PySem.Expr.Call _ _ _ _) _ _ _) _) _ _ _); apply of_stop))
local macro_rules | `(tactic| k_room) => `(tactic| ktr_room)
local macro_rules | `(tactic| k_units) => `(tactic| ktr_units)
local macro_rules | `(tactic| ktr_enter) => `(tactic| (refine' code_def ?k1 ?k2 ?k3 ?k4 ?k5 ?kA ?kF ?kK ?k6 ?k7 ?k8 ?k9 ?kB ?_ ?c2 ?c3 ?c4 ?c5; (case kA => exact rfl); (case kF => exact rfl); (case kK => first | exact rfl | assumption); (case k1 => k_asm); (case k2 => k_asm); (case k3 => k_asm); (case k4 => k_asm); (case k5 => k_asm); (case k6 => k_is); (case k7 => k_is); (case k8 => ktr_room); (case k9 => first | exact BindsTo.of_eq rfl | exact binds_K (by k_in) rfl (by k_is) rfl rfl rfl); (case kB => exact locs rfl); (case c2 => exact rfl); (case c3 => exact rfl); (case c4 => exact rfl); (case c5 => decide); k_whole; intro g' L' h' FG' F' N' B' X' T'; (try dsimp only); (try k_fold)))

theorem len80 {a b p d : Nat} (h1 : a = b) (h2 : b = 1 + 7 * p) (h3 : p < ((d : Int) - 0).toNat) (h4 : d ≤ 10) : a ≤ 200 := by omega
theorem len200 {a b p d : Nat} (h1 : a = b) (h2 : b = 1 + 7 * d + 6 * p) (h3 : p < ((d : Int) + 1 - 0).toNat) (h4 : d ≤ 10) : a ≤ 200 := by omega
theorem fit0 {n : Nat} (h : n ≤ 200) : n ≤ 16777216 := by omega
theorem fit1 {n : Nat} (h : n ≤ 200) : n + 1 ≤ 16777216 := by omega
theorem fit2 {n : Nat} (h : n ≤ 200) : n + 1 + 1 ≤ 16777216 := by omega
theorem fit3 {n : Nat} (h : n ≤ 200) : n + 1 + 1 + 1 ≤ 16777216 := by omega
theorem fit4 {n : Nat} (h : n ≤ 200) : n + 1 + 1 + 1 + 1 ≤ 16777216 := by omega
theorem fit5 {n : Nat} (h : n ≤ 200) : n + 1 + 1 + 1 + 1 + 1 ≤ 16777216 := by omega
theorem fit6 {n : Nat} (h : n ≤ 200) : n + 1 + 1 + 1 + 1 + 1 + 1 ≤ 16777216 := by omega
local macro_rules | `(tactic| walk_at "call builtin:list.append") => `(tactic| (k_here; (try ((with_reducible show wpAny _ _ (call (Value.builtin _) (Prod.snd _ ++ _)) _ _ _); (show wpAny _ _ (call (Value.builtin "list.append") [Value.ref _, _]) _ _ _))); k_dflt (refine' append_K ?k1 ?k2 ?k3 ?_ ?z; (case k1 => k_asm); (case k2 => k_asm); (case k3 => k_upd); (case z => ((simp only [Array.size_push, List.size_toArray, PySem.sizeLine_eq]); first | exact fit0 (len80 (by assumption) (by assumption) (by assumption) (by assumption)) | exact fit0 (len200 (by assumption) (by assumption) (by assumption) (by assumption)) | exact fit1 (len80 (by assumption) (by assumption) (by assumption) (by assumption)) | exact fit1 (len200 (by assumption) (by assumption) (by assumption) (by assumption)) | exact fit2 (len80 (by assumption) (by assumption) (by assumption) (by assumption)) | exact fit2 (len200 (by assumption) (by assumption) (by assumption) (by assumption)) | exact fit3 (len80 (by assumption) (by assumption) (by assumption) (by assumption)) | exact fit3 (len200 (by assumption) (by assumption) (by assumption) (by assumption)) | exact fit4 (len80 (by assumption) (by assumption) (by assumption) (by assumption)) | exact fit4 (len200 (by assumption) (by assumption) (by assumption) (by assumption)) | exact fit5 (len80 (by assumption) (by assumption) (by assumption) (by assumption)) | exact fit5 (len200 (by assumption) (by assumption) (by assumption) (by assumption)) | exact fit6 (len80 (by assumption) (by assumption) (by assumption) (by assumption)) | exact fit6 (len200 (by assumption) (by assumption) (by assumption) (by assumption)))); k_whole); intro h' F' N'; (try k_sweep); (repeat ((with_reducible rename (_ ∧ _) => z9); clear z9)); (repeat ((with_reducible rename (PySem.Str.length _ ≤ PySem.Str.length _) => z9); clear z9))))
theorem datAll_str {n₁ n₂ : List (Addr × Obj)} : ∀ {vs : List Value} {ds : List Dat}, DatAll n₁ vs ds → (∀ y ∈ ds, ∃ z, y = Dat.str z ∧ Good z) → DatAll n₂ vs ds
  | _, _, .nil, _ => .nil
  | _, _, .cons (d := d) h r, g => by
    obtain ⟨z, rfl, _⟩ := g _ (.head _)
    cases h with
    | str x t => exact .cons (.str _ _) (datAll_str r fun y hy => g y (.tail _ hy))
abbrev neighT : Told Str where
  Rel := fun _ v d => ∃ t, v = .str d t
  Ok := fun d => WordOk d
  size := fun _ => 8
  Tl := fun _ => True
  Out := fun news r d => ∃ l vs n ds, r = Value.ref l ∧ (l, listOf (List.toArray vs) n) ∈ news ∧ DatAll news vs ds ∧ (∀ y ∈ ds, ∃ z, y = Dat.str z ∧ Good z) ∧ 80 ≤ ds.length ∧ ds.length ≤ 200
theorem neigh_tells (d : Str) : Ctr neighT 191 d := by
  (have hfill : PySem.Challenge.rw_dg5009_01 = PySem.Challenge.rw_dg5009_01 ∧ Mine.hd.heap_39 = Mine.hd.heap_39 := by (k_fill; exact ⟨rfl, rfl⟩))
  w_on
  unfold Ctr Tells
  intro w mean mg mb dp un gd cn cs a ccd cl outer A₀ base h₀ L m news s v Q E B F X N T hk hR hok hd hu hret
  obtain ⟨t, rfl⟩ := hR
  dsimp only at hok
  have hl6 := hok.1
  have hl10 := hok.2.1
  refine wpAny_call ?_
  k_dflt ktr_enter
  (k_with "pyIter ref" => k_dat (fun (pre : List Int) out => out.length = 1 + 7 * pre.length ∧ ∀ d ∈ out, ∃ y, d = Dat.str y ∧ Good y) "words*")
  (k_with "state" => first | exact nb_start hok | exact nb_turn1 hok (by assumption) (by assumption) (by assumption) (by assumption))
  have fl : Flag := ⟨trivial⟩
  k_steps
  refine Stop.mk ?_
  (rename Flag => fl9); clear fl9
  (k_with "pyIter ref" => k_dat (fun (pre : List Int) out => out.length = 1 + 7 * d.length + 6 * pre.length ∧ ∀ d ∈ out, ∃ y, d = Dat.str y ∧ Good y) "words*")
  (k_with "state" => first | exact nb_start2 (by assumption) (by assumption) | exact nb_turn2 hok (by assumption) (by assumption) (by assumption))
  k_steps
  (rename DatAll _ _ _ => dd9)
  (rename News h₀ _ _ (_ :: _) => nn9)
  (rename (∀ y ∈ _, ∃ z, y = Dat.str z ∧ Good z) => gg9)
  (rename (List.length _ = 1 + 7 * _ + 6 * _) => le9)
  rw [rangeKs_length] at le9
  refine hret _ [_] _ _ (by k_asm) (kst_newsOf nn9 (fun p hp => (List.mem_append.mp hp).elim (fun h => .tail _ (List.mem_append_left _ (List.mem_append_left _ h))) (fun h => (List.mem_singleton.mp h) ▸ .head _))) ?_ trivial ⟨_, _, _, _, rfl, List.mem_append_right _ (List.mem_singleton.mpr rfl), datAll_str dd9 gg9, gg9, ?_, ?_⟩
  · intro q hq p hp
    obtain rfl := List.mem_singleton.mp hp
    exact (by assumption : ∀ p ∈ news, p.1 < _) q hq
  · omega
  · omega
end Mine
end

section
open PySem PySem.W PyProof.Rows
set_option maxRecDepth 100000
set_option maxHeartbeats 4000000
namespace Mine
abbrev topE (dp un : Nat) (gd : Option (List Code)) (cn : Str) (cs : Scope) (L a : Addr) (ccd : Value) (outer : List Env) : Around := { handled := none, depth := dp, frames := some (envOf cn cs L a ccd :: outer), guards := gd, units := un }
local macro_rules | `(tactic| k_room) => `(tactic| ktr_room)
local macro_rules | `(tactic| k_units) => `(tactic| ktr_units)
structure TsIn (x : Str) (o : Option Int) : Prop where
  p : PySem.intText? x = o
  l : x.length ≤ 640
  r : (reprText x).length ≤ 1000000
theorem TsIn.none {prog : Program} {w : World} {A : Around} {s : Shared} {x : Str} {t : Tok} {E : Value → Shared → Prop} {Q : Value → Shared → Prop} (hh : A.handled = none) (H : TsIn x none)
    (h : ∀ h' e v tk, Heap.MadeExc s.heap h' e "ValueError" [v] → E (.ref e) { s with heap := h', toks := tk }) : wpC (model prog w) A (call (.type "int") [.str x t] []) Q E s := wpC_call_int_none hh H.l H.p H.r h
theorem TsIn.some {prog : Program} {w : World} {A : Around} {s : Shared} {x : Str} {t : Tok} {n : Int} {E : Value → Shared → Prop} {Q : Value → Shared → Prop} (H : TsIn x (some n))
    (h : ∀ t tk, Q (.int n t) { s with toks := tk }) : wpAny (model prog w) A (call (.type "int") [.str x t] []) Q E s := KIN.call_text H.p H.l (h _ _)
local macro_rules | `(tactic| k_inst) => `(tactic| (refine' time_inst ?N ?h1 ?h2; (case N => k_asm); (case h1 => first | assumption | k_mem); (case h2 => first | assumption | k_mem)))
local macro_rules | `(tactic| walk_at "getAttr ref") => `(tactic| (k_here; (with_reducible show wpAny _ _ (getAttr (Value.ref _) (PySem.Str.ofString "hour") _) _ _ _); k_dflt (refine' get_hour ?k1 ?k2 ?k3 ?k4 ?k5 ?kK ?kd ?ku ?h1 ?h2 ?_; (case k1 => k_asm); (case k2 => k_asm); (case k3 => k_asm); (case k4 => k_asm); (case k5 => k_asm); (case kK => first | exact rfl | assumption); (case kd => ktr_room); (case ku => ktr_units); (case h1 => k_mem); (case h2 => k_mem)); intro h' tk' F' N'))
local macro_rules | `(tactic| walk_at "getAttr ref") => `(tactic| (k_here; (with_reducible show wpAny _ _ (getAttr (Value.ref _) (PySem.Str.ofString "minute") _) _ _ _); k_dflt (refine' get_minute ?k1 ?k2 ?k3 ?k4 ?k5 ?kK ?kd ?ku ?h1 ?h2 ?_; (case k1 => k_asm); (case k2 => k_asm); (case k3 => k_asm); (case k4 => k_asm); (case k5 => k_asm); (case kK => first | exact rfl | assumption); (case kd => ktr_room); (case ku => ktr_units); (case h1 => k_mem); (case h2 => k_mem)); intro h' tk' F' N'))
local macro_rules | `(tactic| walk_at "getAttr ref") => `(tactic| (k_here; (with_reducible show wpAny _ _ (getAttr (Value.ref _) (PySem.Str.ofString "second") _) _ _ _); k_dflt (refine' get_second ?k1 ?k2 ?k3 ?k4 ?k5 ?kK ?kd ?ku ?h1 ?h2 ?_; (case k1 => k_asm); (case k2 => k_asm); (case k3 => k_asm); (case k4 => k_asm); (case k5 => k_asm); (case kK => first | exact rfl | assumption); (case kd => ktr_room); (case ku => ktr_units); (case h1 => k_mem); (case h2 => k_mem)); intro h' tk' F' N'))
local macro_rules | `(tactic| walk_at "getAttr ref") => `(tactic| (k_here; (with_reducible show wpAny _ _ (getAttr (Value.ref _) (PySem.Str.ofString "microsecond") _) _ _ _); k_dflt (refine' get_microsecond ?k1 ?k2 ?k3 ?k4 ?k5 ?kK ?kd ?ku ?h1 ?h2 ?_; (case k1 => k_asm); (case k2 => k_asm); (case k3 => k_asm); (case k4 => k_asm); (case k5 => k_asm); (case kK => first | exact rfl | assumption); (case kd => ktr_room); (case ku => ktr_units); (case h1 => k_mem); (case h2 => k_mem)); intro h' tk' F' N'))
local macro_rules | `(tactic| walk_at "compareOp NotIn int ref") => `(tactic| (k_here; (with_reducible show wpAny _ _ (compareOp CmpOp.NotIn (Value.int _ _) (Value.ref _)) _ _ _); k_dflt (refine' notin_range ?k1 ?_; (case k1 => assumption))))
local macro_rules | `(tactic| walk_at "leaving ref") => `(tactic| (k_here; (rename Flag => fl9); apply of_stop))
def digOk (rest : Str) : Bool := (rest == Str.ofString "") || ((Txt.item rest 0 == Str.ofString ".") && Txt.isdigit (Txt.slice rest (some 1) none))
def tsC (rest : Str) (o1 o2 o3 o4 : Option Int) : Option (Int × Int × Int × Int) := readC o1 o2 o3 (if digOk rest = true then o4 else none)
theorem gen_toks {α : Type} {M : Model} {A : Around} {t : Sem α} {Q : α → Shared → Prop} {E : Value → Shared → Prop} {hp : Heap} {g : Array GenState} {dr : Drawn} {X : Nat} {os : OsState} (h : ∀ k, wpAny M A t Q E ⟨hp, g, dr, k, os⟩) : wpAny M A t Q E ⟨hp, g, dr, X, os⟩ := h X
local macro_rules | `(tactic| walk_at "isTrue Compare") => `(tactic| (k_here; dsimp only; (try (refine gen_toks ?_; intro tk))))
local macro_rules | `(tactic| walk_at "eval Attribute Name") => `(tactic| (k_here; dsimp only; (try (refine gen_toks ?_; intro tk))))
theorem dig_0 : digOk (Str.ofString "") = true := by decide +kernel
theorem dig_1 {r : Str} (h1 : (Txt.item r 0 == Str.ofString ".") = true) (h2 : Txt.isdigit (Txt.slice r (some 1) none) = true) : digOk r = true := by unfold digOk; rw [h1, h2]; exact Bool.or_true _
theorem dig_2 {r : Str} (h : r ≠ Str.ofString "") (h1 : (Txt.item r 0 == Str.ofString ".") = false) : digOk r = false := by unfold digOk; rw [h1, beq_eq_false_iff_ne.mpr h]; rfl
theorem dig_3 {r : Str} (h : r ≠ Str.ofString "") (h2 : Txt.isdigit (Txt.slice r (some 1) none) = false) : digOk r = false := by unfold digOk; rw [h2, beq_eq_false_iff_ne.mpr h, Bool.and_false]; rfl
theorem ts_yes {r : Str} {a b c e : Int} (h : digOk r = true) (h1 : ¬ (a < 0 ∨ 24 ≤ a)) (h2 : ¬ (b < 0 ∨ 60 ≤ b)) (h3 : ¬ (c < 0 ∨ 60 ≤ c)) : tsC r (some a) (some b) (some c) (some e) = some (a, b, c, e) := by
  unfold tsC readC; rw [if_pos h]; exact if_neg (by omega)
theorem ts_dig {r : Str} {a b c e : Option Int} (h : digOk r = false) : tsC r a b c e = none := by unfold tsC; rw [h]; exact readC_4
theorem ts_n4 {r : Str} {a b c : Option Int} : tsC r a b c none = none := by unfold tsC; rw [ite_self]; exact readC_4
theorem ts_n1 {r : Str} {a b c : Int} {e : Option Int} (h : a < 0 ∨ 24 ≤ a) : tsC r (some a) (some b) (some c) e = none := by
  unfold tsC; split
  · cases e with
    | none => rfl
    | some e => exact if_pos (by omega)
  · rfl
theorem ts_n2 {r : Str} {a b c : Int} {e : Option Int} (h : b < 0 ∨ 60 ≤ b) : tsC r (some a) (some b) (some c) e = none := by
  unfold tsC; split
  · cases e with
    | none => rfl
    | some e => exact if_pos (by omega)
  · rfl
theorem ts_n3 {r : Str} {a b c : Int} {e : Option Int} (h : c < 0 ∨ 60 ≤ c) : tsC r (some a) (some b) (some c) e = none := by
  unfold tsC; split
  · cases e with
    | none => rfl
    | some e => exact if_pos (by omega)
  · rfl
theorem int_ne0 {r : Str} (h : r ≠ Str.ofString "") : (r.length : Int) ≠ 0 := fun e => h (str_ext (by
  have hl : r.cps.toList.length = r.length := Array.length_toList
  rw [List.eq_nil_of_length_eq_zero (l := r.cps.toList) (by omega)]
  decide +kernel))
theorem zeros_len : (Str.ofString "000000").length = 6 := by decide +kernel
local macro_rules | `(tactic| walk_at "subscriptTail BinOp") => `(tactic| (k_here; (with_reducible show wpAny _ _ (subscriptTail (PySem.Expr.BinOp _ _ _ _) (PySem.Expr.Slice none (some _) none _) _ _) _ _ _); (with_reducible rename Fr _ _ _ _ => F'); (with_reducible rename News _ _ _ _ => N'); (refine slice_strN_ns (s := ⟨_, _, _, _, _⟩) (hsz := ?hsz) F' N' ?_); (case hsz => (rw [PySem.sizeLine_eq, PySem.Str.length_append, zeros_len]; omega)); intro _ _ _ _ _))
theorem ts_1 {w : World} {mean : ExcName → Option Value} {mg mb : Str → Option Value} {dp un : Nat} {gd : Option (List Code)} {cn : Str} {cs : Scope} {a : Addr} {ccd : Value} {outer : List Env} {A₀ : Around} {base h₀ : Heap} {L : Addr} {m : Str → Option Value} {news : List (Addr × Obj)} {s : Shared}
    {R : Result → Shared → Prop} {d : Str} {t : Tok} {o1 o2 o3 o4 : Option Int}
    (B : Below A₀ base outer h₀) (F : Fr h₀ L s.heap m) (X : (hd.heap_39 w.params).In h₀) (N : News h₀ L s.heap news) (T : Top hd.view_39 (looseW hd.view_39 [Str.ofString "_tuplegetter", Str.ofString "Time"]) mean mg mb h₀) (hk : cs.kind = .function)
    (hd : dp + 20 < recursionLimit) (hu : un + 200 < cLine) (ok : d.length ≤ 11)
    (H1 : TsIn (Txt.slice d (some 0) (some 2)) o1) (H2 : TsIn (Txt.slice d (some 2) (some 4)) o2) (H3 : TsIn (Txt.slice d (some 4) (some 6)) o3)
    (H4 : (Txt.slice d (some 6) none = Str.ofString "" ∧ o4 = some 0) ∨ (Txt.slice d (some 6) none ≠ Str.ofString "" ∧ TsIn (Txt.slice (Txt.slice (Txt.slice d (some 6) none) (some 1) none ++ Str.ofString "000000") none (some 6)) o4))
    (ret : ∀ x dx h' tk' n1 n2 n3 n4 t1 t2 t3 t4, Fr h₀ L h' m → News h₀ L h' ((x, timeObj dx [.int n1 t1, .int n2 t2, .int n3 t3, .int n4 t4]) :: (dx, dictOf [] 0) :: news) → (∀ p ∈ news, p.1 < dx) → dx < x → tsC (Txt.slice d (some 6) none) o1 o2 o3 o4 = some (n1, n2, n3, n4) → R (.ok (.ret (.ref x))) { s with heap := h', toks := tk' })
    (bad : ∀ e vs t g h' tk', Fr h₀ L g m → RaisedS base g (envOf cn cs L a ccd :: outer) e (.type "ValueError") t vs news h' → g.UpToSlots h' → tsC (Txt.slice d (some 6) none) o1 o2 o3 o4 = none → R (.error (.ref e)) { s with heap := h', toks := tk' }) :
    codeC (model PySem.Challenge.pw_dg5009_01 w) (topE dp un gd cn cs L a ccd outer) (.call (.ref 148) ⟨[.str d t], []⟩) R s := by
  (have hfill : PySem.Challenge.rw_dg5009_01 = PySem.Challenge.rw_dg5009_01 ∧ Mine.hd.heap_39 = Mine.hd.heap_39 := by (k_fill; exact ⟨rfl, rfl⟩))
  w_on
  k_dflt (refine' codeC_def (binds := [(Str.ofString "s", Value.str d t)]) ?k1 ?k2 ?k3 ?k4 ?k5 ?kA ?kF ?kK ?k6 ?k7 ?k8 ?k9 ?kB ?_ ?c2 ?c3 ?c4 ?c5; (case kA => exact rfl); (case kF => exact rfl); (case kK => first | exact rfl | assumption); (case k1 => k_asm); (case k2 => k_asm); (case k3 => k_asm); (case k4 => k_asm); (case k5 => k_asm); (case k6 => k_is); (case k7 => k_is); (case k8 => ktr_room); (case k9 => first | exact binds_K (by k_in) rfl (by k_is) rfl rfl rfl | exact BindsTo.of_eq rfl | exact binds_K (by k_in) rfl (by k_is) rfl rfl rfl); (case kB => exact locs rfl); (case c2 => exact rfl); (case c3 => exact rfl); (case c4 => exact rfl); (case c5 => decide); k_whole; intro g' L' h' FG' F' N' B' X' T' S'; (try dsimp only); (try k_fold))
  refine wpC_execs_cons (wpC_of ?_)
  k_steps
  (show wpC _ _ (execs _ _) _ _ _)
  refine wpC_execs_cons (wpC_of ?_)
  k_steps
  (show wpC _ _ (execs _ _) _ _ _)
  (rename Fr _ _ _ _ => F9); dsimp only at F9 ⊢
  have hl9 : (Txt.slice d (some 6) none).length ≤ d.length := by assumption
  generalize hr9 : Txt.slice d (some 6) none = rest at *
  refine wpC_execs_stage (I := fun s' => ∃ h tk kk tr9 n4, s' = ⟨h, s.gens, s.drawn, tk, s.os⟩ ∧ o4 = some n4 ∧ Fr g' L' h (fun y => if y = Str.ofString "ms" then some (Value.int n4 kk) else if y = Str.ofString "ms_s" then some (Value.str rest tr9) else List.lookup y [(Str.ofString "s", Value.str d t)].reverse) ∧ News g' L' h news) ?use ?key
  case use =>
    rcases H4 with ⟨h4, h5⟩ | ⟨h4, h5⟩
    · subst h5
      rw [h4] at F9 ⊢
      refine wpC_of ?_
      k_steps
      (rename Fr _ _ _ _ => F9); dsimp only at F9 ⊢
      exact ⟨rfl, _, _, _, _, _, rfl, rfl, F9, by k_asm⟩
    · have h4n := int_ne0 h4
      refine wpC_Assign_Name ?_
      rw [arm_eval_BoolOp]; simp only [evalEach]
      refine wpC_boolOp_cons ?_
      rw [arm_eval_BoolOp]; simp only [evalEach]
      refine wpC_boolOp_cons (wpC_of ?_)
      k_steps
      rw [show ((rest.length : Int) != 0) = true from bne_iff_ne.mpr h4n]
      (show wpC _ _ (boolOp _ _ _) _ _ _)
      refine wpC_boolOp_one (wpC_Call_Name (wpC_of ?_))
      k_steps
      (show wpC _ _ (callWith _ (Value.type "int") [] [(false, eval _ _)] []) _ _ _)
      refine wpC_callWith_type1 (wpC_of ?_)
      k_steps
      (rename Fr _ _ _ _ => F10); (rename News _ _ _ _ => N10); (try dsimp only at F10 N10)
      cases o4 with
      | none =>
        refine TsIn.none rfl h5 fun h' e v tk hm => ?_
        (try dsimp only at hm ⊢)
        refine leave_raiseS B' (Heap.MadeExc.of hm) F10 N10 fun h' t RS RK U => ?_
        exact bad e _ t _ h' _ FG' RS U ts_n4
      | some n4 =>
      refine wpC_of (TsIn.some h5 fun t4 tk4 => ?_)
      (try dsimp only)
      by_cases h0 : n4 = 0
      · subst h0
        k_steps
        (show wpC _ _ (boolOp _ _ _) _ _ _)
        refine wpC_boolOp_one (wpC_of ?_)
        k_steps
        (show wpC _ _ (storeName _ _ _) _ _ _)
        refine wpC_of ?_
        k_steps
        (rename Fr _ _ _ _ => F9); (try dsimp only at F9 ⊢)
        exact ⟨rfl, _, _, _, _, _, rfl, rfl, F9, by k_asm⟩
      · k_steps
        rw [show (n4 != 0) = true from bne_iff_ne.mpr h0]
        (show wpC _ _ (storeName _ _ _) _ _ _)
        refine wpC_of ?_
        k_steps
        (rename Fr _ _ _ _ => F9); (try dsimp only at F9 ⊢)
        exact ⟨rfl, _, _, _, _, _, rfl, rfl, F9, by k_asm⟩
  case key =>
    rintro s8 ⟨h8, tk8, kk, tr9, n4, rfl, rfl, F8, N8⟩
    clear F9
    refine wpC_execs_cons (wpC_Assign_Name (wpC_Call_Name (wpC_of ?_)))
    k_steps
    (show wpC _ _ (callWith _ _ _ _ _) _ _ _)
    (try dsimp only)
    refine wpC_callWith_of (P := (Mine.hd.heap_39 w.params).In) rfl (keeps_K (by kernel_rfl)) (wpC_evalArgs_kw_nil rfl ?_)
    simp only [backToKw, keywordEach, List.map]
    refine wpC_evalAll_cons (wpC_backTo (wpC_Call_Name (wpC_of ?_)))
    k_steps
    (show wpC _ _ (callWith _ (Value.type "int") [] [(false, eval _ _)] []) _ _ _)
    refine wpC_callWith_type1 (wpC_of ?_)
    k_steps
    (rename Fr _ _ _ _ => F9); (rename News _ _ _ _ => N9); (try dsimp only at F9 N9)
    cases o1 with
    | none =>
      refine TsIn.none rfl H1 fun h' e v tk hm => ?_
      (try dsimp only at hm ⊢)
      refine leave_raiseS B' (Heap.MadeExc.of hm) F9 N9 fun h' t RS RK U => ?_
      exact bad e _ t _ h' _ FG' RS U readC_1
    | some n1 =>
    refine wpC_of (TsIn.some H1 fun t1 tk1 => ?_)
    (show wpC _ _ (evalAll _) _ _ _)
    (try dsimp only)
    refine wpC_evalAll_cons (wpC_backTo (wpC_Call_Name (wpC_of ?_)))
    k_steps
    (show wpC _ _ (callWith _ (Value.type "int") [] [(false, eval _ _)] []) _ _ _)
    refine wpC_callWith_type1 (wpC_of ?_)
    k_steps
    (rename Fr _ _ _ _ => F10); (rename News _ _ _ _ => N10); (try dsimp only at F10 N10)
    cases o2 with
    | none =>
      refine TsIn.none rfl H2 fun h' e v tk hm => ?_
      (try dsimp only at hm ⊢)
      refine leave_raiseS B' (Heap.MadeExc.of hm) F10 N10 fun h' t RS RK U => ?_
      exact bad e _ t _ h' _ FG' RS U readC_2
    | some n2 =>
    refine wpC_of (TsIn.some H2 fun t2 tk2 => ?_)
    (show wpC _ _ (evalAll _) _ _ _)
    (try dsimp only)
    refine wpC_evalAll_cons (wpC_backTo (wpC_Call_Name (wpC_of ?_)))
    k_steps
    (show wpC _ _ (callWith _ (Value.type "int") [] [(false, eval _ _)] []) _ _ _)
    refine wpC_callWith_type1 (wpC_of ?_)
    k_steps
    (rename Fr _ _ _ _ => F11); (rename News _ _ _ _ => N11); (try dsimp only at F11 N11)
    cases o3 with
    | none =>
      refine TsIn.none rfl H3 fun h' e v tk hm => ?_
      (try dsimp only at hm ⊢)
      refine leave_raiseS B' (Heap.MadeExc.of hm) F11 N11 fun h' t RS RK U => ?_
      exact bad e _ t _ h' _ FG' RS U readC_3
    | some n3 =>
    refine wpC_of (TsIn.some H3 fun t3 tk3 => ?_)
    (show wpC _ _ (evalAll _) _ _ _)
    (try dsimp only)
    refine wpC_evalAll_cons (wpC_backTo (wpC_of ?_))
    k_steps
    (show wpC _ _ (evalAll []) _ _ _)
    refine wpC_evalAll_nil ?_
    (try dsimp only)
    refine ⟨X'.keeps F11.keep, ?_⟩
    (show wpC _ _ (call (Value.ref 138) [] (timeKw (Value.int n1 _) (Value.int n2 _) (Value.int n3 _) (Value.int n4 _))) _ _ _)
    refine wpC_of ?_
    k_dflt (refine' time_call (cl := []) ?k1 ?k2 ?k3 ?k4 ?k5 ?kK ?kd ?ku ?_; (case k1 => k_asm); (case k2 => k_asm); (case k3 => k_asm); (case k4 => k_asm); (case k5 => k_asm); (case kK => first | exact rfl | assumption); (case kd => ktr_room); (case ku => ktr_units))
    intro x dx h12 tk12 F12 N12 l1 l2
    refine wpC_of ?_
    have l1c := l1
    (try k_lt l1)
    (try k_lt2 l2)
    k_steps
    (show wpC _ _ (execs _ _) _ _ _)
    (rename Fr _ _ _ _ => F13); (rename News _ _ _ _ => N13); (try dsimp only at F13 N13 ⊢)
    refine wpC_of ?_
    clear H1 H2 H3
    rcases H4 with ⟨h4, h5⟩ | ⟨h4, h5⟩
    · subst h4
      have fl : Flag := ⟨trivial⟩
      k_steps
      all_goals first
        | exact ret x dx _ _ n1 n2 n3 n4 _ _ _ _ (by assumption) (by assumption) l1c l2 (ts_yes dig_0 (by assumption) (by assumption) (by assumption))
        | (refine Stop.mk ?_
           (rename Fr _ _ _ _ => F14); (rename News _ _ _ _ => N14); (rename Heap.MadeExc _ _ _ _ _ => M14); (try dsimp only at F14 N14 M14 ⊢)
           refine leave_raiseS (news := news) B' (Heap.MadeExc.of M14) F14 (fun q hq => N14 q (.tail _ (.tail _ hq))) fun h' t RS RK U => ?_
           exact bad _ _ t _ h' _ FG' RS U (by first | exact ts_n1 (by assumption) | exact ts_n2 (by assumption) | exact ts_n3 (by assumption)))
    · clear h5
      have h4n := int_ne0 h4
      have fl : Flag := ⟨trivial⟩
      k_steps
      all_goals first
        | exact absurd (by assumption) h4n
        | exact ret x dx _ _ n1 n2 n3 n4 _ _ _ _ (by assumption) (by assumption) l1c l2 (ts_yes (dig_1 (by assumption) (by assumption)) (by assumption) (by assumption) (by assumption))
        | (refine Stop.mk ?_
           (rename Fr _ _ _ _ => F14); (rename News _ _ _ _ => N14); (rename Heap.MadeExc _ _ _ _ _ => M14); (try dsimp only at F14 N14 M14 ⊢)
           refine leave_raiseS (news := news) B' (Heap.MadeExc.of M14) F14 (fun q hq => N14 q (.tail _ (.tail _ hq))) fun h' t RS RK U => ?_
           exact bad _ _ t _ h' _ FG' RS U (by first | exact ts_dig (dig_2 h4 (by assumption)) | exact ts_dig (dig_3 h4 (by assumption)) | exact ts_n1 (by assumption) | exact ts_n2 (by assumption) | exact ts_n3 (by assumption)))
end Mine
end

section
open PySem PySem.W PyProof.Rows
set_option maxRecDepth 100000
set_option maxHeartbeats 4000000
namespace Mine
local macro_rules | `(tactic| k_room) => `(tactic| ktr_room)
local macro_rules | `(tactic| k_units) => `(tactic| ktr_units)
local macro_rules | `(tactic| k_inst) => `(tactic| (refine' time_inst ?N ?h1 ?h2; (case N => k_asm); (case h1 => first | assumption | k_mem); (case h2 => first | assumption | k_mem)))
local macro_rules | `(tactic| walk_at "getAttr ref") => `(tactic| (k_here; (with_reducible show wpAny _ _ (getAttr (Value.ref _) (PySem.Str.ofString "hour") _) _ _ _); k_dflt (refine' get_hour ?k1 ?k2 ?k3 ?k4 ?k5 ?kK ?kd ?ku ?h1 ?h2 ?_; (case k1 => k_asm); (case k2 => k_asm); (case k3 => k_asm); (case k4 => k_asm); (case k5 => k_asm); (case kK => first | exact rfl | assumption); (case kd => ktr_room); (case ku => ktr_units); (case h1 => k_mem); (case h2 => k_mem)); intro h' tk' F' N'))
local macro_rules | `(tactic| walk_at "getAttr ref") => `(tactic| (k_here; (with_reducible show wpAny _ _ (getAttr (Value.ref _) (PySem.Str.ofString "minute") _) _ _ _); k_dflt (refine' get_minute ?k1 ?k2 ?k3 ?k4 ?k5 ?kK ?kd ?ku ?h1 ?h2 ?_; (case k1 => k_asm); (case k2 => k_asm); (case k3 => k_asm); (case k4 => k_asm); (case k5 => k_asm); (case kK => first | exact rfl | assumption); (case kd => ktr_room); (case ku => ktr_units); (case h1 => k_mem); (case h2 => k_mem)); intro h' tk' F' N'))
local macro_rules | `(tactic| walk_at "getAttr ref") => `(tactic| (k_here; (with_reducible show wpAny _ _ (getAttr (Value.ref _) (PySem.Str.ofString "second") _) _ _ _); k_dflt (refine' get_second ?k1 ?k2 ?k3 ?k4 ?k5 ?kK ?kd ?ku ?h1 ?h2 ?_; (case k1 => k_asm); (case k2 => k_asm); (case k3 => k_asm); (case k4 => k_asm); (case k5 => k_asm); (case kK => first | exact rfl | assumption); (case kd => ktr_room); (case ku => ktr_units); (case h1 => k_mem); (case h2 => k_mem)); intro h' tk' F' N'))
local macro_rules | `(tactic| walk_at "getAttr ref") => `(tactic| (k_here; (with_reducible show wpAny _ _ (getAttr (Value.ref _) (PySem.Str.ofString "microsecond") _) _ _ _); k_dflt (refine' get_microsecond ?k1 ?k2 ?k3 ?k4 ?k5 ?kK ?kd ?ku ?h1 ?h2 ?_; (case k1 => k_asm); (case k2 => k_asm); (case k3 => k_asm); (case k4 => k_asm); (case k5 => k_asm); (case kK => first | exact rfl | assumption); (case kd => ktr_room); (case ku => ktr_units); (case h1 => k_mem); (case h2 => k_mem)); intro h' tk' F' N'))
local macro_rules | `(tactic| walk_at "compareOp NotIn int ref") => `(tactic| (k_here; (with_reducible show wpAny _ _ (compareOp CmpOp.NotIn (Value.int _ _) (Value.ref _)) _ _ _); k_dflt (refine' notin_range ?k1 ?_; (case k1 => assumption))))
theorem told_1 {w : World} {mean : ExcName → Option Value} {mg mb : Str → Option Value} {dp un : Nat} {gd : Option (List Code)} {cn : Str} {cs : Scope} {a : Addr} {ccd : Value} {A₀ : Around} {base h₀ : Heap} {L : Addr} {m : Str → Option Value} {news : List (Addr × Obj)} {s : Shared}
    {Q E : Value → Shared → Prop} {d : Str} {t : Tok} {o1 o2 o3 o4 : Option Int}
    (B : Below A₀ base [] h₀) (F : Fr h₀ L s.heap m) (X : (hd.heap_39 w.params).In h₀) (N : News h₀ L s.heap news) (T : Top hd.view_39 (looseW hd.view_39 [Str.ofString "_tuplegetter", Str.ofString "Time"]) mean mg mb h₀) (hk : cs.kind = .function)
    (XB : (hd.heap_39 w.params).In base) (TB : Top hd.view_39 (looseW hd.view_39 [Str.ofString "_tuplegetter", Str.ofString "Time"]) mean mg mb base)
    (hd : dp + 30 < recursionLimit) (hu : un + 300 < cLine) (ok : d.length ≤ 11)
    (H1 : TsIn (Txt.slice d (some 0) (some 2)) o1) (H2 : TsIn (Txt.slice d (some 2) (some 4)) o2) (H3 : TsIn (Txt.slice d (some 4) (some 6)) o3)
    (H4 : (Txt.slice d (some 6) none = Str.ofString "" ∧ o4 = some 0) ∨ (Txt.slice d (some 6) none ≠ Str.ofString "" ∧ TsIn (Txt.slice (Txt.slice (Txt.slice d (some 6) none) (some 1) none ++ Str.ofString "000000") none (some 6)) o4))
    (ret : ∀ r tl h' tk', Fr h₀ L h' m → News h₀ L h' (news ++ tl) → (∀ q ∈ news, ∀ p ∈ tl, q.1 < p.1) → DatIn (news ++ tl) r (datC (tsC (Txt.slice d (some 6) none) o1 o2 o3 o4)) → Q r { s with heap := h', toks := tk' }) :
    wpC (model PySem.Challenge.pw_dg5009_01 w) (topE dp un gd cn cs L a ccd []) (call (.ref 184) [.str d t]) Q E s := by
  (have hfill : PySem.Challenge.rw_dg5009_01 = PySem.Challenge.rw_dg5009_01 ∧ Mine.hd.heap_39 = Mine.hd.heap_39 := by (k_fill; exact ⟨rfl, rfl⟩))
  w_on
  refine wpC_call ?_
  k_dflt (refine' codeC_defT (binds := [(Str.ofString "word", Value.str d t)]) ?k1 ?k2 ?k3 ?k4 ?k5 ?kA ?k6 ?k7 ?k8 ?k9 ?kB ?_ ?cK ?c2 ?c3 ?c4 ?c5; (case kA => exact rfl); (case k2 => k_asm); (case k1 => k_asm); (case k3 => k_asm); (case k4 => k_asm); (case k5 => k_asm); (case k6 => k_is); (case k7 => k_is); (case k8 => k_room); (case k9 => first | exact binds_K (by k_in) rfl (by k_is) rfl rfl rfl | exact BindsTo.of_eq rfl); (case kB => exact locs rfl); (case cK => exact hk); (case c2 => exact rfl); (case c3 => exact rfl); (case c4 => exact rfl); (case c5 => decide); k_whole; intro g' L' h' FG' F' N' B' X' T' D'; (try dsimp only); (try k_lift B'); (try k_fold))
  refine wpC_execs_cons (wpC_Try_except ?_)
  refine wpC_execs_cons (wpC_Assign_Name (wpC_Call_Name (wpC_of ?_)))
  k_steps
  (show wpC _ _ (callWith _ (Value.ref 148) [] [(false, eval _ _)] []) _ _ _)
  (try dsimp only)
  refine wpC_callWith_of (P := (Mine.hd.heap_39 w.params).In) rfl (keeps_K (by kernel_rfl)) (wpC_evalArgs_plain (wpC_spliced_cons (wpC_of ?_)))
  k_steps
  (show wpC _ _ (spliced []) _ _ _)
  refine wpC_spliced_nil ?_
  (rename Fr _ _ _ _ => F9); (rename News _ _ _ _ => N9); (try dsimp only at F9 N9 ⊢)
  refine ⟨X'.keeps F9.keep, ?_⟩
  refine wpC_call ?_
  refine ts_1 (outer := [envOf cn cs L a ccd]) B' F9 X' N9 T' rfl (by dsimp only; omega) (by dsimp only; omega) ok H1 H2 H3 H4 ?ret ?bad
  case ret =>
    intro x dx h12 tk12 n1 n2 n3 n4 t1 t2 t3 t4 F12 N12 l1 l2 hts
    clear F9 N9
    (show wpC _ _ (storeName _ _ _) _ _ _)
    refine wpC_of ?_
    have l1c := l1
    (try k_lt l1)
    (try k_lt2 l2)
    k_steps
    (show wpC _ _ (execs [] _) _ _ _)
    refine wpC_of ?_
    k_steps
    (show wpC _ _ (execs [] _) _ _ _)
    refine wpC_of ?_
    k_steps
    (show wpC _ _ (execs _ _) _ _ _)
    (try dsimp only)
    refine wpC_of ?_
    k_steps
    (rename News h₀ _ _ _ => nn9); (rename (_ ∧ _ ∧ AllLt _ _) => al9)
    refine ret _ [_] _ _ (by assumption) (kst_newsOf nn9 (fun p hp => (List.mem_append.mp hp).elim (fun h => .tail _ (.tail _ (.tail _ h))) (fun h => (List.mem_singleton.mp h) ▸ .head _))) ?_ ?_
    · intro q hq p hp
      obtain rfl := List.mem_singleton.mp hp
      exact of_allLt al9.2.2 q hq
    · rw [hts]
      exact .list (List.mem_append_right _ (List.mem_singleton.mpr rfl)) (.cons (.int _ _) (.cons (.int _ _) (.cons (.int _ _) (.cons (.int _ _) .nil))))
  case bad =>
    intro e vs t1 g1 h12 tk12 F12 RS U hts
    (try dsimp only)
    k_steps
    (rename News h₀ _ _ _ => nn9)
    exact ret _ [] _ _ (by assumption) (by rw [List.append_nil]; exact nn9) (fun _ _ _ h9 => nomatch h9) (by rw [hts]; exact .str _ _)
end Mine
end

section
open PySem PySem.W PyProof.Rows PySem.NumText
set_option maxRecDepth 100000
set_option maxHeartbeats 4000000
namespace Mine
def sg14 : List Nat := [48, 49, 50, 51, 52, 53, 54, 55, 56, 57, 43, 45, 46, 120]
theorem mem14 {c : Nat} (h : isSign c) : c ∈ sg14 := by
  unfold isSign at h
  have e : c = 48 ∨ c = 49 ∨ c = 50 ∨ c = 51 ∨ c = 52 ∨ c = 53 ∨ c = 54 ∨ c = 55 ∨ c = 56 ∨ c = 57 ∨ c = 43 ∨ c = 45 ∨ c = 46 ∨ c = 120 := by omega
  unfold sg14
  simp only [List.mem_cons, List.not_mem_nil, or_false]
  exact e
theorem win_0 : PySem.intText? ⟨#[]⟩ = winOf ⟨#[]⟩ := by decide +kernel
theorem win_1 : ∀ a ∈ sg14, PySem.intText? ⟨#[a]⟩ = winOf ⟨#[a]⟩ := by decide +kernel
theorem win_2 : ∀ a ∈ sg14, ∀ b ∈ sg14, PySem.intText? ⟨#[a, b]⟩ = winOf ⟨#[a, b]⟩ := by decide +kernel
theorem fig_c : ∀ a ∈ sg14, figC (a : Int) = if 48 ≤ a ∧ a ≤ 57 then (a : Int) - 48 else -1 := by decide +kernel
theorem dig_c : ∀ a ∈ sg14, Unicode.isDigit a = decide (48 ≤ a ∧ a ≤ 57) := by decide +kernel
theorem win_law {y : Str} (hl : y.length ≤ 2) (hs : ∀ c ∈ y.cps.toList, isSign c) : PySem.intText? y = winOf y := by
  obtain ⟨⟨l⟩⟩ := y
  match l, hl, hs with
  | [], _, _ => exact win_0
  | [a], _, hs => exact win_1 a (mem14 (hs a (by simp)))
  | [a, b], _, hs => exact win_2 a (mem14 (hs a (by simp))) b (mem14 (hs b (by simp)))
  | a :: b :: c :: r, hl, _ => exact absurd hl (by show ¬ (a :: b :: c :: r).length ≤ 2; simp only [List.length_cons]; omega)
theorem dot_c : ∀ c ∈ sg14, ((⟨#[c]⟩ : Str) == Str.ofString ".") = decide (c = 46) := by decide +kernel
theorem zeros_list : (Str.ofString "000000").cps.toList = [48, 48, 48, 48, 48, 48] := by decide +kernel
theorem empty_list : (Str.ofString "").cps.toList = [] := by decide +kernel
theorem item_0 {c : Nat} {cs : List Nat} : Txt.item ⟨⟨c :: cs⟩⟩ 0 = ⟨#[c]⟩ := by
  have e : seqIndex? 0 (⟨⟨c :: cs⟩⟩ : Str).length = some 0 := by
    show seqIndex? 0 (cs.length + 1) = some 0
    unfold seqIndex?
    simp
  unfold Txt.item Txt.charAt
  rw [e]
  rfl
theorem digOk_cons {c : Nat} {cs : List Nat} (h : isSign c) (hs : ∀ x ∈ cs, isSign x) : digOk ⟨⟨c :: cs⟩⟩ = (decide (c = 46) && (!cs.isEmpty && cs.all fun x => decide (48 ≤ x ∧ x ≤ 57))) := by
  unfold digOk
  have e0 : ((⟨⟨c :: cs⟩⟩ : Str) == Str.ofString "") = false := beq_eq_false_iff_ne.mpr fun e => by
    have := congrArg (fun x : Str => x.cps.toList) e
    simp only [empty_list] at this
    cases this
  have e1 : Txt.slice ⟨⟨c :: cs⟩⟩ (some 1) none = ⟨⟨cs⟩⟩ := str_ext (slice_from (i := 1))
  rw [e0, item_0, dot_c c (mem14 h), e1, Bool.false_or]
  congr 1
  unfold Txt.isdigit
  congr 1
  · cases cs <;> rfl
  · rw [← Array.all_toList]
    show cs.all _ = _
    rw [Bool.eq_iff_iff, List.all_eq_true, List.all_eq_true]
    exact forall_congr' fun x => forall_congr' fun hx => by rw [dig_c x (mem14 (hs x hx))]
theorem fine_cons {c : Nat} {cs : List Nat} (h : isSign c) (hs : ∀ x ∈ cs, isSign x) : fineOf ⟨⟨c :: cs⟩⟩ =
    if (decide (c = 46) && (!cs.isEmpty && cs.all fun x => decide (48 ≤ x ∧ x ≤ 57))) = true then some (valC (cs.map fun (x : Nat) => (x : Int)) * 10 ^ (6 - cs.length)) else none := by
  unfold fineOf
  have e0 : ((⟨⟨c :: cs⟩⟩ : Str) == Str.ofString "") = false := beq_eq_false_iff_ne.mpr fun e => by
    have := congrArg (fun x : Str => x.cps.toList) e
    simp only [empty_list] at this
    cases this
  have e1 : Txt.slice ⟨⟨c :: cs⟩⟩ (some 1) none = ⟨⟨cs⟩⟩ := str_ext (slice_from (i := 1))
  have e2 : ((⟨⟨c :: cs⟩⟩ : Str).length : Int) = (cs.length : Int) + 1 := rfl
  have e3 : KStt.codes ⟨⟨cs⟩⟩ = cs.map fun (x : Nat) => (x : Int) := rfl
  rw [e0, if_neg Bool.false_ne_true, item_0, e1, e2, e3, List.length_map]
  have e4 : ((⟨#[c]⟩ : Str) != Str.ofString ".") = !decide (c = 46) := by rw [bne, dot_c c (mem14 h)]
  rw [e4]
  by_cases hc : c = 46
  · rw [decide_eq_true hc]
    simp only [Bool.not_true, Bool.false_eq_true, if_false, Bool.true_and]
    cases cs with
    | nil => rfl
    | cons x xs =>
      rw [if_neg (by simp only [List.length_cons]; omega)]
      have hb : (∀ z ∈ (x :: xs).map (fun (x : Nat) => (x : Int)), 0 ≤ figC z) ↔ ((!(x :: xs).isEmpty && (x :: xs).all fun x => decide (48 ≤ x ∧ x ≤ 57)) = true) := by
        simp only [List.isEmpty_cons, Bool.not_false, Bool.true_and, List.all_eq_true, List.forall_mem_map]
        refine forall_congr' fun z => forall_congr' fun hz => ?_
        rw [fig_c z (mem14 (hs z hz)), decide_eq_true_eq]
        split <;> omega
      by_cases hq : ∀ z ∈ (x :: xs).map (fun (x : Nat) => (x : Int)), 0 ≤ figC z
      · rw [if_pos hq, if_pos (hb.mp hq)]
      · rw [if_neg hq, if_neg (fun e => hq (hb.mpr e))]
  · rw [decide_eq_false hc]
    rfl
theorem fig_d {a : Nat} (h : 48 ≤ a ∧ a ≤ 57) : figC (a : Int) = (a : Int) - 48 := by
  rw [fig_c a (mem14 (.inl h)), if_pos h]
theorem val_dig {cs : List Nat} (hd : AllDigits cs) (hl : cs.length ≤ 4) : valC (cs.map fun (x : Nat) => (x : Int)) * 10 ^ (6 - cs.length) = ((digitsVal ((cs ++ [48, 48, 48, 48, 48, 48]).take 6) : Nat) : Int) := by
  match cs, hd, hl with
  | [], _, _ => rfl
  | [a], hd, _ =>
    have h1 := hd a (by simp)
    simp only [valC, digitsVal, List.map, List.foldl, List.cons_append, List.nil_append, List.take, List.length, fig_d h1]
    omega
  | [a, b], hd, _ =>
    have h1 := hd a (by simp)
    have h2 := hd b (by simp)
    simp only [valC, digitsVal, List.map, List.foldl, List.cons_append, List.nil_append, List.take, List.length, fig_d h1, fig_d h2]
    omega
  | [a, b, c], hd, _ =>
    have h1 := hd a (by simp)
    have h2 := hd b (by simp)
    have h3 := hd c (by simp)
    simp only [valC, digitsVal, List.map, List.foldl, List.cons_append, List.nil_append, List.take, List.length, fig_d h1, fig_d h2, fig_d h3]
    omega
  | [a, b, c, e], hd, _ =>
    have h1 := hd a (by simp)
    have h2 := hd b (by simp)
    have h3 := hd c (by simp)
    have h4 := hd e (by simp)
    simp only [valC, digitsVal, List.map, List.foldl, List.cons_append, List.nil_append, List.take, List.length, fig_d h1, fig_d h2, fig_d h3, fig_d h4]
    omega
  | a :: b :: c :: e :: f :: r, _, hl => exact absurd hl (by simp only [List.length_cons]; omega)
theorem y_list {c : Nat} {cs : List Nat} : (Txt.slice (Txt.slice ⟨⟨c :: cs⟩⟩ (some 1) none ++ Str.ofString "000000") none (some 6)).cps.toList = (cs ++ [48, 48, 48, 48, 48, 48]).take 6 := by
  have e1 : Txt.slice ⟨⟨c :: cs⟩⟩ (some 1) none = ⟨⟨cs⟩⟩ := str_ext (slice_from (i := 1))
  rw [e1, show (some (6 : Int)) = some ((6 : Nat) : Int) from rfl, slice_to, app_list, zeros_list]
theorem fine_law {c : Nat} {cs : List Nat} (h : isSign c) (hs : ∀ x ∈ cs, isSign x) (hl : cs.length ≤ 4) :
    (if digOk ⟨⟨c :: cs⟩⟩ = true then PySem.intText? (Txt.slice (Txt.slice ⟨⟨c :: cs⟩⟩ (some 1) none ++ Str.ofString "000000") none (some 6)) else none) = fineOf ⟨⟨c :: cs⟩⟩ := by
  rw [digOk_cons h hs, fine_cons h hs]
  split
  · rename_i hd
    simp only [Bool.and_eq_true, List.all_eq_true, decide_eq_true_eq] at hd
    have hy := y_list (c := c) (cs := cs)
    have hlen := congrArg List.length hy
    rw [len_list, List.length_take, List.length_append] at hlen
    have hA : AllDigits ((cs ++ [48, 48, 48, 48, 48, 48]).take 6) := fun x hx => by
      rcases List.mem_append.mp (List.mem_of_mem_take hx) with hx | hx
      · exact hd.2.2 x hx
      · simp only [List.mem_cons, List.not_mem_nil, or_false, or_self] at hx
        omega
    rw [intText_digits (by rw [hy]; exact hA) (fun e => by rw [e] at hy; have := congrArg List.length hy; rw [List.length_take, List.length_append] at this; simp only [List.length_cons, List.length_nil] at this; omega) (by simp only [List.length_cons, List.length_nil] at hlen; omega), hy]
    rw [val_dig (fun x hx => hd.2.2 x hx) hl]
  · rfl
theorem sign_lt {c : Nat} (h : isSign c) : c < 16 ^ 8 := by unfold isSign at h; omega
theorem tsin_of {y : Str} {o : Option Int} (hs : ∀ c ∈ y.cps.toList, isSign c) (hl : y.length ≤ 6) (h : PySem.intText? y = o) : TsIn y o :=
  ⟨h, by omega, by have := StrLaws.reprText_len y (fun c hc => sign_lt (hs c hc)); omega⟩
theorem told_law {d : Str} (hg : Good d) : ∃ o1 o2 o3 o4, TsIn (Txt.slice d (some 0) (some 2)) o1 ∧ TsIn (Txt.slice d (some 2) (some 4)) o2 ∧ TsIn (Txt.slice d (some 4) (some 6)) o3 ∧
    ((Txt.slice d (some 6) none = Str.ofString "" ∧ o4 = some 0) ∨ (Txt.slice d (some 6) none ≠ Str.ofString "" ∧ TsIn (Txt.slice (Txt.slice (Txt.slice d (some 6) none) (some 1) none ++ Str.ofString "000000") none (some 6)) o4)) ∧
    tsC (Txt.slice d (some 6) none) o1 o2 o3 o4 = readOf d := by
  obtain ⟨g1, g2, g3⟩ := hg
  have s1 : ∀ c ∈ (Txt.slice d (some 0) (some 2)).cps.toList, isSign c := fun c hc => by
    have e := slice_list (x := d) (i := 0) (j := 2) (by decide)
    exact g3 c (List.mem_of_mem_drop (List.mem_of_mem_take (e ▸ hc)))
  have s2 : ∀ c ∈ (Txt.slice d (some 2) (some 4)).cps.toList, isSign c := fun c hc => by
    have e := slice_list (x := d) (i := 2) (j := 4) (by decide)
    exact g3 c (List.mem_of_mem_drop (List.mem_of_mem_take (e ▸ hc)))
  have s3 : ∀ c ∈ (Txt.slice d (some 4) (some 6)).cps.toList, isSign c := fun c hc => by
    have e := slice_list (x := d) (i := 4) (j := 6) (by decide)
    exact g3 c (List.mem_of_mem_drop (List.mem_of_mem_take (e ▸ hc)))
  have e6 : (Txt.slice d (some 6) none).cps.toList = d.cps.toList.drop 6 := slice_from (i := 6)
  have s6 : ∀ c ∈ (Txt.slice d (some 6) none).cps.toList, isSign c := fun c hc => g3 c (List.mem_of_mem_drop (e6 ▸ hc))
  have l1 := slice_02 d
  have l2 := slice_24 d
  have l3 := slice_46 d
  have l6 : (Txt.slice d (some 6) none).cps.toList.length ≤ 5 := by rw [e6, List.length_drop, len_list]; omega
  refine ⟨winOf (Txt.slice d (some 0) (some 2)), winOf (Txt.slice d (some 2) (some 4)), winOf (Txt.slice d (some 4) (some 6)), ?_⟩
  unfold readOf
  generalize Txt.slice d (some 6) none = r at *
  obtain ⟨⟨l⟩⟩ := r
  cases l with
  | nil =>
    have e : (⟨⟨[]⟩⟩ : Str) = Str.ofString "" := str_ext (by rw [empty_list])
    refine ⟨some 0, tsin_of s1 (by omega) (win_law l1 s1), tsin_of s2 (by omega) (win_law l2 s2), tsin_of s3 (by omega) (win_law l3 s3), .inl ⟨e, rfl⟩, ?_⟩
    rw [e]
    unfold tsC
    rw [if_pos dig_0]
    congr 1
  | cons c cs =>
    have hc : isSign c := s6 c (.head _)
    have hcs : ∀ x ∈ cs, isSign x := fun x hx => s6 x (.tail _ hx)
    have hl : cs.length ≤ 4 := by have : (c :: cs).length ≤ 5 := l6; simp only [List.length_cons] at this; omega
    have ne : (⟨⟨c :: cs⟩⟩ : Str) ≠ Str.ofString "" := fun e => by
      have := congrArg (fun x : Str => x.cps.toList) e
      simp only [empty_list] at this
      cases this
    have hy := y_list (c := c) (cs := cs)
    have hlen := congrArg List.length hy
    rw [len_list, List.length_take, List.length_append] at hlen
    refine ⟨_, tsin_of s1 (by omega) (win_law l1 s1), tsin_of s2 (by omega) (win_law l2 s2), tsin_of s3 (by omega) (win_law l3 s3), .inr ⟨ne, tsin_of (fun x hx => ?_) (by omega) rfl⟩, ?_⟩
    · rw [hy] at hx
      rcases List.mem_append.mp (List.mem_of_mem_take hx) with hx | hx
      · exact hcs x hx
      · simp only [List.mem_cons, List.not_mem_nil, or_false, or_self] at hx
        exact .inl (by omega)
    · unfold tsC
      rw [fine_law hc hcs hl]
theorem anchor_list : (Str.ofString "235959.5").cps.toList = [50, 51, 53, 57, 53, 57, 46, 53] := by decide +kernel
theorem anchor_good : Good (Str.ofString "235959.5") := by
  have hl := len_list (Str.ofString "235959.5")
  rw [anchor_list] at hl
  simp only [List.length_cons, List.length_nil] at hl
  refine ⟨by omega, by omega, fun c hc => ?_⟩
  rw [anchor_list] at hc
  simp only [List.mem_cons, List.not_mem_nil, or_false] at hc
  unfold isSign
  omega
theorem anchor_read : readOf (Str.ofString "235959.5") = some (23, 59, 59, 500000) := by decide +kernel
end Mine
end

section
open PySem PySem.W PyProof.Rows PySem.Calls
set_option maxRecDepth 100000
set_option maxHeartbeats 8000000
namespace Mine
open Builtin Builtin.Str
def PC (w : Nat) : Percent := { zero := true, width := some w, type := 100 }
def pcT (w k : Nat) : List Nat := percentInt (PC w) false (Str.ofString (toString (k : Int))).cps.toList
def pd2 (k : Nat) : List Nat := [48 + k / 10, 48 + k % 10]
def pd3 (k : Nat) : List Nat := [48 + k / 100, 48 + k / 10 % 10, 48 + k % 10]
theorem pd2_law : ∀ k < 100, (percentField (PC 2) true (pcT 2 k)).getD (pcT 2 k) = pd2 k := by decide +kernel
theorem pd3_law : ∀ k < 1000, (percentField (PC 3) true (pcT 3 k)).getD (pcT 3 k) = pd3 k := by decide +kernel
theorem pc_text {n : Int} {wd : Nat} {c : Percent} {dg : List Nat} (hc : c = PC wd) (hd : dg = (Str.ofString (toString ((n.natAbs : Nat) : Int))).cps.toList) (h0 : 0 ≤ n) : percentInt c (decide (n < 0)) dg = pcT wd n.natAbs := by
  subst hc hd
  rw [decide_eq_false (by omega)]
  rfl
section
variable {M : Model} {A : Around} {E : Value → Shared → Prop} {s : Shared} {l : List Nat} {p : List Value} {r : List Nat}
  {f : Nat → List Value × Writer × List Nat → Sem (ForInStep (List Value × Writer × List Nat))} {Q : List Value × Writer × List Nat → Shared → Prop}
  {w : Writer} {T : PySem.Str} {N : Nat} {o : Option Value} {n : Int} {c c' : Percent} {dg : List Nat}
theorem pc_add {x y : List Nat} {K : Nat} (g : KPc.Good w T N) (hx : x = y) (ho : o = none) (hy : y.length = K) (h : ∀ w', KPc.Good w' (T ++ ⟨y.toArray⟩) (N + K) → wpAny M A (forIn l (p, w', r) f) Q E s) : wpAny M A (forIn l (p, w.add ⟨x.toArray⟩ o, r) f) Q E s := by
  subst hx
  refine h _ (KPc.good_mono (KPc.good_add g (KPc.obj_none ho)) ?_)
  rw [← hy]
  exact Nat.add_le_add_left (Nat.le_of_eq (by show x.toArray.size = x.length; simp)) _
theorem pc_2 (hc : c = PC 2) (hc' : c' = PC 2) (hd : dg = (Str.ofString (toString ((n.natAbs : Nat) : Int))).cps.toList) (h0 : 0 ≤ n) (h1 : n < 100) : (percentField c true (percentInt c' (decide (n < 0)) dg)).getD (percentInt c' (decide (n < 0)) dg) = pd2 n.natAbs := by
  rw [pc_text hc' hd h0, hc]
  exact pd2_law n.natAbs (by omega)
theorem pc_3 (hc : c = PC 3) (hc' : c' = PC 3) (hd : dg = (Str.ofString (toString ((n.natAbs : Nat) : Int))).cps.toList) (h0 : 0 ≤ n) (h1 : n < 1000) : (percentField c true (percentInt c' (decide (n < 0)) dg)).getD (percentInt c' (decide (n < 0)) dg) = pd3 n.natAbs := by
  rw [pc_text hc' hd h0, hc]
  exact pd3_law n.natAbs (by omega)
theorem pc_eq {ob : Option (List Nat)} {tx L : List Nat} {ow : Option Value} (h : ob.getD tx = L) (ho : ow = none) : (match (generalizing := false) ob with | none => pure (ForInStep.yield (p, w.add ⟨tx.toArray⟩ ow, r)) | some laid => pure (ForInStep.yield (p, w.add ⟨laid.toArray⟩ none, r)) : Sem (ForInStep (List Value × Writer × List Nat))) = pure (ForInStep.yield (p, w.add ⟨L.toArray⟩ none, r)) := by
  subst h ho; cases ob <;> rfl
theorem pc_eq2 {ow : Option Value} (hc : c = PC 2) (hc' : c' = PC 2) (hd : dg = (Str.ofString (toString ((n.natAbs : Nat) : Int))).cps.toList) (ho : ow = none) (h0 : 0 ≤ n) (h1 : n < 100) :
    (match (generalizing := false) percentField c true (percentInt c' (decide (n < 0)) dg) with | none => pure (ForInStep.yield (p, w.add ⟨(percentInt c' (decide (n < 0)) dg).toArray⟩ ow, r)) | some laid => pure (ForInStep.yield (p, w.add ⟨laid.toArray⟩ none, r)) : Sem (ForInStep (List Value × Writer × List Nat))) = pure (ForInStep.yield (p, w.add ⟨(pd2 n.natAbs).toArray⟩ none, r)) := pc_eq (pc_2 hc hc' hd h0 h1) ho
theorem pc_eq3 {ow : Option Value} (hc : c = PC 3) (hc' : c' = PC 3) (hd : dg = (Str.ofString (toString ((n.natAbs : Nat) : Int))).cps.toList) (ho : ow = none) (h0 : 0 ≤ n) (h1 : n < 1000) :
    (match (generalizing := false) percentField c true (percentInt c' (decide (n < 0)) dg) with | none => pure (ForInStep.yield (p, w.add ⟨(percentInt c' (decide (n < 0)) dg).toArray⟩ ow, r)) | some laid => pure (ForInStep.yield (p, w.add ⟨laid.toArray⟩ none, r)) : Sem (ForInStep (List Value × Writer × List Nat))) = pure (ForInStep.yield (p, w.add ⟨(pd3 n.natAbs).toArray⟩ none, r)) := pc_eq (pc_3 hc hc' hd h0 h1) ho
end
def hmsText (h m s : Int) : Str := Str.empty ++ ⟨(pd2 h.natAbs).toArray⟩ ++ ⟨(pd2 m.natAbs).toArray⟩ ++ ⟨(pd2 s.natAbs).toArray⟩
local macro_rules | `(tactic| kpt_turns) => `(tactic| (refine KPc.turn ?_; kpc_check; (repeat kpc_if); refine wpAny_bind ?_; refine wpAny_holding ?_; (repeat kpc_if); kpt_conv; refine wpAny_pure ?_; refine' wpAny_of_eq (pc_eq2 ?hc ?hcc ?hd ?ho ?h0 ?h1) ?_; (case hc => rfl); (case hcc => rfl); (case hd => rfl); (case h0 => with_reducible assumption); (case h1 => with_reducible assumption); (case ho => kpc_none); refine' pc_add (K := 2) ?g rfl rfl ?hK ?_; (case g => kpc_g); (case hK => rfl); intro _ _; kpt_turns))
local macro_rules | `(tactic| kpt_turns) => `(tactic| (refine KPc.turn ?_; kpc_check; (repeat kpc_if); kpc_close))
theorem mod_hms {b : Addr} {h m s : Int} {th tm ts t : Tok} (h0 : 0 ≤ h) (h1 : h < 100) (m0 : 0 ≤ m) (m1 : m < 100) (s0 : 0 ≤ s) (s1 : s < 100) :
    Meets («str.__mod__» ⟨[.str ⟨#[37, 48, 50, 100, 37, 48, 50, 100, 37, 48, 50, 100]⟩ t, .ref b], []⟩) (fun _ R st => IsTup st.heap b #[.int h th, .int m tm, .int s ts] ∧ ∀ t' k, R (.ok (.ret (.str (hmsText h m s) t'))) { st with toks := k }) := by
  unfold hmsText
  kpt_run
local macro_rules | `(tactic| kpc_turns) => `(tactic| (refine KPc.turn ?_; kpc_check; (repeat kpc_if); refine wpAny_bind ?_; refine wpAny_holding ?_; (repeat kpc_if); kpc_conv; refine wpAny_pure ?_; refine' wpAny_of_eq (pc_eq3 ?hc ?hcc ?hd ?ho ?h0 ?h1) ?_; (case hc => rfl); (case hcc => rfl); (case hd => rfl); (case h0 => with_reducible assumption); (case h1 => with_reducible assumption); (case ho => kpc_none); refine' pc_add (K := 3) ?g rfl rfl ?hK ?_; (case g => kpc_g); (case hK => rfl); intro _ _; kpc_turns))
local macro_rules | `(tactic| kpc_turns) => `(tactic| (refine KPc.turn ?_; kpc_check; (repeat kpc_if); kpc_close))
def fineText (n : Int) : Str := Str.empty ++ ⟨(pd3 n.natAbs).toArray⟩
theorem mod_fine {n : Int} {u t : Tok} (h0 : 0 ≤ n) (h1 : n < 1000) (hd : n.natAbs.log2 < 1920) (hd2 : ((n.natAbs : Nat) : Int).natAbs.log2 < 1920) :
    Meets («str.__mod__» ⟨[.str ⟨#[37, 48, 51, 100]⟩ t, .int n u], []⟩) (fun _ R s => ∀ t' k, R (.ok (.ret (.str (fineText n) t'))) { s with toks := k }) := by
  unfold fineText
  kpc_run
end Mine
end

section
open PySem PySem.W PyProof.Rows PySem.Calls
set_option maxRecDepth 100000
set_option maxHeartbeats 8000000
namespace Mine
theorem list_mk (l : List Nat) : (⟨l.toArray⟩ : Str).cps.toList = l := by simp
theorem empty_l : Str.empty.cps.toList = [] := rfl
theorem hms_list (h m s : Int) : (hmsText h m s).cps.toList = pd2 h.natAbs ++ pd2 m.natAbs ++ pd2 s.natAbs := by
  unfold hmsText
  rw [app_list, app_list, app_list, list_mk, list_mk, list_mk, empty_l, List.nil_append]
theorem pd2_sign {k : Nat} (h : k < 100) : ∀ c ∈ pd2 k, isSign c := fun c hc => by
  unfold pd2 at hc
  simp only [List.mem_cons, List.not_mem_nil, or_false] at hc
  exact .inl (by omega)
theorem pd3_sign {k : Nat} (h : k < 1000) : ∀ c ∈ pd3 k, isSign c := fun c hc => by
  unfold pd3 at hc
  simp only [List.mem_cons, List.not_mem_nil, or_false] at hc
  exact .inl (by omega)
theorem fmod_abs (a : Int) {n : Int} (h : 0 < n) {k : Nat} (hk : n ≤ (k : Int)) : (Int.fmod a n).natAbs < k := by
  have h1 := fmod_lo a h
  have h2 := fmod_hi a h
  omega
theorem hms_ok {h m s : Int} (h1 : h.natAbs < 100) (m1 : m.natAbs < 100) (s1 : s.natAbs < 100) : (hmsText h m s).length = 6 ∧ ∀ c ∈ (hmsText h m s).cps.toList, isSign c := by
  refine ⟨by rw [← len_list, hms_list]; rfl, fun c hc => ?_⟩
  rw [hms_list] at hc
  rcases List.mem_append.mp hc with hc | hc
  · rcases List.mem_append.mp hc with hc | hc
    · exact pd2_sign h1 c hc
    · exact pd2_sign m1 c hc
  · exact pd2_sign s1 c hc
theorem word_plain {W : Str} (h : W.length = 6 ∧ ∀ c ∈ W.cps.toList, isSign c) : WordOk W := ⟨by omega, by omega, h.2⟩
theorem word_fine {W : Str} {n k : Int} (h : W.length = 6 ∧ ∀ c ∈ W.cps.toList, isSign c) (h1 : n.natAbs < 1000) (k1 : k < 4) (k0 : 0 < k) : WordOk (W ++ Str.ofString "." ++ Txt.slice (fineText n) none (some k)) := by
  obtain ⟨j, rfl⟩ := Int.eq_ofNat_of_zero_le (Int.le_of_lt k0)
  have e : (W ++ Str.ofString "." ++ Txt.slice (fineText n) none (some (j : Int))).cps.toList = W.cps.toList ++ [46] ++ (pd3 n.natAbs).take j := by
    rw [app_list, app_list, slice_to]
    unfold fineText
    rw [app_list, list_mk, empty_l, List.nil_append, show (Str.ofString ".").cps.toList = [46] by decide +kernel]
  have el := congrArg List.length e
  rw [len_list, List.length_append, List.length_append, len_list, List.length_take, show (pd3 n.natAbs).length = 3 from rfl] at el
  simp only [List.length_cons, List.length_nil] at el
  refine ⟨by omega, by omega, fun c hc => ?_⟩
  rw [e] at hc
  rcases List.mem_append.mp hc with hc | hc
  · rcases List.mem_append.mp hc with hc | hc
    · exact h.2 c hc
    · rw [List.mem_singleton.mp hc]; exact .inr (.inr (.inr (.inl rfl)))
  · exact pd3_sign h1 c (List.mem_of_mem_take hc)
theorem fr_name {g h : Heap} {L : Addr} {m : Str → Option Value} {x : Str} {v : Value} (F : Fr g L h m) (e : m x = some v) : Fr g L h (fun y => if y = x then some v else m y) := by
  have q : (fun y => if y = x then some v else m y) = m := by
    funext y
    by_cases hy : y = x
    · rw [if_pos hy, hy, e]
    · rw [if_neg hy]
  rw [q]; exact F
theorem log_small {k : Nat} (h : k < 1000) : k.log2 < 1920 := Nat.lt_of_le_of_lt (Nat.log2_le_self k) (by omega)
theorem fine_mod {prog : Program} {w : World} {A : Around} {E : Value → Shared → Prop} {s : Shared} {a : Int} {t u : Tok} {Q : Value → Shared → Prop} (h : ∀ t' k, Q (.str (fineText (a.fmod 1000)) t') { s with toks := k }) :
    wpAny (model prog w) A (binaryOp .Mod (.str (Str.ofString "%03d") t) (.int (a.fmod 1000) u)) Q E s := by
  refine' KPc.mod_lit (T := fineText (a.fmod 1000)) ?kpcF ?kpcd ?kpcm ?_
  case kpcF => kpc_eq
  case kpcd => exact log_small (fmod_abs _ (by decide) (by decide))
  case kpcm => intro la lb; exact mod_fine (fmod_lo _ (by decide)) (fmod_hi _ (by decide)) la lb
  exact h
theorem fine_len {n : Int} : (fineText n).length = 3 := by
  rw [← len_list]
  unfold fineText
  rw [app_list, list_mk, empty_l, List.nil_append]; rfl
theorem add_fine {prog : Program} {w : World} {A : Around} {E : Value → Shared → Prop} {s : Shared} {W : Str} {n k : Int} {t u : Tok} {Q : Value → Shared → Prop} (hW : W.length = 6)
    (h : ∀ t' kk, Q (.str (W ++ Str.ofString "." ++ Txt.slice (fineText n) none (some k)) t') { s with toks := kk }) :
    wpAny (model prog w) A (binaryOp .Add (.str (W ++ Str.ofString ".") t) (.str (Txt.slice (fineText n) none (some k)) u)) Q E s := by
  refine SB.add h ?_
  have h1 := Txt.slice_le (fineText n) none (some k)
  rw [fine_len] at h1
  rw [sizeLine_eq, PySem.Str.length_append, hW, show (Str.ofString ".").length = 1 by decide +kernel]
  omega
end Mine
end

section
open PySem PySem.W PyProof.Rows PySem.Calls
set_option maxRecDepth 100000
namespace Mine
section
variable {prog : Program} {w : World} {A : Around} {s : Shared} {env : Env} {h₀ : Heap}
structure ValI (I : Value → Shared → Prop) (v : Value) (s : Shared) : Prop where
  h : I v s
abbrev NoE : Value → Shared → Prop := fun _ _ => False
theorem codeC_forLoopN {R : Result → Shared → Prop} {target : PySem.Expr} {it : Value} {body : List Stmt} (I : Nat → Shared → Prop)
    (turn : ∀ n s, I n s → wpAny (model prog w) A (pyNext it) (fun r s₁ => match r with
      | none => R (.ok .next) s₁
      | some v => wpC (model prog w) A (assign target env v) (fun _ s₂ => wpC (model prog w) A (execs body env) (fun f s₃ => f = .next ∧ ∃ m, m < n ∧ I m s₃) NoE s₂) NoE s₁) NoE s)
    (n : Nat) (h : I n s) (ht : ∀ v, letOwnedTupleGo target it v = pure () := by intro _; rfl) : codeC (model prog w) A (.forLoop target it body [] env) R s := by
  refine codeC_loop rfl I (fun n s hI => ?_) n h
  show wpC (model prog w) A ((forTurn target it body [] env).onRaise (fun x => do noteFrame x env; theTreesLotGoes x)) _ _ s
  refine wpC_onRaise (wpC_mono (E := NoE) ?_ (fun _ _ x => x) fun _ _ x => x.elim)
  simp only [forTurn]
  refine wpC_bind (wpC_standAt (wpC_bind (wpC_onRaise (wpC_mono (wpC_of (turn n s hI)) (fun r s₁ h₁ => ?_) fun _ _ h' => h'.elim))))
  cases r with
  | none => exact wpC_pure (.inr ⟨rfl, codeC_of (codeAny_block (wpAny_execs_nil h₁))⟩)
  | some v =>
    refine wpC_bind (wpC_of_eq (ht v) ?_)
    refine wpC_bind (wpC_monoQ h₁ fun _ s₂ h₂ => wpC_bind (wpC_monoQ h₂ fun f s₃ h₃ => ?_))
    obtain ⟨rfl, h₃⟩ := h₃
    exact wpC_pure (.inl ⟨rfl, h₃⟩)
theorem wpC_For {target iter : PySem.Expr} {body : List Stmt} {pos : Pos} {Q : Flow → Shared → Prop} {E : Value → Shared → Prop}
    (h : wpC (model prog w) A (eval iter env) (fun x s₁ => wpAny (model prog w) A (pyIter x) (fun it s₂ =>
      codeC (model prog w) A (.forLoop target it body [] env) (fun r s' => match r with | .ok f => Q f s' | .error _ => False) s₂) E s₁) E s)
    (hs : ∀ x, foldedSetIterable iter env x = pure x := by intro _; rfl) :
    wpC (model prog w) A (exec (.For target iter body [] pos) env) Q E s := by
  rw [exec_For]
  refine wpC_bind (wpC_standAt (wpC_bind (wpC_monoQ h fun x s₁ h₁ => wpC_bind (wpC_of_eq (hs x) (wpC_bind (wpC_standAt (wpC_bind (wpC_holding (wpC_monoQ (wpC_of h₁) fun it s₂ h₂ => ?_)))))))))
  refine wpC_runOwn (codeC_mono h₂ fun r s' hr => ?_)
  cases r with
  | ok f => exact hr
  | error e => exact hr.elim
/-- a for over a list of the call's own, its turns by the caller's logic, none of them raising -/
theorem loopC_list {x : Str} {px : Pos} {body : List Stmt} {l : Addr} {vs : List Value} {nn : Nat} {m₀ : Str → Option Value} {news : List (Addr × Obj)} {R : Result → Shared → Prop} {E : Value → Shared → Prop} (J : Nat → (Str → Option Value) → List (Addr × Obj) → Prop)
    (hh : A.handled = none) (hx : env.kindOf x = some .local) (hp : (env.scope.kind == .class || (env.scope.kind == .module && env.locals != env.globals)) = false)
    (hl : (l, listOf vs.toArray nn) ∈ news) (F : Fr h₀ env.locals s.heap m₀) (N : News h₀ env.locals s.heap news) (hj : J 0 m₀ news)
    (turn : ∀ i v m₁ nx h tk I oI, vs[i]? = some v → oI.cls = .type "list_iterator" → (∀ p ∈ nx, p.1 ≠ I) → (l, listOf vs.toArray nn) ∈ nx → J i m₁ nx → Fr h₀ env.locals h (fun y => if y = x then some v else m₁ y) → News h₀ env.locals h (nx ++ [(I, oI)]) →
      wpC (model prog w) A (execs body env) (fun f s₃ => f = .next ∧ ∃ h' tk' m' nx', s₃ = { s with heap := h', toks := tk' } ∧ Fr h₀ env.locals h' m' ∧ News h₀ env.locals h' (nx' ++ [(I, oI)]) ∧ (∀ p ∈ nx', p.1 ≠ I) ∧ (l, listOf vs.toArray nn) ∈ nx' ∧ J (i + 1) m' nx') NoE { s with heap := h, toks := tk })
    (done : ∀ m₁ nx h tk, J vs.length m₁ nx → Fr h₀ env.locals h m₁ → News h₀ env.locals h nx → R (.ok .next) { s with heap := h, toks := tk }) :
    wpAny (model prog w) A (pyIter (.ref l)) (fun it s₂ => codeC (model prog w) A (.forLoop (.Name x px) it body [] env) R s₂) E s := by
  have hol : s.heap.get? l = some (listOf vs.toArray nn) := (N _ hl).1
  have hls : s.heap.IsList l vs.toArray := ⟨_, hol, rfl, nn, rfl⟩
  have hI0 : h₀.get? s.heap.objs.size = none := next_is_new F
  have hIL : env.locals ≠ s.heap.objs.size := Nat.ne_of_lt F.ns.lt
  have W := Walks.list (prog := prog) (w := w) hh s.heap.objs.size l (Nat.ne_of_lt (Heap.lt_size hol)) vs.toArray
  have hlen : vs.toArray.size = vs.length := by simp
  rw [hlen] at W
  refine wpAny_pyIter_list hls ?_
  generalize hIeq : s.heap.objs.size = I at *
  refine codeC_forLoopN (fun k s' => ∃ h' tk m' nx i, s' = { s with heap := h', toks := tk } ∧ (h'.IsListIter I l i ∧ h'.IsList l vs.toArray) ∧ Fr h₀ env.locals h' m' ∧ News h₀ env.locals h' nx ∧ (∀ p ∈ nx, p.1 ≠ I) ∧ (l, listOf vs.toArray nn) ∈ nx ∧ J i m' nx ∧ i ≤ vs.length ∧ k = vs.length + 1 - i) ?_ (vs.length + 1)
    ⟨_, s.toks, m₀, news, 0, rfl, ⟨⟨_, by rw [← hIeq]; exact Heap.get?_push_size _ rfl, rfl, rfl⟩, hls.at fun o e => Heap.get?_push_of_some _ e⟩, F.push _, fun p hp => ⟨Heap.get?_push_of_some _ (N p hp).1, (N p hp).2⟩, fun p hp e => absurd (Heap.lt_size (N p hp).1) (by rw [e, hIeq]; exact Nat.lt_irrefl _), hl, hj, Nat.zero_le _, rfl⟩
  rintro k s' ⟨h', tk, m', nx, i, rfl, hst, F', N', hoff, hin, hJ, hi, rfl⟩
  have moved : ∀ h₁ : Heap, (∀ b o, b ∉ [I] → h'.get? b = some o → h₁.get? b = some o) → Fr h₀ env.locals h₁ m' ∧ News h₀ env.locals h₁ nx := fun h₁ hk =>
    ⟨⟨F'.ns.at' fun o e => hk _ o (by simpa using hIL) e, fun b o e => hk b o (by simp only [List.mem_singleton]; intro q; rw [q, hI0] at e; cases e) (F'.keep b o e), F'.above⟩, fun p hp => ⟨hk _ _ (by simpa using hoff p hp) (N' p hp).1, (N' p hp).2⟩⟩
  by_cases hlt : i < vs.length
  · refine W.item i _ _ _ hlt hst fun v h₁ tk₁ hP hst₁ hk₁ => ?_
    obtain ⟨F₁, N₁⟩ := moved h₁ hk₁
    refine wpC_of (wpAny_assign_Name (wpAny_storeName_local hx F₁.ns (fun h₂ hn₂ hs₂ => ?_) hp))
    have F₂ := F₁.set hn₂ hs₂
    have N₂ := N₁.set hs₂
    have hl2 : h₂.get? l = some (listOf vs.toArray nn) := (N₂ _ hin).1
    have hst₂ : h₂.IsListIter I l (i + 1) ∧ h₂.IsList l vs.toArray := W.frame _ _ _ hst₁ fun b hb o e => (hs₂.2 b fun q => by
      rcases List.mem_cons.mp hb with hb | hb
      · exact hIL (q.symm.trans hb)
      · exact (N₂ _ hin).2.1 ((List.mem_singleton.mp hb).symm.trans q)).trans e
    obtain ⟨oI, hoI, hcI, _⟩ := id hst₂.1
    have N₃ : News h₀ env.locals h₂ (nx ++ [(I, oI)]) := fun p hp => (List.mem_append.mp hp).elim (fun h => N₂ p h) fun h => by
      rw [List.mem_singleton.mp h]; exact ⟨hoI, fun q => hIL q.symm, hI0⟩
    refine wpC_monoQ (turn i v m' nx h₂ _ I oI (by simpa using hP) hcI hoff hin hJ F₂ N₃) fun f s₃ h₃ => ?_
    obtain ⟨rfl, h₃, tk₃, m₃, nx₃, rfl, F₃, N₄, hoff₃, hin₃, hJ₃⟩ := h₃
    refine ⟨rfl, vs.length + 1 - (i + 1), by omega, h₃, tk₃, m₃, nx₃, i + 1, rfl, ?_, F₃, fun p hp => N₄ p (List.mem_append_left _ hp), hoff₃, hin₃, hJ₃, hlt, rfl⟩
    refine W.frame _ _ _ hst₂ fun b hb o e => ?_
    rcases List.mem_cons.mp hb with hb | hb
    · rw [hb] at e ⊢; rw [hoI] at e; rw [← e]; exact (N₄ (I, oI) (List.mem_append_right _ (.head _))).1
    · rw [List.mem_singleton.mp hb] at e ⊢; rw [hl2] at e; rw [← e]; exact (N₄ _ (List.mem_append_left _ hin₃)).1
  · obtain rfl : i = vs.length := by omega
    refine W.done _ _ _ hst fun h₁ tk₁ hk₁ => ?_
    obtain ⟨F₁, N₁⟩ := moved h₁ hk₁
    exact done m' nx h₁ tk₁ hJ F₁ N₁
end
end Mine
end

section
open PySem PySem.W PyProof.Rows PySem.Calls
set_option maxRecDepth 100000
set_option maxHeartbeats 8000000
namespace Mine
def Odd (p : Addr × Obj) : Prop := ∀ vs n a t, p.2 = listOf (List.toArray vs) n → vs[0]? ≠ some (Value.int a t)
theorem odd_list {l : Addr} {gs : List Value} {n : Nat} {a : Addr} {r : List Value} (h : gs = Value.ref a :: r) : Odd (l, listOf gs.toArray n) := by
  intro vs k b t e q
  have e1 : gs.toArray = vs.toArray := by
    have z := congrArg (fun o : Obj => o.data) e
    exact (Data.seq.inj z).1
  have e2 : gs = vs := by simpa using e1
  rw [← e2, h] at q
  cases q
theorem odd_iter {l : Addr} {o : Obj} (h : o.cls = .type "list_iterator") : Odd (l, o) := by
  intro vs k b t e q
  have z : o.cls = (listOf vs.toArray k).cls := congrArg (fun o : Obj => o.cls) e
  rw [h] at z
  have : ("list_iterator" : String) = "list" := Value.type.inj z
  exact absurd this (by decide)
theorem dat_off {L9 rest : List (Addr × Obj)} {r : Value} {z : Str} (hd : DatIn L9 r (datOf z)) (hL : ∀ p ∈ L9, p ∈ rest ∨ Odd p) : DatIn rest r (datOf z) := by
  unfold datOf at hd ⊢
  generalize readOf z = o at hd ⊢
  match o, hd with
  | none, hd => cases hd with | str x t => exact .str _ _
  | some (a, b, c, e), hd =>
    have hd' : DatIn L9 r (Dat.list [.int a, .int b, .int c, .int e]) := hd
    show DatIn rest r (Dat.list [.int a, .int b, .int c, .int e])
    cases hd' with
    | list hm hall =>
      cases hall with
      | cons h1 hall =>
        cases hall with
        | cons h2 hall =>
          cases hall with
          | cons h3 hall =>
            cases hall with
            | cons h4 hall =>
              cases hall with
              | nil =>
                cases h1; cases h2; cases h3; cases h4
                rcases hL _ hm with hm | hm
                · exact .list hm (.cons (.int _ _) (.cons (.int _ _) (.cons (.int _ _) (.cons (.int _ _) .nil))))
                · exact absurd rfl (hm _ _ _ _ rfl)
def anchorD : Dat := .list [.int 23, .int 59, .int 59, .int 500000]
def DsOk (ds : List Dat) : Prop := ∀ d ∈ ds, kqdOk 8 d = true
theorem refused_ok : kqdOk 8 (Dat.str (Str.ofString "refused")) = true := by decide +kernel
theorem dat_ok {z : Str} : kqdOk 8 (datOf z) = true := by
  unfold datOf
  generalize readOf z = o
  match o with
  | none => exact refused_ok
  | some (a, b, c, e) => rfl
theorem ok_one {d : Dat} (h : kqdOk 8 d = true) : DsOk [d] := fun x hx => by rw [List.mem_singleton.mp hx]; exact h
theorem ok_more {ds : List Dat} {d : Dat} (h : DsOk ds) (k : kqdOk 8 d = true) : DsOk (ds ++ [d]) := fun x hx => (List.mem_append.mp hx).elim (h x) fun e => by rw [List.mem_singleton.mp e]; exact k
def LJ (lg lw : Addr) (i : Nat) (m : Str → Option Value) (nx : List (Addr × Obj)) : Prop :=
  ∃ (u : Str → Option Value) (gs ws : List Value) (ng nw : Nat) (rest : List (Addr × Obj)) (ds : List Dat) (g0 w0 : Addr) (gr wr : List Value),
    m = (fun y => if y = Str.ofString "got" then some (.ref lg) else if y = Str.ofString "want" then some (.ref lw) else u y) ∧
    nx = (lg, listOf gs.toArray ng) :: (lw, listOf ws.toArray nw) :: rest ∧ lg ≠ lw ∧ (∀ p ∈ rest, p.1 ≠ lg ∧ p.1 ≠ lw) ∧
    gs = .ref g0 :: gr ∧ ws = .ref w0 :: wr ∧ DatAll rest gs ds ∧ DatAll rest ws ds ∧ ds.length = i + 1 ∧ DsOk ds
theorem words_at {n : List (Addr × Obj)} {vs : List Value} {ds : List Dat} (h : DatAll n vs ds) (g : ∀ y ∈ ds, ∃ z, y = Dat.str z ∧ Good z) {i : Nat} {v : Value} (hv : vs[i]? = some v) : ∃ z t, v = .str z t ∧ Good z := by
  have hl := h.length
  have hi : i < ds.length := by rw [← hl]; exact (List.getElem?_eq_some_iff.mp hv).1
  obtain ⟨v', e, hd⟩ := h.get hi
  rw [hv] at e
  obtain rfl := Option.some.inj e
  obtain ⟨z, ez, hz⟩ := g _ (List.getElem_mem hi)
  rw [ez] at hd
  cases hd with
  | str x t => exact ⟨_, _, rfl, hz⟩
theorem fr_two {g h : Heap} {L : Addr} {m : Str → Option Value} {x y : Str} {v v' : Value} (F : Fr g L h m) (e : m x = some v) (e' : m y = some v') : Fr g L h (fun q => if q = x then some v else if q = y then some v' else m q) := by
  have q : (fun q => if q = x then some v else if q = y then some v' else m q) = m := by
    funext q
    by_cases hq : q = x
    · rw [if_pos hq, hq, e]
    · rw [if_neg hq]
      by_cases hy : q = y
      · rw [if_pos hy, hy, e']
      · rw [if_neg hy]
  rw [q]; exact F
section
variable {w : World} {mean : ExcName → Option Value} {mg mb : Str → Option Value} {dp un : Nat} {gd : Option (List Code)} {cn : Str} {cs : Scope} {a : Addr} {ccd : Value} {cl : List (Str × Addr)} {outer : List Env} {A₀ : Around} {base h₀ : Heap} {L : Addr} {m : Str → Option Value} {news : List (Addr × Obj)} {s : Shared}
    {Q E : Value → Shared → Prop} {d : Str} {t : Tok}
theorem read_use (B : Below A₀ base outer h₀) (F : Fr h₀ L s.heap m) (X : (hd.heap_39 w.params).In h₀) (N : News h₀ L s.heap news) (T : Top hd.view_39 (looseW hd.view_39 [Str.ofString "_tuplegetter", Str.ofString "Time"]) mean mg mb h₀) (hk : cs.kind = .function)
    (hd : dp + 16 < recursionLimit) (hu : un + 128 < cLine) (ok : 5 ≤ d.length ∧ d.length ≤ 11)
    (r : ∀ v tl h' tk', Fr h₀ L h' m → News h₀ L h' (news ++ tl) → (∀ q ∈ news, ∀ p ∈ tl, q.1 < p.1) → DatIn (news ++ tl) v (datOf d) → Q v { s with heap := h', toks := tk' }) :
    wpAny (model PySem.Challenge.pw_dg5009_01 w) (ktrTop dp un gd cn cs L a ccd cl outer) (call (.ref 177) [.str d t]) Q E s := by
  refine reading_tells d w mean mg mb dp un gd cn cs a ccd cl outer A₀ base h₀ L m news s _ Q E B F X N T hk ⟨t, rfl⟩ ok hd hu ?_
  rintro v tl h' tk' F' N' hl _ e
  exact r v tl h' tk' F' N' hl e
theorem neigh_use (B : Below A₀ base outer h₀) (F : Fr h₀ L s.heap m) (X : (hd.heap_39 w.params).In h₀) (N : News h₀ L s.heap news) (T : Top hd.view_39 (looseW hd.view_39 [Str.ofString "_tuplegetter", Str.ofString "Time"]) mean mg mb h₀) (hk : cs.kind = .function)
    (hd : dp + 8 < recursionLimit) (hu : un + 64 < cLine) (ok : WordOk d)
    (r : ∀ l vs n ds tl h' tk', Fr h₀ L h' m → News h₀ L h' (news ++ tl) → (∀ q ∈ news, ∀ p ∈ tl, q.1 < p.1) → (l, listOf (List.toArray vs) n) ∈ news ++ tl → DatAll (news ++ tl) vs ds → (∀ y ∈ ds, ∃ z, y = Dat.str z ∧ Good z) → 80 ≤ ds.length → ds.length ≤ 200 → Q (.ref l) { s with heap := h', toks := tk' }) :
    wpAny (model PySem.Challenge.pw_dg5009_01 w) (ktrTop dp un gd cn cs L a ccd cl outer) (call (.ref 191) [.str d t]) Q E s := by
  refine neigh_tells d w mean mg mb dp un gd cn cs a ccd cl outer A₀ base h₀ L m news s _ Q E B F X N T hk ⟨t, rfl⟩ ok hd hu ?_
  rintro v tl h' tk' F' N' hl _ ⟨l, vs, n, ds, rfl, h1, h2, h3, h4, h5⟩
  exact r l vs n ds tl h' tk' F' N' hl h1 h2 h3 h4 h5
end
abbrev gwM (lg lw : Addr) (u : Str → Option Value) : Str → Option Value := fun y => if y = Str.ofString "got" then some (.ref lg) else if y = Str.ofString "want" then some (.ref lw) else u y
abbrev ints4 (a b c d : Tok) : Obj := listOf #[.int 23 a, .int 59 b, .int 59 c, .int 500000 d] 0
theorem lj_start {lw w0 lg g0 : Addr} {R0 tl : List (Addr × Obj)} {b1 b2 b3 b4 c1 c2 c3 c4 : Tok} {u : Str → Option Value} (h1 : w0 < lw) (h2 : lg < w0) (h3 : g0 < lg) (h4 : ∀ p ∈ R0, p.1 < lg)
    (ht : ∀ q ∈ (lw, listOf #[.ref w0] 0) :: (w0, ints4 b1 b2 b3 b4) :: (lg, listOf #[.ref g0] 0) :: (g0, ints4 c1 c2 c3 c4) :: R0, ∀ p ∈ tl, q.1 < p.1) :
    LJ lg lw 0 (gwM lg lw u) ((lg, listOf #[.ref g0] 0) :: (lw, listOf #[.ref w0] 0) :: (w0, ints4 b1 b2 b3 b4) :: (g0, ints4 c1 c2 c3 c4) :: (R0 ++ tl)) := by
  have hlt : lg < lw := Nat.lt_trans h2 h1
  refine ⟨u, [.ref g0], [.ref w0], 0, 0, _, [anchorD], g0, w0, [], [], rfl, rfl, Nat.ne_of_lt hlt, ?_, rfl, rfl, ?_, ?_, rfl, ok_one rfl⟩
  · intro p hp
    rcases List.mem_cons.mp hp with rfl | hp
    · exact ⟨Nat.ne_of_gt h2, Nat.ne_of_lt h1⟩
    · rcases List.mem_cons.mp hp with rfl | hp
      · exact ⟨Nat.ne_of_lt h3, Nat.ne_of_lt (Nat.lt_trans h3 hlt)⟩
      · rcases List.mem_append.mp hp with hp | hp
        · have := h4 p hp
          exact ⟨Nat.ne_of_lt this, Nat.ne_of_lt (Nat.lt_trans this hlt)⟩
        · have z1 := ht _ (.head _) p hp
          have z2 := ht _ (.tail _ (.tail _ (.head _))) p hp
          exact ⟨Nat.ne_of_gt z2, Nat.ne_of_gt z1⟩
  · exact .cons (.list (vs := [.int 23 c1, .int 59 c2, .int 59 c3, .int 500000 c4]) (.tail _ (.head _)) (.cons (.int _ _) (.cons (.int _ _) (.cons (.int _ _) (.cons (.int _ _) .nil))))) .nil
  · exact .cons (.list (vs := [.int 23 b1, .int 59 b2, .int 59 b3, .int 500000 b4]) (.head _) (.cons (.int _ _) (.cons (.int _ _) (.cons (.int _ _) (.cons (.int _ _) .nil))))) .nil
theorem lj_sub {a b c d : Addr × Obj} {R0 tl : List (Addr × Obj)} : ∀ p, p ∈ c :: a :: b :: d :: (R0 ++ tl) ↔ p ∈ (a :: b :: c :: d :: R0) ++ tl := fun p => by
  simp only [List.mem_cons, List.mem_append, List.cons_append]
  constructor
  · rintro (h | h | h | h | h | h)
    · exact .inr (.inr (.inl h))
    · exact .inl h
    · exact .inr (.inl h)
    · exact .inr (.inr (.inr (.inl h)))
    · exact .inr (.inr (.inr (.inr (.inl h))))
    · exact .inr (.inr (.inr (.inr (.inr h))))
  · rintro (h | h | h | h | h | h)
    · exact .inr (.inl h)
    · exact .inr (.inr (.inl h))
    · exact .inl h
    · exact .inr (.inr (.inr (.inl h)))
    · exact .inr (.inr (.inr (.inr (.inl h))))
    · exact .inr (.inr (.inr (.inr (.inr h))))
section
variable {lg lw l I g0 w0 : Addr} {oI : Obj} {gs ws gr wr vs : List Value} {ng nw n i : Nat} {rest L9 tl1 tl2 : List (Addr × Obj)} {es dsW : List Dat} {r1 r2 : Value} {z : Str}
theorem turn_off (hne : lg ≠ lw) (hrest : ∀ p ∈ rest, p.1 ≠ lg ∧ p.1 ≠ lw) (hoff : ∀ p ∈ (lg, listOf gs.toArray ng) :: (lw, listOf ws.toArray nw) :: rest, p.1 ≠ I)
    (lt8 : ∀ q ∈ (lg, listOf gs.toArray ng) :: (lw, listOf ws.toArray nw) :: (rest ++ [(I, oI)]), ∀ p ∈ tl1, q.1 < p.1)
    (lt10 : ∀ q ∈ (lg, listOf gs.toArray ng) :: (lw, listOf ws.toArray nw) :: (rest ++ [(I, oI)] ++ tl1), ∀ p ∈ tl2, q.1 < p.1) :
    ∀ p ∈ rest ++ [(I, oI)] ++ tl1 ++ tl2, p.1 ≠ lg ∧ p.1 ≠ lw := by
  intro p hp
  rcases List.mem_append.mp hp with hp | hp
  · rcases List.mem_append.mp hp with hp | hp
    · rcases List.mem_append.mp hp with hp | hp
      · exact hrest p hp
      · rw [List.mem_singleton.mp hp]
        exact ⟨fun e => hoff _ (.head _) e.symm, fun e => hoff _ (.tail _ (.head _)) e.symm⟩
    · exact ⟨Nat.ne_of_gt (lt8 _ (.head _) p hp), Nat.ne_of_gt (lt8 _ (.tail _ (.head _)) p hp)⟩
  · exact ⟨Nat.ne_of_gt (lt10 _ (.head _) p hp), Nat.ne_of_gt (lt10 _ (.tail _ (.head _)) p hp)⟩
theorem turn_sub {a b : Addr × Obj} : ∀ p ∈ (a :: b :: (rest ++ tl1 ++ tl2)) ++ [(I, oI)], p ∈ a :: b :: (rest ++ [(I, oI)] ++ tl1 ++ tl2) := by
  intro p hp
  simp only [List.mem_cons, List.mem_append, List.cons_append, List.not_mem_nil, or_false] at hp ⊢
  rcases hp with h | h | ((h | h) | h) | h
  · exact .inl h
  · exact .inr (.inl h)
  · exact .inr (.inr (.inl (.inl (.inl h))))
  · exact .inr (.inr (.inl (.inr h)))
  · exact .inr (.inr (.inr h))
  · exact .inr (.inr (.inl (.inl (.inr h))))
theorem words_first (D6 : DatAll L9 vs dsW) (G6 : ∀ y ∈ dsW, ∃ z, y = Dat.str z ∧ Good z) {a : Addr} {r : List Value} (h : vs = Value.ref a :: r) : False := by
  obtain ⟨z, t, e, _⟩ := words_at D6 G6 (i := 0) (v := Value.ref a) (by rw [h]; rfl)
  cases e
theorem same_list {a b : Addr} {xs ys : List Value} {k j : Nat} (e : (a, listOf xs.toArray k) = (b, listOf ys.toArray j)) : xs = ys := by
  have e1 := congrArg (fun p : Addr × Obj => p.2.data) e
  have e2 : xs.toArray = ys.toArray := (Data.seq.inj e1).1
  simpa using e2
theorem turn_end {u : Str → Option Value} (D6 : DatAll L9 vs dsW) (G6 : ∀ y ∈ dsW, ∃ z, y = Dat.str z ∧ Good z) (hin : (l, listOf vs.toArray n) ∈ (lg, listOf gs.toArray ng) :: (lw, listOf ws.toArray nw) :: rest)
    (hcI : oI.cls = .type "list_iterator") (hne : lg ≠ lw) (hrest : ∀ p ∈ rest, p.1 ≠ lg ∧ p.1 ≠ lw) (hoff : ∀ p ∈ (lg, listOf gs.toArray ng) :: (lw, listOf ws.toArray nw) :: rest, p.1 ≠ I)
    (hgs : gs = .ref g0 :: gr) (hws : ws = .ref w0 :: wr) (DG : DatAll rest gs es) (DW : DatAll rest ws es) (hlen : es.length = i + 1) (hok : DsOk es)
    (lt8 : ∀ q ∈ (lg, listOf gs.toArray ng) :: (lw, listOf ws.toArray nw) :: (rest ++ [(I, oI)]), ∀ p ∈ tl1, q.1 < p.1)
    (lt10 : ∀ q ∈ (lg, listOf gs.toArray ng) :: (lw, listOf ws.toArray nw) :: (rest ++ [(I, oI)] ++ tl1), ∀ p ∈ tl2, q.1 < p.1)
    (hD8 : DatIn ((lg, listOf gs.toArray ng) :: (lw, listOf ws.toArray nw) :: (rest ++ [(I, oI)] ++ tl1)) r1 (datOf z))
    (hD10 : DatIn ((lg, listOf gs.toArray ng) :: (lw, listOf ws.toArray nw) :: (rest ++ [(I, oI)] ++ tl1) ++ tl2) r2 (datOf z)) :
    (∀ p ∈ (lg, listOf (gs.toArray.push r2) (ng + 1)) :: (lw, listOf (ws.toArray.push r1) (nw + 1)) :: (rest ++ tl1 ++ tl2), p.1 ≠ I) ∧
    (l, listOf vs.toArray n) ∈ (lg, listOf (gs.toArray.push r2) (ng + 1)) :: (lw, listOf (ws.toArray.push r1) (nw + 1)) :: (rest ++ tl1 ++ tl2) ∧
    LJ lg lw (i + 1) (gwM lg lw u) ((lg, listOf (gs.toArray.push r2) (ng + 1)) :: (lw, listOf (ws.toArray.push r1) (nw + 1)) :: (rest ++ tl1 ++ tl2)) := by
  have og := odd_list (l := lg) (n := ng) hgs
  have ow := odd_list (l := lw) (n := nw) hws
  have oi := odd_iter (l := I) hcI
  have sub : ∀ p ∈ rest, p ∈ rest ++ tl1 ++ tl2 := fun p hp => List.mem_append_left _ (List.mem_append_left _ hp)
  have d1 : DatIn (rest ++ tl1 ++ tl2) r1 (datOf z) := dat_off hD8 fun p hp => by
    rcases List.mem_cons.mp hp with rfl | hp
    · exact .inr og
    · rcases List.mem_cons.mp hp with rfl | hp
      · exact .inr ow
      · rcases List.mem_append.mp hp with hp | hp
        · rcases List.mem_append.mp hp with hp | hp
          · exact .inl (sub p hp)
          · rw [List.mem_singleton.mp hp]; exact .inr oi
        · exact .inl (List.mem_append_left _ (List.mem_append_right _ hp))
  have d2 : DatIn (rest ++ tl1 ++ tl2) r2 (datOf z) := dat_off hD10 fun p hp => by
    rcases List.mem_append.mp hp with hp | hp
    · rcases List.mem_cons.mp hp with rfl | hp
      · exact .inr og
      · rcases List.mem_cons.mp hp with rfl | hp
        · exact .inr ow
        · rcases List.mem_append.mp hp with hp | hp
          · rcases List.mem_append.mp hp with hp | hp
            · exact .inl (sub p hp)
            · rw [List.mem_singleton.mp hp]; exact .inr oi
          · exact .inl (List.mem_append_left _ (List.mem_append_right _ hp))
    · exact .inl (List.mem_append_right _ hp)
  have eg : gs.toArray.push r2 = (gs ++ [r2]).toArray := by simp
  have ew : ws.toArray.push r1 = (ws ++ [r1]).toArray := by simp
  have off := turn_off (oI := oI) hne hrest hoff lt8 lt10
  refine ⟨?_, ?_, ?_⟩
  · intro p hp
    rcases List.mem_cons.mp hp with rfl | hp
    · exact hoff (lg, listOf gs.toArray ng) (.head _)
    · rcases List.mem_cons.mp hp with rfl | hp
      · exact hoff (lw, listOf ws.toArray nw) (.tail _ (.head _))
      · rcases List.mem_append.mp hp with hp | hp
        · rcases List.mem_append.mp hp with hp | hp
          · exact hoff p (.tail _ (.tail _ hp))
          · exact Nat.ne_of_gt (lt8 (I, oI) (.tail _ (.tail _ (List.mem_append_right _ (.head _)))) p hp)
        · exact Nat.ne_of_gt (lt10 (I, oI) (.tail _ (.tail _ (List.mem_append_left _ (List.mem_append_right _ (.head _))))) p hp)
  · rcases List.mem_cons.mp hin with e | hin
    · exact (words_first D6 G6 ((same_list e).trans hgs)).elim
    · rcases List.mem_cons.mp hin with e | hin
      · exact (words_first D6 G6 ((same_list e).trans hws)).elim
      · exact .tail _ (.tail _ (sub _ hin))
  · rw [eg, ew]
    refine ⟨u, gs ++ [r2], ws ++ [r1], ng + 1, nw + 1, rest ++ tl1 ++ tl2, es ++ [datOf z], g0, w0, gr ++ [r2], wr ++ [r1], rfl, rfl, hne, fun p hp => off p ?_, by rw [hgs]; rfl, by rw [hws]; rfl, (DG.mono sub).append (DatAll.one d2), (DW.mono sub).append (DatAll.one d1), by rw [List.length_append, hlen]; rfl, ok_more hok dat_ok⟩
    rcases List.mem_append.mp hp with hp | hp
    · rcases List.mem_append.mp hp with hp | hp
      · exact List.mem_append_left _ (List.mem_append_left _ (List.mem_append_left _ hp))
      · exact List.mem_append_left _ (List.mem_append_right _ hp)
    · exact List.mem_append_right _ hp
end
end Mine
end

section
open PySem PySem.W PyProof.Rows PySem.Calls
set_option maxRecDepth 100000
set_option maxHeartbeats 8000000
namespace Mine
theorem enterC {M : Model} {A : Around} {s : Shared} {f : Value} {pos : List Value} {kw : List (Str × Value)} {c : ClaimW} {cl : Str → Option Addr} {mean : ExcName → Option Value} {args : List WData} {s₁ : Shared}
    (h : codeC M A (.call f ⟨pos, kw⟩) (fun r s' => match r with | .ok (.ret v) => GoodW c cl mean args s₁ (.ok (.ret v)) s' | _ => False) s) : wpC M A (PySem.call f pos kw) (fun v s' => GoodWG c cl mean args s₁ (.ok (.ret v)) s') (fun e s' => GoodWG c cl mean args s₁ (.error e) s') s :=
  wpC_call (codeC_mono h fun res s' g => by
    match res, g with
    | .ok (.ret v), g => exact GoodW.toG g)
theorem law_enter {prog : Program} {w : World} {A : Around} {R : Result → Shared → Prop} {s : Shared} {name : Str} {params : Arguments} {body : List Stmt} {scope : Scope}
    {dV kV pm cd doc : Value} {a : Addr} {o : Obj} {args : Args} {binds : List (Str × Value)}
    (hroom : A.depth < recursionLimit) (ho : s.heap.get? a = some o) (hdata : o.data = .func { docDef name params body scope pm cd doc with defaults := dV, kwdefaults := kV }) (hlim : s.heap.NoLimit) (hcd : s.heap.CodeRec cd name)
    (hbind : BindsTo s { docDef name params body scope pm cd doc with defaults := dV, kwdefaults := kV } args binds)
    (hloc : ∀ x ∈ binds, scope.names.lookup x.1 = some .local)
    (h : ∀ h₁, Fr s.heap s.heap.objs.size h₁ (fun x => binds.reverse.lookup x) →
      wpC (model prog w) (A.deeper (envOf name scope s.heap.objs.size a cd)) (execs body (envOf name scope s.heap.objs.size a cd))
        (fun f s' => R (.ok (.ret (match f with | .ret v => v | _ => .none))) s') NoE { s with heap := h₁, toks := s.toks + binds.length })
    (hco : scope.isCoroutine = false := by rfl) (hgen : scope.isGenerator = false := by rfl) (hk : scope.kind = .function := by rfl)
    (hcell : ∀ x ∈ scope.names, x.2 ≠ .cell := by decide) :
    codeC (model prog w) A (.call (.ref a) args) R s :=
  codeC_call_def hroom ho hdata hlim hcd rfl hbind hcell hloc (fun h₁ hns hkeep => wpC_mono (h h₁ ⟨hns, hkeep, Nat.le_refl _⟩) (fun _ _ x => x) fun _ _ x => x.elim) hco hgen hk
local macro_rules | `(tactic| walk_at "binaryOp Mod str ref") => `(tactic| (k_here; (with_reducible show wpAny _ _ (binaryOp Operator.Mod (Value.str _ _) (Value.ref _)) _ _ _); k_dflt (refine' KPt.mod_tuple ?kptN ?kptb ?kptF ?kptm ?_; (case kptN => k_asm); (case kptb => k_mem); (case kptF => kpt_eq); (case kptm => exact mod_hms (by (first | exact fmod_lo _ (by decide) | exact Int.lt_of_lt_of_le (fmod_hi _ (by decide)) (by decide))) (by (first | exact fmod_lo _ (by decide) | exact Int.lt_of_lt_of_le (fmod_hi _ (by decide)) (by decide))) (by (first | exact fmod_lo _ (by decide) | exact Int.lt_of_lt_of_le (fmod_hi _ (by decide)) (by decide))) (by (first | exact fmod_lo _ (by decide) | exact Int.lt_of_lt_of_le (fmod_hi _ (by decide)) (by decide))) (by (first | exact fmod_lo _ (by decide) | exact Int.lt_of_lt_of_le (fmod_hi _ (by decide)) (by decide))) (by (first | exact fmod_lo _ (by decide) | exact Int.lt_of_lt_of_le (fmod_hi _ (by decide)) (by decide))))); intro _ _))
local macro_rules | `(tactic| walk_at "binaryOp Mod str int") => `(tactic| (k_here; (with_reducible show wpAny _ _ (binaryOp Operator.Mod (Value.str _ _) (Value.int _ _)) _ _ _); refine' fine_mod ?_; intro t' k'))
local macro_rules | `(tactic| walk_at "binaryOp Add str str") => `(tactic| (k_here; (with_reducible show wpAny _ _ (binaryOp Operator.Add (Value.str _ _) (Value.str (Txt.slice (fineText _) none (some _)) _)) _ _ _); refine' add_fine ?hW ?_; (case hW => with_reducible assumption); intro t' k'))
local macro_rules | `(tactic| walk_at "subscriptTail") => `(tactic| (k_here; (with_reducible show wpAny _ _ (subscriptTail (PySem.Expr.Name _ _) (PySem.Expr.Slice none (some _) none _) (Value.str (fineText _) _) _) _ _ _); (with_reducible rename Fr _ _ _ _ => F'); (with_reducible rename News _ _ _ _ => N'); (refine slice_strN_ns (s := ⟨_, _, _, _, _⟩) (hsz := ?hsz) F' N' ?_); (case hsz => (rw [PySem.sizeLine_eq, fine_len]; decide)); intro _ _ _ _ _))
local macro_rules | `(tactic| k_inst) => `(tactic| (refine' time_inst ?N ?h1 ?h2; (case N => k_asm); (case h1 => first | assumption | k_mem); (case h2 => first | assumption | k_mem)))
local macro_rules | `(tactic| walk_at "getAttr ref") => `(tactic| (k_here; (with_reducible show wpAny _ _ (getAttr (Value.ref _) (PySem.Str.ofString "hour") _) _ _ _); k_dflt (refine' get_hour ?k1 ?k2 ?k3 ?k4 ?k5 ?kK ?kd ?ku ?h1 ?h2 ?_; (case k1 => k_asm); (case k2 => k_asm); (case k3 => k_asm); (case k4 => k_asm); (case k5 => k_asm); (case kK => first | exact rfl | assumption); (case kd => first | decide | ktr_room); (case ku => first | decide | ktr_units); (case h1 => k_mem); (case h2 => k_mem)); intro h' tk' F' N'))
local macro_rules | `(tactic| walk_at "getAttr ref") => `(tactic| (k_here; (with_reducible show wpAny _ _ (getAttr (Value.ref _) (PySem.Str.ofString "minute") _) _ _ _); k_dflt (refine' get_minute ?k1 ?k2 ?k3 ?k4 ?k5 ?kK ?kd ?ku ?h1 ?h2 ?_; (case k1 => k_asm); (case k2 => k_asm); (case k3 => k_asm); (case k4 => k_asm); (case k5 => k_asm); (case kK => first | exact rfl | assumption); (case kd => first | decide | ktr_room); (case ku => first | decide | ktr_units); (case h1 => k_mem); (case h2 => k_mem)); intro h' tk' F' N'))
local macro_rules | `(tactic| walk_at "getAttr ref") => `(tactic| (k_here; (with_reducible show wpAny _ _ (getAttr (Value.ref _) (PySem.Str.ofString "second") _) _ _ _); k_dflt (refine' get_second ?k1 ?k2 ?k3 ?k4 ?k5 ?kK ?kd ?ku ?h1 ?h2 ?_; (case k1 => k_asm); (case k2 => k_asm); (case k3 => k_asm); (case k4 => k_asm); (case k5 => k_asm); (case kK => first | exact rfl | assumption); (case kd => first | decide | ktr_room); (case ku => first | decide | ktr_units); (case h1 => k_mem); (case h2 => k_mem)); intro h' tk' F' N'))
local macro_rules | `(tactic| walk_at "getAttr ref") => `(tactic| (k_here; (with_reducible show wpAny _ _ (getAttr (Value.ref _) (PySem.Str.ofString "microsecond") _) _ _ _); k_dflt (refine' get_microsecond ?k1 ?k2 ?k3 ?k4 ?k5 ?kK ?kd ?ku ?h1 ?h2 ?_; (case k1 => k_asm); (case k2 => k_asm); (case k3 => k_asm); (case k4 => k_asm); (case k5 => k_asm); (case kK => first | exact rfl | assumption); (case kd => first | decide | ktr_room); (case ku => first | decide | ktr_units); (case h1 => k_mem); (case h2 => k_mem)); intro h' tk' F' N'))
local macro_rules | `(tactic| walk_at "call ref") => `(tactic| (k_here; (with_reducible show wpAny _ _ (call (Value.ref 177) _) _ _ _); k_dflt (refine' read_use ?k1 ?k2 ?k3 ?k4 ?k5 ?kK ?kd ?ku ?ko ?_; (case k1 => k_asm); (case k2 => k_asm); (case k3 => k_asm); (case k4 => k_asm); (case k5 => k_asm); (case kK => first | exact rfl | assumption); (case kd => decide); (case ku => decide); (case ko => with_reducible assumption)); intro r9 tl9 h' tk' F' N' lt9 hD9))
local macro_rules | `(tactic| walk_at "call ref") => `(tactic| (k_here; (with_reducible show wpAny _ _ (call (Value.ref 191) _) _ _ _); k_dflt (refine' neigh_use ?k1 ?k2 ?k3 ?k4 ?k5 ?kK ?kd ?ku ?ko ?_; (case k1 => k_asm); (case k2 => k_asm); (case k3 => k_asm); (case k4 => k_asm); (case k5 => k_asm); (case kK => first | exact rfl | assumption); (case kd => decide); (case ku => decide); (case ko => with_reducible assumption)); intro l9 vs9 n9 ds9 tl9 h' tk' F' N' lt9 hm9 hD9 hG9 ha9 hb9))
local macro_rules | `(tactic| walk_at "compareOp Eq ref ref") => `(tactic| (k_here; (rename Flag => fl9); apply of_stop))
local macro_rules | `(tactic| walk_at "call builtin:len") => `(tactic| (k_here; (rename Flag => fl9); apply of_stop))
theorem isList_addr {h : Heap} {l : Addr} {a : Array Value} (_ : h.IsList l a) : ∃ l', l' = l := ⟨l, rfl⟩
theorem walk0 : PySem.Challenge.rw_dg5009_01.Holds := hd (by
  k_fill
  w_on
  intro w s₀ s₁ mg mb G Y fa o pm cd doc dV kV ho hd hcd hD hmg hg args vals as hpre hlay hrd hwl hlo
  have KX := kIn_of Y
  have X := (Ground.X G).1
  have V := (Ground.X G).2
  refine Ground.open G ?_
  intro T B D TE TW
  try (refine guard_noD D (by decide +kernel) ?_; clear D)
  obtain ⟨_, _, M⟩ := bmod_of_top T
  have TA := at_of_top T
  try (obtain ⟨_, _, he, B0⟩ := based_of_top T rfl hmg ho hd; have he' : cd = _ := he; subst he'; clear he)
  clear hmg
  wrow_args hpre hlay hrd hwl hlo
  refine enterC ?_
  w_top on
  have K0 : Below callerA s₁.heap [] s₁.heap := below_caller (Top.heap T)
  have he := Dflts.none hD rfl; subst he
  (rename List Int => ns9); (rename IntsAre _ _ => hI9); rename PySem.Heap.IsList _ _ _ => hL9
  obtain ⟨l9, hl9⟩ := isList_addr hL9; subst hl9
  refine law_enter (binds := [(Str.ofString "script", .ref l9)]) (by decide) ho hd (Top.nolimit T) hcd (BindsTo.of_eq rfl) (locs rfl) fun h₁ F => ?_
  have N0 := (News.nil : News _ _ _ []).at F
  clear hd TA
  k_drop
  (rename List Value => vs9)
  refine wpAny_execs_stage (I := fun s' => ∃ h tk D ws dr, s' = ⟨h, s₁.gens, s₁.drawn, tk, s₁.os⟩ ∧ Fr s₁.heap s₁.heap.objs.size h (fun y => if y = Str.ofString "draw" then some (Value.ref D) else List.lookup y [(Str.ofString "script", Value.ref l9)].reverse) ∧ News s₁.heap s₁.heap.objs.size h [(D, listOf (List.toArray ws) 0)] ∧ IntsAre ws dr ∧ dr.length = 3) ?st1 ?nx1
  case st1 =>
    k_steps
    (rename Fr _ _ _ _ => F9); (rename News _ _ _ _ => N9); (try dsimp only at F9 N9 ⊢)
    refine ⟨rfl, _, _, _, _, _, rfl, F9, fun p hp => N9 p (List.mem_singleton.mp hp ▸ .head _), by assumption, ?_⟩
    rw [List.length_append]
    omega
  case nx1 =>
    rintro s2 ⟨h2, tk2, D, ws, dr, rfl, F2, N2, hI2, hl2⟩
    clear F N0
    refine wpC_execs_cons (wpC_of ?_)
    k_steps
    (show wpC _ _ (execs _ _) _ _ _); (try dsimp only)
    refine wpC_execs_cons (wpC_of ?_)
    k_steps
    (show wpC _ _ (execs _ _) _ _ _); (try dsimp only)
    refine wpC_execs_cons (wpC_of ?_)
    k_steps
    (show wpC _ _ (execs _ _) _ _ _); (try dsimp only)
    refine wpC_execs_cons (wpC_of ?_)
    k_steps
    (show wpC _ _ (execs _ _) _ _ _); (try dsimp only)
    (rename Fr _ _ _ _ => F7); (rename News _ _ _ _ => N7); (try dsimp only at F7 N7 ⊢)
    refine wpC_execs_cons (wpC_of ?_)
    k_steps
    (show wpC _ _ (execs _ _) _ _ _); (try dsimp only)
    (rename Fr _ _ _ _ => F8); (rename News _ _ _ _ => N8); (try dsimp only at F8 N8 ⊢)
    have hW := hms_ok (fmod_abs (dr.getD (Int.toNat 0) 0) (n := 25) (k := 100) (by decide) (by decide)) (fmod_abs ((dr.getD (Int.toNat 0) 0).fdiv 25) (n := 61) (k := 100) (by decide) (by decide)) (fmod_abs ((dr.getD (Int.toNat 0) 0).fdiv 1525) (n := 61) (k := 100) (by decide) (by decide))
    generalize hmsText _ _ _ = W at *
    have hW6 := hW.1
    refine wpC_execs_cons (wpC_of ?_)
    k_steps
    (show wpC _ _ (execs _ _) _ _ _); (try dsimp only)
    refine wpAny_execs_stage (I := fun s' => ∃ h tk W t, ∃ u : Str → Option Value, s' = ⟨h, s₁.gens, s₁.drawn, tk, s₁.os⟩ ∧ WordOk W ∧ Fr s₁.heap s₁.heap.objs.size h (fun y => if y = Str.ofString "word" then some (Value.str W t) else u y)) ?st2 ?nx2
    case st2 =>
      k_steps
      · (rename Fr _ _ _ _ => F9); (try dsimp only at F9 ⊢)
        exact ⟨rfl, _, _, _, _, _, rfl, word_fine hW (fmod_abs _ (by decide) (by decide)) (fmod_hi _ (by decide)) (by assumption), fr_name F9 rfl⟩
      · (rename Fr _ _ _ _ => F9); (try dsimp only at F9 ⊢)
        exact ⟨rfl, _, _, _, _, _, rfl, word_plain hW, fr_name F9 rfl⟩
    case nx2 =>
      rintro s3 ⟨h3, tk3, W3, t3, u3, rfl, hW3, F3⟩
      have N3 := (News.nil : News _ _ _ []).at F3
      refine wpC_execs_stage (I := fun s' => ∃ h tk x dx ta tb tc td, s' = ⟨h, s₁.gens, s₁.drawn, tk, s₁.os⟩ ∧ Fr s₁.heap s₁.heap.objs.size h (fun y => if y = Str.ofString "anchor" then some (Value.ref x) else if y = Str.ofString "word" then some (Value.str W3 t3) else u3 y) ∧ News s₁.heap s₁.heap.objs.size h [(x, timeObj dx [.int 23 ta, .int 59 tb, .int 59 tc, .int 500000 td]), (dx, dictOf [] 0)] ∧ dx < x) ?st3 ?nx3
      case st3 =>
        obtain ⟨o1, o2, o3, o4, H1, H2, H3, H4, H5⟩ := told_law anchor_good
        rw [anchor_read] at H5
        refine wpC_Assign_Name (wpC_Call_Name (wpC_of ?_))
        k_steps
        (show wpC _ _ (callWith _ (Value.ref 148) [] [(false, eval _ _)] []) _ _ _)
        (try dsimp only)
        refine wpC_callWith_of (P := (Mine.hd.heap_39 w.params).In) rfl (keeps_K (by kernel_rfl)) (wpC_evalArgs_plain (wpC_spliced_cons (wpC_of ?_)))
        k_steps
        (show wpC _ _ (spliced []) _ _ _)
        (rename Fr _ _ _ _ => F9); (rename News _ _ _ _ => N9); (try dsimp only at F9 N9 ⊢)
        refine wpC_spliced_nil ⟨KX.keeps F9.keep, wpC_call ?_⟩
        refine ts_1 (outer := []) K0 F9 KX N9 T rfl (by decide) (by decide) (by decide +kernel) H1 H2 H3 H4 ?ret ?bad
        case ret =>
          intro x dx h12 tk12 n1 n2 n3 n4 ta tb tc td F12 N12 l1 l2 hts
          rw [H5] at hts
          obtain ⟨rfl, rfl, rfl, rfl⟩ : 23 = n1 ∧ 59 = n2 ∧ 59 = n3 ∧ 500000 = n4 := by cases hts; exact ⟨rfl, rfl, rfl, rfl⟩
          (show wpC _ _ (storeName _ _ _) _ _ _)
          refine wpC_of ?_
          k_steps
          (rename Fr _ _ _ _ => F13); (rename News _ _ _ _ => N13); (try dsimp only at F13 N13 ⊢)
          exact ⟨rfl, _, _, _, _, _, _, _, _, rfl, F13, N13, l2⟩
        case bad =>
          intro e vs t1 g1 h12 tk12 F12 RS U hts
          rw [H5] at hts
          cases hts
      case nx3 =>
        rintro s4 ⟨h4, tk4, x4, dx4, ta, tb, tc, td, rfl, F4, N4, lt4⟩
        clear F3 N3
        refine wpC_execs_cons (wpC_of ?_)
        k_steps
        (show wpC _ _ (execs _ _) _ _ _); (try dsimp only)
        refine wpC_execs_cons (wpC_of ?_)
        k_steps
        (show wpC _ _ (execs _ _) _ _ _); (try dsimp only)
        (rename Fr _ _ _ _ => F5); (rename News _ _ _ _ => N5); (rename (_ < _ ∧ _ < _ ∧ _ < _ ∧ _ < _ ∧ _ < _) => lt5)
        (try dsimp only at F5 N5 ⊢)
        obtain ⟨q1, q2, q3, q4, q5⟩ := lt5
        (rename (_ < _ ∧ _ < _ ∧ _ < _ ∧ _ < _) => lt6)
        obtain ⟨p1, p2, p3, p4⟩ := lt6
        (rename (_ < _ ∧ _ < _ ∧ _ < _) => lt7)
        obtain ⟨o1, o2, o3⟩ := lt7
        refine wpC_execs_stage (I := fun s' => ∃ (h : Heap) (tk : Nat) (nx : List (Addr × Obj)) (lg lw l : Addr) (vs : List Value) (n : Nat) (ds : List Dat) (m : Str → Option Value), s' = ⟨h, s₁.gens, s₁.drawn, tk, s₁.os⟩ ∧ Fr s₁.heap s₁.heap.objs.size h m ∧ News s₁.heap s₁.heap.objs.size h nx ∧ LJ lg lw ds.length m nx ∧ 80 ≤ ds.length ∧ ds.length ≤ 200) ?st5 ?nx5
        case st5 =>
          refine wpC_For (wpC_monoQ (wpC_of (?_ : wpAny _ _ _ (ValI fun v s' => ∃ (h : Heap) (tk : Nat) (nx : List (Addr × Obj)) (lg lw l : Addr) (vs : List Value) (n : Nat) (L9 : List (Addr × Obj)) (ds : List Dat) (m : Str → Option Value), v = .ref l ∧ s' = ⟨h, s₁.gens, s₁.drawn, tk, s₁.os⟩ ∧ Fr s₁.heap s₁.heap.objs.size h m ∧ News s₁.heap s₁.heap.objs.size h nx ∧ LJ lg lw 0 m nx ∧ (l, listOf (List.toArray vs) n) ∈ nx ∧ DatAll L9 vs ds ∧ (∀ y ∈ ds, ∃ z, y = Dat.str z ∧ Good z) ∧ 80 ≤ ds.length ∧ ds.length ≤ 200) NoE _)) ?_)
          · k_steps
            (rename Fr _ _ _ _ => F6); (rename News _ _ _ _ => N6); (rename DatAll _ _ _ => D6); (rename (∀ y ∈ _, ∃ z, y = Dat.str z ∧ Good z) => G6); (try dsimp only at F6 N6 ⊢)
            refine ⟨_, _, _, _, _, _, _, _, _, _, _, rfl, rfl, fr_two F6 rfl rfl, fun p hp => N6 p ((lj_sub p).mp hp), lj_start q1 ?_ o1 ?_ (by assumption), (lj_sub _).mpr (by assumption), D6, G6, by assumption, by assumption⟩
            · exact p1
            · intro p hp
              simp only [List.mem_cons, List.not_mem_nil, or_false] at hp
              rcases hp with rfl | rfl
              · exact o2
              · exact o3
          · skip
            rintro v s' ⟨h6, tk6, nx6, lg, lw, l, vs, n, L9, ds, m6, rfl, rfl, F6, N6, J6, hm6, D6, G6, a6, b6⟩
            refine loopC_list (env := envOf _ _ _ _ _) (h₀ := s₁.heap) (LJ lg lw) rfl rfl rfl hm6 F6 N6 J6 ?turn ?done
            case done =>
              intro m7 nx7 h7 tk7 J7 F7 N7
              rw [D6.length] at J7
              exact ⟨rfl, h7, tk7, nx7, lg, lw, l, vs, n, ds, m7, rfl, F7, N7, J7, a6, b6⟩
            case turn =>
              rintro i v m7 nx7 h7 tk7 I oI hv hcI hoff hin ⟨u, gs, ws, ng, nw, rest, es, g0, w0, gr, wr, rfl, rfl, hne, hrest, hgs, hws, DG, DW, hlen, hok⟩ F7 N7
              obtain ⟨z, tz, rfl, hz⟩ := words_at D6 G6 hv
              have hzl := And.intro hz.1 hz.2.1
              have hi : i < 200 := by
                have h1 := (List.getElem?_eq_some_iff.mp hv).1
                have h2 := D6.length
                omega
              refine wpAny_execs_stage (I := fun s' => ∃ (h : Heap) (tk : Nat) (r1 : Value) (tl : List (Addr × Obj)), s' = ⟨h, s₁.gens, s₁.drawn, tk, s₁.os⟩ ∧ Fr s₁.heap s₁.heap.objs.size h (fun y => if y = Str.ofString "due" then some r1 else if y = Str.ofString "other" then some (Value.str z tz) else gwM lg lw u y) ∧ News s₁.heap s₁.heap.objs.size h ((lg, listOf gs.toArray ng) :: (lw, listOf ws.toArray nw) :: (rest ++ [(I, oI)] ++ tl)) ∧ (∀ q ∈ (lg, listOf gs.toArray ng) :: (lw, listOf ws.toArray nw) :: (rest ++ [(I, oI)]), ∀ p ∈ tl, q.1 < p.1) ∧ DatIn ((lg, listOf gs.toArray ng) :: (lw, listOf ws.toArray nw) :: (rest ++ [(I, oI)] ++ tl)) r1 (datOf z)) ?sa ?na
              case sa =>
                k_steps
                (rename Fr _ _ _ _ => F9); (rename News _ _ _ _ => N9); (try dsimp only at F9 N9 ⊢)
                exact ⟨rfl, _, _, _, _, rfl, F9, N9, by assumption, by assumption⟩
              case na =>
                rintro s8 ⟨h8, tk8, r1, tl1, rfl, F8, N8, lt8, hD8⟩
                clear F7 N7
                refine wpC_execs_cons (wpC_Expr (wpC_Call_method1 rfl rfl rfl (wpC_of ?_)))
                k_steps
                (show wpC _ _ (callWith _ (Value.builtin "list.append") [Value.ref lg] [(false, eval _ _)] []) _ _ _)
                refine wpC_callWith_builtin1 ?_
                refine wpC_Call_Name (wpC_of ?_)
                k_steps
                (show wpC _ _ (callWith _ (Value.ref 184) [] [(false, eval _ _)] []) _ _ _)
                (try dsimp only)
                refine wpC_callWith_of (P := (Mine.hd.heap_39 w.params).In) rfl (keeps_K (by kernel_rfl)) (wpC_evalArgs_plain (wpC_spliced_cons (wpC_of ?_)))
                k_steps
                (show wpC _ _ (spliced []) _ _ _)
                (rename Fr _ _ _ _ => F9); (rename News _ _ _ _ => N9); (try dsimp only at F9 N9 ⊢)
                refine wpC_spliced_nil ⟨KX.keeps F9.keep, ?_⟩
                obtain ⟨o1, o2, o3, o4, H1, H2, H3, H4, H5⟩ := told_law hz
                refine told_1 K0 F9 KX N9 T rfl KX T (by decide) (by decide) hz.2.1 H1 H2 H3 H4 ?_
                rw [H5]
                intro r2 tl2 h10 tk10 F10 N10 lt10 hD10
                (show wpC _ _ (call (Value.builtin "list.append") [Value.ref lg, r2]) _ _ _)
                refine wpC_of ?_
                have off := turn_off (oI := oI) hne hrest hoff lt8 lt10
                have hgl : gs.length ≤ 201 := by have := DG.length; omega
                have hwl : ws.length ≤ 201 := by have := DW.length; omega
                refine append_K (news' := (lg, listOf (gs.toArray.push r2) (ng + 1)) :: (lw, listOf ws.toArray nw) :: (rest ++ [(I, oI)] ++ tl1 ++ tl2)) F10 N10 (Upd.head fun p hp => ?_) (fun h11 F11 N11 => ⟨rfl, ?_⟩) (by rw [List.size_toArray, sizeLine_eq]; omega)
                · rcases List.mem_cons.mp hp with rfl | hp
                  · exact fun e => hne e.symm
                  · exact (off p hp).1
                (show wpC _ _ (execs _ _) _ _ _); (try dsimp only)
                refine wpC_execs_cons (wpC_Expr (wpC_Call_method1 rfl rfl rfl (wpC_of ?_)))
                k_steps
                (show wpC _ _ (callWith _ (Value.builtin "list.append") [Value.ref lw] [(false, eval _ _)] []) _ _ _)
                refine wpC_callWith_builtin1 (wpC_of ?_)
                k_steps
                (show wpC _ _ (call (Value.builtin "list.append") [Value.ref lw, r1]) _ _ _)
                (rename Fr _ _ _ _ => F12); (rename News _ _ _ _ => N12); (try dsimp only at F12 N12 ⊢)
                refine wpC_of ?_
                refine append_K (news' := (lg, listOf (gs.toArray.push r2) (ng + 1)) :: (lw, listOf (ws.toArray.push r1) (nw + 1)) :: (rest ++ [(I, oI)] ++ tl1 ++ tl2)) F12 N12 (Upd.tail hne (Upd.head fun p hp => (off p hp).2)) (fun h13 F13 N13 => ⟨rfl, ?_⟩) (by rw [List.size_toArray, sizeLine_eq]; omega)
                (show wpC _ _ (execs [] _) _ _ _)
                refine wpC_of (wpAny_execs_nil ?_)
                obtain ⟨e1, e2, e3⟩ := turn_end D6 G6 hin hcI hne hrest hoff hgs hws DG DW hlen hok lt8 lt10 hD8 hD10
                exact ⟨rfl, h13, _, _, _, rfl, fr_two F13 rfl rfl, fun p hp => N13 p (turn_sub p hp), e1, e2, e3⟩
        case nx5 =>
          rintro s9 ⟨h9, tk9, nx9, lg, lw, l, vs, n, ds, m9, rfl, F9, N9, ⟨u, gs, ws, ng, nw, rest, es, g0, w0, gr, wr, rfl, rfl, hne, hrest, hgs, hws, DG, DW, hlen, hok⟩, a9, b9⟩
          have hok' : ∀ d ∈ es, kqdOk 8 d = true := hok
          have hwl := DW.length
          have hwl81 : 81 ≤ (ws.length : Int) := by omega
          refine wpC_execs_cons (wpC_of ?_)
          have fl : Flag := ⟨trivial⟩
          k_steps
          refine Stop.mk ?_
          (rename Fr _ _ _ _ => F10); (rename News _ _ _ _ => N10)
          refine kqd_eq N10 (.head _) rfl rfl DG (fun _ h => .tail _ (.tail _ h)) (.tail _ (.head _)) rfl rfl DW (fun _ h => .tail _ (.tail _ h)) hok' hok' (Nat.le_of_ble_eq_true rfl) ?_
          simp only [eq_self, decide_true]
          k_steps
          refine Stop.mk ?_
          (rename Flag => fl9); clear fl9
          (rename News _ _ _ _ => N10); (try dsimp only at N10 ⊢)
          refine Calls.call_len_list (News.isList N10 (.tail _ (.head _))) (by rw [List.size_toArray]; omega) ?_
          rw [List.size_toArray]
          k_steps
  )
end Mine
end

theorem PySem.Challenge.cw_dg5009_01_holds : PySem.Challenge.rw_dg5009_01.Holds := by
  exact Mine.walk0
