import PyProof.Rows.All
import Wide.All
import OpenK.AllK
import Wide.FinOn
import PySem.Challenge.RW_zd0004_01
set_option Elab.async false

section
theorem Mine.fresh1 : True := by k_with_none; w_top off; trivial
open PySem PySem.W PyProof.Rows PyProof.V
set_option maxRecDepth 100000
namespace Mine
open Sem (wp)
/-- the claim's caller stands at or below the code that runs -/
def HasC (Γ : Ctx) : Prop := Γ.code.isCaller = true ∨ Γ.below.any (fun x => x.1.isCaller) = true
/-- the claim's caller stands below -/
def HasB (Γ : Ctx) : Prop := Γ.below.any (fun x => x.1.isCaller) = true
def wpC {α : Type} (M : Model) (A : Around) (t : Sem α) (Q : α → Shared → Prop) (E : Value → Shared → Prop) (s : Shared) : Prop :=
  ∀ Γ p, Γ.In A → HasC Γ → wp M Γ t (fun a _ s' => Q a s') (fun e _ s' => E e s') p s
def codeC (M : Model) (A : Around) (c : Code) (R : Result → Shared → Prop) (s : Shared) : Prop :=
  ∀ Γ p, Γ.code = c → Γ.Below A → HasB Γ → wpCode M Γ R p s
theorem HasC.enter {Γ : Ctx} (h : HasC Γ) (c : Code) (hd : Option Value) (p : Pos) : HasB (Γ.enter c hd p) := by
  show (((Γ.code, p) :: Γ.below).any fun x => x.1.isCaller) = true
  rw [List.any_cons]
  rcases h with h | h
  · show (Γ.code.isCaller || _) = true
    rw [h]; rfl
  · show (Γ.code.isCaller || Γ.below.any _) = true
    rw [h]; exact Bool.or_true _
theorem HasB.has {Γ : Ctx} (h : HasB Γ) : HasC Γ := .inr h
section
variable {α β : Type} {M : Model} {A : Around} {E : Value → Shared → Prop} {s : Shared}
theorem C_any {t : Sem α} {Q : α → Shared → Prop} (h : wpAny M A t Q E s) : wpC M A t Q E s := fun Γ p hΓ _ => h Γ p hΓ
theorem C_pure {a : α} {Q : α → Shared → Prop} (h : Q a s) : wpC M A (pure a) Q E s := fun _ _ _ _ => h
theorem C_mono {t : Sem α} {Q Q' : α → Shared → Prop} {E' : Value → Shared → Prop} (h : wpC M A t Q E s) (hQ : ∀ a s, Q a s → Q' a s) (hE : ∀ e s, E e s → E' e s) : wpC M A t Q' E' s :=
  fun Γ p hΓ hc => Sem.wp_mono M Γ t (fun a _ s => hQ a s) (fun e _ s => hE e s) p s (h Γ p hΓ hc)
theorem C_bind {m : Sem α} {f : α → Sem β} {Q : β → Shared → Prop} (h : wpC M A m (fun a s' => wpC M A (f a) Q E s') E s) : wpC M A (m >>= f) Q E s := fun Γ p hΓ hc => by
  rw [Sem.wp_bind']
  exact Sem.wp_mono M Γ m (fun a p' s' h' => h' Γ p' hΓ hc) (fun _ _ _ h' => h') p s (h Γ p hΓ hc)
theorem C_onRaise {m : Sem α} {k : Value → Sem Unit} {Q : α → Shared → Prop} (h : wpC M A m Q (fun e s' => wpC M A (k e) (fun _ s'' => E e s'') E s') s) : wpC M A (m.onRaise k) Q E s := fun Γ p hΓ hc => by
  rw [Sem.wp_onRaise]
  exact Sem.wp_mono M Γ m (fun _ _ _ h' => h') (fun e p' s' h' => h' Γ p' hΓ hc) p s (h Γ p hΓ hc)
theorem C_attempt {m : Sem α} {Q : Except Value α → Shared → Prop} (h : wpC M A m (fun a => Q (.ok a)) (fun e => Q (.error e)) s) : wpC M A m.attempt Q E s := fun Γ p hΓ hc => by rw [Sem.wp_attempt]; exact h Γ p hΓ hc
theorem C_holding {vs : List Value} {m : Sem α} {Q : α → Shared → Prop} (h : wpC M A m Q E s) : wpC M A (holding vs m) Q E s := fun Γ p hΓ hc => by rw [Sem.wp_holding]; exact h Γ p hΓ hc
theorem C_standAt {pos : Pos} {Q : Unit → Shared → Prop} (h : Q () s) : wpC M A (standAt pos) Q E s := fun _ _ _ _ => h
theorem C_point {Q : Unit → Shared → Prop} (h : Q () s) : wpC M A point Q E s := fun _ _ _ _ => h
theorem C_throw {e : Value} {Q : α → Shared → Prop} (h : E e s) : wpC M A (throw e : Sem α) Q E s := fun _ _ _ _ => h
theorem C_keep {vs : List Value} {m : Sem α} {Q : α → Shared → Prop} (h : wpC M A m Q E s) : wpC M A (m.keep vs) Q E s :=
  fun Γ p hΓ hc => by rw [Sem.wp_keep]; exact h Γ p hΓ hc
theorem C_of_eq {t : Sem α} {a : α} {Q : α → Shared → Prop} (e : t = pure a) (h : Q a s) : wpC M A t Q E s := e ▸ C_pure h
theorem codeC_any {c : Code} {R : Result → Shared → Prop} (h : codeAny M A c R s) : codeC M A c R s := fun Γ p hc hΓ _ => h Γ p hc hΓ
theorem codeC_mono {c : Code} {R R' : Result → Shared → Prop} (h : codeC M A c R s) (hR : ∀ r s, R r s → R' r s) : codeC M A c R' s :=
  fun Γ p hc hΓ hb => wpCode_mono hR (h Γ p hc hΓ hb)
theorem C_run {c : Code} {h : Option Value} {Q : Flow → Shared → Prop}
    (hc : codeC M (A.mark h) c (fun r s' => match r with | .ok f => Q f s' | .error e => E e s') s) (hnb : h ≠ some byPass) : wpC M A (run c h) Q E s :=
  fun Γ p hΓ hC => by rw [Sem.wp_run]; exact hc _ p rfl (hΓ.enter c h p hnb) (hC.enter c h p)
theorem C_runValue {c : Code} {Q : Value → Shared → Prop}
    (hc : codeC M A c (fun r s' => match r with | .ok (.ret v) => Q v s' | .ok _ => False | .error e => E e s') s) :
    wpC M A (runValue c) Q E s := fun Γ p hΓ hC => by rw [Sem.wp_runValue]; exact hc _ p rfl (hΓ.enter c none p (by intro x; cases x)) (hC.enter c none p)
theorem C_call {f : Value} {pos : List Value} {kw : List (Str × Value)} {Q : Value → Shared → Prop}
    (hc : codeC M A (.call f ⟨pos, kw⟩) (fun r s' => match r with | .ok (.ret v) => Q v s' | .ok _ => False | .error e => E e s') s) :
    wpC M A (call f pos kw) Q E s := C_runValue hc
theorem codeC_of_tree {c : Code} {R : Result → Shared → Prop}
    (h : wpC M (A.under c) (M.den c) (fun fin s' => match fin with | .done f => R (.ok f) s' | .again c' => c'.quiet = true ∧ codeC M A c' R s')
      (fun e s' => R (.error e) s') s) : codeC M A c R s := fun Γ p hc hΓ hb => by
  rw [wpCode_iff_wp, hc]
  refine Sem.wp_mono M Γ _ (fun fin p' s' h' => ?_) (fun _ _ _ h' => h') p s (h Γ p (hc ▸ hΓ.in) hb.has)
  cases fin with
  | done f => exact h'
  | again c' => exact ⟨h'.1, h'.2 (Γ.goto c') p' rfl (hΓ.goto c') hb⟩
theorem codeC_loop {c : Code} {R : Result → Shared → Prop} (hq : c.quiet = true) (I : Nat → Shared → Prop)
    (turn : ∀ n s, I n s → wpC M (A.under c) (M.den c)
      (fun fin s' => match fin with
        | .done f => R (.ok f) s'
        | .again c' => (c' = c ∧ ∃ m, m < n ∧ I m s') ∨ (c'.quiet = true ∧ codeC M A c' R s')) (fun e s' => R (.error e) s') s)
    (n : Nat) (h : I n s) : codeC M A c R s := by
  induction n using Nat.strongRecOn generalizing s with
  | ind n ih =>
    refine codeC_of_tree (C_mono (turn n s h) (fun fin s' hf => ?_) fun _ _ h' => h')
    cases fin with
    | done f => exact hf
    | again c' =>
      rcases hf with ⟨rfl, m, hm, hI⟩ | hf
      · exact ⟨hq, ih m hm hI⟩
      · exact hf
end
section
variable {M : Model} {A : Around} {E : Value → Shared → Prop} {s : Shared} {env : Env}
theorem C_execs_cons {st rest} {Q : Flow → Shared → Prop} (h : wpC M A (exec st env) (fun f s' => match f with | .next => wpC M A (execs rest env) Q E s' | f => Q f s') E s) : wpC M A (execs (st :: rest) env) Q E s := by
  rw [execs_cons]
  refine C_bind (C_mono h (fun f s' h' => ?_) fun _ _ x => x)
  cases f <;> first | exact h' | exact C_pure h'
theorem C_Return {e pos} {Q : Flow → Shared → Prop} (h : wpC M A (eval e env) (fun v => Q (.ret v)) E s) : wpC M A (exec (.Return (some e) pos) env) Q E s := by
  rw [exec_Return_some]
  exact C_bind (C_standAt (C_bind (C_mono h (fun _ _ x => C_pure x) fun _ _ x => x)))
theorem C_Assign_Name {x pos' value pos} {Q : Flow → Shared → Prop}
    (h : wpC M A (eval value env) (fun v s₁ => wpAny M A (storeName env x v) (fun _ => Q .next) E s₁) E s)
    (hs : swapsWith value (some (.Name x pos')) pos.line env = pure false) :
    wpC M A (exec (.Assign [.Name x pos'] value pos) env) Q E s := by
  rw [exec_Assign_Name env x pos' value pos hs]
  exact C_bind (C_standAt (C_bind (C_mono h (fun v s₁ h₁ => C_bind (C_standAt (C_bind (C_mono (C_any (wpAny_bindName h₁)) (fun _ _ x => C_pure x) fun _ _ x => x)))) fun _ _ x => x)))
theorem C_Compare1 {l op r pos} {Q : Value → Shared → Prop}
    (h : wpC M A (eval l env) (fun a s₁ => wpAny M A (eval r env) (fun b s₂ => wpAny M A (compareOp op a b) Q E s₂) E s₁) E s)
    (hm : behindInMarks op r = false) :
    wpC M A (eval (.Compare l [op] [r] pos) env) Q E s := fun Γ p hΓ hC => by
  simp only [eval_Compare1, markedBehindIn_of_false hm, Sem.wp_bind', Sem.wp_holding, Sem.wp_cmd_standAt, Sem.wp_operate]
  exact Sem.wp_mono M Γ _ (fun a p₁ s₁ h₁ => Sem.wp_mono M Γ _ (fun b _ s₂ h₂ => h₂ Γ _ hΓ) (fun _ _ _ h' => h') _ _ (h₁ Γ p₁ hΓ))
    (fun _ _ _ h' => h') _ _ (h Γ p hΓ hC)
theorem C_Call_ {func : Expr} {args : List Expr} {pos : Pos} {Q : Value → Shared → Prop}
    (h : wpC M A (eval func env) (fun f s₁ => wpC M A (callWith pos f [] (backTo pos (starEach args env)) []) Q E s₁) E s)
    (he : eval (.Call func args [] pos) env = (do callWith pos (← eval func env) [] (backTo pos (starEach args env)) (backToKw pos (keywordEach [] env)))) :
    wpC M A (eval (.Call func args [] pos) env) Q E s := by
  rw [he]; exact C_bind h
theorem C_spliced_nil {Q : List Value → Shared → Prop} (h : Q [] s) : wpC M A (spliced []) Q E s := C_pure h
theorem C_spliced_cons {x : Sem Value} {rest : List (Bool × Sem Value)} {Q : List Value → Shared → Prop}
    (h : wpC M A x (fun v s₁ => wpC M A (spliced rest) (fun vs s₂ => Q (v :: vs) s₂) E s₁) E s) : wpC M A (spliced ((false, x) :: rest)) Q E s := by
  rw [spliced]
  refine C_bind (C_mono h (fun v s₁ h₁ => ?_) fun _ _ x => x)
  simp only [Bool.false_eq_true, if_false]
  exact C_bind (C_pure (C_bind (C_holding (C_mono h₁ (fun vs s₂ h₂ => C_pure h₂) fun _ _ x => x))))
theorem C_evalArgs {f : Value} {x : Sem Value} {rest : List (Bool × Sem Value)} {Q : Args → Shared → Prop}
    (h : wpC M A (spliced ((false, x) :: rest)) (fun vs s' => Q ⟨vs, []⟩ s') E s) : wpC M A (evalArgs f true ((false, x) :: rest) []) Q E s := by
  unfold evalArgs
  show wpC M A (spliced ((false, x) :: rest) >>= _) Q E s
  refine C_bind (C_mono h (fun vs s' h' => ?_) fun _ _ x => x)
  refine C_holding ?_
  exact C_bind (C_pure (C_bind (C_pure (C_pure h'))))
theorem C_callWith_of {f : Value} {pos : Pos} {first : List Value} {Q : Value → Shared → Prop} {P : Heap → Prop} {args : List (Bool × Sem Value)} {keywords : List (Option Str × Sem Value)} (hplain : (args.any (·.1) || keywords.any (·.1.isNone)) = false)
    (hk : ∀ h, P h → ∃ k, (k = Keeper.frame ∨ k = Keeper.machine ∨ k = Keeper.boundFrame) ∧ Looks M h (keeperOf f) k)
    (h : wpC M A (evalArgs f true args keywords) (fun a s₁ => P s₁.heap ∧ wpC M A (call f (first ++ a.pos) a.kw) Q E s₁) E s) : wpC M A (callWith pos f first args keywords) Q E s := by
  unfold callWith
  refine C_bind (C_holding (C_mono h (fun a s₁ h₁ => C_bind (C_standAt ?_)) fun _ _ x => x))
  obtain ⟨k, hk', L⟩ := hk _ h₁.1
  rw [hplain]
  dsimp only
  refine C_bind (C_any (L.here ?_))
  have tail : ∀ {t : Sem Value}, wpC M A t Q E s₁ → wpC M A (t >>= fun r => holding [r] point >>= fun _ => pure r) Q E s₁ :=
    fun ht => C_bind (C_mono ht (fun r s₂ hr => C_bind (C_holding (C_mono (C_point hr) (fun _ _ x => C_pure x) fun _ _ x => x))) fun _ _ x => x)
  have marked (mk : Value) : wpC M A (callMarked mk f (first ++ a.pos) a.kw) Q E s₁ := by unfold callMarked; exact C_keep h₁.2
  rcases hk' with rfl | rfl | rfl <;> dsimp only <;> first | exact tail h₁.2 | (split <;> first | exact tail h₁.2 | exact tail (marked _))
theorem C_callWith_K {K : Frag} {h₀ : Heap} {f : Value} {pos : Pos} {e : Expr} {rest : List Expr} {Q : Value → Shared → Prop} (_X : K.In h₀) (hk : keepIn K f = true) (h : wpC M A (spliced (backTo pos (starEach (e :: rest) env))) (fun vs s₁ => K.In s₁.heap ∧ wpC M A (call f vs) Q E s₁) E s)
    (he : starEach (e :: rest) env = (false, eval e env) :: starEach rest env) (hplain : (backTo pos (starEach rest env)).any (·.1) = false) :
    wpC M A (callWith pos f [] (backTo pos (starEach (e :: rest) env)) []) Q E s := by
  rw [he] at h ⊢
  exact C_callWith_of (by show ((false || (backTo pos (starEach rest env)).any (·.1)) || false) = false; rw [hplain]; rfl) (keeps_K hk) (C_evalArgs h)
theorem C_args_cons {e : Expr} {rest : List Expr} {pos : Pos} {Q : List Value → Shared → Prop}
    (h : wpC M A (eval e env) (fun v s₁ => wpC M A (spliced (backTo pos (starEach rest env))) (fun vs s₂ => Q (v :: vs) s₂) E s₁) E s)
    (he : starEach (e :: rest) env = (false, eval e env) :: starEach rest env) : wpC M A (spliced (backTo pos (starEach (e :: rest) env))) Q E s := by
  rw [he]; exact C_spliced_cons h
def cameBackC (M : Model) (A : Around) (env : Env) (E : Value → Shared → Prop) : Value → Shared → Prop := cameBackBy M A env E
theorem C_runOwn {c : Code} {h : Option Value} {Q : Flow → Shared → Prop}
    (hc : codeC M (A.mark h) c (fun r s' => match r with | .ok f => Q f s' | .error e => cameBackBy M A env E e s') s) (hnb : h ≠ some byPass) :
    wpC M A (runOwn c env h) Q E s := by
  unfold runOwn
  exact C_onRaise (C_mono (C_run hc hnb) (fun _ _ x => x) fun _ _ x => C_any x)
theorem C_tryStmt {body orelse : Sem Flow} {h₀ : ExceptHandler} {hs : List ExceptHandler} {Q : Flow → Shared → Prop}
    (h : wpC M A body (fun f s₁ => match f with | .next => wpAny M A orelse Q E s₁ | f => Q f s₁)
      (fun e s₁ => wpAny M A (noteFrame e env) (fun _ s₂ => wpAny M A (setFlight e none) (fun _ s₃ => wpAny M A (handleBy e env (h₀ :: hs)) Q E s₃) E s₂) E s₁) s) :
    wpC M A (tryStmt false body (h₀ :: hs) orelse [] env) Q E s := by
  unfold tryStmt
  refine C_bind (m := body.attempt) (C_attempt (C_mono h (fun f s₁ h₁ => ?_) fun e s₁ h₁ => ?_))
  · refine C_any ?_
    cases f <;> first | exact h₁ | exact wpAny_pure h₁
  · exact C_any (wpAny_bind (wpAny_mono h₁ (fun _ _ h₂ => wpAny_bind h₂) fun _ _ x => x))
end
section
variable {prog : Program} {w : World} {A : Around} {E : Value → Shared → Prop} {R : Result → Shared → Prop} {s : Shared} {env : Env}
theorem C_Try {body orelse : List Stmt} {h₀ : ExceptHandler} {hs : List ExceptHandler} {pos : Pos} {Q : Flow → Shared → Prop}
    (h : wpC (model prog w) A (execs body env) (fun f s₁ => match f with | .next => wpAny (model prog w) A (execs orelse env) Q E s₁ | f => Q f s₁)
      (fun e s₁ => wpAny (model prog w) A (noteFrame e env) (fun _ s₂ => wpAny (model prog w) A (setFlight e none) (fun _ s₃ => wpAny (model prog w) A (handleBy e env (h₀ :: hs)) Q E s₃) E s₂) E s₁) s) :
    wpC (model prog w) A (exec (.Try body (h₀ :: hs) orelse [] pos) env) Q E s := by
  rw [arm_exec_Try]
  exact C_bind (C_standAt (C_tryStmt h))
theorem C_noted {α : Type} {m : Sem α} {Q : α → Shared → Prop} (h : wpC (model prog w) A m Q (notedBy (model prog w) A env E) s) : wpC (model prog w) A (m.onRaise fun x => do noteFrame x env; theTreesLotGoes x) Q E s :=
  C_onRaise (C_mono h (fun _ _ q => q) fun _ _ hx => C_any (wpAny_bind (wpAny_mono hx (fun _ _ e => wpAny_theTreesLotGoes e) fun _ _ e => e)))
/-- a for loop whose body may go where the caller must be below -/
theorem codeC_forLoop {target it body orelse env} (I : Nat → Shared → Prop)
    (turn : ∀ n s, I n s → wpAny (model prog w) A (pyNext it) (fun r s₁ => match r with
      | none => wpAny (model prog w) A (execs orelse env) (fun f s₃ => R (.ok f) s₃) (notedBy (model prog w) A env fun e s' => R (.error e) s') s₁
      | some v => wpAny (model prog w) A (letOwnedTupleGo target it v) (fun _ s₁' =>
          wpAny (model prog w) A (assign target env v) (fun _ s₂ => wpC (model prog w) A (execs body env) (fun f s₃ => match f with
            | .next | .cont => ∃ m, m < n ∧ I m s₃
            | .brk => R (.ok .next) s₃
            | .ret v => R (.ok (.ret v)) s₃) (notedBy (model prog w) A env fun e s' => R (.error e) s') s₂) (notedBy (model prog w) A env fun e s' => R (.error e) s') s₁') (notedBy (model prog w) A env fun e s' => R (.error e) s') s₁) (notedBy (model prog w) A env fun e s' => R (.error e) s') s)
    (n : Nat) (h : I n s) : codeC (model prog w) A (.forLoop target it body orelse env) R s := by
  refine codeC_loop rfl I (fun n s hI => ?_) n h
  show wpC _ A ((forTurn target it body orelse env).onRaise (fun x => do noteFrame x env; theTreesLotGoes x)) _ _ s
  refine C_noted ?_
  unfold forTurn
  refine C_bind (C_standAt (C_bind (C_onRaise (C_any (wpAny_mono (turn n s hI) (fun r s₁ h₁ => ?_) fun _ _ h' => C_standAt h')))))
  cases r with
  | none => exact C_pure (.inr ⟨rfl, codeC_any (codeAny_block h₁)⟩)
  | some v =>
    refine C_bind (C_any (wpAny_mono h₁ (fun _ s₁' h₁' => ?_) fun _ _ h' => h'))
    refine C_bind (C_any (wpAny_mono h₁' (fun _ s₂ h₂ => C_bind (C_mono h₂ (fun f s₃ h₃ => ?_) fun _ _ h' => h')) fun _ _ h' => h'))
    cases f with
    | next => exact C_pure (.inl ⟨rfl, h₃⟩)
    | cont => exact C_pure (.inl ⟨rfl, h₃⟩)
    | brk => exact C_pure h₃
    | ret v => exact C_pure h₃
theorem C_For {target iter body orelse pos} {Q : Flow → Shared → Prop}
    (h : wpAny (model prog w) A (eval iter env) (fun x s₁ => wpAny (model prog w) A (pyIter x) (fun it s₂ =>
      codeC (model prog w) A (.forLoop target it body orelse env) (fun r s' => match r with | .ok f => Q f s' | .error e => cameBackBy (model prog w) A env E e s') s₂) E s₁) E s)
    (hs : ∀ x, foldedSetIterable iter env x = pure x) :
    wpC (model prog w) A (exec (.For target iter body orelse pos) env) Q E s := by
  rw [exec_For]
  exact C_bind (C_standAt (C_bind (C_any (wpAny_mono h (fun x s₁ h₁ => C_bind (C_of_eq (hs x) (C_bind (C_standAt (C_bind (C_holding
    (C_any (wpAny_mono h₁ (fun it s₂ h₂ => C_runOwn h₂ (by intro x; cases x)) fun _ _ h' => h')))))))) fun _ _ h' => h'))))
theorem codeC_func {body env}
    (h : wpC (model prog w) (A.deeper env) (execs body env) (fun f s' => R (.ok (.ret (match f with | .ret v => v | _ => .none))) s')
      (fun e s' => wpAny (model prog w) (A.deeper env) (leaving env e) (fun _ s'' => R (.error e) s'') (fun e' s'' => R (.error e') s'') s') s) :
    codeC (model prog w) A (.func body env) R s := by
  refine codeC_of_tree ?_
  show wpC _ (A.deeper env) (do point; match ← (execs body env).onRaise (leaving env) with | .ret v => ret v | _ => ret .none) _ _ s
  refine C_bind (C_point (C_bind (C_onRaise (C_mono h (fun f s' h' => ?_) fun _ _ h' => C_any h'))))
  cases f <;> exact C_pure h'
theorem codeC_call_function {a : Addr} {args : Args} {o : Obj} {fd : FuncData} {body : List Stmt} (hroom : A.depth < recursionLimit)
    (ho : s.heap.get? a = some o)
    (hd' : o.data = .func fd) (hco : fd.scope.isCoroutine = false) (hgen : fd.scope.isGenerator = false) (hbody : fd.body = .stmts body) (hcd : s.heap.CodeRec fd.code fd.qualname)
    (h : wpAny (model prog w) A.in1 (bindArgs fd args) (fun binds s₁ =>
      wpAny (model prog w) A.in1 (newFunctionEnv fd.scope fd.globals fd.closure binds (fd.qualname ++ ".<locals>.") (some a) fd.code none fd.builtins)
        (fun env s₂ => s₂.heap.NoLimit ∧ codeC (model prog w) A (.func body env) R s₂) (fun e s' => R (.error e) s') s₁) (fun e s' => R (.error e) s') s) :
    codeC (model prog w) A (.call (.ref a) args) R s := by
  refine codeC_of_tree ?_
  refine C_any ?_
  show wpAny _ A.in1 (load a >>= _) _ _ s
  refine wpAny_bind (wpAny_load ho ?_)
  obtain ⟨c, oc, vs, tq, hc, hoc, hdc, hq⟩ := hcd
  rw [hc] at h
  rw [hd']
  show wpAny _ A.in1 (callFunction a fd args) _ _ _
  unfold callFunction
  rw [hc, hbody, hco, hgen]
  refine wpAny_bind (m := field (.ref c) 1) (wpAny_field hoc hdc hq (wpAny_bind (wpAny_pure ?_)))
  exact wpAny_bind (wpAny_mono h (fun binds s₁ h₁ => wpAny_bind (wpAny_mono h₁ (fun env s₂ h₂ => wpAny_bind (wpAny_enterFrame h₂.1 hroom
    (wpAny_pure (And.intro rfl h₂.2)))) fun _ _ h' => h')) fun _ _ h' => h')
theorem codeC_call_def {a : Addr} {o : Obj} {fd : FuncData} {body : List Stmt} {args : Args} {binds : List (Str × Value)}
    (hroom : A.depth < recursionLimit) (ho : s.heap.get? a = some o) (hdata : o.data = .func fd) (hlim : s.heap.NoLimit) (hcd : s.heap.CodeRec fd.code fd.qualname)
    (hbody : fd.body = .stmts body) (hbind : BindsTo s fd args binds)
    (hcell : ∀ x ∈ fd.scope.names, x.2 ≠ .cell) (hloc : ∀ x ∈ binds, fd.scope.names.lookup x.1 = some .local)
    (h : ∀ h₀, h₀.Ns s.heap.objs.size (fun x => binds.reverse.lookup x) → (∀ b o, s.heap.get? b = some o → h₀.get? b = some o) →
      wpC (model prog w) (A.deeper (callEnv fd s.heap.objs.size a)) (execs body (callEnv fd s.heap.objs.size a)) (fun f s' => R (.ok (.ret (match f with | .ret v => v | _ => .none))) s')
        (fun e s' => wpAny (model prog w) (A.deeper (callEnv fd s.heap.objs.size a)) (leaving (callEnv fd s.heap.objs.size a) e) (fun _ s'' => R (.error e) s'') (fun e' s'' => R (.error e') s'') s')
        { s with heap := h₀, toks := s.toks + binds.length })
    (hco : fd.scope.isCoroutine = false) (hgen : fd.scope.isGenerator = false) (hk : fd.scope.kind = .function) :
    codeC (model prog w) A (.call (.ref a) args) R s := by
  refine codeC_call_function hroom ho hdata hco hgen hbody hcd (hbind _ _ _ _ ?_)
  refine wpAny_newFunctionEnv hcell hloc (fun h₀ hns₀ hsb₀ => ⟨hlim.fresh _ hsb₀, codeC_func (h h₀ hns₀ fun b o e => ?_)⟩) hk
  exact hsb₀.extBut b o (Nat.ne_of_lt (Heap.lt_size e)) (Heap.get?_push_of_some _ e)
end
end Mine
end

section
theorem Mine.fresh2 : True := by k_with_none; w_top off; trivial
open PySem PySem.W PyProof.Rows PyProof.V PySem.NumText
set_option maxRecDepth 100000
namespace Mine
open Sem (wp)
theorem wp_mark_hasC {M : Model} {Γ : Ctx} {own : List String} {e : Value} {Q : Unit → Pos → Shared → Prop} {E : Value → Pos → Shared → Prop} {p : Pos} {s : Shared} (hC : HasC Γ) (h : Q () p s) :
    wp M Γ (markTheRefusal own e) Q E p s := by
  unfold markTheRefusal
  rw [Sem.wp_bind']
  show wp M Γ (if pythonCodeMadeTheCall own (((Γ.code, p) :: Γ.below).map (·.1)) then _ else _) _ _ p s
  have hany : ((((Γ.code, p) :: Γ.below).map (·.1)).any Code.isCaller) = true := by
    simp only [List.any_map]
    rcases hC with h | h
    · rw [List.any_cons]
      show (Γ.code.isCaller || _) = true
      rw [h]; rfl
    · rw [List.any_cons]
      show (Γ.code.isCaller || Γ.below.any (fun x => x.1.isCaller)) = true
      rw [h]; exact Bool.or_true _
  have hno : pythonCodeMadeTheCall own (((Γ.code, p) :: Γ.below).map (·.1)) = false := by
    unfold pythonCodeMadeTheCall
    show (!((((Γ.code, p) :: Γ.below).map (·.1)).any Code.isCaller) && _ && _) = false
    rw [hany]; rfl
  rw [hno]
  exact h
theorem C_ite_true {α : Type} {M : Model} {A : Around} {E : Value → Shared → Prop} {s : Shared} {c : Prop} [Decidable c] {a b : Sem α} {Q : α → Shared → Prop} (hc : c) (h : wpC M A a Q E s) : wpC M A (if c then a else b) Q E s := by rw [if_pos hc]; exact h
theorem C_ite_false {α : Type} {M : Model} {A : Around} {E : Value → Shared → Prop} {s : Shared} {c : Prop} [Decidable c] {a b : Sem α} {Q : α → Shared → Prop} (hc : ¬ c) (h : wpC M A b Q E s) : wpC M A (if c then a else b) Q E s := by rw [if_neg hc]; exact h
theorem C_rule {M : Model} {A : Around} {E : Value → Shared → Prop} {s : Shared} {tag : String} {Q : Unit → Shared → Prop} (h : Q () s) : wpC M A (rule tag) Q E s := fun _ _ _ _ => h
theorem C_mark {M : Model} {A : Around} {own : List String} {e : Value} {E : Value → Shared → Prop} {Q : Unit → Shared → Prop} {s : Shared} (h : Q () s) : wpC M A (markTheRefusal own e) Q E s :=
  fun _ _ _ hC => wp_mark_hasC hC h
theorem drop_snoc {p : Nat → Bool} {a : Nat} (ha : p a = false) : ∀ l : List Nat, ∃ l', (l ++ [a]).dropWhile p = l' ++ [a]
  | [] => ⟨[], by simp [List.dropWhile, ha]⟩
  | b :: l => by
    rw [List.cons_append, List.dropWhile_cons]
    split
    · exact drop_snoc ha l
    · exact ⟨b :: l, rfl⟩
theorem bad_numeral (ds : List Nat) : (int_private% "readNumeral") 0 10 (120 :: ds) = int_private% "Numeral.invalid" := by
  rw [readNumeral_ten]
  have e : digits? 10 (core (120 :: ds)) = none := by
    have h1 : (120 :: ds).dropWhile blank = 120 :: ds := by
      rw [List.dropWhile_cons]; rfl
    have h2 : (sign (120 :: ds)).2 = 120 :: ds := rfl
    unfold core
    rw [h1, h2, List.reverse_cons]
    obtain ⟨l', e⟩ := drop_snoc (p := blank) (a := 120) (by decide) ds.reverse
    rw [e, List.reverse_append]
    show digits? 10 (120 :: l'.reverse) = none
    unfold digits?
    rw [List.foldlM_cons]
    rfl
  rw [e]
  exact judge_none
theorem bad_texts {x : PySem.Str} {ds : List Nat} (hx : x.cps.toList = 120 :: ds) (hd : ∀ c ∈ ds, 48 ≤ c ∧ c ≤ 57) : numTextOf x = 120 :: ds ∧ numSeenOf x = 120 :: ds := by
  have e1 : numTextOf x = 120 :: ds := by
    have ha : x.cps.all (· < 128) = true := by
      rw [← Array.all_toList, hx, List.all_cons]
      simp only [Bool.and_eq_true, decide_eq_true_eq, List.all_eq_true]
      exact ⟨by decide, fun c hc => by have := hd c hc; lia⟩
    unfold numTextOf
    rw [if_pos ha, hx]
  refine ⟨e1, ?_⟩
  unfold numSeenOf
  rw [e1]
  have : ∀ l : List Nat, (∀ c ∈ l, c ≠ 0) → l.takeWhile (· != 0) = l := by
    intro l
    induction l with
    | nil => intro _; rfl
    | cons a l ih =>
      intro h
      rw [List.takeWhile_cons, ih fun c hc => h c (List.mem_cons_of_mem _ hc)]
      have : (a != 0) = true := bne_iff_ne.mpr (h a List.mem_cons_self)
      rw [this]; rfl
  refine this _ fun c hc => ?_
  rcases List.mem_cons.mp hc with rfl | hc
  · decide
  · have := hd c hc; lia
section
variable {prog : Program} {w : World} {A : Around} {E : Value → Shared → Prop} {s : Shared}
theorem C_intFromText {x : PySem.Str} {t : Tok} {text : List Nat} {Q : Value → Shared → Prop} (hs : (text.takeWhile (· != 0)).length ≤ 640)
    (hr : (int_private% "readNumeral") 0 10 (text.takeWhile (· != 0)) = int_private% "Numeral.invalid") (hh : A.handled = none) (hx : (reprText x).length ≤ 1000)
    (h : ∀ h' tk e, Heap.NewExc s.heap h' e "ValueError" → E (.ref e) { s with heap := h', toks := tk }) :
    wpC (model prog w) A ((int_private% "intFromText") (.str x t) text 10) Q E s := by
  refine C_ite_true hs ?_
  refine C_bind (C_pure ?_)
  dsimp only
  rw [hr]
  dsimp only
  refine C_bind (C_of_eq rfl ?_)
  refine C_ite_false (by show ¬ ((none : Option (Array UInt8)).isSome && _) = true; exact Bool.false_ne_true) ?_
  refine C_bind (C_rule ?_)
  refine C_bind (C_of_eq rfl ?_)
  dsimp only
  refine C_bind (C_any (wpAny_pyRepr_str ?_ (Nat.le_trans hx (by decide))))
  refine C_bind (C_any (wpAny_mkStr ?_ ?_))
  · refine C_bind (C_any ?_)
    unfold newExc newTuple
    refine wpAny_bind (wpAny_newObj_type ?_)
    refine wpAny_bind (m := firstArgMember _ _) (wpAny_of_eq (a := Value.none) (by simp only [firstArgMember, plainExc_ValueError.first]; rfl) ?_)
    rw [plainExc_ValueError.own]
    refine wpAny_newObj_type ?_
    refine C_bind (C_mark ?_)
    refine C_any (wpAny_raiseNew_none hh ?_)
    exact h _ _ _ ⟨fun b o hb => Heap.get?_push_of_some _ (Heap.get?_push_of_some _ hb), Heap.get?_none_of_le (by simp), _, .ref s.heap.objs.size, Heap.get?_push_size _ rfl, rfl, by simp⟩
  · have e1 : (Str.ofString (toString "invalid literal for int() with base " ++ toString 10 ++ toString ": ")).cps.size = 40 := by decide +kernel
    show ((Str.ofString (toString "invalid literal for int() with base " ++ toString 10 ++ toString ": ")).cps ++ (reprText x).cps.extract 0 200).size ≤ sizeLine
    rw [Array.size_append, e1, Array.size_extract]
    have : (reprText x).cps.size ≤ 1000 := hx
    have : (1040 : Nat) ≤ sizeLine := by decide
    lia
theorem C_int_new {x : PySem.Str} {t : Tok} {Q : Fin → Shared → Prop} (hs : (numSeenOf x).length ≤ 640)
    (hr : (int_private% "readNumeral") 0 10 (numSeenOf x) = int_private% "Numeral.invalid") (hh : A.handled = none) (hx : (reprText x).length ≤ 1000)
    (h : ∀ h' tk e, Heap.NewExc s.heap h' e "ValueError" → E (.ref e) { s with heap := h', toks := tk }) :
    wpC (model prog w) A (Builtin.«int.__new__» ⟨[.type "int", .str x t], []⟩) Q E s := by
  have f1 := F.conv_sub_int
  have f2 := F.madeHere_int
  have f3 := KIN.str_int
  have f4 := KIN.str_idx
  have f5 := KIN.str_trunc
  refine C_bind (C_of_eq (a := true) rfl ?_)
  refine C_ite_false (by decide) ?_
  refine C_bind (C_of_eq f1 ?_)
  refine C_ite_false (by decide) ?_
  refine C_bind (C_of_eq f2 ?_)
  refine C_ite_false (by exact Bool.false_ne_true) ?_
  refine C_ite_false (by show ¬ (1 + 0 > 2); decide) ?_
  refine C_bind (C_pure ?_)
  refine C_bind (m := (int_private% "intFromObject") (.str x t)) ?_
  have f6 : typeOf (.str x t) = pure (.type "str") := rfl
  obtain ⟨hp, g, d, tk, os⟩ := s
  refine C_bind (C_any ?_)
  repeat (first | with_reducible assumption | wp_step)
  dsimp only
  refine C_bind (C_any ?_)
  repeat (first | with_reducible assumption | wp_step)
  refine C_ite_false (by exact Bool.false_ne_true) ?_
  refine C_bind (C_any ?_)
  repeat (first | with_reducible assumption | wp_step)
  dsimp only
  refine C_bind (C_of_eq (a := some (numTextOf x)) ?_ ?_)
  · rfl
  exact C_intFromText hs hr hh hx h
theorem codeC_builtin {R : Result → Shared → Prop} {id : String} {args : Args} {b : Builtin} (hb : entryFor table id = some b)
    (h : wpC (model prog w) (A.under (.builtin id args)) (b args)
      (fun fin s' => match fin with | .done f => R (.ok f) s' | .again c' => c'.quiet = true ∧ codeC (model prog w) A c' R s') (fun e s' => R (.error e) s') s) :
    codeC (model prog w) A (.builtin id args) R s := by
  refine codeC_of_tree ?_
  show wpC _ _ (match entryFor table id with | some b => b args | none => unsupported ((withoutEnding? id "#data").getD id)) _ _ s
  rw [hb]; exact h
theorem codeC_call_builtin {R : Result → Shared → Prop} {id : String} {args : Args} {b : Builtin} (hq : plainId id = true) (hb : entryFor table id = some b) (hcn : checkBuiltinCall id args = pure ())
    (h : wpC (model prog w) A.in1 (b args)
      (fun fin s' => match fin with | .done f => R (.ok f) s' | .again c' => c'.quiet = true ∧ codeC (model prog w) A c' R s') (fun e s' => R (.error e) s') s) :
    codeC (model prog w) A (.call (.builtin id) args) R s := by
  refine codeC_of_tree ?_
  show wpC _ A.in1 (do checkBuiltinCall id args; again (.builtin id args)) _ _ s
  refine C_bind (C_of_eq hcn (C_pure ⟨plainId_quiet hq args, codeC_builtin hb ?_⟩))
  rw [Around.under_plainId hq args]; exact h
theorem C_call_int_bad {x : PySem.Str} {t : Tok} {Q : Value → Shared → Prop} (hs : (numSeenOf x).length ≤ 640)
    (hr : (int_private% "readNumeral") 0 10 (numSeenOf x) = int_private% "Numeral.invalid") (hh : A.handled = none) (hx : (reprText x).length ≤ 1000)
    (h : ∀ h' tk e, Heap.NewExc s.heap h' e "ValueError" → E (.ref e) { s with heap := h', toks := tk }) :
    wpC (model prog w) A (call (.type "int") [.str x t]) Q E s := by
  obtain ⟨c, tl, hmro⟩ := F.called_int.mro
  have hmade := F.called_int.made
  have hct := F.typeCall_int_1 (.str x t)
  refine C_call (codeC_of_tree ?_)
  show wpC _ _ (callAny (.type "int") _) _ _ _
  refine C_pure ⟨Code.quiet_builtin _ (by decide +kernel), codeC_builtin F.entry_type_call ?_⟩
  rw [Around.under_plain (weight_type_call_type "int" [.str x t] []) (units_type_call_type "int" [.str x t] [])]
  have h1 := F.called_int.notType
  have h2 := F.called_int.canCreate
  unfold Builtin.«type.__call__»
  dsimp only
  refine C_ite_false (by rw [h1]; exact Bool.false_ne_true) ?_
  refine C_ite_false (by rw [h2]; exact Bool.false_ne_true) ?_
  refine C_bind (C_of_eq hct ?_)
  refine C_bind (C_of_eq hmro ?_)
  refine C_ite_false (by exact Bool.false_ne_true) ?_
  refine C_bind (C_of_eq hmade ?_)
  dsimp only
  refine C_bind (C_pure ?_)
  refine C_bind (C_holding (C_call (codeC_call_builtin F.called_int.plain F.entry_int_new (F.newCall_int_1 _) ?_)))
  exact C_int_new hs hr hh hx h
end
end Mine
end

section
theorem Mine.fresh3 : True := by k_with_none; w_top off; trivial
open PySem PySem.W PyProof.Rows PyProof.V PySem.Calls
set_option maxRecDepth 100000
set_option maxHeartbeats 8000000
namespace Mine
open Sem (wp)
theorem ends_C {prog : Program} {w : World} {t : Sem PySem.Fin} {s : Shared} {R : Result → Shared → Prop} (hreg : s.asleep)
    (h : wpC (model prog w) callerA t (fun fin s' => ∃ f, fin = .done f ∧ (R (.ok f) s' ∧ leftWithCleanup s'.gens = false)) (fun e s' => R (.error e) s' ∧ leftWithCleanup s'.gens = false) s) :
    ∃ n r s' s'', runN (denote table) prog w n s ⟨t, .builtin "claim.caller" {}, default, []⟩ = .halted (outcomeOf r) s' ∧
      schedN (denote table) prog w n (.single s ⟨t, .builtin "claim.caller" {}, default, []⟩) = .halted (outcomeOf r) s' ∧ s'.forget = s''.forget ∧ R r s'' := by
  have hw : wp (model prog w) ⟨.builtin "claim.caller" {}, none, none, [], none⟩ t (Sem.finPost (model prog w) ⟨.builtin "claim.caller" {}, none, none, [], none⟩ fun r s' => R r s' ∧ leftWithCleanup s'.gens = false) (fun e _ s' => R (.error e) s' ∧ leftWithCleanup s'.gens = false) default s := by
    refine Sem.wp_mono _ _ t (fun fin p' s' h' => ?_) (fun _ _ _ h' => h') default s (h _ default caller_in (.inl rfl))
    obtain ⟨f, rfl, hf⟩ := h'
    exact hf
  obtain ⟨n, r, s₁, s₂, hs, hn, hfo, hR⟩ := wp_halts_full (M := model prog w) (R := R) hreg hw
  exact ⟨n, r, s₂, s₁, hn, hs, hfo, hR⟩
theorem callFrom_C {c : ClaimW} {tree : List Value → Sem PySem.Fin} {w : World} {s : Shared} {free : Addr → Prop} {gens : Prop} {kept : Heap → Prop} (hz : s.asleep) (hgens : s.gens = #[])
    (hspec : ∀ args, c.pre args = true → WData.layableAll args = true →
      ∀ ord : List DictEntry → List DictEntry, (∀ l, (ord l).Perm l) →
      ∃ vs s₁, layAllW c.records (classAt s.heap) w.params ord args s = some (vs, s₁) ∧
        wpC (model c.prog w) callerA (tree vs) (fun fin s' => ∃ f, fin = .done f ∧ (c.Ends s args vs s₁ (.ok f) s' ∧ s'.os = s.os ∧ AllBare s'.gens ∧ kept s'.heap))
          (fun e s' => c.Ends s args vs s₁ (.error e) s' ∧ s'.os = s.os ∧ AllBare s'.gens ∧ kept s'.heap) s₁) :
    c.CallFrom (fun vs => ⟨tree vs, .builtin "claim.caller" {}, default, []⟩) w free gens kept s := by
  intro args hpre hlay ord hord
  obtain ⟨vs, s₁, hlaid, hcode⟩ := hspec args hpre hlay ord hord
  have hal := layAllW_rest _ _ _ hlaid
  obtain ⟨k, r, s', s'', hrun, hsched, hfo, hcase, hos, hkp⟩ := ends_C (prog := c.prog) (w := w) (t := tree vs) (s := s₁)
    (R := fun r s' => c.Ends s args vs s₁ r s' ∧ s'.os = s.os ∧ kept s'.heap)
    (Shared.asleep_of_life hal.2.2.2 hz)
    (C_mono hcode (by
      rintro fin s' ⟨f, e, h1, h2, h3, h4⟩
      exact ⟨f, e, ⟨h1, h2, h4⟩, leftWithCleanup_false_of_bare h3⟩) (by
      rintro e s' ⟨h1, h2, h3, h4⟩
      exact ⟨⟨h1, h2, h4⟩, leftWithCleanup_false_of_bare h3⟩))
  obtain ⟨eh, _, _, eo, _⟩ := Shared.forget_eq hfo
  have hcase := ClaimW.Ends.congr eh hcase
  have hkp : kept s'.heap := by first | exact eh ▸ hkp | (rw [eh] at hkp; exact hkp) | (rw [← eh] at hkp; exact hkp)
  rw [← eo] at hos
  have hlife : s'.heap.life = s.heap.life := (runN_life _ _ _ hrun).trans hal.2.2.2
  refine ⟨vs, s₁, hlaid, k, _, s', hsched, ?_, (fun _ i x hx => by rw [hgens] at hx; simp at hx), hkp, by rw [hlife], Shared.rest_eq hos⟩
  rcases hcase with ⟨v, rfl, d1, d2, d3, d4, d5⟩ | ⟨e, ob, cls, rfl, d1, d2, d3, d4, d5⟩
  · exact .inl ⟨v, rfl, d1, d2, d3, fun b o y _ => d4 b o y, d5⟩
  · exact .inr ⟨e, ob, cls, rfl, d1, d2, d3, d4, fun b o y _ => d5 b o y⟩
/-- what is to be walked: the call of the law, the claim's caller below -/
abbrev WalkC (q : Program) (loose : List PySem.Str) (XP : (PySem.Str → Option Value) → Heap → Prop) (YP : World → Heap → Prop) (r : RowW) (d : DefRec) (kwd : List (PySem.Str × Expr)) : Prop :=
  ∀ (w : World) (s₀ s₁ : Shared) (mg mb : PySem.Str → Option Value), Ground q loose r.records XP w s₀ mg mb s₁.heap → YP w s₁.heap → ∀ (a : Addr) (o : Obj) (pm cd doc dV kV : Value), s₁.heap.get? a = some o →
    o.data = .func { docDef d.name d.params d.body d.scope pm cd doc with defaults := dV, kwdefaults := kV } → s₁.heap.CodeRec cd d.name → Dflts mg s₁.heap d.params kwd dV kV → mg d.name = some (.ref a) → s₁.gens = #[] →
    ∀ (args : List WData) (vals : List Value) (as : List Addr), r.claim.pre args = true → WData.layableAll args = true → ReadsAllW r.records (classAt s₀.heap) s₁.heap vals args as → WellAll w.params s₁.heap vals args → (∀ a ∈ as, (a == sysModules) = false) →
      wpC (model r.prog w) callerA (PySem.call (.ref a) vals) (fun v s' => GoodWG r.claim (classAt s₀.heap) (ExcName.means s₀.heap) args s₁ (.ok (.ret v)) s')
        (fun e s' => GoodWG r.claim (classAt s₀.heap) (ExcName.means s₀.heap) args s₁ (.error e) s') s₁
theorem PySem.W.holds_open {r : OpenRow} {q : Program} {loose : List PySem.Str} {Xt : Shared → Bool} {XP : (PySem.Str → Option Value) → Heap → Prop} {α : Type} {Yf : Shared → α} {Ya : World → α} {YP : World → Heap → Prop} {d : DefRec} {kwd : List (PySem.Str × Expr)} {N : Nat}
    (left : LeftO r.prog q loose Xt Yf Ya N) (hY : ∀ w s, Yf s = Ya w → YP w s.heap) (hYk : ∀ w h h', YP w h → (∀ b o, h.get? b = some o → h'.get? b = some o) → YP w h')
    (hX : ∀ s, Xt s = true → XP (s.heap.nsMap mainGlobals) s.heap) (hXk : ∀ mg h h', XP mg h → (∀ b o, h.get? b = some o → h'.get? b = some o) → XP mg h')
    (hdef : defOf q r.name = some (d, kwd)) (hp : r.prog.theDef r.name = some (d.params, d.body, d.scope)) (hk : kwWritten? d.params.kwonlyargs d.params.kw_defaults = some kwd) (hRf : ∀ s, Xt s = true → RecFacts r.records s.heap) (hwr : (!r.writes || r.records.isEmpty) = true)
    (k1 : r.wellSaid = true) (ok : (chainsOk q && opensWell r.prog && (frees r.toRowW && r.within.isEmpty)) = true) (hb : r.prog.bare) (hw : r.toRowW.promised)
    (call : WalkC q loose XP YP r.toRowW d kwd) : r.Holds := by
  refine ⟨k1, hw, ?_⟩
  obtain ⟨ok, k5⟩ := Bool.and_eq_true_iff.mp ok
  obtain ⟨hch, o1⟩ := Bool.and_eq_true_iff.mp ok
  obtain ⟨k5, k6⟩ := Bool.and_eq_true_iff.mp k5
  obtain ⟨hsame, hu, ha, hap, hm⟩ := frees_parts k5
  refine ⟨⟨hb, o1, by show r.makers.map _ = []; rw [hm]; rfl⟩, hw.witness, fun w => ⟨(left.behind hX hch w).1, fun s' hs' => ?_⟩⟩
  obtain ⟨s₀, hf, hg0, s, hT, hz, hgens, hg, G00, y⟩ := (left.behind (XP := fun mg h => XP mg h ∧ RecFacts r.records h) (fun s hs => ⟨hX s hs, hRf s hs⟩) hch w).2 s' hs'
  have G0 : Ground q loose [] XP w s (s.heap.nsMap mainGlobals) (s.heap.nsMap builtinsNs) s.heap := ⟨G00.T, G00.B, G00.D, G00.TE, G00.TD, G00.W, G00.X.1, G00.cls, G00.has, G00.apart, G00.once, G00.K⟩
  have RF := G00.X.2
  have hT' := hT
  refine ⟨s₀, hf, hg0, s, hT, fun n hn => ?_, RF.1, RF.2.1, ?_⟩
  · obtain rfl : n = r.name := by split at hn <;> simp_all
    exact pinned_of_view hg G0 hdef hp hk
  have hgens : s.gens = #[] := Array.eq_empty_of_size_eq_zero (beq_iff_eq.mp hgens)
  have G : Ground q loose r.records XP w s _ _ s.heap := RF.ground G0
  refine callFrom_C (c := r.claim) hz hgens fun args hpre hlay ord hord => ?_
  obtain ⟨⟨vs, s₁⟩, hlaid⟩ := Option.isSome_iff_exists.mp (layAllW_isSome (P := w.params) (ord := ord) G.has args r.args s (pre_splitW hpre).1)
  have keeps := layAllW_keeps _ _ _ hlaid
  have hal := layAllW_rest _ _ _ hlaid
  obtain ⟨as, hrd, hin, hold⟩ := reads_layAllW hord _ _ _ hlaid hlay s₁.heap (fun _ _ e => e)
  have L : Laid r.records w s s₁ args vs as := ⟨⟨ord, hord, hlaid⟩, hrd, hin, hold, keeps, hal.1.trans hgens, hal.2.2.1⟩
  have G₁ := G.keeps hXk keeps
  obtain ⟨a, o, pm, cd, doc, dV, kV, h1, h2, h3, h4, h5⟩ := G₁.fn hdef
  have h := call w s s₁ _ _ G₁ (hYk _ _ _ (hY w s y) keeps) a o pm cd doc dV kV h2 h3 h4 h5 (defOf_name hdef ▸ h1) L.gens args vs as hpre hlay L.reads L.well (L.low G.low)
  have hi := ident_freeW hu ha hap
  have hwi : r.claim.within = [] := List.isEmpty_iff.mp k6
  refine ⟨vs, s₁, hlaid, C_bind (C_any (wpAny_nsGet G₁.T.g ?_))⟩
  rw [h1]
  refine C_bind (C_mono h (fun v s' g => C_pure ?_) fun e s' g => ?_)
  · exact ⟨_, rfl, have z := g.laid (c := r.claim) hsame hwi hi L; ⟨z.1, z.2.1, z.2.2, fun q => ⟨namesKept_of hT' hg _ keeps g.2.1.old, noTable hwr q⟩⟩⟩
  · exact (have z := g.laid (c := r.claim) hsame hwi hi L; ⟨z.1, z.2.1, z.2.2, fun q => ⟨namesKept_of hT' hg _ keeps g.2.1.old, noTable hwr q⟩⟩)
end Mine
end

section
theorem Mine.fresh4 : True := by k_with_none; w_top off; trivial
open PySem PySem.W PyProof.Rows
set_option maxRecDepth 100000
set_option maxHeartbeats 8000000
namespace Mine
open_top hd for PySem.Challenge.rw_zd0004_01
end Mine
end

section
theorem Mine.fresh5 : True := by k_with_none; w_top off; trivial
open PySem PySem.W PyProof.Rows PyProof.V
set_option maxRecDepth 100000
set_option maxHeartbeats 8000000
namespace Mine
/-- what the call hands on -/
def DoesRet (h₀ : Heap) (L : Addr) (m : Str → Option Value) (s : Shared) (Post : Value → List (Addr × Obj) → Prop) (Q : Value → Shared → Prop) : Prop :=
  ∀ v news' h' tk', Fr h₀ L h' m → News h₀ L h' news' → Post v news' → Q v { s with heap := h', toks := tk' }
theorem doesRet {h₀ : Heap} {L : Addr} {m : Str → Option Value} {s : Shared} {Post : Value → List (Addr × Obj) → Prop} {Q : Value → Shared → Prop} (R : DoesRet h₀ L m s Post Q) {v : Value} {news' : List (Addr × Obj)} {h' : Heap} {tk' : Nat}
    (F : Fr h₀ L h' m) (N : News h₀ L h' news') (P : Post v news') : Q v { s with heap := h', toks := tk' } := R v news' h' tk' F N P
/-- what a call of the text's def at f, on these arguments, with this ledger, comes to; the depth it needs: k frames -/
def Does (w : World) (f : Addr) (k : Nat) (news : List (Addr × Obj)) (vs : List Value) (Post : Value → List (Addr × Obj) → Prop) : Prop :=
  ∀ (dp un : Nat) (gd : Option (List Code)) (cn : Str) (cs : Scope) (a : Addr) (ccd : Value) (cl : List (Str × Addr)) (outer : List Env) (A₀ : Around) (base h₀ : Heap) (L : Addr) (m : Str → Option Value) (s : Shared)
    (mean : ExcName → Option Value) (mg mb : Str → Option Value) (Q E : Value → Shared → Prop),
    Below A₀ base outer h₀ → Fr h₀ L s.heap m → (hd.heap_39 w.params).In h₀ → News h₀ L s.heap news → Top hd.view_39 (looseW hd.view_39 []) mean mg mb h₀ → cs.kind = .function → dp + k < recursionLimit → un + 8 * k < cLine →
    DoesRet h₀ L m s Post Q →
    wpAny (model PySem.Challenge.rw_zd0004_01.row.prog w) (ktrTop dp un gd cn cs L a ccd cl outer) (call (.ref f) vs) Q E s
/-- an object that is a dict of ints, its pairs c in their order -/
def Tab (w : World) (o : Obj) (c : List (Int × Int)) : Prop := ∃ kvs : List (Int × Value), o.IsDictOf (PySem.intKind PySem.Challenge.rw_zd0004_01.row.prog w) kvs ∧ FlatPairs PyData.int kvs (kdfD c)
theorem c_ge (w : World) (news : List (Addr × Obj)) (x y : Int) (tx ty : Tok) : Does w 72 1 news [.int x tx, .int y ty] (fun v n' => v = .bool (decide (x ≥ y)) ∧ n' = news) := by
  k_with_none
  k_with "does_open" => ((unfold Does; k_fill; intro dp_doesopen un_doesopen gd_doesopen cn_doesopen cs_doesopen a_doesopen ccd_doesopen cl_doesopen outer_doesopen A0_doesopen base_doesopen h0_doesopen L_doesopen m_doesopen s_doesopen mean_doesopen mg_doesopen mb_doesopen Q_doesopen E_doesopen B_doesopen F_doesopen X_doesopen N_doesopen T_doesopen hk_doesopen hdp_doesopen hun_doesopen hret_doesopen; refine wpAny_call ?_; k_dflt cell_enter))
  walk_at "does_open"
  k_steps
  all_goals (refine doesRet (by assumption) (by k_asm) (by k_asm) ?_; exact ⟨rfl, rfl⟩)
theorem c_isub (w : World) (news : List (Addr × Obj)) (x y : Int) (tx ty : Tok) : Does w 107 1 news [.int x tx, .int y ty] (fun v n' => (∃ t, v = .int (x - y) t) ∧ n' = news) := by
  k_with_none
  k_with "does_open" => ((unfold Does; k_fill; intro dp_doesopen un_doesopen gd_doesopen cn_doesopen cs_doesopen a_doesopen ccd_doesopen cl_doesopen outer_doesopen A0_doesopen base_doesopen h0_doesopen L_doesopen m_doesopen s_doesopen mean_doesopen mg_doesopen mb_doesopen Q_doesopen E_doesopen B_doesopen F_doesopen X_doesopen N_doesopen T_doesopen hk_doesopen hdp_doesopen hun_doesopen hret_doesopen; refine wpAny_call ?_; k_dflt cell_enter))
  walk_at "does_open"
  k_steps
  all_goals (refine doesRet (by assumption) (by k_asm) (by k_asm) ?_; exact ⟨⟨_, rfl⟩, rfl⟩)
theorem c_iadd (w : World) (news : List (Addr × Obj)) (x y : Int) (tx ty : Tok) : Does w 100 1 news [.int x tx, .int y ty] (fun v n' => (∃ t, v = .int (x + y) t) ∧ n' = news) := by
  k_with_none
  k_with "does_open" => ((unfold Does; k_fill; intro dp_doesopen un_doesopen gd_doesopen cn_doesopen cs_doesopen a_doesopen ccd_doesopen cl_doesopen outer_doesopen A0_doesopen base_doesopen h0_doesopen L_doesopen m_doesopen s_doesopen mean_doesopen mg_doesopen mb_doesopen Q_doesopen E_doesopen B_doesopen F_doesopen X_doesopen N_doesopen T_doesopen hk_doesopen hdp_doesopen hun_doesopen hret_doesopen; refine wpAny_call ?_; k_dflt cell_enter))
  walk_at "does_open"
  k_steps
  all_goals (refine doesRet (by assumption) (by k_asm) (by k_asm) ?_; exact ⟨⟨_, rfl⟩, rfl⟩)
theorem c_getitem (w : World) (news : List (Addr × Obj)) (d : Addr) (o : Obj) (c : List (Int × Int)) (k : Int) (tk : Tok) (hm : (d, o) ∈ news) (hs : (d == sysModules) = false) (ht : Tab w o c) (hh : kdfHas c k = true) :
    Does w 86 1 news [.ref d, .int k tk] (fun v n' => (∃ t, v = .int (kdfLook c k 0) t) ∧ n' = news) := by
  k_with_none
  k_with "does_open" => ((unfold Does; k_fill; intro dp_doesopen un_doesopen gd_doesopen cn_doesopen cs_doesopen a_doesopen ccd_doesopen cl_doesopen outer_doesopen A0_doesopen base_doesopen h0_doesopen L_doesopen m_doesopen s_doesopen mean_doesopen mg_doesopen mb_doesopen Q_doesopen E_doesopen B_doesopen F_doesopen X_doesopen N_doesopen T_doesopen hk_doesopen hdp_doesopen hun_doesopen hret_doesopen; refine wpAny_call ?_; k_dflt cell_enter))
  obtain ⟨kvs, ht1, ht2⟩ := ht
  walk_at "does_open"
  k_with "subscriptTail" => (refine kdf_item (TabAt.ofNews (by k_asm) hm hs ht1 ht2) hh ?_; intro _)
  k_steps
  all_goals (refine doesRet (by assumption) (by k_asm) (by k_asm) ?_; exact ⟨⟨_, rfl⟩, rfl⟩)
theorem c_contains (w : World) (news : List (Addr × Obj)) (d : Addr) (o : Obj) (c : List (Int × Int)) (k : Int) (tk : Tok) (hm : (d, o) ∈ news) (hs : (d == sysModules) = false) (ht : Tab w o c) :
    Does w 79 1 news [.ref d, .int k tk] (fun v n' => v = .bool (kdfHas c k) ∧ n' = news) := by
  k_with_none
  k_with "does_open" => ((unfold Does; k_fill; intro dp_doesopen un_doesopen gd_doesopen cn_doesopen cs_doesopen a_doesopen ccd_doesopen cl_doesopen outer_doesopen A0_doesopen base_doesopen h0_doesopen L_doesopen m_doesopen s_doesopen mean_doesopen mg_doesopen mb_doesopen Q_doesopen E_doesopen B_doesopen F_doesopen X_doesopen N_doesopen T_doesopen hk_doesopen hdp_doesopen hun_doesopen hret_doesopen; refine wpAny_call ?_; k_dflt cell_enter))
  obtain ⟨kvs, ht1, ht2⟩ := ht
  walk_at "does_open"
  k_with "compareOp In" => (refine kdf_in (TabAt.ofNews (by k_asm) hm hs ht1 ht2) ?_)
  k_steps
  all_goals (refine doesRet (by assumption) (by k_asm) (by k_asm) ?_; exact ⟨rfl, rfl⟩)
theorem c_setitem (w : World) (news : List (Addr × Obj)) (u : Obj → List (Addr × Obj)) (d : Addr) (o : Obj) (c : List (Int × Int)) (k x : Int) (tk tx : Tok) (U : UpdF d o news u) (ht : Tab w o c) (hc : c.length ≤ 16777216) :
    Does w 93 1 news [.ref d, .int k tk, .int x tx] (fun v n' => v = .none ∧ ∃ o', Tab w o' (kdfPut c k x) ∧ n' = u o') := by
  k_with_none
  k_with "does_open" => ((unfold Does; k_fill; intro dp_doesopen un_doesopen gd_doesopen cn_doesopen cs_doesopen a_doesopen ccd_doesopen cl_doesopen outer_doesopen A0_doesopen base_doesopen h0_doesopen L_doesopen m_doesopen s_doesopen mean_doesopen mg_doesopen mb_doesopen Q_doesopen E_doesopen B_doesopen F_doesopen X_doesopen N_doesopen T_doesopen hk_doesopen hdp_doesopen hun_doesopen hret_doesopen; refine wpAny_call ?_; k_dflt cell_enter))
  obtain ⟨kvs, ht1, ht2⟩ := ht
  walk_at "does_open"
  k_with "setItem ref int" => (refine kdf_setItem (by k_asm) (by k_asm) (by assumption) (by assumption) (by assumption) (by assumption) ?_; intro h' o' kvs' F' N' hd' hf')
  k_steps
  all_goals (refine doesRet (by assumption) (by k_asm) (by k_asm) ?_; exact ⟨rfl, _, ⟨_, by assumption, by assumption⟩, rfl⟩)
/-- a call by what is shown of it -/
theorem does_use {w : World} {f : Addr} {k : Nat} {news : List (Addr × Obj)} {vs : List Value} {Post : Value → List (Addr × Obj) → Prop} (D : Does w f k news vs Post)
    {dp un : Nat} {gd : Option (List Code)} {cn : Str} {cs : Scope} {a : Addr} {ccd : Value} {cl : List (Str × Addr)} {outer : List Env} {A₀ : Around} {base h₀ : Heap} {L : Addr} {m : Str → Option Value} {s : Shared}
    {mean : ExcName → Option Value} {mg mb : Str → Option Value} {Q E : Value → Shared → Prop}
    (B : Below A₀ base outer h₀) (F : Fr h₀ L s.heap m) (X : (hd.heap_39 w.params).In h₀) (N : News h₀ L s.heap news) (T : Top hd.view_39 (looseW hd.view_39 []) mean mg mb h₀) (hk : cs.kind = .function) (hd : dp + k < recursionLimit) (hu : un + 8 * k < cLine)
    (ret : ∀ v news' h' tk', Fr h₀ L h' m → News h₀ L h' news' → Post v news' → Q v { s with heap := h', toks := tk' }) :
    wpAny (model PySem.Challenge.rw_zd0004_01.row.prog w) (ktrTop dp un gd cn cs L a ccd cl outer) (call (.ref f) vs) Q E s :=
  D _ _ _ _ _ _ _ _ _ _ _ _ _ _ _ _ _ _ _ _ B F X N T hk hd hu ret
end Mine
end

section
theorem Mine.fresh6 : True := by k_with_none; w_top off; trivial
open PySem PySem.W PyProof.Rows PyProof.V
set_option maxRecDepth 100000
set_option maxHeartbeats 8000000
namespace Mine
theorem mod_key {st k n : Int} (h1 : 1 ≤ n) : 1 ≤ Int.fmod (st + k) n + 1 ∧ Int.fmod (st + k) n + 1 ≤ n := by
  rw [Int.fmod_eq_emod_of_nonneg _ (by lia)]
  have := Int.emod_nonneg (st + k) (show n ≠ 0 by lia)
  have := Int.emod_lt_of_pos (st + k) (show 0 < n by lia)
  lia
theorem small_n {n : Int} (h1 : 1 ≤ n) (h2 : n ≤ 5) : Builtin.Range.small 0 n 1 = true := by
  obtain rfl | rfl | rfl | rfl | rfl : n = 1 ∨ n = 2 ∨ n = 3 ∨ n = 4 ∨ n = 5 := by lia
  all_goals decide
theorem size_n {n : Int} (h1 : 1 ≤ n) : Builtin.Range.rangeSize 0 n 1 = (n.toNat : Int) := by
  rw [Builtin.Range.rangeSize]
  simp
  lia
theorem first_all {c : List (Int × Int)} {st n : Int} (h1 : 1 ≤ n) (hP : ∀ j ∈ rangeKs 0 n.toNat, kdfLook c (Int.fmod (st + j) n + 1) 0 < 1000) : ∀ k, 1 ≤ k → k ≤ n → kdfLook c k 0 < 1000 := by
  intro k k1 k2
  have p1 := Int.emod_nonneg (k - 1 - st) (show n ≠ 0 by lia)
  have p2 := Int.emod_lt_of_pos (k - 1 - st) (show 0 < n by lia)
  have hj : (k - 1 - st) % n ∈ rangeKs 0 n.toNat := by
    unfold rangeKs
    refine List.mem_map.mpr ⟨((k - 1 - st) % n).toNat, List.mem_range.mpr (by lia), by lia⟩
  have h := hP _ hj
  rw [Int.fmod_eq_emod_of_nonneg _ (by lia)] at h
  have e : (st + (k - 1 - st) % n) % n = k - 1 := by
    rw [Int.add_emod, Int.emod_emod_of_dvd _ (Int.dvd_refl n), ← Int.add_emod]
    rw [show st + (k - 1 - st) = k - 1 by lia]
    exact Int.emod_eq_of_lt (by lia) (by lia)
  rw [e] at h
  rw [show k - 1 + 1 = k by lia] at h
  exact h
theorem c_first (w : World) (news : List (Addr × Obj)) (d : Addr) (o : Obj) (c : List (Int × Int)) (n st : Int) (tn ts : Tok) (hm : (d, o) ∈ news) (hs : (d == sysModules) = false) (ht : Tab w o c) (h1 : 1 ≤ n) (h2 : n ≤ 5)
    (hh : ∀ k, 1 ≤ k → k ≤ n → kdfHas c k = true) :
    Does w 140 2 news [.ref d, .int n tn, .int st ts] (fun v n' => (∃ r t, v = .int r t ∧ ((1 ≤ r ∧ r ≤ n ∧ 1000 ≤ kdfLook c r 0) ∨ (r = 0 ∧ ∀ k, 1 ≤ k → k ≤ n → kdfLook c k 0 < 1000))) ∧ n' = news) := by
  k_with_none
  k_with "does_open" => ((unfold Does; k_fill; intro dp_doesopen un_doesopen gd_doesopen cn_doesopen cs_doesopen a_doesopen ccd_doesopen cl_doesopen outer_doesopen A0_doesopen base_doesopen h0_doesopen L_doesopen m_doesopen s_doesopen mean_doesopen mg_doesopen mb_doesopen Q_doesopen E_doesopen B_doesopen F_doesopen X_doesopen N_doesopen T_doesopen hk_doesopen hdp_doesopen hun_doesopen hret_doesopen; refine wpAny_call ?_; k_dflt cell_enter))
  k_with "does_sides" => (((case dB => k_asm); (case dF => k_asm); (case dX => k_asm); (case dN => k_asm); (case dT => k_asm); (case dK => first | exact rfl | assumption); (case dD => ktr_room); (case dU => ktr_units)))
  walk_at "does_open"
  k_with "pyIter ref" => (with_unfolding_all refine kst_range (σ := Unit) (n := n.toNat) (fun _ => news) (fun _ => []) (fun _ => True) [Str.ofString "heap"] (fun pre _ => ∀ j ∈ pre, kdfLook c (Int.fmod (st + j) n + 1) 0 < 1000) () rfl (by assumption) ?small ?size (by k_asm) (by k_asm) trivial (fun _ h => nomatch h) (fun _ h => nomatch h) (fun _ pre k t u h tk own hk hlen hoff _ hP F' N' => ?turn) (fun _ u h tk _ hP F' N' => ?done))
  k_with "call ref" => (with_unfolding_all refine' does_use (c_ge w _ _ _ _ _) ?dB ?dF ?dX ?dN ?dT ?dK ?dD ?dU ?_; (walk_at "does_sides"); rintro v' n' h' tk' F' N' ⟨rfl, rfl⟩; (try dsimp only); (try k_fold))
  k_with "call ref" => (with_unfolding_all refine' does_use (c_getitem w _ d o c _ _ (List.mem_append_left _ hm) hs ht (hh _ (mod_key h1).1 (mod_key h1).2)) ?dB ?dF ?dX ?dN ?dT ?dK ?dD ?dU ?_; (walk_at "does_sides"); rintro v' n' h' tk' F' N' ⟨⟨t', rfl⟩, rfl⟩; (try dsimp only); (try k_fold))
  k_steps
  case small => exact small_n h1 h2
  case size => exact size_n h1
  all_goals first
    | (refine doesRet (news' := news) (by assumption) (by k_asm) (by first | k_asm | exact cb_drop (by assumption) (fun p hp => List.mem_append_left _ hp)) ?_; refine ⟨⟨_, _, rfl, ?_⟩, rfl⟩; first | exact Or.inl ⟨(mod_key h1).1, (mod_key h1).2, by lia⟩ | exact Or.inr ⟨rfl, first_all h1 (by assumption)⟩)
    | (refine kst_end () (by k_asm) (by k_asm) (fun p hp => List.mem_append_left _ hp) (fun p hp => List.mem_append_right _ hp) rfl trivial (fun _ h => nomatch h) ?_ ?_)
  · intro z z1 _ z3
    have z4 : z ≠ Str.ofString "heap" := by
      intro e
      rw [e] at z3
      revert z3
      decide
    show (if z = Str.ofString "heap" then _ else if z = Str.ofString "step" then _ else kstB _ [] z) = _
    rw [if_neg z4, if_neg z1]
    show (if _ then _ else _) = _
    rw [z3]
    rfl
  · intro j hj
    rcases List.mem_append.mp hj with hj | hj
    · exact hP j hj
    · rw [List.mem_singleton.mp hj]
      lia
end Mine
end

section
theorem Mine.fresh7 : True := by k_with_none; w_top off; trivial
open PySem PySem.W PyProof.Rows PyProof.V PySem.Calls
set_option maxRecDepth 100000
set_option maxHeartbeats 8000000
namespace Mine
section
variable {prog : Program} {w : World} {A : Around} {E : Value → Shared → Prop} {s : Shared} {knd : KeyKind prog w Int}
/-- the next value of a dict's values, asked by a builtin -/
theorem vi_item {it d : Addr} {i ep : Nat} {kvs : List (Int × Value)} {k : Int} {v : Value} {Q : Option Value → Shared → Prop} (hit : s.heap.IsValIter it d i kvs.length ep)
    (hm : s.heap.DictAt knd d kvs ep) (hx : kvs[i]? = some (k, v))
    (hQ : ∀ h', h'.IsValIter it d (i + 1) kvs.length ep → Heap.SameBut it s.heap h' → Q (some v) { s with heap := h' }) :
    wpAny (model prog w) A (callSpecial? (.ref it) (Str.ofString "__next__")) Q E s := by
  obtain ⟨o, ho, hc, hd⟩ := id hit
  obtain ⟨od, es, hod, hcd, hdd, hk, hp, hn⟩ := id hm
  have hsz : es.size = kvs.length := by rw [← hp.length]; simp
  have hown : Builtin.Dict_items.ownsTuple "dict_valueiterator" = false := by decide
  have hlt : i < kvs.length := (List.getElem?_eq_some_iff.mp hx).1
  have hlt' : i < es.size := by lia
  have hval : es[i].val = v := (hp.get? (e := es[i]) (by simp [hlt']) hx).2
  refine wpAny_callSpecial?_slot (name := Str.ofString "__next__") hit.typeIs F.slot_dict_valueiterator_next
    (wpAny_call_entry F.slot_dict_valueiterator_next hit.typeIs F.entry_dict_valueiterator_next ?_ (F.args_dict_valueiterator_next_1 _))
  refine wpAny_bind (wpAny_pure (wpAny_bind (wpAny_bind ?_)))
  refine wpAny_bind (wpAny_typeNameOfWhole_valiter hit.typeIs (wpAny_pure ?_))
  refine wpAny_bind (wpAny_fieldsOf ho hd ?_)
  rw [hown, if_neg Bool.false_ne_true]
  show wpAny _ _ (if (Value.ref d == Value.none) = true then _ else _) _ _ s
  rw [if_neg (show ¬ ((Value.ref d == Value.none) = true) from Bool.false_ne_true)]
  refine wpAny_bind (wpAny_pure (wpAny_bind (wpAny_dictEntries hod hdd ?_)))
  rw [if_neg (by rw [hsz]; simp)]
  refine wpAny_bind (wpAny_pure (wpAny_bind (wpAny_dictEpoch hod hdd ?_)))
  rw [if_neg (by simp)]
  refine wpAny_pure ?_
  dsimp only
  rw [if_neg (show ¬ ((i : Int) < 0) from by lia), Int.toNat_natCast, Array.getElem?_eq_getElem hlt']
  refine wpAny_bind (wpAny_bind (wpAny_typeNameOfWhole_valiter hit.typeIs (wpAny_pure ?_)))
  refine wpAny_bind (wpAny_isOneOf_valiter hit.typeIs ?_)
  show wpAny _ _ (setField (.ref it) 1 (rawInt ((i : Int) + 1)) >>= _) _ _ s
  refine wpAny_bind (wpAny_setField ho hd (by simp) ?_)
  have hit' : (s.heap.update it (Obj.mapFields (·.setIfInBounds 1 (rawInt ((i : Int) + 1))))).IsValIter it d (i + 1) kvs.length ep :=
    ⟨_, Heap.get?_update_self _ ho (Obj.isFreed_of_fields (Obj.data_mapFields hd _)), (Obj.cls_mapFields ..).trans hc, by rw [Obj.data_mapFields hd]; simp [rawInt]⟩
  refine wpAny_bind (wpAny_holding ?_)
  refine wpAny_bind (wpAny_isOneOf_valiter (s := { s with heap := s.heap.update it (Obj.mapFields (·.setIfInBounds 1 (rawInt ((i : Int) + 1)))) }) hit'.typeIs ?_)
  refine wpAny_bind (wpAny_isOneOf_valiter (s := { s with heap := s.heap.update it (Obj.mapFields (·.setIfInBounds 1 (rawInt ((i : Int) + 1)))) }) hit'.typeIs ?_)
  show wpAny _ _ (pure es[i].val) _ _ _
  exact wpAny_pure (wpAny_pure ⟨_, rfl, hval ▸ hQ _ hit' (Heap.SameBut.update ..)⟩)
/-- no more values -/
theorem vi_end {it d : Addr} {i ep : Nat} {kvs : List (Int × Value)} {Q : Option Value → Shared → Prop} (hh : A.handled = none) (hit : s.heap.IsValIter it d i kvs.length ep)
    (hm : s.heap.DictAt knd d kvs ep) (hx : kvs[i]? = none)
    (hE : ∀ h' e, Heap.ExtBut it s.heap h' → (∃ o, h'.get? e = some o ∧ o.cls = .type "StopIteration") → E (.ref e) { s with heap := h' }) :
    wpAny (model prog w) A (callSpecial? (.ref it) (Str.ofString "__next__")) Q E s := by
  obtain ⟨o, ho, hc, hd⟩ := id hit
  obtain ⟨od, es, hod, hcd, hdd, hk, hp, hn⟩ := id hm
  have hsz : es.size = kvs.length := by rw [← hp.length]; simp
  have hown : Builtin.Dict_items.ownsTuple "dict_valueiterator" = false := by decide
  have hge : es.size ≤ i := by rw [hsz]; simpa using hx
  refine wpAny_callSpecial?_slot (name := Str.ofString "__next__") hit.typeIs F.slot_dict_valueiterator_next
    (wpAny_call_entry F.slot_dict_valueiterator_next hit.typeIs F.entry_dict_valueiterator_next ?_ (F.args_dict_valueiterator_next_1 _))
  refine wpAny_bind (wpAny_pure (wpAny_bind (wpAny_bind ?_)))
  refine wpAny_bind (wpAny_typeNameOfWhole_valiter hit.typeIs (wpAny_pure ?_))
  refine wpAny_bind (wpAny_fieldsOf ho hd ?_)
  rw [hown, if_neg Bool.false_ne_true]
  show wpAny _ _ (if (Value.ref d == Value.none) = true then _ else _) _ _ s
  rw [if_neg (show ¬ ((Value.ref d == Value.none) = true) from Bool.false_ne_true)]
  refine wpAny_bind (wpAny_pure (wpAny_bind (wpAny_dictEntries hod hdd ?_)))
  rw [if_neg (by rw [hsz]; simp)]
  refine wpAny_bind (wpAny_pure (wpAny_bind (wpAny_dictEpoch hod hdd ?_)))
  rw [if_neg (by simp)]
  refine wpAny_pure ?_
  dsimp only
  rw [if_neg (show ¬ ((i : Int) < 0) from by lia), Int.toNat_natCast, Array.getElem?_eq_none hge]
  refine wpAny_bind (wpAny_bind (wpAny_typeNameOfWhole_valiter hit.typeIs (wpAny_pure ?_)))
  show wpAny _ _ (setField (.ref it) 0 .none >>= _) _ _ s
  refine wpAny_bind (wpAny_setField ho hd (by simp) ?_)
  show wpAny _ _ (newExc (.type "StopIteration") [] >>= _) _ _ _
  refine wpAny_bind ?_
  simp only [newExc, newTuple]
  refine wpAny_bind (wpAny_newObj_type ?_ (by size_fits))
  refine wpAny_bind (m := firstArgMember _ _) (wpAny_of_eq (a := Value.none) (by first | rfl | (simp only [firstArgMember]; rfl)) ?_)
  refine wpAny_newObj_type ?_ (by size_fits)
  unfold raiseNew
  refine wpAny_bind (wpAny_handled ?_)
  rw [show A.in1.handled = none from hh]
  exact wpAny_bind (wpAny_pure (wpAny_throw (hE _ _ (((Heap.SameBut.update ..).extBut.push _).push _) ⟨_, Heap.get?_push_size _ rfl, rfl⟩)))
theorem f_entry_new : entryFor table "filter.__new__" = some Builtin.«filter.__new__» := entryFor_of_tree (by kernel_rfl)
theorem f_entry_next : entryFor table "filter.__next__" = some Builtin.«filter.__next__» := entryFor_of_tree (by kernel_rfl)
theorem f_plain_next : plainId "filter.__next__" = true := by decide +kernel
theorem f_slot_next : Slot "filter" "__next__" "filter.__next__" :=
  .of (owner := "filter") (n := "__next__") (by rw [typeLookup_type, builtinLookup_eq_fast]; kernel_rfl) (by decide +kernel) (by decide +kernel) (by decide +kernel)
    (by first | exact .inl (by decide +kernel) | exact .inr (by decide +kernel)) (by rw [isSubtype_type]; kernel_rfl)
def StopAt (h : Heap) (e : Addr) : Prop := ∃ o, h.get? e = some o ∧ o.cls = .type "StopIteration"
/-- the values' ints -/
def Vals (kvs : List (Int × Value)) (ns : List Int) : Prop := kvs.length = ns.length ∧ ∀ (i : Nat) (k : Int) (v : Value), kvs[i]? = some (k, v) → ∃ t : Tok, v = Value.int (ns[i]?.getD 0) t
theorem flt_tree {fl it d : Addr} {ep : Nat} {kvs : List (Int × Value)} {ns : List Int} {ofl : Obj} {R : Result → Shared → Prop} (hh : A.handled = none) (hne : fl ≠ it) (hdi : d ≠ it) (hv : Vals kvs ns) (hd : ofl.data = .fields #[.none, .ref it]) :
    ∀ (r i : Nat) (h : Heap), kvs.length - i = r → i ≤ kvs.length → h.get? fl = some ofl → h.IsValIter it d i kvs.length ep → h.DictAt knd d kvs ep →
    (∀ j t h', i ≤ j → j < ns.length → (∀ j', i ≤ j' → j' < j → ns[j']?.getD 0 = 0) → ns[j]?.getD 0 ≠ 0 → h'.IsValIter it d (j + 1) kvs.length ep → Heap.ExtBut it h h' → R (.ok (.ret (.int (ns[j]?.getD 0) t))) { s with heap := h' }) →
    (∀ h' e, (∀ j', i ≤ j' → j' < ns.length → ns[j']?.getD 0 = 0) → Heap.ExtBut it h h' → StopAt h' e → R (.error (.ref e)) { s with heap := h' }) →
    wpAny (model prog w) A.in1 (Builtin.«filter.__next__» ⟨[.ref fl], []⟩) (fun fin s' => match fin with | .done f => R (.ok f) s' | .again c' => c'.quiet = true ∧ codeAny (model prog w) A c' R s') (fun e s' => R (.error e) s') { s with heap := h } := by
  intro r
  induction r with
  | zero =>
    intro i h hr hi hfl hit hm hret hend
    refine wpAny_bind (wpAny_pure ?_)
    show wpAny _ _ (field (.ref fl) 0 >>= _) _ _ _
    refine wpAny_bind (wpAny_field hfl hd (x := .none) rfl ?_)
    show wpAny _ _ (field (.ref fl) 1 >>= _) _ _ _
    refine wpAny_bind (wpAny_field hfl hd (x := .ref it) rfl ?_)
    show wpAny _ _ (callSpecial? (.ref it) (Str.ofString "__next__") >>= _) _ _ _
    refine wpAny_bind (vi_end (s := { s with heap := h }) hh hit hm (by simp; lia) fun h' e he hx => ?_)
    have hl := hv.1
    exact hend h' e (fun j' a b => absurd b (by lia)) he hx
  | succ r ih =>
    intro i h hr hi hfl hit hm hret hend
    have hlt : i < kvs.length := by lia
    obtain ⟨⟨k, v⟩, hx⟩ : ∃ p, kvs[i]? = some p := ⟨kvs[i], by simp [hlt]⟩
    obtain ⟨t, rfl⟩ := hv.2 i k v hx
    refine wpAny_bind (wpAny_pure ?_)
    show wpAny _ _ (field (.ref fl) 0 >>= _) _ _ _
    refine wpAny_bind (wpAny_field hfl hd (x := .none) rfl ?_)
    show wpAny _ _ (field (.ref fl) 1 >>= _) _ _ _
    refine wpAny_bind (wpAny_field hfl hd (x := .ref it) rfl ?_)
    show wpAny _ _ (callSpecial? (.ref it) (Str.ofString "__next__") >>= _) _ _ _
    refine wpAny_bind (vi_item (s := { s with heap := h }) hit hm hx fun h' hit' hs' => ?_)
    dsimp only
    have hfl' : h'.get? fl = some ofl := (hs'.2 fl hne).trans hfl
    have hm' : h'.DictAt knd d kvs ep := hm.extBut hs'.extBut hdi
    refine wpAny_bind (wpAny_holding ?_)
    rw [if_pos (by decide)]
    refine wpAny_bind (wpAny_rule ?_)
    refine truthy_int ?_
    by_cases h0 : ns[i]?.getD 0 = 0
    · rw [h0]
      refine wpAny_pure ⟨plainId_quiet f_plain_next _, codeAny_builtin f_entry_next ?_⟩
      rw [Around.under_plainId f_plain_next _]
      refine ih (i + 1) h' (by lia) hlt hfl' hit' hm' ?_ ?_
      · intro j t2 h2 a b c e f g
        refine hret j t2 h2 (by lia) b (fun j' x y => ?_) e f (fun b' o' hb ho => g b' o' hb (hs'.extBut b' o' hb ho))
        by_cases hj : j' = i
        · rw [hj]; exact h0
        · exact c j' (by lia) y
      · intro h2 e a b c
        refine hend h2 e (fun j' x y => ?_) (fun b' o' hb ho => b b' o' hb (hs'.extBut b' o' hb ho)) c
        by_cases hj : j' = i
        · rw [hj]; exact h0
        · exact a j' (by lia) y
    · rw [if_pos (by simpa using h0)]
      have hl := hv.1
      exact wpAny_pure (hret i t h' (Nat.le_refl _) (by lia) (fun j' a b => absurd b (by lia)) h0 hit' hs'.extBut)
theorem f_owner : Manifest.owners.lookup (String.ofList ['r', 'e', 't', 'l', 'i', 'f'].reverse) = some Manifest.sig_filter := by kernel_rfl
theorem f_args_next (a : Value) : argsOk "filter.__next__" ⟨[a], []⟩ := by
  unfold argsOk
  rw [signature?_of (id := "filter.__next__") (n := ['_', '_', 't', 'x', 'e', 'n', '_', '_']) (o := ['r', 'e', 't', 'l', 'i', 'f']) (by kernel_rfl) f_owner]
  kernel_rfl
theorem flt_call {fl it d : Addr} {ep : Nat} {kvs : List (Int × Value)} {ns : List Int} {ofl : Obj} {Q : Value → Shared → Prop} (hh : A.handled = none) (hne : fl ≠ it) (hdi : d ≠ it) (hv : Vals kvs ns) (hc : ofl.cls = .type "filter") (hd : ofl.data = .fields #[.none, .ref it])
    {i : Nat} {h : Heap} (hi : i ≤ kvs.length) (hfl : h.get? fl = some ofl) (hit : h.IsValIter it d i kvs.length ep) (hm : h.DictAt knd d kvs ep)
    (hret : ∀ j t h', i ≤ j → j < ns.length → (∀ j', i ≤ j' → j' < j → ns[j']?.getD 0 = 0) → ns[j]?.getD 0 ≠ 0 → h'.IsValIter it d (j + 1) kvs.length ep → Heap.ExtBut it h h' → Q (.int (ns[j]?.getD 0) t) { s with heap := h' })
    (hend : ∀ h' e, (∀ j', i ≤ j' → j' < ns.length → ns[j']?.getD 0 = 0) → Heap.ExtBut it h h' → StopAt h' e → E (.ref e) { s with heap := h' }) :
    wpAny (model prog w) A (call (.builtin "filter.__next__") [.ref fl]) Q E { s with heap := h } := by
  have hT : ({ s with heap := h } : Shared).TypeIs (.ref fl) "filter" := ⟨ofl, hfl, hc⟩
  exact wpAny_call (codeAny_call_builtin f_slot_next.plain f_entry_next (f_slot_next.check _ _ _ _ _ _ _ _ hT (f_args_next _)
    (flt_tree (R := fun r s' => match r with | .ok (.ret v) => Q v s' | .ok _ => False | .error e => E e s') hh hne hdi hv hd _ i h rfl hi hfl hit hm hret hend)))
theorem flt_next {fl it d : Addr} {ep : Nat} {kvs : List (Int × Value)} {ns : List Int} {ofl : Obj} {Q : Option Value → Shared → Prop} (hh : A.handled = none) (hne : fl ≠ it) (hdi : d ≠ it) (hv : Vals kvs ns) (hc : ofl.cls = .type "filter") (hd : ofl.data = .fields #[.none, .ref it])
    {i : Nat} {h : Heap} {tk : Nat} (hi : i ≤ kvs.length) (hfl : h.get? fl = some ofl) (hit : h.IsValIter it d i kvs.length ep) (hm : h.DictAt knd d kvs ep)
    (hret : ∀ j t h', i ≤ j → j < ns.length → (∀ j', i ≤ j' → j' < j → ns[j']?.getD 0 = 0) → ns[j]?.getD 0 ≠ 0 → h'.IsValIter it d (j + 1) kvs.length ep → Heap.ExtBut it h h' → Q (some (.int (ns[j]?.getD 0) t)) { s with heap := h', toks := tk })
    (hend : ∀ h', (∀ j', i ≤ j' → j' < ns.length → ns[j']?.getD 0 = 0) → Heap.ExtBut it h h' → Q none { s with heap := h', toks := tk }) :
    wpAny (model prog w) A (pyNext (.ref fl)) Q E { s with heap := h, toks := tk } := by
  have hT : ({ s with heap := h, toks := tk } : Shared).TypeIs (.ref fl) "filter" := ⟨ofl, hfl, hc⟩
  unfold pyNext
  refine wpAny_bind (wpAny_attempt (wpAny_callSpecial?_slot (name := Str.ofString "__next__") hT f_slot_next ?_))
  refine flt_call (s := { s with toks := tk }) hh hne hdi hv hc hd hi hfl hit hm ?_ ?_
  · intro j t h' a b c e f g
    exact wpAny_pure (hret j t h' a b c e f g)
  · intro h' e a b c
    obtain ⟨o, ho, hoc⟩ := c
    refine wpAny_bind (wpAny_isInstance (T := "StopIteration") (b := true) ⟨o, ho, hoc⟩ isSubtype_stop ?_)
    exact wpAny_pure (hend h' a b)
/-- the greatest of the ints that are no nought; none: -1 -/
def TopOf (ns : List Int) (M : Int) : Prop := (∀ x ∈ ns, x = 0 ∨ x ≤ M) ∧ ((M ∈ ns ∧ M ≠ 0) ∨ (M = -1 ∧ ∀ x ∈ ns, x = 0))
theorem max_tree {fl it d S : Addr} {ep : Nat} {kvs : List (Int × Value)} {ns : List Int} {ofl : Obj} {td : Tok} {R : Result → Shared → Prop} (hh : A.handled = none) (hne : fl ≠ it) (hdi : d ≠ it) (hS1 : S ≠ fl) (hS2 : S ≠ it) (hS3 : S ≠ d) (hv : Vals kvs ns) (hc : ofl.cls = .type "filter") (hd : ofl.data = .fields #[.none, .ref it])
    (h₀ : Heap) (hR : ∀ M t h' tk', TopOf ns M → (∀ b o, b ≠ it → b ≠ S → h₀.get? b = some o → h'.get? b = some o) → R (.ok (.ret (.int M t))) { s with heap := h', toks := tk' }) :
    ∀ (r i : Nat) (h : Heap) (tk : Nat) (best : Array Value) (c : Nat), kvs.length - i = r → i ≤ kvs.length → h.get? fl = some ofl → h.IsValIter it d i kvs.length ep → h.DictAt knd d kvs ep →
    h.get? S = some { cls := .type "list", dict := none, data := .seq best c, slots := #[] } → (∀ b o, b ≠ it → b ≠ S → h₀.get? b = some o → h.get? b = some o) →
    ((best = #[] ∧ ∀ j, j < i → ns[j]?.getD 0 = 0) ∨ (∃ M t t', best = #[.int M t, .int M t'] ∧ M ≠ 0 ∧ M ∈ ns ∧ ∀ j, j < i → ns[j]?.getD 0 = 0 ∨ ns[j]?.getD 0 ≤ M)) →
    codeAny (model prog w) A (.builtin "max.loop" ⟨[.ref fl, .none, .ref S], [(Str.ofString "default", .int (-1) td)]⟩) R { s with heap := h, toks := tk } := by
  have hname : (toString "max" ++ toString ".loop" : String) = "max.loop" := by decide
  have hlen := hv.1
  intro r
  induction r using Nat.strongRecOn with
  | ind r ih =>
    intro i h tk best c hr hi hfl hit hm hS hk hb
    refine codeAny_builtin F.entry_max_loop ?_
    rw [Around.under_plainId F.plain_max_loop _]
    show wpAny _ A.in1 (seqItems? (.ref S) >>= _) _ _ _
    refine wpAny_bind (wpAny_seqItems hS rfl ?_)
    show wpAny _ A.in1 (tryCatch (pyNext (.ref fl)) _ >>= _) _ _ _
    refine wpAny_bind (wpAny_tryCatch (flt_next (A := A.in1) (s := s) (show A.in1.handled = none from hh) hne hdi hv hc hd hi hfl hit hm (fun j t h' a b e f g k => ?_) fun h' a b => ?_))
    · have hS' := k S _ hS2 hS
      have hfl' := k fl _ hne hfl
      have hm' : h'.DictAt knd d kvs ep := hm.extBut k hdi
      have hk' : ∀ b o, b ≠ it → b ≠ S → h₀.get? b = some o → h'.get? b = some o := fun b o x y z => k b o x (hk b o x y z)
      have hmem : ns[j]?.getD 0 ∈ ns := by
        rw [List.getElem?_eq_getElem b]
        exact List.getElem_mem b
      have hz : ∀ j', j' < j + 1 → j' < i ∨ j' = j ∨ ns[j']?.getD 0 = 0 := fun j' h1 => by
        by_cases q : j' < i
        · exact .inl q
        · by_cases q2 : j' = j
          · exact .inr (.inl q2)
          · exact .inr (.inr (e j' (by lia) (by lia)))
      rcases hb with ⟨rfl, hb⟩ | ⟨M, tM, tM', rfl, hM0, hMm, hb⟩
      · show wpAny _ A.in1 (pure _ >>= _) _ _ _
        refine wpAny_bind (wpAny_pure ?_)
        show wpAny _ A.in1 (updateSeq S (fun _ => #[.int (ns[j]?.getD 0) t, .int (ns[j]?.getD 0) t]) >>= _) _ _ _
        refine wpAny_bind (wpAny_updateSeq hS' rfl ?_)
        rw [hname]
        have sb := Heap.SameBut.update h' S (Obj.mapSeq fun _ => #[.int (ns[j]?.getD 0) t, .int (ns[j]?.getD 0) t])
        refine wpAny_pure ⟨plainId_quiet F.plain_max_loop _, ih (kvs.length - (j + 1)) (by lia) (j + 1) _ _ _ _ rfl (by lia) ((sb.2 fl hS1.symm).trans hfl') (g.at fun o ho => (sb.2 it hS2.symm).trans ho) (hm'.at' fun o ho => (sb.2 d hS3.symm).trans ho) (get?_update_seq hS' _) (fun b o x y z => (sb.2 b y).trans (hk' b o x y z)) (.inr ⟨_, t, t, rfl, f, hmem, fun j' h1 => ?_⟩)⟩
        rcases hz j' h1 with q | q | q
        · exact .inl (hb j' q)
        · rw [q]; exact .inr (Int.le_refl _)
        · exact .inl q
      · show wpAny _ A.in1 (pure _ >>= _) _ _ _
        refine wpAny_bind (wpAny_pure ?_)
        show wpAny _ A.in1 (tryCatch (holding [.int (ns[j]?.getD 0) t, .int (ns[j]?.getD 0) t] (richCompare .Gt (.int (ns[j]?.getD 0) t) (.int M tM') >>= _)) _ >>= _) _ _ _
        refine wpAny_bind (wpAny_tryCatch (wpAny_holding (wpAny_bind (gt_int (A := A.in1) ?_))))
        refine wpAny_bind (wpAny_holding (wpAny_truthy_bool ?_))
        refine wpAny_bind (wpAny_letGo (wpAny_pure ?_))
        by_cases hgt : ns[j]?.getD 0 > M
        · simp only [hgt, decide_true, if_true]
          refine wpAny_bind (wpAny_updateSeq hS' rfl (wpAny_bind (wpAny_letGo ?_)))
          rw [hname]
          have sb := Heap.SameBut.update h' S (Obj.mapSeq fun _ => #[.int (ns[j]?.getD 0) t, .int (ns[j]?.getD 0) t])
          refine wpAny_pure ⟨plainId_quiet F.plain_max_loop _, ih (kvs.length - (j + 1)) (by lia) (j + 1) _ _ _ _ rfl (by lia) ((sb.2 fl hS1.symm).trans hfl') (g.at fun o ho => (sb.2 it hS2.symm).trans ho) (hm'.at' fun o ho => (sb.2 d hS3.symm).trans ho) (get?_update_seq hS' _) (fun b o x y z => (sb.2 b y).trans (hk' b o x y z)) (.inr ⟨_, t, t, rfl, f, hmem, fun j' h1 => ?_⟩)⟩
          rcases hz j' h1 with q | q | q
          · rcases hb j' q with x | x
            · exact .inl x
            · exact .inr (by lia)
          · rw [q]; exact .inr (Int.le_refl _)
          · exact .inl q
        · simp only [hgt, decide_false, Bool.false_eq_true, if_false]
          refine wpAny_bind (wpAny_letGo ?_)
          rw [hname]
          refine wpAny_pure ⟨plainId_quiet F.plain_max_loop _, ih (kvs.length - (j + 1)) (by lia) (j + 1) _ _ _ _ rfl (by lia) hfl' g hm' hS' hk' (.inr ⟨_, tM, tM', rfl, hM0, hMm, fun j' h1 => ?_⟩)⟩
          rcases hz j' h1 with q | q | q
          · exact hb j' q
          · rw [q]; exact .inr (by lia)
          · exact .inl q
    · have hS' := b S _ hS2 hS
      have hk' : ∀ b o, b ≠ it → b ≠ S → h₀.get? b = some o → h'.get? b = some o := fun b' o x y z => b b' o x (hk b' o x y z)
      rcases hb with ⟨rfl, hb⟩ | ⟨M, tM, tM', rfl, hM0, hMm, hb⟩
      · show wpAny _ A.in1 (rule _ >>= _) _ _ _
        refine wpAny_bind (wpAny_rule ?_)
        have hz : ∀ x ∈ ns, x = 0 := fun x hx => by
          obtain ⟨j, hj, rfl⟩ := List.mem_iff_getElem.mp hx
          have e : ns[j] = ns[j]?.getD 0 := by rw [List.getElem?_eq_getElem hj]; rfl
          rw [e]
          by_cases q : j < i
          · exact hb j q
          · exact a j (by lia) hj
        exact wpAny_pure (hR (-1) td h' tk ⟨fun x hx => .inl (hz x hx), .inr ⟨rfl, hz⟩⟩ hk')
      · show wpAny _ A.in1 (updateSeq S (fun _ => #[]) >>= _) _ _ _
        refine wpAny_bind (wpAny_updateSeq hS' rfl (wpAny_bind (wpAny_letGo (wpAny_pure ?_))))
        have sb := Heap.SameBut.update h' S (Obj.mapSeq fun _ => #[])
        refine hR M tM _ tk ⟨fun x hx => ?_, .inl ⟨hMm, hM0⟩⟩ (fun b o x y z => (sb.2 b y).trans (hk' b o x y z))
        obtain ⟨j, hj, rfl⟩ := List.mem_iff_getElem.mp hx
        have e : ns[j] = ns[j]?.getD 0 := by rw [List.getElem?_eq_getElem hj]; rfl
        rw [e]
        by_cases q : j < i
        · exact hb j q
        · exact .inl (a j (by lia) hj)
end
end Mine
end

section
theorem Mine.fresh8 : True := by k_with_none; w_top off; trivial
open PySem PySem.W PyProof.Rows PyProof.V PySem.Calls
set_option maxRecDepth 100000
set_option maxHeartbeats 8000000
namespace Mine
theorem f_mro : mroOf (.type "filter") = pure [.type "filter", .type "object"] := by rw [mroOf_type]; kernel_rfl
theorem f_lookup_new : typeLookup (.type "filter") "__new__" = pure (some (.builtin "filter.__new__")) := by rw [typeLookup_type, builtinLookup_eq_fast]; kernel_rfl
theorem f_slot_init : Slot "filter" "__init__" "object.__init__" :=
  .of (owner := "object") (n := "__init__") (by rw [typeLookup_type, builtinLookup_eq_fast]; kernel_rfl) (by decide +kernel) (by decide +kernel) (by decide +kernel)
    (by first | exact .inl (by decide +kernel) | exact .inr (by decide +kernel)) (by rw [isSubtype_type]; kernel_rfl)
theorem f_called : TypeCalled "filter" "filter.__new__" "object.__init__" :=
  ⟨by decide +kernel, by decide +kernel, ⟨_, _, f_mro⟩, madeBy_type f_mro f_lookup_new (by decide +kernel), by decide +kernel, by rw [isSubtype_type]; kernel_rfl, f_slot_init⟩
theorem f_typeCall (a b : Value) : checkTypeCall "filter" ⟨[a, b], []⟩ = pure () := by kernel_rfl
theorem f_newCall (a b : Value) : checkBuiltinCall "filter.__new__" ⟨[.type "filter", a, b], []⟩ = pure () := by kernel_rfl
theorem f_sub : isSubtype (.type "filter") (.type "filter") = pure true := by rw [isSubtype_type]; kernel_rfl
theorem f_slot_iter : Slot "filter" "__iter__" "filter.__iter__" :=
  .of (owner := "filter") (n := "__iter__") (by rw [typeLookup_type, builtinLookup_eq_fast]; kernel_rfl) (by decide +kernel) (by decide +kernel) (by decide +kernel)
    (by first | exact .inl (by decide +kernel) | exact .inr (by decide +kernel)) (by rw [isSubtype_type]; kernel_rfl)
theorem f_entry_iter : entryFor table "filter.__iter__" = some Builtin.«dict_keyiterator.__iter__» :=
  entryFor_alias (id' := "dict_keyiterator.__iter__") (by kernel_rfl) rfl (by decide +kernel) (by kernel_rfl)
theorem f_args_iter (a : Value) : argsOk "filter.__iter__" ⟨[a], []⟩ := by
  unfold argsOk
  rw [signature?_of (id := "filter.__iter__") (n := ['_', '_', 'r', 'e', 't', 'i', '_', '_']) (o := ['r', 'e', 't', 'l', 'i', 'f']) (by kernel_rfl) f_owner]
  kernel_rfl
section
variable {prog : Program} {w : World} {A : Around} {E : Value → Shared → Prop} {s : Shared} {knd : KeyKind prog w Int}
theorem f_new (knd : KeyKind prog w Int) (v d : Addr) (kvs : List (Int × Value)) (ep : Nat) :
    MeetsIn prog w (Builtin.«filter.__new__» ⟨[.type "filter", .none, .ref v], []⟩) (fun _ R s => s.heap.IsValuesView v d ∧ s.heap.DictAt knd d kvs ep ∧
      R (.ok (.ret (.ref (s.heap.push { cls := .type "dict_valueiterator", data := .fields #[.ref d, .int 0 0, .int kvs.length 0, .int ep 0] }).objs.size)))
        { s with heap := (s.heap.push { cls := .type "dict_valueiterator", data := .fields #[.ref d, .int 0 0, .int kvs.length 0, .int ep 0] }).push { cls := .type "filter", data := .fields #[.none, .ref s.heap.objs.size] } }) :=
  .of_wp fun A R s ⟨hv, hm, h⟩ => by
    have hsub := f_sub
    wp_walk using wpAny_pyIter_values hv hm
    exact ⟨_, rfl, h⟩
abbrev fltObj (it : Addr) : Obj := { cls := .type "filter", data := .fields #[.none, .ref it] }
abbrev vitObj (d : Addr) (n ep : Nat) : Obj := { cls := .type "dict_valueiterator", data := .fields #[.ref d, .int 0 0, .int n 0, .int ep 0] }
abbrev viewObj (d : Addr) : Obj := { cls := .type "dict_values", data := .fields #[.ref d] }
theorem flt_K {h₀ : Heap} {L v d : Addr} {m : Str → Option Value} {news : List (Addr × Obj)} {o : Obj} {kvs : List (Int × Value)} {Q : Value → Shared → Prop} (F : Fr h₀ L s.heap m) (N : News h₀ L s.heap news)
    (hv : (v, viewObj d) ∈ news) (hp : (d, o) ∈ news) (hd : o.IsDictOf knd kvs)
    (h : ∀ it fl ep h', Fr h₀ L h' m → News h₀ L h' ((fl, fltObj it) :: (it, vitObj d kvs.length ep) :: news) → (∀ p ∈ news, p.1 < it) → it < fl → KdkAt knd o kvs ep → Q (.ref fl) { s with heap := h' }) :
    wpAny (model prog w) A (call (.type "filter") [.none, .ref v]) Q E s := by
  obtain ⟨ep, ha⟩ := KdkAt.of hd
  have hN := N _ hp
  refine callType_newIn f_called (by decide) (f_typeCall _ _) (f_newCall _ _) (fun obj => PySem.F.initArgs_range_2 obj _ _) f_entry_new (f_new knd v d kvs ep) ⟨⟨_, (N _ hv).1, rfl, rfl⟩, ha.dictAt hN.1, ⟨_, Heap.get?_push_size _ rfl, rfl⟩, ?_⟩
  refine h s.heap.objs.size _ ep _ ((F.push _).push _) (News.push (F.push _) (News.push F N _ rfl) _ rfl) (fun p hp => Heap.lt_size (N p hp).1) ?_ ha
  rw [Heap.size_push]
  exact Nat.lt_succ_self _
theorem m_args (a v : Value) : argsOk "max" ⟨[a], [(Str.ofString "default", v)]⟩ := by unfold argsOk; kernel_rfl
theorem max_K {h₀ : Heap} {L fl it d : Addr} {m : Str → Option Value} {rest : List (Addr × Obj)} {o : Obj} {kvs : List (Int × Value)} {ns : List Int} {ep : Nat} {td : Tok} {Q : Value → Shared → Prop} (hh : A.handled = none) (F : Fr h₀ L s.heap m)
    (N : News h₀ L s.heap ((fl, fltObj it) :: (it, vitObj d kvs.length ep) :: rest)) (hlt : ∀ p ∈ rest, p.1 < it) (hif : it < fl) (hp : (d, o) ∈ rest) (ha : KdkAt knd o kvs ep) (hv : Vals kvs ns)
    (h : ∀ M t h' tk', TopOf ns M → Fr h₀ L h' m → News h₀ L h' rest → Q (.int M t) { s with heap := h', toks := tk' }) :
    wpAny (model prog w) A (call (.builtin "max") [.ref fl] [(Str.ofString "default", .int (-1) td)]) Q E s := by
  have n1 := N _ (.head _)
  have n2 := N _ (.tail _ (.head _))
  have nr : News h₀ L s.heap rest := fun p hp => N p (.tail _ (.tail _ hp))
  have nd := nr _ hp
  have hdi : d ≠ it := Nat.ne_of_lt (hlt _ hp)
  have hne : fl ≠ it := Nat.ne_of_gt hif
  have hname : (toString "max" ++ toString ".loop" : String) = "max.loop" := by decide
  refine kmk_tree PySem.F.kind_max PySem.F.plain_max PySem.F.entry_max (m_args _ _) ?_
  have hT : s.TypeIs (.ref fl) "filter" := ⟨_, n1.1, rfl⟩
  unfold Builtin.«max»
  show wpAny _ A.in1 (Builtin.Builtins.bindParams "max" ["key", "default"] 0 ⟨[], [(Str.ofString "default", .int (-1) td)]⟩ >>= _) _ _ _
  refine wpAny_bind (wpAny_of_eq (a := [none, some (.int (-1) td)]) (by first | rfl | kernel_rfl!) ?_)
  show wpAny _ A.in1 (pyIter (.ref fl) >>= _) _ _ _
  refine wpAny_bind (wpAny_pyIter_slot hT f_slot_iter (wpAny_call_entry f_slot_iter hT f_entry_iter ?_ (f_args_iter _)))
  show wpAny _ _ (ret (.ref fl)) _ _ s
  refine wpAny_pure ⟨_, rfl, "filter", _, hT, f_slot_next.lookup, ?_⟩
  show wpAny _ A.in1 (newList [] >>= _) _ _ _
  refine wpAny_bind (wpAny_newList ?_)
  rw [hname]
  have hk : ∀ b o, s.heap.get? b = some o → (s.heap.push { cls := .type "list", data := .seq ([] : List Value).toArray }).get? b = some o := fun b o e => Heap.get?_push_of_some _ e
  refine wpAny_pure ⟨plainId_quiet PySem.F.plain_max_loop _, ?_⟩
  have hS : ∀ b o, s.heap.get? b = some o → s.heap.objs.size ≠ b := fun b o e => Nat.ne_of_gt (Heap.lt_size e)
  refine max_tree (knd := knd) (S := s.heap.objs.size) hh hne hdi (hS _ _ n1.1) (hS _ _ n2.1) (hS _ _ nd.1) hv rfl rfl s.heap (fun M t h' tk' hM hk' => ?_) _ 0 _ _ #[] 0 rfl (Nat.zero_le _) (hk _ _ n1.1) ⟨_, hk _ _ n2.1, rfl, rfl⟩ ((ha.dictAt nd.1).at' fun o e => hk _ _ e) (Heap.get?_push_size _ rfl) (fun b o _ _ e => hk b o e) (.inl ⟨rfl, fun j hj => absurd hj (Nat.not_lt_zero _)⟩)
  have hk2 : ∀ b o, b ∉ [it] → s.heap.get? b = some o → h'.get? b = some o := fun b o hb e => hk' b o (fun q => hb (List.mem_singleton.mpr q)) (hS b o e).symm e
  exact h M t h' tk' hM (kmk_fr F hk2 n2.2.1 n2.2.2) (kmk_news nr hk2 fun p hp => Nat.ne_of_lt (hlt p hp))
end
end Mine
end

section
theorem Mine.fresh9 : True := by k_with_none; w_top off; trivial
open PySem PySem.W PyProof.Rows PyProof.V PySem.Calls
set_option maxRecDepth 100000
set_option maxHeartbeats 8000000
namespace Mine
theorem ci_entry : entryFor table "proto.contains_iter" = some Builtin.«proto.contains_iter» := entryFor_of_tree (by kernel_rfl)
theorem ci_plain : plainId "proto.contains_iter" = true := by decide +kernel
theorem ci_lookup : typeLookup (.type "dict_values") (Str.ofString "__contains__") = pure none := by rw [typeLookup_type, builtinLookup_eq_fast]; kernel_rfl
section
variable {prog : Program} {w : World} {A : Around} {E : Value → Shared → Prop} {s : Shared} {knd : KeyKind prog w Int}
theorem eqb_int_none {a : Int} {t : Tok} {Q : Bool → Shared → Prop} (h : Q false s) : wpAny (model prog w) A (eqBool (.int a t) .none) Q E s := by
  unfold eqBool
  refine wpAny_holding ?_
  show wpAny _ _ (if (Value.int a t == Value.none) = true then _ else _) Q E s
  rw [if_neg (by intro h; exact Bool.false_ne_true h)]
  exact wpAny_bind (EqNone.eq_int_none (wpAny_truthy_bool h))
theorem ci_loop {it d : Addr} {ep : Nat} {kvs : List (Int × Value)} {ns : List Int} {R : Result → Shared → Prop} (hh : A.handled = none) (hdi : d ≠ it) (hv : Vals kvs ns) (h₀ : Heap)
    (hR : ∀ h', (∀ b o, b ≠ it → h₀.get? b = some o → h'.get? b = some o) → R (.ok (.ret (.bool false))) { s with heap := h' }) :
    ∀ (r i : Nat) (h : Heap), kvs.length - i = r → i ≤ kvs.length → h.IsValIter it d i kvs.length ep → h.DictAt knd d kvs ep → (∀ b o, b ≠ it → h₀.get? b = some o → h.get? b = some o) →
    codeAny (model prog w) A (.builtin "proto.contains_iter" ⟨[.ref it, .none], []⟩) R { s with heap := h } := by
  intro r
  induction r with
  | zero =>
    intro i h hr hi hit hm hk
    refine codeAny_builtin ci_entry ?_
    rw [Around.under_plainId ci_plain _]
    show wpAny _ A.in1 (pyNext (.ref it) >>= _) _ _ _
    refine wpAny_bind (wpAny_pyNext_values_end (s := { s with heap := h }) (A := A.in1) (show A.in1.handled = none from hh) hit hm (by simp; omega) fun h' he => ?_)
    refine wpAny_bind (wpAny_rule (wpAny_pure (hR h' fun b o x e => he b o x (hk b o x e))))
  | succ r ih =>
    intro i h hr hi hit hm hk
    have hlt : i < kvs.length := by omega
    obtain ⟨⟨k, v⟩, hx⟩ : ∃ p, kvs[i]? = some p := ⟨kvs[i], by simp [hlt]⟩
    obtain ⟨t, rfl⟩ := hv.2 i k v hx
    refine codeAny_builtin ci_entry ?_
    rw [Around.under_plainId ci_plain _]
    show wpAny _ A.in1 (pyNext (.ref it) >>= _) _ _ _
    refine wpAny_bind (wpAny_pyNext_values_item (s := { s with heap := h }) (A := A.in1) hit hm hx fun h' hit' hs' => ?_)
    show wpAny _ A.in1 (eqBool (.int (ns[i]?.getD 0) t) .none >>= _) _ _ _
    refine wpAny_bind (eqb_int_none ?_)
    rw [if_neg Bool.false_ne_true]
    exact wpAny_pure ⟨plainId_quiet ci_plain _, ih (i + 1) h' (by omega) hlt hit' (hm.extBut hs'.extBut hdi) fun b o x e => hs'.extBut b o x (hk b o x e)⟩
theorem in_none_K {h₀ : Heap} {L v d : Addr} {m : Str → Option Value} {news : List (Addr × Obj)} {o : Obj} {kvs : List (Int × Value)} {ns : List Int} {Q : Value → Shared → Prop} (hh : A.handled = none) (F : Fr h₀ L s.heap m) (N : News h₀ L s.heap news)
    (hv : (v, viewObj d) ∈ news) (hp : (d, o) ∈ news) (hd : o.IsDictOf knd kvs) (hns : Vals kvs ns)
    (h : ∀ h', Fr h₀ L h' m → News h₀ L h' news → Q (.bool false) { s with heap := h' }) :
    wpAny (model prog w) A (compareOp .In .none (.ref v)) Q E s := by
  obtain ⟨ep, ha⟩ := KdkAt.of hd
  have nv := N _ hv
  have nd := N _ hp
  have hV : s.heap.IsValuesView v d := ⟨_, nv.1, rfl, rfl⟩
  have hT : s.TypeIs (.ref v) "dict_values" := hV.typeIs
  have hI : ∀ b o, s.heap.get? b = some o → b ≠ s.heap.objs.size := fun b o e => Nat.ne_of_lt (Heap.lt_size e)
  have hk : ∀ b x, s.heap.get? b = some x → (s.heap.push (vitObj d kvs.length ep)).get? b = some x := fun b x e => Heap.get?_push_of_some _ e
  show wpAny _ A (contains (.ref v) .none >>= _) _ _ _
  refine wpAny_bind ?_
  unfold contains
  refine wpAny_holding ?_
  show wpAny _ A (specialOf (.ref v) (Str.ofString "__contains__") >>= _) _ _ _
  refine wpAny_bind (wpAny_specialOf hT ci_lookup ?_)
  show wpAny _ A (if ((none : Option Value) == some .none) = true then _ else _) _ _ _
  rw [if_neg (by decide)]
  show wpAny _ A (callSpecialUnlessNone? (.ref v) (Str.ofString "__contains__") [.none] _ >>= _) _ _ _
  refine wpAny_bind ?_
  unfold callSpecialUnlessNone?
  refine wpAny_bind (wpAny_specialOf hT ci_lookup (wpAny_pure ?_))
  show wpAny _ A (rule _ >>= _) _ _ _
  refine wpAny_bind (wpAny_rule ?_)
  refine wpAny_bind (wpAny_tryCatch (wpAny_pyIter_values hV (ha.dictAt nd.1) ?_))
  refine wpAny_bind (wpAny_runValue ?_)
  refine ci_loop (knd := knd) hh (hI _ _ nd.1) hns s.heap (fun h' hk' => ?_) _ 0 _ rfl (Nat.zero_le _) ⟨_, Heap.get?_push_size _ rfl, rfl, rfl⟩ ((ha.dictAt nd.1).at' fun o e => hk _ _ e) fun b o _ e => hk b o e
  refine wpAny_pure (wpAny_pure (h h' (F.keeps fun b o e => hk' b o (hI b o e) e) fun p hp => ⟨hk' _ _ (hI _ _ (N p hp).1) (N p hp).1, (N p hp).2⟩))
end
end Mine
end

section
theorem Mine.fresh10 : True := by k_with_none; w_top off; trivial
open PySem PySem.W PyProof.Rows PyProof.V
set_option maxRecDepth 100000
set_option maxHeartbeats 8000000
namespace Mine
theorem vals_of {kvs : List (Int × Value)} {c : List (Int × Int)} (hf : FlatPairs PyData.int kvs (kdfD c)) : Vals kvs (c.map (·.2)) := by
  refine ⟨by rw [List.length_map, ← kdfD_length, hf.length], fun i k v hx => ?_⟩
  obtain ⟨p, hp, t, rfl⟩ := kdy_valAt hf hx
  exact ⟨t, by simp [hp]⟩
theorem mem_of_news {h₀ h : Heap} {L : Addr} {l : List (Addr × Obj)} {p : Addr × Obj} (_ : News h₀ L h l) (hm : p ∈ l) : p ∈ l := hm
theorem topOf_bound {c : List (Int × Int)} {M : Int} (h : TopOf (c.map (·.2)) M) (hb : ∀ p ∈ c, 0 ≤ p.2 ∧ p.2 < 1000000) : -1 ≤ M ∧ M < 1000000 ∧ M ≠ 0 := by
  rcases h.2 with ⟨hm, h0⟩ | ⟨rfl, _⟩
  · obtain ⟨p, hp, rfl⟩ := List.mem_map.mp hm
    have := hb p hp
    lia
  · decide
theorem text_len {M : Int} (h : 0 ≤ M) : ((Str.ofString (toString M)).length : Int) ≤ 3 ↔ M < 1000 := by
  obtain ⟨n, rfl⟩ := Int.eq_ofNat_of_zero_le h
  rw [PySem.ofString_length]
  have e : toString (n : Int) = n.repr := rfl
  rw [e]
  have := Nat.length_repr_le_iff (n := n) (k := 3) (by decide)
  lia
theorem width_none {c : List (Int × Int)} {M : Int} (h : TopOf (c.map (·.2)) M) (e : M = -1) : (0 : Int) < 4 ↔ ∀ p ∈ c, p.2 < 1000 := by
  refine ⟨fun _ p hp => ?_, fun _ => by decide⟩
  rcases h.1 p.2 (List.mem_map.mpr ⟨p, hp, rfl⟩) with q | q <;> lia
theorem width_some {c : List (Int × Int)} {M : Int} (h : TopOf (c.map (·.2)) M) (hb : ∀ p ∈ c, 0 ≤ p.2 ∧ p.2 < 1000000) (e : ¬ M = -1) :
    (if ((Str.ofString (toString M)).length : Int) > 3 then ((Str.ofString (toString M)).length : Int) else 3) < 4 ↔ ∀ p ∈ c, p.2 < 1000 := by
  have h0 := topOf_bound h hb
  have ht := text_len (M := M) (by lia)
  have key : M < 1000 ↔ ∀ p ∈ c, p.2 < 1000 := by
    refine ⟨fun hM p hp => ?_, fun hp => ?_⟩
    · rcases h.1 p.2 (List.mem_map.mpr ⟨p, hp, rfl⟩) with q | q <;> lia
    · rcases h.2 with ⟨hm, _⟩ | ⟨q, _⟩
      · obtain ⟨p, hp', rfl⟩ := List.mem_map.mp hm
        exact hp p hp'
      · exact absurd q e
  rw [← key, ← ht]
  split <;> lia
theorem c_width (w : World) (news : List (Addr × Obj)) (d : Addr) (o : Obj) (c : List (Int × Int)) (hm : (d, o) ∈ news) (hs : (d == sysModules) = false) (ht : Tab w o c) (hb : ∀ p ∈ c, 0 ≤ p.2 ∧ p.2 < 1000000) :
    Does w 21 1 news [.ref d] (fun v n' => (∃ r t, v = .int r t ∧ (r < 4 ↔ ∀ p ∈ c, p.2 < 1000)) ∧ n' = news) := by
  obtain ⟨kvs, ht1, ht2⟩ := ht
  have hvals := vals_of ht2
  k_with_none
  k_with "does_open" => ((unfold Does; k_fill; intro dp_doesopen un_doesopen gd_doesopen cn_doesopen cs_doesopen a_doesopen ccd_doesopen cl_doesopen outer_doesopen A0_doesopen base_doesopen h0_doesopen L_doesopen m_doesopen s_doesopen mean_doesopen mg_doesopen mb_doesopen Q_doesopen E_doesopen B_doesopen F_doesopen X_doesopen N_doesopen T_doesopen hk_doesopen hdp_doesopen hun_doesopen hret_doesopen; refine wpAny_call ?_; k_dflt cell_enter))
  walk_at "does_open"
  k_with "call type:filter" => (with_unfolding_all refine' flt_K (knd := PySem.intKind _ _) ?wF ?wN ?wv ?wp ht1 ?_; (case wF => k_asm); (case wN => k_asm); (case wv => exact List.Mem.head _); (case wp => exact List.Mem.tail _ hm); intro it fl ep h' F' N' l1 l2 ha)
  k_with "call builtin:max" => (with_unfolding_all refine' max_K (knd := PySem.intKind _ _) ?wh ?wF ?wN ?w1 ?w2 ?wp ?wa hvals ?_; (case wh => exact rfl); (case wF => k_asm); (case wN => k_asm); (case w1 => assumption); (case w2 => assumption); (case wp => exact List.Mem.tail _ hm); (case wa => assumption); intro M tM h' tk' hM F' N'; (have hMb := topOf_bound hM hb); (have hm2 := mem_of_news N' (List.Mem.tail _ hm)); (try dsimp only))
  k_with "compareOp In" => (with_unfolding_all refine' in_none_K (knd := PySem.intKind _ _) ?wh ?wF ?wN ?wv ?wp ht1 hvals ?_; (case wh => exact rfl); (case wF => k_asm); (case wN => k_asm); (case wv => exact List.Mem.head _); (case wp => exact List.Mem.tail _ (List.Mem.tail _ hm)); intro h' F' N')
  k_steps
  all_goals (refine doesRet (news' := news) (by assumption) (by k_asm) (by first | k_asm | exact cb_drop (by assumption) (fun p hp => List.Mem.tail _ hp) | exact cb_drop (by assumption) (fun p hp => List.Mem.tail _ (List.Mem.tail _ hp))) ?_; refine ⟨⟨_, _, rfl, ?_⟩, rfl⟩)
  all_goals first | exact width_none hM (by assumption) | exact width_some hM hb (by assumption)
end Mine
end

section
theorem Mine.fresh11 : True := by k_with_none; w_top off; trivial
open PySem PySem.W PyProof.Rows PyProof.V
set_option maxRecDepth 100000
set_option maxHeartbeats 8000000
namespace Mine
/-- a number's figures -/
def figs (g : Int) : List Nat := (Nat.toDigits 10 g.toNat).map Char.toNat
theorem figs_of {g : Int} (h : 0 ≤ g) : (Str.ofString (toString g)).cps.toList = figs g := by
  obtain ⟨m, rfl⟩ := Int.eq_ofNat_of_zero_le h
  exact KIN.signs_num m
theorem figs_are (g : Int) : ∀ c ∈ figs g, 48 ≤ c ∧ c ≤ 57 := by
  intro c hc
  obtain ⟨ch, hch, e⟩ := List.mem_map.mp hc
  have r := digit_range (Nat.isDigit_of_mem_toDigits (by decide) (by decide) hch)
  rw [← e]
  exact r
/-- the mark of a kind -/
def markOf (k : Int) : Nat := if k = 0 ∨ k = 3 then 124 else if k = 1 ∨ k = 4 then 33 else 47
/-- the reply's signs -/
def repl (k g : Int) : List Nat :=
  (if k = 3 then [50, 53, 48] else [50, 50, 57]) ++ ([32, 104, 101, 97, 112, 32] ++ (40 :: ([markOf k, markOf k, markOf k] ++ ((if k = 5 then [120] else []) ++ (figs g ++ ((if k = 4 then [] else [markOf k]) ++ [41]))))))
def Rep (k g : Int) : PySem.Str := ⟨(repl k g).toArray⟩
theorem str_ext {x : PySem.Str} {l : List Nat} (h : x.cps.toList = l) : x = ⟨l.toArray⟩ := by
  subst h; simp
theorem rep_of {k g : Int} {a b c d e f h : PySem.Str} (h0 : 0 ≤ g) (ha : a.cps.toList = (if k = 3 then [50, 53, 48] else [50, 50, 57])) (hb : b.cps.toList = [32, 104, 101, 97, 112, 32, 40])
    (hc : c.cps.toList = [markOf k, markOf k, markOf k]) (hd : d.cps.toList = (if k = 5 then [120] else [])) (he : e = Str.ofString (toString g)) (hf : f.cps.toList = (if k = 4 then [] else [markOf k])) (hh : h.cps.toList = [41]) :
    a ++ b ++ c ++ d ++ e ++ f ++ h = Rep k g := by
  refine str_ext ?_
  simp only [Str.cps_append, Array.toList_append, ha, hb, hc, hd, hf, hh, he, figs_of h0, repl, List.append_assoc, List.cons_append, List.nil_append]
def NextR (P : Shared → Prop) (f : Flow) (s' : Shared) : Prop := f = .next ∧ P s'
theorem execs_consR {M : Model} {A : Around} {env : Env} {s : Shared} {st : Stmt} {rest : List Stmt} {Q : Flow → Shared → Prop} {E : Value → Shared → Prop} (P : Shared → Prop) (h1 : wpAny M A (exec st env) (NextR P) (fun _ _ => False) s) (h2 : ∀ s', P s' → wpAny M A (execs rest env) Q E s') : wpAny M A (execs (st :: rest) env) Q E s :=
  wpAny_execs_cons (wpAny_mono h1 (fun f s' h => by obtain ⟨rfl, h⟩ := h; exact h2 s' h) fun _ _ h => h.elim)
def StR (g : Heap) (L : Addr) (sx : Shared) (m : Str → Option Value) (led : List (Addr × Obj)) (s' : Shared) : Prop := ∃ h tk, s' = { sx with heap := h, toks := tk } ∧ Fr g L h m ∧ News g L h led
def markS (k : Int) : Str := if k = 0 ∨ k = 3 then Str.ofString "|" else if k = 1 ∨ k = 4 then Str.ofString "!" else Str.ofString "/"
def codeOf (k : Int) : Str := if k = 3 then Str.ofString "250" else Str.ofString "229"
def lastOf (k : Int) : Str := if k = 4 then Str.ofString "" else (markS k)
def letterOf (k : Int) : Str := if k = 5 then Str.ofString "x" else Str.ofString ""
theorem mark_one (k : Int) : (markS k).cps.toList = [markOf k] := by unfold markS markOf; split; decide +kernel; split <;> decide +kernel
theorem mark_mul (k : Int) : (Txt.mul (markS k) 3).cps.toList = [markOf k, markOf k, markOf k] := by unfold markS markOf; split; decide +kernel; split <;> decide +kernel
theorem c_reply (w : World) (news : List (Addr × Obj)) (k g : Int) (tk tg : Tok) (h1 : 0 ≤ k) (h2 : k < 6) (h3 : 0 ≤ g) (h4 : g < 1500) :
    Does w 121 1 news [.int k tk, .int g tg] (fun v n' => (∃ t, v = .str (Rep k g) t) ∧ n' = news) := by
  k_with_none
  unfold Does
  k_fill
  intro dp un gd cn cs a ccd cl outer A₀ base h₀ L m s mean mg mb Q E B F X N T hk hdp hun hret
  k_with "enter_here" => ((refine wpAny_call ?_; (k_dflt (refine' code_def ?k19 ?k29 ?k39 ?k49 ?k59 ?kA9 ?kF9 ?kK9 ?k69 ?k79 ?k89 ?k99 ?kB9 ?_ ?c29 ?c39 ?c49 ?c59; (case kA9 => exact rfl); (case kF9 => exact rfl); (case kK9 => first | exact rfl | assumption); (case k19 => k_asm); (case k29 => k_asm); (case k39 => k_asm); (case k49 => k_asm); (case k59 => k_asm); (case k69 => k_is); (case k79 => k_is); (case k89 => ktr_room); (case k99 => exact BindsTo.of_eq rfl); (case c59 => decide); (case kB9 => exact locs rfl); (case c29 => exact rfl); (case c39 => exact rfl); (case c49 => exact rfl); k_whole; intro g'9 L'9 h'9 FG'9 F'9 N'9 B'9 X'9 T'9; (try dsimp only); (try k_lift B'9); (try k_fold)))))
  walk_at "enter_here"
  refine execs_consR (fun s' => ∃ t, StR g'9 L'9 s (fun z => if z = Str.ofString "mark" then some (.str (markS k) t) else List.lookup z [(Str.ofString "grains", .int g tg), (Str.ofString "kind", .int k tk)]) news s') ?_ ?_
  · obtain rfl | rfl | rfl | rfl | rfl | rfl : k = 0 ∨ k = 1 ∨ k = 2 ∨ k = 3 ∨ k = 4 ∨ k = 5 := by lia
    all_goals k_steps
    all_goals (exact ⟨rfl, _, _, _, rfl, (by with_unfolding_all k_asm), by k_asm⟩)
  · rintro s' ⟨t1, h5, tk5, rfl, F5, N5⟩
    clear F'9 N'9
    refine execs_consR (fun s' => ∃ t2, StR g'9 L'9 s (fun z => if z = Str.ofString "code" then some (.str (codeOf k) t2) else if z = Str.ofString "mark" then some (.str (markS k) t1) else List.lookup z [(Str.ofString "grains", .int g tg), (Str.ofString "kind", .int k tk)]) news s') ?_ ?_
    · k_steps
      · exact ⟨rfl, _, _, _, rfl, by rw [show codeOf k = Str.ofString "250" from if_pos (by first | assumption | lia)]; k_asm, by k_asm⟩
      · exact ⟨rfl, _, _, _, rfl, by rw [show codeOf k = Str.ofString "229" from if_neg (by first | assumption | lia)]; k_asm, by k_asm⟩
    rintro s' ⟨t2, h6, tk6, rfl, F6, N6⟩
    clear F5 N5
    refine execs_consR (fun s' => ∃ t3, StR g'9 L'9 s (fun z => if z = Str.ofString "last" then some (.str (lastOf k) t3) else if z = Str.ofString "code" then some (.str (codeOf k) t2) else if z = Str.ofString "mark" then some (.str (markS k) t1) else List.lookup z [(Str.ofString "grains", .int g tg), (Str.ofString "kind", .int k tk)]) news s') ?_ ?_
    · k_steps
      · exact ⟨rfl, _, _, _, rfl, by rw [show lastOf k = Str.ofString "" from if_pos (by first | assumption | lia)]; k_asm, by k_asm⟩
      · exact ⟨rfl, _, _, _, rfl, by rw [show lastOf k = (markS k) from if_neg (by first | assumption | lia)]; k_asm, by k_asm⟩
    rintro s' ⟨t3, h7, tk7, rfl, F7, N7⟩
    clear F6 N6
    refine execs_consR (fun s' => ∃ t4, StR g'9 L'9 s (fun z => if z = Str.ofString "letter" then some (.str (letterOf k) t4) else if z = Str.ofString "last" then some (.str (lastOf k) t3) else if z = Str.ofString "code" then some (.str (codeOf k) t2) else if z = Str.ofString "mark" then some (.str (markS k) t1) else List.lookup z [(Str.ofString "grains", .int g tg), (Str.ofString "kind", .int k tk)]) news s') ?_ ?_
    · k_steps
      · exact ⟨rfl, _, _, _, rfl, by rw [show letterOf k = Str.ofString "x" from if_pos (by first | assumption | lia)]; k_asm, by k_asm⟩
      · exact ⟨rfl, _, _, _, rfl, by rw [show letterOf k = Str.ofString "" from if_neg (by first | assumption | lia)]; k_asm, by k_asm⟩
    rintro s' ⟨t4, h8, tk8, rfl, F8, N8⟩
    clear F7 N7
    have n1 : (markS k).length = 1 := by unfold markS; split; decide +kernel; split <;> decide +kernel
    have n2 : (codeOf k).length = 3 := by unfold codeOf; split <;> decide +kernel
    have n3 : (lastOf k).length ≤ 1 := by unfold lastOf; split; decide +kernel; exact Nat.le_of_eq n1
    have n4 : (letterOf k).length ≤ 1 := by unfold letterOf; split <;> decide +kernel
    have n5 : (Txt.mul (markS k) 3).length = 3 := by unfold markS; split; decide +kernel; split <;> decide +kernel
    k_steps
    refine doesRet hret (by k_asm) (by k_asm) ⟨⟨_, congrArg (fun z => Value.str z _) (rep_of h3 ?_ ?_ ?_ ?_ rfl ?_ ?_)⟩, rfl⟩
    · unfold codeOf; split <;> decide +kernel
    · decide +kernel
    · exact mark_mul k
    · unfold letterOf; split <;> decide +kernel
    · unfold lastOf; split; decide +kernel; exact mark_one k
    · decide +kernel
end Mine
end

section
theorem Mine.fresh12 : True := by k_with_none; w_top off; trivial
open PySem PySem.W PyProof.Rows PyProof.V PySem.Calls
set_option maxRecDepth 100000
set_option maxHeartbeats 8000000
namespace Mine
section
variable {prog : Program} {w : World} {A : Around} {E : Value → Shared → Prop} {s : Shared} {K : Frag} {C e t : Addr}
/-- an exception of an own class, its one argument a text -/
def OwnExc (K : Frag) (C e t : Addr) (x : Str) (u : Tok) (h : Heap) : Prop :=
  K.In h ∧ findIn K (.ref C) (Str.ofString "__str__") = some (some (.builtin "BaseException.__str__")) ∧ subIn K (.ref C) (.type "BaseException") = some true ∧
  (∃ o vs, h.get? e = some o ∧ o.cls = .ref C ∧ o.data = .fields vs ∧ vs[0]? = some (.ref t)) ∧ h.TupAt t [.str x u]
theorem own_special {x : Str} {u : Tok} {Q : Option Value → Shared → Prop} (O : OwnExc K C e t x u s.heap) (hq : Q (some (.str x u)) s) : wpAny (model prog w) A (callSpecial? (.ref e) (Str.ofString "__str__")) Q E s := by
  obtain ⟨X, hf, hs, ⟨o, vs, ho, hc, hd, h0⟩, ot, k, hto, htc, htd⟩ := O
  have lk : Looks (model prog w) s.heap (typeOf (.ref e)) (.ref C) := hc ▸ (Looks.ld ho).andThen .now
  have ls : Looks (model prog w) s.heap (specialOf (.ref e) (Str.ofString "__str__")) (some (.builtin "BaseException.__str__")) := lk.andThen (looks_findIn X hf)
  have li : Looks (model prog w) s.heap (isInstance (.ref e) (.type "BaseException")) true := lk.andThen (looks_subIn X hs)
  unfold callSpecial?
  refine wpAny_bind (ls A _ _ s (fun _ _ e => e) ?_)
  refine wpAny_holding ?_
  simp only [PySem.F.excStr_Exception.str.bind]
  refine wpAny_bind (wpAny_pure (wpAny_bind ?_))
  refine wpAny_call (codeAny_call_builtin PySem.F.excStr_Exception.str.plain PySem.F.entry_bexc_str (check_slot (i := "BaseException.__str__") (owner := "BaseException") (n := "__str__") (by decide +kernel) (by decide +kernel) li (PySem.F.args_bexc_str _) ?_))
  unfold Builtin.«BaseException.__str__»
  have hb : ∀ (A' : Around) (E' : Value → Shared → Prop) (Q' : Value × List Value → Shared → Prop), Q' (.ref t, [.str x u]) s → wpAny (model prog w) A' (Builtin.BaseException.bexcArgs (.ref e)) Q' E' s := by
    intro A' E' Q' q
    unfold Builtin.BaseException.bexcArgs
    refine wpAny_bind (wpAny_field ho hd h0 (wpAny_bind (wpAny_seqItems hto htd ?_)))
    have e : ([Value.str x u] : List Value).toArray.toList = [Value.str x u] := by simp
    show wpAny _ _ (pure (Value.ref t, _)) _ _ s
    rw [e]
    exact wpAny_pure q
  repeat (first | with_reducible refine hb _ _ _ ?_ | wp_step)
  exact hq
theorem own_strOf {x : Str} {u : Tok} {Q : Value → Shared → Prop} (hu : A.units < cLine) (O : OwnExc K C e t x u s.heap) (hq : Q (.str x u) s) : wpAny (model prog w) A (Builtin.Str.strOf (.ref e)) Q E s := by
  unfold Builtin.Str.strOf
  repeat (first | with_reducible refine wpAny_cRoomFor hu ?_ | with_reducible refine own_special O ?_ | wp_step)
  exact hq
theorem str_own {h₀ : Heap} {L : Addr} {news : List (Addr × Obj)} {x : Str} {u : Tok} {Q : Value → Shared → Prop} (X : K.In s.heap) (hf : findIn K (.ref C) (Str.ofString "__str__") = some (some (.builtin "BaseException.__str__"))) (hs : subIn K (.ref C) (.type "BaseException") = some true)
    (N : News h₀ L s.heap news) (G : Got news e t (.ref C) [.str x u]) (hu : A.units + 2 < cLine) (hq : Q (.str x u) s) : wpAny (model prog w) A (call (.type "str") [.ref e]) Q E s := by
  obtain ⟨oe, ot, ws, nt, h1, h2, hc, hd, h0, htc, htd⟩ := G
  have O : OwnExc K C e t x u s.heap := ⟨X, hf, hs, ⟨oe, ws, N.get h1, hc, hd, h0⟩, ⟨ot, nt, N.get h2, htc, htd⟩⟩
  exact callType_new PySem.F.called_str (by decide) (PySem.F.typeCall_str_1 _) (PySem.F.newCall_str_1 _) (fun obj => PySem.F.args_object_init_2 obj _) PySem.F.entry_str_new
    (meets_str_new (S := fun A' R s' => A'.units + 1 < cLine ∧ OwnExc K C e t x u s'.heap ∧ R (.ok (.ret (.str x u))) s')
      fun _ _ A' _ _ hq => own_strOf (A := A'.in1) hq.1 hq.2.1 hq.2.2)
    ⟨(show A.units + 1 + 1 < cLine from hu), O, typeIs_str _ _ _, hq⟩
end
end Mine
end

section
theorem Mine.fresh13 : True := by k_with_none; w_top off; trivial
open PySem PySem.W PyProof.Rows PyProof.V PySem.Calls
set_option maxRecDepth 100000
namespace Mine
open PySem.StrLaws Builtin Builtin.Str
theorem getD_at {x : Str} {P S : List Nat} {c : Nat} (h : x.cps.toList = P ++ c :: S) : x.cps.getD P.length 0 = c := by
  apply getD_of_getElem?
  rw [h]
  simp
theorem find3_char {x : Str} {A P S : List Nat} {c : Nat} {i : Int} (h : x.cps.toList = A ++ (P ++ c :: S)) (hc : c ∉ P) (hi : i = A.length) : Txt.find3 x ⟨#[c]⟩ i = (A.length + P.length : Nat) := by
  have hlen : x.length = A.length + (P.length + (S.length + 1)) := by
    show x.cps.size = _
    rw [← Array.length_toList, h]
    simp
  have hf : fromIndex x.length i = A.length := by
    subst hi
    unfold fromIndex
    rw [if_neg (by lia)]
    lia
  have hat : x.cps.getD (A.length + P.length) 0 = c := by
    have := getD_at (x := x) (P := A ++ P) (S := S) (c := c) (by rw [h]; simp)
    simpa using this
  have hno : ∀ v, A.length ≤ v → v < A.length + P.length → x.cps.getD v 0 ≠ c := by
    intro v h1 h2 e
    have hv : v < x.length := by lia
    have q := getElem?_of_getD hv e
    rw [h, List.getElem?_append_right h1, List.getElem?_append_left (by lia)] at q
    exact hc (List.mem_of_getElem? q)
  rcases find3_spec x c i with ⟨_, hn⟩ | ⟨k, hk, h1, h2, h3, h4⟩
  · exact absurd hat (hn _ (by rw [hf]; lia) (by lia))
  · rw [hf] at h1 h4
    rw [hk]
    rcases Nat.lt_trichotomy k (A.length + P.length) with q | q | q
    · exact absurd h3 (hno k h1 q)
    · rw [q]
    · exact absurd hat (h4 _ (by lia) q)
theorem find_char {x : Str} {P S : List Nat} {c : Nat} (h : x.cps.toList = P ++ c :: S) (hc : c ∉ P) : Txt.find x ⟨#[c]⟩ = (P.length : Nat) := by
  rw [find_is_find3]
  have := find3_char (x := x) (A := []) (P := P) (S := S) (c := c) (i := 0) (by simpa using h) hc rfl
  simpa using this
theorem slice_run {x : Str} {P M S : List Nat} {i j : Int} (h : x.cps.toList = P ++ (M ++ S)) (hi : i = P.length) (hj : j = P.length + M.length) : (Txt.slice x (some i) (some j)).cps.toList = M := by
  subst hi hj
  show (sliceText x (some _) (some _)).cps.toList = M
  rw [sliceText_plain (by rw [h]; simp; lia)]
  rw [h]
  have e : ((P.length : Int) + (M.length : Int) - (P.length : Int)).toNat = M.length := by lia
  simp [e]
theorem slice_upto {x : Str} {M S : List Nat} {j : Int} (h : x.cps.toList = M ++ S) (hj : j = M.length) : (Txt.slice x none (some j)).cps.toList = M := by
  subst hj
  show (sliceText x none (some _)).cps.toList = M
  rw [sliceText_to (by rw [h]; simp; lia)]
  rw [h]
  simp
/-- joined by one sign -/
def glue (c : Nat) : List (List Nat) → List Nat
  | [] => []
  | [x] => x
  | x :: r => x ++ c :: glue c r
theorem glue_inj (c : Nat) : ∀ (ps qs : List (List Nat)), ps ≠ [] → qs ≠ [] → (∀ p ∈ ps, c ∉ p) → (∀ q ∈ qs, c ∉ q) → glue c ps = glue c qs → ps = qs
  | [], _, h, _, _, _, _ => absurd rfl h
  | _ :: _, [], _, h, _, _, _ => absurd rfl h
  | [p], [q], _, _, _, _, e => by rw [show p = q from e]
  | [p], q :: q2 :: qs, _, _, hp, _, e => by
    exfalso
    have : c ∈ p := by rw [show p = q ++ c :: glue c (q2 :: qs) from e]; simp
    exact hp p (.head _) this
  | p :: p2 :: ps, [q], _, _, _, hq, e => by
    exfalso
    have : c ∈ q := by rw [show q = p ++ c :: glue c (p2 :: ps) from e.symm]; simp
    exact hq q (.head _) this
  | p :: p2 :: ps, q :: q2 :: qs, _, _, hp, hq, e => by
    have e' : p ++ c :: glue c (p2 :: ps) = q ++ c :: glue c (q2 :: qs) := e
    have hpc := hp p (.head _)
    have hqc := hq q (.head _)
    have key : p = q := by
      rcases List.append_eq_append_iff.mp e' with ⟨a, h1, h2⟩ | ⟨a, h1, h2⟩
      · cases a with
        | nil => rw [h1]; simp
        | cons b a =>
          exfalso
          injection h2 with h3 h4
          rw [h1, ← h3] at hqc
          simp at hqc
      · cases a with
        | nil => rw [h1]; simp
        | cons b a =>
          exfalso
          injection h2 with h3 h4
          rw [h1, ← h3] at hpc
          simp at hpc
    subst key
    have e2 := List.append_cancel_left e'
    injection e2 with _ e3
    rw [glue_inj c (p2 :: ps) (q2 :: qs) (by simp) (by simp) (fun r hr => hp r (.tail _ hr)) (fun r hr => hq r (.tail _ hr)) e3]
theorem join_glue (c : Nat) : ∀ ps : List Str, (Str.join ⟨#[c]⟩ ps).cps.toList = glue c (ps.map fun p => p.cps.toList)
  | [] => rfl
  | [p] => rfl
  | p :: q :: r => by
    have ih := join_glue c (q :: r)
    show (p ++ (⟨#[c]⟩ : Str) ++ Str.join ⟨#[c]⟩ (q :: r)).cps.toList = p.cps.toList ++ c :: glue c ((q :: r).map fun p => p.cps.toList)
    rw [← ih]
    simp [Str.cps_append]
theorem split_is {x : Str} {c : Nat} {qs : List (List Nat)} (h0 : qs ≠ []) (h : x.cps.toList = glue c qs) (hq : ∀ q ∈ qs, c ∉ q) : Txt.split x ⟨#[c]⟩ = qs.map fun q => (⟨q.toArray⟩ : Str) := by
  have hj := join_split x ⟨#[c]⟩
  have hf := split_free x c
  have hne : Txt.split x ⟨#[c]⟩ ≠ [] := by
    intro e
    unfold Txt.split at e
    split at e
    · cases e
    · split at e
      · cases e
      · rw [partsBetween_eq] at e
        obtain ⟨p, q, e2⟩ := partsFrom_ne x (⟨#[c]⟩ : Str).length 0 (occurrences x ⟨#[c]⟩ 0 x.length (x.length + 1))
        rw [e2] at e
        cases e
  generalize Txt.split x ⟨#[c]⟩ = ps at hj hf hne
  have e : glue c (ps.map fun p => p.cps.toList) = glue c qs := by rw [← join_glue, hj, h]
  have := glue_inj c _ _ (by simpa using hne) h0 (fun p hp => by obtain ⟨q, hq', rfl⟩ := List.mem_map.mp hp; exact hf q hq') hq e
  rw [← this, List.map_map]
  refine (List.map_id'' (fun p => ?_) ps).symm
  simp
end Mine
end

section
theorem Mine.fresh14 : True := by k_with_none; w_top off; trivial
open PySem PySem.W PyProof.Rows PyProof.V PySem.Calls
set_option maxRecDepth 100000
namespace Mine
open PySem.StrLaws Builtin Builtin.Str
theorem item_at {x : PySem.Str} {P S : List Nat} {c : Nat} {i : Int} (h : x.cps.toList = P ++ c :: S) (hi : i = P.length) : Txt.item x i = ⟨#[c]⟩ := by
  subst hi
  refine item_meets (by lia) ?_
  rw [← Array.getElem?_toList, h]
  simp
theorem len_of {x : PySem.Str} {l : List Nat} (h : x.cps.toList = l) : x.length = l.length := by
  show x.cps.size = _
  rw [← Array.length_toList, h]
/-- signs of a number's figures, or an x -/
def Plain (D : List Nat) : Prop := ∀ c ∈ D, (48 ≤ c ∧ c ≤ 57) ∨ c = 120
def isMark (m : Nat) : Prop := m = 124 ∨ m = 33 ∨ m = 47
theorem Plain.not {D : List Nat} (h : Plain D) {c : Nat} (hc : c < 48 ∨ (57 < c ∧ c ≠ 120)) : c ∉ D := fun q => by
  have := h c q; lia
/-- a reply with all its marks -/
structure Right (x : PySem.Str) (m : Nat) (D : List Nat) : Prop where
  len : x.length = 15 + D.length
  head : Txt.slice x none (some 3) = Str.ofString "229"
  left : (Txt.find x (Str.ofString "(") : Int) = 9
  right : (Txt.find3 x (Str.ofString ")") 10 : Int) = 14 + D.length
  one : Txt.item x 10 = ⟨#[m]⟩
  last : Txt.item x (13 + D.length) = ⟨#[m]⟩
  cut : (Txt.slice x (some 10) (some (14 + D.length))).length = 4 + D.length
  parts : Txt.split (Txt.slice x (some 10) (some (14 + D.length))) ⟨#[m]⟩ = [⟨#[]⟩, ⟨#[]⟩, ⟨#[]⟩, ⟨D.toArray⟩, ⟨#[]⟩]
theorem right_of {x : PySem.Str} {m : Nat} {D : List Nat} (h : x.cps.toList = [50, 50, 57] ++ ([32, 104, 101, 97, 112, 32] ++ (40 :: ([m, m, m] ++ (D ++ ([m] ++ [41])))))) (hm : isMark m) (hD : Plain D) : Right x m D := by
  have hmD : m ∉ D := hD.not (by rcases hm with rfl | rfl | rfl <;> lia)
  have hb : (Txt.slice x (some 10) (some (14 + D.length))).cps.toList = [m, m, m] ++ (D ++ [m]) := by
    refine slice_run (P := [50, 50, 57, 32, 104, 101, 97, 112, 32, 40]) (M := [m, m, m] ++ (D ++ [m])) (S := [41]) ?_ rfl ?_
    · rw [h]; simp
    · simp; lia
  refine ⟨?_, ?_, ?_, ?_, ?_, ?_, ?_, ?_⟩
  · rw [len_of h]; simp; lia
  · exact (str_ext (slice_upto h rfl)).trans (by decide +kernel)
  · have e : (Str.ofString "(" : PySem.Str) = ⟨#[40]⟩ := by decide +kernel
    rw [e]
    exact find_char (P := [50, 50, 57, 32, 104, 101, 97, 112, 32]) (S := [m, m, m] ++ (D ++ ([m] ++ [41]))) (by rw [h]; simp) (by decide)
  · have e : (Str.ofString ")" : PySem.Str) = ⟨#[41]⟩ := by decide +kernel
    rw [e]
    refine (find3_char (A := [50, 50, 57, 32, 104, 101, 97, 112, 32, 40]) (P := [m, m, m] ++ (D ++ [m])) (S := []) (c := 41) (i := 10) (by rw [h]; simp) ?_ rfl).trans ?_
    rotate_left
    · simp; lia
    · have := hD.not (c := 41) (by lia)
      simp
      rcases hm with rfl | rfl | rfl <;> simp [this]
  · exact item_at (P := [50, 50, 57, 32, 104, 101, 97, 112, 32, 40]) (S := [m, m] ++ (D ++ ([m] ++ [41]))) (by rw [h]; simp) rfl
  · refine item_at (P := [50, 50, 57, 32, 104, 101, 97, 112, 32, 40, m, m, m] ++ D) (S := [41]) (by rw [h]; simp) ?_
    simp; lia
  · rw [len_of hb]; simp; lia
  · refine (split_is (c := m) (qs := [[], [], [], D, []]) (by simp) (by rw [hb]; simp [glue]) ?_).trans ?_
    · intro q hq
      simp at hq
      rcases hq with hq | hq | hq <;> subst hq <;> simp [hmD]
    · simp
/-- a reply without its last mark -/
structure Short (x : PySem.Str) (m : Nat) (D : List Nat) : Prop where
  len : x.length = 14 + D.length
  head : Txt.slice x none (some 3) = Str.ofString "229"
  left : (Txt.find x (Str.ofString "(") : Int) = 9
  right : (Txt.find3 x (Str.ofString ")") 10 : Int) = 13 + D.length
  one : Txt.item x 10 = ⟨#[m]⟩
  last : ∃ c, Txt.item x (12 + D.length) = ⟨#[c]⟩ ∧ c ≠ m
theorem short_of {x : PySem.Str} {m : Nat} {D : List Nat} (h : x.cps.toList = [50, 50, 57] ++ ([32, 104, 101, 97, 112, 32] ++ (40 :: ([m, m, m] ++ (D ++ [41]))))) (hm : isMark m) (hD : Plain D) (h0 : D ≠ []) : Short x m D := by
  have hmD : m ∉ D := hD.not (by rcases hm with rfl | rfl | rfl <;> lia)
  refine ⟨?_, ?_, ?_, ?_, ?_, ?_⟩
  · rw [len_of h]; simp; lia
  · exact (str_ext (slice_upto h rfl)).trans (by decide +kernel)
  · have e : (Str.ofString "(" : PySem.Str) = ⟨#[40]⟩ := by decide +kernel
    rw [e]
    exact find_char (P := [50, 50, 57, 32, 104, 101, 97, 112, 32]) (S := [m, m, m] ++ (D ++ [41])) (by rw [h]; simp) (by decide)
  · have e : (Str.ofString ")" : PySem.Str) = ⟨#[41]⟩ := by decide +kernel
    rw [e]
    refine (find3_char (A := [50, 50, 57, 32, 104, 101, 97, 112, 32, 40]) (P := [m, m, m] ++ D) (S := []) (c := 41) (i := 10) (by rw [h]; simp) ?_ rfl).trans ?_
    rotate_left
    · simp; lia
    · have := hD.not (c := 41) (by lia)
      simp
      rcases hm with rfl | rfl | rfl <;> simp [this]
  · exact item_at (P := [50, 50, 57, 32, 104, 101, 97, 112, 32, 40]) (S := [m, m] ++ (D ++ [41])) (by rw [h]; simp) rfl
  · obtain ⟨D', c, rfl⟩ : ∃ D' c, D = D' ++ [c] := ⟨D.dropLast, D.getLast h0, (List.dropLast_concat_getLast h0).symm⟩
    refine ⟨c, item_at (P := [50, 50, 57, 32, 104, 101, 97, 112, 32, 40, m, m, m] ++ D') (S := [41]) (by rw [h]; simp) ?_, fun e => hmD (by simp [e])⟩
    simp; lia
theorem figs_plain (g : Int) : Plain (figs g) := fun c hc => .inl (figs_are g c hc)
theorem markOf_mark (k : Int) : isMark (markOf k) := by
  unfold markOf isMark; split
  · simp
  · split <;> simp
theorem figs_len {g : Int} (h0 : 0 ≤ g) (h1 : g < 1500) : 1 ≤ (figs g).length ∧ (figs g).length ≤ 10 := by
  have a := KT.len_num (n := g) h0 (by lia)
  rw [len_of (figs_of h0)] at a
  refine ⟨?_, a⟩
  unfold figs
  rw [List.length_map]
  exact toDigits_len_ge 10 g.toNat
theorem rep_list (k g : Int) : (Rep k g).cps.toList = repl k g := by simp [Rep]
theorem rep_right {k g : Int} (h : k = 0 ∨ k = 1 ∨ k = 2) : Right (Rep k g) (markOf k) (figs g) :=
  right_of (by rw [rep_list]; unfold repl; rw [if_neg (by lia), if_neg (by lia), if_neg (by lia)]; simp) (markOf_mark k) (figs_plain g)
theorem rep_five (g : Int) : Right (Rep 5 g) 47 (120 :: figs g) :=
  right_of (by rw [rep_list]; simp [repl, markOf]) (.inr (.inr rfl)) (fun c hc => by rcases List.mem_cons.mp hc with rfl | hc; exact .inr rfl; exact figs_plain g c hc)
theorem rep_four {g : Int} (h0 : 0 ≤ g) (h1 : g < 1500) : Short (Rep 4 g) 33 (figs g) :=
  short_of (by rw [rep_list]; simp [repl, markOf]) (.inr (.inl rfl)) (figs_plain g) (fun e => by have := (figs_len h0 h1).1; rw [e] at this; simp at this)
theorem rep_three (g : Int) : Txt.slice (Rep 3 g) none (some 3) = Str.ofString "250" := by
  refine (str_ext (slice_upto (M := [50, 53, 48]) (S := (repl 3 g).drop 3) (by rw [rep_list]; simp [repl]) rfl)).trans (by decide +kernel)
theorem rep_len {k g : Int} (h0 : 0 ≤ g) (h1 : g < 1500) : 13 ≤ (Rep k g).length ∧ (Rep k g).length ≤ 30 := by
  have := figs_len h0 h1
  rw [len_of (rep_list k g)]
  unfold repl
  simp only [List.length_append, List.length_cons, List.length_nil]
  (repeat' split) <;> simp <;> lia
theorem figs_str {g : Int} (h0 : 0 ≤ g) : (⟨(figs g).toArray⟩ : PySem.Str) = Str.ofString (toString g) := (str_ext (figs_of h0)).symm
theorem rep_signs (k g : Int) : ∀ c ∈ repl k g, c < 200 := by
  have hm : markOf k < 200 := by rcases markOf_mark k with e | e | e <;> rw [e] <;> decide
  have hf := figs_are g
  unfold repl
  intro c hc
  simp only [List.mem_append, List.mem_cons, List.not_mem_nil, or_false] at hc
  rcases hc with hc | hc | hc | hc | hc | hc | hc | hc
  · split at hc <;> simp at hc <;> lia
  · lia
  · lia
  · lia
  · split at hc <;> simp at hc <;> lia
  · have := hf c hc; lia
  · split at hc <;> simp at hc <;> lia
  · lia
theorem rep_shaped (a k g : Int) : SeqAt.shaped (.tuple [.int a, .str (Rep k g)]) = true := by
  have h : (Rep k g).cps.all (· < 0x110000) = true := by
    rw [← Array.all_toList, rep_list, List.all_eq_true]
    intro c hc
    have := rep_signs k g c hc
    simp; lia
  have h' : PyData.strOk (Rep k g) = true := h
  simp only [SeqAt.shaped, PyData.canLay0, PyData.canLayAll0, h']
  rfl
end Mine
end

section
theorem Mine.fresh15 : True := by k_with_none; w_top off; trivial
open PySem PySem.W PyProof.Rows PyProof.V
set_option maxRecDepth 100000
set_option maxHeartbeats 8000000
namespace Mine
/-- what the call hands on, the frames below turned -/
def DoesRetS (fs : List Addr) (A₀ : Around) (base : Heap) (outer : List Env) (w : World) (mean : ExcName → Option Value) (mg mb : Str → Option Value) (g₀ : Heap) (L : Addr) (m : Str → Option Value) (s : Shared) (Post : Value → List (Addr × Obj) → Prop) (Q : Value → Shared → Prop) : Prop :=
  ∀ v news' h' tk' h₀', KtsTurn fs g₀ h₀' → Fr h₀' L h' m → News h₀' L h' news' → Below A₀ base outer h₀' → (hd.heap_39 w.params).In h₀' → Top hd.view_39 (looseW hd.view_39 []) mean mg mb h₀' → KtsDicts fs h₀' → Post v news' → Q v { s with heap := h', toks := tk' }
def DoesS (w : World) (f : Addr) (k : Nat) (news : List (Addr × Obj)) (vs : List Value) (Post : Value → List (Addr × Obj) → Prop) : Prop :=
  ∀ (dp un : Nat) (gd : Option (List Code)) (cn : Str) (cs : Scope) (a : Addr) (ccd : Value) (outer : List Env) (A₀ : Around) (base g₀ h₀ : Heap) (L : Addr) (m : Str → Option Value) (s : Shared)
    (mean : ExcName → Option Value) (mg mb : Str → Option Value) (Q E : Value → Shared → Prop),
    Below A₀ base outer h₀ → Fr h₀ L s.heap m → (hd.heap_39 w.params).In h₀ → News h₀ L s.heap news → Top hd.view_39 (looseW hd.view_39 []) mean mg mb h₀ → (hd.heap_39 w.params).In base → Top hd.view_39 (looseW hd.view_39 []) mean mg mb base →
    KtsDicts (outer.filterMap (·.frame)) h₀ → KtsTurn (outer.filterMap (·.frame)) g₀ h₀ → cs.kind = .function → dp + k < recursionLimit → un + 8 * k < cLine →
    DoesRetS (outer.filterMap (·.frame)) A₀ base outer w mean mg mb g₀ L m s Post Q →
    wpAny (model PySem.Challenge.rw_zd0004_01.row.prog w) (ktrTop dp un gd cn cs L a ccd [] outer) (call (.ref f) vs) Q E s
section
open PySem.Calls
variable {prog : Program} {w : World} {A : Around} {E : Value → Shared → Prop} {s : Shared} {x y z : PySem.Str} {t u v : Tok} {Q : Value → Shared → Prop} {i j : Int}
theorem find3_here (e : (Txt.find3 x z j : Int) = i) (h : ∀ t' k, Q (.int i t') { s with toks := k }) : wpAny (model prog w) A (call (.builtin "str.find") [.str x t, .str z u, .int j v]) Q E s := SC.find3 (by rw [e]; exact h _ _)
end
theorem doesRetS {fs : List Addr} {A₀ : Around} {base : Heap} {outer : List Env} {w : World} {mean : ExcName → Option Value} {mg mb : Str → Option Value} {g₀ : Heap} {L : Addr} {m : Str → Option Value} {s : Shared} {Post : Value → List (Addr × Obj) → Prop} {Q : Value → Shared → Prop}
    (R : DoesRetS fs A₀ base outer w mean mg mb g₀ L m s Post Q) {v : Value} {news' news'' : List (Addr × Obj)} {h' h₀' : Heap} {tk' : Nat} (F : Fr h₀' L h' m) (N : News h₀' L h' news'') (T : KtsTurn fs g₀ h₀') (B : Below A₀ base outer h₀') (X : (hd.heap_39 w.params).In h₀')
    (TT : Top hd.view_39 (looseW hd.view_39 []) mean mg mb h₀') (D : KtsDicts fs h₀') (sub : ∀ p ∈ news', p ∈ news'') (P : Post v news') : Q v { s with heap := h', toks := tk' } := R v news' h' tk' h₀' T F (fun p hp => N p (sub p hp)) B X TT D P
theorem retS_top {fs : List Addr} {A₀ : Around} {base : Heap} {outer : List Env} {w : World} {mean : ExcName → Option Value} {mg mb : Str → Option Value} {g₀ : Heap} {L : Addr} {m : Str → Option Value} {s : Shared} {Post : Value → List (Addr × Obj) → Prop} {Q : Value → Shared → Prop}
    (R : DoesRetS fs A₀ base outer w mean mg mb g₀ L m s Post Q) (news : List (Addr × Obj)) {v : Value} {q : Addr × Obj} {news'' : List (Addr × Obj)} {h' h₀' : Heap} {tk' : Nat} (F : Fr h₀' L h' m) (N : News h₀' L h' (q :: news'')) (T : KtsTurn fs g₀ h₀') (B : Below A₀ base outer h₀') (X : (hd.heap_39 w.params).In h₀')
    (TT : Top hd.view_39 (looseW hd.view_39 []) mean mg mb h₀') (D : KtsDicts fs h₀') (sub : ∀ p ∈ news, p ∈ news'') (P : Post v (q :: news)) : Q v { s with heap := h', toks := tk' } :=
  doesRetS R F N T B X TT D (fun p hp => by rcases List.mem_cons.mp hp with rfl | hp; exact List.mem_cons_self; exact List.mem_cons_of_mem _ (sub p hp)) P
theorem sub_refl (l : List (Addr × Obj)) : ∀ p ∈ l, p ∈ l := fun _ h => h
theorem sub_cons {l l' : List (Addr × Obj)} {q : Addr × Obj} (h : ∀ p ∈ l, p ∈ l') : ∀ p ∈ l, p ∈ q :: l' := fun p hp => List.mem_cons_of_mem _ (h p hp)
/-- a pair, newly made -/
def Pair (a b : Value) (news : List (Addr × Obj)) (v : Value) (n' : List (Addr × Obj)) : Prop := ∃ D, v = .ref D ∧ n' = (D, { cls := .type "tuple", data := .seq #[a, b] }) :: news
end Mine
end

section
theorem Mine.fresh16 : True := by k_with_none; w_top off; trivial
open PySem PySem.W PyProof.Rows PyProof.V
set_option maxRecDepth 100000
set_option maxHeartbeats 8000000
namespace Mine
section
open PySem.Calls
variable {prog : Program} {w : World} {A : Around} {E : Value → Shared → Prop} {s : Shared} {K : Frag} {C e t : Addr}
theorem str_ownF {h₀ : Heap} {L : Addr} {m : Str → Option Value} {news : List (Addr × Obj)} {x : PySem.Str} {u : Tok} {Q : Value → Shared → Prop} (X : K.In h₀) (F : Fr h₀ L s.heap m) (hf : findIn K (.ref C) (PySem.Str.ofString "__str__") = some (some (.builtin "BaseException.__str__"))) (hs : subIn K (.ref C) (.type "BaseException") = some true)
    (N : News h₀ L s.heap news) (G : Got news e t (.ref C) [.str x u]) (hu : A.units + 2 < cLine) (hq : Q (.str x u) s) : wpAny (model prog w) A (call (.type "str") [.ref e]) Q E s :=
  str_own (X.keeps F.keep) hf hs N G hu hq
end
theorem c_heard_short (w : World) (news : List (Addr × Obj)) (x : Str) (m : Nat) (Dg : List Nat) (hp : Int) (tk tg : Tok) (R : Short x m Dg) (hn1 : 1 ≤ Dg.length) (hn2 : Dg.length ≤ 10) :
    DoesS w 128 2 news [.str x tk, .int hp tg] (fun v n' => ∃ t1 t2, Pair (.int 4 t1) (.str x t2) news v n') := by
  obtain ⟨r1, r2, r3, r4, r5, c, r6, r7⟩ := R
  generalize hn : Dg.length = n at *
  replace r4 : (Txt.find3 x (Str.ofString ")") (9 + 1) : Int) = 13 + n := r4
  have r5' : Txt.item x (9 + 1) = ⟨#[m]⟩ := r5
  have r6' : Txt.item x (13 + n - 1) = ⟨#[c]⟩ := by rw [show (13 + (n : Int) - 1) = 12 + n by lia]; exact r6
  k_with_none
  k_with "doesS_open" => ((unfold DoesS; k_fill; intro dp_doesSopen un_doesSopen gd_doesSopen cn_doesSopen cs_doesSopen a_doesSopen ccd_doesSopen outer_doesSopen A0_doesSopen base_doesSopen g0_doesSopen h0_doesSopen L_doesSopen m_doesSopen s_doesSopen mean_doesSopen mg_doesSopen mb_doesSopen Q_doesSopen E_doesSopen B_doesSopen F_doesSopen X_doesSopen N_doesSopen T_doesSopen XB_doesSopen TB_doesSopen D_doesSopen T0_doesSopen hk_doesSopen hdp_doesSopen hun_doesSopen hret_doesSopen; refine wpAny_call ?_; (k_dflt (refine' code_defS ?k1_doesSopen ?k2_doesSopen ?k3_doesSopen ?k4_doesSopen ?k5_doesSopen ?XB_doesSopen ?TB_doesSopen ?D_doesSopen ?T0_doesSopen ?kA_doesSopen ?k6_doesSopen ?k7_doesSopen ?k8_doesSopen ?k9_doesSopen ?kB_doesSopen ?_ ?cK_doesSopen ?c2_doesSopen ?c3_doesSopen ?c4_doesSopen ?c5_doesSopen; (case kA_doesSopen => exact rfl); (case k2_doesSopen => k_asm); (case k1_doesSopen => k_asm); (case XB_doesSopen => assumption); (case TB_doesSopen => assumption); (case D_doesSopen => assumption); (case T0_doesSopen => assumption); (case k3_doesSopen => k_asm); (case k4_doesSopen => k_asm); (case k5_doesSopen => k_asm); (case k6_doesSopen => k_is); (case k7_doesSopen => k_is); (case k8_doesSopen => ktr_room); (case k9_doesSopen => exact BindsTo.of_eq rfl); (case kB_doesSopen => exact locs rfl); (case cK_doesSopen => assumption); (case c2_doesSopen => exact rfl); (case c3_doesSopen => exact rfl); (case c4_doesSopen => exact rfl); (case c5_doesSopen => decide); k_whole; intro g'_doesSopen L'_doesSopen h'_doesSopen FG'_doesSopen F'_doesSopen N'_doesSopen B'_doesSopen X'_doesSopen T'_doesSopen D'_doesSopen; (try dsimp only); (try k_lift B'_doesSopen); (try k_fold)))))
  k_with "enter_here" => ((refine wpAny_call ?_; (k_dflt (refine' code_def ?k1_enterhere ?k2_enterhere ?k3_enterhere ?k4_enterhere ?k5_enterhere ?kA_enterhere ?kF_enterhere ?kK_enterhere ?k6_enterhere ?k7_enterhere ?k8_enterhere ?k9_enterhere ?kB_enterhere ?_ ?c2_enterhere ?c3_enterhere ?c4_enterhere ?c5_enterhere; (case kA_enterhere => exact rfl); (case kF_enterhere => exact rfl); (case kK_enterhere => first | exact rfl | assumption); (case k1_enterhere => k_asm); (case k2_enterhere => k_asm); (case k3_enterhere => k_asm); (case k4_enterhere => k_asm); (case k5_enterhere => k_asm); (case k6_enterhere => k_is); (case k7_enterhere => k_is); (case k8_enterhere => ktr_room); (case k9_enterhere => exact BindsTo.of_eq rfl); (case c5_enterhere => decide); (case kB_enterhere => exact locs rfl); (case c2_enterhere => exact rfl); (case c3_enterhere => exact rfl); (case c4_enterhere => exact rfl); k_whole; intro g'_enterhere L'_enterhere h'_enterhere FG'_enterhere F'_enterhere N'_enterhere B'_enterhere X'_enterhere T'_enterhere; (try dsimp only); (try k_lift B'_enterhere); (try k_fold)))))
  walk_at "doesS_open"
  k_with "call ref" => walk_at "enter_here"
  k_with "call builtin:str.find" => (first | (refine KXw.find r3 ?_; intro _ _) | (refine find3_here r4 ?_; intro _ _))
  k_with "call builtin:str.split" => (exfalso; (rename (Txt.item _ _ != Txt.item _ _) = false => hne); rw [r5', r6'] at hne; simp at hne; exact r7 hne.symm)
  k_with "call type:str" => (with_unfolding_all refine' str_ownF ?o0 ?o1 ?o2 ?o3 ?o4 ?o5 ?o6 ?_; (case o5 => assumption); (case o4 => k_asm); (case o0 => assumption); (case o1 => k_asm); (case o2 => k_is); (case o3 => k_is); (case o6 => ktr_units))
  k_steps
  all_goals first
    | (exfalso; (rename (Txt.slice _ _ _ != _) = true => hne); rw [r2] at hne; revert hne; decide +kernel)
    | (refine retS_top (by assumption) news (by k_asm) (by k_asm) (by assumption) (by assumption) (by assumption) (by assumption) (by assumption) (by repeat (first | exact sub_refl _ | refine sub_cons ?_)) ?_; exact ⟨_, _, _, rfl, rfl⟩)
theorem c_heard_three (w : World) (news : List (Addr × Obj)) (x : Str) (hp : Int) (tk tg : Tok) (r2 : Txt.slice x none (some 3) = Str.ofString "250") (hl : x.length ≤ 30) :
    DoesS w 128 2 news [.str x tk, .int hp tg] (fun v n' => ∃ t1 t2, Pair (.int 3 t1) (.str x t2) news v n') := by
  k_with_none
  k_with "doesS_open" => ((unfold DoesS; k_fill; intro dp_doesSopen un_doesSopen gd_doesSopen cn_doesSopen cs_doesSopen a_doesSopen ccd_doesSopen outer_doesSopen A0_doesSopen base_doesSopen g0_doesSopen h0_doesSopen L_doesSopen m_doesSopen s_doesSopen mean_doesSopen mg_doesSopen mb_doesSopen Q_doesSopen E_doesSopen B_doesSopen F_doesSopen X_doesSopen N_doesSopen T_doesSopen XB_doesSopen TB_doesSopen D_doesSopen T0_doesSopen hk_doesSopen hdp_doesSopen hun_doesSopen hret_doesSopen; refine wpAny_call ?_; (k_dflt (refine' code_defS ?k1_doesSopen ?k2_doesSopen ?k3_doesSopen ?k4_doesSopen ?k5_doesSopen ?XB_doesSopen ?TB_doesSopen ?D_doesSopen ?T0_doesSopen ?kA_doesSopen ?k6_doesSopen ?k7_doesSopen ?k8_doesSopen ?k9_doesSopen ?kB_doesSopen ?_ ?cK_doesSopen ?c2_doesSopen ?c3_doesSopen ?c4_doesSopen ?c5_doesSopen; (case kA_doesSopen => exact rfl); (case k2_doesSopen => k_asm); (case k1_doesSopen => k_asm); (case XB_doesSopen => assumption); (case TB_doesSopen => assumption); (case D_doesSopen => assumption); (case T0_doesSopen => assumption); (case k3_doesSopen => k_asm); (case k4_doesSopen => k_asm); (case k5_doesSopen => k_asm); (case k6_doesSopen => k_is); (case k7_doesSopen => k_is); (case k8_doesSopen => ktr_room); (case k9_doesSopen => exact BindsTo.of_eq rfl); (case kB_doesSopen => exact locs rfl); (case cK_doesSopen => assumption); (case c2_doesSopen => exact rfl); (case c3_doesSopen => exact rfl); (case c4_doesSopen => exact rfl); (case c5_doesSopen => decide); k_whole; intro g'_doesSopen L'_doesSopen h'_doesSopen FG'_doesSopen F'_doesSopen N'_doesSopen B'_doesSopen X'_doesSopen T'_doesSopen D'_doesSopen; (try dsimp only); (try k_lift B'_doesSopen); (try k_fold)))))
  k_with "enter_here" => ((refine wpAny_call ?_; (k_dflt (refine' code_def ?k1_enterhere ?k2_enterhere ?k3_enterhere ?k4_enterhere ?k5_enterhere ?kA_enterhere ?kF_enterhere ?kK_enterhere ?k6_enterhere ?k7_enterhere ?k8_enterhere ?k9_enterhere ?kB_enterhere ?_ ?c2_enterhere ?c3_enterhere ?c4_enterhere ?c5_enterhere; (case kA_enterhere => exact rfl); (case kF_enterhere => exact rfl); (case kK_enterhere => first | exact rfl | assumption); (case k1_enterhere => k_asm); (case k2_enterhere => k_asm); (case k3_enterhere => k_asm); (case k4_enterhere => k_asm); (case k5_enterhere => k_asm); (case k6_enterhere => k_is); (case k7_enterhere => k_is); (case k8_enterhere => ktr_room); (case k9_enterhere => exact BindsTo.of_eq rfl); (case c5_enterhere => decide); (case kB_enterhere => exact locs rfl); (case c2_enterhere => exact rfl); (case c3_enterhere => exact rfl); (case c4_enterhere => exact rfl); k_whole; intro g'_enterhere L'_enterhere h'_enterhere FG'_enterhere F'_enterhere N'_enterhere B'_enterhere X'_enterhere T'_enterhere; (try dsimp only); (try k_lift B'_enterhere); (try k_fold)))))
  walk_at "doesS_open"
  k_with "call ref" => walk_at "enter_here"
  k_with "call builtin:str.find" => (exfalso; (rename (Txt.slice _ _ _ != _) = false => hne); rw [r2] at hne; revert hne; decide +kernel)
  k_with "call type:str" => (with_unfolding_all refine' str_ownF ?o0 ?o1 ?o2 ?o3 ?o4 ?o5 ?o6 ?_; (case o5 => assumption); (case o4 => k_asm); (case o0 => assumption); (case o1 => k_asm); (case o2 => k_is); (case o3 => k_is); (case o6 => ktr_units))
  k_steps
  all_goals (refine retS_top (by assumption) news (by k_asm) (by k_asm) (by assumption) (by assumption) (by assumption) (by assumption) (by assumption) (by repeat (first | exact sub_refl _ | refine sub_cons ?_)) ?_; exact ⟨_, _, _, rfl, rfl⟩)
end Mine
end

section
theorem Mine.fresh17 : True := by k_with_none; w_top off; trivial
open PySem PySem.W PyProof.Rows PyProof.V PySem.Calls
set_option maxRecDepth 100000
set_option maxHeartbeats 8000000
namespace Mine
section
variable {prog : Program} {w : World} {A A₀ : Around} {E : Value → Shared → Prop} {s : Shared} {K : Frag} {L : Addr} {h₀ base g₀ : Heap} {m mg mb : PySem.Str → Option Value} {news : List (Addr × Obj)} {p : Program} {loose : List PySem.Str} {mean : ExcName → Option Value} {env : Env} {outer : List Env}
  {R : Result → Shared → Prop} {name qual : PySem.Str} {params : Arguments} {body : List Stmt} {scope : Scope} {dV kV doc pm cdv ct oc : Value} {an od : Option Addr} {osl : Array (Option Value)} {f : Addr} {args : Args} {binds : List (PySem.Str × Value)}
theorem C_execs_consA {M : Model} {st rest} {Q : Flow → Shared → Prop} (h : wpAny M A (exec st env) (fun f s' => match f with | .next => wpC M A (execs rest env) Q E s' | f => Q f s') E s) : wpC M A (execs (st :: rest) env) Q E s :=
  C_execs_cons (C_any h)
theorem codeC_def (B : Below A₀ base outer h₀) (F : Fr h₀ L s.heap m) (X₀ : K.In h₀) (N : News h₀ L s.heap news) (T : Top p loose mean mg mb h₀) (hA : A.frames = some (env :: outer)) (hf : env.frame = some L) (hke : env.scope.kind = .function)
    (ho : K.lookup f = some ⟨oc, od, .func (fnOf name qual params body scope dV kV doc pm an cdv ct), osl⟩) (hcd : codeIn K cdv qual = true) (hroom : A.depth < recursionLimit)
    (hbind : BindsTo s (fnOf name qual params body scope dV kV doc pm an cdv ct) args binds) (hloc : ∀ y ∈ binds, scope.names.lookup y.1 = some .local)
    (h : ∀ g L' h₁, Fr h₀ L g m → Fr g L' h₁ (fun y => binds.reverse.lookup y) → News g L' h₁ news → Below A base (env :: outer) g → K.In g → Top p loose mean mg mb g →
      wpC (model prog w) (A.deeper (envOf qual scope L' f cdv)) (execs body (envOf qual scope L' f cdv))
        (fun fl s' => LeaveK h₀ L m g R (match fl with | .ret v => v | _ => .none) s')
        (fun e s' => wpAny (model prog w) (A.deeper (envOf qual scope L' f cdv)) (leaving (envOf qual scope L' f cdv) e) (fun _ s'' => R (.error e) s'') (fun e' s'' => R (.error e') s'') s')
        { s with heap := h₁, toks := s.toks + binds.length })
    (hco : scope.isCoroutine = false) (hgen : scope.isGenerator = false) (hk : scope.kind = .function)
    (hcell : ∀ x ∈ scope.names, x.2 ≠ .cell) : codeC (model prog w) A (.call (.ref f) args) R s := by
  obtain ⟨FG, BG, st, lv⟩ := groundX (R := R) B F N hA hf hke
  refine codeC_call_def (fd := fnOf name qual params body scope dV kV doc pm an cdv ct) (body := body) (binds := binds) hroom ((X₀.keeps F.keep) _ _ ho) rfl (T.nolimit.keeps F.keep) (codeRec_of (X₀.keeps F.keep) hcd) rfl hbind hcell hloc (fun h₁ hns hk₁ => ?_) hco hgen hk
  exact C_mono (h _ s.heap.objs.size h₁ FG ⟨hns, fun b o e => hk₁ b o (of_hideAll _ e), Nat.le_of_eq (hideAll_size _ _)⟩
    (fun p hp => ⟨hk₁ _ _ (N p hp).1, Nat.ne_of_lt (Heap.lt_size (N p hp).1), hideAll_none _ (List.mem_map_of_mem hp)⟩) BG (X₀.keeps st) (T.keeps st)) (fun fl s' hl => lv _ _ hl) fun _ _ y => y
/-- what stands of the caller's frame -/
theorem ents (R : Result → Shared → Prop) (B : Below A₀ base outer h₀) (F : Fr h₀ L s.heap m) (N : News h₀ L s.heap news) (hA : A.frames = some (env :: outer)) (hf : env.frame = some L) (hke : env.scope.kind = .function) :
    ∃ oL es ep, (hideAll s.heap (news.map (·.1))).get? L = some oL ∧ oL.data = .dict es ep ∧ (∀ h', h'.get? L = some oL → Heap.Ns h' L m) ∧ (∀ (sl : Array (Option Value)) h', h'.get? L = some { oL with slots := sl } → Heap.Ns h' L m) ∧
      h₀.StaysIn (hideAll s.heap (news.map (·.1))) ∧ Below A base (env :: outer) (hideAll s.heap (news.map (·.1))) := by
  obtain ⟨FG, BG, st, _⟩ := groundX (R := R) B F N hA hf hke
  obtain ⟨oL, es, ep, hL, hLd, hLk, hLf⟩ := F.ns
  have nL : L ∉ news.map (·.1) := fun q => by
    obtain ⟨p, hp, e⟩ := List.mem_map.mp q
    exact (N p hp).2.1 e
  exact ⟨oL, es, ep, hideAll_get (news.map (·.1)) hL nL, hLd, fun h' e => ⟨oL, es, ep, e, hLd, hLk, hLf⟩, fun sl h' e => ⟨_, es, ep, e, hLd, hLk, hLf⟩, st, BG⟩
theorem codeC_defS0 (B : Below A₀ base [] h₀) (F : Fr h₀ L s.heap m) (X₀ : K.In h₀) (N : News h₀ L s.heap news) (T : Top p loose mean mg mb h₀) (hA : A.frames = some [env]) (hf : env.frame = some L) (hke : env.scope.kind = .function)
    (ho : K.lookup f = some ⟨oc, od, .func (fnOf name qual params body scope dV kV doc pm an cdv ct), osl⟩) (hcd : codeIn K cdv qual = true) (hroom : A.depth < recursionLimit)
    (hbind : BindsTo s (fnOf name qual params body scope dV kV doc pm an cdv ct) args binds) (hloc : ∀ y ∈ binds, scope.names.lookup y.1 = some .local)
    (h : ∀ g L' h₁, Fr h₀ L g m → Fr g L' h₁ (fun y => binds.reverse.lookup y) → News g L' h₁ news → Below A base [env] g → K.In g → Top p loose mean mg mb g → KtsDicts [L] g →
      wpC (model prog w) (A.deeper (envOf qual scope L' f cdv)) (execs body (envOf qual scope L' f cdv))
        (fun fl s' => LeaveS0 [L] h₀ L m g R (match fl with | .ret v => v | _ => .none) s')
        (fun e s' => wpAny (model prog w) (A.deeper (envOf qual scope L' f cdv)) (leaving (envOf qual scope L' f cdv) e) (fun _ s'' => R (.error e) s'') (fun e' s'' => R (.error e') s'') s')
        { s with heap := h₁, toks := s.toks + binds.length })
    (hco : scope.isCoroutine = false) (hgen : scope.isGenerator = false) (hk : scope.kind = .function)
    (hcell : ∀ x ∈ scope.names, x.2 ≠ .cell) : codeC (model prog w) A (.call (.ref f) args) R s := by
  have X := X₀.keeps F.keep
  refine codeC_call_def (fd := fnOf name qual params body scope dV kV doc pm an cdv ct) (body := body) (binds := binds) hroom (X _ _ ho) rfl (T.nolimit.keeps F.keep) (codeRec_of X hcd) rfl hbind hcell hloc (fun h₁ hns hk₁ => ?_) hco hgen hk
  obtain ⟨oL, es, ep, hLg, hLd, hN, hNs, st, B₂⟩ := ents (A := A) R B F N hA hf hke
  refine C_mono (h _ s.heap.objs.size h₁ ⟨hN _ hLg, st, F.above⟩ ⟨hns, fun b o e => hk₁ b o (of_hideAll _ e), Nat.le_of_eq (hideAll_size _ _)⟩
    (fun p hp => ⟨hk₁ _ _ (N p hp).1, Nat.ne_of_lt (Heap.lt_size (N p hp).1), hideAll_none _ (List.mem_map_of_mem hp)⟩) B₂ (X₀.keeps st) (T.keeps st) (fun b hb => by
      obtain rfl := List.mem_singleton.mp hb
      exact ⟨oL, es, ep, hLg, hLd⟩)) (fun fl s' hl => ?_) fun _ _ y => y
  obtain ⟨g', L', m', news', T', F', N', k⟩ := hl
  have nL₀ : h₀.get? L = none := kts_self F
  obtain ⟨sl, hs⟩ := T'.up hLg
  refine k ⟨hNs sl _ (F'.keep _ _ hs), fun b o e => F'.keep b o (T'.other b o (st b o e) (fun q => by
    rw [List.mem_singleton.mp q, nL₀] at e
    cases e)), F.above⟩ fun p hp => ⟨(N' p hp).1, fun q => ?_, ?_⟩
  · have := (N' p hp).2.2; rw [q, hs] at this; cases this
  · cases q : h₀.get? p.1 with
    | none => rfl
    | some o =>
      obtain ⟨sl', hs'⟩ := T'.up (st _ _ q)
      have := (N' p hp).2.2
      rw [hs'] at this
      cases this
theorem codeC_defS (B : Below A₀ base outer h₀) (F : Fr h₀ L s.heap m) (X₀ : K.In h₀) (N : News h₀ L s.heap news) (T : Top p loose mean mg mb h₀) (XB : K.In base) (TB : Top p loose mean mg mb base) (D : KtsDicts (outer.filterMap (·.frame)) h₀)
    (T0 : KtsTurn (outer.filterMap (·.frame)) g₀ h₀) (hA : A.frames = some (env :: outer)) (hf : env.frame = some L) (hke : env.scope.kind = .function)
    (ho : K.lookup f = some ⟨oc, od, .func (fnOf name qual params body scope dV kV doc pm an cdv ct), osl⟩) (hcd : codeIn K cdv qual = true) (hroom : A.depth < recursionLimit)
    (hbind : BindsTo s (fnOf name qual params body scope dV kV doc pm an cdv ct) args binds) (hloc : ∀ y ∈ binds, scope.names.lookup y.1 = some .local)
    (h : ∀ g L' h₁, Fr h₀ L g m → Fr g L' h₁ (fun y => binds.reverse.lookup y) → News g L' h₁ news → Below A base (env :: outer) g → K.In g → Top p loose mean mg mb g → KtsDicts (L :: outer.filterMap (·.frame)) g →
      wpC (model prog w) (A.deeper (envOf qual scope L' f cdv)) (execs body (envOf qual scope L' f cdv))
        (fun fl s' => LeaveS (L :: outer.filterMap (·.frame)) A₀ base outer K p loose mean mg mb g₀ h₀ L m g R (match fl with | .ret v => v | _ => .none) s')
        (fun e s' => wpAny (model prog w) (A.deeper (envOf qual scope L' f cdv)) (leaving (envOf qual scope L' f cdv) e) (fun _ s'' => R (.error e) s'') (fun e' s'' => R (.error e') s'') s')
        { s with heap := h₁, toks := s.toks + binds.length })
    (hco : scope.isCoroutine = false) (hgen : scope.isGenerator = false) (hk : scope.kind = .function)
    (hcell : ∀ x ∈ scope.names, x.2 ≠ .cell) : codeC (model prog w) A (.call (.ref f) args) R s := by
  have X := X₀.keeps F.keep
  refine codeC_call_def (fd := fnOf name qual params body scope dV kV doc pm an cdv ct) (body := body) (binds := binds) hroom (X _ _ ho) rfl (T.nolimit.keeps F.keep) (codeRec_of X hcd) rfl hbind hcell hloc (fun h₁ hns hk₁ => ?_) hco hgen hk
  obtain ⟨oL, es, ep, hLg, hLd, hN, hNs, st, B₂⟩ := ents (A := A) R B F N hA hf hke
  refine C_mono (h _ s.heap.objs.size h₁ ⟨hN _ hLg, st, F.above⟩ ⟨hns, fun b o e => hk₁ b o (of_hideAll _ e), Nat.le_of_eq (hideAll_size _ _)⟩
    (fun p hp => ⟨hk₁ _ _ (N p hp).1, Nat.ne_of_lt (Heap.lt_size (N p hp).1), hideAll_none _ (List.mem_map_of_mem hp)⟩) B₂ (X₀.keeps st) (T.keeps st) (fun b hb => by
      rcases List.mem_cons.mp hb with rfl | hb
      · exact ⟨oL, es, ep, hLg, hLd⟩
      · obtain ⟨o, es', n', ho', hd'⟩ := D b hb
        exact ⟨o, es', n', st b o ho', hd'⟩)) (fun fl s' hl => ?_) fun _ _ y => y
  have nL₀ : h₀.get? L = none := kts_self F
  rcases hl with ⟨L', m', news', F', N', k⟩ | ⟨g', L', m', news', T', F', N', k⟩
  · refine k ⟨hN _ (F'.keep _ _ hLg), fun b o e => F'.keep b o (st b o e), F.above⟩ fun p hp => ⟨(N' p hp).1, fun q => ?_, ?_⟩
    · have := (N' p hp).2.2; rw [q, hLg] at this; cases this
    · cases q : h₀.get? p.1 with
      | none => rfl
      | some o => have := (N' p hp).2.2; rw [st _ _ q] at this; cases this
  obtain ⟨sl, hs⟩ := T'.up hLg
  obtain ⟨T₁, S₁⟩ := kts_turn_at (h := s'.heap) (fs := outer.filterMap (·.frame)) (g := h₀)
    (fun b hb => by
      obtain ⟨_, o, ho', _⟩ := B.frames.mem hb
      exact ⟨o, ho'⟩)
    (fun b o e nmem => F'.keep b o (T'.other b o (st b o e) (fun q => by
      rcases List.mem_cons.mp q with z | z
      · rw [z, nL₀] at e
        cases e
      · exact nmem z)))
    (fun b o e hm => by
      obtain ⟨sl', hs'⟩ := T'.up (st b o e)
      exact ⟨sl', F'.keep _ _ hs'⟩)
  have B₃ : Below A₀ base outer (ktsHeap s'.heap (outer.filterMap (·.frame)) h₀) := ⟨B.stack, fun b o e => T₁.other b o (B.stays b o e) (fun hm => by
    rw [(B.frames.mem hm).1] at e
    cases e), B.frames.of_keeps fun b o e _ => by
    obtain ⟨sl', hs'⟩ := T₁.up e
    exact ⟨_, hs', rfl⟩⟩
  refine k _ (T0.trans T₁) ⟨hNs sl _ (F'.keep _ _ hs), S₁, by rw [T₁.size]; exact F.above⟩ (fun p hp => ⟨(N' p hp).1, fun q => ?_, ?_⟩) B₃ (XB.keeps B₃.stays) (TB.keeps B₃.stays) (D.turn T₁)
  · have := (N' p hp).2.2; rw [q, hs] at this; cases this
  · refine T₁.none_ _ ?_
    cases q : h₀.get? p.1 with
    | none => rfl
    | some o =>
      obtain ⟨sl', hs'⟩ := T'.up (st _ _ q)
      have := (N' p hp).2.2
      rw [hs'] at this
      cases this
theorem codeC_enter0 (B : Below A₀ base [] h₀) (F : Fr h₀ L s.heap m) (X₀ : K.In h₀) (N : News h₀ L s.heap news) (T : Top p loose mean mg mb h₀) (hA : A.frames = some [env]) (hf : env.frame = some L) (hke : env.scope.kind = .function)
    (ho : K.lookup f = some ⟨oc, od, .func (fnOf name qual params body scope dV kV doc pm an cdv ct), osl⟩) (hcd : codeIn K cdv qual = true) (hroom : A.depth < recursionLimit)
    (hbind : BindsTo s (fnOf name qual params body scope dV kV doc pm an cdv ct) args binds) (hloc : ∀ y ∈ binds, scope.names.lookup y.1 = some .local)
    (h : ∀ g L' h₁, Fr h₀ L g m → Fr g L' h₁ (fun y => binds.reverse.lookup y) → News g L' h₁ news → Below A base [env] g → K.In g → Top p loose mean mg mb g → KtsDicts ([env].filterMap (·.frame)) g →
      wpC (model prog w) (A.deeper (envOf qual scope L' f cdv)) (execs body (envOf qual scope L' f cdv))
        (fun fl s' => LeaveS0 ([env].filterMap (·.frame)) h₀ L m g R (match fl with | .ret v => v | _ => .none) s')
        (fun e s' => wpAny (model prog w) (A.deeper (envOf qual scope L' f cdv)) (leaving (envOf qual scope L' f cdv) e) (fun _ s'' => R (.error e) s'') (fun e' s'' => R (.error e') s'') s')
        { s with heap := h₁, toks := s.toks + binds.length })
    (hco : scope.isCoroutine = false) (hgen : scope.isGenerator = false) (hk : scope.kind = .function)
    (hcell : ∀ x ∈ scope.names, x.2 ≠ .cell) : codeC (model prog w) A (.call (.ref f) args) R s := by
  have fe : [env].filterMap (·.frame) = [L] := by simp [hf]
  rw [fe] at h
  exact codeC_defS0 B F X₀ N T hA hf hke ho hcd hroom hbind hloc h hco hgen hk hcell
theorem codeC_enterS (B : Below A₀ base outer h₀) (F : Fr h₀ L s.heap m) (X₀ : K.In h₀) (N : News h₀ L s.heap news) (T : Top p loose mean mg mb h₀) (XB : K.In base) (TB : Top p loose mean mg mb base) (D : KtsDicts (outer.filterMap (·.frame)) h₀)
    (T0 : KtsTurn (outer.filterMap (·.frame)) g₀ h₀) (hA : A.frames = some (env :: outer)) (hf : env.frame = some L) (hke : env.scope.kind = .function)
    (ho : K.lookup f = some ⟨oc, od, .func (fnOf name qual params body scope dV kV doc pm an cdv ct), osl⟩) (hcd : codeIn K cdv qual = true) (hroom : A.depth < recursionLimit)
    (hbind : BindsTo s (fnOf name qual params body scope dV kV doc pm an cdv ct) args binds) (hloc : ∀ y ∈ binds, scope.names.lookup y.1 = some .local)
    (h : ∀ g L' h₁, Fr h₀ L g m → Fr g L' h₁ (fun y => binds.reverse.lookup y) → News g L' h₁ news → Below A base (env :: outer) g → K.In g → Top p loose mean mg mb g → KtsDicts ((env :: outer).filterMap (·.frame)) g →
      wpC (model prog w) (A.deeper (envOf qual scope L' f cdv)) (execs body (envOf qual scope L' f cdv))
        (fun fl s' => LeaveS ((env :: outer).filterMap (·.frame)) A₀ base outer K p loose mean mg mb g₀ h₀ L m g R (match fl with | .ret v => v | _ => .none) s')
        (fun e s' => wpAny (model prog w) (A.deeper (envOf qual scope L' f cdv)) (leaving (envOf qual scope L' f cdv) e) (fun _ s'' => R (.error e) s'') (fun e' s'' => R (.error e') s'') s')
        { s with heap := h₁, toks := s.toks + binds.length })
    (hco : scope.isCoroutine = false) (hgen : scope.isGenerator = false) (hk : scope.kind = .function)
    (hcell : ∀ x ∈ scope.names, x.2 ≠ .cell) : codeC (model prog w) A (.call (.ref f) args) R s := by
  have fe : (env :: outer).filterMap (·.frame) = L :: outer.filterMap (·.frame) := by rw [List.filterMap_cons, hf]
  rw [fe] at h
  exact codeC_defS B F X₀ N T XB TB D T0 hA hf hke ho hcd hroom hbind hloc h hco hgen hk hcell
theorem C_callWith_T {M : Model} {T : String} {pos : Pos} {e : Expr} {rest : List Expr} {Q : Value → Shared → Prop} (h : wpC M A (spliced (backTo pos (starEach (e :: rest) env))) (fun vs s₁ => wpC M A (call (.type T) vs) Q E s₁) E s)
    (he : starEach (e :: rest) env = (false, eval e env) :: starEach rest env) (hplain : (backTo pos (starEach rest env)).any (·.1) = false) :
    wpC M A (callWith pos (.type T) [] (backTo pos (starEach (e :: rest) env)) []) Q E s := by
  rw [he] at h ⊢
  unfold callWith
  have h2 : wpC M A (evalArgs (.type T) true (backTo pos ((false, eval e env) :: starEach rest env)) []) (fun a s₁ => wpC M A (call (.type T) ([] ++ a.pos) a.kw) Q E s₁) E s := C_evalArgs h
  refine C_bind (C_holding (C_mono h2 (fun a s₁ h₁ => C_bind (C_standAt ?_)) fun _ _ x => x))
  have hp : ((backTo pos ((false, eval e env) :: starEach rest env)).any (·.1)) = false := by show (false || (backTo pos (starEach rest env)).any (·.1)) = false; rw [hplain]; rfl
  rw [hp]
  dsimp only [List.any_nil, Bool.or_false]
  refine C_bind (C_pure ?_)
  exact C_bind (C_mono h₁ (fun r s₂ hr => C_bind (C_holding (C_mono (C_point hr) (fun _ _ x => C_pure x) fun _ _ x => x))) fun _ _ x => x)
end
end Mine
end

section
theorem Mine.fresh18 : True := by k_with_none; w_top off; trivial
open PySem PySem.W PyProof.Rows PyProof.V
set_option maxRecDepth 100000
set_option maxHeartbeats 2000000
namespace Mine
def DoesSC (w : World) (f : Addr) (k : Nat) (news : List (Addr × Obj)) (vs : List Value) (Post : Value → List (Addr × Obj) → Prop) : Prop :=
  ∀ (dp un : Nat) (gd : Option (List Code)) (cn : Str) (cs : Scope) (a : Addr) (ccd : Value) (outer : List Env) (A₀ : Around) (base g₀ h₀ : Heap) (L : Addr) (m : Str → Option Value) (s : Shared)
    (mean : ExcName → Option Value) (mg mb : Str → Option Value) (Q E : Value → Shared → Prop),
    Below A₀ base outer h₀ → Fr h₀ L s.heap m → (hd.heap_39 w.params).In h₀ → News h₀ L s.heap news → Top hd.view_39 (looseW hd.view_39 []) mean mg mb h₀ → (hd.heap_39 w.params).In base → Top hd.view_39 (looseW hd.view_39 []) mean mg mb base →
    KtsDicts (outer.filterMap (·.frame)) h₀ → KtsTurn (outer.filterMap (·.frame)) g₀ h₀ → cs.kind = .function → dp + k < recursionLimit → un + 8 * k < cLine →
    DoesRetS (outer.filterMap (·.frame)) A₀ base outer w mean mg mb g₀ L m s Post Q →
    wpC (model PySem.Challenge.rw_zd0004_01.row.prog w) (ktrTop dp un gd cn cs L a ccd [] outer) (call (.ref f) vs) Q E s
theorem bad_room {Dg : List Nat} {n : Nat} (hg : ∀ c ∈ Dg, 48 ≤ c ∧ c ≤ 57) (hn : (120 :: Dg).length = n) (hn2 : n ≤ 11) : (numSeenOf ⟨(120 :: Dg).toArray⟩).length ≤ 640 ∧ (int_private% "readNumeral") 0 10 (numSeenOf ⟨(120 :: Dg).toArray⟩) = int_private% "Numeral.invalid" ∧ (reprText ⟨(120 :: Dg).toArray⟩).length ≤ 1000 := by
  have bt := bad_texts (x := ⟨(120 :: Dg).toArray⟩) (ds := Dg) (by simp) hg
  have b2 := bad_numeral Dg
  rw [← bt.2] at b2
  refine ⟨by rw [bt.2, hn]; lia, b2, ?_⟩
  have := StrLaws.reprText_len ⟨(120 :: Dg).toArray⟩ (fun c hc => by
    have hc : c ∈ 120 :: Dg := by simpa using hc
    rcases List.mem_cons.mp hc with rfl | hc
    · decide
    · have := hg c hc; lia)
  have e : (⟨(120 :: Dg).toArray⟩ : PySem.Str).length = n := by rw [← hn]; show (120 :: Dg).toArray.size = _; simp
  lia
theorem c_heard_int (w : World) (news : List (Addr × Obj)) (x : Str) (m : Nat) (Dd : List Nat) (hp : Int) (tk tg : Tok) (A : Int) (B : Value → Prop) (R : Right x m Dd) (hm : isMark m) (hD : (∃ g, PySem.intText? ⟨Dd.toArray⟩ = some g ∧ A = hp ∧ ∀ t, B (.int g t)) ∨ ∃ Dg, Dd = 120 :: Dg ∧ (∀ c ∈ Dg, 48 ≤ c ∧ c ≤ 57) ∧ A = 5 ∧ ∀ t, B (.str (Str.ofString "") t)) (hn1 : 1 ≤ Dd.length) (hn2 : Dd.length ≤ 11) :
    DoesSC w 128 2 news [.str x tk, .int hp tg] (fun v n' => ∃ t b, B b ∧ Pair (.int A t) b news v n') := by
  obtain ⟨r1, r2, r3, r4, r5, r6, r7, r8⟩ := R
  have hlen : (⟨Dd.toArray⟩ : PySem.Str).length ≤ 640 := by show Dd.toArray.size ≤ 640; simp; lia
  generalize hn : Dd.length = n at *
  replace r4 : (Txt.find3 x (Str.ofString ")") (9 + 1) : Int) = 14 + n := r4
  replace r8 : Txt.split (Txt.slice x (some (9 + 1)) (some (14 + n))) (Txt.item x (9 + 1)) = [⟨#[]⟩, ⟨#[]⟩, ⟨#[]⟩, ⟨Dd.toArray⟩, ⟨#[]⟩] := by
    rw [show Txt.item x (9 + 1) = ⟨#[m]⟩ from r5]; exact r8
  have r5' : Txt.item x (9 + 1) = ⟨#[m]⟩ := r5
  have r6' : Txt.item x (14 + n - 1) = ⟨#[m]⟩ := by rw [show (14 + (n : Int) - 1) = 13 + n by lia]; exact r6
  k_with_none
  k_with "doesC_open" => ((unfold DoesSC; k_fill; intro dp_doesCopen un_doesCopen gd_doesCopen cn_doesCopen cs_doesCopen a_doesCopen ccd_doesCopen outer_doesCopen A0_doesCopen base_doesCopen g0_doesCopen h0_doesCopen L_doesCopen m_doesCopen s_doesCopen mean_doesCopen mg_doesCopen mb_doesCopen Q_doesCopen E_doesCopen B_doesCopen F_doesCopen X_doesCopen N_doesCopen T_doesCopen XB_doesCopen TB_doesCopen D_doesCopen T0_doesCopen hk_doesCopen hdp_doesCopen hun_doesCopen hret_doesCopen; refine C_call ?_; (k_dflt (refine' codeC_enterS ?k1_doesCopen ?k2_doesCopen ?k3_doesCopen ?k4_doesCopen ?k5_doesCopen ?XB_doesCopen ?TB_doesCopen ?D_doesCopen ?T0_doesCopen ?kA_doesCopen ?kF_doesCopen ?kE_doesCopen ?k6_doesCopen ?k7_doesCopen ?k8_doesCopen ?k9_doesCopen ?kB_doesCopen ?_ ?c2_doesCopen ?c3_doesCopen ?c4_doesCopen ?c5_doesCopen; (case kA_doesCopen => exact rfl); (case kF_doesCopen => exact rfl); (case kE_doesCopen => assumption); (case k2_doesCopen => k_asm); (case k1_doesCopen => k_asm); (case XB_doesCopen => assumption); (case TB_doesCopen => assumption); (case D_doesCopen => assumption); (case T0_doesCopen => assumption); (case k3_doesCopen => k_asm); (case k4_doesCopen => k_asm); (case k5_doesCopen => k_asm); (case k6_doesCopen => k_is); (case k7_doesCopen => k_is); (case k8_doesCopen => ktr_room); (case k9_doesCopen => exact BindsTo.of_eq rfl); (case kB_doesCopen => exact locs rfl); (case c2_doesCopen => exact rfl); (case c3_doesCopen => exact rfl); (case c4_doesCopen => exact rfl); (case c5_doesCopen => decide); k_whole; intro g'_doesCopen L'_doesCopen h'_doesCopen FG'_doesCopen F'_doesCopen N'_doesCopen B'_doesCopen X'_doesCopen T'_doesCopen D'_doesCopen; (try dsimp only); (try k_lift B'_doesCopen)))))
  k_with "enterC" => ((refine C_call ?_; (k_dflt (refine' codeC_def ?k1_enterC ?k2_enterC ?k3_enterC ?k4_enterC ?k5_enterC ?kA_enterC ?kF_enterC ?kK_enterC ?k6_enterC ?k7_enterC ?k8_enterC ?k9_enterC ?kB_enterC ?_ ?c2_enterC ?c3_enterC ?c4_enterC ?c5_enterC; (case kA_enterC => exact rfl); (case kF_enterC => exact rfl); (case kK_enterC => first | exact rfl | assumption); (case k1_enterC => k_asm); (case k2_enterC => k_asm); (case k3_enterC => k_asm); (case k4_enterC => k_asm); (case k5_enterC => k_asm); (case k6_enterC => k_is); (case k7_enterC => k_is); (case k8_enterC => ktr_room); (case k9_enterC => exact BindsTo.of_eq rfl); (case c5_enterC => decide); (case kB_enterC => exact locs rfl); (case c2_enterC => exact rfl); (case c3_enterC => exact rfl); (case c4_enterC => exact rfl); k_whole; intro g'_enterC L'_enterC h'_enterC FG'_enterC F'_enterC N'_enterC B'_enterC X'_enterC T'_enterC; (try dsimp only); (try k_lift B'_enterC)))))
  k_with "wpC_here" => (first | ((with_reducible show wpC _ _ (callWith _ (Value.type _) _ _ _) _ _ _); k_dflt (refine C_callWith_T ?_ rfl rfl)) | ((with_reducible show wpC _ _ (callWith _ (Value.ref _) _ _ _) _ _ _); (refine C_callWith_K (by k_asm) (by k_is) ?_ rfl rfl)) | ((with_reducible show wpC _ _ (spliced (backTo _ (starEach (_ :: _) _))) _ _ _); (refine C_args_cons (C_any ?_) rfl); (try k_fold)) | ((with_reducible show wpC _ _ (spliced (backTo _ (starEach [] _))) _ _ _); (refine C_spliced_nil ?_)) | ((with_reducible show wpC _ _ (call (Value.ref _) _) _ _ _); walk_at "enterC") | ((with_reducible show wpC _ _ (execs (Stmt.Assign [Expr.Name (Str.ofString "port") _] _ _ :: _) _) _ _ _); (k_dflt (refine C_execs_cons (C_Assign_Name (C_Call_ (C_any ?_) rfl) rfl))); (try k_fold)) | ((with_reducible show wpC _ _ (execs (_ :: _) _) _ _ _); (refine C_execs_consA ?_); (try k_fold)))
  walk_at "doesC_open"
  refine C_execs_cons (C_Try (C_execs_cons (C_Return (C_Call_ (C_any ?_) rfl))))
  k_with "call type:str" => (exfalso; first | (rename (Txt.item _ _ != Txt.item _ _) = true => hne; rw [r5', r6'] at hne; simp at hne) | (rename List.map _ _ = Txt.split _ _ => hl0; have hl1 := congrArg List.length hl0; rw [r8, List.length_map] at hl1; simp at hl1; lia))
  k_with "call builtin:str.find" => (first | (refine KXw.find r3 ?_; intro _ _) | (refine find3_here r4 ?_; intro _ _))
  k_with "wpC" => first
    | ((with_reducible show wpC _ _ (call (Value.type "int") [Value.str _ _]) _ _ _); (rename List.map _ _ = Txt.split _ _ => hl0); (rename _ = some _ => hy0); rw [hl0, r8] at hy0; have hy1 := Option.some.inj hy0; subst hy1; (rcases hD with ⟨g, hg, hA, hB⟩ | ⟨Dg, rfl, hg, hA, hB⟩); (refine C_any (KIN.call_text hg hlen ?_)); rotate_left; (k_dflt (refine C_call_int_bad (bad_room hg hn hn2).1 (bad_room hg hn hn2).2.1 rfl (bad_room hg hn hn2).2.2 ?_)); intro hI tkI eI hxI)
    | walk_at "wpC_here"
  k_steps
  all_goals (refine retS_top (by assumption) news (by k_asm) (by k_asm) (by assumption) (by assumption) (by assumption) (by assumption) (by assumption) (by repeat (first | exact sub_refl _ | refine sub_cons ?_)) ?_)
  all_goals (rename A = _ => hA9; subst hA9)
  · exact ⟨_, _, (show ∀ t, B (.str (Str.ofString "") t) by assumption) _, _, rfl, rfl⟩
  · exact ⟨_, _, (by assumption : ∀ t, B (Value.int _ t)) _, _, rfl, rfl⟩
theorem doesSC_of {w : World} {f : Addr} {k : Nat} {news : List (Addr × Obj)} {vs : List Value} {Post Post' : Value → List (Addr × Obj) → Prop} (D : DoesS w f k news vs Post) (h : ∀ v n', Post v n' → Post' v n') : DoesSC w f k news vs Post' :=
  fun _ _ _ _ _ _ _ _ _ _ _ _ _ _ _ _ _ _ _ _ B F X N T XB TB DD T0 hk hd hu ret => C_any (D _ _ _ _ _ _ _ _ _ _ _ _ _ _ _ _ _ _ _ _ B F X N T XB TB DD T0 hk hd hu fun v n' h' tk' h₀' a b c d e f g p => ret v n' h' tk' h₀' a b c d e f g (h v n' p))
theorem doesSC_mono {w : World} {f : Addr} {k : Nat} {news : List (Addr × Obj)} {vs : List Value} {Post Post' : Value → List (Addr × Obj) → Prop} (D : DoesSC w f k news vs Post) (h : ∀ v n', Post v n' → Post' v n') : DoesSC w f k news vs Post' :=
  fun _ _ _ _ _ _ _ _ _ _ _ _ _ _ _ _ _ _ _ _ B F X N T XB TB DD T0 hk hd hu ret => D _ _ _ _ _ _ _ _ _ _ _ _ _ _ _ _ _ _ _ _ B F X N T XB TB DD T0 hk hd hu fun v n' h' tk' h₀' a b c d e f g p => ret v n' h' tk' h₀' a b c d e f g (h v n' p)
/-- what is to be told of a deed -/
def toldA (hp k : Int) : Int := if k < 3 then hp else k
def ToldB (k g : Int) (v : Value) : Prop := if k < 3 then ∃ t, v = .int g t else ∃ t, v = .str (if k < 5 then Rep k g else Str.ofString "") t
/-- what the law hears of a reply -/
theorem c_heard (w : World) (news : List (Addr × Obj)) (hp k g : Int) (tk tg : Tok) (h1 : 0 ≤ k) (h2 : k < 6) (h3 : 0 ≤ g) (h4 : g < 1500) :
    DoesSC w 128 2 news [.str (Rep k g) tk, .int hp tg] (fun v n' => ∃ t b, ToldB k g b ∧ Pair (.int (toldA hp k) t) b news v n') := by
  have hl := figs_len h3 h4
  obtain hk | rfl | rfl | rfl : (k = 0 ∨ k = 1 ∨ k = 2) ∨ k = 3 ∨ k = 4 ∨ k = 5 := by lia
  · have hr : PySem.intText? ⟨(figs g).toArray⟩ = some g := by rw [figs_str h3]; exact KIN.num_reads h3 (by lia)
    refine c_heard_int w news (Rep k g) (markOf k) (figs g) hp tk tg (toldA hp k) (ToldB k g) (rep_right hk) (markOf_mark k) (.inl ⟨g, hr, by unfold toldA; rw [if_pos (by lia)], fun t => by unfold ToldB; rw [if_pos (by lia)]; exact ⟨t, rfl⟩⟩) hl.1 (by lia)
  · refine doesSC_of (c_heard_three w news (Rep 3 g) hp tk tg (rep_three g) (rep_len h3 h4).2) fun v n' p => ?_
    obtain ⟨t1, t2, p⟩ := p
    exact ⟨t1, _, by unfold ToldB; rw [if_neg (by lia), if_pos (by lia)]; exact ⟨t2, rfl⟩, by unfold toldA; rw [if_neg (by lia)]; exact p⟩
  · refine doesSC_of (c_heard_short w news (Rep 4 g) 33 (figs g) hp tk tg (rep_four h3 h4) hl.1 hl.2) fun v n' p => ?_
    obtain ⟨t1, t2, p⟩ := p
    exact ⟨t1, _, by unfold ToldB; rw [if_neg (by lia), if_pos (by lia)]; exact ⟨t2, rfl⟩, by unfold toldA; rw [if_neg (by lia)]; exact p⟩
  · refine c_heard_int w news (Rep 5 g) 47 (120 :: figs g) hp tk tg (toldA hp 5) (ToldB 5 g) (rep_five g) (.inr (.inr rfl)) (.inr ⟨figs g, rfl, figs_are g, by unfold toldA; rw [if_neg (by lia)], fun t => by unfold ToldB; rw [if_neg (by lia), if_neg (by lia)]; exact ⟨t, rfl⟩⟩) (by simp) (by simp; lia)
theorem c_heardA (w : World) (news : List (Addr × Obj)) (hp k g : Int) (tk tg : Tok) (h1 : 0 ≤ k) (h2 : k < 3) (h3 : 0 ≤ g) (h4 : g < 1500) :
    DoesSC w 128 2 news [.str (Rep k g) tk, .int hp tg] (fun v n' => ∃ t1 t2, Pair (.int hp t1) (.int g t2) news v n') :=
  doesSC_mono (c_heard w news hp k g tk tg h1 (by lia) h3 h4) fun v n' p => by
    obtain ⟨t, b, hb, p⟩ := p
    unfold ToldB at hb; rw [if_pos h2] at hb
    obtain ⟨t2, rfl⟩ := hb
    unfold toldA at p; rw [if_pos h2] at p
    exact ⟨t, t2, p⟩
theorem c_heardB (w : World) (news : List (Addr × Obj)) (hp k g : Int) (tk tg : Tok) (h1 : 3 ≤ k) (h2 : k < 5) (h3 : 0 ≤ g) (h4 : g < 1500) :
    DoesSC w 128 2 news [.str (Rep k g) tk, .int hp tg] (fun v n' => ∃ t1 t2, Pair (.int k t1) (.str (Rep k g) t2) news v n') :=
  doesSC_mono (c_heard w news hp k g tk tg (by lia) (by lia) h3 h4) fun v n' p => by
    obtain ⟨t, b, hb, p⟩ := p
    unfold ToldB at hb; rw [if_neg (by lia), if_pos h2] at hb
    obtain ⟨t2, rfl⟩ := hb
    unfold toldA at p; rw [if_neg (by lia)] at p
    exact ⟨t, t2, p⟩
theorem c_heardC (w : World) (news : List (Addr × Obj)) (hp k g : Int) (tk tg : Tok) (h2 : k = 5) (h3 : 0 ≤ g) (h4 : g < 1500) :
    DoesSC w 128 2 news [.str (Rep k g) tk, .int hp tg] (fun v n' => ∃ t1 t2, Pair (.int k t1) (.str (Str.ofString "") t2) news v n') := by
  subst h2
  exact doesSC_mono (c_heard w news hp 5 g tk tg (by lia) (by lia) h3 h4) fun v n' p => by
    obtain ⟨t, b, hb, p⟩ := p
    unfold ToldB at hb; rw [if_neg (by lia), if_neg (by lia)] at hb
    obtain ⟨t2, rfl⟩ := hb
    unfold toldA at p; rw [if_neg (by lia)] at p
    exact ⟨t, t2, p⟩
theorem doesSC_use {w : World} {f : Addr} {k : Nat} {news : List (Addr × Obj)} {vs : List Value} {Post : Value → List (Addr × Obj) → Prop} (C : DoesSC w f k news vs Post)
    {dp un : Nat} {gd : Option (List Code)} {cn : Str} {cs : Scope} {a : Addr} {ccd : Value} {outer : List Env} {A₀ : Around} {base g₀ h₀ : Heap} {L : Addr} {m : Str → Option Value} {s : Shared}
    {mean : ExcName → Option Value} {mg mb : Str → Option Value} {Q E : Value → Shared → Prop}
    (F : Fr h₀ L s.heap m) (B : Below A₀ base outer h₀) (X : (hd.heap_39 w.params).In h₀) (N : News h₀ L s.heap news) (T : Top hd.view_39 (looseW hd.view_39 []) mean mg mb h₀) (XB : (hd.heap_39 w.params).In base) (TB : Top hd.view_39 (looseW hd.view_39 []) mean mg mb base)
    (D : KtsDicts (outer.filterMap (·.frame)) h₀) (T0 : KtsTurn (outer.filterMap (·.frame)) g₀ h₀) (hk : cs.kind = .function) (hd : dp + k < recursionLimit) (hu : un + 8 * k < cLine)
    (ret : DoesRetS (outer.filterMap (·.frame)) A₀ base outer w mean mg mb g₀ L m s Post Q) :
    wpC (model PySem.Challenge.rw_zd0004_01.row.prog w) (ktrTop dp un gd cn cs L a ccd [] outer) (call (.ref f) vs) Q E s :=
  C _ _ _ _ _ _ _ _ _ _ _ _ _ _ _ _ _ _ _ _ B F X N T XB TB D T0 hk hd hu ret
end Mine
end

section
theorem Mine.fresh19 : True := by k_with_none; w_top off; trivial
open PySem PySem.W PyProof.Rows PyProof.V PySem.Calls
set_option maxRecDepth 100000
set_option maxHeartbeats 8000000
namespace Mine
section
variable {σ : Type} {prog : Program} {w : World} {A : Around} {E : Value → Shared → Prop} {s : Shared} {env : Env} {Q : Flow → Shared → Prop}
/-- a turn's end: the ground may have turned, the one name kept, the ledger by its state -/
def TurnEnd (G : Heap → Prop) (L : Addr) (x : PySem.Str) (vx : Value) (Led : σ → List (Addr × Obj)) (J : Nat → σ → Prop) (s : Shared) (I : Addr) (oI : Obj) (i : Nat) (s₃ : Shared) : Prop :=
  ∃ c g m₂ h tk, s₃ = { s with heap := h, toks := tk } ∧ G g ∧ J i c ∧ Fr g L h m₂ ∧ m₂ x = some vx ∧ News g L h ((I, oI) :: Led c) ∧ ∀ p ∈ Led c, p.1 ≠ I
theorem keep_one {x : PySem.Str} {vx : Value} {m : PySem.Str → Option Value} (h : m x = some vx) : m = fun z => if z = x then some vx else m z := by
  funext z
  by_cases e : z = x
  · subst e; simp [h]
  · simp [e]
theorem forList_C (G : Heap → Prop) (x : PySem.Str) (vx : Value) (items : Array Value) (dl : Addr) (lo : Obj) (hlo : lo.cls = .type "list" ∧ ∃ n, lo.data = .seq items n) (Led : σ → List (Addr × Obj)) (J : Nat → σ → Prop) (c₀ : σ) {g₁ : Heap} {m : PySem.Str → Option Value} {elts : List Expr} {x1 : Nat} {tp : Pos} {body : List Stmt}
    (hh : A.handled = none) (hdl : ∀ c, (dl, lo) ∈ Led c) (hT : ∀ v ∈ items, ∃ T, v = .ref T) (hg : G g₁) (F : Fr g₁ env.locals s.heap m) (hx : m x = some vx) (N : News g₁ env.locals s.heap (Led c₀)) (j0 : J 0 c₀)
    (turn : ∀ (i : Nat) (c : σ) (g : Heap) (u : PySem.Str → Option Value) (h : Heap) (tk : Nat) (I : Addr) (oI : Obj) (v : Value), items[i]? = some v → G g → J i c → (∀ p ∈ Led c, p.1 ≠ I) → Fr g env.locals h (fun z => if z = x then some vx else u z) → News g env.locals h ((I, oI) :: Led c) →
      wpAny (model prog w) A (assign (.Tuple elts x1 tp) env v) (fun _ s₂ => wpC (model prog w) A (execs body env) (fun f s₃ => match f with
        | .next | .cont => TurnEnd G env.locals x vx Led J s I oI (i + 1) s₃
        | .brk => Q .next s₃
        | .ret v => Q (.ret v) s₃) (fun _ _ => False) s₂) (fun _ _ => False) { s with heap := h, toks := tk })
    (done : ∀ (c : σ) (g : Heap) (u : PySem.Str → Option Value) (h : Heap) (tk : Nat), G g → J items.size c → Fr g env.locals h (fun z => if z = x then some vx else u z) → News g env.locals h (Led c) → Q .next { s with heap := h, toks := tk }) :
    wpAny (model prog w) A (pyIter (.ref dl)) (fun it s₂ => codeC (model prog w) A (.forLoop (.Tuple elts x1 tp) it body [] env) (fun r s' => match r with | .ok f => Q f s' | .error e => cameBackBy (model prog w) A env E e s') s₂) E s := by
  have lst : ∀ {g : Heap} {h : Heap} {c : σ}, News g env.locals h (Led c) → h.IsList dl items := fun {g h c} N => ⟨lo, (N _ (hdl c)).1, hlo.1, hlo.2⟩
  refine wpAny_pyIter_list (lst N) ?_
  have hI : s.heap.get? s.heap.objs.size = none := Heap.get?_none_of_le (Nat.le_refl _)
  generalize hIe : s.heap.objs.size = I at hI ⊢
  have hIn : ∀ p ∈ Led c₀, p.1 ≠ I := fun p hp e => by have := (N p hp).1; rw [e, hI] at this; cases this
  have hIL : I ≠ env.locals := fun e => by
    have := F.ns.lt
    rw [← e, ← hIe] at this
    exact absurd this (Nat.lt_irrefl _)
  have hgI : g₁.get? I = none := by
    cases q : g₁.get? I with
    | none => rfl
    | some o => have := F.keep _ _ q; rw [hI] at this; cases this
  have hp0 : ∀ b o, s.heap.get? b = some o → (s.heap.push { cls := .type "list_iterator", data := .fields #[.ref dl, .int 0 0] }).get? b = some o := fun b o e => Heap.get?_push_of_some _ e
  refine codeC_mono (R := fun r s' => match r with | .ok f => Q f s' | .error _ => False) ?_ (fun r s' h => by
    cases r with
    | ok f => exact h
    | error e => exact h.elim)
  refine codeC_forLoop (fun k s' => ∃ i c g m₂ h tk, s' = { s with heap := h, toks := tk } ∧ G g ∧ J i c ∧ Fr g env.locals h m₂ ∧ m₂ x = some vx ∧ h.IsListIter I dl i ∧ News g env.locals h (Led c) ∧ g.get? I = none ∧ (∀ p ∈ Led c, p.1 ≠ I) ∧ i ≤ items.size ∧ k = items.size + 1 - i) ?_ (items.size + 1)
    ⟨0, c₀, g₁, m, s.heap.push { cls := .type "list_iterator", data := .fields #[.ref dl, .int 0 0] }, s.toks, rfl, hg, j0, ⟨F.ns.at' fun o e => hp0 _ o e, fun b o e => hp0 _ _ (F.keep b o e), F.above⟩, hx, ⟨_, hIe ▸ Heap.get?_push_size _ rfl, rfl, rfl⟩, fun p hp => ⟨hp0 _ _ (N p hp).1, (N p hp).2⟩, hgI, hIn, Nat.zero_le _, rfl⟩
  rintro k s' ⟨i, c, g, m₂, h, tk, rfl, hG, hJ, F', hx', hit, N', hgI', hIn', hi, rfl⟩
  by_cases hlt : i < items.size
  · have hv : items[i]? = some items[i] := by simp [hlt]
    refine wpAny_pyNext_list_item hit (lst N') hv fun h' hit' hs' => ?_
    dsimp only
    obtain ⟨T, eT⟩ := hT items[i] (Array.getElem_mem hlt)
    rw [eT]
    refine wpAny_letOwnedTupleGo_listiter hit' ?_
    have kk : ∀ b o, b ≠ I → h.get? b = some o → h'.get? b = some o := fun b o hb e => hs'.extBut b o hb e
    obtain ⟨oI, hoI, hcI, hdI⟩ := id hit'
    have F₁ : Fr g env.locals h' m₂ := ⟨F'.ns.at' fun o e => kk _ o (fun e' => hIL e'.symm) e, fun b o e => kk b o (fun e' => by rw [e', hgI'] at e; cases e) (F'.keep b o e), F'.above⟩
    rw [keep_one hx'] at F₁
    have N₁ : News g env.locals h' ((I, oI) :: Led c) := fun p hp => by
      rcases List.mem_cons.mp hp with rfl | hp
      · exact ⟨hoI, hIL, hgI'⟩
      · exact ⟨kk _ _ (hIn' p hp) (N' p hp).1, (N' p hp).2⟩
    refine wpAny_mono (turn i c g m₂ h' tk I oI (.ref T) (eT ▸ hv) hG hJ hIn' F₁ N₁) (fun _ s₂ h₂ => C_mono h₂ (fun f s₃ h₃ => ?_) fun _ _ z => z.elim) fun _ _ z => z.elim
    have fin : TurnEnd G env.locals x vx Led J s I oI (i + 1) s₃ → ∃ k', k' < items.size + 1 - i ∧ ∃ i c g m₂ h tk, s₃ = { s with heap := h, toks := tk } ∧ G g ∧ J i c ∧ Fr g env.locals h m₂ ∧ m₂ x = some vx ∧ h.IsListIter I dl i ∧ News g env.locals h (Led c) ∧ g.get? I = none ∧ (∀ p ∈ Led c, p.1 ≠ I) ∧ i ≤ items.size ∧ k' = items.size + 1 - i := by
      rintro ⟨c', g', m', h'', tk', rfl, hG', hJ', F'', hx'', N'', hn''⟩
      refine ⟨items.size + 1 - (i + 1), by omega, i + 1, c', g', m', h'', tk', rfl, hG', hJ', F'', hx'', ⟨oI, (N'' _ (.head _)).1, hcI, hdI⟩, fun p hp => N'' p (List.mem_cons_of_mem _ hp), (N'' _ (.head _)).2.2, hn'', by omega, rfl⟩
    cases f with
    | next => exact fin h₃
    | cont => exact fin h₃
    | brk => exact h₃
    | ret v => exact h₃
  · obtain rfl : i = items.size := by omega
    refine wpAny_pyNext_list_end hh hit (lst N') (by simp) fun h' hs' => ?_
    have kk : ∀ b o, b ≠ I → h.get? b = some o → h'.get? b = some o := fun b o hb e => hs' b o hb e
    have F₁ : Fr g env.locals h' m₂ := ⟨F'.ns.at' fun o e => kk _ o (fun e' => hIL e'.symm) e, fun b o e => kk b o (fun e' => by rw [e', hgI'] at e; cases e) (F'.keep b o e), F'.above⟩
    rw [keep_one hx'] at F₁
    exact wpAny_execs_nil (done c g m₂ h' tk hG hJ F₁ fun p hp => ⟨kk _ _ (hIn' p hp) (N' p hp).1, (N' p hp).2⟩)
end
end Mine
end

section
theorem Mine.fresh20 : True := by k_with_none; w_top off; trivial
open PySem PySem.W PyProof.Rows PyProof.V PySem.Calls
set_option maxRecDepth 100000
set_option maxHeartbeats 8000000
namespace Mine
theorem stored_new {kvs : List (Int × Value)} {k : Int} {y : Value} (h : k ∉ kvs.map (·.1)) : stored kvs k y = kvs ++ [(k, y)] := by
  unfold stored
  rw [if_neg]
  intro e
  obtain ⟨p, hp, e'⟩ := List.any_eq_true.mp e
  exact h (List.mem_map.mpr ⟨p, hp, by simpa using e'⟩)
theorem flat_snoc {c : List (Int × Int)} {k a : Int} {t : Tok} : ∀ {kvs : List (Int × Value)}, FlatPairs PyData.int kvs (kdfD c) → FlatPairs PyData.int (kvs ++ [(k, .int a t)]) (kdfD (c ++ [(k, a)])) := by
  intro kvs h
  have key : ∀ {kvs : List (Int × Value)} {D : List (PyData × PyData)}, FlatPairs PyData.int kvs D → FlatPairs PyData.int (kvs ++ [(k, .int a t)]) (D ++ [(PyData.int k, PyData.int a)]) := by
    intro kvs D h
    induction h with
    | nil => exact .cons (Flat.int _ _) .nil
    | cons f _ ih => exact .cons f ih
  have e : kdfD (c ++ [(k, a)]) = kdfD c ++ [(PyData.int k, PyData.int a)] := by simp [kdfD]
  rw [e]
  exact key h
def tabOf (f : Int → Int) (ks : List Int) : List (Int × Int) := ks.map fun k => (k, f k)
theorem stored_tab {f : Int → Int} {vs : List Value} {kvs : List (Int × Value)} (h : StoredAll (fun v k => ∃ t, v = .int k t) (fun v y => ∀ k t, v = .int k t → ∃ t', y = .int (f k) t') vs kvs) :
    ∀ {ks : List Int}, vs.length = ks.length → (∀ (j : Nat) (v : Value), vs[j]? = some v → ∃ k t, ks[j]? = some k ∧ v = .int k t) → ks.Nodup → kvs.map (·.1) = ks ∧ FlatPairs PyData.int kvs (kdfD (tabOf f ks)) := by
  induction h with
  | nil =>
    intro ks hl _ _
    have : ks = [] := List.length_eq_zero_iff.mp hl.symm
    subst this
    exact ⟨rfl, .nil⟩
  | @snoc l kvs v k y hs hk hy ih =>
    intro ks hl hp hn
    obtain ⟨ks', k', rfl⟩ : ∃ ks' k', ks = ks' ++ [k'] := by
      have h0 : ks ≠ [] := fun e => by rw [e] at hl; simp at hl
      exact ⟨ks.dropLast, ks.getLast h0, (List.dropLast_concat_getLast h0).symm⟩
    have hl' : l.length = ks'.length := by simpa using hl
    obtain ⟨e1, e2⟩ := ih hl' (fun j u hj => by
      have hj' : j < l.length := (List.getElem?_eq_some_iff.mp hj).1
      obtain ⟨a, t, ha, hu⟩ := hp j u (by rw [List.getElem?_append_left hj']; exact hj)
      exact ⟨a, t, by rw [List.getElem?_append_left (by lia)] at ha; exact ha, hu⟩) (List.nodup_append.mp hn).1
    obtain ⟨a, t, ha, hu⟩ := hp l.length v (by simp)
    obtain ⟨t0, hv⟩ := hk
    rw [hl'] at ha
    have ha : k' = a := by simpa using ha
    subst ha
    rw [hv] at hu
    injection hu with hu1 hu2
    subst hu1
    obtain ⟨t', rfl⟩ := hy k t0 hv
    have hnew : k ∉ kvs.map (·.1) := by
      rw [e1]
      intro hm
      have := (List.nodup_append.mp hn).2.2 k hm k (by simp)
      exact this rfl
    rw [stored_new hnew]
    refine ⟨by rw [List.map_append, e1]; rfl, ?_⟩
    have : tabOf f (ks' ++ [k]) = tabOf f ks' ++ [(k, f k)] := by simp [tabOf]
    rw [this]
    exact flat_snoc e2
section
variable {prog : Program} {w : World} {A : Around} {E : Value → Shared → Prop} {s : Shared} {h₀ : Heap} {m : PySem.Str → Option Value} {news : List (Addr × Obj)} {env : Env}
theorem newDict_at {M : Model} {Q Q' : Value → Shared → Prop} (h : wpAny M A newDict Q E s) (k : Q (.ref s.heap.objs.size) { s with heap := s.heap.push { cls := .type "dict", dict := none, data := .dict #[] } } → Q' (.ref s.heap.objs.size) { s with heap := s.heap.push { cls := .type "dict", dict := none, data := .dict #[] } }) : wpAny M A newDict Q' E s := by
  intro Γ p hΓ
  have h1 := h Γ p hΓ
  exact k h1
/-- what is to be done with the dict of a comprehension: the comprehension's own frame, at C, goes -/
def EndC (h₀ : Heap) (L : Addr) (s : Shared) (C : Addr) (oC : Obj) (R : Shared → Prop) (s'' : Shared) : Prop :=
  ∃ m' news' h tk, s'' = { s with heap := h, toks := tk } ∧ Fr h₀ L h m' ∧ News h₀ L h ((C, oC) :: news') ∧ (∀ p ∈ news', p.1 ≠ C) ∧ ∀ h', Fr h₀ L h' m' → News h₀ L h' news' → R { s with heap := h', toks := tk }
/-- what the comprehension is walked over: ints, each once; what it lays to each: f -/
def DSrc (prog : Program) (w : World) (A : Around) (E : Value → Shared → Prop) (h₀ : Heap) (m : PySem.Str → Option Value) (news : List (Addr × Obj)) (env : Env) (x y : PySem.Str) (py : Pos) (vx : Expr) (scope : Scope) (cl : List (PySem.Str × Addr)) (Q : Flow → Shared → Prop) (it : Value) (s₂ : Shared) : Prop :=
  ∃ (I : Addr) (fp : List Addr) (n : Nat) (P : Nat → Value → Prop) (St : Nat → Heap → Prop) (ks : List Int) (f : Int → Int), it = .ref I ∧ Walks prog w A I fp [I] n P St ∧ St 0 s₂.heap ∧ (∀ b ∈ fp, b < s₂.heap.objs.size) ∧ n = ks.length ∧ n ≤ 100 ∧
    (∀ i v, P i v → ∃ k t, ks[i]? = some k ∧ v = .int k t) ∧ ks.Nodup ∧ Fr h₀ env.locals s₂.heap m ∧ News h₀ env.locals s₂.heap news ∧ h₀.get? I = none ∧ I ≠ env.locals ∧ (∀ p ∈ news, p.1 ≠ I) ∧
    (∀ C k t s₃ m₃ E', k ∈ ks → s₃.heap.Ns C m₃ → m₃ x = some (.int k t) → (∀ b o, b ≠ I → s₂.heap.get? b = some o → s₃.heap.get? b = some o) → wpAny (model prog w) A (eval vx (compEnvC scope cl C env)) (fun y s₄ => (∃ t', y = .int (f k) t') ∧ Keeps s₃ s₄) E' s₃) ∧
    ∀ D o C oC kvs h' tk, o.IsDictOf (PySem.intKind prog w) kvs → FlatPairs PyData.int kvs (kdfD (tabOf f ks)) → Fr h₀ env.locals h' m → News h₀ env.locals h' ((C, oC) :: (D, o) :: news) → (∀ p ∈ (D, o) :: news, p.1 ≠ C) → (∀ p ∈ news, p.1 < D) → (D == sysModules) = false →
      wpAny (model prog w) A (assign (.Name y py) env (.ref D)) (fun _ s'' => EndC h₀ env.locals s₂ C oC (Q .next) s'') E { s₂ with heap := h', toks := tk }
theorem dict_core {vx iter : Expr} {x : PySem.Str} {px kp : Pos} {scope : Scope} {cl : List (PySem.Str × Addr)} {pos : Pos} {s₂ : Shared} {I : Addr} {fp : List Addr} {n : Nat} {P : Nat → Value → Prop} {St : Nat → Heap → Prop} {ks : List Int} {f : Int → Int} {R : Value → Addr → Result → Shared → Prop}
    (hbig : h₀.NoLimit) (hcell : ∀ z ∈ scope.names, z.2 ≠ .cell) (hkind : scope.kind = .function) (hx : scope.names.lookup x = some .local) (hxd : (x == ("__debug__" : PySem.Str)) = false)
    (W : Walks prog w A I fp [I] n P St) (hst : St 0 s₂.heap) (hfp : ∀ b ∈ fp, b < s₂.heap.objs.size) (hn : n = ks.length) (hn1 : n ≤ 100) (hP : ∀ i v, P i v → ∃ k t, ks[i]? = some k ∧ v = .int k t) (hnd : ks.Nodup)
    (F : Fr h₀ env.locals s₂.heap m) (N : News h₀ env.locals s₂.heap news) (hI0 : h₀.get? I = none) (hIL : I ≠ env.locals) (hIn : ∀ p ∈ news, p.1 ≠ I)
    (hval : ∀ C k t s₃ m₃ E', k ∈ ks → s₃.heap.Ns C m₃ → m₃ x = some (.int k t) → (∀ b o, b ≠ I → s₂.heap.get? b = some o → s₃.heap.get? b = some o) → wpAny (model prog w) A (eval vx (compEnvC scope cl C env)) (fun y s₄ => (∃ t', y = .int (f k) t') ∧ Keeps s₃ s₄) E' s₃)
    (hR : ∀ D o C oC kvs h' tk m', o.IsDictOf (PySem.intKind prog w) kvs → FlatPairs PyData.int kvs (kdfD (tabOf f ks)) → Fr h₀ env.locals h' m → News h₀ env.locals h' ((C, oC) :: (D, o) :: news) → (∀ p ∈ (D, o) :: news, p.1 ≠ C) → (∀ p ∈ news, p.1 < D) → (D == sysModules) = false →
      (∀ h₂ : Heap, h₂.get? C = some oC → h₂.Ns C m') → R (.ref D) C (.ok .next) { s₂ with heap := h', toks := tk }) :
    wpAny (model prog w) A newDict (fun acc s₃ => wpAny (model prog w) A (newFunctionEnv scope env.globals cl [] env.qual none .none (some env)) (fun cenv s₄ =>
      codeAny (model prog w) A (.compStart (.DictComp (.Name x kp) vx [⟨.Name x px, iter, [], 0⟩] scope pos) 0 (.ref I) acc { cenv with scope := relabel scope env }) (R acc cenv.locals) s₄) E s₃) E s₂ := by
  have hB := comp_block_walkCD (prog := prog) (w := w) (A := A) (E := E) (env := env) (kx := .Name x kp) (vx := vx) (iter := iter) (px := px) (ifs := []) (scope := scope) (cl := cl) (pos := pos) (knd := PySem.intKind prog w)
    (RR := fun acc C r s' => acc = .ref s₂.heap.objs.size → R acc C r s') W (Nat.le_trans hn1 (by decide)) (fun _ => true)
    (fun v k => ∃ t, v = .int k t) (fun v y => ∀ k t, v = .int k t → ∃ t', y = .int (f k) t') hcell hkind hx hst hfp ⟨?_, ?_, ?_⟩ ?_
  · exact newDict_at hB fun hb => wpAny_mono hb (fun cenv s₄ hc => codeAny_mono hc fun r s' z => z rfl) fun _ _ e => e
  · intro C i v s₃ m₃ E' _ _ _ _
    exact wpAny_pure ⟨rfl, s₃.heap, s₃.toks, rfl, fun _ _ e => e⟩
  · intro C i v s₃ m₃ E' hp _ hns hm _
    obtain ⟨k, t, _, rfl⟩ := hP i v hp
    refine wpAny_Name (wpAny_loadName_local (by simp [compEnvC, relabel, hkind]) (lookup_relabel_local hx) hns hm ?_) hxd
    exact ⟨⟨k, intKind_is _ _ _ _, t, rfl⟩, s₃.heap, s₃.toks, rfl, fun _ _ e => e⟩
  · intro C i v s₃ m₃ E' hp _ hns hm hk
    obtain ⟨k, t, hki, rfl⟩ := hP i v hp
    refine wpAny_mono (hval C k t s₃ m₃ E' (List.mem_of_getElem? hki) hns hm fun b o hb e => hk b o (fun hm => hb (List.mem_singleton.mp hm)) e) (fun y s₄ h₄ => ⟨fun k' t' e => ?_, h₄.2⟩) fun _ _ e => e
    injection e with e1 e2
    subst e1
    exact h₄.1
  · intro D C h' tk m' kvs vs hD hC hDC hnC hlD hlen hvs hS hk
    rw [List.filter_eq_self.mpr (fun _ _ => rfl)] at hS
    have hS' := stored_tab hS (ks := ks) (by lia) (fun j v hj => hP j v (hvs j v hj)) hnd
    obtain ⟨o, hoD, hdict⟩ := Heap.dictOf_iff.mp hlD
    obtain ⟨oC, es, ep, hoC, hdC, rC⟩ := id hnC
    have kk : ∀ b o, b ≠ I → s₂.heap.get? b = some o → h'.get? b = some o := fun b o hb e => hk b o (fun hm => hb (List.mem_singleton.mp hm)) e
    have gnone : ∀ b, s₂.heap.get? b = none → h₀.get? b = none := fun b e => by
      cases q : h₀.get? b with
      | none => rfl
      | some o' => rw [F.keep _ _ q] at e; cases e
    have nL : ∀ b, s₂.heap.get? b = none → b ≠ env.locals := fun b e e' => by
      obtain ⟨o', _, _, ho', _⟩ := F.ns
      rw [e', ho'] at e; cases e
    have F' : Fr h₀ env.locals h' m := ⟨F.ns.at' fun o e => kk _ o (fun e' => hIL e'.symm) e, fun b o e => kk b o (fun e' => by rw [e', hI0] at e; cases e) (F.keep b o e), F.above⟩
    have hnw : ∀ p ∈ (D, o) :: news, p.1 ≠ C := fun p hp => by
      rcases List.mem_cons.mp hp with rfl | hp
      · exact hDC
      · intro e
        have := (N p hp).1
        rw [e, hC] at this; cases this
    have N' : News h₀ env.locals h' ((C, oC) :: (D, o) :: news) := fun p hp => by
      rcases List.mem_cons.mp hp with rfl | hp
      · exact ⟨hoC, nL C hC, gnone C hC⟩
      rcases List.mem_cons.mp hp with rfl | hp
      · exact ⟨hoD, nL D hD, gnone D hD⟩
      · exact ⟨kk _ _ (hIn p hp) (N p hp).1, (N p hp).2⟩
    intro hDe
    obtain rfl : D = s₂.heap.objs.size := by injection hDe
    have lt : ∀ p ∈ news, p.1 < s₂.heap.objs.size := fun p hp => Heap.lt_size (N p hp).1
    exact hR _ o C oC kvs h' tk m' hdict hS'.2 F' N' hnw lt (F.notModules (modules_low hbig)) fun h₂ e => ⟨oC, es, ep, e, hdC, rC⟩
theorem dictcomp {vx iter : Expr} {x y : PySem.Str} {px py kp : Pos} {scope : Scope} {cl : List (PySem.Str × Addr)} {pos spos : Pos} {Q : Flow → Shared → Prop}
    (hbig : h₀.NoLimit) (_F : Fr h₀ env.locals s.heap m) (_N : News h₀ env.locals s.heap news) (hsw : swapsWith (.DictComp (.Name x kp) vx [⟨.Name x px, iter, [], 0⟩] scope pos) (some (.Name y py)) spos.line env = pure true)
    (hh : A.handled = none) (hclos : closureFor scope env = pure cl) (hcell : ∀ z ∈ scope.names, z.2 ≠ .cell) (hkind : scope.kind = .function)
    (hnames : ∀ z ∈ scope.names, z.2 = .local → scope.names.lookup z.1 = some .local) (hx : scope.names.lookup x = some .local) (hxd : (x == ("__debug__" : PySem.Str)) = false)
    (h : wpAny (model prog w) A (eval iter env) (fun xv s₁ => wpAny (model prog w) A (pyIter xv) (fun it s₂ => DSrc prog w A E h₀ m news env x y py vx scope cl Q it s₂) E s₁) E s)
    (hs : ∀ x, foldedSetIterable iter env x = pure x) :
    wpAny (model prog w) A (exec (.Assign [.Name y py] (.DictComp (.Name x kp) vx [⟨.Name x px, iter, [], 0⟩] scope pos) spos) env) Q E s := by
  rw [exec_Assign_Name_used _ _ _ _ hsw]
  refine wpAny_bind (wpAny_standAt (wpAny_bind ?_))
  show wpAny _ A (do let _ ← comprehension (.DictComp (.Name x kp) vx [⟨.Name x px, iter, [], 0⟩] scope pos) scope env _ newDict false (eval iter env) (some (assign (.Name y py) env))) _ _ s
  refine wpAny_bind (wpAny_mono (wpAny_comprehension_free (use := some (assign (.Name y py) env)) (Q := fun _ s' => Q .next s') rfl hs hclos hkind hnames
    (wpAny_mono h (fun xv s₁ h₁ => wpAny_mono h₁ (fun it s₂ h₂ => ?_) fun _ _ e => e) fun _ _ e => e)) (fun _ s' hq => wpAny_pure (wpAny_pure hq)) fun _ _ e => e)
  obtain ⟨I, fp, n, P, St, ks, f, rfl, W, hst, hfp, hn, hn1, hP, hnd, F, N, hI0, hIL, hIn, hval, hQ⟩ := h₂
  refine dict_core hbig hcell hkind hx hxd W hst hfp hn hn1 hP hnd F N hI0 hIL hIn hval fun D o C oC kvs h' tk m' hdict hf F' N' hnw lt hsy hC => ?_
  refine wpAny_mono (hQ _ o C oC kvs h' tk hdict hf F' N' hnw lt hsy) (fun _ s'' hE => ?_) fun _ _ e => e
  obtain ⟨m₂, news₂, h₂, tk₂, rfl, F₂, N₂, hne, k₂⟩ := hE
  refine ⟨m', hC _ (N₂ _ (.head _)).1, fun h₃ hs₃ => ?_⟩
  have k₃ : ∀ b o, b ≠ C → h₂.get? b = some o → h₃.get? b = some o := fun b o hb e => hs₃.extBut b o hb e
  have hCL : C ≠ env.locals := (N₂ _ (.head _)).2.1
  exact k₂ h₃ ⟨F₂.ns.at' fun o e => k₃ _ o (fun e' => hCL e'.symm) e, fun b o e => k₃ b o (fun e' => by rw [e', (N₂ _ (.head _)).2.2] at e; cases e) (F₂.keep b o e), F₂.above⟩ fun p hp => ⟨k₃ _ _ (hne p hp) (N₂ p (List.mem_cons_of_mem _ hp)).1, (N₂ p (List.mem_cons_of_mem _ hp)).2⟩
/-- what the comprehension is walked over: ints, each once; what it lays to each: f -/
def DSrcE (prog : Program) (w : World) (A : Around) (h₀ : Heap) (m : PySem.Str → Option Value) (news : List (Addr × Obj)) (env : Env) (x : PySem.Str) (vx : Expr) (scope : Scope) (cl : List (PySem.Str × Addr)) (Q : Value → Shared → Prop) (it : Value) (s₂ : Shared) : Prop :=
  ∃ (I : Addr) (fp : List Addr) (n : Nat) (P : Nat → Value → Prop) (St : Nat → Heap → Prop) (ks : List Int) (f : Int → Int), it = .ref I ∧ Walks prog w A I fp [I] n P St ∧ St 0 s₂.heap ∧ (∀ b ∈ fp, b < s₂.heap.objs.size) ∧ n = ks.length ∧ n ≤ 100 ∧
    (∀ i v, P i v → ∃ k t, ks[i]? = some k ∧ v = .int k t) ∧ ks.Nodup ∧ Fr h₀ env.locals s₂.heap m ∧ News h₀ env.locals s₂.heap news ∧ h₀.get? I = none ∧ I ≠ env.locals ∧ (∀ p ∈ news, p.1 ≠ I) ∧
    (∀ C k t s₃ m₃ E', k ∈ ks → s₃.heap.Ns C m₃ → m₃ x = some (.int k t) → (∀ b o, b ≠ I → s₂.heap.get? b = some o → s₃.heap.get? b = some o) → wpAny (model prog w) A (eval vx (compEnvC scope cl C env)) (fun y s₄ => (∃ t', y = .int (f k) t') ∧ Keeps s₃ s₄) E' s₃) ∧
    ∀ D o kvs h' tk, o.IsDictOf (PySem.intKind prog w) kvs → FlatPairs PyData.int kvs (kdfD (tabOf f ks)) → Fr h₀ env.locals h' m → News h₀ env.locals h' ((D, o) :: news) → (∀ p ∈ news, p.1 < D) → (D == sysModules) = false → Q (.ref D) { s₂ with heap := h', toks := tk }
theorem dictcompE {vx iter : Expr} {x : PySem.Str} {px kp : Pos} {scope : Scope} {cl : List (PySem.Str × Addr)} {pos : Pos} {Q : Value → Shared → Prop}
    (hbig : h₀.NoLimit) (_F : Fr h₀ env.locals s.heap m) (_N : News h₀ env.locals s.heap news) 
    (hh : A.handled = none) (hclos : closureFor scope env = pure cl) (hcell : ∀ z ∈ scope.names, z.2 ≠ .cell) (hkind : scope.kind = .function)
    (hnames : ∀ z ∈ scope.names, z.2 = .local → scope.names.lookup z.1 = some .local) (hx : scope.names.lookup x = some .local) (hxd : (x == ("__debug__" : PySem.Str)) = false)
    (h : wpAny (model prog w) A (eval iter env) (fun xv s₁ => wpAny (model prog w) A (pyIter xv) (fun it s₂ => DSrcE prog w A h₀ m news env x vx scope cl Q it s₂) E s₁) E s)
    (hs : ∀ x, foldedSetIterable iter env x = pure x) :
    wpAny (model prog w) A (eval (.DictComp (.Name x kp) vx [⟨.Name x px, iter, [], 0⟩] scope pos) env) Q E s := by
  rw [arm_eval_DictComp]
  refine wpAny_comprehension_free (use := none) rfl hs hclos hkind hnames
    (wpAny_mono h (fun xv s₁ h₁ => wpAny_mono h₁ (fun it s₂ h₂ => ?_) fun _ _ e => e) fun _ _ e => e)
  obtain ⟨I, fp, n, P, St, ks, f, rfl, W, hst, hfp, hn, hn1, hP, hnd, F, N, hI0, hIL, hIn, hval, hQ⟩ := h₂
  refine dict_core hbig hcell hkind hx hxd W hst hfp hn hn1 hP hnd F N hI0 hIL hIn hval fun D o C oC kvs h' tk m' hdict hf F' N' hnw lt hsy hC => ?_
  refine ⟨m', hC _ (N' _ (.head _)).1, fun h₃ hs₃ => ?_⟩
  have k₃ : ∀ b o, b ≠ C → h'.get? b = some o → h₃.get? b = some o := fun b o hb e => hs₃.extBut b o hb e
  have hCL : C ≠ env.locals := (N' _ (.head _)).2.1
  exact hQ _ o kvs h₃ tk hdict hf ⟨F'.ns.at' fun o e => k₃ _ o (fun e' => hCL e'.symm) e, fun b o e => k₃ b o (fun e' => by rw [e', (N' _ (.head _)).2.2] at e; cases e) (F'.keep b o e), F'.above⟩ (fun p hp => ⟨k₃ _ _ (hnw p hp) (N' p (List.mem_cons_of_mem _ hp)).1, (N' p (List.mem_cons_of_mem _ hp)).2⟩) lt hsy
end
end Mine
end

section
theorem Mine.fresh21 : True := by k_with_none; w_top off; trivial
open PySem PySem.W PyProof.Rows PyProof.V PySem.Calls
set_option maxRecDepth 100000
set_option maxHeartbeats 8000000
namespace Mine
theorem tab_keys {c : List (Int × Int)} : ∀ {kvs : List (Int × Value)}, FlatPairs PyData.int kvs (kdfD c) → kvs.map (·.1) = c.map (·.1) := by
  induction c with
  | nil => intro kvs h; cases h; rfl
  | cons p c ih =>
    intro kvs h
    have h' : FlatPairs PyData.int kvs ((PyData.int p.1, PyData.int p.2) :: kdfD c) := h
    generalize hk : PyData.int p.1 = k at h'
    cases h' with
    | cons f r =>
      injection hk with hk
      simp [hk, ih r]
/-- the numbers 1 to n -/
def upTo (n : Int) : List Int := (List.range n.toNat).map fun i => ((i + 1 : Nat) : Int)
theorem upTo_nodup (n : Int) : (upTo n).Nodup := by
  unfold upTo
  refine List.Pairwise.map _ (fun a b h e => h ?_) List.nodup_range
  lia
theorem upTo_len (n : Int) : (upTo n).length = n.toNat := by simp [upTo]
section
variable {w : World} {A : Around} {E : Value → Shared → Prop} {s : Shared} {h₀ : Heap} {m : PySem.Str → Option Value} {news : List (Addr × Obj)} {env : Env} {x y : PySem.Str} {py : Pos} {vx : Expr} {scope : Scope} {cl : List (PySem.Str × Addr)} {Q : Flow → Shared → Prop}
theorem range_cps {r : Addr} {n : Int} {t u v : Tok} {f : Int → Int} {G : Value → Shared → Prop} (hh : A.handled = none) (hr : IsRange s.heap r 1 (n + 1) 1 t u v) (h1 : 1 ≤ n) (h2 : n ≤ 5) (F : Fr h₀ env.locals s.heap m) (N : News h₀ env.locals s.heap news)
    (hval : ∀ C k t s₃ m₃ E', k ∈ upTo n → s₃.heap.Ns C m₃ → m₃ x = some (.int k t) → (∀ b o, s.heap.get? b = some o → s₃.heap.get? b = some o) → wpAny (model PySem.Challenge.rw_zd0004_01.row.prog w) A (eval vx (compEnvC scope cl C env)) (fun y s₄ => (∃ t', y = .int (f k) t') ∧ Keeps s₃ s₄) E' s₃)
    (k : ∀ (I : Addr) (fp : List Addr) (P : Nat → Value → Prop) (St : Nat → Heap → Prop) (hp : Heap), Walks PySem.Challenge.rw_zd0004_01.row.prog w A I fp [I] n.toNat P St → St 0 hp → (∀ b ∈ fp, b < hp.objs.size) → (∀ i v, P i v → ∃ k t, (upTo n)[i]? = some k ∧ v = .int k t) → Fr h₀ env.locals hp m → News h₀ env.locals hp news → h₀.get? I = none → I ≠ env.locals → (∀ p ∈ news, p.1 ≠ I) →
      (∀ C k t s₃ m₃ E', k ∈ upTo n → s₃.heap.Ns C m₃ → m₃ x = some (.int k t) → (∀ b o, b ≠ I → hp.get? b = some o → s₃.heap.get? b = some o) → wpAny (model PySem.Challenge.rw_zd0004_01.row.prog w) A (eval vx (compEnvC scope cl C env)) (fun y s₄ => (∃ t', y = .int (f k) t') ∧ Keeps s₃ s₄) E' s₃) →
      G (.ref I) { s with heap := hp }) :
    wpAny (model PySem.Challenge.rw_zd0004_01.row.prog w) A (pyIter (.ref r)) G E s := by
  have hsmall : Builtin.Range.small 1 (n + 1) 1 = true := by
    obtain rfl | rfl | rfl | rfl | rfl : n = 1 ∨ n = 2 ∨ n = 3 ∨ n = 4 ∨ n = 5 := by lia
    all_goals decide
  have hsize : Builtin.Range.rangeSize 1 (n + 1) 1 = ((n.toNat : Nat) : Int) := by
    rw [Builtin.Range.rangeSize]; simp; lia
  refine wpAny_pyIter_range hr hsmall ?_
  have hI : s.heap.get? s.heap.objs.size = none := Heap.get?_none_of_le (Nat.le_refl _)
  have up : ∀ b o, s.heap.get? b = some o → (s.heap.push { cls := .type "range_iterator", data := .fields #[rawInt 1, rawInt (Builtin.Range.rangeSize 1 (n + 1) 1), rawInt 1] }).get? b = some o := fun b o e => Heap.get?_push_of_some _ e
  have ne : ∀ b o, s.heap.get? b = some o → b ≠ s.heap.objs.size := fun b o e e' => by rw [e', hI] at e; cases e
  refine k s.heap.objs.size _ _ _ _ (Walks.range hh _ 1 1 n.toNat).bound ?_ ?_ ?_ ⟨F.ns.at' fun o e => up _ o e, fun b o e => up b o (F.keep b o e), F.above⟩ (fun p hp => ⟨up _ _ (N p hp).1, (N p hp).2⟩) ?_ ?_ ?_ ?_
  · show IsRangeIter _ _ _ _ _
    rw [hsize]
    simpa using Heap.get?_push_size _ rfl
  · intro b hb
    rw [List.mem_singleton.mp hb, Heap.size_push]
    exact Nat.lt_succ_self _
  · rintro i v ⟨hi, t, rfl⟩
    refine ⟨((i + 1 : Nat) : Int), t, ?_, by congr 1; push_cast; lia⟩
    simp [upTo, hi]
  · cases q : h₀.get? s.heap.objs.size with
    | none => rfl
    | some o => rw [F.keep _ _ q] at hI; cases hI
  · intro e
    have := F.ns.lt
    rw [← e] at this
    exact absurd this (Nat.lt_irrefl _)
  · intro p hp
    exact ne _ _ (N p hp).1
  · intro C k t s₃ m₃ E' hk hns hm hkeep
    exact hval C k t s₃ m₃ E' hk hns hm fun b o e => hkeep b o (ne b o e) (up b o e)
theorem dsrc_range {r : Addr} {n : Int} {t u v : Tok} (f : Int → Int) (hh : A.handled = none) (hr : IsRange s.heap r 1 (n + 1) 1 t u v) (h1 : 1 ≤ n) (h2 : n ≤ 5) (F : Fr h₀ env.locals s.heap m) (N : News h₀ env.locals s.heap news)
    (hval : ∀ C k t s₃ m₃ E', k ∈ upTo n → s₃.heap.Ns C m₃ → m₃ x = some (.int k t) → (∀ b o, s.heap.get? b = some o → s₃.heap.get? b = some o) → wpAny (model PySem.Challenge.rw_zd0004_01.row.prog w) A (eval vx (compEnvC scope cl C env)) (fun y s₄ => (∃ t', y = .int (f k) t') ∧ Keeps s₃ s₄) E' s₃)
    (cont : ∀ D o C oC h' tk, Tab w o (tabOf f (upTo n)) → Fr h₀ env.locals h' m → News h₀ env.locals h' ((C, oC) :: (D, o) :: news) → (∀ p ∈ (D, o) :: news, p.1 ≠ C) → (∀ p ∈ news, p.1 < D) → (D == sysModules) = false →
      wpAny (model PySem.Challenge.rw_zd0004_01.row.prog w) A (assign (.Name y py) env (.ref D)) (fun _ s'' => EndC h₀ env.locals s C oC (Q .next) s'') E { s with heap := h', toks := tk }) :
    wpAny (model PySem.Challenge.rw_zd0004_01.row.prog w) A (pyIter (.ref r)) (fun it s₂ => DSrc PySem.Challenge.rw_zd0004_01.row.prog w A E h₀ m news env x y py vx scope cl Q it s₂) E s := by
  refine range_cps hh hr h1 h2 F N hval fun I fp P St hp W a b c d e g h i j => ?_
  exact ⟨I, fp, n.toNat, P, St, upTo n, f, rfl, W, a, b, (upTo_len n).symm, by lia, c, upTo_nodup n, d, e, g, h, i, j, fun D o C oC kvs h' tk hd hf F' N' h3 h4 h5 => cont D o C oC h' tk ⟨kvs, hd, hf⟩ F' N' h3 h4 h5⟩
theorem dsrc_keys {d : Addr} {o : Obj} {c : List (Int × Int)} (f : Int → Int) (hh : A.handled = none) (hs : (d == sysModules) = false) (hm : (d, o) ∈ news) (ht : Tab w o c) (hc : c.length ≤ 100) (F : Fr h₀ env.locals s.heap m) (N : News h₀ env.locals s.heap news)
    (hval : ∀ C k t s₃ m₃ E', k ∈ c.map (·.1) → s₃.heap.Ns C m₃ → m₃ x = some (.int k t) → (∀ b o, s.heap.get? b = some o → s₃.heap.get? b = some o) → wpAny (model PySem.Challenge.rw_zd0004_01.row.prog w) A (eval vx (compEnvC scope cl C env)) (fun y s₄ => (∃ t', y = .int (f k) t') ∧ Keeps s₃ s₄) E' s₃)
    (cont : ∀ D o C oC h' tk, Tab w o (tabOf f (c.map (·.1))) → Fr h₀ env.locals h' m → News h₀ env.locals h' ((C, oC) :: (D, o) :: news) → (∀ p ∈ (D, o) :: news, p.1 ≠ C) → (∀ p ∈ news, p.1 < D) → (D == sysModules) = false →
      wpAny (model PySem.Challenge.rw_zd0004_01.row.prog w) A (assign (.Name y py) env (.ref D)) (fun _ s'' => EndC h₀ env.locals s C oC (Q .next) s'') E { s with heap := h', toks := tk }) :
    wpAny (model PySem.Challenge.rw_zd0004_01.row.prog w) A (pyIter (.ref d)) (fun it s₂ => DSrc PySem.Challenge.rw_zd0004_01.row.prog w A E h₀ m news env x y py vx scope cl Q it s₂) E s := by
  obtain ⟨kvs, ⟨es, ep, hx1, hx2, hx3, hx4, hx5⟩, hf⟩ := ht
  have hkv := tab_keys hf
  have hlen : kvs.length = c.length := by have := congrArg List.length hkv; simpa using this
  have hod := (N _ hm).1
  have hda : s.heap.DictAt (PySem.intKind PySem.Challenge.rw_zd0004_01.row.prog w) d kvs ep := ⟨o, es, hod, hx1, hx2, hx3, hx4, hx5⟩
  refine wpAny_pyIter_dict (knd := PySem.intKind PySem.Challenge.rw_zd0004_01.row.prog w) hs hda ?_
  have hI : s.heap.get? s.heap.objs.size = none := Heap.get?_none_of_le (Nat.le_refl _)
  have up : ∀ b o, s.heap.get? b = some o → (s.heap.push { cls := .type "dict_keyiterator", data := .fields #[.ref d, .int 0 0, .int kvs.length 0, .int ep 0] }).get? b = some o := fun b o e => Heap.get?_push_of_some _ e
  have ne : ∀ b o, s.heap.get? b = some o → b ≠ s.heap.objs.size := fun b o e e' => by rw [e', hI] at e; cases e
  refine ⟨s.heap.objs.size, _, kvs.length, _, _, c.map (·.1), f, rfl, Walks.dictKeys (knd := PySem.intKind PySem.Challenge.rw_zd0004_01.row.prog w) hh _ d (ne _ _ hod) kvs ep, ⟨⟨_, Heap.get?_push_size _ rfl, rfl, rfl⟩, ⟨o, es, up _ _ hod, hx1, hx2, hx3, hx4, hx5⟩⟩, ?_, by simp [hlen], by lia, ?_, hkv ▸ hx5, ⟨F.ns.at' fun o e => up _ o e, fun b o e => up b o (F.keep b o e), F.above⟩, fun p hp => ⟨up _ _ (N p hp).1, (N p hp).2⟩, ?_, ?_, ?_, ?_, ?_⟩
  · intro b hb
    rw [Heap.size_push]
    rcases List.mem_cons.mp hb with rfl | hb
    · exact Nat.lt_succ_self _
    · rw [List.mem_singleton.mp hb]
      exact Nat.lt_succ_of_lt (Heap.lt_size hod)
  · rintro i v ⟨k, xv, hi, hk⟩
    obtain ⟨t, rfl⟩ := Value.isInt_shape hk
    refine ⟨k, t, ?_, rfl⟩
    rw [← hkv, List.getElem?_map, hi]; rfl
  · cases q : h₀.get? s.heap.objs.size with
    | none => rfl
    | some o => rw [F.keep _ _ q] at hI; cases hI
  · intro e
    have := F.ns.lt
    rw [← e] at this
    exact absurd this (Nat.lt_irrefl _)
  · intro p hp
    exact ne _ _ (N p hp).1
  · intro C k t s₃ m₃ E' hk hns hm' hkeep
    exact hval C k t s₃ m₃ E' hk hns hm' fun b o e => hkeep b o (ne b o e) (up b o e)
  · intro D o' C oC kvs' h' tk hd hf' F' N' h3 h4 h5
    exact cont D o' C oC h' tk ⟨kvs', hd, hf'⟩ F' N' h3 h4 h5
end
section
variable {w : World} {A : Around} {E : Value → Shared → Prop} {s : Shared} {h₀ : Heap} {m : PySem.Str → Option Value} {news : List (Addr × Obj)} {env : Env} {x : PySem.Str} {vx : Expr} {scope : Scope} {cl : List (PySem.Str × Addr)} {Q : Value → Shared → Prop}
theorem dsrcE_range {r : Addr} {n : Int} {t u v : Tok} (f : Int → Int) (hh : A.handled = none) (hr : IsRange s.heap r 1 (n + 1) 1 t u v) (h1 : 1 ≤ n) (h2 : n ≤ 5) (F : Fr h₀ env.locals s.heap m) (N : News h₀ env.locals s.heap news)
    (hval : ∀ C k t s₃ m₃ E', k ∈ upTo n → s₃.heap.Ns C m₃ → m₃ x = some (.int k t) → (∀ b o, s.heap.get? b = some o → s₃.heap.get? b = some o) → wpAny (model PySem.Challenge.rw_zd0004_01.row.prog w) A (eval vx (compEnvC scope cl C env)) (fun y s₄ => (∃ t', y = .int (f k) t') ∧ Keeps s₃ s₄) E' s₃)
    (cont : ∀ D o h' tk, Tab w o (tabOf f (upTo n)) → Fr h₀ env.locals h' m → News h₀ env.locals h' ((D, o) :: news) → (∀ p ∈ news, p.1 < D) → (D == sysModules) = false → Q (.ref D) { s with heap := h', toks := tk }) :
    wpAny (model PySem.Challenge.rw_zd0004_01.row.prog w) A (pyIter (.ref r)) (fun it s₂ => DSrcE PySem.Challenge.rw_zd0004_01.row.prog w A h₀ m news env x vx scope cl Q it s₂) E s := by
  refine range_cps hh hr h1 h2 F N hval fun I fp P St hp W a b c d e g h i j => ?_
  exact ⟨I, fp, n.toNat, P, St, upTo n, f, rfl, W, a, b, (upTo_len n).symm, by lia, c, upTo_nodup n, d, e, g, h, i, j, fun D o kvs h' tk hd hf F' N' h4 h5 => cont D o h' tk ⟨kvs, hd, hf⟩ F' N' h4 h5⟩
end
end Mine
end

section
theorem Mine.fresh22 : True := by k_with_none; w_top off; trivial
open PySem PySem.W PyProof.Rows PyProof.V
set_option maxRecDepth 100000
set_option maxHeartbeats 4000000
namespace Mine
def DoesL (w : World) (f : Addr) (k : Nat) (news : List (Addr × Obj)) (vs : List Value) (Post : Value → List (Addr × Obj) → Prop) : Prop :=
  ∀ (dp un : Nat) (gd : Option (List Code)) (cn : Str) (cs : Scope) (a : Addr) (ccd : Value) (cl : List (Str × Addr)) (A₀ : Around) (base h₀ : Heap) (L : Addr) (m : Str → Option Value) (s : Shared)
    (mean : ExcName → Option Value) (mg mb : Str → Option Value) (Q E : Value → Shared → Prop),
    Below A₀ base [] h₀ → Fr h₀ L s.heap m → (hd.heap_39 w.params).In h₀ → News h₀ L s.heap news → Top hd.view_39 (looseW hd.view_39 []) mean mg mb h₀ → (hd.heap_39 w.params).In base → Top hd.view_39 (looseW hd.view_39 []) mean mg mb base →
    cs.kind = .function → dp + k < recursionLimit → un + 8 * k < cLine →
    DoesRet h₀ L m s Post Q →
    wpC (model PySem.Challenge.rw_zd0004_01.row.prog w) (ktrTop dp un gd cn cs L a ccd cl []) (call (.ref f) vs) Q E s
theorem C_execs_consP {M : Model} {A : Around} {env : Env} {s : Shared} {st : Stmt} {rest : List Stmt} {Q : Flow → Shared → Prop} {E : Value → Shared → Prop} (P : Shared → Prop) (h1 : wpAny M A (exec st env) (fun f s' => f = .next ∧ P s') (fun _ _ => False) s) (h2 : ∀ s', P s' → wpC M A (execs rest env) Q E s') : wpC M A (execs (st :: rest) env) Q E s :=
  C_execs_consA (wpAny_mono h1 (fun f s' h => by obtain ⟨rfl, h⟩ := h; exact h2 s' h) fun _ _ h => h.elim)
theorem keep_two {x y : Str} {vx vy : Value} {m : Str → Option Value} (h : m x = some vx) (h' : m y = some vy) : m = fun z => if z = x then some vx else if z = y then some vy else m z := by
  funext z
  by_cases e : z = x
  · subst e; simp [h]
  · by_cases e' : z = y
    · subst e'; simp [e, h']
    · simp [e, e']
/-- n heaps of 500 -/
def startC (n : Int) : List (Int × Int) := (List.range n.toNat).map fun i => (((i + 1 : Nat) : Int), 500)
theorem fr_two {g h : Heap} {L : Addr} {x y : Str} {vx vy : Value} {m : Str → Option Value} (F : Fr g L h m) (h1 : m x = some vx) (h2 : m y = some vy) : Fr g L h (fun z => if z = x then some vx else if z = y then some vy else m z) := keep_two h1 h2 ▸ F
theorem startC_is (n : Int) : tabOf (fun _ => 500) (upTo n) = startC n := by simp [tabOf, upTo, startC]
/-- the heaps as the deeds lay them -/
def laidStep (c : List (Int × Int)) (d : Int × Int × Int) : List (Int × Int) := if d.2.1 < 3 then kdfPut c d.1 (kdfLook c d.1 0 + d.2.2) else c
def laidC (n : Int) (ds : List (Int × Int × Int)) : List (Int × Int) := ds.foldl laidStep (startC n)
/-- a list object whose items are the deeds, each a tuple in the ledger -/
def DeedsAt (news : List (Addr × Obj)) (items : Array Value) (ds : List (Int × Int × Int)) : Prop :=
  items.size = ds.length ∧ ∀ (i : Nat) (v : Value), items[i]? = some v → ∃ hp kd gr t1 t2 t3 T, ds[i]? = some (hp, kd, gr) ∧ v = .ref T ∧ (T, { cls := .type "tuple", data := .seq #[.int hp t1, .int kd t2, .int gr t3] }) ∈ news
/-- deeds within their bounds -/
def DeedsOk (n : Int) (ds : List (Int × Int × Int)) : Prop := ∀ d ∈ ds, (1 ≤ d.1 ∧ d.1 ≤ n) ∧ (0 ≤ d.2.1 ∧ d.2.1 < 6) ∧ 0 ≤ d.2.2 ∧ d.2.2 < 1500
theorem turnEnd_of {σ : Type} {G : Heap → Prop} {L : Addr} {x : Str} {vx : Value} {Led : σ → List (Addr × Obj)} {J : Nat → σ → Prop} {s : Shared} {I : Addr} {oI : Obj} {i : Nat} {c : σ} {g : Heap} {m₂ : Str → Option Value} {h : Heap} {tk : Nat}
    (F : Fr g L h m₂) (hG : G g) (hJ : J i c) (hx : m₂ x = some vx) (N : News g L h ((I, oI) :: Led c)) (hn : ∀ p ∈ Led c, p.1 ≠ I) : TurnEnd G L x vx Led J s I oI i { s with heap := h, toks := tk } := ⟨c, g, m₂, h, tk, rfl, hG, hJ, F, hx, N, hn⟩
theorem put_keys {c : List (Int × Int)} {k v : Int} (h : kdfHas c k = true) : (kdfPut c k v).map (·.1) = c.map (·.1) := by
  unfold kdfPut
  rw [if_pos (show (c.any fun p => decide (p.1 = k)) = true from h), List.map_map]
  refine List.map_congr_left fun p _ => ?_
  show (if decide (p.1 = k) then (p.1, v) else p).1 = p.1
  split <;> rfl
theorem has_iff {c : List (Int × Int)} {k : Int} : kdfHas c k = true ↔ k ∈ c.map (·.1) := by
  unfold kdfHas
  simp
theorem start_keys (n : Int) : (startC n).map (·.1) = upTo n := by simp [startC, upTo]
theorem mem_upTo {n k : Int} : k ∈ upTo n ↔ 1 ≤ k ∧ k ≤ n := by
  unfold upTo
  simp only [List.mem_map, List.mem_range]
  constructor
  · rintro ⟨i, hi, rfl⟩; lia
  · rintro ⟨h1, h2⟩; exact ⟨(k - 1).toNat, by lia, by lia⟩
theorem laid_keys (n : Int) (ds : List (Int × Int × Int)) (h : ∀ d ∈ ds, 1 ≤ d.1 ∧ d.1 ≤ n) : (laidC n ds).map (·.1) = upTo n := by
  unfold laidC
  have key : ∀ (ds : List (Int × Int × Int)) (c : List (Int × Int)), (∀ d ∈ ds, 1 ≤ d.1 ∧ d.1 ≤ n) → c.map (·.1) = upTo n → (ds.foldl laidStep c).map (·.1) = upTo n := by
    intro ds
    induction ds with
    | nil => intro c _ hc; exact hc
    | cons d ds ih =>
      intro c hd hc
      refine ih _ (fun e he => hd e (List.mem_cons_of_mem _ he)) ?_
      unfold laidStep
      split
      · rw [put_keys (has_iff.mpr (by rw [hc]; exact mem_upTo.mpr (hd d (.head _)))), hc]
      · exact hc
  exact key ds _ h (start_keys n)
theorem laid_take {n : Int} {ds : List (Int × Int × Int)} {i : Nat} {d : Int × Int × Int} (h : ds[i]? = some d) : laidC n (ds.take (i + 1)) = laidStep (laidC n (ds.take i)) d := by
  unfold laidC
  rw [List.take_add_one, h]
  simp
theorem c_laid (w : World) (news : List (Addr × Obj)) (n : Int) (tn : Tok) (dl : Addr) (lo : Obj) (items : Array Value) (ds : List (Int × Int × Int)) (hlo : lo.cls = .type "list" ∧ ∃ n, lo.data = .seq items n) (hdl : (dl, lo) ∈ news) (hds : DeedsAt news items ds) (hok : DeedsOk n ds) (h1 : n = 3 ∨ n = 4 ∨ n = 5) :
    DoesL w 133 20 news [.ref dl, .int n tn] (fun v n' => ∃ d o, v = .ref d ∧ n' = (d, o) :: news ∧ Tab w o (laidC n ds) ∧ (∀ p ∈ news, p.1 < d) ∧ (d == sysModules) = false) := by
  obtain ⟨hsz, hitems⟩ := hds
  have hT : ∀ v ∈ items, ∃ T, v = .ref T := fun v hv => by
    obtain ⟨i, hi⟩ := Array.mem_iff_getElem?.mp hv
    obtain ⟨_, _, _, _, _, _, T, _, e, _⟩ := hitems i v hi
    exact ⟨T, e⟩
  have hfit : ∀ i, (laidC n (ds.take i)).length ≤ 16777216 := fun i => by
    have e := congrArg List.length (laid_keys n (ds.take i) fun d hd => (hok d (List.mem_of_mem_take hd)).1)
    rw [List.length_map, upTo_len] at e
    lia
  k_with_none
  k_with "enterL" => ((refine C_call ?_; (k_dflt (refine' codeC_enter0 ?k1_enterL ?k2_enterL ?k3_enterL ?k4_enterL ?k5_enterL ?kA_enterL ?kF_enterL ?kE_enterL ?k6_enterL ?k7_enterL ?k8_enterL ?k9_enterL ?kB_enterL ?_ ?c2_enterL ?c3_enterL ?c4_enterL ?c5_enterL; (case kA_enterL => exact rfl); (case kF_enterL => exact rfl); (case kE_enterL => assumption); (case k2_enterL => k_asm); (case k1_enterL => k_asm); (case k3_enterL => k_asm); (case k4_enterL => k_asm); (case k5_enterL => k_asm); (case k6_enterL => k_is); (case k7_enterL => k_is); (case k8_enterL => ktr_room); (case k9_enterL => exact BindsTo.of_eq rfl); (case kB_enterL => exact locs rfl); (case c2_enterL => exact rfl); (case c3_enterL => exact rfl); (case c4_enterL => exact rfl); (case c5_enterL => decide); k_whole))))
  k_with "does_sides" => (((case dB => k_asm); (case dF => k_asm); (case dX => k_asm); (case dN => k_asm); (case dT => k_asm); (case dK => first | exact rfl | assumption); (case dD => ktr_room); (case dU => ktr_units)))
  k_with "does_sides3" => (((case dB => k_asm); (case dF => k_asm); (case dX => k_asm); (case dT => k_asm); (case dK => first | exact rfl | assumption); (case dD => ktr_room); (case dU => ktr_units)))
  k_with "heard_sides" => (((case sF => k_asm); (case sB => k_asm); (case sX => k_asm); (case sN => k_asm); (case sT => k_asm); (case sXB => k_asm); (case sTB => k_asm); (case sD => k_asm); (case sT0 => k_asm); (case sK => exact rfl); (case sH => ktr_room); (case sU => ktr_units)))
  k_with "wpC_on" => (first | ((with_reducible show wpC _ _ (callWith _ (Value.type _) _ _ _) _ _ _); k_dflt (refine C_callWith_T ?_ rfl rfl)) | ((with_reducible show wpC _ _ (callWith _ (Value.ref _) _ _ _) _ _ _); (refine C_callWith_K (by k_asm) (by k_is) ?_ rfl rfl)) | ((with_reducible show wpC _ _ (spliced (backTo _ (starEach (_ :: _) _))) _ _ _); (refine C_args_cons (C_any ?_) rfl); (try k_fold)) | ((with_reducible show wpC _ _ (spliced (backTo _ (starEach [] _))) _ _ _); (refine C_spliced_nil ?_)) | ((with_reducible show wpC _ _ (execs (_ :: _) _) _ _ _); (refine C_execs_consA ?_); (try k_fold)) | ((with_reducible show wpC _ _ (execs [] _) _ _ _); (refine C_any ?_); (try k_fold)))
  unfold DoesL
  k_fill
  intro dp un gd cn cs a ccd cl A₀ base h₀ L m sx mean mg mb Q E B F X N T XB TB hk hdp hun hret
  walk_at "enterL"
  clear B F X N T
  intro g L' h₁ FG F N B X T D
  (try dsimp only)
  (try k_lift B)
  refine C_execs_consP (fun s' => ∃ (d : Addr) (o : Obj) (h : Heap) (tk : Nat) (u : Str → Option Value), s' = { sx with heap := h, toks := tk } ∧ Fr g L' h (fun z => if z = Str.ofString "table" then some (.ref d) else if z = Str.ofString "deeds" then some (.ref dl) else u z) ∧ News g L' h ((d, o) :: news) ∧ Tab w o (startC n) ∧ (∀ p ∈ news, p.1 < d) ∧ (d == sysModules) = false) ?_ ?_
  · with_unfolding_all refine' dictcomp T.nolimit F N ?hsw ?hh ?hclos ?hcell ?hkind ?hnames ?hx ?hxd ?hsrc ?hs
    case hsw => with_unfolding_all rfl
    case hh => with_unfolding_all rfl
    case hclos => with_unfolding_all rfl
    case hcell => decide
    case hkind => with_unfolding_all rfl
    case hnames => decide
    case hx => with_unfolding_all rfl
    case hxd => decide
    case hs => intro _; with_unfolding_all rfl
    k_steps
    refine dsrc_range (n := n) (fun _ => 500) rfl (by assumption) (by lia) (by lia) (by k_asm) (by k_asm) ?val ?cont
    case val =>
      intro C k t s₃ m₃ E' hk hns hm hkeep
      exact wpAny_Constant_int ⟨⟨_, rfl⟩, _, _, rfl, fun _ _ e => e⟩
    case cont =>
      intro Dd o C oC h' tk ht F' N' hC hD hS
      k_steps
      refine ⟨_, _, _, _, rfl, by k_asm, by k_asm, hC, fun h'' F3 N3 => ⟨rfl, Dd, o, h'', _, _, rfl, fr_two F3 rfl rfl, N3, startC_is n ▸ ht, hD, hS⟩⟩
  · rintro s' ⟨d, o, h, tk, u, rfl, F2, N2, ht, hne, hsm⟩
    clear F N
    refine C_execs_cons (C_For ?_ (by intro _; with_unfolding_all rfl))
    k_steps
    refine forList_C (fun g' => KtsTurn ([envX cn cs L a ccd cl].filterMap (·.frame)) g g' ∧ Below (ktrTop dp un gd cn cs L a ccd cl []) base [envX cn cs L a ccd cl] g' ∧ (hd.heap_39 w.params).In g' ∧ Top hd.view_39 (looseW hd.view_39 []) mean mg mb g' ∧ KtsDicts ([envX cn cs L a ccd cl].filterMap (·.frame)) g') (Str.ofString "table") (.ref d) items dl lo hlo (fun o => (d, o) :: news) (fun i o => Tab w o (laidC n (ds.take i))) o rfl (fun _ => List.mem_cons_of_mem _ hdl) hT ⟨KtsTurn.refl, B, X, T, D⟩ (by k_asm) rfl (by k_asm) ht ?turn ?done
    case turn =>
      intro i o' g' u' h' tk' I oI v hv hG hJ hI F N
      obtain ⟨T0', B', X', TT', D'⟩ := hG
      obtain ⟨hp, kd, gr, t1, t2, t3, TT, hdi, rfl, hm⟩ := hitems i v hv
      have hTT := News.isTup N (List.mem_cons_of_mem _ (List.mem_cons_of_mem _ hm))
      have hdo := hok _ (List.mem_of_getElem? hdi)
      dsimp only at hdo
      obtain ⟨⟨b1, b2⟩, ⟨b3, b4⟩, b5, b6⟩ := hdo
      k_with "call ref" => (with_unfolding_all refine' does_use (c_reply w _ kd gr _ _ b3 b4 b5 b6) ?dB ?dF ?dX ?dN ?dT ?dK ?dD ?dU ?_; (walk_at "does_sides"); rintro v' n' h' tk' F' N' ⟨⟨t', rfl⟩, rfl⟩; (try dsimp only); (try k_fold))
      have hdI : d ≠ I := hI (d, o') (.head _)
      have hI' : ∀ a, (a = d ∨ ∃ p ∈ news, p.1 = a) → a ≠ I := fun a ha => by
        rcases ha with rfl | ⟨p, hp, rfl⟩
        · exact hdI
        · exact hI p (List.mem_cons_of_mem _ hp)
      have U : UpdF d o' ((d, o') :: (I, oI) :: news) (fun o'' => (d, o'') :: (I, oI) :: news) := UpdF.head fun p hp => by
        rcases List.mem_cons.mp hp with rfl | hp
        · exact fun e => hdI e.symm
        · exact Nat.ne_of_lt (hne p hp)
      k_with "call ref" => (with_unfolding_all refine' does_use (c_getitem w _ d o' (laidC n (ds.take i)) hp _ ?hm hsm hJ ?hh) ?dB ?dF ?dX ?dN ?dT ?dK ?dD ?dU ?_; (case hh => exact has_iff.mpr (by rw [laid_keys n _ fun d hd => (hok d (List.mem_of_mem_take hd)).1]; exact mem_upTo.mpr ⟨b1, b2⟩)); (walk_at "does_sides"); (case hm => k_mem); rintro v' n' h' tk' F' N' ⟨⟨t', rfl⟩, rfl⟩; (try dsimp only); (try k_fold))
      k_with "call ref" => (with_unfolding_all refine' does_use (c_iadd w _ _ _ _ _) ?dB ?dF ?dX ?dN ?dT ?dK ?dD ?dU ?_; (walk_at "does_sides"); rintro v' n' h' tk' F' N' ⟨⟨t', rfl⟩, rfl⟩; (try dsimp only); (try k_fold))
      k_with "call ref" => (with_unfolding_all refine' does_use (c_setitem w ((d, o') :: (I, oI) :: news) _ d o' (laidC n (ds.take i)) hp _ _ _ U hJ ?hc) ?dB ?dF ?dX ?dN ?dT ?dK ?dD ?dU ?_; (case hc => exact hfit i); (walk_at "does_sides3"); (case dN => (refine' cb_drop ?N ?sub; (case N => k_asm); (intro p hp; rcases List.mem_cons.mp hp with rfl | hp; k_mem; rcases List.mem_cons.mp hp with rfl | hp; k_mem; repeat (first | exact hp | refine List.mem_cons_of_mem _ ?_)))); rintro v' n' h' tk' F' N' ⟨rfl, o3, ht3, rfl⟩; (try dsimp only); (try k_fold))
      k_with "compareOp NotEq ref ref" => (with_unfolding_all (refine ne_dataH (by ke_read) (by ke_read) (by first | ke_shaped | exact rep_shaped _ _ _) (by first | ke_shaped | exact rep_shaped _ _ _) (by ktr_units) ?_); ke_norm)
      k_with "wpC" => (first
        | ((with_reducible show wpC _ _ (execs (Stmt.Assign [Expr.Name (Str.ofString "told") _] _ _ :: _) _) _ _ _); (k_dflt (refine C_execs_cons (C_Assign_Name (C_Call_ (C_any ?_) rfl) rfl))); (try k_fold))
        | ((with_reducible show wpC _ _ (call (Value.ref _) _) _ _ _); (first | (with_unfolding_all refine' doesSC_use (c_heardA w _ hp kd gr _ _ b3 (by assumption) b5 b6) ?sF ?sB ?sX ?sN ?sT ?sXB ?sTB ?sD ?sT0 ?sK ?sH ?sU ?_) | (with_unfolding_all refine' doesSC_use (c_heardB w _ hp kd gr _ _ (by assumption) (by assumption) b5 b6) ?sF ?sB ?sX ?sN ?sT ?sXB ?sTB ?sD ?sT0 ?sK ?sH ?sU ?_) | (with_unfolding_all refine' doesSC_use (c_heardC w _ hp kd gr _ _ (by assumption) b5 b6) ?sF ?sB ?sX ?sN ?sT ?sXB ?sTB ?sD ?sT0 ?sK ?sH ?sU ?_)); (walk_at "heard_sides"); rintro v' n' h' tk' g'' T0'' F' N' B' X' TT' D' ⟨tA, tB, DD, rfl, rfl⟩; (try dsimp only); (try k_fold))
        | walk_at "wpC_on")
      obtain hk3 | ⟨hk3, hk5⟩ | hk5 : kd < 3 ∨ (3 ≤ kd ∧ kd < 5) ∨ kd = 5 := by lia
      · k_steps
        refine' turnEnd_of (c := o3) ?zF ⟨?zG1, ?zG2, ?zG3, ?zG4, ?zG5⟩ ?zJ ?zK ?zN (fun p hp => hI' p.1 (by rcases List.mem_cons.mp hp with rfl | hp; exact .inl rfl; exact .inr ⟨p, hp, rfl⟩))
        case zF => k_asm
        case zG1 => k_asm
        case zG2 => k_asm
        case zG3 => k_asm
        case zG4 => k_asm
        case zG5 => k_asm
        case zJ => show Tab w o3 _; rw [laid_take hdi]; unfold laidStep; rw [if_pos hk3]; exact ht3
        case zK => rfl
        case zN => exact cb_drop (by k_asm) (fun p hp => by rcases List.mem_cons.mp hp with rfl | hp; k_mem; rcases List.mem_cons.mp hp with rfl | hp; k_mem; repeat (first | exact hp | refine List.mem_cons_of_mem _ ?_))
      · k_steps
        refine' turnEnd_of (c := o') ?zFa ⟨?zG1a, ?zG2a, ?zG3a, ?zG4a, ?zG5a⟩ ?zJa ?zKa ?zNa (fun p hp => hI' p.1 (by rcases List.mem_cons.mp hp with rfl | hp; exact .inl rfl; exact .inr ⟨p, hp, rfl⟩))
        case zFa => k_asm
        case zG1a => k_asm
        case zG2a => k_asm
        case zG3a => k_asm
        case zG4a => k_asm
        case zG5a => k_asm
        case zJa => show Tab w o' _; rw [laid_take hdi]; unfold laidStep; rw [if_neg (show ¬ (kd < 3) by lia)]; exact hJ
        case zKa => rfl
        case zNa => exact cb_drop (by k_asm) (fun p hp => by rcases List.mem_cons.mp hp with rfl | hp; k_mem; rcases List.mem_cons.mp hp with rfl | hp; k_mem; repeat (first | exact hp | refine List.mem_cons_of_mem _ ?_))
      · k_steps
        refine' turnEnd_of (c := o') ?zFb ⟨?zG1b, ?zG2b, ?zG3b, ?zG4b, ?zG5b⟩ ?zJb ?zKb ?zNb (fun p hp => hI' p.1 (by rcases List.mem_cons.mp hp with rfl | hp; exact .inl rfl; exact .inr ⟨p, hp, rfl⟩))
        case zFb => k_asm
        case zG1b => k_asm
        case zG2b => k_asm
        case zG3b => k_asm
        case zG4b => k_asm
        case zG5b => k_asm
        case zJb => show Tab w o' _; rw [laid_take hdi]; unfold laidStep; rw [if_neg (show ¬ (kd < 3) by lia)]; exact hJ
        case zKb => rfl
        case zNb => exact cb_drop (by k_asm) (fun p hp => by rcases List.mem_cons.mp hp with rfl | hp; k_mem; rcases List.mem_cons.mp hp with rfl | hp; k_mem; repeat (first | exact hp | refine List.mem_cons_of_mem _ ?_))
    case done =>
      intro o' g' u' h' tk' hG hJ F N
      obtain ⟨T0', B', X', TT', D'⟩ := hG
      rw [show items.size = ds.length from hsz, List.take_length] at hJ
      k_steps
      refine leaveS0_ (by k_asm) N (by assumption) fun F3 N3 => ?_
      exact doesRet hret F3 N3 ⟨d, o', rfl, rfl, hJ, hne, hsm⟩
end Mine
end

section
theorem Mine.fresh23 : True := by k_with_none; w_top off; trivial
open PySem PySem.W PyProof.Rows PyProof.V
set_option maxRecDepth 100000
set_option maxHeartbeats 8000000
namespace Mine
/-- Does, with a fact of the ground -/
def DoesG (G : Heap → Prop) (w : World) (f : Addr) (k : Nat) (news : List (Addr × Obj)) (vs : List Value) (Post : Value → List (Addr × Obj) → Prop) : Prop :=
  ∀ (dp un : Nat) (gd : Option (List Code)) (cn : Str) (cs : Scope) (a : Addr) (ccd : Value) (cl : List (Str × Addr)) (outer : List Env) (A₀ : Around) (base h₀ : Heap) (L : Addr) (m : Str → Option Value) (s : Shared)
    (mean : ExcName → Option Value) (mg mb : Str → Option Value) (Q E : Value → Shared → Prop),
    Below A₀ base outer h₀ → Fr h₀ L s.heap m → (hd.heap_39 w.params).In h₀ → News h₀ L s.heap news → Top hd.view_39 (looseW hd.view_39 []) mean mg mb h₀ → G base → cs.kind = .function → dp + k < recursionLimit → un + 8 * k < cLine →
    DoesRet h₀ L m s Post Q →
    wpAny (model PySem.Challenge.rw_zd0004_01.row.prog w) (ktrTop dp un gd cn cs L a ccd cl outer) (call (.ref f) vs) Q E s
theorem ret_pick {h₀ : Heap} {L : Addr} {m : Str → Option Value} {s : Shared} {Post : Value → List (Addr × Obj) → Prop} {Q : Value → Shared → Prop} (R : DoesRet h₀ L m s Post Q) {v : Value} {p q : Addr × Obj} {ledger : List (Addr × Obj)} {h' : Heap} {tk' : Nat}
    (F : Fr h₀ L h' m) (N : News h₀ L h' ledger) (hp : p ∈ ledger) (hq : q ∈ ledger) (P : Post v [p, q]) : Q v { s with heap := h', toks := tk' } :=
  R v [p, q] h' tk' F (fun r hr => by rcases List.mem_cons.mp hr with rfl | hr; exact N _ hp; rcases List.mem_cons.mp hr with rfl | hr; exact N _ hq; exact nomatch hr) P
/-- the six numbers -/
def six (ys : List Int) : List Int := [1 + Int.fmod (ys.getD 0 0) 1000000, 29521 + Int.fmod (ys.getD 1 0) 1000000, 23990 + Int.fmod (ys.getD 2 0) 1000000, 18654 + Int.fmod (ys.getD 3 0) 1000000, 33616 + Int.fmod (ys.getD 4 0) 1000000, 19689 + Int.fmod (ys.getD 5 0) 1000000]
/-- the walk is to stop here -/
structure StopN (p : Prop) : Prop where
  out : p
/-- the six numbers, k of them already moved -/
def sixAt (ys : List Int) (k : Nat) : List Int := [1 + (if 0 < k then Int.fmod (ys.getD 0 0) 1000000 else 0), 29521 + (if 1 < k then Int.fmod (ys.getD 1 0) 1000000 else 0), 23990 + (if 2 < k then Int.fmod (ys.getD 2 0) 1000000 else 0), 18654 + (if 3 < k then Int.fmod (ys.getD 3 0) 1000000 else 0), 33616 + (if 4 < k then Int.fmod (ys.getD 4 0) 1000000 else 0), 19689 + (if 5 < k then Int.fmod (ys.getD 5 0) 1000000 else 0)]
theorem sixAt_end (ys : List Int) : sixAt ys ys.length = six ys := by
  have h : ∀ i : Nat, (if i < ys.length then Int.fmod (ys.getD i 0) 1000000 else 0) = Int.fmod (ys.getD i 0) 1000000 := fun i => by
    split
    · rfl
    · rename_i h
      rw [List.getD_eq_getElem?_getD, List.getElem?_eq_none (by lia)]; rfl
  unfold sixAt six
  rw [h, h, h, h, h, h]
theorem sixAt_next (ys : List Int) {k : Nat} (hk : k < 6) : sixAt ys (k + 1) = (sixAt ys k).set k ((sixAt ys k).getD k 0 + Int.fmod (ys.getD k 0) 1000000) := by
  rcases (show k = 0 ∨ k = 1 ∨ k = 2 ∨ k = 3 ∨ k = 4 ∨ k = 5 by lia) with rfl | rfl | rfl | rfl | rfl | rfl <;> simp [sixAt]
section
open PySem.Calls
variable {prog : Program} {w : World} {A : Around} {E : Value → Shared → Prop} {s : Shared} {env : Env} {h₀ : Heap} {target : Expr} {body : List Stmt} {Q : Flow → Shared → Prop} {ws : List (Addr × String)} {keep : List (Addr × Obj)}
theorem allObj_mono : ∀ {ws : List (Addr × String)} {k k' : List (Addr × Obj) → Prop}, (∀ its, k its → k' its) → AllObj ws k → AllObj ws k'
  | [], _, _, h, x => h _ x
  | _ :: _, _, _, h, x => fun o ho => allObj_mono (fun its => h _) (x o ho)
theorem unrPost_mono {L : Addr} {its : List (Addr × Obj)} {r r' : (PySem.Str → Option Value) → List (Addr × Obj) → Prop} (h : ∀ m n, r m n → r' m n) {f : Flow} {s₂ : Shared} (x : UnrPostW h₀ L s its r Q f s₂) : UnrPostW h₀ L s its r' Q f s₂ := by
  cases f with
  | ret v => exact x
  | brk => exact x
  | next => obtain ⟨h', tk, m', n', e, F, N, o, q⟩ := x; exact ⟨h', tk, m', n', e, F, N, o, h _ _ q⟩
  | cont => obtain ⟨h', tk, m', n', e, F, N, o, q⟩ := x; exact ⟨h', tk, m', n', e, F, N, o, h _ _ q⟩
/-- turns over enumerate of ints, by an invariant -/
theorem enum_inv (J : Nat → (PySem.Str → Option Value) → List (Addr × Obj) → Prop) {vs : List Value} {ns : List Int} (hi : IntsAre vs ns)
    (turn : ∀ (k : Nat) tx m news T t h tk, k < ns.length → J k m news → IsTup h T #[.int (k : Int) t, .int (ns.getD k 0) tx] → Fr h₀ env.locals h m → AllObj ws (fun its => News h₀ env.locals h (its ++ news) →
      wpAny (model prog w) A (assign target env (.ref T)) (fun _ s₂ => wpAny (model prog w) A (execs body env) (UnrPostW h₀ env.locals { s with heap := h, toks := tk } its (fun m' n' => SubL keep n' ∧ J (k + 1) m' n') Q) E s₂) E { s with heap := h, toks := tk }))
    (fin : ∀ m news h tk, J ns.length m news → Fr h₀ env.locals h m → News h₀ env.locals h news → Q .next { s with heap := h, toks := tk }) :
    ∀ (j k : Nat) (m : PySem.Str → Option Value) (news : List (Addr × Obj)), k + j = vs.length → J k m news → ItemsRest prog w A E h₀ env target body Q s ws keep (enumItems k (vs.drop k)) m news
  | 0, k, m, news, hk, hJ => by
    rw [List.drop_of_length_le (by lia)]
    have e : k = ns.length := by have := hi.length; lia
    subst e
    exact ItemsRest.zero fun h tk F N => fin m news h tk hJ F N
  | j + 1, k, m, news, hk, hJ => by
    have hlt : k < vs.length := by lia
    rw [List.drop_eq_getElem_cons hlt]
    refine ItemsRest.pair fun T t h tk hT F => ?_
    have hlt' : k < ns.length := by have := hi.length; lia
    obtain ⟨x, tx, e1, e2⟩ := IntsAre.at hi k vs[k] (List.getElem?_eq_getElem hlt)
    have e3 : ns.getD k 0 = x := by rw [List.getD_eq_getElem?_getD, e2]; rfl
    rw [e1] at hT
    rw [← e3] at hT
    refine allObj_mono (fun its hh N => ?_) (turn k tx m news T t h tk hlt' hJ hT F)
    exact wpAny_mono (hh N) (fun _ s₂ h₂ => wpAny_mono h₂ (fun f s₃ h₃ => unrPost_mono (fun m' n' q => ⟨q.1, enum_inv J hi turn fin j (k + 1) m' n' (by lia) q.2⟩) h₃) fun _ _ e => e) fun _ _ e => e
def NumEnd (D l c0 : Addr) (oD oc0 : Obj) (ys : List Int) (k : Nat) (m' : PySem.Str → Option Value) (n' : List (Addr × Obj)) : Prop := ∃ its' lk', m' (PySem.Str.ofString "drawn") = some (.ref l) ∧ n' = [(D, oD), (l, W.listOf (List.toArray its') lk'), (c0, oc0)] ∧ IntsAre its' (sixAt ys k)
theorem num_loop {elts : List Expr} {kk : Nat} {pos : Pos} {D l c0 : Addr} {oc0 : Obj} {wsv : List Value} {ys : List Int} {its0 : List Value} {lk0 : Nat} {m₀ : PySem.Str → Option Value} (hh : A.handled = none) (hw : IntsAre wsv ys) (h6 : ys.length ≤ 6) (F : Fr h₀ env.locals s.heap m₀)
    (N : News h₀ env.locals s.heap [(D, W.listOf wsv.toArray 0), (l, W.listOf its0.toArray lk0), (c0, oc0)]) (hi0 : IntsAre its0 (sixAt ys 0)) (hm : m₀ (PySem.Str.ofString "drawn") = some (.ref l))
    (turn : ∀ (I : Addr) (k : Nat) tx (u : PySem.Str → Option Value) (its : List Value) (lk : Nat) T t h tk, (D < I ∧ l < I ∧ c0 < I) → k < 6 → IntsAre its (sixAt ys k) → IsTup h T #[.int (k : Int) t, .int (ys.getD k 0) tx] → Fr h₀ env.locals h (fun z => if z = PySem.Str.ofString "drawn" then some (.ref l) else u z) → AllObj [(I + 1, "enumerate"), (I, "list_iterator")] (fun o => News h₀ env.locals h (o ++ [(D, W.listOf wsv.toArray 0), (l, W.listOf its.toArray lk), (c0, oc0)]) →
      wpAny (model prog w) A (assign (.Tuple elts kk pos) env (.ref T)) (fun _ s₂ => wpAny (model prog w) A (execs body env) (UnrPostW h₀ env.locals { s with heap := h, toks := tk } o (NumEnd D l c0 (W.listOf wsv.toArray 0) oc0 ys (k + 1)) Q) E s₂) E { s with heap := h, toks := tk }))
    (fin : ∀ (u : PySem.Str → Option Value) (its : List Value) (lk : Nat) h tk, IntsAre its (six ys) → Fr h₀ env.locals h (fun z => if z = PySem.Str.ofString "drawn" then some (.ref l) else u z) → News h₀ env.locals h [(D, W.listOf wsv.toArray 0), (l, W.listOf its.toArray lk), (c0, oc0)] → Q .next { s with heap := h, toks := tk }) :
    wpAny (model prog w) A (call (.type "enumerate") [.ref D]) (fun xv s₁ => wpAny (model prog w) A (pyIter xv) (fun it s₂ => TurnsAt prog w A h₀ env (.Tuple elts kk pos) body Q E it s₂) E s₁) E s := by
  refine ktu_enum hh F N (.head _) rfl rfl rfl fun I lI => ?_
  have key := enum_inv (prog := prog) (w := w) (A := A) (E := E) (s := s) (env := env) (h₀ := h₀) (target := .Tuple elts kk pos) (body := body) (Q := Q) (ws := [(I + 1, "enumerate"), (I, "list_iterator")]) (keep := [(D, W.listOf wsv.toArray 0)]) (NumEnd D l c0 (W.listOf wsv.toArray 0) oc0 ys) hw
    (fun k tx m news T t h tk hk hJ hT F => by
      obtain ⟨its, lk, e1, rfl, hi⟩ := hJ
      rw [keep_one e1] at F
      refine allObj_mono (fun o hN N => ?_) (turn I k tx m its lk T t h tk ⟨lI _ (.head _), lI _ (.tail _ (.head _)), lI _ (.tail _ (.tail _ (.head _)))⟩ (by lia) hi hT F)
      exact wpAny_mono (hN N) (fun _ s₂ h₂ => wpAny_mono h₂ (fun f s₃ h₃ => unrPost_mono (fun m' n' q => ⟨by obtain ⟨_, _, _, rfl, _⟩ := q; exact ⟨.head _, trivial⟩, q⟩) h₃) fun _ _ e => e) fun _ _ e => e)
    (fun m news h tk hJ F N => by
      obtain ⟨its, lk, e1, rfl, hi⟩ := hJ
      rw [keep_one e1] at F
      rw [sixAt_end] at hi
      exact fin m its lk h tk hi F N)
    wsv.length 0 m₀ _ (by lia) ⟨its0, lk0, hm, rfl, hi0⟩
  rw [List.drop_zero] at key
  exact key
theorem numOff {D l c0 I : Addr} {a b c o1 o2 : Obj} (h : D < I ∧ l < I ∧ c0 < I) : ∀ p ∈ [(D, a), (l, b), (c0, c)], ∀ q ∈ [(I + 1, o1), (I, o2)], p.1 ≠ q.1 := by
  intro p hp q hq
  simp only [List.mem_cons, List.not_mem_nil, or_false] at hp hq
  have hp : p.1 < I := by rcases hp with rfl | rfl | rfl; exact h.1; exact h.2.1; exact h.2.2
  rcases hq with rfl | rfl
  · exact Nat.ne_of_lt (Nat.lt_succ_of_lt hp)
  · exact Nat.ne_of_lt hp
end
theorem c_numbers (w : World) (c0 : Addr) (oc0 : Obj) (sl : Addr) (vs : List Value) (xs : List Int) (hi : IntsAre vs xs) (hl : ¬ (((63 : Nat) : Int) < (xs.length : Int))) (hl2 : xs.length ≤ 63) :
    DoesG (fun h => h.IsList sl vs.toArray) w 114 20 [(c0, oc0)] [.ref sl] (fun v n' => ∃ D its k, v = .ref D ∧ n' = [(D, W.listOf (List.toArray its) k), (c0, oc0)] ∧ IntsAre its (six (xs.take 6))) := by
  k_with_none
  k_with "doesG_open" => ((unfold DoesG; k_fill; intro dp_doesGopen un_doesGopen gd_doesGopen cn_doesGopen cs_doesGopen a_doesGopen ccd_doesGopen cl_doesGopen outer_doesGopen A0_doesGopen base_doesGopen h0_doesGopen L_doesGopen m_doesGopen s_doesGopen mean_doesGopen mg_doesGopen mb_doesGopen Q_doesGopen E_doesGopen B_doesGopen F_doesGopen X_doesGopen N_doesGopen T_doesGopen hG_doesGopen hk_doesGopen hdp_doesGopen hun_doesGopen hret_doesGopen; refine wpAny_call ?_; k_dflt cell_enter))
  walk_at "doesG_open"
  k_with "exec For Tuple Call cons nil" => ((rename Fr _ _ _ _ => lF'); (with_unfolding_all refine' For_turns lF' ?_))
  k_with "call type:enumerate" => (refine StopN.out ?_)
  k_steps
  refine StopN.mk ?_
  rename IntsAre _ (List.take _ _) => hw
  rename DoesRet _ _ _ _ _ _ => hret
  with_unfolding_all refine num_loop rfl hw ?n6 (by k_asm) (by k_asm) ?ni0 ?nm ?nturn ?nfin
  case n6 => rw [List.length_take]; lia
  case ni0 => exact .cons _ _ (.cons _ _ (.cons _ _ (.cons _ _ (.cons _ _ (.cons _ _ .nil)))))
  case nm => rfl
  case nturn =>
    intro I k tx u its lk T t h tk lI9 hk hi hT F
    refine AllObj.cons fun o1 ho1 => AllObj.cons fun o2 ho2 => AllObj.nil fun N => ?_
    rename (_ < _) ∧ (c0 < _) => hl1
    have hcl : c0 ≠ _ := Nat.ne_of_lt (show c0 < _ by first | assumption | lia)
    have hlen : (sixAt (List.take 6 xs) k).length = 6 := rfl
    have hnext := sixAt_next (List.take 6 xs) hk
    generalize sixAt (List.take 6 xs) k = nums at hi hlen hnext
    generalize hx9 : (List.take 6 xs).getD k 0 = x9 at hT hnext
    obtain ⟨j, hj⟩ : ∃ j : Int, j = (k : Int) := ⟨_, rfl⟩
    rw [← hj] at hT
    have hj0 : 0 ≤ j := by lia
    have hj6 : j < nums.length := by lia
    have hjf : j < 9223372036854775808 := by lia
    simp only [List.cons_append, List.nil_append] at N
    k_steps
    k_dflt (refine ksa_set (by k_asm) (by k_asm) (.tail (Ne.symm (Nat.ne_of_lt (Nat.lt_succ_of_lt lI9.2.1))) (.tail (Ne.symm (Nat.ne_of_lt lI9.2.1)) (.tail (Ne.symm (Nat.ne_of_lt hl1.1)) (.head (List.forall_mem_cons.mpr ⟨hcl, List.forall_mem_nil _⟩))))) hi hj0 hj6 hjf ?_)
    intro h9 F9 N9 hi9 _ _
    k_with "UnrEndW" => (refine StopN.out ?_)
    k_steps
    refine StopN.mk ?_
    have hjk : j.toNat = k := by lia
    rw [hjk] at hi9 N9
    exact ⟨h9, _, _, [_, (_, W.listOf (List.toArray _) _), _], rfl, by k_asm, N9, numOff lI9, _, _, by show (if _ then _ else _) = _; rw [if_neg (by decide), if_neg (by decide), if_pos rfl], rfl, by rw [hnext]; exact hi9⟩
  case nfin =>
    intro u its lk h tk hi F N
    k_steps
    exact ret_pick hret (by k_asm) (by k_asm) (by k_mem) (by k_mem) ⟨_, its, lk, rfl, rfl, hi⟩
end Mine
end

section
theorem Mine.fresh24 : True := by k_with_none; w_top off; trivial
open PySem PySem.W PyProof.Rows PyProof.V PySem.Calls
set_option maxRecDepth 100000
set_option maxHeartbeats 8000000
namespace Mine
theorem intsAre_get {vs : List Value} {ns : List Int} (h : IntsAre vs ns) : ∀ {i : Nat} {v : Value}, vs[i]? = some v → ∃ n t, ns[i]? = some n ∧ v = .int n t := by
  induction h with
  | nil => intro i v h; simp at h
  | cons k t _ ih =>
    intro i v h
    cases i with
    | zero => exact ⟨k, t, rfl, (by simpa using h.symm)⟩
    | succ i => exact ih (by simpa using h)
section
variable {prog : Program} {w : World} {A : Around} {E : Value → Shared → Prop} {s : Shared} {env : Env} {h₀ : Heap} {x : PySem.Str} {body : List Stmt} {Q : Flow → Shared → Prop}
theorem kst_tup {σ : Type} {ax : Addr} {vs : List Value} {ns : List Int} {m₀ : PySem.Str → Option Value} (Led : σ → List (Addr × Obj)) (ps : σ → List (PySem.Str × Value)) (Facts : σ → Prop) (stored : List PySem.Str) (P : List Int → σ → Prop) (c₀ : σ)
    (hh : A.handled = none) (ht : s.heap.IsTuple ax vs.toArray) (hi : IntsAre vs ns) (hax : ax ≠ env.locals) (hne : ∀ p ∈ Led c₀, p.1 ≠ ax) (F : Fr h₀ env.locals s.heap m₀) (N : News h₀ env.locals s.heap (Led c₀)) (hf : Facts c₀) (hk : ∀ p ∈ ps c₀, m₀ p.1 = some p.2) (hp : P [] c₀)
    (turn : ∀ (c : σ) (i : Nat) (n : Int) t (u : PySem.Str → Option Value) h tk own, ns[i]? = some n → OwnOff own ((Led c₀).map (·.1)) → Facts c → P (ns.take i) c →
      Fr h₀ env.locals h (fun y => if y = x then some (.int n t) else kstB (fun z => if stored.contains z then u z else m₀ z) (ps c) y) → News h₀ env.locals h (Led c ++ own) →
      wpAny (model prog w) A (execs body env) (InvPostN h₀ env.locals (KstS Led ps Facts x stored m₀ P (ns.take i ++ [n])) own ((Led c₀).map (·.1)) { s with heap := h, toks := tk } Q) E { s with heap := h, toks := tk })
    (done : ∀ (c : σ) (u : PySem.Str → Option Value) h tk, Facts c → P ns c → Fr h₀ env.locals h (fun y => if y = x then u y else kstB (fun z => if stored.contains z then u z else m₀ z) (ps c) y) → News h₀ env.locals h (Led c) → Q .next { s with heap := h, toks := tk }) :
    wpAny (model prog w) A (pyIter (.ref ax)) (fun it s₂ => LoopAtV prog w A h₀ env x body Q E it s₂) E s := by
  have hI : s.heap.get? s.heap.objs.size = none := Heap.get?_none_of_le (Nat.le_refl _)
  have ne : ∀ b o, s.heap.get? b = some o → b ≠ s.heap.objs.size := fun b o e e' => by rw [e', hI] at e; cases e
  have haxI : ax ≠ s.heap.objs.size := by obtain ⟨o, ho, _⟩ := ht; exact ne _ _ ho
  refine wpAny_pyIter_tuple ht ?_
  have W := Walks.tuple (prog := prog) (w := w) (A := A) hh s.heap.objs.size ax haxI vs.toArray
  refine loop_invN (fun i m nx => KstS Led ps Facts x stored m₀ P (ns.take i) m nx) W ?_ ?_ ?_ ?_ ⟨⟨_, Heap.get?_push_size _ rfl, rfl, rfl⟩, ht.push _⟩ (F.push _) (fun p hp => ⟨Heap.get?_push_of_some _ (N p hp).1, (N p hp).2⟩) ⟨c₀, rfl, hf, hk, fun _ _ _ _ => rfl, by simpa using hp⟩ ?_ ?_
  · intro hm
    rcases List.mem_cons.mp hm with e | hm
    · exact absurd F.ns.lt (e ▸ Nat.lt_irrefl _)
    · exact hax (List.mem_singleton.mp hm).symm
  · intro b hb
    rw [List.mem_singleton.mp hb]
    exact next_is_new F
  · intro p hp hI'
    exact ne _ _ (N p hp).1 (List.mem_singleton.mp hI')
  · intro p hp hm
    rcases List.mem_cons.mp hm with e | hm
    · exact ne _ _ (N p hp).1 e
    · exact hne p hp (List.mem_singleton.mp hm)
  · rintro i v m₁ nx h tk own hi' hv _ hoff ⟨c, rfl, hf', h1, h2, hp'⟩ F₁ N₁
    obtain ⟨n, t, hn, rfl⟩ := intsAre_get hi (i := i) (v := v) (by simpa using hv)
    have hs : ns.take (i + 1) = ns.take i ++ [n] := by simp [List.take_add_one, hn]
    rw [hs]
    exact turn c i n t m₁ h tk own hn hoff hf' hp' (kst_fr h1 h2 F₁) N₁
  · rintro m₁ nx h tk ⟨c, rfl, hf', h1, h2, hp'⟩ F₁ N₁
    have hl : ns.take vs.toArray.size = ns := List.take_of_length_le (by rw [List.size_toArray, hi.length]; exact Nat.le_refl _)
    rw [hl] at hp'
    exact done c m₁ h tk hf' hp' (kst_frOut h1 h2 F₁) N₁
end
end Mine
end

section
theorem Mine.fresh25 : True := by k_with_none; w_top off; trivial
open PySem PySem.W PyProof.Rows PyProof.V
set_option maxRecDepth 100000
set_option maxHeartbeats 8000000
namespace Mine
local macro_rules | `(tactic| walk_at "exec For Name Tuple cons nil") => `(tactic| k_extra "fo")
local macro_rules | `(tactic| walk_at "pyIter ref") => `(tactic| k_extra "pi")
/-- the walk is to stop here -/
structure Stop (p : Prop) : Prop where
  out : p
local macro_rules | `(tactic| walk_at "InvEndN") => `(tactic| refine Stop.out ?_)
/-- 500 to a neighbour: to a ditch, if it is one -/
def near1 (s : List (Int × Int) × List (Int × Int)) (k : Int) : List (Int × Int) × List (Int × Int) :=
  if kdfHas s.2 k = true then (s.1, kdfPut s.2 k (kdfLook s.2 k 0 + 500)) else (kdfPut s.1 k (kdfLook s.1 k 0 + 500), s.2)
def fire (s : List (Int × Int) × List (Int × Int)) (r : Int) : List (Int × Int) × List (Int × Int) :=
  near1 (near1 (kdfPut s.1 r (kdfLook s.1 r 0 - 1000), s.2) (r - 1)) (r + 1)
theorem has_of_keys {c : List (Int × Int)} {n k : Int} (h : c.map (·.1) = upTo n) (h1 : 1 ≤ k) (h2 : k ≤ n) : kdfHas c k = true := has_iff.mpr (by rw [h]; exact mem_upTo.mpr ⟨h1, h2⟩)
theorem ditch_iff {e : List (Int × Int)} {n k : Int} (h : e.map (·.1) = [0, n + 1]) : kdfHas e k = true ↔ k = 0 ∨ k = n + 1 := by rw [has_iff, h]; simp
/-- the keys stay -/
def Keys (n : Int) (s : List (Int × Int) × List (Int × Int)) : Prop := s.1.map (·.1) = upTo n ∧ s.2.map (·.1) = [0, n + 1]
theorem near1_keys {n k : Int} {s : List (Int × Int) × List (Int × Int)} (h : Keys n s) (h1 : 0 ≤ k) (h2 : k ≤ n + 1) : Keys n (near1 s k) := by
  unfold near1
  split
  · rename_i hk
    exact ⟨h.1, by rw [put_keys hk]; exact h.2⟩
  · rename_i hk
    rw [ditch_iff h.2] at hk
    exact ⟨by rw [put_keys (has_of_keys h.1 (by lia) (by lia))]; exact h.1, h.2⟩
theorem look_mem {c : List (Int × Int)} : (c.map (·.1)).Nodup → ∀ p ∈ c, kdfLook c p.1 0 = p.2 := by
  induction c with
  | nil => intro _ p hp; exact nomatch hp
  | cons q c ih =>
    intro hn p hp
    rw [List.map_cons, List.nodup_cons] at hn
    unfold kdfLook
    rw [List.find?_cons]
    by_cases e : q.1 = p.1
    · rcases List.mem_cons.mp hp with rfl | hp
      · simp
      · exact absurd (List.mem_map.mpr ⟨p, hp, e.symm⟩) hn.1
    · have e' : decide (q.1 = p.1) = false := decide_eq_false e
      rw [e']
      rcases List.mem_cons.mp hp with rfl | hp
      · exact absurd rfl e
      · exact ih hn.2 p hp
theorem first_on {c : List (Int × Int)} {n r wd : Int} (hwd : wd < 4 ↔ ∀ p ∈ c, p.2 < 1000) (ha : ¬ wd < 4) (hk : c.map (·.1) = upTo n) (h : (1 ≤ r ∧ r ≤ n ∧ 1000 ≤ kdfLook c r 0) ∨ (r = 0 ∧ ∀ k, 1 ≤ k → k ≤ n → kdfLook c k 0 < 1000)) : 1 ≤ r ∧ r ≤ n ∧ 1000 ≤ kdfLook c r 0 := by
  rcases h with h | ⟨_, h⟩
  · exact h
  · refine absurd (hwd.mpr fun p hp => ?_) ha
    have hm : p.1 ∈ upTo n := hk ▸ List.mem_map.mpr ⟨p, hp, rfl⟩
    have hb := mem_upTo.mp hm
    have := h p.1 hb.1 hb.2
    rwa [look_mem (hk ▸ upTo_nodup n) p hp] at this
theorem six_idx {k : Int} {l : Nat} (hk : k = 0 + (l : Int)) : fitsSsize (Int.fmod k 6) = true ∧ 0 ≤ Int.fmod k 6 ∧ Int.fmod k 6 < 6 := by
  have h : 0 ≤ Int.fmod k 6 ∧ Int.fmod k 6 < 6 := by
    rw [Int.fmod_eq_emod_of_nonneg _ (by lia)]
    lia
  exact ⟨fitsSsize_of (N := 9223372036854775808) (by lia) (by lia) (Int.le_refl _), h⟩
theorem apart_T {dT dD : Addr} {oT oD : Obj} {rest own : List (Addr × Obj)} (qD : Obj) (lD : ∀ p ∈ (dT, oT) :: rest, p.1 < dD) (hne : ∀ p ∈ rest, p.1 ≠ dT) (hoff : OwnOff own (((dD, oD) :: (dT, oT) :: rest).map (·.1))) : ∀ p ∈ (dD, qD) :: (rest ++ own), p.1 ≠ dT := by
  intro p hp
  rcases List.mem_cons.mp hp with rfl | hp
  · exact (Nat.ne_of_lt (lD (dT, oT) (.head _))).symm
  rcases List.mem_append.mp hp with hp | hp
  · exact hne p hp
  · exact hoff p hp dT (.tail _ (.head _))
theorem allLt_mem {d : Addr} : ∀ {l : List (Addr × Obj)}, AllLt d l → ∀ p ∈ l, p.1 < d
  | [], _, _, hp => nomatch hp
  | q :: l, h, p, hp => by
    rcases List.mem_cons.mp hp with rfl | hp
    · exact h.1
    · exact allLt_mem h.2 p hp
theorem off_all {a b d : Addr} {x y : Obj} {l : List (Addr × Obj)} (h : a < d ∧ b < d ∧ AllLt d l) : ∀ p ∈ (a, x) :: (b, y) :: l, p.1 ≠ d := by
  intro p hp
  rcases List.mem_cons.mp hp with rfl | hp
  · exact Nat.ne_of_lt h.1
  rcases List.mem_cons.mp hp with rfl | hp
  · exact Nat.ne_of_lt h.2.1
  · exact Nat.ne_of_lt (allLt_mem h.2.2 p hp)
theorem fold_near_keys {n : Int} : ∀ (l : List Int) (s : List (Int × Int) × List (Int × Int)), Keys n s → (∀ k ∈ l, 0 ≤ k ∧ k ≤ n + 1) → Keys n (l.foldl near1 s)
  | [], _, h, _ => h
  | k :: l, s, h, hl => fold_near_keys l _ (near1_keys h (hl k (.head _)).1 (hl k (.head _)).2) fun j hj => hl j (.tail _ hj)
theorem fold_keys {n r : Int} {c e c' e' : List (Int × Int)} {i : Nat} {P : Prop} (h : c.map (·.1) = upTo n ∧ e.map (·.1) = [0, n + 1] ∧ P) (h1 : 1 ≤ r) (h2 : r ≤ n) (hf : (c', e') = (List.take i [r - 1, r + 1]).foldl near1 (kdfPut c r (kdfLook c r 0 - 1000), e)) : Keys n (c', e') := by
  rw [hf]
  refine fold_near_keys _ _ ⟨by rw [put_keys (has_of_keys h.1 h1 h2)]; exact h.1, h.2.1⟩ fun k hk => ?_
  have := List.mem_of_mem_take hk
  simp at this
  lia
theorem pair_in {n r k : Int} {i : Nat} (hk : ([r - 1, r + 1] : List Int)[i]? = some k) (h1 : 1 ≤ r) (h2 : r ≤ n) : 0 ≤ k ∧ k ≤ n + 1 := by
  have := List.mem_of_getElem? hk
  simp at this
  lia
theorem apart_T2 {dT dD : Addr} {oT' oD qD q2 : Obj} {rest own own2 : List (Addr × Obj)} (h : ∀ p ∈ (dD, qD) :: (rest ++ own), p.1 ≠ dT) (hoff : OwnOff own2 (((dT, oT') :: (dD, oD) :: (rest ++ own)).map (·.1))) : ∀ p ∈ (dD, q2) :: (rest ++ own ++ own2), p.1 ≠ dT := by
  intro p hp
  rcases List.mem_cons.mp hp with rfl | hp
  · exact h (dD, qD) (.head _)
  rcases List.mem_append.mp hp with hp | hp
  · exact h p (List.mem_cons_of_mem _ hp)
  · exact hoff p hp dT (.head _)
theorem apart_D2 {dT dD : Addr} {oT oT' oD oD' : Obj} {rest own own2 : List (Addr × Obj)} (q1 : Obj) (lD : ∀ p ∈ (dT, oT) :: rest, p.1 < dD) (hoff : OwnOff own (((dD, oD) :: (dT, oT) :: rest).map (·.1))) (hoff2 : OwnOff own2 (((dT, oT') :: (dD, oD') :: (rest ++ own)).map (·.1))) : ∀ p ∈ (dT, q1) :: (rest ++ own ++ own2), p.1 ≠ dD := by
  intro p hp
  rcases List.mem_cons.mp hp with rfl | hp
  · exact Nat.ne_of_lt (lD (dT, oT) (.head _))
  rcases List.mem_append.mp hp with hp | hp
  · rcases List.mem_append.mp hp with hp | hp
    · exact Nat.ne_of_lt (lD p (List.mem_cons_of_mem _ hp))
    · exact hoff p hp dD (.head _)
  · exact hoff2 p hp dD (.tail _ (.head _))
theorem not_ditch {n k : Int} {s : List (Int × Int) × List (Int × Int)} (h : Keys n s) (hk : kdfHas s.2 k = false) (h1 : 0 ≤ k) (h2 : k ≤ n + 1) : kdfHas s.1 k = true := by
  have : ¬ (k = 0 ∨ k = n + 1) := fun e => by rw [(ditch_iff h.2).mpr e] at hk; cases hk
  exact has_of_keys h.1 (by lia) (by lia)
theorem keys_fit {c : List (Int × Int)} {n : Int} (h : c.map (·.1) = upTo n) (h5 : n ≤ 5) : c.length ≤ 16777216 := by
  have e := congrArg List.length h
  rw [List.length_map, upTo_len] at e
  lia
theorem ditch_fit {e : List (Int × Int)} {n : Int} (h : e.map (·.1) = [0, n + 1]) : e.length ≤ 16777216 := by
  have e' := congrArg List.length h
  rw [List.length_map] at e'
  simp at e'
  lia
theorem done_absurd {w : World} {Inv : Nat → List (Int × Int) → List (Int × Int) → Prop} {oT oD : Obj} {P : Prop} (iLt : ∀ t c e, Inv t c e → t < 100) (h : ∃ c e, Tab w oT c ∧ Tab w oD e ∧ Inv (rangeKs 0 100).length c e) : P := by
  obtain ⟨c, e, _, _, hinv⟩ := h
  have := iLt _ _ _ hinv
  rw [rangeKs_length] at this
  lia
theorem c_settled (w : World) (rest : List (Addr × Obj)) (dT : Addr) (oT : Obj) (n : Int) (tn : Tok) (dr : Addr) (its : List Value) (kk : Nat) (ds6 : List Int) (c0 : List (Int × Int)) (Inv : Nat → List (Int × Int) → List (Int × Int) → Prop)
    (hdr : (dr, W.listOf its.toArray kk) ∈ rest) (hi : IntsAre its ds6) (h6 : ds6.length = 6) (hne : ∀ p ∈ rest, p.1 ≠ dT) (hs : (dT == sysModules) = false) (ht : Tab w oT c0) (h3 : 3 ≤ n) (h5 : n ≤ 5)
    (i0 : Inv 0 c0 [(0, 0), (n + 1, 0)]) (iLt : ∀ t c e, Inv t c e → t < 100) (iKeys : ∀ t c e, Inv t c e → c.map (·.1) = upTo n ∧ e.map (·.1) = [0, n + 1] ∧ ∀ p ∈ c, 0 ≤ p.2 ∧ p.2 < 1000000)
    (iStep : ∀ t c e r, Inv t c e → 1 ≤ r → r ≤ n → 1000 ≤ kdfLook c r 0 → Inv (t + 1) (fire (c, e) r).1 (fire (c, e) r).2) :
    Does w 147 20 ((dT, oT) :: rest) [.ref dT, .int n tn, .ref dr] (fun v n' => ∃ X Y oT' oD' t tt c e, v = .ref X ∧ n' = (X, { cls := .type "tuple", data := .seq #[.ref dT, .ref Y, .int ((t : Nat) : Int) tt] }) :: (Y, oD') :: (dT, oT') :: rest ∧ Tab w oT' c ∧ Tab w oD' e ∧ (Y == sysModules) = false ∧ Inv t c e ∧ ∀ p ∈ c, p.2 < 1000) := by
  k_with_none
  k_with "fo" => (k_here; (rename Fr _ _ _ _ => lF'); (with_unfolding_all refine' For_invVF lF' ?k1 ?k2 ?_; (case k1 => rfl); (case k2 => rfl); k_whole))
  k_with "does_open" => ((unfold Does; k_fill; intro dp_doesopen un_doesopen gd_doesopen cn_doesopen cs_doesopen a_doesopen ccd_doesopen cl_doesopen outer_doesopen A0_doesopen base_doesopen h0_doesopen L_doesopen m_doesopen s_doesopen mean_doesopen mg_doesopen mb_doesopen Q_doesopen E_doesopen B_doesopen F_doesopen X_doesopen N_doesopen T_doesopen hk_doesopen hdp_doesopen hun_doesopen hret_doesopen; refine wpAny_call ?_; k_dflt cell_enter))
  k_with "does_sides" => (((case dB => k_asm); (case dF => k_asm); (case dX => k_asm); (case dN => k_asm); (case dT => k_asm); (case dK => first | exact rfl | assumption); (case dD => ktr_room); (case dU => ktr_units)))
  k_with "does_sides3" => (((case dB => k_asm); (case dF => k_asm); (case dX => k_asm); (case dT => k_asm); (case dK => first | exact rfl | assumption); (case dD => ktr_room); (case dU => ktr_units)))
  walk_at "does_open"
  k_with "eval Dict" => (k_dflt (refine' kdn_eval (knd := PySem.intKind _ _) ?eF ?eN ?eb ?ea ?el ?ee ?en ?_; (case eF => k_asm); (case eN => k_asm); (case eb => exact Top.nolimit (by k_asm)); (case ea => rfl); (case el => rfl); (case ee => exact List.cons_ne_nil _ _); (case en => exact Nat.le_of_ble_eq_true rfl)); intro dD' h' o' F' N' lD loD hdD)
  k_with "KdnMade" => (k_dflt (refine' kdn_made_intF ?mF ?mN (UpdF.head (fun p hp => Nat.ne_of_lt (lD p hp))) ?md ?mk ?mn ?mv ?_; (case mF => k_asm); (case mN => k_asm); (case md => k_asm); (case mk => rfl); (case mn => (show ([0, n + 1] : List Int).Nodup; simp; lia)); (case mv => rfl)); intro h' oD F' N' hdD' hfD)
  k_with "call ref" => (with_unfolding_all refine' does_use (c_width w _ dT qT c ?hm hs htc hkk.2.2) ?dB ?dF ?dX ?dN ?dT ?dK ?dD ?dU ?_; (walk_at "does_sides"); (case hm => k_mem); rintro v' n' h' tk' F' N' ⟨⟨wd, tw, rfl, hwd⟩, rfl⟩; (try dsimp only); (try k_fold))
  k_with "call ref" => (with_unfolding_all refine' does_use (c_first w _ dT qT c n _ _ _ ?hm hs htc (by lia) (by lia) (fun k k1 k2 => has_of_keys hkk.1 k1 k2)) ?dB ?dF ?dX ?dN ?dT ?dK ?dD ?dU ?_; (walk_at "does_sides"); (case hm => k_mem); rintro v' n' h' tk' F' N' ⟨⟨r, tr, rfl, hr0⟩, rfl⟩; (have hr := first_on hwd (by assumption) hkk.1 hr0); (clear hr0); (obtain ⟨hr1, hr2, hr3⟩ := hr); (try dsimp only); (try k_fold))
  k_with "subscriptTail Name BinOp ref int" => (with_unfolding_all refine' item_list_ints ?q1 hi ?q3 ?q4 ?q5 ?_; (case q1 => exact News.isList (by k_asm) (List.mem_cons_of_mem _ (List.mem_cons_of_mem _ (List.mem_append_left _ hdr)))); (case q3 => exact (six_idx hk).2.1); (case q4 => (have := (six_idx hk).2; lia)); (case q5 => (have := (six_idx hk).2; lia)); intro _)
  k_with "call ref" => (with_unfolding_all refine' does_use (c_getitem w _ dT _ _ _ _ ?hm hs ?htt ?hh) ?dB ?dF ?dX ?dN ?dT ?dK ?dD ?dU ?_; (walk_at "does_sides"); (case hm => k_mem); (case htt => assumption); (case hh => first | exact has_of_keys hkk.1 (by lia) (by lia) | exact not_ditch hKK (by assumption) (by lia) (by lia)); rintro v' n' h' tk' F' N' ⟨⟨t', rfl⟩, rfl⟩; (try dsimp only); (try k_fold))
  k_with "call ref" => (with_unfolding_all refine' does_use (c_getitem w _ dD' _ _ _ _ ?hm loD ?htt ?hh) ?dB ?dF ?dX ?dN ?dT ?dK ?dD ?dU ?_; (walk_at "does_sides"); (case hm => k_mem); (case htt => assumption); (case hh => assumption); rintro v' n' h' tk' F' N' ⟨⟨t', rfl⟩, rfl⟩; (try dsimp only); (try k_fold))
  k_with "call ref" => (with_unfolding_all refine' does_use (c_contains w _ dD' _ _ _ _ ?hm loD ?htt) ?dB ?dF ?dX ?dN ?dT ?dK ?dD ?dU ?_; (walk_at "does_sides"); (case hm => k_mem); (case htt => assumption); rintro v' n' h' tk' F' N' ⟨rfl, rfl⟩; (try dsimp only); (try k_fold))
  k_with "call ref" => (with_unfolding_all refine' does_use (c_isub w _ _ _ _ _) ?dB ?dF ?dX ?dN ?dT ?dK ?dD ?dU ?_; (walk_at "does_sides"); rintro v' n' h' tk' F' N' ⟨⟨t', rfl⟩, rfl⟩; (try dsimp only); (try k_fold))
  k_with "call ref" => (with_unfolding_all refine' does_use (c_iadd w _ _ _ _ _) ?dB ?dF ?dX ?dN ?dT ?dK ?dD ?dU ?_; (walk_at "does_sides"); rintro v' n' h' tk' F' N' ⟨⟨t', rfl⟩, rfl⟩; (try dsimp only); (try k_fold))
  k_with "call ref" => (with_unfolding_all refine' does_use (c_setitem w ((dT, qT) :: (dD', qD) :: (rest ++ own)) _ dT qT c r _ _ _ (UpdF.head hU1) htc ?hc) ?dB ?dF ?dX ?dN ?dT ?dK ?dD ?dU ?_; (walk_at "does_sides3"); (case hc => exact keys_fit hkk.1 h5); (case dN => exact cb_drop (by k_asm) (fun p hp => by rcases List.mem_cons.mp hp with rfl | hp; k_mem; rcases List.mem_cons.mp hp with rfl | hp; k_mem; repeat (first | exact hp | refine List.mem_cons_of_mem _ ?_))); rintro v' n' h' tk' F' N' ⟨rfl, o3, ht3, rfl⟩; (try dsimp only); (try k_fold))
  k_with "pi" => (with_unfolding_all refine kst_range (σ := Obj × Obj) (n := 100) (fun q => (dD', q.2) :: (dT, q.1) :: rest) (fun _ => []) (fun _ => True) [Str.ofString "heap", Str.ofString "near", Str.ofString "holder"] (fun pre q => ∃ c e, Tab w q.1 c ∧ Tab w q.2 e ∧ Inv pre.length c e) (oT, oD) rfl (by assumption) ?small ?size (by k_asm) (by k_asm) trivial (fun _ h => nomatch h) ⟨c0, [(0, 0), (n + 1, 0)], ht, ⟨_, hdD', hfD⟩, i0⟩ (fun q pre k t u h tk own hk hlen hoff _ hP F' N' => ?turn) (fun q u h tk _ hP F' N' => ?done); (case small => with_unfolding_all decide); (case size => with_unfolding_all rfl); (case done => exact done_absurd iLt hP); (case' turn => (obtain ⟨qT, qD⟩ := q; obtain ⟨c, e, htc, hte, hinv⟩ := hP; have hkk := iKeys _ _ _ hinv; have hU1 := apart_T qD lD hne hoff; simp only [List.cons_append] at N')))
  k_with "pi" => ((rename News _ _ _ (_ :: (dT, o3) :: _) => N3); (rename News _ _ _ ((dT, o3) :: _) => N4); (with_unfolding_all refine kst_tup (σ := Obj × Obj) (ns := [r - 1, r + 1]) (fun q => (dT, q.1) :: (dD', q.2) :: (rest ++ own)) (fun _ => []) (fun _ => True) [Str.ofString "holder"] (fun pre q => ∃ c' e', Tab w q.1 c' ∧ Tab w q.2 e' ∧ (c', e') = pre.foldl near1 (kdfPut c r (kdfLook c r 0 - 1000), e)) (o3, qD) rfl ⟨_, (N3 _ (.head _)).1, rfl, _, rfl⟩ (.cons _ _ (.cons _ _ .nil)) (N3 _ (.head _)).2.1 ?off2 (by k_asm) (fun p hp => N3 p (List.mem_cons_of_mem _ hp)) trivial (fun _ h => nomatch h) ⟨_, _, ht3, hte, rfl⟩ (fun q i k t u h tk own2 hk2 hoff2 _ hP F' N' => ?turn2) (fun q u h tk _ hP F' N' => ?done2)); (case off2 => exact fun p hp => Nat.ne_of_lt (Heap.lt_size (N4 p hp).1)); (case' turn2 => (obtain ⟨q1, q2⟩ := q; obtain ⟨c', e', htc', hte', hfold⟩ := hP; have hKK := fold_keys hkk hr1 hr2 hfold; have hkb := pair_in hk2 hr1 hr2; have hU2 := apart_T2 (q2 := q2) hU1 hoff2; have hU3 := apart_D2 q1 lD hoff hoff2; simp only [List.cons_append] at N')))
  k_with "call ref" => (with_unfolding_all refine' does_use (c_setitem w ((dD', q2) :: (dT, q1) :: (rest ++ own ++ own2)) _ dD' q2 e' k _ _ _ (UpdF.head hU3) hte' ?hc) ?dB ?dF ?dX ?dN ?dT ?dK ?dD ?dU ?_; (walk_at "does_sides3"); (case hc => exact ditch_fit hKK.2); (case dN => exact cb_drop (by k_asm) (fun p hp => by rcases List.mem_cons.mp hp with rfl | hp; k_mem; rcases List.mem_cons.mp hp with rfl | hp; k_mem; repeat (first | exact hp | refine List.mem_cons_of_mem _ ?_))); rintro v' n' h' tk' F' N' ⟨rfl, o5, ht5, rfl⟩; (try dsimp only); (try k_fold))
  k_with "call ref" => (with_unfolding_all refine' does_use (c_setitem w ((dT, q1) :: (dD', q2) :: (rest ++ own ++ own2)) _ dT q1 c' k _ _ _ (UpdF.head hU2) htc' ?hc) ?dB ?dF ?dX ?dN ?dT ?dK ?dD ?dU ?_; (walk_at "does_sides3"); (case hc => exact keys_fit hKK.1 h5); (case dN => exact cb_drop (by k_asm) (fun p hp => by rcases List.mem_cons.mp hp with rfl | hp; k_mem; rcases List.mem_cons.mp hp with rfl | hp; k_mem; repeat (first | exact hp | refine List.mem_cons_of_mem _ ?_))); rintro v' n' h' tk' F' N' ⟨rfl, o5, ht5, rfl⟩; (try dsimp only); (try k_fold))
  k_steps
  · rename DoesRet _ _ _ _ _ _ => hret
    obtain rfl : k = (pre.length : Int) := by lia
    refine doesRet hret (by k_asm) (cb_drop (by k_asm) (fun p hp => ?_)) ⟨_, dD', qT, qD, pre.length, t, c, e, rfl, rfl, htc, hte, loD, hinv, hwd.mp (by assumption)⟩
    rcases List.mem_cons.mp hp with rfl | hp
    · exact List.mem_cons_self
    · refine List.mem_cons_of_mem _ ?_
      rcases List.mem_cons.mp hp with rfl | hp
      · exact List.mem_cons_self
      refine List.mem_cons_of_mem _ ?_
      rcases List.mem_cons.mp hp with rfl | hp
      · exact List.mem_cons_self
      exact List.mem_cons_of_mem _ (List.mem_append_left _ hp)
  · exfalso; lia
  · refine Stop.mk ?_
    refine kst_end (q1, o5) (by k_asm) (by k_asm) (fun p hp => ?_) (fun p hp => ?_) rfl trivial (fun _ h => nomatch h) ?_ ?_
    · rcases List.mem_cons.mp hp with rfl | hp
      · k_mem
      rcases List.mem_cons.mp hp with rfl | hp
      · k_mem
      exact List.mem_cons_of_mem _ (List.mem_cons_of_mem _ (List.mem_append_left _ hp))
    · exact List.mem_cons_of_mem _ (List.mem_cons_of_mem _ (List.mem_append_right _ hp))
    · intro z z1 _ z3
      have z4 : z ≠ Str.ofString "holder" := by
        intro e
        rw [e] at z3
        revert z3
        decide
      rw [if_neg z4, if_neg z1]
      show (if _ then _ else _) = _
      rw [z3]
      rfl
    · refine ⟨c', _, htc', ht5, ?_⟩
      rw [List.foldl_append, ← hfold]
      show _ = near1 (c', e') k
      unfold near1
      rw [if_pos (by assumption)]
  · refine Stop.mk ?_
    refine kst_end (o5, q2) (by k_asm) (by k_asm) (fun p hp => ?_) (fun p hp => ?_) rfl trivial (fun _ h => nomatch h) ?_ ?_
    · rcases List.mem_cons.mp hp with rfl | hp
      · k_mem
      rcases List.mem_cons.mp hp with rfl | hp
      · k_mem
      exact List.mem_cons_of_mem _ (List.mem_cons_of_mem _ (List.mem_append_left _ hp))
    · exact List.mem_cons_of_mem _ (List.mem_cons_of_mem _ (List.mem_append_right _ hp))
    · intro z z1 _ z3
      have z4 : z ≠ Str.ofString "holder" := by
        intro e
        rw [e] at z3
        revert z3
        decide
      rw [if_neg z4, if_neg z1]
      show (if _ then _ else _) = _
      rw [z3]
      rfl
    · refine ⟨_, e', ht5, hte', ?_⟩
      rw [List.foldl_append, ← hfold]
      show _ = near1 (c', e') k
      unfold near1
      rw [if_neg (by rw [show kdfHas e' k = false by assumption]; exact Bool.false_ne_true)]
  · refine Stop.mk ?_
    obtain ⟨c', e', htc', hte', hfold⟩ := hP
    obtain ⟨q1, q2⟩ := q
    refine kst_end (q1, q2) (by k_asm) (by k_asm) (fun p hp => ?_) (fun p hp => ?_) rfl trivial (fun _ h => nomatch h) ?_ ?_
    · rcases List.mem_cons.mp hp with rfl | hp
      · k_mem
      rcases List.mem_cons.mp hp with rfl | hp
      · k_mem
      exact List.mem_cons_of_mem _ (List.mem_cons_of_mem _ (List.mem_append_left _ hp))
    · exact List.mem_cons_of_mem _ (List.mem_cons_of_mem _ (List.mem_append_right _ hp))
    · intro z z1 _ z3
      have z4 : z ≠ Str.ofString "heap" := fun e => by
        rw [e] at z3
        revert z3
        decide
      have z5 : z ≠ Str.ofString "near" := fun e => by
        rw [e] at z3
        revert z3
        decide
      have z6 : z ≠ Str.ofString "holder" := fun e => by
        rw [e] at z3
        revert z3
        decide
      have z7 : List.contains [Str.ofString "holder"] z = false := by
        cases h : List.contains [Str.ofString "holder"] z with
        | false => rfl
        | true => exact absurd (by simpa using h) z6
      rw [if_neg z5]
      show (if List.contains [Str.ofString "holder"] z = true then _ else _) = _
      rw [z7, if_neg Bool.false_ne_true, if_neg z4, if_neg z1]
      show (if _ then _ else _) = _
      rw [z3]
      rfl
    · refine ⟨c', e', htc', hte', ?_⟩
      have hst := iStep _ _ _ r hinv hr1 hr2 hr3
      have e1 : (c', e') = fire (c, e) r := hfold
      rw [← e1] at hst
      rw [List.length_append]
      exact hst
end Mine
end

section
theorem Mine.fresh26 : True := by k_with_none; w_top off; trivial
open PySem PySem.W PyProof.Rows PyProof.V PySem.Calls
set_option maxRecDepth 100000
set_option maxHeartbeats 8000000
namespace Mine
theorem codeC_cells {prog : Program} {w : World} {A : Around} {R : Result → Shared → Prop} {s : Shared} {name : PySem.Str} {params : Arguments} {body : List Stmt} {scope : Scope}
    {pm cd doc : Value} {a : Addr} {o : Obj} {args : List Value} {binds : List (PySem.Str × Value)}
    (hroom : A.depth < recursionLimit) (ho : s.heap.get? a = some o) (hdata : o.data = .func (Calls.docDef name params body scope pm cd doc)) (hlim : s.heap.NoLimit) (hcd : s.heap.CodeRec cd name)
    (hbind : bindArgs (Calls.docDef name params body scope pm cd doc) ⟨args, []⟩ = pure binds)
    (hkind : ∀ x ∈ binds, scope.names.lookup x.1 = some .local ∨ (scope.names.lookup x.1 = some .cell ∧ ((cellsFrom (s.heap.objs.size + 1) scope.names []).lookup x.1).isSome = true))
    (hnd : ((cellsFrom 0 scope.names []).map (·.1)).Nodup)
    (h : ∀ h₁ tk cells, Fr s.heap s.heap.objs.size h₁ (bindL (envOfC name scope s.heap.objs.size a cd).kindOf binds fun _ => none) → News s.heap s.heap.objs.size h₁ cells →
      CellsAre (bindC (envOfC name scope s.heap.objs.size a cd).kindOf binds fun _ => none) (cellsFrom (s.heap.objs.size + 1) scope.names []) cells →
      wpC (model prog w) (A.deeper (envOfC name scope s.heap.objs.size a cd)) (execs body (envOfC name scope s.heap.objs.size a cd))
        (fun f s' => R (.ok (.ret (match f with | .ret v => v | _ => .none))) s')
        (fun e s' => wpAny (model prog w) (A.deeper (envOfC name scope s.heap.objs.size a cd)) (leaving (envOfC name scope s.heap.objs.size a cd) e)
          (fun _ s'' => R (.error e) s'') (fun e' s'' => R (.error e') s'') s')
        { s with heap := h₁, toks := tk })
    (hco : scope.isCoroutine = false) (hgen : scope.isGenerator = false) (hk : scope.kind = .function) :
    codeC (model prog w) A (.call (.ref a) ⟨args, []⟩) R s := by
  refine codeC_call_function hroom ho hdata hco hgen rfl hcd ?_
  rw [hbind]
  refine wpAny_pure (wpAny_newFunctionEnv_cells hk hkind fun env he s' x => ?_)
  subst he
  refine ⟨hlim.keeps x.toInCall.keep, codeC_func ?_⟩
  obtain ⟨h₁, tk, rfl, _⟩ := x.done
  obtain ⟨cells, NC, Y⟩ := Cl.news (h₀ := s.heap) (Nat.le_refl _) fun n c hm => ⟨x.cell n c (lookup_of_mem_nodup (cellsFrom_names scope.names 0 (s.heap.objs.size + 1) [] [] rfl ▸ hnd) hm), x.above n c hm⟩
  exact h h₁ tk cells ⟨x.toInCall.ns, x.toInCall.keep, Nat.le_refl _⟩ NC Y
theorem C_enter_call {M : Model} {A : Around} {s : Shared} {f : Value} {pos : List Value} {kw : List (PySem.Str × Value)} {c : ClaimW} {cl : PySem.Str → Option Addr} {mean : ExcName → Option Value} {args : List WData} {s₁ : Shared}
    (h : codeC M A (.call f ⟨pos, kw⟩) (GoodWG c cl mean args s₁) s) : wpC M A (PySem.call f pos kw) (fun v s' => GoodWG c cl mean args s₁ (.ok (.ret v)) s') (fun e s' => GoodWG c cl mean args s₁ (.error e) s') s :=
  C_call (codeC_mono h fun res s' g => by rcases g.1 with ⟨v, _, _, rfl, _⟩ | ⟨e, _, _, rfl, _⟩ <;> exact g)
end Mine
end

section
theorem Mine.fresh27 : True := by k_with_none; w_top off; trivial
open PySem PySem.W PyProof.Rows PyProof.V PySem.Calls
set_option maxRecDepth 100000
set_option maxHeartbeats 8000000
namespace Mine
section
variable {σ : Type} {prog : Program} {w : World} {A : Around} {E : Value → Shared → Prop} {s : Shared} {env : Env} {Q : Flow → Shared → Prop}
theorem forList_A (G : Heap → Prop) (x : PySem.Str) (vx : Value) (items : Array Value) (dl : Addr) (lo : Obj) (hlo : lo.cls = .type "list" ∧ ∃ n, lo.data = .seq items n) (Led : σ → List (Addr × Obj)) (J : Nat → σ → Prop) (c₀ : σ) {g₁ : Heap} {m : PySem.Str → Option Value} {elts : List Expr} {x1 : Nat} {tp : Pos} {body : List Stmt}
    (hh : A.handled = none) (hdl : ∀ c, (dl, lo) ∈ Led c) (hT : ∀ v ∈ items, ∃ T, v = .ref T) (hg : G g₁) (F : Fr g₁ env.locals s.heap m) (hx : m x = some vx) (N : News g₁ env.locals s.heap (Led c₀)) (j0 : J 0 c₀)
    (turn : ∀ (i : Nat) (c : σ) (g : Heap) (u : PySem.Str → Option Value) (h : Heap) (tk : Nat) (I : Addr) (oI : Obj) (v : Value), items[i]? = some v → G g → J i c → (∀ p ∈ Led c, p.1 ≠ I) → Fr g env.locals h (fun z => if z = x then some vx else u z) → News g env.locals h ((I, oI) :: Led c) →
      wpAny (model prog w) A (assign (.Tuple elts x1 tp) env v) (fun _ s₂ => wpAny (model prog w) A (execs body env) (fun f s₃ => match f with
        | .next | .cont => TurnEnd G env.locals x vx Led J s I oI (i + 1) s₃
        | .brk => Q .next s₃
        | .ret v => Q (.ret v) s₃) (fun _ _ => False) s₂) (fun _ _ => False) { s with heap := h, toks := tk })
    (done : ∀ (c : σ) (g : Heap) (u : PySem.Str → Option Value) (h : Heap) (tk : Nat), G g → J items.size c → Fr g env.locals h (fun z => if z = x then some vx else u z) → News g env.locals h (Led c) → Q .next { s with heap := h, toks := tk }) :
    wpAny (model prog w) A (pyIter (.ref dl)) (fun it s₂ => codeAny (model prog w) A (.forLoop (.Tuple elts x1 tp) it body [] env) (fun r s' => match r with | .ok f => Q f s' | .error e => cameBackBy (model prog w) A env E e s') s₂) E s := by
  have lst : ∀ {g : Heap} {h : Heap} {c : σ}, News g env.locals h (Led c) → h.IsList dl items := fun {g h c} N => ⟨lo, (N _ (hdl c)).1, hlo.1, hlo.2⟩
  refine wpAny_pyIter_list (lst N) ?_
  have hI : s.heap.get? s.heap.objs.size = none := Heap.get?_none_of_le (Nat.le_refl _)
  generalize hIe : s.heap.objs.size = I at hI ⊢
  have hIn : ∀ p ∈ Led c₀, p.1 ≠ I := fun p hp e => by have := (N p hp).1; rw [e, hI] at this; cases this
  have hIL : I ≠ env.locals := fun e => by
    have := F.ns.lt
    rw [← e, ← hIe] at this
    exact absurd this (Nat.lt_irrefl _)
  have hgI : g₁.get? I = none := by
    cases q : g₁.get? I with
    | none => rfl
    | some o => have := F.keep _ _ q; rw [hI] at this; cases this
  have hp0 : ∀ b o, s.heap.get? b = some o → (s.heap.push { cls := .type "list_iterator", data := .fields #[.ref dl, .int 0 0] }).get? b = some o := fun b o e => Heap.get?_push_of_some _ e
  refine codeAny_mono (R := fun r s' => match r with | .ok f => Q f s' | .error _ => False) ?_ (fun r s' h => by
    cases r with
    | ok f => exact h
    | error e => exact h.elim)
  refine codeAny_forLoop_any (fun k s' => ∃ i c g m₂ h tk, s' = { s with heap := h, toks := tk } ∧ G g ∧ J i c ∧ Fr g env.locals h m₂ ∧ m₂ x = some vx ∧ h.IsListIter I dl i ∧ News g env.locals h (Led c) ∧ g.get? I = none ∧ (∀ p ∈ Led c, p.1 ≠ I) ∧ i ≤ items.size ∧ k = items.size + 1 - i) ?_ (items.size + 1)
    ⟨0, c₀, g₁, m, s.heap.push { cls := .type "list_iterator", data := .fields #[.ref dl, .int 0 0] }, s.toks, rfl, hg, j0, ⟨F.ns.at' fun o e => hp0 _ o e, fun b o e => hp0 _ _ (F.keep b o e), F.above⟩, hx, ⟨_, hIe ▸ Heap.get?_push_size _ rfl, rfl, rfl⟩, fun p hp => ⟨hp0 _ _ (N p hp).1, (N p hp).2⟩, hgI, hIn, Nat.zero_le _, rfl⟩
  rintro k s' ⟨i, c, g, m₂, h, tk, rfl, hG, hJ, F', hx', hit, N', hgI', hIn', hi, rfl⟩
  by_cases hlt : i < items.size
  · have hv : items[i]? = some items[i] := by simp [hlt]
    refine wpAny_pyNext_list_item hit (lst N') hv fun h' hit' hs' => ?_
    dsimp only
    obtain ⟨T, eT⟩ := hT items[i] (Array.getElem_mem hlt)
    rw [eT]
    refine wpAny_letOwnedTupleGo_listiter hit' ?_
    have kk : ∀ b o, b ≠ I → h.get? b = some o → h'.get? b = some o := fun b o hb e => hs'.extBut b o hb e
    obtain ⟨oI, hoI, hcI, hdI⟩ := id hit'
    have F₁ : Fr g env.locals h' m₂ := ⟨F'.ns.at' fun o e => kk _ o (fun e' => hIL e'.symm) e, fun b o e => kk b o (fun e' => by rw [e', hgI'] at e; cases e) (F'.keep b o e), F'.above⟩
    rw [keep_one hx'] at F₁
    have N₁ : News g env.locals h' ((I, oI) :: Led c) := fun p hp => by
      rcases List.mem_cons.mp hp with rfl | hp
      · exact ⟨hoI, hIL, hgI'⟩
      · exact ⟨kk _ _ (hIn' p hp) (N' p hp).1, (N' p hp).2⟩
    refine wpAny_mono (turn i c g m₂ h' tk I oI (.ref T) (eT ▸ hv) hG hJ hIn' F₁ N₁) (fun _ s₂ h₂ => wpAny_mono h₂ (fun f s₃ h₃ => ?_) fun _ _ z => z.elim) fun _ _ z => z.elim
    have fin : TurnEnd G env.locals x vx Led J s I oI (i + 1) s₃ → ∃ k', k' < items.size + 1 - i ∧ ∃ i c g m₂ h tk, s₃ = { s with heap := h, toks := tk } ∧ G g ∧ J i c ∧ Fr g env.locals h m₂ ∧ m₂ x = some vx ∧ h.IsListIter I dl i ∧ News g env.locals h (Led c) ∧ g.get? I = none ∧ (∀ p ∈ Led c, p.1 ≠ I) ∧ i ≤ items.size ∧ k' = items.size + 1 - i := by
      rintro ⟨c', g', m', h'', tk', rfl, hG', hJ', F'', hx'', N'', hn''⟩
      refine ⟨items.size + 1 - (i + 1), by omega, i + 1, c', g', m', h'', tk', rfl, hG', hJ', F'', hx'', ⟨oI, (N'' _ (.head _)).1, hcI, hdI⟩, fun p hp => N'' p (List.mem_cons_of_mem _ hp), (N'' _ (.head _)).2.2, hn'', by omega, rfl⟩
    cases f with
    | next => exact fin h₃
    | cont => exact fin h₃
    | brk => exact h₃
    | ret v => exact h₃
  · obtain rfl : i = items.size := by omega
    refine wpAny_pyNext_list_end hh hit (lst N') (by simp) fun h' hs' => ?_
    have kk : ∀ b o, b ≠ I → h.get? b = some o → h'.get? b = some o := fun b o hb e => hs' b o hb e
    have F₁ : Fr g env.locals h' m₂ := ⟨F'.ns.at' fun o e => kk _ o (fun e' => hIL e'.symm) e, fun b o e => kk b o (fun e' => by rw [e', hgI'] at e; cases e) (F'.keep b o e), F'.above⟩
    rw [keep_one hx'] at F₁
    exact wpAny_execs_nil (done c g m₂ h' tk hG hJ F₁ fun p hp => ⟨kk _ _ (hIn' p hp) (N' p hp).1, (N' p hp).2⟩)
end
end Mine
end

section
theorem Mine.fresh28 : True := by k_with_none; w_top off; trivial
open PySem PySem.W PyProof.Rows PyProof.V PySem.Calls PyProof.Rows.LCg
set_option maxRecDepth 100000
set_option maxHeartbeats 8000000
namespace Mine
/-- a comprehension over the keys of a dict of the ledger -/
def SrcK (w : World) (A : Around) (h₀ : Heap) (L : Addr) (m : PySem.Str → Option Value) (env : Env) (elt : Expr) (x : PySem.Str) (scope : Scope) (cl : List (PySem.Str × Addr)) (Fin : Shared → List Value → List (Addr × Obj) → Prop) (xv : Value) (s₁ : Shared) : Prop :=
  ∃ d o c news, xv = .ref d ∧ A.handled = none ∧ (d == sysModules) = false ∧ (d, o) ∈ news ∧ Tab w o c ∧ c.length ≤ 100 ∧ Fr h₀ L s₁.heap m ∧ News h₀ L s₁.heap news ∧
    ∀ s₂ : Shared, (∃ h, s₂ = { s₁ with heap := h }) → CompRest PySem.Challenge.rw_zd0004_01.row.prog w A h₀ L m env elt x scope cl s₂ (fun nw => (d, o) ∈ nw) (fun i v => ∃ k t, (c.map (·.1))[i]? = some k ∧ v = .int k t) (Fin s₂) c.length 0 [] news
section
variable {w : World} {A : Around} {E : Value → Shared → Prop} {s : Shared} {h₀ : Heap} {L : Addr} {m : PySem.Str → Option Value} {env : Env}
theorem keys_walk {I d : Addr} (hh : A.handled = none) (hne : d ≠ I) {o : Obj} {kvs : List (Int × Value)} {c : List (Int × Int)} {ep : Nat} (hkv : kvs.map (·.1) = c.map (·.1)) :
    Walks PySem.Challenge.rw_zd0004_01.row.prog w A I [I, d] [I] c.length (fun i v => ∃ k t, (c.map (·.1))[i]? = some k ∧ v = .int k t) (fun i h => h.IsKeyIter I d i kvs.length ep ∧ h.DictAt (PySem.intKind PySem.Challenge.rw_zd0004_01.row.prog w) d kvs ep) := by
  have hlen : kvs.length = c.length := by have := congrArg List.length hkv; simpa using this
  have W := Walks.dictKeys (knd := PySem.intKind PySem.Challenge.rw_zd0004_01.row.prog w) hh I d hne kvs ep
  rw [← hlen]
  exact { sub := W.sub, frame := W.frame, done := W.done, self := W.self, item := fun i s Q E hi st hQ => W.item i s Q E hi st fun v h' tk hP => hQ v h' tk (by
      obtain ⟨k, xv, hi, hk⟩ := hP
      obtain ⟨t, rfl⟩ := Value.isInt_shape hk
      exact ⟨k, t, by rw [← hkv, List.getElem?_map, hi]; rfl, rfl⟩) }
theorem Assign_ListComp_K {elt iter : Expr} {x y : PySem.Str} {px py : Pos} {scope : Scope} {cl : List (PySem.Str × Addr)} {pos spos : Pos} {Q : Flow → Shared → Prop} (_F₀ : Fr h₀ L s.heap m) (hLe : env.locals = L)
    (hsw : swapsWith (.ListComp elt [⟨.Name x px, iter, [], 0⟩] scope pos) (some (.Name y py)) spos.line env = pure true)
    (hclos : closureFor scope env = pure cl) (hcell : ∀ z ∈ scope.names, z.2 ≠ .cell) (hkind : scope.kind = .function)
    (hnames : ∀ z ∈ scope.names, z.2 = .local → scope.names.lookup z.1 = some .local) (hx : scope.names.lookup x = some .local)
    (hy : env.kindOf y = some .local) (hp : (env.scope.kind == .class || (env.scope.kind == .module && env.locals != env.globals)) = false)
    (h : wpAny (model PySem.Challenge.rw_zd0004_01.row.prog w) A (eval iter env) (SrcK w A h₀ L m env elt x scope cl (fun s₂ => FinA h₀ L m s₂ y Q)) E s)
    (hs : ∀ x, foldedSetIterable iter env x = pure x) :
    wpAny (model PySem.Challenge.rw_zd0004_01.row.prog w) A (exec (.Assign [.Name y py] (.ListComp elt [⟨.Name x px, iter, [], 0⟩] scope pos) spos) env) Q E s := by
  subst hLe
  rw [exec_Assign_Name_used _ _ _ _ hsw]
  refine wpAny_bind (wpAny_standAt (wpAny_bind ?_))
  show wpAny _ A (do let _ ← comprehension (.ListComp elt [⟨.Name x px, iter, [], 0⟩] scope pos) scope env _ (newList []) false (eval iter env) (some (assign (.Name y py) env))) _ _ s
  refine wpAny_bind (wpAny_mono (wpAny_comprehension_free (use := some (assign (.Name y py) env)) (Q := fun _ s' => Q .next s') rfl hs hclos hkind hnames
    (wpAny_mono h (fun xv s₁ h₁ => ?_) fun _ _ e => e)) (fun _ s' hq => wpAny_pure (wpAny_pure hq)) fun _ _ e => e)
  rcases h₁ with ⟨d, o, c, news, rfl, hh, hsm, hm, ht, hc, F, N, R⟩
  obtain ⟨kvs, ⟨es, ep, hx1, hx2, hx3, hx4, hx5⟩, hf⟩ := ht
  have hkv := tab_keys hf
  have hod := (N _ hm).1
  have hda : s₁.heap.DictAt (PySem.intKind PySem.Challenge.rw_zd0004_01.row.prog w) d kvs ep := ⟨o, es, hod, hx1, hx2, hx3, hx4, hx5⟩
  refine wpAny_pyIter_dict (knd := PySem.intKind PySem.Challenge.rw_zd0004_01.row.prog w) hsm hda ?_
  have up : ∀ b o, s₁.heap.get? b = some o → (s₁.heap.push { cls := .type "dict_keyiterator", data := .fields #[.ref d, .int 0 0, .int kvs.length 0, .int ep 0] }).get? b = some o := fun b o e => Heap.get?_push_of_some _ e
  have hlt : d < s₁.heap.objs.size := Heap.lt_size hod
  refine block_U (keys_walk hh (Nat.ne_of_lt hlt) (o := o) hkv) (by rw [sizeLine_eq]; lia) (fun i h st => by obtain ⟨o, e, _⟩ := st.1; exact ⟨o, e⟩)
    (fun i h h' oI nw st e e' _ N' S => ⟨by obtain ⟨o', q, r⟩ := st.1; rw [e] at q; cases q; exact ⟨oI, e', r⟩, ⟨o, es, (N' _ S).1, hx1, hx2, hx3, hx4, hx5⟩⟩) hcell hkind hx ⟨⟨_, Heap.get?_push_size _ rfl, rfl, rfl⟩, ⟨o, es, up _ _ hod, hx1, hx2, hx3, hx4, hx5⟩⟩ (fun b hb => ?_)
    (F.keeps up) (N.grown up) (Nat.ne_of_lt F.ns.lt) (next_is_new F) (fun p hp => Nat.ne_of_lt (Heap.lt_size (N p hp).1)) hm (R _ ⟨_, rfl⟩) ?_
  · show b < (s₁.heap.push _).objs.size
    rw [Heap.size_push]
    rcases List.mem_cons.mp hb with rfl | hb
    · exact Nat.lt_succ_self _
    · rw [List.mem_singleton.mp hb]; exact Nat.lt_succ_of_lt hlt
  · intro D C h' tk m' ys news' F' N' o1 hn hC₀ hD₀ hCL hDL hCD offC fin
    show wpAny _ A (assign (.Name y py) env (.ref D)) _ _ _
    refine wpAny_assign_Name (wpAny_storeName_local hy F'.ns (fun h₂ hn₂ hs₂ => ?_) hp)
    have hL₀ : h₀.get? env.locals = none := Heap.get?_none_of_le F'.above
    have F₂ : Fr h₀ env.locals h₂ (fun z => if z = y then some (.ref D) else m z) := ⟨hn₂, fun b o e => hs₂.extBut b o (fun q => by rw [q, hL₀] at e; cases e) (F'.keep b o e), F'.above⟩
    refine ⟨m', hn.sameBut hs₂ hCL, fun h'' hs'' => fin D h'' _ (F₂.change hs'' hCL hC₀) (fun p hp => ?_) o1⟩
    have z : h₂.get? p.1 = some p.2 := hs₂.extBut _ _ (N' p hp).2.1 (N' p hp).1
    refine ⟨hs''.extBut _ _ ?_ z, (N' p hp).2⟩
    rcases List.mem_cons.mp hp with rfl | hp
    · exact Ne.symm hCD
    · exact offC p hp
end
end Mine
end

section
theorem Mine.fresh29 : True := by k_with_none; w_top off; trivial
open PySem PySem.W PyProof.Rows PyProof.V PySem.Calls PyProof.Rows.LCg
set_option maxRecDepth 100000
set_option maxHeartbeats 8000000
namespace Mine
def pairO (k q : Int) (t u : Tok) : Obj := { cls := .type "tuple", data := .seq #[.int k t, .int q u] }
/-- ys: refs to pairs, which lie in nw -/
def PairsAt (ys : List Value) (nw : List (Addr × Obj)) (l : List (Int × Int)) : Prop := ys.length = l.length ∧ ∀ (i : Nat) k q, l[i]? = some (k, q) → ∃ T t u, ys[i]? = some (.ref T) ∧ (T, pairO k q t u) ∈ nw
theorem PairsAt.snoc {ys : List Value} {nw : List (Addr × Obj)} {l : List (Int × Int)} {k q : Int} {T : Addr} {t u : Tok} (h : PairsAt ys nw l) : PairsAt (ys ++ [.ref T]) ((T, pairO k q t u) :: nw) (l ++ [(k, q)]) := by
  refine ⟨by simp [h.1], fun i k' q' hi => ?_⟩
  by_cases hl : i < l.length
  · rw [List.getElem?_append_left hl] at hi
    obtain ⟨T', t', u', h1, h2⟩ := h.2 i k' q' hi
    exact ⟨T', t', u', by rw [List.getElem?_append_left (by rw [h.1]; exact hl)]; exact h1, .tail _ h2⟩
  · have : i = l.length := by
      have := (List.getElem?_eq_some_iff.mp hi).1
      simp at this; lia
    subst this
    rw [List.getElem?_append_right (Nat.le_refl _)] at hi
    simp at hi
    obtain ⟨rfl, rfl⟩ := hi
    exact ⟨T, t, u, by rw [← h.1]; simp, .head _⟩
section
variable {prog : Program} {w : World} {A : Around} {E : Value → Shared → Prop} {s : Shared} {h₀ : Heap} {L : Addr} {m : PySem.Str → Option Value} {env : Env} {elt : Expr} {x x₂ : PySem.Str} {scope : Scope} {cl : List (PySem.Str × Addr)} {S : List (Addr × Obj) → Prop} {P : Nat → Value → Prop} {Fin : List Value → List (Addr × Obj) → Prop} {news : List (Addr × Obj)}
def PairEnd (k q : Int) (nw : List (Addr × Obj)) (y : Value) (nw' : List (Addr × Obj)) : Prop := ∃ T t u, y = .ref T ∧ nw' = (T, pairO k q t u) :: nw ∧ ∀ p ∈ nw, p.1 ≠ T
def PairTurn (h₀ : Heap) (L : Addr) (m : PySem.Str → Option Value) (s : Shared) (k q : Int) (led : List (Addr × Obj)) (v : Value) (s' : Shared) : Prop :=
  ∃ T t u h' tk', v = .ref T ∧ s' = { s with heap := h', toks := tk' } ∧ Fr h₀ L h' m ∧ News h₀ L h' ((T, pairO k q t u) :: led) ∧ ∀ p ∈ led, p.1 < T
def IntTurn (h₀ : Heap) (L : Addr) (m : PySem.Str → Option Value) (s : Shared) (q : Int) (led : List (Addr × Obj)) (v : Value) (s' : Shared) : Prop :=
  ∃ t h' tk', v = .int q t ∧ s' = { s with heap := h', toks := tk' } ∧ Fr h₀ L h' m ∧ News h₀ L h' led
theorem pairTurn_of {T : Addr} {k q : Int} {t u : Tok} {led : List (Addr × Obj)} {h' : Heap} {tk' : Nat} (F : Fr h₀ L h' m) (N : News h₀ L h' ((T, pairO k q t u) :: led)) (l : AllLt T led) : PairTurn h₀ L m s k q led (.ref T) { s with heap := h', toks := tk' } :=
  ⟨T, t, u, h', tk', rfl, rfl, F, N, allLt_mem l⟩
theorem intTurn_of {q : Int} {t : Tok} {led : List (Addr × Obj)} {h' : Heap} {tk' : Nat} (F : Fr h₀ L h' m) (N : News h₀ L h' led) : IntTurn h₀ L m s q led (.int q t) { s with heap := h', toks := tk' } := ⟨t, h', tk', rfl, rfl, F, N⟩
/-- a comprehension of pairs: the turn once -/
theorem pairs_rest {n : Nat} {ks : List Int} (g : Int → Int) (hks : ks.length = n) (hP : ∀ i v, i < n → P i v → ∃ k t, ks[i]? = some k ∧ v = .int k t)
    (turn : ∀ k t I oI C oC D m₂ ys tups h tk (E' : Value → Shared → Prop), k ∈ ks → NsObj oC m₂ → m₂ x = some (.int k t) → Fr h₀ L h m → News h₀ L h ((I, oI) :: (C, oC) :: (D, lst ys) :: (news ++ tups)) → Off3 I C D (news ++ tups) → ((@Ne Nat I C) ∧ (@Ne Nat I D) ∧ (@Ne Nat C D)) →
      wpAny (model prog w) A (eval elt (compEnvC scope cl C env)) (PairTurn h₀ L m s k (g k) ((I, oI) :: (C, oC) :: (D, lst ys) :: (news ++ tups))) E' { s with heap := h, toks := tk })
    (hS : ∀ nw, (∀ p ∈ news, p ∈ nw) → S nw)
    (fin : ∀ ys tups, PairsAt ys tups (ks.map fun k => (k, g k)) → (∀ p ∈ tups, ∀ q ∈ news, q.1 ≠ p.1) → Fin ys (news ++ tups)) : CompRest prog w A h₀ L m env elt x scope cl s S P Fin n 0 [] news := by
  have key : ∀ (j i : Nat) (ys : List Value) (tups : List (Addr × Obj)), i + j = n → PairsAt ys tups ((ks.take i).map fun k => (k, g k)) → (∀ p ∈ tups, ∀ q ∈ news, q.1 ≠ p.1) → CompRest prog w A h₀ L m env elt x scope cl s S P Fin j i ys (news ++ tups) := by
    intro j
    induction j with
    | zero =>
      intro i ys tups hi hy ha
      have e : i = ks.length := by lia
      subst e
      rw [List.take_length] at hy
      exact CompRest.zero (fin ys tups hy ha)
    | succ j ih =>
      intro i ys tups hi hy ha
      refine CompRest.succ ?_
      intro v I oI C oC D m₂ h tk E' hv hC hx F N off ne
      obtain ⟨k, t, hk, hv'⟩ := hP i v (by lia) hv
      rw [hv'] at hx
      refine wpAny_mono (turn k t I oI C oC D m₂ ys tups h tk E' (List.mem_of_getElem? hk) hC hx F N off ne) (fun y s₂ hq => ?_) fun _ _ e => e
      obtain ⟨T, t1, t2, h', tk', rfl, rfl, F', N', lt⟩ := hq
      have e1 : ks.take (i + 1) = ks.take i ++ [k] := by rw [List.take_add_one, hk]; rfl
      have hsub : ∀ p ∈ (I, oI) :: (C, oC) :: (D, lst ys) :: (news ++ (T, pairO k (g k) t1 t2) :: tups), p ∈ (T, pairO k (g k) t1 t2) :: (I, oI) :: (C, oC) :: (D, lst ys) :: (news ++ tups) := by
        intro p hp
        simp only [List.mem_cons, List.mem_append] at hp ⊢
        rcases hp with h | h | h | h | h | h
        · exact .inr (.inl h)
        · exact .inr (.inr (.inl h))
        · exact .inr (.inr (.inr (.inl h)))
        · exact .inr (.inr (.inr (.inr (.inl h))))
        · exact .inl h
        · exact .inr (.inr (.inr (.inr (.inr h))))
      have hoff : Off3 I C D (news ++ (T, pairO k (g k) t1 t2) :: tups) := Off3.of fun p hp => by
        rcases List.mem_append.mp hp with hp | hp
        · exact off.mem p (List.mem_append_left _ hp)
        rcases List.mem_cons.mp hp with rfl | hp
        · exact ⟨Ne.symm (Nat.ne_of_lt (lt _ (.head _))), Ne.symm (Nat.ne_of_lt (lt _ (.tail _ (.head _)))), Ne.symm (Nat.ne_of_lt (lt _ (.tail _ (.tail _ (.head _)))))⟩
        · exact off.mem p (List.mem_append_right _ hp)
      refine ⟨h', tk', news ++ (T, pairO k (g k) t1 t2) :: tups, rfl, F', fun p hp => N' p (hsub p hp), hoff, hS _ (fun p hp => List.mem_append_left _ hp), ?_⟩
      refine ih (i + 1) _ _ (by lia) ?_ ?_
      · rw [e1, List.map_append]
        exact PairsAt.snoc hy
      · intro p hp q hq
        rcases List.mem_cons.mp hp with rfl | hp
        · exact Nat.ne_of_lt (lt q (.tail _ (.tail _ (.tail _ (List.mem_append_left _ hq)))))
        · exact ha p hp q hq
  have := key n 0 [] [] (by lia) ⟨rfl, fun i k q h => by simp at h⟩ (fun p hp => nomatch hp)
  rwa [List.append_nil] at this
/-- a comprehension of ints over pairs: the turn once -/
theorem ints_restP {vs : List Value} {tups : List (Addr × Obj)} {l : List (Int × Int)} (g : Int → Int → Int) (hp : PairsAt vs tups l) (hsub : ∀ p ∈ tups, p ∈ news)
    (turn : ∀ k q t u I oI C oC D m₂ ys h tk (E' : Value → Shared → Prop), (k, q) ∈ l → NsObj oC m₂ → m₂ x = some (.int k t) → m₂ x₂ = some (.int q u) → Fr h₀ L h m → News h₀ L h ((I, oI) :: (C, oC) :: (D, lst ys) :: news) →
      wpAny (model prog w) A (eval elt (compEnvC scope cl C env)) (IntTurn h₀ L m s (g k q) ((I, oI) :: (C, oC) :: (D, lst ys) :: news)) E' { s with heap := h, toks := tk })
    (hS : S news) (fin : ∀ ys, IntsAre ys (l.map fun p => g p.1 p.2) → Fin ys news) : LCp.CompRestP prog w A h₀ L m env elt x x₂ scope cl s S (fun i v => vs.toArray[i]? = some v) Fin vs.toArray.size 0 [] news := by
  have key : ∀ (j i : Nat) (ys : List Value), i + j = l.length → IntsAre ys ((l.take i).map fun p => g p.1 p.2) → LCp.CompRestP prog w A h₀ L m env elt x x₂ scope cl s S (fun i v => vs.toArray[i]? = some v) Fin j i ys news := by
    intro j
    induction j with
    | zero =>
      intro i ys hi hy
      have e : i = l.length := by lia
      subst e
      rw [List.take_length] at hy
      exact LCp.CompRestP.zero (fin ys hy)
    | succ j ih =>
      intro i ys hi hy
      refine LCp.CompRestP.succ ?_
      intro v hv
      have hv : vs[i]? = some v := by simpa using hv
      obtain ⟨⟨k, q⟩, hkq⟩ : ∃ p, l[i]? = some p := ⟨l[i]'(by lia), List.getElem?_eq_getElem _⟩
      obtain ⟨T, t, u, h1, h2⟩ := hp.2 i k q hkq
      rw [h1] at hv
      cases hv
      refine ⟨T, _, _, _, _, rfl, hsub _ h2, rfl, rfl, ?_⟩
      intro I oI C oC D m₂ h tk E' hC hx hx2 F N off ne
      refine wpAny_mono (turn k q _ _ I oI C oC D m₂ ys h tk E' (List.mem_of_getElem? hkq) hC hx hx2 F N) (fun y s₂ hq => ?_) fun _ _ e => e
      obtain ⟨t', h', tk', rfl, rfl, F', N'⟩ := hq
      refine ⟨h', tk', news, rfl, F', N', off, hS, ih (i + 1) _ (by lia) ?_⟩
      rw [List.take_add_one, hkq]
      simpa using IntsAre.append hy (.cons (g k q) t' .nil)
  have e : vs.toArray.size = l.length := by rw [List.size_toArray]; exact hp.1
  rw [e]
  exact key l.length 0 [] (by lia) (by simp only [List.take_zero, List.map_nil]; exact .nil)
end
theorem put_all {P : Int → Prop} {c : List (Int × Int)} {k v : Int} (h : ∀ p ∈ c, P p.2) (hv : P v) : ∀ p ∈ kdfPut c k v, P p.2 := by
  intro p hp
  unfold kdfPut at hp
  split at hp
  · obtain ⟨q, hq, rfl⟩ := List.mem_map.mp hp
    split
    · exact hv
    · exact h q hq
  · rcases List.mem_append.mp hp with hp | hp
    · exact h p hp
    · rw [List.mem_singleton.mp hp]; exact hv
theorem look_all {P : Int → Prop} {c : List (Int × Int)} {k : Int} (h : ∀ p ∈ c, P p.2) (hk : kdfHas c k = true) : P (kdfLook c k 0) := by
  unfold kdfLook
  cases hf : c.find? fun p => decide (p.1 = k) with
  | none =>
    unfold kdfHas at hk
    rw [List.any_eq_true] at hk
    obtain ⟨p, hp, hpk⟩ := hk
    exact absurd hpk (List.find?_eq_none.mp hf p hp)
  | some p => exact h p (List.mem_of_find?_eq_some hf)
theorem step_bound (n : Int) : ∀ (ds : List (Int × Int × Int)) (c : List (Int × Int)) (hi : Int), DeedsOk n ds → c.map (·.1) = upTo n → (∀ p ∈ c, 500 ≤ p.2 ∧ p.2 ≤ hi) → ∀ p ∈ ds.foldl laidStep c, 500 ≤ p.2 ∧ p.2 ≤ hi + 1500 * (ds.length : Int) := by
  intro ds
  induction ds with
  | nil =>
    intro c hi _ _ h p hp
    have := h p hp
    rw [List.length_nil]
    lia
  | cons d ds ih =>
    intro c hi hok hk h p hp
    have hd := hok d (.head _)
    have hhas : kdfHas c d.1 = true := has_iff.mpr (by rw [hk]; exact mem_upTo.mpr hd.1)
    have hl := look_all (P := fun v => 500 ≤ v ∧ v ≤ hi) h hhas
    have key := ih (laidStep c d) (hi + 1500) (fun x hx => hok x (.tail _ hx)) ?_ ?_ p hp
    · have e : ((d :: ds).length : Int) = ds.length + 1 := by simp
      rw [e]
      lia
    · unfold laidStep
      split
      · rw [put_keys hhas]; exact hk
      · exact hk
    · unfold laidStep
      split
      · refine put_all (P := fun v => 500 ≤ v ∧ v ≤ hi + 1500) (fun p hp => ?_) ?_
        · have := h p hp
          lia
        · have := hd.2.2
          lia
      · intro p hp
        have := h p hp
        lia
theorem laid_bound (n : Int) (ds : List (Int × Int × Int)) (hok : DeedsOk n ds) : ∀ p ∈ laidC n ds, 500 ≤ p.2 ∧ p.2 ≤ 500 + 1500 * (ds.length : Int) :=
  step_bound n ds (startC n) 500 hok (start_keys n) fun p hp => by
    unfold startC at hp
    obtain ⟨i, _, rfl⟩ := List.mem_map.mp hp
    exact ⟨Int.le_refl _, Int.le_refl _⟩
end Mine
end

section
theorem Mine.fresh30 : True := by k_with_none; w_top off; trivial
open PySem PySem.W PyProof.Rows PyProof.V PySem.Calls PyProof.Rows.LCg
set_option maxRecDepth 100000
set_option maxHeartbeats 8000000
namespace Mine
/-- a comprehension with a test over the keys of a dict of the ledger -/
def SrcKT (w : World) (A : Around) (h₀ : Heap) (L : Addr) (m : PySem.Str → Option Value) (env : Env) (ct elt : Expr) (x : PySem.Str) (scope : Scope) (cl : List (PySem.Str × Addr)) (Fin : Shared → List Value → List (Addr × Obj) → Prop) (xv : Value) (s₁ : Shared) : Prop :=
  ∃ d o c news, xv = .ref d ∧ A.handled = none ∧ (d == sysModules) = false ∧ (d, o) ∈ news ∧ Tab w o c ∧ c.length ≤ 100 ∧ Fr h₀ L s₁.heap m ∧ News h₀ L s₁.heap news ∧
    ∀ s₂ : Shared, (∃ h, s₂ = { s₁ with heap := h }) → LCt.CompRestT PySem.Challenge.rw_zd0004_01.row.prog w A h₀ L m env ct elt x scope cl s₂ (fun nw => (d, o) ∈ nw) (fun i v => ∃ k t, (c.map (·.1))[i]? = some k ∧ v = .int k t) (Fin s₂) c.length 0 [] news
section
variable {w : World} {A : Around} {E : Value → Shared → Prop} {s : Shared} {h₀ : Heap} {L : Addr} {m : PySem.Str → Option Value} {env : Env}
theorem ListComp_KT {ct elt iter : Expr} {x : PySem.Str} {px : Pos} {scope : Scope} {cl : List (PySem.Str × Addr)} {pos : Pos} {Q : Value → Shared → Prop} (_F₀ : Fr h₀ L s.heap m)
    (hclos : closureFor scope env = pure cl) (hcell : ∀ y ∈ scope.names, y.2 ≠ .cell) (hkind : scope.kind = .function)
    (hnames : ∀ y ∈ scope.names, y.2 = .local → scope.names.lookup y.1 = some .local) (hx : scope.names.lookup x = some .local)
    (h : wpAny (model PySem.Challenge.rw_zd0004_01.row.prog w) A (eval iter env) (SrcKT w A h₀ L m env ct elt x scope cl (fun s₂ => FinE h₀ L m s₂ Q)) E s)
    (hs : ∀ x, foldedSetIterable iter env x = pure x) :
    wpAny (model PySem.Challenge.rw_zd0004_01.row.prog w) A (eval (.ListComp elt [⟨.Name x px, iter, [ct], 0⟩] scope pos) env) Q E s := by
  rw [eval_ListComp]
  refine wpAny_comprehension_free (use := none) rfl hs hclos hkind hnames (wpAny_mono h (fun xv s₁ h₁ => ?_) fun _ _ e => e)
  rcases h₁ with ⟨d, o, c, news, rfl, hh, hsm, hm, ht, hc, F, N, R⟩
  obtain ⟨kvs, ⟨es, ep, hx1, hx2, hx3, hx4, hx5⟩, hf⟩ := ht
  have hkv := tab_keys hf
  have hod := (N _ hm).1
  have hda : s₁.heap.DictAt (PySem.intKind PySem.Challenge.rw_zd0004_01.row.prog w) d kvs ep := ⟨o, es, hod, hx1, hx2, hx3, hx4, hx5⟩
  refine wpAny_pyIter_dict (knd := PySem.intKind PySem.Challenge.rw_zd0004_01.row.prog w) hsm hda ?_
  have up : ∀ b o, s₁.heap.get? b = some o → (s₁.heap.push { cls := .type "dict_keyiterator", data := .fields #[.ref d, .int 0 0, .int kvs.length 0, .int ep 0] }).get? b = some o := fun b o e => Heap.get?_push_of_some _ e
  have hlt : d < s₁.heap.objs.size := Heap.lt_size hod
  refine LCt.block_T (keys_walk hh (Nat.ne_of_lt hlt) (o := o) hkv) (by rw [sizeLine_eq]; lia) (fun i h st => by obtain ⟨o, e, _⟩ := st.1; exact ⟨o, e⟩)
    (fun i h h' oI nw st e e' _ N' S => ⟨by obtain ⟨o', q, r⟩ := st.1; rw [e] at q; cases q; exact ⟨oI, e', r⟩, ⟨o, es, (N' _ S).1, hx1, hx2, hx3, hx4, hx5⟩⟩) hcell hkind hx ⟨⟨_, Heap.get?_push_size _ rfl, rfl, rfl⟩, ⟨o, es, up _ _ hod, hx1, hx2, hx3, hx4, hx5⟩⟩ (fun b hb => ?_)
    (F.keeps up) (N.grown up) (Nat.ne_of_lt F.ns.lt) (next_is_new F) (fun p hp => Nat.ne_of_lt (Heap.lt_size (N p hp).1)) hm (R _ ⟨_, rfl⟩) ?_
  · show b < (s₁.heap.push _).objs.size
    rw [Heap.size_push]
    rcases List.mem_cons.mp hb with rfl | hb
    · exact Nat.lt_succ_self _
    · rw [List.mem_singleton.mp hb]; exact Nat.lt_succ_of_lt hlt
  · intro D C h tk m' ys news' F' N' o1 hn hC₀ hD₀ hCL hDL hCD offC fin
    refine ⟨m', hn, fun h'' hs'' => fin D h'' tk (F'.change hs'' hCL hC₀) (fun p hp => ?_) o1⟩
    refine ⟨hs''.extBut _ _ ?_ (N' p hp).1, (N' p hp).2⟩
    rcases List.mem_cons.mp hp with rfl | hp
    · exact Ne.symm hCD
    · exact offC p hp
end
section
variable {prog : Program} {w : World} {A : Around} {E : Value → Shared → Prop} {s : Shared} {h₀ : Heap} {L : Addr} {m : PySem.Str → Option Value} {env : Env} {ct elt : Expr} {x x₂ : PySem.Str} {scope : Scope} {cl : List (PySem.Str × Addr)} {S : List (Addr × Obj) → Prop} {P : Nat → Value → Prop} {Fin : List Value → List (Addr × Obj) → Prop} {news : List (Addr × Obj)}
def TestTurn (h₀ : Heap) (L : Addr) (m : PySem.Str → Option Value) (s : Shared) (b : Bool) (led : List (Addr × Obj)) (b' : Bool) (s' : Shared) : Prop :=
  b' = b ∧ ∃ h' tk', s' = { s with heap := h', toks := tk' } ∧ Fr h₀ L h' m ∧ News h₀ L h' led
/-- a comprehension of ints with a test: the turn once -/
theorem ints_restT {n : Nat} {ks : List Int} (p : Int → Bool) (g : Int → Int) (hks : ks.length = n) (hP : ∀ i v, i < n → P i v → ∃ k t, ks[i]? = some k ∧ v = .int k t)
    (test : ∀ k t I oI C oC D m₂ ys h tk (E' : Value → Shared → Prop), k ∈ ks → NsObj oC m₂ → m₂ x = some (.int k t) → Fr h₀ L h m → News h₀ L h ((I, oI) :: (C, oC) :: (D, lst ys) :: news) →
      wpAny (model prog w) A (isTrue ct (compEnvC scope cl C env) (eval ct (compEnvC scope cl C env))) (TestTurn h₀ L m s (p k) ((I, oI) :: (C, oC) :: (D, lst ys) :: news)) E' { s with heap := h, toks := tk })
    (turn : ∀ k t I oI C oC D m₂ ys h tk (E' : Value → Shared → Prop), k ∈ ks → NsObj oC m₂ → m₂ x = some (.int k t) → Fr h₀ L h m → News h₀ L h ((I, oI) :: (C, oC) :: (D, lst ys) :: news) →
      wpAny (model prog w) A (eval elt (compEnvC scope cl C env)) (IntTurn h₀ L m s (g k) ((I, oI) :: (C, oC) :: (D, lst ys) :: news)) E' { s with heap := h, toks := tk })
    (hS : S news) (fin : ∀ ys, IntsAre ys ((ks.filter p).map g) → Fin ys news) : LCt.CompRestT prog w A h₀ L m env ct elt x scope cl s S P Fin n 0 [] news := by
  have key : ∀ (j i : Nat) (ys : List Value), i + j = n → IntsAre ys (((ks.take i).filter p).map g) → LCt.CompRestT prog w A h₀ L m env ct elt x scope cl s S P Fin j i ys news := by
    intro j
    induction j with
    | zero =>
      intro i ys hi hy
      have e : i = ks.length := by lia
      subst e
      rw [List.take_length] at hy
      exact LCt.CompRestT.zero (fin ys hy)
    | succ j ih =>
      intro i ys hi hy
      refine LCt.CompRestT.succ ?_
      intro v I oI C oC D m₂ h tk E' hv hC hx F N off ne
      obtain ⟨k, t, hk, hv'⟩ := hP i v (by lia) hv
      rw [hv'] at hx
      have hkm := List.mem_of_getElem? hk
      refine wpAny_mono (test k t I oI C oC D m₂ ys h tk E' hkm hC hx F N) (fun b s₂ hq => ?_) fun _ _ e => e
      obtain ⟨rfl, h', tk', rfl, F', N'⟩ := hq
      cases hp : p k with
      | true =>
        simp only [if_true]
        refine wpAny_mono (turn k t I oI C oC D m₂ ys h' tk' E' hkm hC hx F' N') (fun y s₂ hq => ?_) fun _ _ e => e
        obtain ⟨t', h2, tk2, rfl, rfl, F2, N2⟩ := hq
        refine ⟨h2, tk2, news, rfl, F2, N2, off, hS, ih (i + 1) _ (by lia) ?_⟩
        rw [List.take_add_one, hk]
        simpa [List.filter_append, hp] using IntsAre.append hy (.cons (g k) t' .nil)
      | false =>
        simp only [Bool.false_eq_true, if_false]
        refine ⟨h', tk', news, rfl, F', N', off, hS, ih (i + 1) _ (by lia) ?_⟩
        rw [List.take_add_one, hk]
        simpa [List.filter_append, hp] using hy
  exact key n 0 [] (by lia) (by simp only [List.take_zero, List.filter_nil, List.map_nil]; exact .nil)
end
end Mine
end

section
theorem Mine.fresh31 : True := by k_with_none; w_top off; trivial
open PySem PySem.W PyProof.Rows PyProof.V
set_option maxRecDepth 100000
set_option maxHeartbeats 4000000
namespace Mine
def NextP (P : Shared → Prop) (f : Flow) (s' : Shared) : Prop := f = .next ∧ P s'
theorem execs_consP' {M : Model} {A : Around} {env : Env} {s : Shared} {st : Stmt} {rest : List Stmt} {Q : Flow → Shared → Prop} {E : Value → Shared → Prop} (P : Shared → Prop) (h1 : wpAny M A (exec st env) (NextP P) (fun _ _ => False) s) (h2 : ∀ s', P s' → wpAny M A (execs rest env) Q E s') : wpAny M A (execs (st :: rest) env) Q E s :=
  wpAny_execs_cons (wpAny_mono h1 (fun f s' h => by obtain ⟨rfl, h⟩ := h; exact h2 s' h) fun _ _ h => h.elim)
local macro_rules | `(tactic| walk_at "subscriptTail") => `(tactic| k_extra "own_sub")
local macro_rules | `(tactic| walk_at "subscriptTail Name Name ref int") => `(tactic| k_extra "own_sub")
def StP (g : Heap) (L : Addr) (sx : Shared) (m : Str → Option Value) (led : List (Addr × Obj)) (s' : Shared) : Prop := ∃ h tk, s' = { sx with heap := h, toks := tk } ∧ Fr g L h m ∧ News g L h led
theorem execs_consP {M : Model} {A : Around} {env : Env} {s : Shared} {st : Stmt} {rest : List Stmt} {Q : Flow → Shared → Prop} {E : Value → Shared → Prop} (P : Shared → Prop) (h1 : wpAny M A (exec st env) (fun f s' => f = .next ∧ P s') (fun _ _ => False) s) (h2 : ∀ s', P s' → wpAny M A (execs rest env) Q E s') : wpAny M A (execs (st :: rest) env) Q E s :=
  wpAny_execs_cons (wpAny_mono h1 (fun f s' h => by obtain ⟨rfl, h⟩ := h; exact h2 s' h) fun _ _ h => h.elim)
local macro_rules | `(tactic| walk_at "eval ListComp") => `(tactic| k_extra "own_lc")
local macro_rules | `(tactic| walk_at "SrcLP") => `(tactic| k_extra "own_lp")
local macro_rules | `(tactic| walk_at "IntTurn") => `(tactic| k_extra "it")
theorem offZ {news tups : List (Addr × Obj)} {L D : Addr} {of oD : Obj} (h : ∀ p ∈ news, p.1 ≠ L + 1 + 1) (hD : D ≠ L + 1 + 1) (ht : ∀ p ∈ tups, p.1 ≠ L + 1 + 1) : ∀ p ∈ (L + 1, of) :: (D, oD) :: (news ++ tups), p.1 ≠ L + 1 + 1 := fun p hp => by
  rcases List.mem_cons.mp hp with rfl | hp
  · exact Nat.ne_of_lt (Nat.lt_succ_self _)
  rcases List.mem_cons.mp hp with rfl | hp
  · exact hD
  rcases List.mem_append.mp hp with hp | hp
  · exact h p hp
  · exact ht p hp
def dL (c : List (Int × Int)) : List (Int × Int) := c.map fun p => (p.1, p.2.fdiv 500)
def dS1 (c : List (Int × Int)) : Int := ((c.map fun p => (p.1, p.2.fdiv 500)).map fun p => p.1 * p.2).sum
def dS2 (c : List (Int × Int)) : Int := ((c.map fun p => (p.1, p.2.fdiv 500)).map fun p => p.1 * p.1 * p.2).sum
def dQ (c : List (Int × Int)) : Int := ((c.map fun p => (p.1, p.2.fdiv 500)).map fun p => p.2).sum
def dPl (n : Int) : Int := (n * (n + 1)).fdiv 2
def dZ (n : Int) (c : List (Int × Int)) : Int := (dPl n - dS1 c).fmod (n + 1)
def dFar (n : Int) (c : List (Int × Int)) : Int := (dS1 c - dPl n + dZ n c).fdiv (n + 1)
def dNear (n : Int) (c : List (Int × Int)) : Int := dQ c - n + (if 0 < dZ n c then 1 else 0) - dFar n c
def dEnds (n : Int) (c : List (Int × Int)) : Int := dFar n c * (n + 1) ^ 2 + (((c.map (·.1)).filter fun k => k != dZ n c).map fun k => k * k).sum
theorem near_pos {n : Int} {c : List (Int × Int)} (h : 0 < dZ n c) : dNear n c = dQ c - n + 1 - dFar n c := by unfold dNear; rw [if_pos h]
theorem near_neg {n : Int} {c : List (Int × Int)} (h : ¬ 0 < dZ n c) : dNear n c = dQ c - n + 0 - dFar n c := by unfold dNear; rw [if_neg h]
def dTable (n : Int) (c : List (Int × Int)) : List (Int × Int) := tabOf (fun k => (kdfLook c k 0).fmod 500 + (if k = dZ n c then 0 else 500)) (c.map (·.1))
def ValTurn (q : Int) (s₃ : Shared) (y : Value) (s₄ : Shared) : Prop := (∃ t', y = .int q t') ∧ Keeps s₃ s₄
local macro_rules | `(tactic| walk_at "eval Name") => `(tactic| k_extra "own_name")
theorem valTurn_pos {k z a : Int} {t : Tok} {s : Shared} {tk : Nat} (h : k = z) : ValTurn (a + (if k = z then 0 else 500)) s (.int (a + 0) t) { s with toks := tk } := by rw [if_pos h]; exact ⟨⟨_, rfl⟩, s.heap, tk, rfl, fun _ _ e => e⟩
theorem valTurn_neg {k z a : Int} {t : Tok} {s : Shared} {tk : Nat} (h : ¬ k = z) : ValTurn (a + (if k = z then 0 else 500)) s (.int (a + 500) t) { s with toks := tk } := by rw [if_neg h]; exact ⟨⟨_, rfl⟩, s.heap, tk, rfl, fun _ _ e => e⟩
theorem due_ret {h₀ : Heap} {L : Addr} {m : Str → Option Value} {s : Shared} {Post : Value → List (Addr × Obj) → Prop} {Q : Value → Shared → Prop} (R : DoesRet h₀ L m s Post Q) {v : Value} {x y z : Addr × Obj} {rest news : List (Addr × Obj)} {h' : Heap} {tk' : Nat}
    (F : Fr h₀ L h' m) (N : News h₀ L h' (x :: y :: z :: rest)) (sub : ∀ p ∈ news, p ∈ rest) (P : Post v (x :: y :: z :: news)) : Q v { s with heap := h', toks := tk' } :=
  doesRet R F (cb_drop N fun p hp => by
    rcases List.mem_cons.mp hp with rfl | hp
    · exact .head _
    rcases List.mem_cons.mp hp with rfl | hp
    · exact .tail _ (.head _)
    rcases List.mem_cons.mp hp with rfl | hp
    · exact .tail _ (.tail _ (.head _))
    · exact .tail _ (.tail _ (.tail _ (sub p hp)))) P
theorem inTups {x y z v : Addr × Obj} {news tups : List (Addr × Obj)} : ∀ p ∈ tups, p ∈ x :: y :: z :: v :: (news ++ tups) := fun p hp => .tail _ (.tail _ (.tail _ (.tail _ (List.mem_append_right _ hp))))
local macro_rules | `(tactic| walk_at "call builtin:sum") => `(tactic| k_extra "own_sum")
theorem dueNe {news : List (Addr × Obj)} {d L : Addr} {oz of : Obj} (h : ∀ p ∈ news, p.1 < d) (hz : L + 1 + 1 < d) : ∀ p ∈ (L + 1 + 1, oz) :: (L + 1, of) :: news, p.1 ≠ d := fun p hp => by
  rcases List.mem_cons.mp hp with rfl | hp
  · exact Nat.ne_of_lt hz
  rcases List.mem_cons.mp hp with rfl | hp
  · exact Nat.ne_of_lt (Nat.lt_trans (Nat.lt_succ_self _) hz)
  · exact Nat.ne_of_lt (h p hp)
theorem c_due (w : World) (news : List (Addr × Obj)) (n : Int) (tn : Tok) (dl : Addr) (lo : Obj) (items : Array Value) (ds : List (Int × Int × Int)) (hlo : lo.cls = .type "list" ∧ ∃ n, lo.data = .seq items n) (hdl : (dl, lo) ∈ news) (hds : DeedsAt news items ds) (hok : DeedsOk n ds) (hds5 : ds.length = 5) (h1 : n = 3 ∨ n = 4 ∨ n = 5) :
    Does w 152 20 news [.ref dl, .int n tn] (fun v n' => ∃ X Y dT oT oY t, ∃ r, v = .ref X ∧ n' = (X, { cls := .type "tuple", data := .seq #[.ref dT, .ref Y, .int r t] }) :: (Y, oY) :: (dT, oT) :: news ∧ Tab w oT (dTable n (laidC n ds)) ∧ Tab w oY [(0, 500 * dNear n (laidC n ds)), (n + 1, 500 * dFar n (laidC n ds))] ∧ (dT == sysModules) = false ∧ (Y == sysModules) = false ∧ r = (dEnds n (laidC n ds) - dS2 (laidC n ds)).fdiv 2) := by
  k_with_none
  k_with "it" => (with_unfolding_all exact intTurn_of (by k_asm) (by assumption))
  k_with "due_enter" => ((refine wpAny_call ?_; k_dflt (refine' code_defC ?k1_dueenter ?k2_dueenter ?k3_dueenter ?k4_dueenter ?k5_dueenter ?kA_dueenter ?kF_dueenter ?kK_dueenter ?k6_dueenter ?k7_dueenter ?k8_dueenter ?k9_dueenter ?kB_dueenter ?kD_dueenter ?_ ?c2_dueenter ?c3_dueenter ?c4_dueenter; (case kA_dueenter => exact rfl); (case kF_dueenter => exact rfl); (case kK_dueenter => first | exact rfl | assumption); (case k1_dueenter => k_asm); (case k2_dueenter => k_asm); (case k3_dueenter => k_asm); (case k4_dueenter => k_asm); (case k5_dueenter => k_asm); (case k6_dueenter => k_is); (case k7_dueenter => k_is); (case k8_dueenter => ktr_room); (case k9_dueenter => exact BindsTo.of_eq rfl); (case kB_dueenter => exact rfl); (case kD_dueenter => decide +kernel); (case c2_dueenter => exact rfl); (case c3_dueenter => exact rfl); (case c4_dueenter => exact rfl); k_whole)))
  unfold Does
  k_fill
  intro dp un gd cn cs a ccd cl outer A₀ base h₀ L m sx mean mg mb Q E B F X N T hk hdp hun hret
  walk_at "due_enter"
  clear B F X N T
  intro g L1 h1x tk1 cells FG F N Y B X T l1
  k_cells Y
  simp only [List.cons_append, List.nil_append] at N
  (try dsimp only)
  (try k_lift B)
  refine execs_consP (fun s' => ∃ (d : Addr) (o oz of : Obj) (vz : Option Value) (h : Heap) (tk : Nat) (u : Str → Option Value), s' = { sx with heap := h, toks := tk } ∧ Fr g L1 h (fun z => if z = Str.ofString "n" then some (.int n tn) else if z = Str.ofString "deeds" then some (.ref dl) else u z) ∧ News g L1 h ((d, o) :: (L1 + 1 + 1, oz) :: (L1 + 1, of) :: news) ∧ of.data = .cell (some (.ref d)) ∧ oz.data = .cell vz ∧ Tab w o (startC n) ∧ (∀ p ∈ news, p.1 < d) ∧ L1 + 1 + 1 < d ∧ (d == sysModules) = false) ?_ ?_
  · refine wpAny_Assign_Name ?_ (by with_unfolding_all rfl)
    with_unfolding_all refine' dictcompE T.nolimit F N ?hh ?hclos ?hcell ?hkind ?hnames ?hx ?hxd ?hsrc ?hs
    case hh => with_unfolding_all rfl
    case hclos => with_unfolding_all rfl
    case hcell => decide
    case hkind => with_unfolding_all rfl
    case hnames => decide
    case hx => with_unfolding_all rfl
    case hxd => decide
    case hs => intro _; with_unfolding_all rfl
    k_steps
    refine dsrcE_range (n := n) (fun _ => 500) rfl (by assumption) (by lia) (by lia) (by k_asm) (by k_asm) ?val ?cont
    case val =>
      intro C k t s₃ m₃ E' hk hns hm hkeep
      exact wpAny_Constant_int ⟨⟨_, rfl⟩, _, _, rfl, fun _ _ e => e⟩
    case cont =>
      intro Dd o h' tk ht F' N' hD hS
      (try k_fold)
      k_steps
      have e1 : ∀ p ∈ news, p.1 < L1 := l1
      k_dflt (refine' storeX_C F' N' ?c ?U ?d ?_ ?a ?b)
      case a => with_unfolding_all rfl
      case b => with_unfolding_all rfl
      case c => with_unfolding_all rfl
      case U => exact UpdF.tail (Ne.symm (Nat.ne_of_lt (hD _ (.tail _ (.head _))))) (UpdF.tail (Nat.succ_ne_self (L1+1)) (UpdF.head fun p hp => Nat.ne_of_lt (Nat.lt_succ_of_lt (e1 p hp))))
      case d => assumption
      intro h6 o6 F6 N6 d6
      (try dsimp only at N6)
      exact ⟨trivial, Dd, o, _, o6, _, h6, _, _, rfl, fr_two F6 rfl rfl, N6, d6, by assumption, startC_is n ▸ ht, fun p hp => hD p (.tail _ (.tail _ hp)), hD _ (.head _), hS⟩
  · rintro s' ⟨d, o, oz, of, vz, h, tk, u, rfl, F2, N2, hof, hoz, ht, hne, hdz, hsm⟩
    clear F N
    have hT : ∀ v ∈ items, ∃ T, v = .ref T := fun v hv => by
      obtain ⟨i, hi⟩ := Array.mem_iff_getElem?.mp hv
      obtain ⟨_, _, _, _, _, _, T, _, e, _⟩ := hds.2 i v hi
      exact ⟨T, e⟩
    have hfit : ∀ i, (laidC n (ds.take i)).length ≤ 16777216 := fun i => by
      have e := congrArg List.length (laid_keys n (ds.take i) fun d hd => (hok d (List.mem_of_mem_take hd)).1)
      rw [List.length_map, upTo_len] at e
      lia
    refine execs_consP (fun s' => ∃ (o : Obj) (h : Heap) (tk : Nat) (u : Str → Option Value), s' = { sx with heap := h, toks := tk } ∧ Fr g L1 h (fun z => if z = Str.ofString "n" then some (.int n tn) else u z) ∧ News g L1 h ((d, o) :: (L1 + 1 + 1, oz) :: (L1 + 1, of) :: news) ∧ Tab w o (laidC n ds)) ?_ ?_
    · refine wpAny_For ?_
      k_steps
      refine forList_A (fun g' => g' = g) (Str.ofString "n") (.int n tn) items dl lo hlo (fun o => (d, o) :: (L1 + 1 + 1, oz) :: (L1 + 1, of) :: news) (fun i o => Tab w o (laidC n (ds.take i))) o rfl (fun _ => .tail _ (.tail _ (.tail _ hdl))) hT rfl (by k_asm) rfl (by k_asm) ht ?turn ?done
      case turn =>
        intro i o' g' u' h' tk' I oI v hv hG hJ hI F N
        obtain rfl := hG
        obtain ⟨hp, kd, gr, t1, t2, t3, TT, hdi, rfl, hm⟩ := hds.2 i v hv
        have hTT := News.isTup N (.tail _ (.tail _ (.tail _ (List.mem_cons_of_mem _ hm))))
        have hdo := hok _ (List.mem_of_getElem? hdi)
        dsimp only at hdo
        obtain ⟨⟨b1, b2⟩, ⟨b3, b4⟩, b5, b6⟩ := hdo
        have hdI : d ≠ I := hI (d, o') (.head _)
        have hI' : ∀ o3, ∀ p ∈ (d, o3) :: (L1 + 1 + 1, oz) :: (L1 + 1, of) :: news, p.1 ≠ I := fun o3 p hp => by
          rcases List.mem_cons.mp hp with rfl | hp
          · exact hdI
          · exact hI p (List.mem_cons_of_mem _ hp)
        have U : UpdF d o' ((I, oI) :: (d, o') :: (L1 + 1 + 1, oz) :: (L1 + 1, of) :: news) (fun o3 => (I, oI) :: (d, o3) :: (L1 + 1 + 1, oz) :: (L1 + 1, of) :: news) := UpdF.tail (Ne.symm hdI) (UpdF.head (dueNe hne hdz))
        have hhas : kdfHas (laidC n (ds.take i)) hp = true := has_iff.mpr (by rw [laid_keys n _ fun d hd => (hok d (List.mem_of_mem_take hd)).1]; exact mem_upTo.mpr ⟨b1, b2⟩)
        have hJ2 := hJ
        obtain ⟨kvs, ht1, ht2⟩ := hJ2
        k_with "own_sub" => (refine kdf_item (TabAt.ofNews (by k_asm) (by k_mem) hsm ht1 ht2) hhas ?_; intro _)
        k_with "setItem ref int" => (refine kdf_setItem (by k_asm) (by k_asm) U ht1 ht2 (hfit i) ?_; intro h' o3 kvs' F' N' hd' hf')
        obtain hk3 | hk3 : kd < 3 ∨ 3 ≤ kd := by lia
        · k_steps
          refine' turnEnd_of (c := o3) ?zF rfl ?zJ ?zK ?zN (hI' o3)
          case zF => k_asm
          case zJ => exact (show Tab w o3 _ from (laid_take hdi).symm ▸ (by unfold laidStep; rw [if_pos hk3]; exact ⟨kvs', hd', hf'⟩))
          case zK => rfl
          case zN => exact cb_drop (by k_asm) (fun p hp => by rcases List.mem_cons.mp hp with rfl | hp; k_mem; rcases List.mem_cons.mp hp with rfl | hp; k_mem; rcases List.mem_cons.mp hp with rfl | hp; k_mem; rcases List.mem_cons.mp hp with rfl | hp; k_mem; repeat (first | exact hp | refine List.mem_cons_of_mem _ ?_))
        · k_steps
          refine' turnEnd_of (c := o') ?zFa rfl ?zJa ?zKa ?zNa (hI' o')
          case zFa => k_asm
          case zJa => exact (show Tab w o' _ from (laid_take hdi).symm ▸ (by unfold laidStep; rw [if_neg (show ¬ (kd < 3) by lia)]; exact hJ))
          case zKa => rfl
          case zNa => exact cb_drop (by k_asm) (fun p hp => by rcases List.mem_cons.mp hp with rfl | hp; k_mem; rcases List.mem_cons.mp hp with rfl | hp; k_mem; rcases List.mem_cons.mp hp with rfl | hp; k_mem; rcases List.mem_cons.mp hp with rfl | hp; k_mem; repeat (first | exact hp | refine List.mem_cons_of_mem _ ?_))
      case done =>
        intro o' g' u' h' tk' hG hJ F N
        obtain rfl := hG
        rw [show items.size = ds.length from hds.1, List.take_length] at hJ
        exact ⟨rfl, o', h', tk', u', rfl, F, N, hJ⟩
    · rintro s' ⟨o2, h2, tk2, u2, rfl, F3, N3, ht2⟩
      clear F2 N2 ht
      have hkeys := laid_keys n ds fun d hd => (hok d hd).1
      have hne1 : ∀ p ∈ news, p.1 ≠ L1 + 1 + 1 := fun p hp => Nat.ne_of_lt (Nat.lt_trans (l1 p hp) (Nat.lt_succ_of_lt (Nat.lt_succ_self _)))
      have hbd := laid_bound n ds hok
      rw [hds5] at hbd
      generalize hc : laidC n ds = c at ht2 hkeys hbd
      have hck : (c.map (·.1)).Nodup := by rw [hkeys]; exact upTo_nodup n
      have hcl : c.length ≤ 100 := by
        have := congrArg List.length hkeys
        rw [List.length_map, upTo_len] at this
        lia
      refine execs_consP (fun s' => ∃ (D : Addr) (ys : List Value) (tups : List (Addr × Obj)) (h : Heap) (tk : Nat), s' = { sx with heap := h, toks := tk } ∧ Fr g L1 h (fun z => if z = Str.ofString "whole" then some (.ref D) else if z = Str.ofString "n" then some (.int n tn) else u2 z) ∧ News g L1 h ((d, o2) :: (L1 + 1 + 1, oz) :: (L1 + 1, of) :: (D, LCg.lst ys) :: (news ++ tups)) ∧ PairsAt ys tups (c.map fun p => (p.1, p.2.fdiv 500)) ∧ D ≠ L1 + 1 + 1 ∧ (∀ p ∈ tups, p.1 ≠ L1 + 1 + 1)) ?_ ?_
      · refine' Assign_ListComp_K F3 rfl ?k1 ?k2 ?k3 ?k4 ?k5 ?k6 ?k7 ?k8 ?_ ?hs
        case k1 => with_unfolding_all rfl
        case k2 => with_unfolding_all rfl
        case k3 => decide
        case k4 => with_unfolding_all rfl
        case k5 => decide
        case k6 => with_unfolding_all rfl
        case k7 => with_unfolding_all rfl
        case k8 => with_unfolding_all rfl
        case hs => intro _; with_unfolding_all rfl
        k_steps
        refine ⟨d, o2, _, _, rfl, rfl, hsm, ?_, ht2, hcl, by k_asm, by k_asm, ?_⟩
        · exact .head _
        rintro s2 ⟨h9, rfl⟩
        (try dsimp only)
        refine pairs_rest (ks := c.map (·.1)) (fun k => (kdfLook c k 0).fdiv 500) (by simp) (fun i v _ h => h) ?turn (fun nw h => h _ (.head _)) ?fin
        case turn =>
          intro k t I oI C oC D m₂ ys tups h tk E' hk hC hx F N off ne
          have ht3 := ht2
          obtain ⟨kvs2, hta, htb⟩ := ht3
          simp only [List.cons_append] at N
          (try k_fold)
          k_with "own_sub" => (refine kdf_item (TabAt.ofNews (by k_asm) (by k_mem) hsm hta htb) (has_iff.mpr hk) ?_; intro _)
          k_steps
          with_unfolding_all exact pairTurn_of (by k_asm) (by assumption) (by assumption)
        case fin =>
          intro ys tups hp ha D h tk F N o1
          have e : (c.map (·.1)).map (fun k => (k, (kdfLook c k 0).fdiv 500)) = c.map fun p => (p.1, p.2.fdiv 500) := by
            rw [List.map_map]
            exact List.map_congr_left fun p hp => by show (p.1, (kdfLook c p.1 0).fdiv 500) = _; rw [look_mem hck p hp]
          rw [e] at hp
          refine ⟨rfl, D, ys, tups, h, tk, rfl, F, cb_drop N fun p hp => ?_, hp, ?_, fun p hp => Ne.symm (ha p hp (L1 + 1 + 1, oz) (.tail _ (.head _)))⟩
          · simp only [List.mem_cons, List.mem_append] at hp ⊢
            rcases hp with h | h | h | h | h | h
            · exact .inr (.inl (.inl h))
            · exact .inr (.inl (.inr (.inl h)))
            · exact .inr (.inl (.inr (.inr (.inl h))))
            · exact .inl h
            · exact .inr (.inl (.inr (.inr (.inr h))))
            · exact .inr (.inr h)
          · exact Ne.symm o1.2.1
      · rintro s' ⟨D, ys, tups, h4, tk4, rfl, F4, N4, hpairs, hDz, htz⟩
        have hlb : ∀ p ∈ c.map fun p => (p.1, p.2.fdiv 500), 1 ≤ p.1 ∧ p.1 ≤ 5 ∧ 1 ≤ p.2 ∧ p.2 ≤ 16 := fun p hp => by
          obtain ⟨q, hq, rfl⟩ := List.mem_map.mp hp
          have h1' := hbd q hq
          have h2' := mem_upTo.mp (hkeys ▸ List.mem_map.mpr ⟨q, hq, rfl⟩ : q.1 ∈ upTo n)
          dsimp only
          rw [Int.fdiv_eq_ediv_of_nonneg _ (by lia)]
          lia
        k_with "own_sum" => (k_here; k_dflt (refine LSm.sum_ints (by k_asm) (by k_asm) rfl (News.isList (by k_asm) (by k_mem)) (by assumption) ?_); intro h' tk' t' F' N')
        have hysz : ys.toArray.size ≤ sizeLine := by
          rw [List.size_toArray, hpairs.1, List.length_map, sizeLine_eq]
          lia
        k_with "own_lc" => (k_here; k_dflt (refine' LCp.ListComp_P (F₀ := by k_asm) ?lc1 ?lc2 ?lc3 ?lc4 ?lc5 ?lc6 ?lc7 ?_ ?lchs; (case lc1 => with_unfolding_all rfl); (case lc2 => decide); (case lc3 => with_unfolding_all rfl); (case lc4 => decide); (case lc5 => with_unfolding_all rfl); (case lc6 => with_unfolding_all rfl); (case lc7 => decide); (case lchs => intro _; with_unfolding_all rfl)))
        k_with "own_lp" => (k_here; k_dflt (refine LCp.SrcLP.ledger (by rfl) (by k_asm) (by k_asm) (by k_mem) hysz ?_); intro g'; (refine' ints_restP _ hpairs inTups ?_ (Or.inr ⟨_, by k_mem, rfl, _, rfl⟩) ?_); rotate_left; (intro k9 q9 t9 u9 I9 oI9 C9 oC9 D9 m9 ys9 h9 tk9 E9 hk9 hC9 hx9 hy9 F9 N9); (have hb9 := hlb _ hk9); (dsimp only at hb9); rotate_left; (intro ys9 hys9); rotate_right)
        refine execs_consP' (fun s' => ∃ t4, StP g L1 sx (fun z => if z = Str.ofString "single" then some (.int (dS1 c) t4) else if z = Str.ofString "whole" then some (.ref D) else if z = Str.ofString "n" then some (.int n tn) else u2 z) ((d, o2) :: (L1 + 1 + 1, oz) :: (L1 + 1, of) :: (D, LCg.lst ys) :: (news ++ tups)) s') ?_ ?_
        · k_steps
          exact ⟨rfl, _, _, _, rfl, by k_asm, cb_drop (by k_asm) (fun p hp => .tail _ hp)⟩
        · rintro s' ⟨t4, h4, tk4, rfl, F4, N4⟩
          refine execs_consP' (fun s' => ∃ t5, StP g L1 sx (fun z => if z = Str.ofString "squared" then some (.int (dS2 c) t5) else if z = Str.ofString "single" then some (.int (dS1 c) t4) else if z = Str.ofString "whole" then some (.ref D) else if z = Str.ofString "n" then some (.int n tn) else u2 z) ((d, o2) :: (L1 + 1 + 1, oz) :: (L1 + 1, of) :: (D, LCg.lst ys) :: (news ++ tups)) s') ?_ ?_
          · k_steps
            exact ⟨rfl, _, _, _, rfl, by k_asm, cb_drop (by k_asm) (fun p hp => .tail _ hp)⟩
          rintro s' ⟨t5, h5, tk5, rfl, F5, N5⟩
          refine execs_consP' (fun s' => ∃ t6, StP g L1 sx (fun z => if z = Str.ofString "places" then some (.int (dPl n) t6) else if z = Str.ofString "squared" then some (.int (dS2 c) t5) else if z = Str.ofString "single" then some (.int (dS1 c) t4) else if z = Str.ofString "whole" then some (.ref D) else if z = Str.ofString "n" then some (.int n tn) else u2 z) ((d, o2) :: (L1 + 1 + 1, oz) :: (L1 + 1, of) :: (D, LCg.lst ys) :: (news ++ tups)) s') ?_ ?_
          · k_steps
            exact ⟨rfl, _, _, _, rfl, by k_asm, by k_asm⟩
          rintro s' ⟨t6, h6, tk6, rfl, F6, N6⟩
          refine execs_consP' (fun s' => ∃ o7 t7, o7.data = .cell (some (.int (dZ n c) t7)) ∧ StP g L1 sx (fun z => if z = Str.ofString "places" then some (.int (dPl n) t6) else if z = Str.ofString "squared" then some (.int (dS2 c) t5) else if z = Str.ofString "single" then some (.int (dS1 c) t4) else if z = Str.ofString "whole" then some (.ref D) else if z = Str.ofString "n" then some (.int n tn) else u2 z) ((d, o2) :: (L1 + 1 + 1, o7) :: (L1 + 1, of) :: (D, LCg.lst ys) :: (news ++ tups)) s') ?_ ?_
          · k_steps
            k_dflt (refine' storeX_C (by k_asm) N6 ?czc ?czU hoz ?_ ?cza ?czb)
            case cza => with_unfolding_all rfl
            case czb => with_unfolding_all rfl
            case czc => with_unfolding_all rfl
            case czU => exact UpdF.tail (Ne.symm (Nat.ne_of_lt hdz)) (UpdF.head (offZ hne1 hDz htz))
            intro h7 o7 F7 N7 d7
            exact ⟨rfl, o7, _, d7, _, _, rfl, F7, N7⟩
          rintro s' ⟨o7, t7, ho7, h7, tk7, rfl, F7, N7⟩
          refine execs_consP' (fun s' => ∃ t8, StP g L1 sx (fun z => if z = Str.ofString "far" then some (.int (dFar n c) t8) else if z = Str.ofString "places" then some (.int (dPl n) t6) else if z = Str.ofString "squared" then some (.int (dS2 c) t5) else if z = Str.ofString "single" then some (.int (dS1 c) t4) else if z = Str.ofString "whole" then some (.ref D) else if z = Str.ofString "n" then some (.int n tn) else u2 z) ((d, o2) :: (L1 + 1 + 1, o7) :: (L1 + 1, of) :: (D, LCg.lst ys) :: (news ++ tups)) s') ?_ ?_
          · k_steps
            exact ⟨rfl, _, _, _, rfl, by k_asm, by k_asm⟩
          rintro s' ⟨t8, h8, tk8, rfl, F8, N8⟩
          refine execs_consP' (fun s' => ∃ t9, StP g L1 sx (fun z => if z = Str.ofString "near" then some (.int (dNear n c) t9) else if z = Str.ofString "far" then some (.int (dFar n c) t8) else if z = Str.ofString "places" then some (.int (dPl n) t6) else if z = Str.ofString "squared" then some (.int (dS2 c) t5) else if z = Str.ofString "single" then some (.int (dS1 c) t4) else if z = Str.ofString "whole" then some (.ref D) else if z = Str.ofString "n" then some (.int n tn) else u2 z) ((d, o2) :: (L1 + 1 + 1, o7) :: (L1 + 1, of) :: (D, LCg.lst ys) :: (news ++ tups)) s') ?_ ?_
          · k_steps
            · rw [near_pos (by first | assumption | lia)]
              exact ⟨rfl, _, _, _, rfl, by k_asm, cb_drop (by k_asm) (fun p hp => .tail _ hp)⟩
            · rw [near_neg (by first | assumption | lia)]
              exact ⟨rfl, _, _, _, rfl, by k_asm, cb_drop (by k_asm) (fun p hp => .tail _ hp)⟩
          rintro s' ⟨t9, h9, tk9, rfl, F9, N9⟩
          refine execs_consP' (fun s' => ∃ t10, StP g L1 sx (fun z => if z = Str.ofString "ends" then some (.int (dEnds n c) t10) else if z = Str.ofString "near" then some (.int (dNear n c) t9) else if z = Str.ofString "far" then some (.int (dFar n c) t8) else if z = Str.ofString "places" then some (.int (dPl n) t6) else if z = Str.ofString "squared" then some (.int (dS2 c) t5) else if z = Str.ofString "single" then some (.int (dS1 c) t4) else if z = Str.ofString "whole" then some (.ref D) else if z = Str.ofString "n" then some (.int n tn) else u2 z) ((d, o2) :: (L1 + 1 + 1, o7) :: (L1 + 1, of) :: (D, LCg.lst ys) :: (news ++ tups)) s') ?_ ?_
          · k_with "own_lc" => (k_here; k_dflt (refine' ListComp_KT (by k_asm) ?ld1 ?ld2 ?ld3 ?ld4 ?ld5 ?_ ?ldhs; (case ld1 => with_unfolding_all rfl); (case ld2 => decide); (case ld3 => with_unfolding_all rfl); (case ld4 => decide); (case ld5 => with_unfolding_all rfl); (case ldhs => intro _; with_unfolding_all rfl)))
            have hpw : Builtin.Int.intBits ((n + 1) ^ Int.toNat 2) ≤ 64 := by rcases h1 with rfl | rfl | rfl <;> decide
            k_steps
            refine ⟨d, o2, c, _, rfl, rfl, hsm, .head _, ht2, hcl, by k_asm, by k_asm, ?_⟩
            rintro s2 ⟨hq, rfl⟩
            (try dsimp only)
            refine ints_restT (fun k => k != dZ n c) (fun k => k * k) (by simp) (fun i v _ h => h) ?_ ?_ (.head _) ?_
            · intro k t I oI C oC D' m₂ ys' h tk E' hk hC hx F N
              (try k_fold)
              k_steps
              exact ⟨rfl, _, _, rfl, by k_asm, by k_asm⟩
            · intro k t I oI C oC D' m₂ ys' h tk E' hk hC hx F N
              have hkb := mem_upTo.mp (hkeys ▸ hk)
              (try k_fold)
              k_steps
            · intro ys' hys'
              k_steps
              with_unfolding_all exact ⟨rfl, _, _, _, rfl, by k_asm, cb_drop (by k_asm) (fun p hp => .tail _ hp)⟩
          rintro s' ⟨t10, h10, tk10, rfl, F10, N10⟩
          refine execs_consP' (fun s' => ∃ dT oT, Tab w oT (dTable n c) ∧ (dT == sysModules) = false ∧ StP g L1 sx (fun z => if z = Str.ofString "table" then some (.ref dT) else if z = Str.ofString "ends" then some (.int (dEnds n c) t10) else if z = Str.ofString "near" then some (.int (dNear n c) t9) else if z = Str.ofString "far" then some (.int (dFar n c) t8) else if z = Str.ofString "places" then some (.int (dPl n) t6) else if z = Str.ofString "squared" then some (.int (dS2 c) t5) else if z = Str.ofString "single" then some (.int (dS1 c) t4) else if z = Str.ofString "whole" then some (.ref D) else if z = Str.ofString "n" then some (.int n tn) else u2 z) ((dT, oT) :: (d, o2) :: (L1 + 1 + 1, o7) :: (L1 + 1, of) :: (D, LCg.lst ys) :: (news ++ tups)) s') ?_ ?_
          · with_unfolding_all refine' dictcomp T.nolimit F10 N10 ?xsw ?xhh ?xclos ?xcell ?xkind ?xnames ?xx ?xxd ?_ ?xs
            case xsw => with_unfolding_all rfl
            case xhh => with_unfolding_all rfl
            case xclos => with_unfolding_all rfl
            case xcell => decide
            case xkind => with_unfolding_all rfl
            case xnames => decide
            case xx => with_unfolding_all rfl
            case xxd => decide
            case xs => intro _; with_unfolding_all rfl
            k_steps
            refine dsrc_keys (c := c) (fun k => (kdfLook c k 0).fmod 500 + (if k = dZ n c then 0 else 500)) rfl hsm (.head _) ht2 hcl (by k_asm) (by k_asm) ?val2 ?cont2
            case val2 =>
              intro C k t s₃ m₃ E' hk hns hm hkeep
              have F3 := F10.keeps hkeep
              have N3 := N10.grown hkeep
              obtain ⟨h3, g3, d3, tk3, os3⟩ := s₃
              show wpAny _ _ _ (ValTurn ((kdfLook c k 0).fmod 500 + (if k = dZ n c then 0 else 500)) _) _ _
              have ht3 := ht2
              obtain ⟨kvs2, hta, htb⟩ := ht3
              k_with "own_name" => (k_here; (with_reducible show wpAny _ _ (eval (Expr.Name _ _) (compEnvC _ _ _ _)) _ _ _); k_dflt (refine ldVarK hns hm ?_ (by rfl) (by rfl) (by decide)))
              k_with "own_sub" => (refine kdf_item (TabAt.ofNews (by k_asm) (by k_mem) hsm hta htb) (has_iff.mpr hk) ?_; intro _)
              k_steps
              · exact valTurn_pos (by first | assumption | lia)
              · exact valTurn_neg (by first | assumption | lia)
            case cont2 =>
              intro dT oT C oC h tk htT F N hCo lT hsT
              k_steps
              exact ⟨_, _, _, _, rfl, by k_asm, by k_asm, hCo, fun h' F' N' => ⟨rfl, dT, oT, htT, hsT, _, _, rfl, F', N'⟩⟩
          rintro s' ⟨dT, oT, htT, hsT, h11, tk11, rfl, F11, N11⟩
          k_with "eval Dict" => (k_dflt (refine' kdn_eval (knd := PySem.intKind _ _) ?eF ?eN ?eb ?ea ?el ?ee ?en ?_; (case eF => k_asm); (case eN => k_asm); (case eb => exact Top.nolimit (by k_asm)); (case ea => rfl); (case el => rfl); (case ee => exact List.cons_ne_nil _ _); (case en => exact Nat.le_of_ble_eq_true rfl)); intro dD' h' o' F' N' lD loD hdD)
          k_with "KdnMade" => (k_dflt (refine' kdn_made_intF ?mF ?mN (UpdF.head (fun p hp => Nat.ne_of_lt (lD p hp))) ?md ?mk ?mn ?mv ?_; (case mF => k_asm); (case mN => k_asm); (case md => k_asm); (case mk => rfl); (case mn => (show ([0, n + 1] : List Int).Nodup; simp; lia)); (case mv => rfl)); intro h' oD F' N' hdD' hfD)
          k_steps
          subst hc
          k_dflt (refine leaveK_ (by k_asm) (by k_asm) ?_)
          intro kF kN
          exact due_ret hret kF kN (fun p hp => .tail _ (.tail _ (.tail _ (.tail _ (List.mem_append_left _ hp))))) ⟨_, _, dT, oT, _, _, _, rfl, rfl, htT, ⟨_, hdD', hfD⟩, hsT, loD, rfl⟩
end Mine
end

section
theorem Mine.fresh32 : True := by k_with_none; w_top off; trivial
open PySem PySem.W PyProof.Rows PyProof.V
set_option maxRecDepth 100000
set_option maxHeartbeats 400000
set_option linter.unusedVariables false
namespace Mine
/-- the whole 500s of the cells, weighed -/
def W5 (f : Int → Int) (l : List (Int × Int)) : Int := (l.map fun p => f p.1 * (p.2 / 500)).sum
theorem put_off {k v : Int} : ∀ (c : List (Int × Int)), k ∉ c.map (·.1) → c.map (fun p => if decide (p.1 = k) then (p.1, v) else p) = c
  | [], _ => rfl
  | p :: c, h => by
    rw [List.map_cons, List.mem_cons, not_or] at h
    rw [List.map_cons, put_off c h.2, if_neg (by simpa using Ne.symm h.1)]
theorem look_cons (p : Int × Int) (c : List (Int × Int)) (k : Int) : kdfLook (p :: c) k 0 = if p.1 = k then p.2 else kdfLook c k 0 := by
  unfold kdfLook
  rw [List.find?_cons]
  by_cases e : p.1 = k
  · rw [if_pos e, decide_eq_true e]; rfl
  · rw [if_neg e, decide_eq_false e]
theorem put_map {c : List (Int × Int)} {k v : Int} (h : kdfHas c k = true) : kdfPut c k v = c.map (fun p => if decide (p.1 = k) then (p.1, v) else p) := by
  unfold kdfPut
  rw [if_pos (show (c.any fun p => decide (p.1 = k)) = true from h)]
theorem put_gen (h : Int → Int → Int) {k v : Int} : ∀ (c : List (Int × Int)), (c.map (·.1)).Nodup → k ∈ c.map (·.1) → ((c.map (fun p => if decide (p.1 = k) then (p.1, v) else p)).map fun p => h p.1 p.2).sum + h k (kdfLook c k 0) = (c.map fun p => h p.1 p.2).sum + h k v
  | [], _, hm => nomatch hm
  | p :: c, hn, hm => by
    rw [List.map_cons, List.nodup_cons] at hn
    rw [List.map_cons, List.map_cons, List.sum_cons, List.map_cons, List.sum_cons, look_cons]
    by_cases e : p.1 = k
    · rw [put_off c (e ▸ hn.1), if_pos (by simpa using e), if_pos e]
      show h p.1 v + _ + h k p.2 = h p.1 p.2 + _ + h k v
      rw [e]
      lia
    · have hm' : k ∈ c.map (·.1) := by
        rw [List.map_cons] at hm
        rcases List.mem_cons.mp hm with q | q
        · exact absurd q.symm e
        · exact q
      have ih := put_gen h (k := k) (v := v) c hn.2 hm'
      rw [if_neg (by simpa using e), if_neg e]
      lia
theorem look_put {k v j : Int} : ∀ {c : List (Int × Int)}, k ∈ c.map (·.1) → kdfLook (c.map (fun p => if decide (p.1 = k) then (p.1, v) else p)) j 0 = if j = k then v else kdfLook c j 0
  | [], hm => nomatch hm
  | p :: c, hm => by
    rw [List.map_cons]
    by_cases e : p.1 = k
    · rw [show (if decide (p.1 = k) then (p.1, v) else p) = (p.1, v) from if_pos (by simpa using e), look_cons, look_cons]
      dsimp only
      by_cases q : j = k
      · rw [if_pos q, if_pos (show p.1 = j by rw [e, q])]
      · have q' : ¬ p.1 = j := by rw [e]; exact Ne.symm q
        rw [if_neg q, if_neg q', if_neg q']
        by_cases hm' : k ∈ c.map (·.1)
        · rw [look_put hm', if_neg q]
        · rw [put_off c hm']
    · have hm' : k ∈ c.map (·.1) := by
        rw [List.map_cons] at hm
        rcases List.mem_cons.mp hm with q | q
        · exact absurd q.symm e
        · exact q
      rw [show (if decide (p.1 = k) then (p.1, v) else p) = p from if_neg (by simpa using e), look_cons, look_cons, look_put hm']
      by_cases q : p.1 = j
      · have q' : ¬ j = k := by rw [← q]; exact e
        rw [if_pos q, if_neg q', if_pos q]
      · rw [if_neg q, if_neg q]
theorem W_add (f g : Int → Int) (l : List (Int × Int)) : W5 (fun k => f k + g k) l = W5 f l + W5 g l := by
  unfold W5
  induction l with
  | nil => rfl
  | cons p l ih =>
    simp only [List.map_cons, List.sum_cons]
    rw [Int.add_mul, ih]
    lia
theorem W_smul (m : Int) (f : Int → Int) (l : List (Int × Int)) : W5 (fun k => m * f k) l = m * W5 f l := by
  unfold W5
  induction l with
  | nil => simp
  | cons p l ih => rw [List.map_cons, List.sum_cons, List.map_cons, List.sum_cons, ih, Int.mul_add, Int.mul_assoc]
theorem W_congr {f g : Int → Int} {l : List (Int × Int)} (h : ∀ p ∈ l, f p.1 = g p.1) : W5 f l = W5 g l := by
  unfold W5
  congr 1
  exact List.map_congr_left fun p hp => by rw [h p hp]
theorem W_mono {f g : Int → Int} {l : List (Int × Int)} (h : ∀ p ∈ l, f p.1 ≤ g p.1) (hq : ∀ p ∈ l, 0 ≤ p.2 / 500) : W5 f l ≤ W5 g l := by
  unfold W5
  induction l with
  | nil => exact Int.le_refl _
  | cons p l ih =>
    have h1 := ih (fun q hq' => h q (.tail _ hq')) (fun q hq' => hq q (.tail _ hq'))
    have h2 : f p.1 * (p.2 / 500) ≤ g p.1 * (p.2 / 500) := Int.mul_le_mul_of_nonneg_right (h p (.head _)) (hq p (.head _))
    simp only [List.map_cons, List.sum_cons]
    lia
theorem W_zero {f : Int → Int} {l : List (Int × Int)} (h : ∀ p ∈ l, f p.1 = 0) : W5 f l = 0 := by
  rw [W_congr (g := fun _ => 0) h]
  unfold W5
  induction l with
  | nil => rfl
  | cons p l ih => simp only [List.map_cons, List.sum_cons, Int.zero_mul, Int.zero_add]; simpa using ih fun q hq => h q (.tail _ hq)
/-- 1 from i to j -/
def ind (i j k : Int) : Int := if i ≤ k ∧ k ≤ j then 1 else 0
theorem W_one {k : Int} : ∀ {l : List (Int × Int)}, (l.map (·.1)).Nodup → k ∈ l.map (·.1) → W5 (ind k k) l = kdfLook l k 0 / 500
  | [], _, h => nomatch h
  | p :: l, hn, h => by
    rw [List.map_cons, List.nodup_cons] at hn
    have e1 : W5 (ind k k) (p :: l) = ind k k p.1 * (p.2 / 500) + W5 (ind k k) l := by unfold W5; rw [List.map_cons, List.sum_cons]
    rw [e1, look_cons]
    by_cases e : p.1 = k
    · rw [if_pos e, W_zero fun q hq => ?_]
      · have : ind k k p.1 = 1 := by unfold ind; rw [if_pos (by lia)]
        rw [this]; lia
      · unfold ind
        rw [if_neg]
        intro hh
        exact hn.1 (List.mem_map.mpr ⟨q, hq, by lia⟩)
    · have hm' : k ∈ l.map (·.1) := by
        rw [List.map_cons] at h
        rcases List.mem_cons.mp h with q | q
        · exact absurd q.symm e
        · exact q
      have : ind k k p.1 = 0 := by unfold ind; rw [if_neg (by lia)]
      rw [if_neg e, this, W_one hn.2 hm']; lia
def S5 (f : Int → Int) (s : List (Int × Int) × List (Int × Int)) : Int := W5 f s.1 + W5 f s.2
theorem keys_nd {n : Int} {s : List (Int × Int) × List (Int × Int)} (h : Keys n s) (h1 : 1 ≤ n) : (s.1.map (·.1)).Nodup ∧ (s.2.map (·.1)).Nodup :=
  ⟨by rw [h.1]; exact upTo_nodup n, by rw [h.2]; simp; lia⟩
theorem put_W {f : Int → Int} {c : List (Int × Int)} {k v : Int} (hn : (c.map (·.1)).Nodup) (hm : k ∈ c.map (·.1)) : W5 f (kdfPut c k v) + f k * (kdfLook c k 0 / 500) = W5 f c + f k * (v / 500) := by
  rw [put_map (has_iff.mpr hm)]
  exact put_gen (fun a b => f a * (b / 500)) c hn hm
theorem put_up {X Y f v : Int} (h : X + f * (v / 500) = Y + f * ((v + 500) / 500)) : X = Y + f := by
  rw [show (v + 500) / 500 = v / 500 + 1 by clear h; lia, Int.mul_add, Int.mul_one] at h
  lia
theorem put_down {X Y f v : Int} (h : X + f * (v / 500) = Y + f * ((v - 1000) / 500)) : X = Y - 2 * f := by
  rw [show (v - 1000) / 500 = v / 500 - 2 by clear h; lia, Int.mul_sub, Int.mul_comm f 2] at h
  lia
theorem near_S {f : Int → Int} {n k : Int} {s : List (Int × Int) × List (Int × Int)} (h : Keys n s) (hn : 1 ≤ n) (h1 : 0 ≤ k) (h2 : k ≤ n + 1) : S5 f (near1 s k) = S5 f s + f k := by
  have nd := keys_nd h hn
  unfold near1
  split
  · rename_i hk
    show W5 f s.1 + W5 f (kdfPut s.2 k _) = W5 f s.1 + W5 f s.2 + f k
    rw [put_up (put_W (f := f) nd.2 (has_iff.mp hk)), Int.add_assoc]
  · rename_i hk
    have hk : kdfHas s.1 k = true := not_ditch h (by simpa using hk) h1 h2
    show W5 f (kdfPut s.1 k _) + W5 f s.2 = W5 f s.1 + W5 f s.2 + f k
    rw [put_up (put_W (f := f) nd.1 (has_iff.mp hk)), Int.add_right_comm]
theorem fire_keys {n r : Int} {c e : List (Int × Int)} (h : Keys n (c, e)) (h1 : 1 ≤ r) (h2 : r ≤ n) : Keys n (kdfPut c r (kdfLook c r 0 - 1000), e) ∧ Keys n (near1 (kdfPut c r (kdfLook c r 0 - 1000), e) (r - 1)) ∧ Keys n (fire (c, e) r) := by
  have k1 : Keys n (kdfPut c r (kdfLook c r 0 - 1000), e) := ⟨by rw [put_keys (has_of_keys h.1 h1 h2)]; exact h.1, h.2⟩
  have k2 := near1_keys k1 (k := r - 1) (by lia) (by lia)
  exact ⟨k1, k2, near1_keys k2 (k := r + 1) (by lia) (by lia)⟩
theorem fire_S {f : Int → Int} {n r : Int} {c e : List (Int × Int)} (h : Keys n (c, e)) (h1 : 1 ≤ r) (h2 : r ≤ n) : S5 f (fire (c, e) r) = S5 f (c, e) - 2 * f r + f (r - 1) + f (r + 1) := by
  obtain ⟨k1, k2, _⟩ := fire_keys h h1 h2
  have nd := keys_nd h (by lia)
  unfold fire
  rw [near_S k2 (by lia) (by lia) (by lia), near_S k1 (by lia) (by lia) (by lia)]
  show W5 f (kdfPut c r _) + W5 f e + f (r - 1) + f (r + 1) = W5 f c + W5 f e - 2 * f r + f (r - 1) + f (r + 1)
  rw [put_down (put_W (f := f) nd.1 (has_iff.mp (has_of_keys h.1 h1 h2)))]
  show W5 f c - 2 * f r + W5 f e + f (r - 1) + f (r + 1) = _
  rw [show W5 f c - 2 * f r + W5 f e = W5 f c + W5 f e - 2 * f r by rw [Int.sub_eq_add_neg, Int.sub_eq_add_neg, Int.add_right_comm]]
theorem near_look {n k j : Int} {s : List (Int × Int) × List (Int × Int)} (h : Keys n s) (h1 : 0 ≤ k) (h2 : k ≤ n + 1) :
    (kdfLook (near1 s k).1 j 0 = kdfLook s.1 j 0 ∨ kdfLook (near1 s k).1 j 0 = kdfLook s.1 j 0 + 500) ∧ (kdfLook (near1 s k).2 j 0 = kdfLook s.2 j 0 ∨ kdfLook (near1 s k).2 j 0 = kdfLook s.2 j 0 + 500) := by
  unfold near1
  split
  · rename_i hk
    refine ⟨.inl rfl, ?_⟩
    dsimp only
    rw [put_map hk, look_put (has_iff.mp hk)]
    split
    · rename_i e; rw [e]; exact .inr rfl
    · exact .inl rfl
  · rename_i hk
    have hk : kdfHas s.1 k = true := not_ditch h (by simpa using hk) h1 h2
    refine ⟨?_, .inl rfl⟩
    dsimp only
    rw [put_map hk, look_put (has_iff.mp hk)]
    split
    · rename_i e; rw [e]; exact .inr rfl
    · exact .inl rfl
theorem up_mod {a b : Int} (h : a = b ∨ a = b + 500) : a % 500 = b % 500 := by rcases h with rfl | rfl; rfl; exact Int.add_emod_right ..
theorem up_le {a b : Int} (h : a = b ∨ a = b + 500) : b ≤ a := by rcases h with rfl | rfl; exact Int.le_refl _; exact Int.le_add_of_nonneg_right (by decide)
theorem down_mod {a b : Int} (h : a = b ∨ a = b - 1000) : a % 500 = b % 500 := by rcases h with rfl | rfl; rfl; exact Int.sub_mul_emod_self_left _ 500 2
theorem fire_look {n r : Int} {c e : List (Int × Int)} (h : Keys n (c, e)) (h1 : 1 ≤ r) (h2 : r ≤ n) (j : Int) :
    kdfLook (fire (c, e) r).1 j 0 % 500 = kdfLook c j 0 % 500 ∧ kdfLook (fire (c, e) r).2 j 0 % 500 = kdfLook e j 0 % 500 ∧ kdfLook e j 0 ≤ kdfLook (fire (c, e) r).2 j 0 := by
  obtain ⟨k1, k2, _⟩ := fire_keys h h1 h2
  have l1 := near_look k1 (k := r - 1) (j := j) (by lia) (by lia)
  have l2 := near_look k2 (k := r + 1) (j := j) (by lia) (by lia)
  have hh := has_of_keys h.1 h1 h2
  have l0 : kdfLook (kdfPut c r (kdfLook c r 0 - 1000)) j 0 = kdfLook c j 0 ∨ kdfLook (kdfPut c r (kdfLook c r 0 - 1000)) j 0 = kdfLook c j 0 - 1000 := by
    dsimp only at hh
    rw [put_map hh, look_put (has_iff.mp hh)]
    split
    · rename_i q; rw [q]; exact .inr rfl
    · exact .inl rfl
  exact ⟨((up_mod l2.1).trans (up_mod l1.1)).trans (down_mod l0), (up_mod l2.2).trans (up_mod l1.2), Int.le_trans (up_le l1.2) (up_le l2.2)⟩
theorem W_split {i m j : Int} (h1 : i ≤ m) (h2 : m < j) (l : List (Int × Int)) : W5 (ind i j) l = W5 (ind i m) l + W5 (ind (m + 1) j) l := by
  rw [← W_add]
  refine W_congr fun p _ => ?_
  unfold ind
  split <;> split <;> split <;> lia
theorem W_e {n i j : Int} {e : List (Int × Int)} (h : e.map (·.1) = [0, n + 1]) (h1 : 1 ≤ i) (h2 : j ≤ n) : W5 (ind i j) e = 0 := by
  refine W_zero fun p hp => ?_
  have : p.1 ∈ [0, n + 1] := h ▸ List.mem_map.mpr ⟨p, hp, rfl⟩
  simp at this
  unfold ind
  rw [if_neg (by lia)]
def InvS (n : Int) (c0 : List (Int × Int)) (t : Nat) (c e : List (Int × Int)) : Prop :=
  Keys n (c, e) ∧ (∀ j, kdfLook c j 0 % 500 = kdfLook c0 j 0 % 500) ∧ (∀ j, kdfLook e j 0 % 500 = 0 ∧ 0 ≤ kdfLook e j 0) ∧ S5 (fun _ => 1) (c, e) = W5 (fun _ => 1) c0 ∧ S5 (fun k => k) (c, e) = W5 (fun k => k) c0 ∧
    S5 (fun k => k * k) (c, e) = W5 (fun k => k * k) c0 + 2 * (t : Int) ∧ ∀ i j, 1 ≤ i → i ≤ j → j ≤ n → j - i ≤ W5 (ind i j) c
theorem ind_off {i j k : Int} (h : ¬ (i ≤ k ∧ k ≤ j)) : ind i j k = 0 := if_neg h
theorem ind_on {i j k : Int} (h : i ≤ k) (h' : k ≤ j) : ind i j k = 1 := if_pos ⟨h, h'⟩
theorem ind_pos (i j k : Int) : 0 ≤ ind i j k := by unfold ind; split <;> decide
theorem st1 {N O a b x : Int} (f : N = O - 2 * 0 + a + b) (ha : 0 ≤ a) (hb : 0 ≤ b) (old : x ≤ O) : x ≤ N := by lia
theorem st2 {N O x : Int} (f : N = O - 2 * 1 + 1 + 1) (old : x ≤ O) : x ≤ N := by lia
theorem st3 {N O q R j r : Int} (f : N = O - 2 * 1 + 0 + 1) (sp : O = q + R) (q2 : 2 ≤ q) (h : j - (r + 1) ≤ R) : j - r ≤ N := by lia
theorem st4 {N O q R i r : Int} (f : N = O - 2 * 1 + 1 + 0) (sp : O = R + q) (q2 : 2 ≤ q) (h : r - 1 - i ≤ R) : r - i ≤ N := by lia
theorem st5 {N O r : Int} (f : N = O - 2 * 1 + 0 + 0) (q2 : 2 ≤ O) : r - r ≤ N := by lia
theorem five_ways (i j r : Int) (h : i ≤ j) : (¬ (i ≤ r ∧ r ≤ j)) ∨ (i < r ∧ r < j) ∨ (r = i ∧ r < j) ∨ (i < r ∧ r = j) ∨ (r = i ∧ r = j) := by lia
theorem invS_step {n r : Int} {c0 c e : List (Int × Int)} {t : Nat} (h : InvS n c0 t c e) (h1 : 1 ≤ r) (h2 : r ≤ n) (h3 : 1000 ≤ kdfLook c r 0) : InvS n c0 (t + 1) (fire (c, e) r).1 (fire (c, e) r).2 := by
  obtain ⟨hk, hm, he, s1, s2, s3, hi⟩ := h
  have hf := (fire_keys hk h1 h2).2.2
  refine ⟨hf, fun j => ((fire_look hk h1 h2 j).1).trans (hm j), fun j => ?_, ?_, ?_, ?_, fun i j i1 ij jn => ?_⟩
  · have := fire_look hk h1 h2 j
    have := he j
    lia
  · have := fire_S (f := fun _ => 1) hk h1 h2
    show S5 _ (fire (c, e) r) = _
    lia
  · have := fire_S (f := fun k => k) hk h1 h2
    show S5 _ (fire (c, e) r) = _
    lia
  · have := fire_S (f := fun k => k * k) hk h1 h2
    have e1 : (r - 1) * (r - 1) = r * r - 2 * r + 1 := by rw [Int.sub_mul, Int.mul_sub]; lia
    have e2 : (r + 1) * (r + 1) = r * r + 2 * r + 1 := by rw [Int.add_mul, Int.mul_add]; lia
    rw [e1, e2] at this
    show S5 _ (fire (c, e) r) = _
    push_cast
    lia
  · have fs := fire_S (f := ind i j) hk h1 h2
    unfold S5 at fs
    rw [W_e hf.2 i1 jn, W_e hk.2 i1 jn] at fs
    dsimp only at fs
    have old := hi i j i1 ij jn
    have hmem : r ∈ c.map (·.1) := has_iff.mp (has_of_keys hk.1 h1 h2)
    have w1 : W5 (ind r r) c = kdfLook c r 0 / 500 := W_one (keys_nd hk (by lia)).1 hmem
    have q2 : 2 ≤ W5 (ind r r) c := by lia
    have fs : W5 (ind i j) (fire (c, e) r).1 = W5 (ind i j) c - 2 * ind i j r + ind i j (r - 1) + ind i j (r + 1) := by rw [← Int.add_zero (W5 (ind i j) (fire (c, e) r).1), fs, Int.add_zero]
    clear s1 s2 s3 hm he h3 w1 hmem
    rcases five_ways i j r ij with q | q | ⟨rfl, q⟩ | ⟨q, rfl⟩ | ⟨rfl, rfl⟩
    · rw [ind_off q] at fs
      exact st1 fs (ind_pos ..) (ind_pos ..) old
    · rw [ind_on (by lia) (by lia), ind_on (by lia) (by lia), ind_on (by lia) (by lia)] at fs
      exact st2 fs old
    · have sp := W_split (i := r) (m := r) (j := j) (Int.le_refl _) q c
      rw [ind_on (by lia) (by lia), ind_off (k := r - 1) (by lia), ind_on (by lia) (by lia)] at fs
      exact st3 fs sp q2 (hi (r + 1) j (by lia) (by lia) jn)
    · have sp := W_split (i := i) (m := r - 1) (j := r) (by lia) (by lia) c
      rw [Int.sub_add_cancel] at sp
      rw [ind_on (by lia) (by lia), ind_on (by lia) (by lia), ind_off (k := r + 1) (by lia)] at fs
      exact st4 fs sp q2 (hi i (r - 1) i1 (by lia) (by lia))
    · rw [ind_on (by lia) (by lia), ind_off (k := r - 1) (by lia), ind_off (k := r + 1) (by lia)] at fs
      exact st5 fs q2
theorem W_pos {f : Int → Int} {l : List (Int × Int)} (h : ∀ p ∈ l, 0 ≤ f p.1) (hq : ∀ p ∈ l, 0 ≤ p.2 / 500) : 0 ≤ W5 f l := by
  have := W_mono (f := fun _ => 0) h hq
  rwa [W_zero fun _ _ => rfl] at this
theorem W_le : ∀ l : List (Int × Int), 500 * W5 (fun _ => 1) l ≤ (l.map (·.2)).sum
  | [] => Int.le_refl _
  | p :: l => by
    have := W_le l
    have e : W5 (fun _ => 1) (p :: l) = 1 * (p.2 / 500) + W5 (fun _ => 1) l := by unfold W5; rw [List.map_cons, List.sum_cons]
    rw [e, List.map_cons, List.sum_cons]
    lia
/-- what is at first -/
structure Start (n : Int) (c0 : List (Int × Int)) : Prop where
  big : n = 3 ∨ n = 4 ∨ n = 5
  keys : c0.map (·.1) = upTo n
  low : ∀ p ∈ c0, 500 ≤ p.2
  sum : (c0.map (·.2)).sum ≤ 500 * n + 7500
theorem Start.one {n : Int} {c0 : List (Int × Int)} (S : Start n c0) : W5 (fun _ => 1) c0 ≤ 20 := by
  have := W_le c0
  have := S.sum
  have := S.big
  lia
theorem Start.look {n : Int} {c0 : List (Int × Int)} (S : Start n c0) {k : Int} (h1 : 1 ≤ k) (h2 : k ≤ n) : 1 ≤ W5 (ind k k) c0 := by
  have hm : k ∈ c0.map (·.1) := by rw [S.keys]; exact mem_upTo.mpr ⟨h1, h2⟩
  have hn : (c0.map (·.1)).Nodup := by rw [S.keys]; exact upTo_nodup n
  rw [W_one hn hm]
  obtain ⟨p, hp, rfl⟩ := List.mem_map.mp hm
  rw [look_mem hn p hp]
  have := S.low p hp
  lia
theorem Start.ints {n : Int} {c0 : List (Int × Int)} (S : Start n c0) {i : Int} (h1 : 1 ≤ i) : ∀ d : Nat, i + (d : Int) ≤ n → (d : Int) + 1 ≤ W5 (ind i (i + (d : Int))) c0
  | 0, h => by
    have := S.look h1 (by simpa using h)
    simpa using this
  | d + 1, h => by
    have h : i + ((d : Int) + 1) ≤ n := by push_cast at h; exact h
    have ih := S.ints h1 d (by lia)
    have sp := W_split (i := i) (m := i + (d : Int)) (j := i + ((d : Int) + 1)) (by lia) (by lia) c0
    have l := S.look (k := i + ((d : Int) + 1)) (by lia) h
    rw [show i + (d : Int) + 1 = i + ((d : Int) + 1) by lia] at sp
    push_cast
    lia
theorem Start.inv {n : Int} {c0 : List (Int × Int)} (S : Start n c0) : InvS n c0 0 c0 [(0, 0), (n + 1, 0)] := by
  have z : ∀ f : Int → Int, S5 f (c0, [(0, 0), (n + 1, 0)]) = W5 f c0 := fun f => by unfold S5 W5; simp
  refine ⟨⟨S.keys, rfl⟩, fun _ => rfl, fun j => ?_, z _, z _, by rw [z]; simp, fun i j i1 ij jn => ?_⟩
  · rw [look_cons, look_cons]
    split
    · exact ⟨rfl, Int.le_refl _⟩
    · split
      · exact ⟨rfl, Int.le_refl _⟩
      · exact ⟨rfl, Int.le_refl _⟩
  · have := S.ints i1 (j - i).toNat (by lia)
    rw [show i + ((j - i).toNat : Int) = j by lia] at this
    lia
section
variable {n : Int} {c0 c e : List (Int × Int)} {t : Nat}
theorem inv_c (h : InvS n c0 t c e) : ∀ p ∈ c, (1 ≤ p.1 ∧ p.1 ≤ n) ∧ p.2 / 500 = W5 (ind p.1 p.1) c ∧ 0 ≤ p.2 / 500 := fun p hp => by
  obtain ⟨hk, hm, he, s1, s2, s3, hi⟩ := h
  have hm : p.1 ∈ c.map (·.1) := List.mem_map.mpr ⟨p, hp, rfl⟩
  have hb : 1 ≤ p.1 ∧ p.1 ≤ n := mem_upTo.mp (hk.1 ▸ hm : p.1 ∈ upTo n)
  have hn : (c.map (·.1)).Nodup := (keys_nd hk (by lia)).1
  have w1 : W5 (ind p.1 p.1) c = kdfLook c p.1 0 / 500 := W_one hn hm
  rw [look_mem hn p hp] at w1
  have := hi p.1 p.1 hb.1 (Int.le_refl _) hb.2
  exact ⟨hb, w1.symm, by lia⟩
theorem inv_e (h : InvS n c0 t c e) (hn : 1 ≤ n) : ∀ p ∈ e, (p.1 = 0 ∨ p.1 = n + 1) ∧ 0 ≤ p.2 / 500 := fun p hp => by
  obtain ⟨hk, hm, he, s1, s2, s3, hi⟩ := h
  have hm : p.1 ∈ e.map (·.1) := List.mem_map.mpr ⟨p, hp, rfl⟩
  have hd : (e.map (·.1)).Nodup := (keys_nd hk hn).2
  have h0 := (he p.1).2
  rw [look_mem hd p hp] at h0
  have hb : p.1 ∈ ([0, n + 1] : List Int) := hk.2 ▸ hm
  simp at hb
  exact ⟨hb, by lia⟩
theorem nine {n k : Int} (h : n + 1 ≤ 6) (hk : 0 ≤ k) : (n + 1) * k + (-1) * (k * k) ≤ 9 * 1 := by
  have a := Int.mul_le_mul_of_nonneg_right h hk
  have b : 0 ≤ (k - 3) * (k - 3) := by
    rcases Int.le_total 0 (k - 3) with q | q
    · exact Int.mul_nonneg q q
    · exact Int.mul_nonneg_of_nonpos_of_nonpos q q
  rw [Int.sub_mul, Int.mul_sub, Int.mul_sub] at b
  lia
theorem inv_lt (S : Start n c0) (h : InvS n c0 t c e) : t < 100 := by
  have hc := inv_c h
  have he := inv_e h (by have := S.big; lia)
  obtain ⟨hk, _, _, s1, s2, s3, hi⟩ := h
  have comb : ∀ l, W5 (fun k => (n + 1) * k + (-1) * (k * k)) l = (n + 1) * W5 (fun k => k) l + (-1) * W5 (fun k => k * k) l := fun l => by
    rw [W_add (fun k => (n + 1) * k) (fun k => (-1) * (k * k)), W_smul, W_smul]
  have pos : ∀ k : Int, 0 ≤ k → k ≤ n + 1 → 0 ≤ (n + 1) * k + (-1) * (k * k) := fun k h1 h2 => by
    have := Int.mul_nonneg h1 (show 0 ≤ n + 1 - k by lia)
    rw [Int.mul_sub, Int.mul_comm k (n + 1)] at this
    lia
  have p1 := W_pos (f := fun k => (n + 1) * k + (-1) * (k * k)) (fun p hp => pos p.1 (Int.le_trans (by decide) (hc p hp).1.1) (Int.le_trans (hc p hp).1.2 (Int.le_add_of_nonneg_right (by decide)))) (fun p hp => (hc p hp).2.2)
  have n0 : 0 ≤ n + 1 := by rcases S.big with h | h | h <;> rw [h] <;> decide
  have n5 : n + 1 ≤ 6 := by rcases S.big with h | h | h <;> rw [h] <;> decide
  have p2 := W_pos (f := fun k => (n + 1) * k + (-1) * (k * k)) (l := e) (fun p hp => pos p.1 ((he p hp).1.elim (fun h => h ▸ Int.le_refl _) fun h => h ▸ n0) ((he p hp).1.elim (fun h => h ▸ n0) fun h => h ▸ Int.le_refl _)) (fun p hp => (he p hp).2)
  have up : W5 (fun k => (n + 1) * k + (-1) * (k * k)) c0 ≤ W5 (fun k => 9 * 1) c0 := W_mono (fun p hp => nine n5 (Int.le_trans (by decide) (mem_upTo.mp (S.keys ▸ List.mem_map.mpr ⟨p, hp, rfl⟩ : p.1 ∈ upTo n)).1)) (fun p hp => Int.ediv_nonneg (Int.le_trans (by decide) (S.low p hp)) (by decide))
  rw [W_smul 9 (fun _ => 1)] at up
  have := S.one
  rw [comb] at p1 p2 up
  unfold S5 at s2 s3
  dsimp only at s2 s3
  rw [← s2, show W5 (fun k => k * k) c0 = W5 (fun k => k * k) c + W5 (fun k => k * k) e - 2 * (t : Int) by lia, Int.mul_add] at up
  lia
theorem inv_keys (S : Start n c0) (h : InvS n c0 t c e) : c.map (·.1) = upTo n ∧ e.map (·.1) = [0, n + 1] ∧ ∀ p ∈ c, 0 ≤ p.2 ∧ p.2 < 1000000 := by
  have hc := inv_c h
  have he := inv_e h (by have := S.big; lia)
  obtain ⟨hk, _, _, s1, s2, s3, hi⟩ := h
  refine ⟨hk.1, hk.2, fun p hp => ?_⟩
  have m1 : W5 (ind p.1 p.1) c ≤ W5 (fun _ => 1) c := W_mono (fun q _ => by unfold ind; split <;> decide) fun q hq => (hc q hq).2.2
  have p2 := W_pos (f := fun _ => 1) (l := e) (fun _ _ => by decide) fun q hq => (he q hq).2
  unfold S5 at s1
  dsimp only at s1
  have := S.one
  have := hc p hp
  lia
theorem ints_le {m : Int} (h : ∀ k, 1 ≤ k → k ≤ m → W5 (ind k k) c ≤ 1) {i : Int} (h1 : 1 ≤ i) : ∀ d : Nat, i + (d : Int) ≤ m → W5 (ind i (i + (d : Int))) c ≤ (d : Int) + 1
  | 0, hd => by
    have := h i h1 (by simpa using hd)
    simpa using this
  | d + 1, hd => by
    have hd : i + ((d : Int) + 1) ≤ m := by push_cast at hd; exact hd
    have ih := ints_le h h1 d (by lia)
    have sp := W_split (i := i) (m := i + (d : Int)) (j := i + ((d : Int) + 1)) (by lia) (by lia) c
    have l := h (i + ((d : Int) + 1)) (by lia) hd
    rw [show i + (d : Int) + 1 = i + ((d : Int) + 1) by lia] at sp
    push_cast
    lia
theorem nt1 {i j a p q : Int} (lo : j - i ≤ a) (s : a = p + q) (zp : p = 0) (zq : q = 0) (h : i < j) : False := by lia
theorem nt2 {i j a p q r u : Int} (lo : j - i ≤ a) (s : a = p + r) (t : r = u + q) (zp : p = 0) (zq : q = 0) (up : u ≤ j - 1 - (i + 1) + 1) : False := by lia
theorem no_two (h : ∀ k, 1 ≤ k → k ≤ n → W5 (ind k k) c ≤ 1) (hi : ∀ i j, 1 ≤ i → i ≤ j → j ≤ n → j - i ≤ W5 (ind i j) c) {i j : Int} (i1 : 1 ≤ i) (ij : i < j) (jn : j ≤ n) (zi : W5 (ind i i) c = 0) (zj : W5 (ind j j) c = 0) : False := by
  have s1 := W_split (i := i) (m := i) (j := j) (Int.le_refl _) ij c
  have lo := hi i j i1 (Int.le_of_lt ij) jn
  clear hi
  by_cases e : i + 1 = j
  · rw [e] at s1
    exact nt1 lo s1 zi zj ij
  · have e2 : i + 1 ≤ j - 1 := by clear lo s1 zi zj i1 jn; lia
    have s2 := W_split (i := i + 1) (m := j - 1) (j := j) e2 (Int.sub_lt_self _ (by decide)) c
    rw [Int.sub_add_cancel] at s2
    have z : ((j - 1 - (i + 1)).toNat : Int) = j - 1 - (i + 1) := Int.toNat_of_nonneg (Int.sub_nonneg.mpr e2)
    have up := ints_le h (i := i + 1) (Int.le_trans i1 (Int.le_add_of_nonneg_right (by decide))) (j - 1 - (i + 1)).toNat (by rw [z]; clear lo s1 s2 zi zj i1; lia)
    rw [z, show i + 1 + (j - 1 - (i + 1)) = j - 1 by clear lo s1 s2 zi zj i1 z; lia] at up
    exact nt2 lo s1 s2 zi zj up
def R5 (f : Int → Int) (n z : Int) : Int := ((upTo n).map fun k => f k * (if k = z then 0 else 1)).sum
theorem R_facts {n z : Int} (hn : n = 3 ∨ n = 4 ∨ n = 5) (h0 : 0 ≤ z) (h1 : z ≤ n) : R5 (fun _ => 1) n z = n - (if 0 < z then 1 else 0) ∧ R5 (fun k => k) n z = dPl n - z ∧ R5 (fun k => k * k) n z = (((upTo n).filter fun k => k != z).map fun k => k * k).sum := by
  rcases hn with rfl | rfl | rfl
  · rcases (show z = 0 ∨ z = 1 ∨ z = 2 ∨ z = 3 by lia) with rfl | rfl | rfl | rfl <;> exact ⟨rfl, rfl, rfl⟩
  · rcases (show z = 0 ∨ z = 1 ∨ z = 2 ∨ z = 3 ∨ z = 4 by lia) with rfl | rfl | rfl | rfl | rfl <;> exact ⟨rfl, rfl, rfl⟩
  · rcases (show z = 0 ∨ z = 1 ∨ z = 2 ∨ z = 3 ∨ z = 4 ∨ z = 5 by lia) with rfl | rfl | rfl | rfl | rfl | rfl <;> exact ⟨rfl, rfl, rfl⟩
theorem dS1_W (l : List (Int × Int)) : dS1 l = W5 (fun k => k) l := by
  unfold dS1 W5
  rw [List.map_map]
  congr 1
  exact List.map_congr_left fun p _ => by show p.1 * p.2.fdiv 500 = p.1 * (p.2 / 500); rw [Int.fdiv_eq_ediv_of_nonneg _ (by decide)]
theorem dS2_W (l : List (Int × Int)) : dS2 l = W5 (fun k => k * k) l := by
  unfold dS2 W5
  rw [List.map_map]
  congr 1
  exact List.map_congr_left fun p _ => by show p.1 * p.1 * p.2.fdiv 500 = p.1 * p.1 * (p.2 / 500); rw [Int.fdiv_eq_ediv_of_nonneg _ (by decide)]
theorem dQ_W (l : List (Int × Int)) : dQ l = W5 (fun _ => 1) l := by
  unfold dQ W5
  rw [List.map_map]
  congr 1
  exact List.map_congr_left fun p _ => by show p.2.fdiv 500 = 1 * (p.2 / 500); rw [Int.fdiv_eq_ediv_of_nonneg _ (by decide), Int.one_mul]
theorem the_zero (S : Start n c0) (h : InvS n c0 t c e) (hq : ∀ p ∈ c, p.2 < 1000) : ∃ z, 0 ≤ z ∧ z ≤ n ∧ ∀ p ∈ c, p.2 / 500 = if p.1 = z then 0 else 1 := by
  have hc := inv_c h
  obtain ⟨hk, _, _, _, _, _, hi⟩ := h
  have hn : (c.map (·.1)).Nodup := by have : c.map (·.1) = upTo n := hk.1; rw [this]; exact upTo_nodup n
  have one : ∀ k, 1 ≤ k → k ≤ n → W5 (ind k k) c ≤ 1 := fun k k1 k2 => by
    have hm : k ∈ c.map (·.1) := by have : c.map (·.1) = upTo n := hk.1; rw [this]; exact mem_upTo.mpr ⟨k1, k2⟩
    obtain ⟨p, hp, rfl⟩ := List.mem_map.mp hm
    have := (hc p hp).2.1
    have := hq p hp
    lia
  by_cases hz : ∃ p ∈ c, p.2 / 500 = 0
  · obtain ⟨y, hy, hy0⟩ := hz
    have yb := (hc y hy).1
    refine ⟨y.1, by lia, yb.2, fun p hp => ?_⟩
    have pc := hc p hp
    have := hq p hp
    split
    · rename_i q
      have e1 := look_mem hn p hp
      have e2 := look_mem hn y hy
      rw [q, e2] at e1
      rw [← e1]; exact hy0
    · rename_i q
      rcases (show p.2 / 500 = 1 ∨ p.2 / 500 = 0 by lia) with w | w
      · exact w
      · exfalso
        have a1 := pc.2.1
        have a2 := (hc y hy).2.1
        rcases (show p.1 < y.1 ∨ y.1 < p.1 by lia) with l | l
        · exact no_two one hi pc.1.1 l yb.2 (by lia) (by lia)
        · exact no_two one hi yb.1 l pc.1.2 (by lia) (by lia)
  · refine ⟨0, Int.le_refl _, by have := S.big; lia, fun p hp => ?_⟩
    have pc := hc p hp
    have := hq p hp
    have : ¬ p.2 / 500 = 0 := fun w => hz ⟨p, hp, w⟩
    rw [if_neg (by lia)]
    lia
theorem e_form {x : Int} (h : e.map (·.1) = [0, x]) : ∃ a b, e = [(0, a), (x, b)] := by
  match e, h with
  | [(u, a), (v, b)], h =>
    have h' : [u, v] = [0, x] := h
    injection h' with h1 h'; injection h' with h2 _
    subst h1; subst h2
    exact ⟨a, b, rfl⟩
theorem end_nums {Q S1 S2 z a b T r1 rs : Int} {t : Nat} (hn : n = 3 ∨ n = 4 ∨ n = 5) (hT : T = dPl n) (z0 : 0 ≤ z) (zn : z ≤ n) (e1 : n - r1 + (a + b) = Q) (e2 : T - z + (n + 1) * b = S1) (e3 : rs + (n + 1) * (n + 1) * b = S2 + 2 * (t : Int)) :
    (T - S1).fmod (n + 1) = z ∧ (S1 - T + z).fdiv (n + 1) = b ∧ Q - n + r1 - b = a ∧ (t : Int) = (b * (n + 1) ^ 2 + rs - S2).fdiv 2 := by
  have h0 : 0 < n + 1 := by clear e1 e2 e3 hT zn z0; lia
  clear hn hT
  have a1 : T - S1 = z - (n + 1) * b := by clear e1 e3 z0 zn h0; lia
  have a2 : S1 - T + z = (n + 1) * b := by clear e1 e3 z0 zn h0 a1; lia
  have a3 : b * (n + 1) ^ 2 = (n + 1) * (n + 1) * b := by rw [show (2 : Nat) = 0 + 1 + 1 from rfl, Int.pow_succ, Int.pow_succ, Int.pow_zero, Int.one_mul, Int.mul_comm]
  refine ⟨?_, ?_, by clear e2 e3 z0 zn h0 a1 a2 a3; lia, ?_⟩
  · rw [a1, Int.fmod_eq_emod_of_nonneg _ (Int.le_of_lt h0), Int.sub_mul_emod_self_left, Int.emod_eq_of_lt z0 (by clear e1 e2 e3 a1 a2 a3 h0; lia)]
  · rw [a2, Int.fdiv_eq_ediv_of_nonneg _ (Int.le_of_lt h0), Int.mul_ediv_cancel_left _ (Int.ne_of_gt h0)]
  · rw [a3, show (n + 1) * (n + 1) * b + rs - S2 = 2 * (t : Int) by clear e1 e2 a1 a2 a3 z0 zn h0; lia, Int.fdiv_eq_ediv_of_nonneg _ (by decide), Int.mul_ediv_cancel_left _ (by decide)]
theorem inv_end (S : Start n c0) (h : InvS n c0 t c e) (hq : ∀ p ∈ c, p.2 < 1000) : c = dTable n c0 ∧ e = [(0, 500 * dNear n c0), (n + 1, 500 * dFar n c0)] ∧ (t : Int) = (dEnds n c0 - dS2 c0).fdiv 2 := by
  obtain ⟨z, z0, zn, hz⟩ := the_zero S h hq
  obtain ⟨r1, r2, r3⟩ := R_facts S.big z0 zn
  have hw : ∀ f, W5 f c = R5 f n z := fun f => by
    have hk : c.map (·.1) = upTo n := h.1.1
    unfold W5 R5
    rw [← hk, List.map_map]
    congr 1
    exact List.map_congr_left fun p hp => by show f p.1 * (p.2 / 500) = f p.1 * (if p.1 = z then 0 else 1); rw [hz p hp]
  obtain ⟨hk, hm, he, s1, s2, s3, hi⟩ := h
  obtain ⟨x, y, rfl⟩ := e_form hk.2
  have hx := (he 0).1
  have hy := (he (n + 1)).1
  rw [look_cons, if_pos rfl] at hx
  rw [look_cons, if_neg (by have := S.big; dsimp only; lia), look_cons, if_pos rfl] at hy
  dsimp only at hx hy
  have we : ∀ f : Int → Int, W5 f [(0, x), (n + 1, y)] = f 0 * (x / 500) + f (n + 1) * (y / 500) := fun f => by unfold W5; simp
  unfold S5 at s1 s2 s3
  dsimp only at s1 s2 s3
  rw [hw, we, r1] at s1
  rw [hw, we, r2] at s2
  rw [hw, we, r3] at s3
  rw [← dQ_W] at s1
  rw [← dS1_W] at s2
  rw [← dS2_W] at s3
  simp only [Int.one_mul, Int.zero_mul, Int.zero_add] at s1 s2 s3
  obtain ⟨f1, f2, f3, f4⟩ := end_nums (t := t) S.big rfl z0 zn s1 s2 s3
  have hZ : dZ n c0 = z := f1
  have hF : dFar n c0 = y / 500 := by unfold dFar; rw [hZ]; exact f2
  have hN : dNear n c0 = x / 500 := by unfold dNear; rw [hZ, hF]; exact f3
  refine ⟨?_, ?_, ?_⟩
  · unfold dTable tabOf
    rw [S.keys, hZ]
    have hk1 : c.map (·.1) = upTo n := hk.1
    have hnd : (c.map (·.1)).Nodup := by rw [hk1]; exact upTo_nodup n
    rw [← hk1, List.map_map]
    refine (List.map_id c).symm.trans (List.map_congr_left fun p hp => ?_)
    have m1 := hm p.1
    rw [look_mem hnd p hp] at m1
    have m2 := hz p hp
    show p = (p.1, (kdfLook c0 p.1 0).fmod 500 + if p.1 = z then 0 else 500)
    rw [Int.fmod_eq_emod_of_nonneg _ (by decide), ← m1]
    refine Prod.ext rfl ?_
    show p.2 = p.2 % 500 + _
    split at m2
    · rename_i q; rw [if_pos q]; lia
    · rename_i q; rw [if_neg q]; lia
  · rw [hN, hF, show 500 * (x / 500) = x by lia, show 500 * (y / 500) = y by lia]
  · have hE : dEnds n c0 = y / 500 * (n + 1) ^ 2 + (((upTo n).filter fun k => k != z).map fun k => k * k).sum := by unfold dEnds; rw [hF, hZ, S.keys]
    rw [hE]; exact f4
end
def Sand (n : Int) (c0 : List (Int × Int)) : Prop := ∃ Inv : Nat → List (Int × Int) → List (Int × Int) → Prop, Inv 0 c0 [(0, 0), (n + 1, 0)] ∧ (∀ t c e, Inv t c e → t < 100) ∧
    (∀ t c e, Inv t c e → c.map (·.1) = upTo n ∧ e.map (·.1) = [0, n + 1] ∧ ∀ p ∈ c, 0 ≤ p.2 ∧ p.2 < 1000000) ∧
    (∀ t c e r, Inv t c e → 1 ≤ r → r ≤ n → 1000 ≤ kdfLook c r 0 → Inv (t + 1) (fire (c, e) r).1 (fire (c, e) r).2) ∧
    (∀ (t : Nat) c e, Inv t c e → (∀ p ∈ c, p.2 < 1000) → c = dTable n c0 ∧ e = [(0, 500 * dNear n c0), (n + 1, 500 * dFar n c0)] ∧ (t : Int) = (dEnds n c0 - dS2 c0).fdiv 2)
theorem step_sum (n : Int) : ∀ (ds : List (Int × Int × Int)) (c : List (Int × Int)), DeedsOk n ds → c.map (·.1) = upTo n → ((ds.foldl laidStep c).map (·.2)).sum ≤ (c.map (·.2)).sum + 1500 * (ds.length : Int) := by
  intro ds
  induction ds with
  | nil => intro c _ _; simp
  | cons d ds ih =>
    intro c hok hk
    have hd := hok d (.head _)
    have hm : d.1 ∈ c.map (·.1) := by rw [hk]; exact mem_upTo.mpr hd.1
    have hhas : kdfHas c d.1 = true := has_iff.mpr hm
    have e : ((d :: ds).length : Int) = ds.length + 1 := by simp
    have key := ih (laidStep c d) (fun x hx => hok x (.tail _ hx)) (by
      unfold laidStep
      split
      · rw [put_keys hhas]; exact hk
      · exact hk)
    have h2 : ((laidStep c d).map (·.2)).sum ≤ (c.map (·.2)).sum + 1500 := by
      unfold laidStep
      split
      · have hs := put_gen (fun _ b => b) (k := d.1) (v := kdfLook c d.1 0 + d.2.2) c (by rw [hk]; exact upTo_nodup n) hm
        rw [put_map hhas]
        have := hd.2.2
        lia
      · lia
    rw [e]
    show ((ds.foldl laidStep (laidStep c d)).map (·.2)).sum ≤ _
    lia
theorem sand (n : Int) (ds : List (Int × Int × Int)) (hok : DeedsOk n ds) (h5 : ds.length = 5) (h1 : n = 3 ∨ n = 4 ∨ n = 5) : Sand n (laidC n ds) := by
  have hs : ((laidC n ds).map (·.2)).sum ≤ ((startC n).map (·.2)).sum + 1500 * (ds.length : Int) := step_sum n ds (startC n) hok (start_keys n)
  have e : ((startC n).map (·.2)).sum = 500 * n := by rcases h1 with rfl | rfl | rfl <;> rfl
  rw [h5, e] at hs
  have S : Start n (laidC n ds) := ⟨h1, laid_keys n ds fun d hd => (hok d hd).1, fun p hp => (laid_bound n ds hok p hp).1, hs⟩
  exact ⟨InvS n (laidC n ds), S.inv, fun t c e h => inv_lt S h, fun t c e h => inv_keys S h, fun t c e r h h1 h2 h3 => invS_step h h1 h2 h3, fun t c e h hq => inv_end S h hq⟩
end Mine
end

section
theorem Mine.fresh33 : True := by k_with_none; w_top off; trivial
open PySem PySem.W PyProof.Rows PyProof.V PySem.Calls
set_option maxRecDepth 100000
set_option maxHeartbeats 800000
namespace Mine
theorem look_D {c : List (Int × Int)} : (c.map (·.1)).Nodup → ∀ p ∈ c, PySem.Spec.lookup (PyData.int p.1) (kdfD c) = some (PyData.int p.2) := by
  induction c with
  | nil => intro _ p hp; exact nomatch hp
  | cons q c ih =>
    intro hn p hp
    rw [List.map_cons, List.nodup_cons] at hn
    show (if PySem.Spec.same (PyData.int q.1) (PyData.int p.1) then some (PyData.int q.2) else PySem.Spec.lookup (PyData.int p.1) (kdfD c)) = _
    rw [PyProof.V.same_int]
    by_cases e : q.1 = p.1
    · rcases List.mem_cons.mp hp with rfl | hp
      · simp
      · exact absurd (List.mem_map.mpr ⟨p, hp, e.symm⟩) hn.1
    · rcases List.mem_cons.mp hp with rfl | hp
      · exact absurd rfl e
      · rw [if_neg (by simpa using e)]
        exact ih hn.2 p hp
theorem rows_D {c : List (Int × Int)} (hn : (c.map (·.1)).Nodup) : ∀ c' : List (Int × Int), (∀ p ∈ c', p ∈ c) → KeqRows (kdfD c) (kdfD c') true := by
  intro c'
  induction c' with
  | nil => intro _; exact .nil
  | cons p c' ih =>
    intro h
    have h1 := KeqRows.hit (v := PyData.int p.2) (look_D hn p (h p (.head _))) (ih fun q hq => h q (.tail _ hq))
    have e : (PyData.eqv (PyData.int p.2) (PyData.int p.2) && true) = true := by simp [PyData.eqv]
    rw [e] at h1
    exact h1
theorem pairs_any {p p' : Program} {w w' : World} {es : List DictEntry} {kvs : List (Int × Value)} (h : PySem.Pairs (PySem.intKind p w) es kvs) : PySem.Pairs (PySem.intKind p' w') es kvs := by
  induction h with
  | nil => exact .nil
  | cons a b _ ih => exact .cons a b ih
theorem dict_any {p p' : Program} {w w' : World} {o : Obj} {kvs : List (Int × Value)} (h : o.IsDictOf (PySem.intKind p w) kvs) : o.IsDictOf (PySem.intKind p' w') kvs := by
  obtain ⟨es, ep, h1, h2, h3, h4, h5⟩ := h
  exact ⟨es, ep, h1, h2, h3, pairs_any h4, h5⟩
section
variable {w : World} {A : Around} {E : Value → Shared → Prop} {s : Shared} {h₀ : Heap} {L : Addr} {news : List (Addr × Obj)}
theorem tab_eq {d d' : Addr} {o o' : Obj} {c : List (Int × Int)} (N : News h₀ L s.heap news) (h1 : (d, o) ∈ news) (h2 : (d', o') ∈ news) (s1 : (d == sysModules) = false) (s2 : (d' == sysModules) = false) (t1 : Tab w o c) (t2 : Tab w o' c) (hn : (c.map (·.1)).Nodup) (hu : A.units < cLine) :
    SeqAt.EqAt A s (.ref d) (.ref d') true := by
  by_cases e : d = d'
  · subst e
    exact SeqAt.EqAt.same _
  · refine SeqAt.EqAt.of_refs e ?_
    intro prog' w' E Q hq
    obtain ⟨k1, i1, f1⟩ := t1
    obtain ⟨k2, i2, f2⟩ := t2
    exact keq_tabs (knd := PySem.intKind prog' w') (enc := PyData.int) PyProof.V.same_int (TabAt.ofNews N h1 s1 (dict_any i1) f1) (TabAt.ofNews N h2 s2 (dict_any i2) f2) rfl hu (rows_D hn c fun _ h => h) hq
/-- two tuples of two dicts and an int, alike -/
theorem law_eq {prog : Program} {X X' dT dT' dD dD' : Addr} {oT oT' oD oD' : Obj} {c e : List (Int × Int)} {r : Int} {t t' : Tok} {Q : Value → Shared → Prop} (N : News h₀ L s.heap news)
    (hX : (X, { cls := .type "tuple", data := .seq #[.ref dT, .ref dD, .int r t] }) ∈ news) (hX' : (X', { cls := .type "tuple", data := .seq #[.ref dT', .ref dD', .int r t'] }) ∈ news)
    (h1 : (dT, oT) ∈ news) (h2 : (dT', oT') ∈ news) (h3 : (dD, oD) ∈ news) (h4 : (dD', oD') ∈ news)
    (s1 : (dT == sysModules) = false) (s2 : (dT' == sysModules) = false) (s3 : (dD == sysModules) = false) (s4 : (dD' == sysModules) = false)
    (t1 : Tab w oT c) (t2 : Tab w oT' c) (t3 : Tab w oD e) (t4 : Tab w oD' e) (hc : (c.map (·.1)).Nodup) (he : (e.map (·.1)).Nodup) (hu : A.in1.units + 64 < cLine) (hq : Q (.bool true) s) :
    wpAny (model prog w) A (compareOp .Eq (.ref X) (.ref X')) Q E s := by
  have hu1 : A.in1.units < cLine := by lia
  have hu0 : A.units < cLine := by
    have : A.units ≤ A.in1.units := by first | exact Nat.le_refl _ | (show A.units ≤ A.units + 1; lia)
    lia
  have i1 : s.heap.IsTuple X #[.ref dT, .ref dD, .int r t] := ⟨_, (N _ hX).1, rfl, _, rfl⟩
  have i2 : s.heap.IsTuple X' #[.ref dT', .ref dD', .int r t'] := ⟨_, (N _ hX').1, rfl, _, rfl⟩
  refine SeqAt.eq_tupleAt (e := fun _ => true) i1 i2 hu0 (fun j h5 h6 => ?_) hq
  match j, h5 with
  | 0, _ => exact tab_eq N h1 h2 s1 s2 t1 t2 hc hu1
  | 1, _ => exact tab_eq N h3 h4 s3 s4 t3 t4 he hu1
  | 2, _ =>
    have := SeqAt.EqAt.int_int (A := A.in1) (s := s) r t r t'
    rw [beq_self_eq_true] at this
    exact this
end
end Mine
end

section
theorem Mine.fresh34 : True := by k_with_none; w_top off; trivial
open PySem PySem.W PyProof.Rows PyProof.V PySem.Calls PyProof.Rows.LCg
set_option maxRecDepth 100000
set_option maxHeartbeats 8000000
namespace Mine
def tripO (d : Int × Int × Int) (t u v : Tok) : Obj := { cls := .type "tuple", data := .seq #[.int d.1 t, .int d.2.1 u, .int d.2.2 v] }
theorem deeds_snoc {ys : List Value} {nw : List (Addr × Obj)} {l : List (Int × Int × Int)} {d : Int × Int × Int} {T : Addr} {t u v : Tok} (h : DeedsAt nw ys.toArray l) : DeedsAt ((T, tripO d t u v) :: nw) (ys ++ [Value.ref T]).toArray (l ++ [d]) := by
  have h1 : ys.length = l.length := by simpa using h.1
  refine ⟨by simp [h1], fun i w hi => ?_⟩
  have hi : (ys ++ [Value.ref T])[i]? = some w := by simpa using hi
  by_cases hl : i < ys.length
  · rw [List.getElem?_append_left hl] at hi
    obtain ⟨hp, kd, gr, t1, t2, t3, T', e1, e2, e3⟩ := h.2 i w (by simpa using hi)
    exact ⟨hp, kd, gr, t1, t2, t3, T', by rw [List.getElem?_append_left (by lia)]; exact e1, e2, .tail _ e3⟩
  · have : i = ys.length := by
      have := (List.getElem?_eq_some_iff.mp hi).1
      simp at this; lia
    subst this
    rw [List.getElem?_append_right (Nat.le_refl _)] at hi
    simp at hi
    exact ⟨d.1, d.2.1, d.2.2, t, u, v, T, by rw [h1]; simp, hi.symm, .head _⟩
section
variable {prog : Program} {w : World} {A : Around} {E : Value → Shared → Prop} {s : Shared} {h₀ : Heap} {L : Addr} {m : PySem.Str → Option Value} {env : Env} {elt : Expr} {x : PySem.Str} {scope : Scope} {cl : List (PySem.Str × Addr)} {S : List (Addr × Obj) → Prop} {Fin : List Value → List (Addr × Obj) → Prop} {news : List (Addr × Obj)}
def TripTurn (h₀ : Heap) (L : Addr) (m : PySem.Str → Option Value) (s : Shared) (d : Int × Int × Int) (led : List (Addr × Obj)) (v : Value) (s' : Shared) : Prop :=
  ∃ T t u x h' tk', v = .ref T ∧ s' = { s with heap := h', toks := tk' } ∧ Fr h₀ L h' m ∧ News h₀ L h' ((T, tripO d t u x) :: led) ∧ ∀ p ∈ led, p.1 < T
theorem tripTurn_of {T : Addr} {a b c : Int} {t u x : Tok} {led : List (Addr × Obj)} {h' : Heap} {tk' : Nat} (F : Fr h₀ L h' m) (N : News h₀ L h' ((T, { cls := .type "tuple", data := .seq #[.int a t, .int b u, .int c x] }) :: led)) (l : AllLt T led) : TripTurn h₀ L m s (a, b, c) led (.ref T) { s with heap := h', toks := tk' } :=
  ⟨T, t, u, x, h', tk', rfl, rfl, F, N, allLt_mem l⟩
/-- a comprehension of threes over ints: the turn once -/
theorem trips_rest {vs : List Value} {ns : List Int} (g : Int → Int × Int × Int) (hi : IntsAre vs ns)
    (turn : ∀ k t I oI C oC D m₂ ys tups h tk (E' : Value → Shared → Prop), k ∈ ns → NsObj oC m₂ → m₂ x = some (.int k t) → Fr h₀ L h m → News h₀ L h ((I, oI) :: (C, oC) :: (D, lst ys) :: (news ++ tups)) → Off3 I C D (news ++ tups) → ((@Ne Nat I C) ∧ (@Ne Nat I D) ∧ (@Ne Nat C D)) →
      wpAny (model prog w) A (eval elt (compEnvC scope cl C env)) (TripTurn h₀ L m s (g k) ((I, oI) :: (C, oC) :: (D, lst ys) :: (news ++ tups))) E' { s with heap := h, toks := tk })
    (hS : ∀ nw, (∀ p ∈ news, p ∈ nw) → S nw)
    (fin : ∀ ys tups, DeedsAt tups ys.toArray (ns.map g) → (∀ p ∈ tups, ∀ q ∈ news, q.1 ≠ p.1) → Fin ys (news ++ tups)) : CompRest prog w A h₀ L m env elt x scope cl s S (fun i v => vs.toArray[i]? = some v) Fin vs.toArray.size 0 [] news := by
  have e : vs.toArray.size = ns.length := by rw [List.size_toArray]; exact hi.length
  have key : ∀ (j i : Nat) (ys : List Value) (tups : List (Addr × Obj)), i + j = ns.length → DeedsAt tups ys.toArray ((ns.take i).map g) → (∀ p ∈ tups, ∀ q ∈ news, q.1 ≠ p.1) → CompRest prog w A h₀ L m env elt x scope cl s S (fun i v => vs.toArray[i]? = some v) Fin j i ys (news ++ tups) := by
    intro j
    induction j with
    | zero =>
      intro i ys tups hi' hy ha
      have e : i = ns.length := by lia
      subst e
      rw [List.take_length] at hy
      exact CompRest.zero (fin ys tups hy ha)
    | succ j ih =>
      intro i ys tups hi' hy ha
      refine CompRest.succ ?_
      intro v I oI C oC D m₂ h tk E' hv hC hx F N off ne
      obtain ⟨k, t, hv', hk⟩ := IntsAre.at hi i v (by simpa using hv)
      rw [hv'] at hx
      refine wpAny_mono (turn k t I oI C oC D m₂ ys tups h tk E' (List.mem_of_getElem? hk) hC hx F N off ne) (fun y s₂ hq => ?_) fun _ _ e => e
      obtain ⟨T, t1, t2, t3, h', tk', rfl, rfl, F', N', lt⟩ := hq
      have e1 : ns.take (i + 1) = ns.take i ++ [k] := by rw [List.take_add_one, hk]; rfl
      have hsub : ∀ p ∈ (I, oI) :: (C, oC) :: (D, lst ys) :: (news ++ (T, tripO (g k) t1 t2 t3) :: tups), p ∈ (T, tripO (g k) t1 t2 t3) :: (I, oI) :: (C, oC) :: (D, lst ys) :: (news ++ tups) := by
        intro p hp
        simp only [List.mem_cons, List.mem_append] at hp ⊢
        rcases hp with h | h | h | h | h | h
        · exact .inr (.inl h)
        · exact .inr (.inr (.inl h))
        · exact .inr (.inr (.inr (.inl h)))
        · exact .inr (.inr (.inr (.inr (.inl h))))
        · exact .inl h
        · exact .inr (.inr (.inr (.inr (.inr h))))
      have hoff : Off3 I C D (news ++ (T, tripO (g k) t1 t2 t3) :: tups) := Off3.of fun p hp => by
        rcases List.mem_append.mp hp with hp | hp
        · exact off.mem p (List.mem_append_left _ hp)
        rcases List.mem_cons.mp hp with rfl | hp
        · exact ⟨Ne.symm (Nat.ne_of_lt (lt _ (.head _))), Ne.symm (Nat.ne_of_lt (lt _ (.tail _ (.head _)))), Ne.symm (Nat.ne_of_lt (lt _ (.tail _ (.tail _ (.head _)))))⟩
        · exact off.mem p (List.mem_append_right _ hp)
      refine ⟨h', tk', news ++ (T, tripO (g k) t1 t2 t3) :: tups, rfl, F', fun p hp => N' p (hsub p hp), hoff, hS _ (fun p hp => List.mem_append_left _ hp), ?_⟩
      refine ih (i + 1) _ _ (by lia) ?_ ?_
      · rw [e1, List.map_append]
        exact deeds_snoc hy
      · intro p hp q hq
        rcases List.mem_cons.mp hp with rfl | hp
        · exact Nat.ne_of_lt (lt q (.tail _ (.tail _ (.tail _ (List.mem_append_left _ hq)))))
        · exact ha p hp q hq
  have := key ns.length 0 [] [] (by lia) ⟨rfl, fun i k h => by simp at h⟩ (fun p hp => nomatch hp)
  rw [List.append_nil] at this
  rw [e]
  exact this
end
end Mine
end

section
theorem Mine.fresh35 : True := by k_with_none; w_top off; trivial
open PySem PySem.W PyProof.Rows PyProof.V PySem.Calls
set_option maxRecDepth 100000
set_option maxHeartbeats 8000000
namespace Mine
local macro_rules | `(tactic| walk_at "subscriptTail") => `(tactic| k_extra "own_sub")
local macro_rules | `(tactic| walk_at "subscriptTail Name Constant ref int") => `(tactic| k_extra "own_sub")
theorem n_is (x : Int) : 3 + x.fmod 3 = 3 ∨ 3 + x.fmod 3 = 4 ∨ 3 + x.fmod 3 = 5 := by
  have := Int.fmod_nonneg_of_pos x (show (0 : Int) < 3 by decide)
  have := Int.fmod_lt_of_pos x (show (0 : Int) < 3 by decide)
  lia
def deedOf (n v : Int) : Int × Int × Int := (v.fmod n + 1, (v.fdiv n).fmod 6, (v.fdiv (6 * n)).fmod 1500)
local macro_rules | `(tactic| walk_at "subscriptTail Name Slice ref ref") => `(tactic| k_extra "own_sub")
local macro_rules | `(tactic| walk_at "CompSrc") => `(tactic| refine Stop.out ?_)
theorem doesG_use {G : Heap → Prop} {w : World} {f : Addr} {k : Nat} {news : List (Addr × Obj)} {vs : List Value} {Post : Value → List (Addr × Obj) → Prop} (D : DoesG G w f k news vs Post)
    {dp un : Nat} {gd : Option (List Code)} {cn : PySem.Str} {cs : Scope} {a : Addr} {ccd : Value} {cl : List (PySem.Str × Addr)} {outer : List Env} {A₀ : Around} {base h₀ : Heap} {L : Addr} {m : PySem.Str → Option Value} {s : Shared}
    {mean : ExcName → Option Value} {mg mb : PySem.Str → Option Value} {Q E : Value → Shared → Prop}
    (B : Below A₀ base outer h₀) (F : Fr h₀ L s.heap m) (X : (hd.heap_39 w.params).In h₀) (N : News h₀ L s.heap news) (T : Top hd.view_39 (looseW hd.view_39 []) mean mg mb h₀) (g : G base) (hk : cs.kind = .function) (hd : dp + k < recursionLimit) (hu : un + 8 * k < cLine)
    (ret : ∀ v news' h' tk', Fr h₀ L h' m → News h₀ L h' news' → Post v news' → Q v { s with heap := h', toks := tk' }) :
    wpAny (model PySem.Challenge.rw_zd0004_01.row.prog w) (ktrTop dp un gd cn cs L a ccd cl outer) (call (.ref f) vs) Q E s :=
  D _ _ _ _ _ _ _ _ _ _ _ _ _ _ _ _ _ _ _ _ B F X N T g hk hd hu ret
theorem C_execs_consP' {M : Model} {A : Around} {env : Env} {s : Shared} {st : Stmt} {rest : List Stmt} {Q : Flow → Shared → Prop} {E : Value → Shared → Prop} (P : Shared → Prop) (h1 : wpAny M A (exec st env) (NextP P) (fun _ _ => False) s) (h2 : ∀ s', P s' → wpC M A (execs rest env) Q E s') : wpC M A (execs (st :: rest) env) Q E s :=
  C_execs_consP P h1 h2
theorem doesL_use {w : World} {f : Addr} {k : Nat} {news : List (Addr × Obj)} {vs : List Value} {Post : Value → List (Addr × Obj) → Prop} (D : DoesL w f k news vs Post)
    {dp un : Nat} {gd : Option (List Code)} {cn : PySem.Str} {cs : Scope} {a : Addr} {ccd : Value} {cl : List (PySem.Str × Addr)} {A₀ : Around} {base h₀ : Heap} {L : Addr} {m : PySem.Str → Option Value} {s : Shared}
    {mean : ExcName → Option Value} {mg mb : PySem.Str → Option Value} {Q E : Value → Shared → Prop}
    (B : Below A₀ base [] h₀) (F : Fr h₀ L s.heap m) (X : (hd.heap_39 w.params).In h₀) (N : News h₀ L s.heap news) (T : Top hd.view_39 (looseW hd.view_39 []) mean mg mb h₀) (XB : (hd.heap_39 w.params).In base) (TB : Top hd.view_39 (looseW hd.view_39 []) mean mg mb base) (hk : cs.kind = .function) (hd : dp + k < recursionLimit) (hu : un + 8 * k < cLine)
    (ret : ∀ v news' h' tk', Fr h₀ L h' m → News h₀ L h' news' → Post v news' → Q v { s with heap := h', toks := tk' }) :
    wpC (model PySem.Challenge.rw_zd0004_01.row.prog w) (ktrTop dp un gd cn cs L a ccd cl []) (call (.ref f) vs) Q E s :=
  D _ _ _ _ _ _ _ _ _ _ _ _ _ _ _ _ _ _ _ B F X N T XB TB hk hd hu ret
theorem deeds_mono {nw nw' : List (Addr × Obj)} {items : Array Value} {ds : List (Int × Int × Int)} (h : DeedsAt nw items ds) (sub : ∀ p ∈ nw, p ∈ nw') : DeedsAt nw' items ds :=
  ⟨h.1, fun i v hv => by
    obtain ⟨hp, kd, gr, t1, t2, t3, T, e1, e2, e3⟩ := h.2 i v hv
    exact ⟨hp, kd, gr, t1, t2, t3, T, e1, e2, sub _ e3⟩⟩
theorem deeds_ok {n : Int} (hn : n = 3 ∨ n = 4 ∨ n = 5) (l : List Int) : DeedsOk n (l.map (deedOf n)) := by
  intro d hd
  obtain ⟨v, _, rfl⟩ := List.mem_map.mp hd
  have h0 : 0 < n := by lia
  have a1 := Int.fmod_nonneg_of_pos v h0
  have a2 := Int.fmod_lt_of_pos v h0
  have b1 := Int.fmod_nonneg_of_pos (v.fdiv n) (show (0 : Int) < 6 by decide)
  have b2 := Int.fmod_lt_of_pos (v.fdiv n) (show (0 : Int) < 6 by decide)
  have c1 := Int.fmod_nonneg_of_pos (v.fdiv (6 * n)) (show (0 : Int) < 1500 by decide)
  have c2 := Int.fmod_lt_of_pos (v.fdiv (6 * n)) (show (0 : Int) < 1500 by decide)
  unfold deedOf
  exact ⟨⟨by dsimp only; lia, by dsimp only; lia⟩, ⟨b1, b2⟩, c1, c2⟩
open PySem.W in
theorem law0 : PySem.Challenge.rw_zd0004_01.Holds := by
  refine hd ?_
  k_fill
  intro w s₀ s₁ mg mb G Y fa o pm cd doc dV kV ho hd' hcd hD hmg hg args vals as hpre hlay hrd hwl hlo
  have KX := kIn_of Y
  have X := (Ground.X G).1
  have V := (Ground.X G).2
  refine Ground.open G ?_
  intro T B D TE TW
  try (refine guard_noD D (by decide +kernel) ?_; clear D)
  obtain ⟨_, _, M⟩ := bmod_of_top T
  have TA := at_of_top T
  clear hmg
  wrow_args hpre hlay hrd hwl hlo
  refine C_enter_call ?_
  have K0 := below_caller (Top.heap T)
  have he := Dflts.none hD rfl
  subst he
  have he := Dflts.noKw hD
  subst he
  refine codeC_cells (by decide) ho (fd_plain hd') (Top.nolimit T) hcd rfl (kinds_of (by kinds_ok)) (by decide) (fun h₁ tk₁ cells F N0 X0 => ?_) rfl rfl rfl
  cells_open X0
  clear hd' TA
  k_with_none
  k_with "does_sides" => (((case dB => k_asm); (case dF => k_asm); (case dX => k_asm); (case dN => k_asm); (case dT => k_asm); (case dK => first | exact rfl | assumption); (case dD => ktr_room); (case dU => ktr_units)))
  k_with "does_sidesL" => (((case eB => k_asm); (case eF => k_asm); (case eX => k_asm); (case eN => k_asm); (case eT => k_asm); (case eXB => k_asm); (case eTB => k_asm); (case eK => first | exact rfl | assumption); (case eD => ktr_room); (case eU => ktr_units)))
  rename Heap.IsList _ _ _ => hLs
  rename IntsAre _ _ => hIs
  rename ¬ (_ < _) => hlen
  refine C_execs_consP' (fun s' => ∃ (D : Addr) (its : List Value) (k : Nat) (h : Heap) (tk : Nat) (u : PySem.Str → Option Value) (xs : List Int) (oc : Obj) (vc : Option Value), s' = { s₁ with heap := h, toks := tk } ∧ Fr s₁.heap s₁.heap.objs.size h (fun z => if z = PySem.Str.ofString "drawn" then some (.ref D) else u z) ∧ News s₁.heap s₁.heap.objs.size h [(D, W.listOf its.toArray k), (s₁.heap.objs.size + 1, oc)] ∧ IntsAre its (six xs) ∧ oc.data = .cell vc) ?_ ?_
  · k_with "call ref" => (with_unfolding_all refine' doesG_use (c_numbers w _ _ _ _ _ hIs hlen ?hl2) ?dB ?dF ?dX ?dN ?dT ?dG ?dK ?dD ?dU ?_; (walk_at "does_sides"); (case hl2 => lia); (case dG => exact hLs); rintro v' n' h' tk' F' N' ⟨D9, its9, k9, rfl, rfl, hi9⟩; (try dsimp only); (try k_fold))
    k_steps
    exact ⟨rfl, D9, its9, k9, _, _, _, _, _, _, rfl, by k_asm, by k_asm, hi9, by assumption⟩
  · rintro s' ⟨Dr, its, kk, h2, tk2, u2, xs, oc, vc, rfl, F2, N2, hi2, hoc⟩
    clear F N0
    refine C_execs_consP' (fun s' => ∃ (n : Int) (tn : Tok) (h : Heap) (tk : Nat) (u : PySem.Str → Option Value) (oc : Obj), s' = { s₁ with heap := h, toks := tk } ∧ Fr s₁.heap s₁.heap.objs.size h (fun z => if z = PySem.Str.ofString "drawn" then some (.ref Dr) else u z) ∧ News s₁.heap s₁.heap.objs.size h [(Dr, W.listOf its.toArray kk), (s₁.heap.objs.size + 1, oc)] ∧ oc.data = .cell (some (.int n tn)) ∧ (n = 3 ∨ n = 4 ∨ n = 5)) ?_ ?_
    · k_with "own_sub" => (k_dflt (refine item_list_ints (News.isList N2 (.head _)) hi2 (Int.le_refl _) (show (0 : Int) < 6 by decide) (by decide) ?_); intro t0)
      k_steps
      exact ⟨rfl, _, _, _, _, _, _, rfl, by k_asm, by k_asm, by assumption, n_is _⟩
    · rintro s' ⟨n, tn, h3, tk3, u3, oc3, rfl, F3, N3, hoc3, hn⟩
      clear F2 N2
      refine C_execs_consP' (fun s' => ∃ (DD : Addr) (ys : List Value) (tups : List (Addr × Obj)) (h : Heap) (tk : Nat) (u : PySem.Str → Option Value), s' = { s₁ with heap := h, toks := tk } ∧ Fr s₁.heap s₁.heap.objs.size h (fun z => if z = PySem.Str.ofString "deeds" then some (.ref DD) else if z = PySem.Str.ofString "drawn" then some (.ref Dr) else u z) ∧ News s₁.heap s₁.heap.objs.size h ((DD, LCg.lst ys) :: (Dr, W.listOf its.toArray kk) :: (s₁.heap.objs.size + 1, oc3) :: tups) ∧ DeedsAt tups ys.toArray (((six xs).drop 1).map (deedOf n))) ?_ ?_
      · refine' LCg.Assign_ListComp_U F3 rfl ?k1 ?k2 ?k3 ?k4 ?k5 ?k6 ?k7 ?k8 ?_ ?hs
        case k1 => with_unfolding_all rfl
        case k2 => with_unfolding_all rfl
        case k3 => decide
        case k4 => with_unfolding_all rfl
        case k5 => decide
        case k6 => with_unfolding_all rfl
        case k7 => with_unfolding_all rfl
        case k8 => with_unfolding_all rfl
        case hs => intro _; with_unfolding_all rfl
        have hsz : its.toArray.size ≤ sizeLine := by
          have e : its.toArray.size = 6 := by rw [List.size_toArray]; exact hi2.length.symm ▸ rfl
          rw [e, sizeLine_eq]
          lia
        k_with "own_sub" => (k_dflt (refine kmk_slice_ints F3 N3 (News.isList N3 (.head _)) (IsPart.int _ _) (IsPart.none) hi2 (slice_ints_fromW hi2 (by decide)) rfl ?_ (by with_unfolding_all rfl) (by intro _; with_unfolding_all rfl) hsz); intro D9 ws9 h9 F9 N9 l9 hi9 hc9 hle9)
        k_steps
        refine Stop.mk ?_
        have hsz5 : ws9.toArray.size ≤ sizeLine := by
          have e : ws9.toArray.size = 5 := by rw [List.size_toArray]; exact hi9.length.symm ▸ hc9
          rw [e, sizeLine_eq]
          lia
        refine LCg.CompSrc.ledger rfl F9 N9 (.head _) hsz5 ?_
        intro g9
        refine trips_rest (deedOf n) hi9 ?turn (fun nw h => .inr ⟨_, h _ (.head _), rfl, _, rfl⟩) ?fin
        case turn =>
          intro k t I oI C oC D m₂ ys tups h tk E' hk hC hx F N off ne
          simp only [List.cons_append, List.nil_append] at N
          (try k_fold)
          have hn0 : 3 ≤ n ∧ n ≤ 5 := by lia
          k_steps
          with_unfolding_all exact tripTurn_of (by k_asm) (by assumption) (by assumption)
        case fin =>
          intro ys tups hd ha D h tk F N o1
          refine ⟨rfl, D, ys, tups, h, tk, _, rfl, F, cb_drop N fun p hp => ?_, hd⟩
          simp only [List.mem_cons, List.mem_append, List.cons_append, List.nil_append] at hp ⊢
          rcases hp with h | h | h | h
          · exact .inl h
          · exact .inr (.inr (.inl h))
          · exact .inr (.inr (.inr (.inl h)))
          · exact .inr (.inr (.inr (.inr h)))
      · rintro s' ⟨DD, ys, tups, h4, tk4, u4, rfl, F4, N4, hd⟩
        clear F3 N3
        have hok := deeds_ok hn ((six xs).drop 1)
        have hl5 : (((six xs).drop 1).map (deedOf n)).length = 5 := rfl
        have hsand := sand n _ hok hl5 hn
        generalize hds : ((six xs).drop 1).map (deedOf n) = ds at hd hok hl5 hsand
        obtain ⟨Inv, i0, iLt, iKeys, iStep, iEnd⟩ := hsand
        have hdA : DeedsAt ((DD, LCg.lst ys) :: (Dr, W.listOf its.toArray kk) :: (s₁.heap.objs.size + 1, oc3) :: tups) ys.toArray ds := deeds_mono hd fun p hp => .tail _ (.tail _ (.tail _ hp))
        refine C_execs_cons (C_Return (C_Compare1 (C_Call_ (C_any ?_) rfl) (by with_unfolding_all rfl)))
        k_with "wpC" => (first
          | ((with_reducible show wpC _ _ (callWith _ (Value.ref _) _ _ _) _ _ _); (refine C_callWith_K (by k_asm) (by k_is) ?_ rfl rfl))
          | ((with_reducible show wpC _ _ (spliced (backTo _ (starEach (Expr.Call _ _ _ _ :: _) _))) _ _ _); (refine C_args_cons (C_Call_ (C_any ?_) rfl) rfl); (try k_fold))
          | ((with_reducible show wpC _ _ (spliced (backTo _ (starEach (_ :: _) _))) _ _ _); (refine C_args_cons (C_any ?_) rfl); (try k_fold))
          | ((with_reducible show wpC _ _ (spliced (backTo _ (starEach [] _))) _ _ _); (refine C_spliced_nil ?_))
          | (with_unfolding_all refine' doesL_use (c_laid w _ n _ DD _ ys.toArray ds ⟨rfl, _, rfl⟩ (.head _) hdA hok hn) ?eB ?eF ?eX ?eN ?eT ?eXB ?eTB ?eK ?eD ?eU ?_; (walk_at "does_sidesL"); rintro v' n' h' tk' F' N' ⟨dT, oT, rfl, rfl, htT, hltT, hsT⟩; (try dsimp only); (try k_fold))
          | ((with_reducible show wpC _ _ (call (Value.ref _) _) _ _ _); (refine C_any ?_); (try k_fold)))
        k_with "call ref" => (with_unfolding_all refine' does_use (c_settled w ((DD, LCg.lst ys) :: (Dr, W.listOf its.toArray kk) :: (s₁.heap.objs.size + 1, oc3) :: tups) dT oT n _ Dr its kk (six xs) (laidC n ds) Inv (.tail _ (.head _)) hi2 rfl (fun p hp => Nat.ne_of_lt (hltT p hp)) hsT htT ?hn3 ?hn5 i0 iLt iKeys iStep) ?dB ?dF ?dX ?dN ?dT ?dK ?dD ?dU ?_; (walk_at "does_sides"); (case hn3 => lia); (case hn5 => lia); rintro v' n' h' tk' F' N' ⟨X1, Y1, oT1, oD1, tn1, tt1, c1, e1, rfl, rfl, htT1, htD1, hsY, hinv, hlt1⟩; (obtain ⟨rfl, rfl, ht9⟩ := iEnd _ _ _ hinv hlt1); (try dsimp only); (try k_fold))
        k_with "call ref" => (with_unfolding_all refine' does_use (c_due w _ n _ DD (LCg.lst ys) ys.toArray ds ⟨rfl, _, rfl⟩ ?hdl ?hds9 hok hl5 hn) ?dB ?dF ?dX ?dN ?dT ?dK ?dD ?dU ?_; (walk_at "does_sides"); (case hdl => k_mem); (case hds9 => exact deeds_mono hd (fun p hp => .tail _ (.tail _ (.tail _ (.tail _ (.tail _ (.tail _ hp))))))); rintro v' n' h' tk' F' N' ⟨X2, Y2, dT2, oT2, oD2, tt2, r2, rfl, rfl, htT2, htD2, hsT2, hsY2, hr2⟩; (try dsimp only); (try k_fold))
        k_steps
        obtain rfl : r2 = (tn1 : Int) := hr2.trans ht9.symm
        have hK := iKeys _ _ _ hinv
        have hnod : ((dTable n (laidC n ds)).map (·.1)).Nodup := by rw [hK.1]; exact upTo_nodup n
        have hnod2 : (([(0, 500 * dNear n (laidC n ds)), (n + 1, 500 * dFar n (laidC n ds))] : List (Int × Int)).map (·.1)).Nodup := by
          rw [hK.2.1]
          simp
          lia
        k_dflt (refine law_eq (r := (tn1 : Int)) (t := tt1) (t' := tt2) (by k_asm) ?x1 ?x2 ?x3 ?x4 ?x5 ?x6 hsT hsT2 hsY hsY2 htT1 htT2 htD1 htD2 hnod hnod2 ?xu ?_)
        case x1 => k_mem
        case x2 => k_mem
        case x3 => k_mem
        case x4 => k_mem
        case x5 => k_mem
        case x6 => k_mem
        case xu => ktr_units
        repeat (k_unfold; (try dsimp only))
        refine GoodW.toG ?_
        kc_close
end Mine
end

theorem PySem.Challenge.cw_zd0004_01_holds : PySem.Challenge.rw_zd0004_01.Holds :=
  Mine.law0
