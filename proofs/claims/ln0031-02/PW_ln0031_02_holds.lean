import PyProof.Rows.All
import Wide.All
import OpenK.AllK
import Wide.FinOn
import PySem.Challenge.RW_ln0031_02
set_option Elab.async false
set_option compiler.extract_closed false
section
open PySem PySem.W PySem.Calls PyProof.Rows
set_option Elab.async false
set_option maxRecDepth 100000
set_option linter.unusedVariables false
namespace Mine
/-- no frame of a decoder -/
noncomputable def noDec : Code → Bool
  | .builtin i _ => !Builtin.Bytes.decodersThatHold.contains i
  | _ => true
noncomputable def NoD (l : List (Code × Pos)) : Prop := ∀ c ∈ l, noDec c.1 = true
theorem NoD.cons {c : Code} {p : Pos} {l : List (Code × Pos)} (h : noDec c = true) (r : NoD l) : NoD ((c, p) :: l) := by
  intro x hx
  rcases List.mem_cons.mp hx with rfl | hx
  · exact h
  · exact r x hx
structure InR (Γ : Ctx) (A : Around) : Prop where
  i : Γ.In A
  c : noDec Γ.code = true
  b : NoD Γ.below
structure BelowR (Γ : Ctx) (A : Around) : Prop where
  i : Γ.Below A
  b : NoD Γ.below
/-- the logic over such contexts -/
noncomputable def wpR {α : Type} (M : Model) (A : Around) (t : Sem α) (Q : α → Shared → Prop) (E : Value → Shared → Prop) (s : Shared) : Prop :=
  ∀ Γ p, InR Γ A → Sem.wp M Γ t (fun a _ s' => Q a s') (fun e _ s' => E e s') p s
noncomputable def codeR (M : Model) (A : Around) (c : Code) (R : Result → Shared → Prop) (s : Shared) : Prop :=
  ∀ Γ p, Γ.code = c → BelowR Γ A → wpCode M Γ R p s
/-- nothing is raised -/
noncomputable def No : Value → Shared → Prop := fun _ _ => False
theorem nope {E : Value → Shared → Prop} : ∀ e s, No e s → E e s := fun _ _ f => f.elim
/-- the code ends well -/
noncomputable def Ends (Q : Flow → Shared → Prop) (r : Result) (s : Shared) : Prop := ∃ f, r = .ok f ∧ Q f s
/-- after a loop's body: once more, or the loop's end -/
noncomputable def goesOn (more : Shared → Prop) (Q : Flow → Shared → Prop) : Flow → Shared → Prop
  | .next, s => more s
  | .cont, s => more s
  | .brk, s => Q .next s
  | .ret v, s => Q (.ret v) s
/-- a namespace's names are let go -/
noncomputable abbrev LetGone (C : Addr) (P : Shared → Prop) (s : Shared) : Prop := ∃ m, s.heap.Ns C m ∧ ∀ h, Heap.SameBut C s.heap h → P { s with heap := h }
/-- after a comprehension's turns: the list is used at once, or it is what is given -/
noncomputable abbrev CompEnd (M : Model) (A : Around) (E : Value → Shared → Prop) (Q : Value → Shared → Prop) (acc : Value) (C : Addr) : Option (Value → Sem Unit) → Shared → Prop
  | none, s => LetGone C (Q acc) s
  | some u, s => wpAny M A (u acc) (fun _ => LetGone C (Q .none)) E s
namespace R
section
variable {α β : Type} {M : Model} {A : Around} {E : Value → Shared → Prop} {s : Shared}
theorem of {t : Sem α} {Q : α → Shared → Prop} (h : wpAny M A t Q E s) : wpR M A t Q E s := fun Γ p x => h Γ p x.i
theorem mono {t : Sem α} {Q Q' : α → Shared → Prop} {E' : Value → Shared → Prop} (h : wpR M A t Q E s) (hQ : ∀ a s, Q a s → Q' a s) (hE : ∀ e s, E e s → E' e s) : wpR M A t Q' E' s :=
  fun Γ p x => Sem.wp_mono M Γ t (fun a _ s => hQ a s) (fun e _ s => hE e s) p s (h Γ p x)
theorem bind {m : Sem α} {f : α → Sem β} {Q : β → Shared → Prop} (h : wpR M A m (fun a s' => wpR M A (f a) Q E s') E s) : wpR M A (m >>= f) Q E s := fun Γ p x => by
  rw [Sem.wp_bind']
  exact Sem.wp_mono M Γ m (fun a p' s' h' => h' Γ p' x) (fun _ _ _ h' => h') p s (h Γ p x)
/-- first a step of the library's -/
theorem after {m : Sem α} {f : α → Sem β} {Q : β → Shared → Prop} (h : wpAny M A m (fun a s' => wpR M A (f a) Q E s') E s) : wpR M A (m >>= f) Q E s := bind (of h)
theorem pure {a : α} {Q : α → Shared → Prop} (h : Q a s) : wpR M A (Pure.pure a) Q E s := of (wpAny_pure h)
theorem holding {vs : List Value} {m : Sem α} {Q : α → Shared → Prop} (h : wpR M A m Q E s) : wpR M A (PySem.holding vs m) Q E s := fun Γ p x => by rw [Sem.wp_holding]; exact h Γ p x
theorem at_ {pos : Pos} {f : Unit → Sem β} {Q : β → Shared → Prop} (h : wpR M A (f ()) Q E s) : wpR M A (standAt pos >>= f) Q E s := after (wpAny_standAt h)
theorem onRaise {m : Sem α} {k : Value → Sem Unit} {Q : α → Shared → Prop} (h : wpR M A m Q (fun e s' => wpAny M A (k e) (fun _ s'' => E e s'') E s') s) : wpR M A (m.onRaise k) Q E s := fun Γ p x => by
  rw [Sem.wp_onRaise]
  exact Sem.wp_mono M Γ m (fun _ _ _ h' => h') (fun e p' s' h' => h' Γ p' x.i) p s (h Γ p x)
theorem attempt {m : Sem α} {Q : Except Value α → Shared → Prop} (h : wpR M A m (fun a => Q (.ok a)) (fun e => Q (.error e)) s) : wpR M A m.attempt Q E s := fun Γ p x => by rw [Sem.wp_attempt]; exact h Γ p x
theorem operate {vs : List Value} {m : Sem Value} {Q : Value → Shared → Prop} (h : wpR M A m Q E s) : wpR M A (PySem.operate vs m) Q E s := fun Γ p x => by rw [Sem.wp_operate]; exact h Γ p x

/-- what raises goes on as it was; for code that raises nothing there is nothing to show of it -/
theorem calm {m : Sem α} {k : Value → Sem Unit} {Q : α → Shared → Prop} (h : wpR M A m Q No s) : wpR M A (m.onRaise k) Q E s := onRaise (mono h (fun _ _ q => q) nope)
theorem enter {Γ : Ctx} (x : InR Γ A) (c : Code) (hd : Option Value) (p : Pos) (hnb : hd ≠ some byPass) : BelowR (Γ.enter c hd p) (A.mark hd) := ⟨x.i.enter c hd p hnb, NoD.cons x.c x.b⟩
theorem run {c : Code} {h : Option Value} {Q : Flow → Shared → Prop} (hc : codeR M (A.mark h) c (fun r s' => match r with | .ok f => Q f s' | .error e => E e s') s) (hnb : h ≠ some byPass := by intro x; cases x) : wpR M A (PySem.run c h) Q E s :=
  fun Γ p x => by rw [Sem.wp_run]; exact hc _ p rfl (enter x c h p hnb)
theorem call {f : Value} {pos : List Value} {kw : List (Str × Value)} {Q : Value → Shared → Prop} (hc : codeR M A (.call f ⟨pos, kw⟩) (fun r s' => match r with | .ok (.ret v) => Q v s' | .ok _ => False | .error e => E e s') s) :
    wpR M A (PySem.call f pos kw) Q E s := fun Γ p x => by
  show Sem.wp M Γ (runValue _) _ _ p s
  rw [Sem.wp_runValue]; exact hc _ p rfl (enter x _ none p (by intro x; cases x))
theorem keep {f : Value} {pos : List Value} {kw : List (Str × Value)} {mk : Value} {Q : Value → Shared → Prop} (h : wpR M A (PySem.call f pos kw) Q E s) : wpR M A (callMarked mk f pos kw) Q E s := fun Γ p x => by
  have key : ∀ (Q' : Value → Pos → Shared → Prop) (E' : Value → Pos → Shared → Prop), Sem.wp M Γ (callMarked mk f pos kw) Q' E' p s = Sem.wp M Γ (PySem.call f pos kw) Q' E' p s := fun Q' E' => by
    first | rfl | (unfold callMarked; rfl) | (unfold callMarked; simp)
  rw [key]; exact h Γ p x

theorem cmono {c : Code} {R R' : Result → Shared → Prop} (h : codeR M A c R s) (hR : ∀ r s, R r s → R' r s) : codeR M A c R' s := fun Γ p hc hΓ => wpCode_mono hR (h Γ p hc hΓ)
theorem cof {c : Code} {R : Result → Shared → Prop} (h : codeAny M A c R s) : codeR M A c R s := fun Γ p hc x => h Γ p hc x.i
theorem tree {c : Code} {R : Result → Shared → Prop} (hn : noDec c = true)
    (h : wpR M (A.under c) (M.den c) (fun fin s' => match fin with | .done f => R (.ok f) s' | .again c' => c'.quiet = true ∧ codeR M A c' R s') (fun e s' => R (.error e) s') s) : codeR M A c R s := fun Γ p hc x => by
  rw [wpCode_iff_wp, hc]
  refine Sem.wp_mono M Γ _ (fun fin p' s' h' => ?_) (fun _ _ _ h' => h') p s (h Γ p ⟨hc ▸ x.i.in, hc ▸ hn, x.b⟩)
  cases fin with
  | done f => exact h'
  | again c' => exact ⟨h'.1, h'.2 (Γ.goto c') p' rfl ⟨x.i.goto c', x.b⟩⟩
theorem loop {c : Code} {R : Result → Shared → Prop} (hn : noDec c = true) (hq : c.quiet = true) (I : Nat → Shared → Prop)
    (turn : ∀ n s, I n s → wpR M (A.under c) (M.den c) (fun fin s' => match fin with
        | .done f => R (.ok f) s'
        | .again c' => (c' = c ∧ ∃ m, m < n ∧ I m s') ∨ (c'.quiet = true ∧ codeR M A c' R s')) (fun e s' => R (.error e) s') s)
    (n : Nat) (h : I n s) : codeR M A c R s := by
  induction n using Nat.strongRecOn generalizing s with
  | ind n ih =>
    refine tree hn (mono (turn n s h) (fun fin s' hf => ?_) fun _ _ h' => h')
    cases fin with
    | done f => exact hf
    | again c' =>
      rcases hf with ⟨rfl, m, hm, hI⟩ | hf
      · exact ⟨hq, ih m hm hI⟩
      · exact hf
end

section
variable {M : Model} {A : Around} {E : Value → Shared → Prop} {s : Shared} {env : Env}
theorem noted {α : Type} {m : Sem α} {Q : α → Shared → Prop} (h : wpR M A m Q (notedBy M A env E) s) : wpR M A (m.onRaise fun x => do noteFrame x env; theTreesLotGoes x) Q E s :=
  onRaise (mono h (fun _ _ q => q) fun _ _ hx => wpAny_bind (wpAny_mono hx (fun _ _ e => wpAny_theTreesLotGoes e) fun _ _ e => e))
theorem runOwn {c : Code} {h : Option Value} {Q : Flow → Shared → Prop} (hc : codeR M (A.mark h) c (fun r s' => match r with | .ok f => Q f s' | .error e => cameBackBy M A env E e s') s) (hnb : h ≠ some byPass := by intro x; cases x) :
    wpR M A (PySem.runOwn c env h) Q E s := by
  unfold PySem.runOwn
  exact onRaise (run hc hnb)
theorem execs_cons {st : Stmt} {rest : List Stmt} {Q : Flow → Shared → Prop} (h : wpR M A (exec st env) (fun f s' => match f with | .next => wpR M A (execs rest env) Q E s' | f => Q f s') E s) : wpR M A (execs (st :: rest) env) Q E s := by
  rw [PySem.execs_cons]
  refine bind (mono h (fun f s' h' => ?_) fun _ _ x => x)
  cases f <;> first | exact h' | exact pure h'
theorem BinOp {l r : Expr} {op : Operator} {pos : Pos} {Q : Value → Shared → Prop} (h : wpR M A (eval l env) (fun a s₁ => wpR M A (eval r env) (fun b s₂ => wpR M A (binaryOp op a b) Q E s₂) E s₁) E s) : wpR M A (eval (.BinOp l op r pos) env) Q E s := by
  rw [eval_BinOp]
  exact bind (mono h (fun a s₁ h₁ => bind (holding (mono h₁ (fun b s₂ h₂ => at_ (operate h₂)) fun _ _ x => x))) fun _ _ x => x)
theorem UnaryOp {op : UnaryOp} {x : Expr} {pos : Pos} {Q : Value → Shared → Prop} (h : wpR M A (eval x env) (fun v s₁ => wpR M A (unaryOp op v) Q E s₁) E s) : wpR M A (eval (.UnaryOp op x pos) env) Q E s := by
  rw [arm_eval_UnaryOp]
  exact bind (mono h (fun v s₁ h₁ => at_ (holding h₁)) fun _ _ x => x)
theorem IfExp {test body orelse : Expr} {pos : Pos} {Q : Value → Shared → Prop} (h : wpR M A (isTrue test env (eval test env)) (fun b s₁ => if b then wpR M A (eval body env) Q E s₁ else wpR M A (eval orelse env) Q E s₁) E s) :
    wpR M A (eval (.IfExp test body orelse pos) env) Q E s := by
  rw [arm_eval_IfExp]
  refine bind (mono h (fun b s₁ h₁ => ?_) fun _ _ x => x)
  cases b <;> exact h₁
theorem If {test : Expr} {body orelse : List Stmt} {pos : Pos} {Q : Flow → Shared → Prop} (h : wpR M A (isTrue test env (eval test env)) (fun b s₁ => if b then wpR M A (execs body env) Q E s₁ else wpR M A (execs orelse env) Q E s₁) E s) :
    wpR M A (exec (.If test body orelse pos) env) Q E s := by
  rw [exec_If]
  refine at_ (bind (mono h (fun b s₁ h₁ => ?_) fun _ _ x => x))
  cases b <;> exact h₁
theorem test1 {l r : Expr} {op : CmpOp} {pos : Pos} {whole : Sem Value} {Q : Bool → Shared → Prop} (h : wpR M A (eval l env) (fun a s₁ => wpR M A (eval r env) (fun b s₂ => wpR M A (compareOp op a b) (fun c s₃ => wpR M A (truthy c) Q E s₃) E s₂) E s₁) E s)
    (hm : behindInMarks op r = false := by with_unfolding_all rfl) : wpR M A (isTrue (.Compare l [op] [r] pos) env whole) Q E s := by
  rw [isTrue_Compare1, markedBehindIn_of_false hm]
  exact bind (mono h (fun a s₁ h₁ => bind (holding (mono h₁ (fun b s₂ h₂ => at_ (bind (operate (mono h₂ (fun c s₃ h₃ => holding h₃) fun _ _ x => x)))) fun _ _ x => x))) fun _ _ x => x)
theorem testNot {x : Expr} {pos : Pos} {whole : Sem Value} {Q : Bool → Shared → Prop} (h : wpR M A (isTrue x env (eval x env)) (fun b s₁ => Q (!b) s₁) E s) : wpR M A (isTrue (.UnaryOp .Not x pos) env whole) Q E s := by
  rw [arm_isTrue_UnaryOp]
  exact bind (mono h (fun b s₁ h₁ => pure h₁) fun _ _ x => x)
theorem testVal {e : Expr} {whole : Sem Value} {Q : Bool → Shared → Prop} (h : wpR M A whole (fun v s₁ => wpR M A (truthy v) Q E s₁) E s) (he : isTrue e env whole = (do let v ← whole; standAt e.pos; PySem.holding [v] (truthy v))) : wpR M A (isTrue e env whole) Q E s := by
  rw [he]
  exact bind (mono h (fun v s₁ h₁ => at_ (holding h₁)) fun _ _ x => x)
theorem testBool {op : BoolOp} {values : List Expr} {pos : Pos} {whole : Sem Value} {Q : Bool → Shared → Prop} (h : wpR M A (allTrue op values env) Q E s) : wpR M A (isTrue (.BoolOp op values pos) env whole) Q E s := by rw [arm_isTrue_BoolOp]; exact h
theorem andCons {x : Expr} {rest : List Expr} {Q : Bool → Shared → Prop} (h : wpR M A (isTrue x env (eval x env)) (fun b s₁ => if b then wpR M A (allTrue .And rest env) Q E s₁ else Q false s₁) E s) : wpR M A (allTrue .And (x :: rest) env) Q E s := by
  show wpR M A (isTrue x env (eval x env) >>= fun b => match BoolOp.And, b with | .And, false => Pure.pure false | .Or, true => Pure.pure true | _, _ => allTrue .And rest env) Q E s
  refine bind (mono h (fun b s₁ h₁ => ?_) fun _ _ x => x)
  cases b
  · exact pure h₁
  · exact h₁
theorem orCons {x : Expr} {rest : List Expr} {Q : Bool → Shared → Prop} (h : wpR M A (isTrue x env (eval x env)) (fun b s₁ => if b then Q true s₁ else wpR M A (allTrue .Or rest env) Q E s₁) E s) : wpR M A (allTrue .Or (x :: rest) env) Q E s := by
  show wpR M A (isTrue x env (eval x env) >>= fun b => match BoolOp.Or, b with | .And, false => Pure.pure false | .Or, true => Pure.pure true | _, _ => allTrue .Or rest env) Q E s
  refine bind (mono h (fun b s₁ h₁ => ?_) fun _ _ x => x)
  cases b
  · exact h₁
  · exact pure h₁
theorem Return {e : Expr} {pos : Pos} {Q : Flow → Shared → Prop} (h : wpR M A (eval e env) (fun v => Q (.ret v)) E s) : wpR M A (exec (.Return (some e) pos) env) Q E s := by
  rw [exec_Return_some]
  exact at_ (bind (mono h (fun v s₁ h₁ => pure h₁) fun _ _ x => x))
theorem Assign {x : Str} {pos' pos : Pos} {value : Expr} {Q : Flow → Shared → Prop} (h : wpR M A (eval value env) (fun v s₁ => wpAny M A (storeName env x v) (fun _ => Q .next) E s₁) E s)
    (hs : swapsWith value (some (.Name x pos')) pos.line env = Pure.pure false) : wpR M A (exec (.Assign [.Name x pos'] value pos) env) Q E s := by
  rw [exec_Assign_Name env x pos' value pos hs]
  exact at_ (bind (mono h (fun v s₁ h₁ => at_ (after (wpAny_bindName (wpAny_mono h₁ (fun _ _ q => pure q) fun _ _ x => x)))) fun _ _ x => x))
theorem AugAssign {x : Str} {pos' pos : Pos} {op : Operator} {value : Expr} {Q : Flow → Shared → Prop} (h : wpAny M A (loadName env x) (fun old s₁ => wpR M A (eval value env) (fun v s₂ => wpAny M A (inplaceOp op old v)
      (fun r s₃ => wpAny M A (storeName env x r) (fun _ => Q .next) E s₃) E s₂) E s₁) E s) : wpR M A (exec (.AugAssign (.Name x pos') op value pos) env) Q E s := by
  rw [exec_AugAssign_Name]
  refine at_ (after (wpAny_mono h (fun old s₁ h₁ => bind (holding (mono h₁ (fun v s₂ h₂ => ?_) fun _ _ x => x))) fun _ _ x => x))
  exact at_ (bind (operate (of (wpAny_mono h₂ (fun r s₃ h₃ => at_ (after (wpAny_bindName (wpAny_mono h₃ (fun _ _ q => pure q) fun _ _ x => x)))) fun _ _ x => x))))
theorem AssignTup {elts : List Expr} {k} {tpos pos : Pos} {value : Expr} {Q : Flow → Shared → Prop} (h : wpR M A (eval value env) (fun v s₁ => wpAny M A (assign (.Tuple elts k tpos) env v) (fun _ => Q .next) E s₁) E s)
    (hs : swapsWithSole [.Tuple elts k tpos] value pos.line env = Pure.pure false) (hw : swappedStores [.Tuple elts k tpos] value env = Pure.pure none) : wpR M A (exec (.Assign [.Tuple elts k tpos] value pos) env) Q E s := by
  rw [exec_Assign, hs]
  refine at_ (bind (pure (bind (mono h (fun v s₁ h₁ => ?_) fun _ _ x => x))))
  rw [hw]
  exact bind (pure (after (wpAny_mono h₁ (fun _ _ q => pure q) fun _ _ x => x)))
theorem splicedCons {x : Sem Value} {rest : List (Bool × Sem Value)} {Q : List Value → Shared → Prop} (h : wpR M A x (fun v s₁ => wpR M A (spliced rest) (fun vs s₂ => Q (v :: vs) s₂) E s₁) E s) : wpR M A (spliced ((false, x) :: rest)) Q E s := by
  unfold spliced
  refine bind (mono h (fun v s₁ h₁ => ?_) fun _ _ x => x)
  refine bind (pure (bind (holding (mono h₁ (fun vs s₂ h₂ => pure h₂) fun _ _ x => x))))
theorem argsPlain {f : Value} {x : Sem Value} {rest : List (Bool × Sem Value)} {Q : Args → Shared → Prop} (h : wpR M A (spliced ((false, x) :: rest)) (fun vs s' => Q ⟨vs, []⟩ s') E s) : wpR M A (evalArgs f true ((false, x) :: rest) []) Q E s := by
  unfold evalArgs
  show wpR M A (spliced ((false, x) :: rest) >>= _) Q E s
  refine bind (mono h (fun vs s' h' => ?_) fun _ _ x => x)
  refine holding ?_
  exact bind (pure (bind (pure (pure h'))))
theorem callWith {P : Heap → Prop} {pos : Pos} {f : Value} {first : List Value} {args : List (Bool × Sem Value)} {keywords : List (Option Str × Sem Value)} {Q : Value → Shared → Prop} (hplain : (args.any (·.1) || keywords.any (·.1.isNone)) = false)
    (hk : ∀ h, P h → ∃ k, (k = Keeper.frame ∨ k = Keeper.machine ∨ k = Keeper.boundFrame) ∧ Looks M h (keeperOf f) k)
    (h : wpR M A (evalArgs f true args keywords) (fun a s₁ => P s₁.heap ∧ wpR M A (PySem.call f (first ++ a.pos) a.kw) Q E s₁) E s) : wpR M A (PySem.callWith pos f first args keywords) Q E s := by
  unfold PySem.callWith
  refine bind (holding (mono h (fun a s₁ h₁ => at_ ?_) fun _ _ x => x))
  obtain ⟨k, hk', L⟩ := hk _ h₁.1
  simp only [hplain]
  refine after (L.here ?_)
  have tail : ∀ {t : Sem Value}, wpR M A t Q E s₁ → wpR M A (t >>= fun r => PySem.holding [r] point >>= fun _ => Pure.pure r) Q E s₁ :=
    fun ht => bind (mono ht (fun r s₂ hr => after (wpAny_holding (wpAny_point (pure hr)))) fun _ _ x => x)
  rcases hk' with rfl | rfl | rfl <;> dsimp only <;> first | exact tail h₁.2 | (split <;> first | exact tail h₁.2 | exact tail (keep h₁.2))
theorem CallName {x : Str} {p pos : Pos} {args : List Expr} {Q : Value → Shared → Prop} (h : wpR M A (eval (.Name x p) env) (fun f s₁ => wpR M A (PySem.callWith pos f [] (backTo pos (starEach args env)) []) Q E s₁) E s) :
    wpR M A (eval (.Call (.Name x p) args [] pos) env) Q E s := by
  show wpR M A (eval (.Name x p) env >>= fun f => PySem.callWith pos f [] (backTo pos (starEach args env)) (backToKw pos (keywordEach [] env))) Q E s
  exact bind h
theorem CallMeth {o : Expr} {name : Str} {apos pos : Pos} {args : List Expr} {kws : List Keyword} {pl : Sem Bool} {Q : Value → Shared → Prop}
    (h : wpR M A (eval o env) (fun ov s₁ => wpAny M A (getMethod ov name pl) (fun fx s₂ => wpR M A (PySem.callWith pos fx.1 fx.2 (backTo pos (starEach args env)) (backToKw pos (keywordEach kws env))) Q E s₂) E s₁) E s)
    (he : eval (.Call (.Attribute o name apos) args kws pos) env = (do
      let ov ← eval o env
      standAt apos.atName
      let (f, first) ← PySem.holding [ov] (getMethod ov name pl)
      PySem.callWith pos f first (backTo pos (starEach args env)) (backToKw pos (keywordEach kws env)))) :
    wpR M A (eval (.Call (.Attribute o name apos) args kws pos) env) Q E s := by
  rw [he]
  exact bind (mono h (fun ov s₁ h₁ => at_ (bind (holding (of (wpAny_mono h₁ (fun fx s₂ h₂ => h₂) fun _ _ x => x))))) fun _ _ x => x)
theorem List_ {elts : List Expr} {pos : Pos} {Q : Value → Shared → Prop} (h : wpR M A (spliced (backTo pos (starEach elts env))) (fun vs s₁ => vs.length ≤ sizeLine ∧ Q (.ref s₁.heap.objs.size) { s₁ with heap := s₁.heap.push { cls := .type "list", data := .seq vs.toArray } }) E s) :
    wpR M A (eval (.List elts pos) env) Q E s := by
  rw [arm_eval_List]
  exact at_ (bind (mono h (fun vs s₁ h₁ => of (wpAny_newList h₁.2 h₁.1)) fun _ _ e => e))
theorem Tuple_ {elts : List Expr} {x1} {pos : Pos} {Q : Value → Shared → Prop} (h : wpR M A (spliced (backTo pos (starEach elts env))) (fun vs s₁ => vs.length ≤ sizeLine ∧ Q (.ref s₁.heap.objs.size) { s₁ with heap := s₁.heap.push { cls := .type "tuple", data := .seq vs.toArray } }) E s) :
    wpR M A (eval (.Tuple elts x1 pos) env) Q E s := by
  rw [arm_eval_Tuple]
  exact at_ (bind (mono h (fun vs s₁ h₁ => of (wpAny_newTuple h₁.2 h₁.1)) fun _ _ e => e))
theorem Subscript {value slice : Expr} {pos : Pos} {Q : Value → Shared → Prop} (h : wpR M A (eval value env) (fun o s₁ => wpR M A (eval slice env) (fun i s₂ => wpAny M A (subscriptTail value slice o i) Q E s₂) E s₁) E s) : wpR M A (eval (.Subscript value slice pos) env) Q E s := by
  rw [eval_Subscript]
  exact bind (mono h (fun o s₁ h₁ => bind (holding (mono h₁ (fun i s₂ h₂ => at_ (of h₂)) fun _ _ x => x))) fun _ _ x => x)
theorem Slice {lower upper : Option Expr} {p : Pos} {Q : Value → Shared → Prop} (h : wpR M A (evalPart lower env) (fun l s₁ => wpR M A (evalPart upper env) (fun u s₂ => Q (.ref s₂.heap.objs.size) { s₂ with heap := s₂.heap.push { cls := .type "slice", data := .fields #[l, u, .none] } }) E s₁) E s) :
    wpR M A (eval (.Slice lower upper none p) env) Q E s := by
  rw [arm_eval_Slice]
  refine bind (mono h (fun l s₁ h₁ => bind (holding (mono h₁ (fun u s₂ h₂ => ?_) fun _ _ x => x))) fun _ _ x => x)
  exact bind (holding (pure (of (wpAny_newObj_type h₂))))
theorem ends {c : Code} {Q : Flow → Shared → Prop} (h : codeR M A c (Ends Q) s) : wpR M A (PySem.runOwn c env) Q E s := runOwn (cmono h fun r s' q => by obtain ⟨f, rfl, q⟩ := q; exact q)
theorem For {t e : Expr} {body orelse : List Stmt} {pos : Pos} {Q : Flow → Shared → Prop} (hs : ∀ x, foldedSetIterable e env x = Pure.pure x)
    (h : wpR M A (eval e env) (fun x s₁ => wpAny M A (pyIter x) (fun it => codeR M A (.forLoop t it body orelse env) (Ends Q)) E s₁) E s) : wpR M A (exec (.For t e body orelse pos) env) Q E s := by
  rw [exec_For]
  refine at_ (bind (mono h (fun x s₁ h₁ => ?_) fun _ _ y => y))
  rw [hs x]
  exact bind (pure (at_ (after (wpAny_holding (wpAny_mono h₁ (fun it s₂ => ends) fun _ _ y => y)))))
theorem While {test : Expr} {body orelse : List Stmt} {pos : Pos} {Q : Flow → Shared → Prop} (h : codeR M A (.whileLoop test body orelse env) (Ends Q) s) : wpR M A (exec (.While test body orelse pos) env) Q E s := by
  rw [exec_While]
  exact at_ (ends h)
end
section
variable {M : Model} {A : Around} {E : Value → Shared → Prop} {s : Shared} {env : Env}
theorem eqp {α : Type} {t : Sem α} {a : α} {Q : α → Shared → Prop} (e : t = Pure.pure a) (h : Q a s) : wpR M A t Q E s := by rw [e]; exact pure h
theorem standIf {α : Type} {c : Prop} [Decidable c] {pos : Pos} {k : PUnit → Sem α} {Q : α → Shared → Prop} (h : wpR M A (k ()) Q E s) : wpR M A (if c then (standAt pos >>= k) else k ()) Q E s := by
  split
  · exact at_ h
  · exact h
theorem comp {e : Expr} {sc : Scope} {pos : Pos} {newAcc first : Sem Value} {g : Comprehension} {gs : List Comprehension} {cl : List (Str × Addr)} {use : Option (Value → Sem Unit)} {Q : Value → Shared → Prop} (hcl : clausesOf e = g :: gs)
    (hs : ∀ x, foldedSetIterable g.iter env x = Pure.pure x) (hclos : closureFor sc env = Pure.pure cl) (hk : sc.kind = .function) (hn : ∀ x ∈ sc.names, x.2 = .local → sc.names.lookup x.1 = some .local)
    (h : wpR M A first (fun x s₁ => wpAny M A (pyIter x) (fun it s₂ => wpAny M A newAcc (fun acc s₃ => wpAny M A (newFunctionEnv sc env.globals cl [] env.qual none .none (some env))
      (fun ce => codeR M A (.compStart e 0 it acc { ce with scope := relabel sc env }) (fun r s => (∃ f, r = .ok f) ∧ CompEnd M A E Q acc ce.locals use s)) E s₃) E s₂) E s₁) E s) : wpR M A (comprehension e sc env pos newAcc false first use) Q E s := by
  unfold comprehension
  rw [hclos, hcl]
  refine bind (mono h (fun x s₁ h₁ => at_ (bind (eqp (hs x) (bind (holding (of (wpAny_mono h₁ (fun it s₂ h₂ => standIf (after (wpAny_mono h₂ (fun acc s₃ h₃ => ?_) fun _ _ y => y))) fun _ _ y => y))))))) fun _ _ y => y)
  refine bind (pure (after (wpAny_mono h₃ (fun ce s₄ h₄ => holding (bind (attempt (holding (run (cmono h₄ fun r s' q => ?_)))))) fun _ _ y => y)))
  obtain ⟨⟨f, rfl⟩, q⟩ := q
  have loc : ∀ x ∈ sc.names, x.2 = .local → Env.kindOf { ce with scope := relabel sc env } x.1 = some .local := fun x m l => lookup_relabel_local (hn x m l)
  cases use with
  | none =>
    obtain ⟨m, ns, q⟩ := q
    exact after (wpAny_holding (wpAny_comp_letGo hk _ s' m (fun x m => loc x (List.mem_filter.mp (List.mem_reverse.mp m)).1) ns fun h' _ _ sb => pure (q h' sb)))
  | some u =>
    refine after (wpAny_rule (after (wpAny_holding (wpAny_mono q (fun _ s'' q => ?_) fun _ _ y => y))))
    obtain ⟨m, ns, q⟩ := q
    exact after (wpAny_comp_letGo hk _ s'' m (fun x m => loc x (List.mem_filter.mp (List.mem_reverse.mp ((List.mem_append.mp m).elim List.mem_of_mem_drop List.mem_of_mem_take))).1) ns fun h' _ _ sb => pure (q h' sb))
end
section
variable {prog : Program} {w : World} {A : Around} {E : Value → Shared → Prop} {s : Shared}
theorem block {b : List Stmt} {env : Env} {Q : Flow → Shared → Prop} (h : wpR (model prog w) A (execs b env) Q No s) : codeR (model prog w) A (.block b env) (Ends Q) s :=
  tree rfl (bind (calm (mono h (fun f _ q => pure ⟨f, rfl, q⟩) nope)))
/-- a def's body runs -/
theorem func {body : List Stmt} {env : Env} {R : Result → Shared → Prop}
    (h : wpR (model prog w) (A.deeper env) (execs body env) (fun f s' => R (.ok (.ret (match f with | .ret v => v | _ => .none))) s') (fun e s' => wpAny (model prog w) (A.deeper env) (leaving env e) (fun _ => R (.error e)) (fun e' => R (.error e')) s') s) :
    codeR (model prog w) A (.func body env) R s := by
  refine tree rfl (after (wpAny_point (bind (onRaise (mono h (fun f s' q => ?_) fun _ _ y => y)))))
  cases f <;> exact pure q
/-- a def's function is called -/
theorem callDef {a : Addr} {vs : List Value} {o : Obj} {fd : FuncData} {body : List Stmt} {Q : Value → Shared → Prop} (deep : A.depth < recursionLimit) (ho : s.heap.get? a = some o) (hd : o.data = .func fd) (h1 : fd.scope.isCoroutine = false) (h2 : fd.scope.isGenerator = false)
    (hb : fd.body = .stmts body) (code : s.heap.CodeRec fd.code fd.qualname)
    (h : wpAny (model prog w) A.in1 (bindArgs fd ⟨vs, []⟩) (fun bs => wpAny (model prog w) A.in1 (newFunctionEnv fd.scope fd.globals fd.closure bs (fd.qualname ++ ".<locals>.") (some a) fd.code none fd.builtins)
      (fun env s₂ => s₂.heap.NoLimit ∧ wpR (model prog w) (A.deeper env) (execs body env) (fun f => Q (match f with | .ret v => v | _ => .none)) (fun e s' => wpAny (model prog w) (A.deeper env) (leaving env e) (fun _ => E e) E s') s₂) No) No s) :
    wpR (model prog w) A (PySem.call (.ref a) vs) Q E s := by
  obtain ⟨c, oc, us, t, ec, go, gd, gq⟩ := code
  refine call (tree rfl (of ?_))
  show wpAny _ A.in1 (callAny (.ref a) ⟨vs, []⟩) _ _ s
  unfold callAny
  refine wpAny_bind (wpAny_load ho ?_)
  simp only [hd, callFunction, h1, h2, hb]
  rw [ec] at h ⊢
  have run := wpAny_mono (E' := E) h (fun bs s₁ k => wpAny_mono (E' := E) k (fun env s₂ k => (⟨k.1, func k.2⟩ : _ ∧ codeR (model prog w) A (.func body env) (fun r s' => match r with | .ok (.ret v) => Q v s' | .ok _ => False | .error e => E e s') s₂)) nope) nope
  exact wpAny_bind (wpAny_field go gd gq (wpAny_bind (wpAny_pure (wpAny_bind (wpAny_mono run (fun _ _ k => wpAny_bind (wpAny_mono k (fun _ _ k => wpAny_bind (wpAny_enterFrame k.1 deep (wpAny_pure ⟨rfl, k.2⟩))) fun _ _ y => y)) fun _ _ y => y)))))
/-- a for's turns: I counts down -/
theorem forLoop {t : Expr} {it : Value} {body orelse : List Stmt} {env : Env} {Q : Flow → Shared → Prop} (I : Nat → Shared → Prop)
    (turn : ∀ n s, I n s → wpAny (model prog w) A (pyNext it) (fun r => match r with
      | none => wpR (model prog w) A (execs orelse env) Q No
      | some v => wpAny (model prog w) A (letOwnedTupleGo t it v) (fun _ => wpAny (model prog w) A (assign t env v) (fun _ => wpR (model prog w) A (execs body env) (goesOn (fun s' => ∃ m, m < n ∧ I m s') Q) No) No) No) No s)
    (n : Nat) (h : I n s) : codeR (model prog w) A (.forLoop t it body orelse env) (Ends Q) s := by
  refine loop rfl rfl I (fun n s i => calm ?_) n h
  refine at_ (bind (calm (of (wpAny_mono (turn n s i) (fun r s₁ k => ?_) nope))))
  cases r with
  | none => exact pure (.inr ⟨rfl, block k⟩)
  | some v =>
    refine after (wpAny_mono k (fun _ _ k => after (wpAny_mono k (fun _ _ k => bind (mono k (fun f s₂ k => ?_) nope)) nope)) nope)
    cases f with
    | brk => exact pure ⟨_, rfl, k⟩
    | ret v => exact pure ⟨_, rfl, k⟩
    | _ => exact pure (.inl ⟨rfl, k⟩)
/-- a while's turns -/
theorem whileLoop {test : Expr} {body orelse : List Stmt} {env : Env} {Q : Flow → Shared → Prop} (I : Nat → Shared → Prop)
    (turn : ∀ n s, I n s → wpR (model prog w) A (isTrue test env (eval test env)) (fun b s' => if b then wpR (model prog w) A (execs body env) (goesOn (fun s' => ∃ m, m < n ∧ I m s') Q) No s' else wpR (model prog w) A (execs orelse env) Q No s') No s)
    (n : Nat) (h : I n s) : codeR (model prog w) A (.whileLoop test body orelse env) (Ends Q) s := by
  refine loop rfl rfl I (fun n s i => calm (bind (mono (turn n s i) (fun b s₁ k => ?_) nope))) n h
  cases b with
  | false => exact bind (mono k (fun f _ q => pure ⟨f, rfl, q⟩) nope)
  | true =>
    refine bind (mono k (fun f s₂ k => ?_) nope)
    cases f with
    | brk => exact pure ⟨_, rfl, k⟩
    | ret v => exact pure ⟨_, rfl, k⟩
    | _ => exact pure (.inl ⟨rfl, k⟩)
/-- a list comprehension's turns -/
theorem compLoop {elt t e : Expr} {sc : Scope} {pos : Pos} {it acc : Value} {env : Env} {R : Result → Shared → Prop} (I : Nat → Shared → Prop)
    (turn : ∀ n s, I n s → wpAny (model prog w) A (pyNext it) (fun r s' => match r with
      | none => R (.ok .next) s'
      | some v => wpAny (model prog w) A (letOwnedTupleGo t it v) (fun _ => wpAny (model prog w) A (assign t env v) (fun _ => wpR (model prog w) A (eval elt env) (fun x =>
          wpAny (model prog w) A (PySem.call (.builtin "list.append") [acc, x]) (fun _ s' => ∃ m, m < n ∧ I m s') No) No) No) No s') No s)
    (n : Nat) (h : I n s) : codeR (model prog w) A (.compLoop (.ListComp elt [⟨t, e, [], 0⟩] sc pos) 0 it acc env) R s := by
  refine loop rfl rfl I (fun n s i => calm ?_) n h
  rw [compTurn_list1]
  refine at_ (after (wpAny_mono (turn n s i) (fun r s₁ k => ?_) nope))
  cases r with
  | none => exact pure k
  | some v =>
    refine after (wpAny_mono k (fun _ _ k => after (wpAny_mono k (fun _ _ k => bind (bind (mono k (fun x _ k => ?_) nope))) nope)) nope)
    exact after (wpAny_mono k (fun _ _ k => pure (pure (.inl ⟨rfl, k⟩))) nope)
/-- its start: where the machine asks the iterator for itself once more, and where not -/
theorem compStart {elt t e : Expr} {sc : Scope} {pos : Pos} {it acc : Value} {env : Env} {R : Result → Shared → Prop} (h₀ : codeR (model prog w) A (.compLoop (.ListComp elt [⟨t, e, [], 0⟩] sc pos) 0 it acc env) R s)
    (h : wpAny (model prog w) A (pyIter it) (fun it' => codeR (model prog w) A (.compLoop (.ListComp elt [⟨t, e, [], 0⟩] sc pos) 0 it' acc env) R) No s) : codeR (model prog w) A (.compStart (.ListComp elt [⟨t, e, [], 0⟩] sc pos) 0 it acc env) R s := by
  refine tree rfl (calm (of ?_))
  unfold PySem.compStart
  refine wpAny_bind (wpAny_askSetting (wpAny_ite ?_))
  split
  · exact wpAny_bind (wpAny_pure (wpAny_pure ⟨rfl, h₀⟩))
  · exact wpAny_bind (wpAny_rule (wpAny_bind (wpAny_standAt (wpAny_bind (wpAny_mono h (fun _ _ k => wpAny_pure ⟨rfl, k⟩) nope)))))
end
end R
end Mine
end
section
open PySem PySem.W PySem.Calls PyProof.Rows
set_option Elab.async false
set_option maxRecDepth 100000
set_option linter.unusedVariables false
namespace Mine
theorem caller_inR : InR (⟨.builtin "claim.caller" {}, none, none, [], none⟩ : Ctx) callerA := ⟨caller_in, by decide +kernel, fun c hc => nomatch hc⟩

/-- a calm thread of the caller's ends as my logic says of its code -/
theorem thread_R {prog : Program} {w : World} {t : Sem Fin} {s : Shared} {P : Result → Shared → Prop} (hz : s.asleep) (h : wpR (model prog w) callerA t (fun fin s' => ∃ f, fin = .done f ∧ P (.ok f) s' ∧ AllBare s'.gens) (fun e s' => P (.error e) s' ∧ AllBare s'.gens) s) :
    ∃ n r a b, runN (denote table) prog w n s ⟨t, .builtin "claim.caller" {}, default, []⟩ = .halted (outcomeOf r) a ∧ schedN (denote table) prog w n (.single s ⟨t, .builtin "claim.caller" {}, default, []⟩) = .halted (outcomeOf r) a ∧ a.forget = b.forget ∧ P r b := by
  have one := Sem.wp_mono (model prog w) _ t (post' := Sem.finPost (model prog w) ⟨.builtin "claim.caller" {}, none, none, [], none⟩ fun r s' => P r s' ∧ leftWithCleanup s'.gens = false) (exc' := fun e _ s' => P (.error e) s' ∧ leftWithCleanup s'.gens = false)
    (fun fin p s' q => by obtain ⟨f, rfl, q, g⟩ := q; exact ⟨q, leftWithCleanup_false_of_bare g⟩) (fun e p s' q => ⟨q.1, leftWithCleanup_false_of_bare q.2⟩) default s (h _ default caller_inR)
  obtain ⟨n, r, b, a, sched, ran, same, p⟩ := wp_halts_full hz one
  exact ⟨n, r, a, b, ran, sched, same, p⟩

/-- what the call must do, in my logic -/
noncomputable abbrev WalkR (q : Program) (loose : List Str) (XP : (Str → Option Value) → Heap → Prop) (YP : World → Heap → Prop) (r : RowW) (d : DefRec) : Prop :=
  ∀ (w : World) (s₀ s₁ : Shared) (mg mb : Str → Option Value) (a : Addr) (args : List WData) (vs : List Value) (as : List Addr), Ground q loose r.records XP w s₀ mg mb s₁.heap → YP w s₁.heap → mg d.name = some (.ref a) → s₁.gens = #[] →
    r.claim.pre args = true → WData.layableAll args = true → ReadsAllW r.records (classAt s₀.heap) s₁.heap vs args as → WellAll w.params s₁.heap vs args → (∀ a ∈ as, (a == sysModules) = false) →
    wpR (model r.prog w) callerA (PySem.call (.ref a) vs) (fun v => GoodWG r.claim (classAt s₀.heap) (ExcName.means s₀.heap) args s₁ (.ok (.ret v))) (fun e => GoodWG r.claim (classAt s₀.heap) (ExcName.means s₀.heap) args s₁ (.error e)) s₁

theorem callFrom_R {c : ClaimW} {t : List Value → Sem Fin} {w : World} {s : Shared} {free : Addr → Prop} {gens : Prop} {kept : Heap → Prop} (hz : s.asleep) (none_ : s.gens = #[])
    (spec : ∀ args, c.pre args = true → WData.layableAll args = true → ∀ ord : List DictEntry → List DictEntry, (∀ l, (ord l).Perm l) → ∃ vs s₁, layAllW c.records (classAt s.heap) w.params ord args s = some (vs, s₁) ∧
      ∀ P : Result → Shared → Prop, (∀ r s', c.Ends s args vs s₁ r s' → s'.os = s.os → kept s'.heap → P r s') → wpR (model c.prog w) callerA (t vs) (fun fin s' => ∃ f, fin = .done f ∧ P (.ok f) s' ∧ AllBare s'.gens) (fun e s' => P (.error e) s' ∧ AllBare s'.gens) s₁) :
    c.CallFrom (fun vs => ⟨t vs, .builtin "claim.caller" {}, default, []⟩) w free gens kept s := by
  intro args hpre hlay ord hord
  obtain ⟨vs, s₁, laid, go⟩ := spec args hpre hlay ord hord
  have rest := layAllW_rest _ _ _ laid
  obtain ⟨n, r, a, b, ran, sched, same, ends, os, kp⟩ := thread_R (prog := c.prog) (w := w) (t := t vs) (s := s₁) (P := fun r s' => c.Ends s args vs s₁ r s' ∧ s'.os = s.os ∧ kept s'.heap) (Shared.asleep_of_life rest.2.2.2 hz) (go (fun r s' => c.Ends s args vs s₁ r s' ∧ s'.os = s.os ∧ kept s'.heap) fun _ _ x y z => ⟨x, y, z⟩)
  obtain ⟨eh, -, -, eo, -⟩ := Shared.forget_eq same
  have life : a.heap.life = s.heap.life := (runN_life _ _ _ ran).trans rest.2.2.2
  refine ⟨vs, s₁, laid, n, outcomeOf r, a, sched, (ends.congr eh).imp (fun q => ?_) (fun q => ?_), fun _ i x e => ?_, by rw [eh]; exact kp, congrArg _ life, Shared.rest_eq (eo.trans os)⟩
  · obtain ⟨v, e, q1, q2, q3, q4, q5⟩ := q
    exact ⟨v, by rw [e]; rfl, q1, q2, q3, fun b o y _ => q4 b o y, q5⟩
  · obtain ⟨x, ob, cls, e, q1, q2, q3, q4, q5⟩ := q
    exact ⟨x, ob, cls, by rw [e]; rfl, q1, q2, q3, q4, fun b o y _ => q5 b o y⟩
  · rw [none_] at e; simp at e

/-- the head in my logic -/
theorem holds_R {r : OpenRow} {q : Program} {loose : List Str} {Xt : Shared → Bool} {XP : (Str → Option Value) → Heap → Prop} {α : Type} {Yf : Shared → α} {Ya : World → α} {YP : World → Heap → Prop} {d : DefRec} {kwd : List (Str × Expr)} {N : Nat} (left : LeftO r.prog q loose Xt Yf Ya N)
    (hY : ∀ w s, Yf s = Ya w → YP w s.heap) (hYk : ∀ w h h', YP w h → (∀ b o, h.get? b = some o → h'.get? b = some o) → YP w h') (hX : ∀ s, Xt s = true → XP (s.heap.nsMap mainGlobals) s.heap)
    (hXk : ∀ mg h h', XP mg h → (∀ b o, h.get? b = some o → h'.get? b = some o) → XP mg h') (hdef : defOf q r.name = some (d, kwd)) (hp : r.prog.theDef r.name = some (d.params, d.body, d.scope))
    (hk : kwWritten? d.params.kwonlyargs d.params.kw_defaults = some kwd) (hRf : ∀ s, Xt s = true → RecFacts r.records s.heap) (hwr : (!r.writes || r.records.isEmpty) = true)
    (said : r.wellSaid = true) (ok : (chainsOk q && opensWell r.prog && (frees r.toRowW && r.within.isEmpty)) = true) (hb : r.prog.bare) (hw : r.toRowW.promised) (walk : WalkR q loose XP YP r.toRowW d) : r.Holds := by
  simp only [Bool.and_eq_true] at ok
  obtain ⟨⟨chains, opens⟩, free, inside⟩ := ok
  obtain ⟨same, hu, ha, hap, hm⟩ := frees_parts free
  have top := left.behind (XP := fun mg h => XP mg h ∧ RecFacts r.records h) (fun s e => ⟨hX s e, hRf s e⟩) chains
  refine ⟨said, hw, ⟨hb, opens, List.map_eq_nil_iff.mpr hm⟩, hw.witness, fun w => ⟨(top w).1, fun st after => ?_⟩⟩
  obtain ⟨s₀, fence, zero, s, ran, hz, size, isNs, both, y⟩ := (top w).2 st after
  have gr : Ground q loose [] XP w s (s.heap.nsMap mainGlobals) (s.heap.nsMap builtinsNs) s.heap := { both with X := both.X.1 }
  have none_ : s.gens = #[] := Array.eq_empty_of_size_eq_zero (beq_iff_eq.mp size)
  refine ⟨s₀, fence, zero, s, ran, fun n hn => ?_, both.X.2.1, both.X.2.2.1, callFrom_R hz none_ fun args hpre hlay ord hord => ?_⟩
  · split at hn
    · rw [List.mem_singleton.mp hn]; exact pinned_of_view isNs gr hdef hp hk
    · cases hn
  have g := both.X.2.ground gr
  obtain ⟨⟨vs, s₁⟩, laid⟩ := Option.isSome_iff_exists.mp (layAllW_isSome (P := w.params) (ord := ord) g.has args r.args s (pre_splitW hpre).1)
  have up := layAllW_keeps _ _ _ laid
  have rest := layAllW_rest _ _ _ laid
  obtain ⟨as, reads, low, hold⟩ := reads_layAllW hord _ _ _ laid hlay s₁.heap fun _ _ e => e
  have L : Laid r.records w s s₁ args vs as := ⟨⟨ord, hord, laid⟩, reads, low, hold, up, rest.1.trans none_, rest.2.2.1⟩
  have g₁ := g.keeps hXk up
  obtain ⟨a, _, _, _, _, _, _, at_, _⟩ := g₁.fn hdef
  refine ⟨vs, s₁, laid, fun P good => R.after (wpAny_nsGet g₁.T.g ?_)⟩
  rw [at_]
  have done : ∀ res s', GoodWG r.toRowW.claim (classAt s.heap) (ExcName.means s.heap) args s₁ res s' → P res s' ∧ AllBare s'.gens := fun res s' x => by
    have z := x.laid (c := r.claim) same (List.isEmpty_iff.mp inside) (ident_freeW hu ha hap) L
    exact ⟨good _ _ z.1 z.2.1 fun q => ⟨namesKept_of ran isNs r.keeps up x.2.1.old, noTable hwr q⟩, z.2.2⟩
  exact R.bind (R.mono (walk w s s₁ _ _ a args vs as g₁ (hYk _ _ _ (hY w s y) up) (defOf_name hdef ▸ at_) L.gens hpre hlay L.reads L.well (L.low g.low)) (fun v s' x => R.pure ⟨_, rfl, done _ _ x⟩) fun e s' x => done _ _ x)
end Mine
end
section
open PySem PySem.W PySem.Calls PyProof.Rows
set_option Elab.async false
set_option maxRecDepth 1000000
set_option maxHeartbeats 0
namespace Mine
/-- the top's run, the heap as a tree -/
noncomputable def goT (tb : String → Option Builtin) (p : Program) (w : World) (n₀ : Nat) (ann : Option Value) : Nat → SharedT → Thread → Option SharedT
  | 0, _, _ => none
  | n + 1, s, t => match through t with
    | true => some s
    | false => match stepOk n₀ ann t with
      | false => none
      | true => match stepT (denote tb) p w s t with
        | some (s', t') => goT tb p w n₀ ann n s' t'
        | none => none
theorem goT_spec {tb : String → Option Builtin} {p : Program} {w : World} {n₀ : Nat} {ann : Option Value} : ∀ {n : Nat} {s s' : SharedT} {t : Thread}, goT tb p w n₀ ann n s t = some s' → topRun tb p w n₀ ann n s.abs t = some s'.abs
  | 0, _, _, _, h => by cases h
  | n + 1, s, s', t, h => by
    unfold goT at h
    unfold topRun
    split at h <;> rename_i e <;> rw [e]
    · exact congrArg (fun x => some (SharedT.abs x)) (Option.some.inj h)
    · split at h <;> rename_i e' <;> first | cases h; done | rw [e']
      split at h
      · rename_i u v e₂
        rw [stepT_spec e₂]
        exact goT_spec h
      · cases h
noncomputable def treeOf (l : List Obj) : BT := l.zipIdx.foldl (fun t x => t.ins x.2 x.1) .nil
noncomputable def bootT (P : Params) (os : OsState) : SharedT := ⟨treeOf (boot_heap P).objs.toList, (boot_heap P).objs.size, (boot_heap P).life, Array.mk [], boot_drawn, boot_toks, os⟩
theorem bootT_abs : ∀ P os, (bootT P os).abs = ⟨boot_heap P, Array.mk [], boot_drawn, boot_toks, os⟩ := fun P os => by kernel_rfl
/-- the same by the library's twins -/
noncomputable def goQ (tb : String → Option Builtin) (p : Program) (w : World) (n₀ : Nat) (ann : Option Value) : Nat → SharedT → Thread → Option SharedT
  | 0, _, _ => none
  | n + 1, s, t => match through t with
    | true => some s
    | false => match Fast.tw6613529449190102663 n₀ ann t with
      | false => none
      | true => match Fast.tw10156331382660048174 (Fast.tw11892475500146522536 tb) p w s t with
        | some (s', t') => goQ tb p w n₀ ann n s' t'
        | none => none
theorem goQ_eq {tb : String → Option Builtin} {p : Program} {w : World} {n₀ : Nat} {ann : Option Value} : ∀ {n : Nat} {s : SharedT} {t : Thread}, goT tb p w n₀ ann n s t = goQ tb p w n₀ ann n s t
  | 0, _, _ => rfl
  | n + 1, s, t => by
    unfold goT goQ
    rw [Fast.te6613529449190102663, Fast.te10156331382660048174, Fast.te11892475500146522536]
    simp only [goQ_eq]
/-- the head's left side, by a run of the tree -/
theorem left_of {p q : Program} {loose : List Str} {Xt : Shared → Bool} {α : Type} {Yf : Shared → α} {Ya : World → α} {N : Nat} (ho : opening p = plainProg p.main.scope.names) (hN : Nat.ble 600 N = true) (hf : ∀ s, fenceModules? p s = some s)
    (hs : ∀ w : World, ((boot_heap w.params).isNs mainGlobals && (Array.mk [] : Array GenState).size == 0) = true)
    (looks : ∀ (w : World) (os : OsState), (goQ Fast.tw14364793385576792824 p w (boot_heap w.params).objs.size ((boot_heap w.params).nsMap mainGlobals "__annotations__") N (bootT w.params os) (topStub p)).map
      (fun s => ((staticsOk (importedModules p.main.body) (boot_heap w.params) s.abs.heap && namesBound p s.abs.heap && gensDone s.abs && laidKept (boot_heap w.params) s.abs.heap), Fast.tw4187177175401517315 q loose (importedModules p.main.body) Xt true s.abs)) = some (true, openGood q loose))
    (hh : ∀ (w : World) (os : OsState), (goQ Fast.tw14364793385576792824 p w (boot_heap w.params).objs.size ((boot_heap w.params).nsMap mainGlobals "__annotations__") N (bootT w.params os) (topStub p)).map (fun s => Yf s.abs) = some (Ya w)) :
    LeftO p q loose Xt Yf Ya N := fun w => by
  obtain ⟨⟨h, gs, d, k, os⟩, e, e'⟩ := Option.map_eq_some_iff.mp (boot_open ho hN hf w)
  obtain ⟨rfl, rfl, rfl, rfl⟩ : h = boot_heap w.params ∧ gs = Array.mk [] ∧ d = boot_drawn ∧ k = boot_toks := by simpa using e'
  obtain ⟨s₁, r1, r2⟩ := Option.map_eq_some_iff.mp (looks w os)
  have r3 := hh w os
  rw [r1] at r3
  have r3 : Yf s₁.abs = Ya w := Option.some.inj r3
  rw [← goQ_eq, ← Fast.te14364793385576792824] at r1
  have run := goT_spec r1
  rw [bootT_abs] at run
  obtain ⟨l1, l2⟩ := Prod.mk.inj r2
  have t : topFrom treeTable p w N ⟨boot_heap w.params, Array.mk [], boot_drawn, boot_toks, os⟩ = some s₁.abs := by
    unfold topFrom
    dsimp only
    rw [hs w, run]
    show (match staticsOk (importedModules p.main.body) (boot_heap w.params) s₁.abs.heap && namesBound p s₁.abs.heap && gensDone s₁.abs && laidKept (boot_heap w.params) s₁.abs.heap with | true => _ | false => _) = _
    rw [l1]
  unfold openEnds
  rw [e]
  show (topFrom treeTable p w N _).map _ = _
  rw [t]
  rw [← Fast.te4187177175401517315] at l2
  exact congrArg some (Prod.ext l2 r3)
noncomputable abbrev P0 : Program := PySem.Challenge.pw_ln0031_02
noncomputable def qV : Program := view P0 [24]
noncomputable def looseV : List Str := [Str.ofString "_wall", Str.ofString "I", Str.ofString "U", Str.ofString "i8", Str.ofString "u8", Str.ofString "i16", Str.ofString "u16", Str.ofString "i64", Str.ofString "u64", Str.ofString "_law_stirred", Str.ofString "_law_each", Str.ofString "_law_lanes",
  Str.ofString "_law_sum", Str.ofString "_law_difference", Str.ofString "_law_product", Str.ofString "_law_ones", Str.ofString "_law_smeared", Str.ofString "_law_dues", Str.ofString "_law_told", Str.ofString "_law_read", Str.ofString "_law_refused", Str.ofString "_law_same"]
noncomputable def seenV (s₀ : Heap) (s : Shared) := ((staticsOk (importedModules P0.main.body) s₀ s.heap && namesBound P0 s.heap && gensDone s && laidKept s₀ s.heap), Fast.tw4187177175401517315 qV looseV (importedModules P0.main.body) (fun s => xlAt qV [] s && recOk [] s) true s)
noncomputable def endT (w : World) (os : OsState) : Option SharedT := goQ Fast.tw14364793385576792824 P0 w (boot_heap w.params).objs.size ((boot_heap w.params).nsMap mainGlobals "__annotations__") 8324 (bootT w.params os) (topStub P0)
theorem looksV : ∀ (w : World) (os : OsState), (endT w os).map (fun s => seenV (boot_heap w.params) s.abs) = some (true, openGood qV looseV) := fun w os => by kernel_rfl
theorem openV : opening P0 = plainProg P0.main.scope.names := by kernel_rfl
theorem fenceV : ∀ s, fenceModules? P0 s = some s := fun s => by kernel_rfl
theorem sizeV : ∀ w : World, ((boot_heap w.params).isNs mainGlobals && (Array.mk [] : Array GenState).size == 0) = true := fun w => by kernel_rfl
theorem leftV {H : Hook} (hh : ∀ (w : World) (os : OsState), (endT w os).map (fun s => H.obs s.abs) = some (H.val w)) : LeftO P0 qV looseV (fun s => xlAt qV [] s && recOk [] s) H.obs H.val 8324 := left_of openV (by decide) fenceV sizeV looksV hh
theorem saidV : PySem.Challenge.rw_ln0031_02.wellSaid = true := by rw [Fast.te9446332074065402090]; kernel_rfl
end Mine
end
section
open PySem PySem.W PyProof.Rows
set_option Elab.async false
set_option maxRecDepth 100000
set_option maxHeartbeats 8000000
namespace Mine
local macro_rules | `(tactic| o_law) => `(tactic| refine holds_law saidV fun said => ?_)
local macro_rules | `(tactic| o_head $H) => `(tactic| (
  refine holds_R (q := qV) (loose := looseV) (Xt := fun s => xlAt qV [] s && recOk (RowW.records (OpenRow.toRowW PySem.Challenge.rw_ln0031_02.row)) s) (XP := XL qV []) (Yf := Hook.obs $H) (Ya := Hook.val $H) (YP := Hook.says $H) (N := 8324) ?hl (Hook.of $H) (Hook.keeps $H) (fun s e => xl_of s (Bool.and_eq_true_iff.mp e).1) XL.keeps (by rfl) (by rfl) (by rfl) (fun s e => recFacts_of (Bool.and_eq_true_iff.mp e).2) (by rfl) (by first | assumption | decide +kernel) (by decide +kernel) ⟨rfl, rfl, rfl, rfl, rfl, by decide +kernel⟩ ?hw ?hc
  (case hl => exact leftV fun w os => by kernel_rfl)))
open_top hd for PySem.Challenge.rw_ln0031_02
end Mine
end
section
set_option linter.unusedVariables false
namespace Mine
theorem bx (X Y : Nat) : (X ^^^ Y) % 2 = (X + Y) % 2 := by
  have := Nat.xor_mod_two_eq_one (a := X) (b := Y)
  rw [Nat.add_mod]
  rcases Nat.mod_two_eq_zero_or_one X with e | e <;> rcases Nat.mod_two_eq_zero_or_one Y with f | f <;> rw [e, f] at this ⊢ <;> rcases Nat.mod_two_eq_zero_or_one (X ^^^ Y) with g | g <;> simp_all
theorem ba (X Y : Nat) : (X &&& Y) % 2 = X % 2 * (Y % 2) := by
  have := Nat.and_mod_two_eq_one (a := X) (b := Y)
  rcases Nat.mod_two_eq_zero_or_one X with e | e <;> rcases Nat.mod_two_eq_zero_or_one Y with f | f <;> rw [e, f] at this ⊢ <;> rcases Nat.mod_two_eq_zero_or_one (X &&& Y) with g | g <;> simp_all
theorem bo (X Y : Nat) : (X ||| Y) % 2 = X % 2 + Y % 2 - X % 2 * (Y % 2) := by
  have := Nat.or_mod_two_eq_one (a := X) (b := Y)
  rcases Nat.mod_two_eq_zero_or_one X with e | e <;> rcases Nat.mod_two_eq_zero_or_one Y with f | f <;> rw [e, f] at this ⊢ <;> rcases Nat.mod_two_eq_zero_or_one (X ||| Y) with g | g <;> simp_all
theorem xao {X Y Z p q r : Nat} (h : X / 2 + Y / 2 = Z / 2) (h1 : X % 2 = p) (h2 : Y % 2 = q) (h3 : Z % 2 = r) (e : p + q = r) : X + Y = Z := by
  rw [← Nat.div_add_mod X 2, ← Nat.div_add_mod Y 2, ← Nat.div_add_mod Z 2, ← h, h1, h2, h3, ← e, Nat.mul_add]
  exact Nat.add_add_add_comm ..
theorem xor_and_or : ∀ (m n : Nat), (m ^^^ n) + (m &&& n) = m ||| n := by
  intro m
  induction m using Nat.strongRecOn with
  | ind m ih =>
    intro n
    by_cases hm : m = 0
    · subst hm; simp
    · have h := ih (m / 2) (Nat.div_lt_self (Nat.pos_of_ne_zero hm) (by decide)) (n / 2)
      rw [← Nat.xor_div_two, ← Nat.and_div_two, ← Nat.or_div_two] at h
      refine xao h (bx m n) (ba m n) (bo m n) ?_
      rw [Nat.add_mod]
      rcases Nat.mod_two_eq_zero_or_one m with e | e <;> rcases Nat.mod_two_eq_zero_or_one n with f | f <;> rw [e, f]
/-- three lanes -/
noncomputable def J (W a b c : Nat) : Nat := 2 ^ W * (2 ^ W * c + b) + a
theorem J_bit {W a b c : Nat} (ha : a < 2 ^ W) (hb : b < 2 ^ W) (i : Nat) : (J W a b c).testBit i = if i < W then a.testBit i else if i - W < W then b.testBit (i - W) else c.testBit (i - W - W) := by
  unfold J
  rw [Nat.testBit_two_pow_mul_add _ ha, Nat.testBit_two_pow_mul_add _ hb]
theorem J_op {W a b c a' b' c' : Nat} {f : Nat → Nat → Nat} {g : Bool → Bool → Bool} (hf : ∀ x y i, (f x y).testBit i = g (x.testBit i) (y.testBit i)) (hl : ∀ x y, x < 2 ^ W → y < 2 ^ W → f x y < 2 ^ W)
    (ha : a < 2 ^ W) (hb : b < 2 ^ W) (ha' : a' < 2 ^ W) (hb' : b' < 2 ^ W) : f (J W a b c) (J W a' b' c') = J W (f a a') (f b b') (f c c') := by
  apply Nat.eq_of_testBit_eq
  intro i
  rw [hf, J_bit ha hb, J_bit ha' hb', J_bit (hl _ _ ha ha') (hl _ _ hb hb')]
  split
  · rw [hf]
  · split <;> rw [hf]
theorem J_and {W a b c a' b' c' : Nat} (ha : a < 2 ^ W) (hb : b < 2 ^ W) (ha' : a' < 2 ^ W) (hb' : b' < 2 ^ W) : J W a b c &&& J W a' b' c' = J W (a &&& a') (b &&& b') (c &&& c') :=
  J_op (f := (· &&& ·)) (fun x y i => Nat.testBit_and x y i) (fun x y _ h => Nat.and_lt_two_pow _ h) ha hb ha' hb'
theorem J_or {W a b c a' b' c' : Nat} (ha : a < 2 ^ W) (hb : b < 2 ^ W) (ha' : a' < 2 ^ W) (hb' : b' < 2 ^ W) : J W a b c ||| J W a' b' c' = J W (a ||| a') (b ||| b') (c ||| c') :=
  J_op (f := (· ||| ·)) (fun x y i => Nat.testBit_or x y i) (fun x y h h' => Nat.or_lt_two_pow h h') ha hb ha' hb'
theorem J_xor {W a b c a' b' c' : Nat} (ha : a < 2 ^ W) (hb : b < 2 ^ W) (ha' : a' < 2 ^ W) (hb' : b' < 2 ^ W) : J W a b c ^^^ J W a' b' c' = J W (a ^^^ a') (b ^^^ b') (c ^^^ c') :=
  J_op (f := (· ^^^ ·)) (fun x y i => Nat.testBit_xor x y i) (fun x y h h' => Nat.xor_lt_two_pow h h') ha hb ha' hb'
theorem J_add {W a b c a' b' c' : Nat} : J W a b c + J W a' b' c' = J W (a + a') (b + b') (c + c') := by
  unfold J; simp only [Nat.mul_add]; omega
theorem J_mul {W a b c k : Nat} : J W a b c * k = J W (a * k) (b * k) (c * k) := by
  unfold J; simp only [Nat.add_mul, Nat.mul_assoc]
theorem J_sub {W a b c a' b' c' : Nat} (h1 : a' ≤ a) (h2 : b' ≤ b) (h3 : c' ≤ c) : J W a b c - J W a' b' c' = J W (a - a') (b - b') (c - c') := by
  have := J_add (W := W) (a := a - a') (b := b - b') (c := c - c') (a' := a') (b' := b') (c' := c')
  rw [Nat.sub_add_cancel h1, Nat.sub_add_cancel h2, Nat.sub_add_cancel h3] at this
  omega
/-- a shift down, and the bits that stay in their lanes -/
theorem J_shr {W a b c s m m' m'' : Nat} (ha : a < 2 ^ W) (hb : b < 2 ^ W) (hs : s ≤ W) (h1 : m < 2 ^ (W - s)) (h2 : m' < 2 ^ (W - s)) (h3 : m'' < 2 ^ (W - s)) : J W a b c / 2 ^ s &&& J W m m' m'' = J W (a / 2 ^ s &&& m) (b / 2 ^ s &&& m') (c / 2 ^ s &&& m'') := by
  have up : ∀ {x : Nat}, x < 2 ^ (W - s) → x < 2 ^ W := fun h => Nat.lt_of_lt_of_le h (Nat.pow_le_pow_right (by decide) (by omega))
  apply Nat.eq_of_testBit_eq
  intro i
  rw [Nat.testBit_and, Nat.testBit_div_two_pow, J_bit ha hb, J_bit (up h1) (up h2), J_bit (Nat.and_lt_two_pow _ (up h1)) (Nat.and_lt_two_pow _ (up h2))]
  have z : ∀ {x : Nat} (j : Nat), x < 2 ^ (W - s) → ¬ (j < W - s) → x.testBit j = false := fun j h hj => Nat.testBit_lt_two_pow (Nat.lt_of_lt_of_le h (Nat.pow_le_pow_right (by decide) (by omega)))
  by_cases i1 : i < W
  · rw [if_pos i1, if_pos i1, Nat.testBit_and, Nat.testBit_div_two_pow]
    by_cases i2 : i < W - s
    · rw [if_pos (by omega)]
    · rw [z i h1 i2, Bool.and_false, Bool.and_false]
  · rw [if_neg i1, if_neg i1, if_neg (by omega)]
    by_cases i2 : i - W < W
    · rw [if_pos i2, if_pos i2, Nat.testBit_and, Nat.testBit_div_two_pow]
      by_cases i3 : i - W < W - s
      · rw [if_pos (by omega), show i + s - W = i - W + s by omega]
      · rw [z _ h2 i3, Bool.and_false, Bool.and_false]
    · rw [if_neg i2, if_neg i2, if_neg (by omega), Nat.testBit_and, Nat.testBit_div_two_pow, show i + s - W - W = i - W - W + s by omega]
theorem J_of {W x : Nat} : x = J W (x % 2 ^ W) (x / 2 ^ W % 2 ^ W) (x / 2 ^ W / 2 ^ W) := by
  unfold J
  rw [Nat.div_add_mod, Nat.div_add_mod]
theorem J_lane0 {W a b c : Nat} (ha : a < 2 ^ W) : J W a b c % 2 ^ W = a := by
  unfold J; rw [Nat.mul_add_mod, Nat.mod_eq_of_lt ha]
theorem J_lane1 {W a b c : Nat} (ha : a < 2 ^ W) (hb : b < 2 ^ W) : J W a b c / 2 ^ W % 2 ^ W = b := by
  unfold J
  rw [Nat.mul_add_div (Nat.two_pow_pos W), Nat.div_eq_of_lt ha, Nat.add_zero, Nat.mul_add_mod, Nat.mod_eq_of_lt hb]
theorem J_lane2 {W a b c : Nat} (ha : a < 2 ^ W) (hb : b < 2 ^ W) : J W a b c / 2 ^ W / 2 ^ W = c := by
  unfold J
  rw [Nat.mul_add_div (Nat.two_pow_pos W), Nat.div_eq_of_lt ha, Nat.add_zero, Nat.mul_add_div (Nat.two_pow_pos W), Nat.div_eq_of_lt hb, Nat.add_zero]
end Mine
end
section
open PySem PySem.W PySem.Calls PyProof.Rows
set_option Elab.async false
set_option maxRecDepth 100000
set_option linter.unusedVariables false
namespace Mine
noncomputable abbrev PG : Program := PySem.Challenge.rw_ln0031_02.row.prog

/-- what is kept: every object, but for the slots of the frames at b and above -/
noncomputable def Kp (b : Nat) (h h' : Heap) : Prop :=
  ∀ a o, h.get? a = some o → ∃ sl, h'.get? a = some { o with slots := sl } ∧ (((∀ es n, o.data ≠ .dict es n) ∨ a < b) → sl = o.slots)

theorem Kp.refl {b : Nat} {h : Heap} : Kp b h h := fun _ o e => ⟨o.slots, e, fun _ => rfl⟩
theorem Kp.trans {b : Nat} {h₁ h₂ h₃ : Heap} (x : Kp b h₁ h₂) (y : Kp b h₂ h₃) : Kp b h₁ h₃ := by
  intro a o e
  obtain ⟨s1, e1, k1⟩ := x a o e
  obtain ⟨s2, e2, k2⟩ := y a _ e1
  exact ⟨s2, e2, fun q => (k2 q).trans (k1 q)⟩
theorem Kp.of {b : Nat} {h h' : Heap} (k : ∀ a o, h.get? a = some o → h'.get? a = some o) : Kp b h h' :=
  fun a o e => ⟨o.slots, k a o e, fun _ => rfl⟩
theorem Kp.get {b : Nat} {h h' : Heap} (x : Kp b h h') {a : Addr} {o : Obj} (e : h.get? a = some o) (hc : (∀ es n, o.data ≠ .dict es n) ∨ a < b) : h'.get? a = some o := by
  obtain ⟨sl, e1, k1⟩ := x a o e
  rw [k1 hc] at e1; exact e1
theorem Kp.ns {b : Nat} {h h' : Heap} (x : Kp b h h') {a : Addr} {m : Str → Option Value} (n : h.Ns a m) : h'.Ns a m := by
  obtain ⟨o, es, ep, e, hd, r⟩ := n
  obtain ⟨sl, e1, _⟩ := x a o e
  exact ⟨_, es, ep, e1, hd, r⟩
theorem Kp.cell {b : Nat} {h h' : Heap} (x : Kp b h h') {a : Addr} {v : Option Value} (n : h.IsCell a v) : h'.IsCell a v := by
  obtain ⟨o, e, hd⟩ := n
  obtain ⟨sl, e1, _⟩ := x a o e
  exact ⟨_, e1, hd⟩
theorem Kp.push {b : Nat} {h : Heap} {o : Obj} : Kp b h (h.push o) := .of fun _ _ e => Heap.get?_push_of_some _ e
theorem Kp.none {b : Nat} {h h' : Heap} (x : Kp b h h') {a : Addr} (e : h'.get? a = none) : h.get? a = none := by
  cases q : h.get? a with
  | none => rfl
  | some o => obtain ⟨_, e1, _⟩ := x a o q; rw [e] at e1; cases e1

/-- what the top left, as the calls read it -/
structure PF (w : World) (b : Nat) (h : Heap) : Prop where
  k : (hd.heap_1 w.params).In h
  kb : ∀ a o, (hd.heap_1 w.params).lookup a = some o → a < b
  g : ∃ mg, h.Ns mainGlobals mg
  b : ∃ mb, h.Ns builtinsNs mb ∧ ∀ x : Str, x ≠ "__name__" → mb x = bootBuiltins x
  lim : h.NoLimit
  bm : ∃ mg, h.Ns mainGlobals mg ∧ ∃ bm ob, mg "__builtins__" = some (.ref bm) ∧ bm ≠ builtinsNs ∧ h.get? bm = some ob ∧ ob.cls = .type "module" ∧ ob.dict = some builtinsNs ∧ ob.data = .plain
theorem PF.kp {w : World} {b : Nat} {h h' : Heap} (x : PF w b h) (k : Kp b h h') : PF w b h' :=
  ⟨fun a o e => k.get (x.k a o e) (.inr (x.kb a o e)), x.kb, let ⟨m, n⟩ := x.g; ⟨m, k.ns n⟩, let ⟨m, n, r⟩ := x.b; ⟨m, k.ns n, r⟩, let ⟨m, n, r⟩ := x.lim; ⟨m, k.ns n, r⟩,
    let ⟨mg, n, bm, ob, e1, e2, e3, e4, e5, e6⟩ := x.bm; ⟨mg, k.ns n, bm, ob, e1, e2, k.get e3 (.inl (by rw [e6]; intro _ _ q; cases q)), e4, e5, e6⟩⟩

/-- the frames on the stack -/
noncomputable def Stk (b : Nat) (l : List Env) (h : Heap) : Prop :=
  ∀ env ∈ l, env.scope.kind ≠ .module ∧ ∃ L o, env.frame = some L ∧ b ≤ L ∧ h.get? L = some o ∧ ∃ es n, o.data = .dict es n
theorem Stk.kp {b : Nat} {l : List Env} {h h' : Heap} (x : Stk b l h) (k : Kp b h h') : Stk b l h' := by
  intro env he
  obtain ⟨hk, L, o, hf, hb, e, es, n, hd⟩ := x env he
  obtain ⟨sl, e1, _⟩ := k L o e
  exact ⟨hk, L, _, hf, hb, e1, es, n, hd⟩

structure Ax (n : Nat) (A : Around) (l : List Env) : Prop where
  dep : A.depth + n < recursionLimit
  un : A.units + 20 * n < cLine
  hnd : A.handled = none
  fr : A.frames = some l
  gd : A.guards = some []
structure Cx (w : World) (b n : Nat) (A : Around) (h : Heap) : Prop where
  ax : ∃ l, Ax n A l ∧ Stk b l h
  pf : PF w b h
  low : ∃ a o, b ≤ a ∧ h.get? a = some o
theorem Cx.gd {w : World} {b n : Nat} {A : Around} {h : Heap} (x : Cx w b n A h) : A.guards = some [] := let ⟨_, a, _⟩ := x.ax; a.gd
theorem Cx.hnd {w : World} {b n : Nat} {A : Around} {h : Heap} (x : Cx w b n A h) : A.handled = none := let ⟨_, a, _⟩ := x.ax; a.hnd
theorem Cx.un {w : World} {b n : Nat} {A : Around} {h : Heap} (x : Cx w b n A h) : A.units + 20 * n < cLine := let ⟨_, a, _⟩ := x.ax; a.un
theorem Cx.dep {w : World} {b n : Nat} {A : Around} {h : Heap} (x : Cx w b n A h) : A.depth + n < recursionLimit := let ⟨_, a, _⟩ := x.ax; a.dep

/-- an iterator -/
noncomputable def Itc (o : Obj) : Prop := (o.cls = .type "list_iterator" ∨ o.cls = .type "range_iterator") ∧ ∃ vs, o.data = .fields vs ∧ ∀ s t, vs[1]? ≠ some (.str s t)
/-- objects that data stand on are kept -/
noncomputable def Solid (h h' : Heap) : Prop := ∀ a o, h.get? a = some o → (∀ es n, o.data ≠ .dict es n) → ¬ Itc o → h'.get? a = some o
/-- the same, but for cells -/
noncomputable def Solid2 (h h' : Heap) : Prop := ∀ a o, h.get? a = some o → (∀ es n, o.data ≠ .dict es n) → (∀ v, o.data ≠ .cell v) → ¬ Itc o → h'.get? a = some o
noncomputable def Keep2 (h h' : Heap) : Prop := ∀ a o, h.get? a = some o → (∀ es n, o.data ≠ .dict es n) → (∀ v, o.data ≠ .cell v) → h'.get? a = some o
theorem Solid.two {h h' : Heap} (x : Solid h h') : Solid2 h h' := fun a o e hd _ hi => x a o e hd hi
theorem Keep2.two {h h' : Heap} (x : Keep2 h h') : Solid2 h h' := fun a o e hd hc _ => x a o e hd hc
theorem Keep2.trans {h h' h'' : Heap} (x : Keep2 h h') (y : Keep2 h' h'') : Keep2 h h'' := fun a o e hd hc => y a o (x a o e hd hc) hd hc
theorem Kp.solid {b : Nat} {h h' : Heap} (k : Kp b h h') : Solid h h' := fun a o e hd _ => k.get e (.inl hd)
theorem Kp.keep2 {b : Nat} {h h' : Heap} (k : Kp b h h') : Keep2 h h' := fun a o e hd _ => k.get e (.inl hd)
theorem Itc.not {o : Obj} {T : String} (hc : o.cls = .type T) (h1 : T ≠ "list_iterator" := by decide) (h2 : T ≠ "range_iterator" := by decide) : ¬ Itc o := by
  rintro ⟨q | q, _⟩ <;> rw [hc] at q <;> cases q <;> contradiction
/-- the names of the defs within the def -/
noncomputable def qualAt (pos : Pos) : Str := (Str.ofString "_law_dues" ++ ".<locals>.") ++ (if pos.line = 184 then Str.ofString "spread" else Str.ofString "picked")
/-- the table of the def's that makes functions -/
noncomputable def Tb (h : Heap) : Prop := ∃ ps, h.get? 354 = some (tabObj ps) ∧ TriplesOk ps.toList ∧ ∀ pos cv, codeAmong pos ps.toList = some cv → h.CodeRec cv (qualAt pos)
noncomputable def Hop (h h' : Heap) : Prop := (∀ a o, a ≠ 354 → h.get? a = some o → (∀ es n, o.data ≠ .dict es n) → ¬ Itc o → h'.get? a = some o) ∧ Tb h ∧ Tb h'
structure Abs where
  P : Value → Heap → Prop
  st : ∀ v h h', Solid h h' → P v h → P v h'
  hop : ∀ v h h', Hop h h' → P v h → P v h'

/-- plain data -/
inductive D where
  | int (i : Int) | bool (b : Bool) | none | val (v : Value) | str (s : Str) | bytes (b : Array UInt8) | barr (b : Array UInt8)
  | list (l : List D) | tup (l : List D) | abs (p : Abs)

mutual
inductive Rep (h : Heap) : Value → D → Prop
  | int (i t) : Rep h (.int i t) (.int i)
  | bool (b) : Rep h (.bool b) (.bool b)
  | none : Rep h .none .none
  | val (v) : Rep h v (.val v)
  | str (s t) : Rep h (.str s t) (.str s)
  | bytes (b t) : Rep h (.bytes b t) (.bytes b)
  | barr (a o b) : h.get? a = some o → o.cls = .type "bytearray" → o.data = .bytearray b 0 → Rep h (.ref a) (.barr b)
  | list (a vs l) : h.IsList a vs → RepAll h vs.toList l → Rep h (.ref a) (.list l)
  | tup (a vs l) : h.IsTuple a vs → RepAll h vs.toList l → Rep h (.ref a) (.tup l)
  | abs (v p) : p.P v h → Rep h v (.abs p)
inductive RepAll (h : Heap) : List Value → List D → Prop
  | nil : RepAll h [] []
  | cons (v d vs ds) : Rep h v d → RepAll h vs ds → RepAll h (v :: vs) (d :: ds)
end
/-- no closure within -/
inductive Cf : D → Prop
  | int (i) : Cf (.int i)
  | bool (b) : Cf (.bool b)
  | none : Cf .none
  | val (v) : Cf (.val v)
  | str (s) : Cf (.str s)
  | bytes (b) : Cf (.bytes b)
  | barr (b) : Cf (.barr b)
  | list (l) : (∀ d ∈ l, Cf d) → Cf (.list l)
  | tup (l) : (∀ d ∈ l, Cf d) → Cf (.tup l)
  | abs (p) : (∀ v h h', Solid2 h h' → p.P v h → p.P v h') → Cf (.abs p)

theorem IsList.of2 {h h' : Heap} (k : Solid2 h h') {a : Addr} {vs : Array Value} (x : h.IsList a vs) : h'.IsList a vs :=
  let ⟨o, e, hc, n, hd⟩ := x; ⟨o, k a o e (by rw [hd]; intro _ _ q; cases q) (by rw [hd]; intro _ q; cases q) (Itc.not hc), hc, n, hd⟩
theorem IsTuple.of2 {h h' : Heap} (k : Solid2 h h') {a : Addr} {vs : Array Value} (x : h.IsTuple a vs) : h'.IsTuple a vs :=
  let ⟨o, e, hc, n, hd⟩ := x; ⟨o, k a o e (by rw [hd]; intro _ _ q; cases q) (by rw [hd]; intro _ q; cases q) (Itc.not hc), hc, n, hd⟩
mutual
/-- what stands on kept objects stands -/
theorem Rep.gen {h h' : Heap} {C : D → Prop} (kl : ∀ a vs, h.IsList a vs → h'.IsList a vs) (kt : ∀ a vs, h.IsTuple a vs → h'.IsTuple a vs) (kb : ∀ a o b, h.get? a = some o → o.cls = .type "bytearray" → o.data = .bytearray b 0 → h'.get? a = some o)
    (ka : ∀ v p, C (.abs p) → p.P v h → p.P v h') (cl : ∀ l, C (.list l) → ∀ d ∈ l, C d) (ct : ∀ l, C (.tup l) → ∀ d ∈ l, C d) : ∀ {v : Value} {d : D}, Rep h v d → C d → Rep h' v d
  | _, _, .int i t, _ => .int i t
  | _, _, .bool b, _ => .bool b
  | _, _, .none, _ => .none
  | _, _, .val v, _ => .val v
  | _, _, .str s t, _ => .str s t
  | _, _, .bytes b t, _ => .bytes b t
  | _, _, .barr a o b e hc hd, _ => .barr a o b (kb a o b e hc hd) hc hd
  | _, _, .list a vs l hl hr, c => .list a vs l (kl _ _ hl) (RepAll.gen kl kt kb ka cl ct hr (cl _ c))
  | _, _, .tup a vs l hl hr, c => .tup a vs l (kt _ _ hl) (RepAll.gen kl kt kb ka cl ct hr (ct _ c))
  | _, _, .abs v p x, c => .abs v p (ka v p c x)
theorem RepAll.gen {h h' : Heap} {C : D → Prop} (kl : ∀ a vs, h.IsList a vs → h'.IsList a vs) (kt : ∀ a vs, h.IsTuple a vs → h'.IsTuple a vs) (kb : ∀ a o b, h.get? a = some o → o.cls = .type "bytearray" → o.data = .bytearray b 0 → h'.get? a = some o)
    (ka : ∀ v p, C (.abs p) → p.P v h → p.P v h') (cl : ∀ l, C (.list l) → ∀ d ∈ l, C d) (ct : ∀ l, C (.tup l) → ∀ d ∈ l, C d) : ∀ {vs : List Value} {ds : List D}, RepAll h vs ds → (∀ d ∈ ds, C d) → RepAll h' vs ds
  | _, _, .nil, _ => .nil
  | _, _, .cons v d vs ds x y, c => .cons v d vs ds (Rep.gen kl kt kb ka cl ct x (c _ (.head _))) (RepAll.gen kl kt kb ka cl ct y fun d hd => c d (.tail _ hd))
end
theorem barrK {h h' : Heap} (k : Solid2 h h') (a : Addr) (o : Obj) (b : Array UInt8) (e : h.get? a = some o) (hc : o.cls = .type "bytearray") (hd : o.data = .bytearray b 0) : h'.get? a = some o :=
  k a o e (by rw [hd]; intro _ _ q; cases q) (by rw [hd]; intro _ q; cases q) (Itc.not hc)
theorem Rep.solid {h h' : Heap} (k : Solid h h') {v : Value} {d : D} (r : Rep h v d) : Rep h' v d :=
  r.gen (C := fun _ => True) (fun _ _ => IsList.of2 k.two) (fun _ _ => IsTuple.of2 k.two) (barrK k.two) (fun v p _ x => p.st _ _ _ k x) (fun _ _ _ _ => trivial) (fun _ _ _ _ => trivial) trivial
theorem RepAll.solid {h h' : Heap} (k : Solid h h') {vs : List Value} {ds : List D} (r : RepAll h vs ds) : RepAll h' vs ds :=
  r.gen (C := fun _ => True) (fun _ _ => IsList.of2 k.two) (fun _ _ => IsTuple.of2 k.two) (barrK k.two) (fun v p _ x => p.st _ _ _ k x) (fun _ _ _ _ => trivial) (fun _ _ _ _ => trivial) fun _ _ => trivial
theorem Cf.listI {l : List D} (c : Cf (.list l)) : ∀ d ∈ l, Cf d := by cases c; assumption
theorem Cf.tupI {l : List D} (c : Cf (.tup l)) : ∀ d ∈ l, Cf d := by cases c; assumption
theorem Cf.absI {p : Abs} (c : Cf (.abs p)) : ∀ v h h', Solid2 h h' → p.P v h → p.P v h' := by cases c; assumption
theorem Rep.solid2 {h h' : Heap} (k : Solid2 h h') {v : Value} {d : D} (r : Rep h v d) (c : Cf d) : Rep h' v d :=
  r.gen (C := Cf) (fun _ _ => IsList.of2 k) (fun _ _ => IsTuple.of2 k) (barrK k) (fun v p c x => c.absI _ _ _ k x) (fun _ => Cf.listI) (fun _ => Cf.tupI) c
theorem RepAll.solid2 {h h' : Heap} (k : Solid2 h h') {vs : List Value} {ds : List D} (r : RepAll h vs ds) (c : ∀ d ∈ ds, Cf d) : RepAll h' vs ds :=
  r.gen (C := Cf) (fun _ _ => IsList.of2 k) (fun _ _ => IsTuple.of2 k) (barrK k) (fun v p c x => c.absI _ _ _ k x) (fun _ => Cf.listI) (fun _ => Cf.tupI) c
theorem Hop.get {h h' : Heap} (x : Hop h h') {a : Addr} {o : Obj} (e : h.get? a = some o) (hc : o.cls ≠ .none) (hd : ∀ es n, o.data ≠ .dict es n) (hi : ¬ Itc o) : h'.get? a = some o := by
  refine x.1 a o (fun q => ?_) e hd hi
  obtain ⟨_, ⟨ps, e1, _⟩, _⟩ := x
  rw [q, e1] at e; cases e; exact hc rfl
theorem Hop.nf {h h' : Heap} (x : Hop h h') {a : Addr} {o : Obj} (e : h.get? a = some o) (hc : ∀ vs, o.data ≠ .fields vs) (hd : ∀ es n, o.data ≠ .dict es n) : h'.get? a = some o := by
  refine x.1 a o (fun q => ?_) e hd (by rintro ⟨_, vs, q, _⟩; exact hc _ q)
  obtain ⟨_, ⟨ps, e1, _⟩, _⟩ := x
  rw [q, e1] at e; cases e; exact hc _ rfl
theorem Tb.ne_code {h : Heap} (x : Tb h) {c : Addr} {o : Obj} {vs : Array Value} {q : Str} {t : Tok} (e2 : h.get? c = some o) (e3 : o.data = .fields vs) (e4 : vs[1]? = some (.str q t)) : c ≠ 354 := by
  intro q
  obtain ⟨ps, p1, p2, _⟩ := x
  rw [q, p1] at e2; cases e2
  have hv : vs = ps := by cases e3; rfl
  rw [hv, ← Array.getElem?_toList] at e4
  match hp : ps.toList, p2 with
  | [], _ => rw [hp] at e4; cases e4
  | .int _ _ :: .int _ _ :: _ :: rest, _ => rw [hp] at e4; cases e4
theorem Hop.codeRec {h h' : Heap} (x : Hop h h') {v : Value} {q : Str} (r : h.CodeRec v q) : h'.CodeRec v q := by
  obtain ⟨c, o, vs, t, e1, e2, e3, e4⟩ := r
  exact ⟨c, o, vs, t, e1, x.1 c o (x.2.1.ne_code e2 e3 e4) e2 (by rw [e3]; intro _ _ q; cases q) (by rintro ⟨_, ws, q1, q2⟩; rw [e3] at q1; cases q1; exact q2 _ _ e4), e3, e4⟩
theorem Hop.list {h h' : Heap} (k : Hop h h') (a : Addr) (vs : Array Value) (x : h.IsList a vs) : h'.IsList a vs :=
  let ⟨o, e, hc, n, r⟩ := x; ⟨o, k.get e (by rw [hc]; intro q; cases q) (by rw [r]; intro _ _ q; cases q) (Itc.not hc), hc, n, r⟩
theorem Hop.tup {h h' : Heap} (k : Hop h h') (a : Addr) (vs : Array Value) (x : h.IsTuple a vs) : h'.IsTuple a vs :=
  let ⟨o, e, hc, n, r⟩ := x; ⟨o, k.get e (by rw [hc]; intro q; cases q) (by rw [r]; intro _ _ q; cases q) (Itc.not hc), hc, n, r⟩
theorem Hop.barr {h h' : Heap} (k : Hop h h') (a : Addr) (o : Obj) (b : Array UInt8) (e : h.get? a = some o) (hc : o.cls = .type "bytearray") (hd : o.data = .bytearray b 0) : h'.get? a = some o :=
  k.get e (by rw [hc]; intro q; cases q) (by rw [hd]; intro _ _ q; cases q) (Itc.not hc)
theorem Rep.hop {h h' : Heap} (k : Hop h h') {v : Value} {d : D} (r : Rep h v d) : Rep h' v d :=
  r.gen (C := fun _ => True) k.list k.tup k.barr (fun v p _ x => p.hop _ _ _ k x) (fun _ _ _ _ => trivial) (fun _ _ _ _ => trivial) trivial
theorem Rep.intI {h : Heap} {v : Value} {i : Int} (r : Rep h v (.int i)) : ∃ t, v = .int i t := by cases r; exact ⟨_, rfl⟩
theorem Rep.boolI {h : Heap} {v : Value} {i : Bool} (r : Rep h v (.bool i)) : v = .bool i := by cases r; rfl
theorem Rep.valI {h : Heap} {v u : Value} (r : Rep h v (.val u)) : v = u := by cases r; rfl
theorem Rep.strI {h : Heap} {v : Value} {i : Str} (r : Rep h v (.str i)) : ∃ t, v = .str i t := by cases r; exact ⟨_, rfl⟩
theorem Rep.barrI {h : Heap} {v : Value} {b : Array UInt8} (r : Rep h v (.barr b)) : ∃ a o, v = .ref a ∧ h.get? a = some o ∧ o.cls = .type "bytearray" ∧ o.data = .bytearray b 0 := by
  cases r with | barr a o _ e hc hd => exact ⟨a, o, rfl, e, hc, hd⟩
theorem Rep.listI {h : Heap} {v : Value} {l : List D} (r : Rep h v (.list l)) : ∃ a vs, v = .ref a ∧ h.IsList a vs ∧ RepAll h vs.toList l := by
  cases r with | list a vs _ x y => exact ⟨a, vs, rfl, x, y⟩
theorem Rep.tupI {h : Heap} {v : Value} {l : List D} (r : Rep h v (.tup l)) : ∃ a vs, v = .ref a ∧ h.IsTuple a vs ∧ RepAll h vs.toList l := by
  cases r with | tup a vs _ x y => exact ⟨a, vs, rfl, x, y⟩
theorem Rep.absI {h : Heap} {v : Value} {p : Abs} (r : Rep h v (.abs p)) : p.P v h := by cases r with | abs _ _ x => exact x
theorem Rep.kp {b : Nat} {h h' : Heap} {v : Value} {d : D} (x : Rep h v d) (k : Kp b h h') : Rep h' v d := x.solid k.solid
theorem RepAll.kp {b : Nat} {h h' : Heap} {v : List Value} {d : List D} (x : RepAll h v d) (k : Kp b h h') : RepAll h' v d := x.solid k.solid

/-- a name of the frame -/
noncomputable def VarAt (env : Env) (h : Heap) (x : Str) (d : D) : Prop :=
  (env.kindOf x = some .local ∧ ∃ m v, h.Ns env.locals m ∧ m x = some v ∧ Rep h v d) ∨
  ((env.kindOf x = some .cell ∨ (env.kindOf x = some .free ∧ (x == ("__classdict__" : Str)) = false)) ∧ ∃ c v, env.cells.lookup x = some c ∧ h.IsCell c (some v) ∧ Rep h v d)
theorem VarAt.kp {b : Nat} {env : Env} {h h' : Heap} {x : Str} {d : D} (k : Kp b h h') : VarAt env h x d → VarAt env h' x d
  | .inl ⟨hk, m, v, n, hm, r⟩ => .inl ⟨hk, m, v, k.ns n, hm, r.kp k⟩
  | .inr ⟨hk, c, v, hc, hv, r⟩ => .inr ⟨hk, c, v, hc, k.cell hv, r.kp k⟩

structure Vars (sc : Scope) (env : Env) (Γ : List (Str × D)) (h : Heap) : Prop where
  sco : env.scope = sc
  kind : sc.kind = .function
  glob : env.globals = mainGlobals
  blt : env.builtins = builtinsNs
  nsv : ∃ m, h.Ns env.locals m
  var : ∀ p ∈ Γ, VarAt env h p.1 p.2
theorem Vars.kp {b : Nat} {sc : Scope} {env : Env} {Γ : List (Str × D)} {h h' : Heap} (x : Vars sc env Γ h) (k : Kp b h h') : Vars sc env Γ h' :=
  ⟨x.sco, x.kind, x.glob, x.blt, let ⟨m, n⟩ := x.nsv; ⟨m, k.ns n⟩, fun p hp => (x.var p hp).kp k⟩

noncomputable def look {α : Type} (x : Str) : List (Str × α) → Option α
  | [] => none
  | (y, e) :: r => if y = x then some e else look x r
noncomputable def put {α : Type} (x : Str) (d : α) : List (Str × α) → List (Str × α)
  | [] => [(x, d)]
  | (y, e) :: r => if y = x then (y, d) :: r else (y, e) :: put x d r
theorem look_mem {α : Type} {x : Str} {d : α} : ∀ {l : List (Str × α)}, look x l = some d → (x, d) ∈ l
  | [], h => nomatch h
  | (y, e) :: r, h => by
    unfold look at h
    split at h
    · rename_i q; cases h; rw [q]; exact .head _
    · exact .tail _ (look_mem h)

/-- evaluation -/
structure Ev (w : World) (b n : Nat) (sc : Scope) (Γ : List (Str × D)) (e : Expr) (d : D) : Prop where
  run : ∀ (env : Env) (A : Around) (s : Shared) (Q : Value → Shared → Prop) (E : Value → Shared → Prop), Cx w b n A s.heap → Vars sc env Γ s.heap →
    (∀ v h' k, Kp b s.heap h' → Rep h' v d → Q v { s with heap := h', toks := k }) → wpR (model PG w) A (eval e env) Q E s
/-- a test -/
structure Ts (w : World) (b n : Nat) (sc : Scope) (Γ : List (Str × D)) (e : Expr) (t : Bool) : Prop where
  run : ∀ (env : Env) (A : Around) (s : Shared) (Q : Bool → Shared → Prop) (E : Value → Shared → Prop), Cx w b n A s.heap → Vars sc env Γ s.heap →
    (∀ h' k, Kp b s.heap h' → Q t { s with heap := h', toks := k }) → wpR (model PG w) A (isTrue e env (eval e env)) Q E s

theorem Cx.kp {w : World} {b n : Nat} {A : Around} {h h' : Heap} (x : Cx w b n A h) (k : Kp b h h') : Cx w b n A h' :=
  ⟨let ⟨l, e, s⟩ := x.ax; ⟨l, e, s.kp k⟩, x.pf.kp k, let ⟨a, o, l, e⟩ := x.low; let ⟨_, e1, _⟩ := k a o e; ⟨a, _, l, e1⟩⟩
theorem Cx.size {w : World} {b n : Nat} {A : Around} {h : Heap} (x : Cx w b n A h) : b ≤ h.objs.size := let ⟨_, _, l, e⟩ := x.low; Nat.le_trans l (Nat.le_of_lt (Heap.lt_size e))

section
variable {w : World} {b n : Nat} {sc : Scope} {Γ : List (Str × D)}

theorem Ev.int {i : Int} {k pos} : Ev w b n sc Γ (.Constant (.int i) k pos) (.int i) :=
  ⟨fun _ _ _ _ _ _ _ q => R.of (wpAny_Constant_int (q _ _ _ .refl (.int _ _)))⟩
theorem Ev.bool {i : Bool} {k pos} : Ev w b n sc Γ (.Constant (.bool i) k pos) (.bool i) :=
  ⟨fun _ _ s _ _ _ _ q => R.of (wpAny_Constant_bool (q _ _ s.toks .refl (.bool _)))⟩
theorem Ev.str {i : Str} {k pos} : Ev w b n sc Γ (.Constant (.str i) k pos) (.str i) :=
  ⟨fun _ _ _ _ _ _ _ q => R.of (wpAny_Constant_str (q _ _ _ .refl (.str _ _)))⟩

theorem loadV {x : Str} {d : D} {env : Env} {A : Around} {s : Shared} {Q : Value → Shared → Prop} {E : Value → Shared → Prop} (v : Vars sc env Γ s.heap) (h : look x Γ = some d)
    (q : ∀ v, Rep s.heap v d → Q v s) : wpAny (model PG w) A (loadName env x) Q E s := by
  rcases v.var _ (look_mem h) with ⟨hk, m, v', hn, hm, r⟩ | ⟨hk, c, v', hc, hv, r⟩
  · exact wpAny_loadName_local (by rw [v.sco]; exact v.kind) hk hn hm (q _ r)
  · rcases hk with hk | ⟨hk, hx⟩
    · exact wpAny_loadName_cell (by rw [v.sco]; exact v.kind) hk hc hv (q _ r)
    · exact wpAny_loadName_free (by rw [v.sco]; exact v.kind) hk hc hv (q _ r) hx

theorem Ev.name {x : Str} {d : D} {pos} (h : look x Γ = some d) (hd : (x == ("__debug__" : Str)) = false := by decide) : Ev w b n sc Γ (.Name x pos) d :=
  ⟨fun _ _ s _ _ _ v q => R.of (wpAny_Name (loadV v h fun v' r => q _ _ s.toks .refl r) hd)⟩
theorem Ev.glob {x : Str} {v : Value} {pos} (hk : sc.names.lookup x = some .globalImplicit) (e : nsIn (hd.heap_1 w.params) mainGlobals x = some (some v)) (hd : (x == ("__debug__" : Str)) = false := by decide) :
    Ev w b n sc Γ (.Name x pos) (.val v) := by
  refine ⟨fun env A s Q E c vr q => ?_⟩
  obtain ⟨mg, hg⟩ := c.pf.g
  refine R.of ?_
  exact Name_function_global (by rw [vr.sco]; exact vr.kind) (by unfold Env.kindOf; rw [vr.sco]; exact hk) (loadGlobal_global (by rw [vr.glob]; exact hg) (mg_of c.pf.k hg e) (q _ _ s.toks .refl (.val _))) hd
theorem Ev.blt {x : Str} {v : Value} {pos} (hk : sc.names.lookup x = some .globalImplicit) (e : nsIn (hd.heap_1 w.params) mainGlobals x = some none) (hv : bootBuiltins x = some v) (hn : x ≠ "__name__")
    (hd : (x == ("__debug__" : Str)) = false := by decide) : Ev w b n sc Γ (.Name x pos) (.val v) := by
  refine ⟨fun env A s Q E c vr q => ?_⟩
  obtain ⟨mg, hg⟩ := c.pf.g
  obtain ⟨mb, hb, hbb⟩ := c.pf.b
  refine R.of ?_
  exact Name_function_global (by rw [vr.sco]; exact vr.kind) (by unfold Env.kindOf; rw [vr.sco]; exact hk) (loadGlobal_builtin (by rw [vr.glob]; exact hg) (mg_none_of c.pf.k hg e) (by rw [vr.blt]; exact hb) ((hbb x hn).trans hv) (q _ _ s.toks .refl (.val _))) hd

/-- an operation on two values -/
structure Bo (w : World) (b : Nat) (op : Operator) (d₁ d₂ d : D) : Prop where
  run : ∀ (A : Around) (s : Shared) (u v : Value) (Q E : Value → Shared → Prop), A.handled = none → A.units + 10 < cLine → Rep s.heap u d₁ → Rep s.heap v d₂ →
    (∀ v h' k, Kp b s.heap h' → Rep h' v d → Q v { s with heap := h', toks := k }) → wpAny (model PG w) A (binaryOp op u v) Q E s

theorem Ev.bin {l r : Expr} {op : Operator} {pos} {d₁ d₂ d : D} (hn : 0 < n) (hl : Ev w b n sc Γ l d₁) (hr : Ev w b n sc Γ r d₂) (ho : Bo w b op d₁ d₂ d) : Ev w b n sc Γ (.BinOp l op r pos) d := by
  refine ⟨fun env A s Q E c vr q => ?_⟩
  refine R.BinOp (hl.run env A s _ _ c vr fun u h1 k1 kp1 r1 => ?_)
  refine hr.run env A _ _ _ (c.kp kp1) (vr.kp kp1) fun v h2 k2 kp2 r2 => ?_
  refine R.of ?_
  refine ho.run A _ u v _ _ c.hnd (by have := c.un; omega) (r1.kp kp2) r2 fun v' h3 k3 kp3 r3 => ?_
  exact q v' h3 k3 ((kp1.trans kp2).trans kp3) r3

theorem Bo.add {x y : Int} : Bo w b .Add (.int x) (.int y) (.int (x + y)) := by
  refine ⟨fun A s u v Q E _ _ r1 r2 q => ?_⟩
  (first | obtain ⟨_, rfl⟩ := r1.intI | obtain rfl := r1.valI | obtain rfl := r1.boolI | obtain ⟨_, rfl⟩ := r1.strI | cases r1); (first | obtain ⟨_, rfl⟩ := r2.intI | obtain rfl := r2.valI | obtain rfl := r2.boolI | obtain ⟨_, rfl⟩ := r2.strI | cases r2)
  exact wpAny_add_int (q _ _ _ .refl (.int _ _))
theorem Bo.sub {x y : Int} : Bo w b .Sub (.int x) (.int y) (.int (x - y)) := by
  refine ⟨fun A s u v Q E _ _ r1 r2 q => ?_⟩
  (first | obtain ⟨_, rfl⟩ := r1.intI | obtain rfl := r1.valI | obtain rfl := r1.boolI | obtain ⟨_, rfl⟩ := r1.strI | cases r1); (first | obtain ⟨_, rfl⟩ := r2.intI | obtain rfl := r2.valI | obtain rfl := r2.boolI | obtain ⟨_, rfl⟩ := r2.strI | cases r2)
  exact SiftDown.sub_int (q _ _ _ .refl (.int _ _))
theorem Bo.and {x y : Int} : Bo w b .BitAnd (.int x) (.int y) (.int (Builtin.bitAnd x y)) := by
  refine ⟨fun A s u v Q E _ _ r1 r2 q => ?_⟩
  (first | obtain ⟨_, rfl⟩ := r1.intI | obtain rfl := r1.valI | obtain rfl := r1.boolI | obtain ⟨_, rfl⟩ := r1.strI | cases r1); (first | obtain ⟨_, rfl⟩ := r2.intI | obtain rfl := r2.valI | obtain rfl := r2.boolI | obtain ⟨_, rfl⟩ := r2.strI | cases r2)
  exact and_int (q _ _ _ .refl (.int _ _))
theorem Bo.or {x y : Int} : Bo w b .BitOr (.int x) (.int y) (.int (Builtin.bitOr x y)) := by
  refine ⟨fun A s u v Q E _ _ r1 r2 q => ?_⟩
  (first | obtain ⟨_, rfl⟩ := r1.intI | obtain rfl := r1.valI | obtain rfl := r1.boolI | obtain ⟨_, rfl⟩ := r1.strI | cases r1); (first | obtain ⟨_, rfl⟩ := r2.intI | obtain rfl := r2.valI | obtain rfl := r2.boolI | obtain ⟨_, rfl⟩ := r2.strI | cases r2)
  exact or_int (q _ _ _ .refl (.int _ _))
theorem Bo.xor {x y : Int} : Bo w b .BitXor (.int x) (.int y) (.int (Builtin.bitXor x y)) := by
  refine ⟨fun A s u v Q E _ _ r1 r2 q => ?_⟩
  (first | obtain ⟨_, rfl⟩ := r1.intI | obtain rfl := r1.valI | obtain rfl := r1.boolI | obtain ⟨_, rfl⟩ := r1.strI | cases r1); (first | obtain ⟨_, rfl⟩ := r2.intI | obtain rfl := r2.valI | obtain rfl := r2.boolI | obtain ⟨_, rfl⟩ := r2.strI | cases r2)
  exact xor_int (q _ _ _ .refl (.int _ _))
theorem Bo.mod {x y : Int} (hy : 0 < y) : Bo w b .Mod (.int x) (.int y) (.int (x % y)) := by
  refine ⟨fun A s u v Q E _ _ r1 r2 q => ?_⟩
  (first | obtain ⟨_, rfl⟩ := r1.intI | obtain rfl := r1.valI | obtain rfl := r1.boolI | obtain ⟨_, rfl⟩ := r1.strI | cases r1); (first | obtain ⟨_, rfl⟩ := r2.intI | obtain rfl := r2.valI | obtain rfl := r2.boolI | obtain ⟨_, rfl⟩ := r2.strI | cases r2)
  refine mod_int' (by omega) ?_
  rw [Int.fmod_eq_emod_of_nonneg _ (by omega)]
  exact q _ _ _ .refl (.int _ _)
theorem Bo.div {x y : Int} (hy : 0 < y) (hl : y < 2 ^ 1000) : Bo w b .FloorDiv (.int x) (.int y) (.int (x / y)) := by
  refine ⟨fun A s u v Q E _ _ r1 r2 q => ?_⟩
  (first | obtain ⟨_, rfl⟩ := r1.intI | obtain rfl := r1.valI | obtain rfl := r1.boolI | obtain ⟨_, rfl⟩ := r1.strI | cases r1); (first | obtain ⟨_, rfl⟩ := r2.intI | obtain rfl := r2.valI | obtain rfl := r2.boolI | obtain ⟨_, rfl⟩ := r2.strI | cases r2)
  have hp : Builtin.divisionGoesByPylong x y = false := by
    refine PyProof.noPylong_of_log2 ?_
    have h0 : y.natAbs ≠ 0 := by omega
    have h1 : y.natAbs < 2 ^ 1000 := by omega
    have := (Nat.log2_lt h0).mpr h1
    omega
  refine floordiv_int (by omega) ?_ (.inl hp)
  rw [Int.fdiv_eq_ediv_of_nonneg _ (by omega)]
  exact q _ _ _ .refl (.int _ _)
end
end Mine
end
section
open PySem PySem.W PySem.Calls PyProof.Rows
set_option Elab.async false
set_option maxRecDepth 100000
set_option linter.unusedVariables false
namespace Mine
section
variable {w : World} {b n : Nat} {sc : Scope} {Γ : List (Str × D)}

/-- who keeps the call -/
noncomputable abbrev Kpr (w : World) (v : Value) (h : Heap) : Prop := ∃ k, (k = Keeper.frame ∨ k = Keeper.machine ∨ k = Keeper.boundFrame) ∧ Looks (model PG w) h (keeperOf v) k
/-- a call: what it gives back -/
structure Fn (w : World) (b n : Nat) (f : D) (args : List D) (d : D) : Prop where
  keep : ∀ v h, PF w b h → Rep h v f → Kpr w v h
  run : ∀ (A : Around) (s : Shared) (v : Value) (vs : List Value) (Q E : Value → Shared → Prop), Cx w b n A s.heap → Rep s.heap v f → RepAll s.heap vs args →
    (∀ v h' k, Kp b s.heap h' → Rep h' v d → Q v { s with heap := h', toks := k }) → wpR (model PG w) A (call v vs) Q E s
theorem Kpr.builtin {i : String} {h : Heap} : Kpr w (.builtin i) h := ⟨.machine, .inr (.inl rfl), .now⟩
theorem Kpr.type {i : String} {h : Heap} : Kpr w (.type i) h := ⟨.machine, .inr (.inl rfl), .now⟩

/-- several values in order -/
structure Evs (w : World) (b n : Nat) (sc : Scope) (Γ : List (Str × D)) (es : List Expr) (ds : List D) : Prop where
  plain : ∀ env pos, (backTo pos (starEach es env)).any (·.1) = false
  run : ∀ (env : Env) (A : Around) (s : Shared) (pos : Pos) (Q : List Value → Shared → Prop) (E : Value → Shared → Prop), Cx w b n A s.heap → Vars sc env Γ s.heap →
    (∀ vs h' k, Kp b s.heap h' → RepAll h' vs ds → Q vs { s with heap := h', toks := k }) → wpR (model PG w) A (spliced (backTo pos (starEach es env))) Q E s

theorem Evs.nil : Evs w b n sc Γ [] [] := ⟨fun _ _ => rfl, fun _ _ s _ _ _ _ _ q => R.of (spliced_none (q _ _ s.toks .refl .nil))⟩
theorem Evs.cons {e : Expr} {es : List Expr} {d : D} {ds : List D} (he : Ev w b n sc Γ e d) (hs : Evs w b n sc Γ es ds)
    (hp : ∀ env, starEach (e :: es) env = (false, eval e env) :: starEach es env := by exact fun _ => rfl) : Evs w b n sc Γ (e :: es) (d :: ds) := by
  refine ⟨fun env pos => ?_, fun env A s pos Q E c vr q => ?_⟩
  · rw [hp env]
    show (false || (backTo pos (starEach es env)).any (·.1)) = false
    rw [hs.plain env pos]; rfl
  · rw [hp env]
    refine R.splicedCons (he.run env A s _ _ c vr fun u h1 k1 kp1 r1 => ?_)
    refine hs.run env A _ pos _ _ (c.kp kp1) (vr.kp kp1) fun vs h2 k2 kp2 r2 => ?_
    exact q _ h2 k2 (kp1.trans kp2) (.cons _ _ _ _ (r1.kp kp2) r2)

theorem Ev.call {x : Str} {np pos : Pos} {e : Expr} {rest : List Expr} {f : D} {ds : List D} {d : D} (hf : Ev w b n sc Γ (.Name x np) f)
    (ha : Evs w b n sc Γ (e :: rest) ds) (fn : Fn w b n f ds d)
    (he : ∀ env, starEach (e :: rest) env = (false, eval e env) :: starEach rest env := by exact fun _ => rfl) : Ev w b n sc Γ (.Call (.Name x np) (e :: rest) [] pos) d := by
  refine ⟨fun env A s Q E c vr q => ?_⟩
  refine R.CallName (hf.run env A s _ _ c vr fun u h1 k1 kp1 r1 => ?_)
  have pl := ha.plain env pos
  have hr := ha.run env A { s with heap := h1, toks := k1 } pos (fun vs s₁ => (PF w b s₁.heap ∧ Rep s₁.heap u f) ∧ wpR (model PG w) A (PySem.call u ([] ++ vs)) Q E s₁) E (c.kp kp1) (vr.kp kp1) fun vs h2 k2 kp2 r2 =>
    ⟨⟨(c.kp (kp1.trans kp2)).pf, r1.kp kp2⟩, fn.run A _ u _ _ _ (c.kp (kp1.trans kp2)) (r1.kp kp2) r2 fun v h3 k3 kp3 r3 => q v h3 k3 ((kp1.trans kp2).trans kp3) r3⟩
  rw [he env] at pl hr ⊢
  exact R.callWith (P := fun h => PF w b h ∧ Rep h u f) (by rw [pl]; rfl) (fun h x => fn.keep u h x.1 x.2) (R.argsPlain hr)

/-- what one of the top's objects holds under a name -/
noncomputable def Attr (w : World) (b : Nat) (x : Addr) (name : Str) (i : Int) : Prop :=
  ∃ t, ∀ (A : Around) (s : Shared) (Q E : Value → Shared → Prop), PF w b s.heap → Q (.int i t) { s with toks := s.toks + 1 } → wpAny (model PG w) A (getAttr (.ref x) name true) Q E s
noncomputable def Meth (w : World) (b : Nat) (x : Addr) (name : Str) (f : Addr) : Prop :=
  ∀ (A : Around) (s : Shared) (pl : Sem Bool) (Q : Value × List Value → Shared → Prop) (E : Value → Shared → Prop), PF w b s.heap → Q (.ref f, [.ref x]) s → wpAny (model PG w) A (getMethod (.ref x) name pl) Q E s

theorem Attr.of {x C dx : Addr} {es : List DictEntry} {k : Nat} {sl : Array (Option Value)} {name : Str} {i : Int} {t : Tok} {attr : Option Value}
    (h1 : (hd.heap_1 w.params).lookup x = some ⟨.ref C, some dx, .plain, sl⟩) (h2 : (hd.heap_1 w.params).lookup dx = some (dictOf es k))
    (hg : plainGet (hd.heap_1 w.params) C name = true) (hh : hasDictIn (hd.heap_1 w.params) C = true) (ha : findIn (hd.heap_1 w.params) (.ref C) name = some attr) (hn : noGet (hd.heap_1 w.params) attr = true)
    (hl : getL name es = some (some (.int i t))) : Attr w b x name i :=
  ⟨t, fun A s Q E pf q => get_value pf.k (InstAt.of_K pf.k h1 h2) (plainGet_of hg).1 (findObj_own hh ha hn hl) rfl q⟩
theorem Meth.of {x C dx f : Addr} {es : List DictEntry} {k : Nat} {sl : Array (Option Value)} {name : Str}
    (h1 : (hd.heap_1 w.params).lookup x = some ⟨.ref C, some dx, .plain, sl⟩) (h2 : (hd.heap_1 w.params).lookup dx = some (dictOf es k))
    (hg : plainGet (hd.heap_1 w.params) C name = true) (hf : findIn (hd.heap_1 w.params) (.ref C) name = some (some (.ref f))) (ht : isFn (hd.heap_1 w.params) (.ref f) = true)
    (hl : getL name es = some none) : Meth w b x name f :=
  fun A s pl Q E pf q => method_fn pf.k (InstAt.of_K pf.k h1 h2) (plainGet_of hg).1 (plainGet_of hg).2 hf (beq_iff_eq.mp ht) (by show (lookIn name (dictOf es k)).map _ = _; rw [lookIn_dict, hl]; rfl) q

theorem Ev.attr {x name : Str} {np pos : Pos} {a : Addr} {i : Int} (ho : look x Γ = some (.val (.ref a))) (ha : Attr w b a name i) (hx : (x == ("__debug__" : Str)) = false := by decide) : Ev w b n sc Γ (.Attribute (.Name x np) name pos) (.int i) := by
  refine ⟨fun env A s Q E c vr q => ?_⟩
  obtain ⟨t, ha⟩ := ha
  refine R.of (Attribute_name (wpAny_Name (loadV vr ho fun u r1 => ?_) hx))
  (first | obtain ⟨_, rfl⟩ := r1.intI | obtain rfl := r1.valI | obtain rfl := r1.boolI | obtain ⟨_, rfl⟩ := r1.strI | cases r1)
  exact ha A _ _ _ c.pf (q _ _ _ .refl (.int _ _))

theorem Ev.meth {x name : Str} {np apos pos : Pos} {e : Expr} {rest : List Expr} {a f : Addr} {ds : List D} {d : D} (ho : Ev w b n sc Γ (.Name x np) (.val (.ref a))) (hm : Meth w b a name f)
    (ha : Evs w b n sc Γ (e :: rest) ds) (fn : Fn w b n (.val (.ref f)) (.val (.ref a) :: ds) d)
    (hv : ∀ env, ∃ pl, eval (.Call (.Attribute (.Name x np) name apos) (e :: rest) [] pos) env = (do
      let ov ← eval (.Name x np) env
      standAt apos.atName
      let (f, first) ← holding [ov] (getMethod ov name pl)
      callWith pos f first (backTo pos (starEach (e :: rest) env)) (backToKw pos (keywordEach [] env))) := by exact fun _ => ⟨_, rfl⟩)
    (he : ∀ env, starEach (e :: rest) env = (false, eval e env) :: starEach rest env := by exact fun _ => rfl) : Ev w b n sc Γ (.Call (.Attribute (.Name x np) name apos) (e :: rest) [] pos) d := by
  refine ⟨fun env A s Q E c vr q => ?_⟩
  obtain ⟨pl, hv⟩ := hv env
  refine R.CallMeth (ho.run env A s _ _ c vr fun u h1 k1 kp1 r1 => ?_) hv
  (first | obtain ⟨_, rfl⟩ := r1.intI | obtain rfl := r1.valI | obtain rfl := r1.boolI | obtain ⟨_, rfl⟩ := r1.strI | cases r1)
  refine hm A _ pl _ _ (c.kp kp1).pf ?_
  have pl := ha.plain env pos
  have hr := ha.run env A { s with heap := h1, toks := k1 } pos (fun vs s₁ => PF w b s₁.heap ∧ wpR (model PG w) A (PySem.call (.ref f) ([.ref a] ++ vs)) Q E s₁) E (c.kp kp1) (vr.kp kp1) fun vs h2 k2 kp2 r2 =>
    ⟨(c.kp (kp1.trans kp2)).pf, fn.run A _ _ _ _ _ (c.kp (kp1.trans kp2)) (.val _) (.cons _ _ _ _ (.val _) r2) fun v h3 k3 kp3 r3 => q v h3 k3 ((kp1.trans kp2).trans kp3) r3⟩
  rw [he env] at pl hr ⊢
  exact R.callWith (P := PF w b) (by rw [pl]; rfl) (fun h x => fn.keep _ h x (.val _)) (R.argsPlain hr)

/-- the frame of a def that runs -/
structure St (w : World) (b : Nat) (sc : Scope) (env : Env) (outer : List Env) (g : Heap) (Γ : List (Str × D)) (h : Heap) : Prop where
  vars : Vars sc env Γ h
  nd : (Γ.map (·.1)).Nodup
  kp : Kp b g h
  fl : g.get? env.locals = none
  fc : ∀ x c, sc.names.lookup x = some .cell → env.cells.lookup x = some c → g.get? c = none
  ce : ∀ x, sc.names.lookup x = some .cell → ∃ c v, env.cells.lookup x = some c ∧ h.IsCell c v
  ap : ∀ x y c, sc.names.lookup x = some .cell → env.cells.lookup x = some c → env.cells.lookup y = some c → x = y
  pg : PF w b g
  sg : Stk b outer g
  lo : b ≤ env.locals
  ef : env.frame = some env.locals
theorem St.to {env : Env} {outer : List Env} {g h h' : Heap} (x : St w b sc env outer g Γ h) (k : Kp b h h') : St w b sc env outer g Γ h' :=
  ⟨x.vars.kp k, x.nd, x.kp.trans k, x.fl, x.fc, fun y hy => let ⟨c, v, e, i⟩ := x.ce y hy; ⟨c, v, e, k.cell i⟩, x.ap, x.pg, x.sg, x.lo, x.ef⟩
theorem St.cx {env : Env} {outer : List Env} {g h : Heap} {A : Around} (x : St w b sc env outer g Γ h) (a : Ax n A (env :: outer)) : Cx w b n A h := by
  obtain ⟨m, o, es, ep, e, d, _⟩ := x.vars.nsv
  refine ⟨⟨_, a, fun env' he => ?_⟩, x.pg.kp x.kp, ⟨_, o, x.lo, e⟩⟩
  rcases List.mem_cons.mp he with rfl | he
  · exact ⟨by rw [x.vars.sco, x.vars.kind]; decide, _, o, x.ef, x.lo, e, es, ep, d⟩
  · exact (x.sg.kp x.kp) env' he

/-- the data stand on new objects alone -/
noncomputable def RepF (h₀ h : Heap) (v : Value) (d : D) : Prop := ∃ g : Heap, (∀ a o, g.get? a = some o → h.get? a = some o) ∧ (∀ a o, g.get? a = some o → h₀.get? a = none) ∧ Rep g v d
theorem RepF.rep {h₀ h : Heap} {v : Value} {d : D} (x : RepF h₀ h v d) : Rep h v d := let ⟨_, k, _, r⟩ := x; r.solid fun a o e _ _ => k a o e
theorem RepF.sub {b : Nat} {h₀ h₁ h : Heap} {v : Value} {d : D} (x : RepF h₁ h v d) (k : Kp b h₀ h₁) : RepF h₀ h v d := let ⟨g, a, f, r⟩ := x; ⟨g, a, fun y o e => k.none (f y o e), r⟩
noncomputable def occ (h : Heap) : List Addr := (List.range h.objs.size).filter fun a => (h.get? a).isSome
theorem mem_occ {h : Heap} {a : Addr} {o : Obj} (e : h.get? a = some o) : a ∈ occ h := List.mem_filter.mpr ⟨List.mem_range.mpr (Heap.lt_size e), by rw [e]; rfl⟩
theorem occ_some {h : Heap} {a : Addr} (m : a ∈ occ h) : ∃ o, h.get? a = some o := Option.isSome_iff_exists.mp (List.mem_filter.mp m).2
theorem occ_none {h : Heap} {a : Addr} (e : h.get? a = none) : a ∉ occ h := fun m => by obtain ⟨o, q⟩ := occ_some m; rw [e] at q; cases q
theorem new_of {h₀ h : Heap} {a : Addr} {o : Obj} (e : (hideAll h (occ h₀)).get? a = some o) : h₀.get? a = none := by
  cases q : h₀.get? a with
  | none => rfl
  | some o' => rw [hideAll_none _ (mem_occ q)] at e; cases e
theorem RepF.mk' {h₀ h : Heap} {v : Value} {d : D} (r : Rep (hideAll h (occ h₀)) v d) : RepF h₀ h v d := ⟨_, fun _ _ e => of_hideAll _ e, fun _ _ e => new_of e, r⟩
theorem RepF.to {h₀ h h' : Heap} {v : Value} {d : D} (r : RepF h₀ h v d) (k : ∀ a o, h₀.get? a = none → h.get? a = some o → (∀ es n, o.data ≠ .dict es n) → ¬ Itc o → h'.get? a = some o) : RepF h₀ h' v d := by
  obtain ⟨g, g1, g2, g3⟩ := r
  exact .mk' (g3.solid fun a o e hd hi => hideAll_get _ (k a o (g2 a o e) (g1 a o e) hd hi) (occ_none (g2 a o e)))
inductive Out where
  | nx (Γ : List (Str × D)) | rt (d : D) | rf (d : D) | bk (Γ : List (Str × D)) | ct (Γ : List (Str × D))
noncomputable def Out.ok (w : World) (b : Nat) (sc : Scope) (env : Env) (outer : List Env) (g : Heap) : Out → Flow → Heap → Prop
  | .nx Γ, .next, h => St w b sc env outer g Γ h
  | .rt d, .ret v, h => Kp b g h ∧ Rep h v d
  | .rf d, .ret v, h => Kp b g h ∧ RepF g h v d
  | .bk Γ, .brk, h => St w b sc env outer g Γ h
  | .ct Γ, .cont, h => St w b sc env outer g Γ h
  | _, _, _ => False

structure Ex (w : World) (b n : Nat) (sc : Scope) (Γ : List (Str × D)) (ss : List Stmt) (o : Out) : Prop where
  run : ∀ (env : Env) (outer : List Env) (g : Heap) (A : Around) (s : Shared) (Q : Flow → Shared → Prop) (E : Value → Shared → Prop), Ax n A (env :: outer) → St w b sc env outer g Γ s.heap →
    (∀ fl h' k, o.ok w b sc env outer g fl h' → Q fl { s with heap := h', toks := k }) → wpR (model PG w) A (execs ss env) Q E s
structure Ex1 (w : World) (b n : Nat) (sc : Scope) (Γ : List (Str × D)) (ss : Stmt) (o : Out) : Prop where
  run : ∀ (env : Env) (outer : List Env) (g : Heap) (A : Around) (s : Shared) (Q : Flow → Shared → Prop) (E : Value → Shared → Prop), Ax n A (env :: outer) → St w b sc env outer g Γ s.heap →
    (∀ fl h' k, o.ok w b sc env outer g fl h' → Q fl { s with heap := h', toks := k }) → wpR (model PG w) A (exec ss env) Q E s

theorem Ex.nil : Ex w b n sc Γ [] (.nx Γ) := ⟨fun _ _ _ _ s _ _ _ st q => R.of (wpAny_execs_nil (q .next _ s.toks st))⟩
theorem Ex.cons {st : Stmt} {rest : List Stmt} {Γ' : List (Str × D)} {o : Out} (h : Ex1 w b n sc Γ st (.nx Γ')) (r : Ex w b n sc Γ' rest o) : Ex w b n sc Γ (st :: rest) o := by
  refine ⟨fun env outer g A s Q E ax x q => ?_⟩
  refine R.execs_cons (h.run env outer g A s _ _ ax x fun fl h' k ok => ?_)
  cases fl with
  | next => exact r.run env outer g A _ _ _ ax ok q
  | _ => exact ok.elim
/-- a statement that leaves -/
theorem Ex.leave {st : Stmt} {rest : List Stmt} {o : Out} (h : Ex1 w b n sc Γ st o) (ho : ∀ Γ', o ≠ .nx Γ') : Ex w b n sc Γ (st :: rest) o := by
  refine ⟨fun env outer g A s Q E ax x q => ?_⟩
  refine R.execs_cons (h.run env outer g A s _ _ ax x fun fl h' k ok => ?_)
  cases o with
  | nx Γ' => exact absurd rfl (ho Γ')
  | rt d => cases fl <;> first | exact ok.elim | exact q _ _ _ ok
  | rf d => cases fl <;> first | exact ok.elim | exact q _ _ _ ok
  | bk d => cases fl <;> first | exact ok.elim | exact q _ _ _ ok
  | ct d => cases fl <;> first | exact ok.elim | exact q _ _ _ ok

/-- evaluation to something new -/
structure EvF (w : World) (b n : Nat) (sc : Scope) (Γ : List (Str × D)) (e : Expr) (d : D) : Prop where
  run : ∀ (env : Env) (A : Around) (s : Shared) (Q : Value → Shared → Prop) (E : Value → Shared → Prop), Cx w b n A s.heap → Vars sc env Γ s.heap →
    (∀ v h' k, Kp b s.heap h' → RepF s.heap h' v d → Q v { s with heap := h', toks := k }) → wpR (model PG w) A (eval e env) Q E s
theorem EvF.ev {e : Expr} {d : D} (h : EvF w b n sc Γ e d) : Ev w b n sc Γ e d := ⟨fun env A s Q E c vr q => h.run env A s Q E c vr fun v h' k kp r => q v h' k kp r.rep⟩
structure FnF (w : World) (b n : Nat) (f : D) (args : List D) (d : D) : Prop where
  keep : ∀ v h, PF w b h → Rep h v f → Kpr w v h
  run : ∀ (A : Around) (s : Shared) (v : Value) (vs : List Value) (Q E : Value → Shared → Prop), Cx w b n A s.heap → Rep s.heap v f → RepAll s.heap vs args →
    (∀ v h' k, Kp b s.heap h' → RepF s.heap h' v d → Q v { s with heap := h', toks := k }) → wpR (model PG w) A (call v vs) Q E s
theorem FnF.fn {f d : D} {args : List D} (h : FnF w b n f args d) : Fn w b n f args d := ⟨h.keep, fun A s v vs Q E c r rs q => h.run A s v vs Q E c r rs fun v h' k kp r => q v h' k kp r.rep⟩
theorem EvF.call {x : Str} {np pos : Pos} {e : Expr} {rest : List Expr} {f : D} {ds : List D} {d : D} (hf : Ev w b n sc Γ (.Name x np) f)
    (ha : Evs w b n sc Γ (e :: rest) ds) (fn : FnF w b n f ds d)
    (he : ∀ env, starEach (e :: rest) env = (false, eval e env) :: starEach rest env := by exact fun _ => rfl) : EvF w b n sc Γ (.Call (.Name x np) (e :: rest) [] pos) d := by
  refine ⟨fun env A s Q E c vr q => ?_⟩
  refine R.CallName (hf.run env A s _ _ c vr fun u h1 k1 kp1 r1 => ?_)
  have pl := ha.plain env pos
  have hr := ha.run env A { s with heap := h1, toks := k1 } pos (fun vs s₁ => (PF w b s₁.heap ∧ Rep s₁.heap u f) ∧ wpR (model PG w) A (PySem.call u ([] ++ vs)) Q E s₁) E (c.kp kp1) (vr.kp kp1) fun vs h2 k2 kp2 r2 =>
    ⟨⟨(c.kp (kp1.trans kp2)).pf, r1.kp kp2⟩, fn.run A _ u _ _ _ (c.kp (kp1.trans kp2)) (r1.kp kp2) r2 fun v h3 k3 kp3 r3 => q v h3 k3 ((kp1.trans kp2).trans kp3) (r3.sub (kp1.trans kp2))⟩
  rw [he env] at pl hr ⊢
  exact R.callWith (P := fun h => PF w b h ∧ Rep h u f) (by rw [pl]; rfl) (fun h x => fn.keep u h x.1 x.2) (R.argsPlain hr)
theorem Ex1.retF {e : Expr} {pos : Pos} {d : D} (h : EvF w b n sc Γ e d) : Ex1 w b n sc Γ (.Return (some e) pos) (.rf d) := by
  refine ⟨fun env outer g A s Q E ax x q => ?_⟩
  exact R.Return (h.run env A s _ _ (x.cx ax) x.vars fun v h' k kp r => q (.ret v) h' k ⟨x.kp.trans kp, r.sub x.kp⟩)
theorem Ex1.ret {e : Expr} {pos : Pos} {d : D} (h : Ev w b n sc Γ e d) : Ex1 w b n sc Γ (.Return (some e) pos) (.rt d) := by
  refine ⟨fun env outer g A s Q E ax x q => ?_⟩
  exact R.Return (h.run env A s _ _ (x.cx ax) x.vars fun v h' k kp r => q (.ret v) h' k ⟨x.kp.trans kp, r⟩)
theorem Ex1.brk {pos : Pos} : Ex1 w b n sc Γ (.Break pos) (.bk Γ) := ⟨fun _ _ _ _ s _ _ _ x q => R.of (wpAny_Break (q .brk _ s.toks x))⟩
theorem Ex1.cnt {pos : Pos} : Ex1 w b n sc Γ (.Continue pos) (.ct Γ) := ⟨fun _ _ _ _ s _ _ _ x q => R.of (wpAny_Continue (q .cont _ s.toks x))⟩

theorem put_mem {α : Type} {x y : Str} {d e : α} : ∀ {l : List (Str × α)}, (l.map (·.1)).Nodup → (y, e) ∈ put x d l → (y = x ∧ e = d) ∨ ((y, e) ∈ l ∧ y ≠ x)
  | [], _, h => by
    simp only [put, List.mem_singleton, Prod.mk.injEq] at h
    exact .inl h
  | (z, f) :: r, hn, h => by
    simp only [List.map_cons, List.nodup_cons] at hn
    unfold put at h
    split at h
    · rename_i q
      rcases List.mem_cons.mp h with e1 | h
      · cases e1; exact .inl ⟨q, rfl⟩
      · refine .inr ⟨.tail _ h, fun e1 => hn.1 ?_⟩
        have : (y, e).1 ∈ r.map (·.1) := List.mem_map_of_mem h
        rw [q, ← e1]; exact this
    · rename_i q
      rcases List.mem_cons.mp h with e1 | h
      · cases e1; exact .inr ⟨.head _, q⟩
      · rcases put_mem hn.2 h with h | h
        · exact .inl h
        · exact .inr ⟨.tail _ h.1, h.2⟩
theorem put_names {α : Type} {x y : Str} {d : α} : ∀ {l : List (Str × α)}, y ∈ (put x d l).map (·.1) → y = x ∨ y ∈ l.map (·.1)
  | [], h => by simp [put] at h; exact .inl h
  | (z, f) :: r, h => by
    unfold put at h
    split at h
    · exact .inr h
    · rcases List.mem_cons.mp h with h | h
      · exact .inr (by rw [h]; exact .head _)
      · rcases put_names h with h | h
        · exact .inl h
        · exact .inr (.tail _ h)
theorem put_nodup {α : Type} {x : Str} {d : α} : ∀ {l : List (Str × α)}, (l.map (·.1)).Nodup → ((put x d l).map (·.1)).Nodup
  | [], _ => by simp [put]
  | (z, f) :: r, hn => by
    have hn' := hn
    simp only [List.map_cons, List.nodup_cons] at hn
    unfold put
    split
    · exact hn'
    · rename_i q
      refine List.nodup_cons.mpr ⟨fun h => ?_, put_nodup hn.2⟩
      rcases put_names h with h | h
      · exact q h
      · exact hn.1 h

theorem solid_but {h h' : Heap} {L : Addr} (hs : Heap.SameBut L h h') (hL : ∀ o, h.get? L = some o → ∃ es n, o.data = .dict es n) : Solid h h' := by
  intro a o e hd _
  refine (hs.2 a fun q => ?_).trans e
  subst q
  obtain ⟨es, n, q⟩ := hL o e
  exact hd es n q

/-- the part of it that a store to a local turns -/
structure Sv (b : Nat) (sc : Scope) (env : Env) (g : Heap) (Γ : List (Str × D)) (h : Heap) : Prop where
  vars : Vars sc env Γ h
  nd : (Γ.map (·.1)).Nodup
  kp : Kp b g h
  fl : g.get? env.locals = none
theorem St.sv {env : Env} {outer : List Env} {g h : Heap} (st : St w b sc env outer g Γ h) : Sv b sc env g Γ h := ⟨st.vars, st.nd, st.kp, st.fl⟩
theorem St.of_sv {env : Env} {outer : List Env} {g h h' : Heap} {Γ' : List (Str × D)} (st : St w b sc env outer g Γ h) (hx : Heap.ExtBut env.locals h h') (sv : Sv b sc env g Γ' h') : St w b sc env outer g Γ' h' := by
  refine ⟨sv.vars, sv.nd, sv.kp, sv.fl, st.fc, fun y hy => ?_, st.ap, st.pg, st.sg, st.lo, st.ef⟩
  obtain ⟨c, v, e, o, e1, d1⟩ := st.ce y hy
  obtain ⟨m, oL, es, ep, eL, dL, _⟩ := st.vars.nsv
  exact ⟨c, v, e, o, hx c o (fun q => by rw [q, eL] at e1; cases e1; rw [dL] at d1; cases d1) e1, d1⟩
theorem Sv.solid {env : Env} {g h h' : Heap} (sv : Sv b sc env g Γ h) (hx : Heap.ExtBut env.locals h h') : Solid h h' := fun a o e hd _ => hx a o (fun q => by
  obtain ⟨m, oL, es, ep, eL, dL, _⟩ := sv.vars.nsv
  rw [q, eL] at e; cases e; exact hd _ _ dL) e
theorem Sv.keep2 {env : Env} {g h h' : Heap} (sv : Sv b sc env g Γ h) (hx : Heap.ExtBut env.locals h h') : Keep2 h h' := fun a o e hd _ => hx a o (fun q => by
  obtain ⟨m, oL, es, ep, eL, dL, _⟩ := sv.vars.nsv
  rw [q, eL] at e; cases e; exact hd _ _ dL) e

theorem Sv.store {env : Env} {g : Heap} {A : Around} {s : Shared} {Q : Unit → Shared → Prop} {E : Value → Shared → Prop} {x : Str} {v : Value} {d : D} (st : Sv b sc env g Γ s.heap)
    (hk : sc.names.lookup x = some .local) (r : Rep s.heap v d) (q : ∀ h' k, Heap.SameBut env.locals s.heap h' → Sv b sc env g (put x d Γ) h' → Q () { s with heap := h', toks := k }) : wpAny (model PG w) A (storeName env x v) Q E s := by
  have hkx : env.kindOf x = some .local := by unfold Env.kindOf; rw [st.vars.sco]; exact hk
  obtain ⟨m, hns⟩ := st.vars.nsv
  refine wpAny_storeName_local hkx hns (fun h' hn hs => q h' _ hs ?_) (by rw [st.vars.sco, st.vars.kind]; rfl)
  obtain ⟨oL, es, ep, eL, dL, _⟩ := id hns
  have hL : ∀ o, s.heap.get? env.locals = some o → ∃ es n, o.data = .dict es n := fun o e => by
    rw [eL] at e; cases e; exact ⟨_, _, dL⟩
  have sol := solid_but hs hL
  have hcell : ∀ c u, s.heap.IsCell c u → c ≠ env.locals := fun c u hc q => by
    obtain ⟨o, e, hd⟩ := hc
    rw [q, eL] at e; cases e; rw [dL] at hd; cases hd
  refine ⟨⟨st.vars.sco, st.vars.kind, st.vars.glob, st.vars.blt, ⟨_, hn⟩, fun p hp => ?_⟩, put_nodup st.nd, fun a o e => ?_, st.fl⟩
  · obtain ⟨y, e⟩ := p
    rcases put_mem st.nd hp with ⟨rfl, rfl⟩ | ⟨hm, hne⟩
    · exact .inl ⟨hkx, _, v, hn, by simp, r.solid sol⟩
    · rcases st.vars.var _ hm with ⟨hk', m', v', hn', hm', r'⟩ | ⟨hk', c, v', hc, hv, r'⟩
      · refine .inl ⟨hk', _, v', hn, ?_, r'.solid sol⟩
        obtain ⟨o1, es1, ep1, q1, d1, k1, f1⟩ := hns
        obtain ⟨o2, es2, ep2, q2, d2, k2, f2⟩ := hn'
        rw [q1] at q2; cases q2
        rw [d1] at d2; cases d2
        show (if y = x then some v else m y) = some v'
        rw [if_neg hne, ← f1, f2]; exact hm'
      · obtain ⟨o, e', hd⟩ := hv
        exact .inr ⟨hk', c, v', hc, ⟨o, (hs.2 c (hcell c _ ⟨o, e', hd⟩)).trans e', hd⟩, r'.solid sol⟩
  · obtain ⟨sl, e1, k1⟩ := st.kp a o e
    refine ⟨sl, (hs.2 a fun q => ?_).trans e1, k1⟩
    rw [q, st.fl] at e; cases e

theorem St.store {env : Env} {outer : List Env} {g : Heap} {A : Around} {s : Shared} {Q : Unit → Shared → Prop} {E : Value → Shared → Prop} {x : Str} {v : Value} {d : D} (st : St w b sc env outer g Γ s.heap)
    (hk : sc.names.lookup x = some .local) (r : Rep s.heap v d) (q : ∀ h' k, St w b sc env outer g (put x d Γ) h' → Q () { s with heap := h', toks := k }) : wpAny (model PG w) A (storeName env x v) Q E s :=
  st.sv.store hk r fun h' k hs sv => q h' k (st.of_sv hs.extBut sv)

theorem St.storeC {env : Env} {outer : List Env} {g : Heap} {A : Around} {s : Shared} {Q : Unit → Shared → Prop} {E : Value → Shared → Prop} {x : Str} {v : Value} {d : D} (st : St w b sc env outer g Γ s.heap)
    (hk : sc.names.lookup x = some .cell) (hc : ∀ p ∈ Γ, Cf p.2) (r : Rep s.heap v d) (rs : ∀ h' c, env.cells.lookup x = some c → Heap.SameBut c s.heap h' → Rep h' v d) (q : ∀ h' k, St w b sc env outer g (put x d Γ) h' → Q () { s with heap := h', toks := k }) : wpAny (model PG w) A (storeName env x v) Q E s := by
  have hkx : env.kindOf x = some .cell := by unfold Env.kindOf; rw [st.vars.sco]; exact hk
  obtain ⟨c, v₀, hl, hi⟩ := st.ce x hk
  refine wpAny_storeName_cell (by rw [st.vars.sco]; exact st.vars.kind) hkx hl hi fun h' hi' hs => q h' s.toks ?_
  obtain ⟨oc, eC, dC⟩ := id hi
  have sol : Solid2 s.heap h' := fun a o e _ h2 _ => (hs.2 a fun q => by subst q; rw [eC] at e; cases e; exact h2 _ dC).trans e
  have hns : ∀ a m, s.heap.Ns a m → h'.Ns a m := fun a m n => n.sameBut hs fun q => by
    obtain ⟨o, es, ep, e, hd, _⟩ := n
    rw [q, eC] at e; cases e; rw [dC] at hd; cases hd
  refine ⟨⟨st.vars.sco, st.vars.kind, st.vars.glob, st.vars.blt, let ⟨m, n⟩ := st.vars.nsv; ⟨m, hns _ _ n⟩, fun p hp => ?_⟩, put_nodup st.nd, fun a o e => ?_, st.fl, st.fc, fun y hy => ?_, st.ap, st.pg, st.sg, st.lo, st.ef⟩
  · obtain ⟨y, e⟩ := p
    rcases put_mem st.nd hp with ⟨rfl, rfl⟩ | ⟨hm, hne⟩
    · exact .inr ⟨.inl hkx, c, v, hl, hi', rs h' c hl hs⟩
    · rcases st.vars.var _ hm with ⟨hk', m', v', hn', hm', r'⟩ | ⟨hk', c', v', hc', hv, r'⟩
      · exact .inl ⟨hk', m', v', hns _ _ hn', hm', r'.solid2 sol (hc _ hm)⟩
      · exact .inr ⟨hk', c', v', hc', hv.sameBut hs (fun q => hne (st.ap x y c hk hl (q ▸ hc')).symm), r'.solid2 sol (hc _ hm)⟩
  · obtain ⟨sl, e1, k1⟩ := st.kp a o e
    refine ⟨sl, (hs.2 a fun q => ?_).trans e1, k1⟩
    rw [q, st.fc x c hk hl] at e; cases e
  · by_cases hyx : y = x
    · subst hyx; exact ⟨c, _, hl, hi'⟩
    · obtain ⟨c', v', e, i⟩ := st.ce y hy
      exact ⟨c', v', e, i.sameBut hs fun q => hyx (st.ap x y c hk hl (q ▸ e)).symm⟩

/-- another ground: all that stands now, but for the frame's own -/
theorem St.rebase {env : Env} {outer : List Env} {g h : Heap} (st : St w b sc env outer g Γ h) : ∃ g', St w b sc env outer g' Γ h ∧ Kp b g g' ∧ Keep2 h g' ∧ (∀ a o, g'.get? a = some o → h.get? a = some o) ∧ g'.get? env.locals = none := by
  let l := env.locals :: sc.names.filterMap fun p => if sc.names.lookup p.1 = some .cell then env.cells.lookup p.1 else none
  obtain ⟨m, oL, es, ep, eL, dL, _⟩ := id st.vars.nsv
  have hl : ∀ a ∈ l, a = env.locals ∨ ∃ x, sc.names.lookup x = some .cell ∧ env.cells.lookup x = some a := fun a ha => by
    rcases List.mem_cons.mp ha with rfl | ha
    · exact .inl rfl
    · obtain ⟨⟨x, k⟩, hp, q⟩ := List.mem_filterMap.mp ha
      split at q
      · rename_i hk; exact .inr ⟨x, hk, q⟩
      · cases q
  have lookup_in : ∀ {x : Str} {k : NameKind} {ns : List (Str × NameKind)}, ns.lookup x = some k → (x, k) ∈ ns := fun {x k ns} => by
    induction ns with
    | nil => intro h; cases h
    | cons p r ih =>
      intro h
      rw [List.lookup_cons] at h
      split at h
      · rename_i q; cases h; rw [beq_iff_eq.mp q]; exact .head _
      · exact .tail _ (ih h)
  have inl : ∀ x c, sc.names.lookup x = some .cell → env.cells.lookup x = some c → c ∈ l := fun x c hk hc =>
    .tail _ (List.mem_filterMap.mpr ⟨(x, .cell), lookup_in hk, by simp only [hk, if_true]; exact hc⟩)
  have hin : ∀ a ∈ l, g.get? a = none := fun a ha => by
    rcases hl a ha with rfl | ⟨x, hk, hc⟩
    · exact st.fl
    · exact st.fc x a hk hc
  have kgg : Kp b g (hideAll h l) := fun a o e => by
    obtain ⟨sl, e1, k1⟩ := st.kp a o e
    exact ⟨sl, hideAll_get l e1 fun hm => (by rw [hin a hm] at e; cases e), k1⟩
  refine ⟨hideAll h l, ⟨st.vars, st.nd, .of fun a o e => of_hideAll l e, hideAll_none l (.head _), fun x c hk hc => hideAll_none l (inl x c hk hc), st.ce, st.ap, st.pg.kp kgg, st.sg.kp kgg, st.lo, st.ef⟩, kgg, fun a o e h1 h2 => ?_, fun a o e => of_hideAll l e, hideAll_none l (.head _)⟩
  refine hideAll_get l e fun hm => ?_
  rcases hl a hm with rfl | ⟨x, hk, hc⟩
  · rw [eL] at e; cases e; exact h1 _ _ dL
  · obtain ⟨c, v, e1, o', e2, d2⟩ := st.ce x hk
    rw [hc] at e1; cases e1
    rw [e] at e2; cases e2
    exact h2 _ d2
/-- back to the first ground -/
theorem St.home {env : Env} {outer : List Env} {g g' h h' : Heap} {Γ' : List (Str × D)} (st : St w b sc env outer g Γ h) (k : Kp b g g') (st' : St w b sc env outer g' Γ' h') : St w b sc env outer g Γ' h' :=
  ⟨st'.vars, st'.nd, k.trans st'.kp, st.fl, st.fc, st'.ce, st.ap, st.pg, st.sg, st.lo, st.ef⟩
/-- one object that no name stands on changes -/
theorem St.extG {env : Env} {outer : List Env} {g h h' : Heap} {I : Addr} (st : St w b sc env outer g Γ h) (hx : Heap.ExtBut I h h') (hI : g.get? I = none) (hL : env.locals ≠ I) (hcl : ∀ v, ¬ h.IsCell I v) (sol : Solid h h') : St w b sc env outer g Γ h' := by
  have hns : ∀ m, h.Ns env.locals m → h'.Ns env.locals m := fun m n => n.extBut hx hL
  have hce : ∀ c v, h.IsCell c v → h'.IsCell c v := fun c v n => by
    have hne : c ≠ I := fun q => hcl v (q ▸ n)
    obtain ⟨o', e, d⟩ := n
    exact ⟨o', hx c o' hne e, d⟩
  refine ⟨⟨st.vars.sco, st.vars.kind, st.vars.glob, st.vars.blt, let ⟨m, n⟩ := st.vars.nsv; ⟨m, hns _ n⟩, fun p hp => ?_⟩, st.nd, fun a o' e => ?_, st.fl, st.fc, fun y hy => let ⟨c, v, e, i⟩ := st.ce y hy; ⟨c, v, e, hce _ _ i⟩, st.ap, st.pg, st.sg, st.lo, st.ef⟩
  · rcases st.vars.var p hp with ⟨hk', m', v', hn', hm', r'⟩ | ⟨hk', c', v', hc', hv, r'⟩
    · exact .inl ⟨hk', m', v', hns _ hn', hm', r'.solid sol⟩
    · exact .inr ⟨hk', c', v', hc', hce _ _ hv, r'.solid sol⟩
  · obtain ⟨sl, e1, k1⟩ := st.kp a o' e
    exact ⟨sl, hx a _ (fun q => by rw [q, hI] at e; cases e) e1, k1⟩
theorem St.ext {env : Env} {outer : List Env} {g h h' : Heap} {I : Addr} {o : Obj} {fs : Array Value} (st : St w b sc env outer g Γ h) (hx : Heap.ExtBut I h h') (hI : g.get? I = none) (ho : h.get? I = some o) (hd : o.data = .fields fs) (hit : Itc o) : St w b sc env outer g Γ h' := by
  refine st.extG hx hI (fun q => ?_) (fun v n => ?_) fun a o' e _ hi => hx a o' (fun q => by rw [q, ho] at e; cases e; exact hi hit) e
  · obtain ⟨m, o', es, ep, e, d, _⟩ := st.vars.nsv
    rw [q, ho] at e; cases e; rw [hd] at d; cases d
  · obtain ⟨o', e, d⟩ := n
    rw [ho] at e; cases e; rw [hd] at d; cases d
end
end Mine
end
section
open PySem PySem.W PySem.Calls PyProof.Rows
set_option Elab.async false
set_option maxRecDepth 100000
set_option linter.unusedVariables false
namespace Mine
section
variable {w : World} {b n : Nat} {sc : Scope} {Γ : List (Str × D)}

theorem RepAll.length {h : Heap} : ∀ {vs : List Value} {ds : List D}, RepAll h vs ds → vs.length = ds.length
  | _, _, .nil => rfl
  | _, _, .cons _ _ _ _ _ r => congrArg (· + 1) r.length
theorem RepAll.zip {h : Heap} : ∀ {ns : List Str} {vs : List Value} {ds : List D}, RepAll h vs ds → ∀ {x : Str} {d : D}, (x, d) ∈ ns.zip ds → ∃ v, (x, v) ∈ ns.zip vs ∧ Rep h v d
  | [], _, _, _, _, _, hm => by simp at hm
  | _ :: _, _, _, .nil, _, _, hm => by simp at hm
  | y :: ns, _, _, .cons v d vs ds r rs, x, e, hm => by
    simp only [List.zip_cons_cons, List.mem_cons, Prod.mk.injEq] at hm ⊢
    rcases hm with ⟨rfl, rfl⟩ | hm
    · exact ⟨v, .inl ⟨rfl, rfl⟩, r⟩
    · obtain ⟨v', h1, h2⟩ := rs.zip hm
      exact ⟨v', .inr h1, h2⟩
theorem bindL_out {kd : Str → Option NameKind} {x : Str} : ∀ {bs : List (Str × Value)} {m : Str → Option Value}, x ∉ bs.map (·.1) → bindL kd bs m x = m x
  | [], _, _ => rfl
  | (y, v) :: r, m, hx => by
    simp only [List.map_cons, List.mem_cons, not_or] at hx
    unfold bindL
    rw [bindL_out hx.2]
    split
    · exact if_neg hx.1
    · rfl
theorem bindL_in {kd : Str → Option NameKind} {x : Str} {v : Value} (hk : kd x = some .local) : ∀ {bs : List (Str × Value)} {m : Str → Option Value}, (bs.map (·.1)).Nodup → (x, v) ∈ bs → bindL kd bs m x = some v
  | [], _, _, h => nomatch h
  | (y, u) :: r, m, hn, h => by
    simp only [List.map_cons, List.nodup_cons] at hn
    unfold bindL
    rcases List.mem_cons.mp h with e | h
    · cases e
      rw [bindL_out hn.1, if_pos hk, if_pos rfl]
    · exact bindL_in hk hn.2 h
theorem bindC_out {kd : Str → Option NameKind} {x : Str} : ∀ {bs : List (Str × Value)} {m : Str → Option Value}, x ∉ bs.map (·.1) → bindC kd bs m x = m x
  | [], _, _ => rfl
  | (y, v) :: r, m, hx => by
    simp only [List.map_cons, List.mem_cons, not_or] at hx
    unfold bindC
    rw [bindC_out hx.2]
    split
    · rfl
    · exact if_neg hx.1
theorem bindC_in {kd : Str → Option NameKind} {x : Str} {v : Value} (hk : kd x = some .cell) : ∀ {bs : List (Str × Value)} {m : Str → Option Value}, (bs.map (·.1)).Nodup → (x, v) ∈ bs → bindC kd bs m x = some v
  | [], _, _, h => nomatch h
  | (y, u) :: r, m, hn, h => by
    simp only [List.map_cons, List.nodup_cons] at hn
    unfold bindC
    rcases List.mem_cons.mp h with e | h
    · cases e
      rw [bindC_out hn.1, if_neg (by rw [hk]; decide), if_pos rfl]
    · exact bindC_in hk hn.2 h
theorem zip_names {α : Type} : ∀ {ns : List Str} {vs : List α}, ns.length = vs.length → (ns.zip vs).map (·.1) = ns
  | [], [], _ => rfl
  | n :: ns, v :: vs, h => by
    rw [List.zip_cons_cons, List.map_cons, zip_names (by simpa using h)]
  | [], _ :: _, h => by cases h
  | _ :: _, [], h => by cases h
theorem lookup_mem {α : Type} {x : Str} {c : α} : ∀ {l : List (Str × α)}, l.lookup x = some c → (x, c) ∈ l
  | [], h => nomatch h
  | (y, d) :: r, h => by
    rw [List.lookup_cons] at h
    split at h
    · rename_i q; cases h; rw [beq_iff_eq.mp q]; exact .head _
    · exact .tail _ (lookup_mem h)
theorem apart_inj {l : List (Str × Addr)} (h : l.Pairwise fun x y => x.2 ≠ y.2) : ∀ x y c, l.lookup x = some c → l.lookup y = some c → x = y := by
  intro x y c hx hy
  have mx := lookup_mem hx
  have my := lookup_mem hy
  clear hx hy
  induction h with
  | nil => cases mx
  | cons h1 h2 ih =>
    rcases List.mem_cons.mp mx with ex | mx
    · rcases List.mem_cons.mp my with ey | my
      · rw [← ex] at ey; exact (congrArg Prod.fst ey).symm
      · exact absurd (by rw [← ex]) (h1 _ my)
    · rcases List.mem_cons.mp my with ey | my
      · exact absurd (by rw [← ey]) (h1 _ mx)
      · exact ih mx my

theorem enter_core {f : Addr} {name qual : Str} {params : Arguments} {body : List Stmt} {scope : Scope} {dV kV doc pm cdv ct oc : Value} {an od : Option Addr} {osl : Array (Option Value)} {args : List D} {o : Out} {ns : List Str} {A : Around} {s : Shared} {vs : List Value} {Q E : Value → Shared → Prop}
    (ho : (hd.heap_1 w.params).lookup f = some ⟨oc, od, .func (fnOf name qual params body scope dV kV doc pm an cdv ct), osl⟩) (hcd : codeIn (hd.heap_1 w.params) cdv qual = true)
    (hb : ∀ vs : List Value, vs.length = args.length → bindArgs (fnOf name qual params body scope dV kV doc pm an cdv ct) ⟨vs, []⟩ = pure (ns.zip vs)) (hl : ns.length = args.length)
    (hkd : (ns.all fun y => scope.names.lookup y == some .local || scope.names.lookup y == some .cell) = true) (hnd : ns.Nodup)
    (hco : scope.isCoroutine = false) (hgen : scope.isGenerator = false) (hk : scope.kind = .function)
    (h : Ex w b n scope (ns.zip args) body o) (c : Cx w b (n + 1) A s.heap) (r : RepAll s.heap vs args)
    (q : ∀ env ls v h' k, o.ok w b scope env ls s.heap (.ret v) h' → Q v { s with heap := h', toks := k })
    (qn : ∀ env ls h' fl, o.ok w b scope env ls s.heap fl h' → ∃ v, fl = .ret v) : wpR (model PG w) A (call (.ref f) vs) Q E s := by
  have hlen := r.length
  refine R.callDef (body := body) (fd := fnOf name qual params body scope dV kV doc pm an cdv ct) (by have := c.dep; omega) (c.pf.k _ _ ho) rfl hco hgen rfl (codeRec_of c.pf.k hcd) ?_
  rw [hb vs hlen]
  refine wpAny_pure ?_
  have hnames : ((ns.zip vs).map (·.1)) = ns := zip_names (by omega)
  have hkinds : ((ns.zip vs).all fun y => scope.names.lookup y.1 == some .local || scope.names.lookup y.1 == some .cell) = true := by
    refine List.all_eq_true.mpr fun y hy => List.all_eq_true.mp hkd y.1 ?_
    rw [← hnames]; exact List.mem_map_of_mem hy
  refine wpAny_newFunctionEnv_cells hk (kindsX hkinds _) fun env he s' x => ?_
  have hlim := c.pf.lim
  obtain ⟨ls, ax, stk⟩ := c.ax
  have el : env.locals = s.heap.objs.size := by rw [he]; rfl
  have es : env.scope = scope := by rw [he]; rfl
  have keep := x.toInCall.keep
  have kp : Kp b s.heap s'.heap := .of keep
  obtain ⟨h1, tk, e1, _⟩ := x.toInCall.same |> fun ⟨h, tk, e⟩ => (⟨h, tk, e, trivial⟩ : ∃ h tk, s' = { s with heap := h, toks := tk } ∧ True)
  refine ⟨(c.pf.kp kp).lim, ?_⟩
  have fresh : ∀ a, s.heap.objs.size ≤ a → s.heap.get? a = none := fun a ha => by
    cases e : s.heap.get? a with
    | none => rfl
    | some o' => exact absurd (Heap.lt_size e) (Nat.not_lt.mpr ha)
  have st : St w b scope env ls s.heap (ns.zip args) s'.heap := by
    refine ⟨⟨es, hk, by rw [he]; rfl, by rw [he]; rfl, ⟨_, x.toInCall.ns⟩, fun p hp => ?_⟩, by rw [zip_names hl]; exact hnd, kp, fresh _ (by rw [el]; exact Nat.le_refl _), fun y a _ hy => ?_, fun y hy => ?_, ?_, c.pf, stk, by rw [el]; exact c.size, by rw [he]; rfl⟩
    · obtain ⟨y, e⟩ := p
      obtain ⟨v, hm, rv⟩ := r.zip hp
      have hny : ((ns.zip vs).map (·.1)).Nodup := by rw [hnames]; exact hnd
      have hyn : y ∈ ns := by rw [← hnames]; exact List.mem_map_of_mem hm
      have hyk := List.all_eq_true.mp hkd y hyn
      rcases Bool.or_eq_true_iff.mp hyk with hy | hy
      · have hy : env.kindOf y = some .local := by unfold Env.kindOf; rw [es]; exact beq_iff_eq.mp hy
        exact .inl ⟨hy, _, v, x.toInCall.ns, bindL_in hy hny hm, rv.kp kp⟩
      · have hy' : scope.names.lookup y = some .cell := beq_iff_eq.mp hy
        have hy : env.kindOf y = some .cell := by unfold Env.kindOf; rw [es]; exact hy'
        have hc : (env.cells.lookup y).isSome = true := by
          rw [he]; exact cellsFrom_some scope.names _ [] (.inl hy')
        obtain ⟨c', hc'⟩ := Option.isSome_iff_exists.mp hc
        refine .inr ⟨.inl hy, c', v, hc', ?_, rv.kp kp⟩
        have := x.cell y c' hc'
        rw [bindC_in hy hny hm] at this; exact this
    · have := x.above y a (lookup_mem hy)
      exact fresh a (by rw [el] at this; exact Nat.le_of_lt this)
    · obtain ⟨c', hc'⟩ := Option.isSome_iff_exists.mp (show (env.cells.lookup y).isSome = true by rw [he]; exact cellsFrom_some scope.names _ [] (.inl hy))
      exact ⟨c', _, hc', x.cell y c' hc'⟩
    · exact fun y z c _ => apart_inj x.apart y z c
  have ax' : Ax n (A.deeper env) (env :: ls) := by
    refine ⟨?_, ?_, ax.hnd, Around.frames_deeper ax.fr, ax.gd⟩
    · have := ax.dep; show A.depth + 1 + n < recursionLimit; omega
    · have := ax.un; show A.units + 3 + 20 * n < cLine; omega
  refine h.run env ls s.heap (A.deeper env) s' _ _ ax' st fun fl h' k ok => ?_
  obtain ⟨v, rfl⟩ := qn _ _ _ _ ok
  rw [e1]; exact q _ _ v h' k ok

theorem keep_of {f : Addr} {oc : Value} {od : Option Addr} {fd : FuncData} {osl : Array (Option Value)} (ho : (hd.heap_1 w.params).lookup f = some ⟨oc, od, .func fd, osl⟩) (v : Value) (h : Heap) (pf : PF w b h) (r : Rep h v (.val (.ref f))) : Kpr w v h := by
  (first | obtain ⟨_, rfl⟩ := r.intI | obtain rfl := r.valI | obtain rfl := r.boolI | obtain ⟨_, rfl⟩ := r.strI | cases r)
  exact ⟨.frame, .inl rfl, (Looks.ld (part := none) (pf.k _ _ ho)).andThen .now⟩
/-- the same, the names being the parameters' -/
theorem Fn.enterP {f : Addr} {name qual : Str} {params : Arguments} {body : List Stmt} {scope : Scope} {dV kV doc pm cdv ct oc : Value} {an od : Option Addr} {osl : Array (Option Value)} {args : List D} {d : D}
    (ho : (hd.heap_1 w.params).lookup f = some ⟨oc, od, .func (fnOf name qual params body scope dV kV doc pm an cdv ct), osl⟩) (hcd : codeIn (hd.heap_1 w.params) cdv qual = true)
    (hb : ∀ vs : List Value, vs.length = args.length → bindArgs (fnOf name qual params body scope dV kV doc pm an cdv ct) ⟨vs, []⟩ = pure ((params.args.map (·.arg)).zip vs)) (hl : (params.args.map (·.arg)).length = args.length)
    (hkd : ((params.args.map (·.arg)).all fun y => scope.names.lookup y == some .local || scope.names.lookup y == some .cell) = true) (hnd : (params.args.map (·.arg)).Nodup)
    (hco : scope.isCoroutine = false) (hgen : scope.isGenerator = false) (hk : scope.kind = .function)
    (h : Ex w b n scope ((params.args.map (·.arg)).zip args) body (.rt d)) : Fn w b (n + 1) (.val (.ref f)) args d := by
  refine ⟨keep_of ho, fun A s v vs Q E c rf r q => ?_⟩
  (first | obtain ⟨_, rfl⟩ := rf.intI | obtain rfl := rf.valI | obtain rfl := rf.boolI | obtain ⟨_, rfl⟩ := rf.strI | cases rf)
  exact enter_core ho hcd hb hl hkd hnd hco hgen hk h c r (fun _ _ v h' k ok => q v h' k ok.1 ok.2) fun _ _ _ fl ok => by cases fl <;> first | exact ok.elim | exact ⟨_, rfl⟩

/-- the same, the names being the parameters' -/
theorem FnF.enterP {f : Addr} {name qual : Str} {params : Arguments} {body : List Stmt} {scope : Scope} {dV kV doc pm cdv ct oc : Value} {an od : Option Addr} {osl : Array (Option Value)} {args : List D} {d : D}
    (ho : (hd.heap_1 w.params).lookup f = some ⟨oc, od, .func (fnOf name qual params body scope dV kV doc pm an cdv ct), osl⟩) (hcd : codeIn (hd.heap_1 w.params) cdv qual = true)
    (hb : ∀ vs : List Value, vs.length = args.length → bindArgs (fnOf name qual params body scope dV kV doc pm an cdv ct) ⟨vs, []⟩ = pure ((params.args.map (·.arg)).zip vs)) (hl : (params.args.map (·.arg)).length = args.length)
    (hkd : ((params.args.map (·.arg)).all fun y => scope.names.lookup y == some .local || scope.names.lookup y == some .cell) = true) (hnd : (params.args.map (·.arg)).Nodup)
    (hco : scope.isCoroutine = false) (hgen : scope.isGenerator = false) (hk : scope.kind = .function)
    (h : Ex w b n scope ((params.args.map (·.arg)).zip args) body (.rf d)) : FnF w b (n + 1) (.val (.ref f)) args d := by
  refine ⟨keep_of ho, fun A s v vs Q E c rf r q => ?_⟩
  (first | obtain ⟨_, rfl⟩ := rf.intI | obtain rfl := rf.valI | obtain rfl := rf.boolI | obtain ⟨_, rfl⟩ := rf.strI | cases rf)
  exact enter_core ho hcd hb hl hkd hnd hco hgen hk h c r (fun _ _ v h' k ok => q v h' k ok.1 ok.2) fun _ _ _ fl ok => by cases fl <;> first | exact ok.elim | exact ⟨_, rfl⟩

theorem Ex1.assign {x : Str} {e : Expr} {pos pos' : Pos} {d : D} (h : Ev w b n sc Γ e d) (hk : sc.names.lookup x = some .local)
    (hs : ∀ env, swapsWith e (some (.Name x pos')) pos.line env = pure false := by exact fun _ => rfl) : Ex1 w b n sc Γ (.Assign [.Name x pos'] e pos) (.nx (put x d Γ)) := by
  refine ⟨fun env outer g A s Q E ax st q => ?_⟩
  refine R.Assign (h.run env A s _ _ (st.cx ax) st.vars fun v h1 k1 kp1 r1 => ?_) (hs env)
  exact (st.to kp1).store (s := { s with heap := h1, toks := k1 }) hk r1 fun h' k st' => q .next h' k st'

theorem Ex1.ifs {t : Bool} {test : Expr} {body orelse : List Stmt} {pos : Pos} {o : Out} (ht : Ts w b n sc Γ test t) (hb : t = true → Ex w b n sc Γ body o) (he : t = false → Ex w b n sc Γ orelse o) :
    Ex1 w b n sc Γ (.If test body orelse pos) o := by
  refine ⟨fun env outer g A s Q E ax st q => ?_⟩
  refine R.If (ht.run env A s _ _ (st.cx ax) st.vars fun h1 k1 kp1 => ?_)
  cases t with
  | true => exact (hb rfl).run env outer g A _ _ _ ax (st.to kp1) q
  | false => exact (he rfl).run env outer g A _ _ _ ax (st.to kp1) q

theorem Ev.ife {t : Bool} {test body orelse : Expr} {pos : Pos} {d : D} (ht : Ts w b n sc Γ test t) (hb : t = true → Ev w b n sc Γ body d) (he : t = false → Ev w b n sc Γ orelse d) :
    Ev w b n sc Γ (.IfExp test body orelse pos) d := by
  refine ⟨fun env A s Q E c vr q => ?_⟩
  refine R.IfExp (ht.run env A s _ _ c vr fun h1 k1 kp1 => ?_)
  cases t with
  | true => exact (hb rfl).run env A _ _ _ (c.kp kp1) (vr.kp kp1) fun v h2 k2 kp2 r2 => q v h2 k2 (kp1.trans kp2) r2
  | false => exact (he rfl).run env A _ _ _ (c.kp kp1) (vr.kp kp1) fun v h2 k2 kp2 r2 => q v h2 k2 (kp1.trans kp2) r2

/-- a comparison of two values -/
structure Co (w : World) (b : Nat) (op : CmpOp) (d₁ d₂ : D) (t : Bool) : Prop where
  run : ∀ (A : Around) (s : Shared) (u v : Value) (Q E : Value → Shared → Prop), A.handled = none → A.units + 10 < cLine → Rep s.heap u d₁ → Rep s.heap v d₂ →
    (∀ h' k, Kp b s.heap h' → Q (.bool t) { s with heap := h', toks := k }) → wpAny (model PG w) A (compareOp op u v) Q E s

theorem Ts.cmp {l r : Expr} {op : CmpOp} {pos : Pos} {d₁ d₂ : D} {t : Bool} (hn : 0 < n) (hl : Ev w b n sc Γ l d₁) (hr : Ev w b n sc Γ r d₂) (ho : Co w b op d₁ d₂ t) (hm : behindInMarks op r = false := by with_unfolding_all rfl) :
    Ts w b n sc Γ (.Compare l [op] [r] pos) t := by
  refine ⟨fun env A s Q E c vr q => ?_⟩
  refine R.test1 (hl.run env A s _ _ c vr fun u h1 k1 kp1 r1 => ?_) hm
  refine hr.run env A _ _ _ (c.kp kp1) (vr.kp kp1) fun v h2 k2 kp2 r2 => ?_
  refine R.of (ho.run A _ u v _ _ c.hnd (by have := c.un; omega) (r1.kp kp2) r2 fun h3 k3 kp3 => ?_)
  exact R.of <| wpAny_truthy_bool (q h3 k3 ((kp1.trans kp2).trans kp3))
theorem Ts.not {e : Expr} {pos : Pos} {t : Bool} (h : Ts w b n sc Γ e t) : Ts w b n sc Γ (.UnaryOp .Not e pos) (!t) := by
  refine ⟨fun env A s Q E c vr q => ?_⟩
  exact R.testNot (h.run env A s _ _ c vr fun h1 k1 kp1 => q h1 k1 kp1)
theorem Ts.val {e : Expr} {t : Bool} (h : Ev w b n sc Γ e (.bool t)) (he : ∀ env whole, isTrue e env whole = (do let v ← whole; standAt e.pos; holding [v] (truthy v)) := by exact fun _ _ => rfl) : Ts w b n sc Γ e t := by
  refine ⟨fun env A s Q E c vr q => ?_⟩
  refine R.testVal (h.run env A s _ _ c vr fun v h1 k1 kp1 r1 => ?_) (he env _)
  (first | obtain ⟨_, rfl⟩ := r1.intI | obtain rfl := r1.valI | obtain rfl := r1.boolI | obtain ⟨_, rfl⟩ := r1.strI | cases r1)
  exact R.of <| wpAny_truthy_bool (q h1 k1 kp1)
theorem Ts.and2 {e f : Expr} {pos : Pos} {t u : Bool} (h : Ts w b n sc Γ e t) (k : t = true → Ts w b n sc Γ f u) : Ts w b n sc Γ (.BoolOp .And [e, f] pos) (t && u) := by
  refine ⟨fun env A s Q E c vr q => ?_⟩
  refine R.testBool (R.andCons (h.run env A s _ _ c vr fun h1 k1 kp1 => ?_))
  cases t with
  | false => exact q h1 k1 kp1
  | true =>
    refine R.andCons ((k rfl).run env A _ _ _ (c.kp kp1) (vr.kp kp1) fun h2 k2 kp2 => ?_)
    cases u with
    | false => exact q h2 k2 (kp1.trans kp2)
    | true => exact R.of <| wpAny_allTrue_And_nil (q h2 k2 (kp1.trans kp2))
theorem Ts.or2 {e f : Expr} {pos : Pos} {t u : Bool} (h : Ts w b n sc Γ e t) (k : t = false → Ts w b n sc Γ f u) : Ts w b n sc Γ (.BoolOp .Or [e, f] pos) (t || u) := by
  refine ⟨fun env A s Q E c vr q => ?_⟩
  refine R.testBool (R.orCons (h.run env A s _ _ c vr fun h1 k1 kp1 => ?_))
  cases t with
  | true => exact q h1 k1 kp1
  | false =>
    refine R.orCons ((k rfl).run env A _ _ _ (c.kp kp1) (vr.kp kp1) fun h2 k2 kp2 => ?_)
    cases u with
    | true => exact q h2 k2 (kp1.trans kp2)
    | false => exact R.of <| wpAny_allTrue_Or_nil (q h2 k2 (kp1.trans kp2))
theorem ofs_inj {a b : String} : (Str.ofString a = Str.ofString b) = (a = b) := by
  apply propext
  constructor
  · intro h
    rw [Str.ofString_eq_toList, Str.ofString_eq_toList] at h
    have h1 := congrArg (fun s => s.cps.toList) h
    simp only at h1
    have h2 : a.toList = b.toList := by
      have inj : Function.Injective Char.toNat := fun x y e => by
        apply Char.ext; exact UInt32.toNat_inj.mp e
      exact (List.map_inj_right (fun x y => @inj x y)).mp (by simpa using h1)
    exact String.toList_injective h2
  · intro h; rw [h]
theorem Ex.conv {w : World} {b n : Nat} {sc : Scope} {Γ : List (Str × D)} {ss : List Stmt} {o o' : Out} (h : Ex w b n sc Γ ss o) (e : o = o') : Ex w b n sc Γ ss o' := e ▸ h
theorem Ex.ret {w : World} {b n : Nat} {sc : Scope} {Γ : List (Str × D)} {e : Expr} {pos : Pos} {rest : List Stmt} {d d' : D} (h : Ev w b n sc Γ e d') (q : d' = d) : Ex w b n sc Γ (.Return (some e) pos :: rest) (.rt d) :=
  Ex.leave (q ▸ Ex1.ret h) (by intro _ h; cases h)
end
end Mine
end
section
open PySem PySem.W PySem.Calls PyProof.Rows
set_option Elab.async false
set_option maxRecDepth 100000
set_option linter.unusedVariables false
namespace Mine
section
variable {w : World} {b n : Nat} {sc : Scope} {Γ : List (Str × D)}

/-- all is kept, but for frames, cells and X -/
noncomputable def Keep2X (X : Addr) (h h' : Heap) : Prop := ∀ a o, a ≠ X → h.get? a = some o → (∀ es n, o.data ≠ .dict es n) → (∀ v, o.data ≠ .cell v) → h'.get? a = some o
theorem Keep2.x {h h' : Heap} (k : Keep2 h h') (X : Addr) : Keep2X X h h' := fun a o _ e => k a o e
/-- an iterator at I that gives ds; what it stands on lies below N -/
structure Itr (w : World) (I : Addr) (ds : List D) (S : Nat → Heap → Prop) (N : Nat) : Prop where
  low : I < N
  at_ : ∀ i h, S i h → ∃ o fs, h.get? I = some o ∧ o.data = .fields fs ∧ Itc o
  kx : ∀ i h h' X, N ≤ X → S i h → Keep2X X h h' → S i h'
  next : ∀ (A : Around) (i : Nat) (s : Shared) (Q : Option Value → Shared → Prop) (E : Value → Shared → Prop), A.handled = none → (hi : i < ds.length) → S i s.heap →
    (∀ v h' tk, Rep h' v ds[i] → S (i + 1) h' → Heap.ExtBut I s.heap h' → Q (some v) { s with heap := h', toks := tk }) → wpAny (model PG w) A (pyNext (.ref I)) Q E s
  done : ∀ (A : Around) (s : Shared) (Q : Option Value → Shared → Prop) (E : Value → Shared → Prop), A.handled = none → S ds.length s.heap →
    (∀ h' tk, Heap.ExtBut I s.heap h' → Q none { s with heap := h', toks := tk }) → wpAny (model PG w) A (pyNext (.ref I)) Q E s
  self : ∀ (A : Around) (i : Nat) (s : Shared) (Q E : Value → Shared → Prop), S i s.heap → Q (.ref I) s → wpAny (model PG w) A (pyIter (.ref I)) Q E s

theorem Itr.kq {I : Addr} {ds : List D} {S : Nat → Heap → Prop} {N : Nat} (it : Itr w I ds S N) (i : Nat) (h h' : Heap) (s : S i h) (k : Keep2 h h') : S i h' := it.kx i h h' N (Nat.le_refl _) s (k.x N)
theorem RepAll.at {h : Heap} : ∀ {l : List Value} {l' : List D} (j : Nat), RepAll h l l' → (h1 : j < l.length) → (h2 : j < l'.length) → Rep h l[j] l'[j]
  | _, _, _, .nil, h1, _ => by cases h1
  | _, _, 0, .cons v d vs ds x y, _, _ => x
  | _, _, j + 1, .cons v d vs ds x y, h1, h2 => y.at j (by simpa using h1) (by simpa using h2)
theorem Itr.list {I a : Addr} {vs : Array Value} {ds : List D} {h₀ : Heap} {N : Nat} (hI : I < N) (hIn : h₀.get? I = none) (hN : h₀.objs.size ≤ N) (hl : h₀.IsList a vs) (hr : RepAll h₀ vs.toList ds) (hc : ∀ d ∈ ds, Cf d) : Itr w I ds (fun i h => h.IsListIter I a i ∧ Solid2 h₀ h) N where
  low := hI
  at_ := fun i h st => let ⟨o, e, c, d⟩ := st.1; ⟨o, _, e, d, .inl c, _, d, by intro s t; simp⟩
  kx := fun i h h' X hX st k => by
    refine ⟨?_, fun x o e h1 h2 h3 => k x o ?_ (st.2 x o e h1 h2 h3) h1 h2⟩
    · obtain ⟨o, e, c, d⟩ := st.1
      exact ⟨o, k _ _ (Nat.ne_of_lt (Nat.lt_of_lt_of_le hI hX)) e (by rw [d]; intro _ _ q; cases q) (by rw [d]; intro _ q; cases q), c, d⟩
    · exact Nat.ne_of_lt (Nat.lt_of_lt_of_le (Nat.lt_of_lt_of_le (Heap.lt_size e) hN) hX)
  next := fun A i s Q E hh hi st q => by
    have hlen := hr.length
    have hi' : i < vs.size := by rw [← Array.length_toList, hlen]; exact hi
    refine wpAny_pyNext_list_item st.1 (IsList.of2 st.2 hl) (x := vs[i]) (by simp [hi']) fun h' it' hs => ?_
    have so : Solid2 h₀ h' := fun x o e h1 h2 h3 => hs.extBut x o (fun q => by rw [q, hIn] at e; cases e) (st.2 x o e h1 h2 h3)
    exact q _ h' _ ((hr.solid2 so hc).at i (by simpa using hi') hi) ⟨it', so⟩ hs.extBut
  done := fun A s Q E hh st q => by
    have hlen := hr.length
    exact wpAny_pyNext_list_end hh st.1 (IsList.of2 st.2 hl) (by rw [← hlen]; simp) fun h' hx => q h' s.toks hx
  self := fun A i s Q E st q => wpAny_pyIter_listiter st.1 q

noncomputable def dInts (n : Nat) : List D := (List.range n).map fun i => .int (i : Nat)
theorem Itr.range {I : Addr} {m N : Nat} (hI : I < N) : Itr w I (dInts m) (fun i h => IsRangeIter h I (0 + (i : Nat) * 1) ((m : Int) - (i : Nat)) 1) N where
  low := hI
  at_ := fun i h st => ⟨_, _, st, rfl, .inr rfl, _, rfl, by intro s t; simp [rawInt]⟩
  kx := fun i h h' X hX st k => k _ _ (Nat.ne_of_lt (Nat.lt_of_lt_of_le hI hX)) st (by intro _ _ q; cases q) (by intro _ q; cases q)
  next := fun A i s Q E hh hi st q => by
    have hi' : i < m := by simpa [dInts] using hi
    refine (Walks.range (prog := PG) (w := w) hh I 0 1 m).item i s Q E hi' st fun v h' tk p st' k => q v h' tk ?_ st' fun b o hb e => k b o (by simpa using hb) e
    obtain ⟨t, rfl⟩ := p
    have : (dInts m)[i] = .int (0 + (i : Int) * 1) := by simp [dInts]
    rw [this]; exact .int _ _
  done := fun A s Q E hh st q => by
    have e : (dInts m).length = m := by simp [dInts]
    rw [e] at st
    exact (Walks.range (prog := PG) (w := w) hh I 0 1 m).done s Q E st fun h' tk k => q h' tk fun b o hb e => k b o (by simpa using hb) e
  self := fun A i s Q E st q => wpAny_pyIter_rangeiter st q

/-- what is gone over -/
structure Io (w : World) (b n : Nat) (sc : Scope) (Γ : List (Str × D)) (e : Expr) (ds : List D) : Prop where
  run : ∀ (env : Env) (A : Around) (s : Shared) (Q E : Value → Shared → Prop), Cx w b n A s.heap → Vars sc env Γ s.heap →
    (∀ I S h' k, Itr w I ds S h'.objs.size → S 0 h' → s.heap.get? I = none → Kp b s.heap h' → Q (.ref I) { s with heap := h', toks := k }) →
    wpR (model PG w) A (eval e env) (fun x s₁ => wpAny (model PG w) A (pyIter x) Q E s₁) E s
theorem Io.list {e : Expr} {ds : List D} (h : Ev w b n sc Γ e (.list ds)) (hc : ∀ d ∈ ds, Cf d) : Io w b n sc Γ e ds := by
  refine ⟨fun env A s Q E c vr q => h.run env A s _ _ c vr fun v h1 k1 kp1 r1 => ?_⟩
  obtain ⟨a, vs, rfl, hl, hr⟩ := r1.listI
  have hno : h1.get? h1.objs.size = none := Heap.get?_none_of_le (Nat.le_refl _)
  refine wpAny_pyIter_list hl (q _ _ _ k1 (Itr.list (by rw [Heap.size_push]; exact Nat.lt_succ_self _) hno (by rw [Heap.size_push]; exact Nat.le_succ _) hl hr hc) ⟨⟨_, Heap.get?_push_size _ rfl, rfl, rfl⟩, fun x o e _ _ _ => Heap.get?_push_of_some _ e⟩ (kp1.none (Heap.get?_none_of_le (Nat.le_refl _))) (kp1.trans .push))
theorem Io.range {x : Str} {np pos : Pos} {e : Expr} {k : Int} (hf : Ev w b n sc Γ (.Name x np) (.val (.type "range"))) (h : Ev w b n sc Γ e (.int k)) (h0 : 0 ≤ k) (h1 : k < 2 ^ 62)
    (he : ∀ env, starEach [e] env = [(false, eval e env)] := by exact fun _ => rfl) : Io w b n sc Γ (.Call (.Name x np) [e] [] pos) (dInts k.toNat) := by
  refine ⟨fun env A s Q E c vr q => ?_⟩
  refine R.CallName (hf.run env A s _ _ c vr fun u h1' k1 kp1 r1 => ?_)
  (first | obtain ⟨_, rfl⟩ := r1.intI | obtain rfl := r1.valI | obtain rfl := r1.boolI | obtain ⟨_, rfl⟩ := r1.strI | cases r1)
  have hes : Evs w b n sc Γ [e] [.int k] := .cons h .nil he
  have hr := hes.run env A { s with heap := h1', toks := k1 } pos (fun vs s₁ => True ∧ wpR (model PG w) A (PySem.call (.type "range") ([] ++ vs)) (fun x s₁ => wpAny (model PG w) A (pyIter x) Q E s₁) E s₁) E (c.kp kp1) (vr.kp kp1) fun vs h2 k2 kp2 r2 => ⟨trivial, by
      cases r2 with
      | cons v d vs ds rv rs =>
      (first | obtain ⟨_, rfl⟩ := rs.intI | obtain rfl := rs.valI | obtain rfl := rs.boolI | obtain ⟨_, rfl⟩ := rs.strI | cases rs); (first | obtain ⟨_, rfl⟩ := rv.intI | obtain rfl := rv.valI | obtain rfl := rv.boolI | obtain ⟨_, rfl⟩ := rv.strI | cases rv)
      refine R.of (call_range_1 ?_)
      refine wpAny_pyIter_range (.new ..) (small_one (by decide) (by decide) (by omega) (by omega)) ?_
      refine q _ _ _ _ (Itr.range (m := k.toNat) (by simp only [Heap.size_push]; exact Nat.lt_succ_self _)) ?_ ?_ ((kp1.trans kp2).trans (.trans .push .push))
      · have e1 : Builtin.Range.rangeSize 0 k 1 = k := by rw [rangeSize_one]; split <;> omega
        show IsRangeIter _ _ (0 + ((0 : Nat) : Int) * 1) ((k.toNat : Int) - ((0 : Nat) : Int)) 1
        have e2 : (0 + ((0 : Nat) : Int) * 1) = 0 := by omega
        have e3 : ((k.toNat : Int) - ((0 : Nat) : Int)) = Builtin.Range.rangeSize 0 k 1 := by omega
        rw [e2, e3]
        exact Heap.get?_push_size _ rfl
      · exact (kp1.trans kp2).none (Heap.get?_none_of_le (by simp))⟩
  have pl := hes.plain env pos
  rw [he env] at pl hr ⊢
  exact R.callWith (P := fun _ => True) (by rw [pl]; rfl) (fun h x => Kpr.type) (R.argsPlain hr)

/-- a target takes a value -/
structure Tg (w : World) (b : Nat) (sc : Scope) (Γ : List (Str × D)) (t : Expr) (d : D) (Γ' : List (Str × D)) : Prop where
  run : ∀ (env : Env) (g : Heap) (A : Around) (s : Shared) (v : Value) (Q : Unit → Shared → Prop) (E : Value → Shared → Prop), A.handled = none → A.units + 10 < cLine → Sv b sc env g Γ s.heap → Rep s.heap v d →
    (∀ h' k, Heap.ExtBut env.locals s.heap h' → Sv b sc env g Γ' h' → Q () { s with heap := h', toks := k }) → wpAny (model PG w) A (PySem.assign t env v) Q E s

inductive Lp (w : World) (b n : Nat) (sc : Scope) (t : Expr) (body : List Stmt) : List D → List (Str × D) → Out → Prop
  | nil {Γ : List (Str × D)} : Lp w b n sc t body [] Γ (.nx Γ)
  | next {d : D} {ds : List D} {Γ Γ₁ Γ₂ : List (Str × D)} {o : Out} : Tg w b sc Γ t d Γ₁ → Ex w b n sc Γ₁ body (.nx Γ₂) → Lp w b n sc t body ds Γ₂ o → Lp w b n sc t body (d :: ds) Γ o
  | cont {d : D} {ds : List D} {Γ Γ₁ Γ₂ : List (Str × D)} {o : Out} : Tg w b sc Γ t d Γ₁ → Ex w b n sc Γ₁ body (.ct Γ₂) → Lp w b n sc t body ds Γ₂ o → Lp w b n sc t body (d :: ds) Γ o
  | brk {d : D} {ds : List D} {Γ Γ₁ Γ₂ : List (Str × D)} : Tg w b sc Γ t d Γ₁ → Ex w b n sc Γ₁ body (.bk Γ₂) → Lp w b n sc t body (d :: ds) Γ (.nx Γ₂)
  | ret {d e : D} {ds : List D} {Γ Γ₁ : List (Str × D)} : Tg w b sc Γ t d Γ₁ → Ex w b n sc Γ₁ body (.rt e) → Lp w b n sc t body (d :: ds) Γ (.rt e)

theorem go_pure {A : Around} {s : Shared} {I : Addr} {o : Obj} {fs : Array Value} {t : Expr} {v : Value} {Q : Unit → Shared → Prop} {E : Value → Shared → Prop} (ho : s.heap.get? I = some o) (hd : o.data = .fields fs) (hi : Itc o) (q : Q () s) :
    wpAny (model PG w) A (letOwnedTupleGo t (.ref I) v) Q E s := by
  -- the pair's target: the iterator is of no kind that lets its tuple go
  have pair : ∀ (es : List Expr) k p, wpAny (model PG w) A (letOwnedTupleGo (.Tuple es k p) (.ref I) v) Q E s := fun es k p => by
    cases v with
    | ref a =>
      refine wpAny_bind (wpAny_load ho ?_)
      rw [hd]
      rcases hi.1 with c | c <;> rw [c] <;> exact wpAny_ite_split (fun y => absurd (Bool.and_eq_true_iff.mp y).1 (by decide)) fun _ => wpAny_pure q
    | _ => exact wpAny_pure q
  unfold letOwnedTupleGo
  split
  · exact pair [] 0 default
  · exact pair [] 0 default
  · exact wpAny_pure q

theorem Ex1.for_ {t e : Expr} {body : List Stmt} {pos : Pos} {ds : List D} {o : Out} (hn : 0 < n) (hi : Io w b n sc Γ e ds) (hl : Lp w b n sc t body ds Γ o)
    (hs : ∀ env x, foldedSetIterable e env x = pure x := by exact fun _ _ => rfl) : Ex1 w b n sc Γ (.For t e body [] pos) o := by
  refine ⟨fun env outer g A s Q E ax st q => ?_⟩
  refine R.For (hs env) (hi.run env A s _ _ (st.cx ax) st.vars fun I S h1 k1 it s0 hI kp1 => ?_)
  have hIg : g.get? I = none := st.kp.none hI
  have main : ∀ (ds : List D) (Γ : List (Str × D)), Lp w b n sc t body ds Γ o → True := fun _ _ _ => trivial
  refine R.forLoop (fun j s' => ∃ i Γi h k, j = ds.length + 1 - i ∧ i ≤ ds.length ∧ s' = { s with heap := h, toks := k } ∧ S i h ∧ St w b sc env outer g Γi h ∧ Lp w b n sc t body (ds.drop i) Γi o) ?_ (ds.length + 1) ⟨0, Γ, h1, k1, rfl, Nat.zero_le _, rfl, s0, st.to kp1, by simpa using hl⟩
  rintro j s' ⟨i, Γi, h, k, rfl, hile, rfl, si, sti, lp⟩
  obtain ⟨oI, fs, eI, dI, cI⟩ := it.at_ i h si
  by_cases hlt : i < ds.length
  · refine it.next A i _ _ _ ax.hnd hlt si fun v h2 k2 rv s2 hx => ?_
    have st2 := sti.ext hx hIg eI dI cI
    obtain ⟨o2, fs2, e2, d2, c2⟩ := it.at_ _ _ s2
    refine go_pure e2 d2 c2 ?_
    have hun : A.units + 10 < cLine := by have := ax.un; omega
    rw [List.drop_eq_getElem_cons hlt] at lp
    have step : ∀ {Γ₁ : List (Str × D)} {o' : Out}, Tg w b sc Γi t ds[i] Γ₁ → Ex w b n sc Γ₁ body o' → ∀ {Q' : Flow → Shared → Prop} {E' : Value → Shared → Prop} {E'' : Value → Shared → Prop}, (∀ fl h' k', S (i + 1) h' → o'.ok w b sc env outer g fl h' → Q' fl { s with heap := h', toks := k' }) →
        wpAny (model PG w) A (PySem.assign t env v) (fun _ s₂ => wpR (model PG w) A (execs body env) Q' E' s₂) E'' { s with heap := h2, toks := k2 } := fun {Γ₁ o'} tg ex {Q' E' E''} hq => by
      refine tg.run env g A { s with heap := h2, toks := k2 } v _ _ ax.hnd hun st2.sv rv fun h3 k3 kx3 sv3 => ?_
      have kk3 := st2.sv.keep2 kx3
      have st3 := st2.of_sv kx3 sv3
      obtain ⟨g', st', kgg, kh, hg, _⟩ := st3.rebase
      refine ex.run env outer g' A { s with heap := h3, toks := k3 } _ _ ax st' fun fl h4 k4 ok => ?_
      have hk4 : Keep2 h3 h4 → S (i + 1) h4 := fun kk => it.kq _ _ _ (it.kq _ _ _ s2 kk3) kk
      cases o' with
      | nx Γ' => cases fl <;> first | exact ok.elim | exact hq _ _ _ (hk4 (kh.trans ok.kp.keep2)) (st3.home kgg ok)
      | ct Γ' => cases fl <;> first | exact ok.elim | exact hq _ _ _ (hk4 (kh.trans ok.kp.keep2)) (st3.home kgg ok)
      | bk Γ' => cases fl <;> first | exact ok.elim | exact hq _ _ _ (hk4 (kh.trans ok.kp.keep2)) (st3.home kgg ok)
      | rt d => cases fl <;> first | exact ok.elim | exact hq _ _ _ (hk4 (kh.trans ok.1.keep2)) ⟨kgg.trans ok.1, ok.2⟩
      | rf d => cases fl <;> first | exact ok.elim | exact hq _ _ _ (hk4 (kh.trans ok.1.keep2)) ⟨kgg.trans ok.1, ok.2.sub kgg⟩
    cases lp with
    | next tg ex lp' =>
      refine step tg ex fun fl h' k' s' ok => ?_
      cases fl <;> first | exact ok.elim | exact ⟨ds.length + 1 - (i + 1), by omega, i + 1, _, h', k', rfl, hlt, rfl, s', ok, lp'⟩
    | cont tg ex lp' =>
      refine step tg ex fun fl h' k' s' ok => ?_
      cases fl <;> first | exact ok.elim | exact ⟨ds.length + 1 - (i + 1), by omega, i + 1, _, h', k', rfl, hlt, rfl, s', ok, lp'⟩
    | brk tg ex =>
      refine step tg ex fun fl h' k' s' ok => ?_
      cases fl <;> first | exact ok.elim | exact q _ _ _ ok
    | ret tg ex =>
      refine step tg ex fun fl h' k' s' ok => ?_
      cases fl <;> first | exact ok.elim | exact q _ _ _ ok
  · have hin : i = ds.length := by omega
    subst hin
    refine it.done A _ _ _ ax.hnd si fun h2 k2 hx => ?_
    have st2 := sti.ext hx hIg eI dI cI
    rw [List.drop_length] at lp
    cases lp
    exact R.of (wpAny_execs_nil (q .next _ _ st2))

theorem Tg.name {x : Str} {pos : Pos} {d : D} (hk : sc.names.lookup x = some .local) : Tg w b sc Γ (.Name x pos) d (put x d Γ) :=
  ⟨fun env g A s v Q E hh hu sv r q => wpAny_assign_Name (sv.store hk r fun h' k hs sv' => q h' k hs.extBut sv')⟩
/-- several names take values -/
structure Tgs (w : World) (b : Nat) (sc : Scope) (Γ : List (Str × D)) (ts : List Expr) (ds : List D) (Γ' : List (Str × D)) : Prop where
  len : ∀ env, (assignEach ts env).length = ds.length
  star : ∀ env, (assignEach ts env).findIdx? (·.1) = none
  run : ∀ (env : Env) (g : Heap) (A : Around) (s : Shared) (vs : List Value) (Q : Unit → Shared → Prop) (E : Value → Shared → Prop), Sv b sc env g Γ s.heap → RepAll s.heap vs ds →
    (∀ h' k, Heap.ExtBut env.locals s.heap h' → Sv b sc env g Γ' h' → Q () { s with heap := h', toks := k }) → wpAny (model PG w) A (assignInOrder ((assignEach ts env).map (·.2)) vs) Q E s
theorem Tgs.nil : Tgs w b sc Γ [] [] Γ := ⟨fun _ => rfl, fun _ => rfl, fun env g A s vs Q E sv r q => by (first | obtain ⟨_, rfl⟩ := r.intI | obtain rfl := r.valI | obtain rfl := r.boolI | obtain ⟨_, rfl⟩ := r.strI | cases r); exact wpAny_pure (q s.heap s.toks (fun _ _ _ e => e) sv)⟩
theorem Tgs.cons {x : Str} {pos : Pos} {ts : List Expr} {d : D} {ds : List D} {Γ' : List (Str × D)} (hk : sc.names.lookup x = some .local) (h : Tgs w b sc (put x d Γ) ts ds Γ') : Tgs w b sc Γ (.Name x pos :: ts) (d :: ds) Γ' := by
  refine ⟨fun env => congrArg (· + 1) (h.len env), fun env => ?_, fun env g A s vs Q E sv r q => ?_⟩
  · show List.findIdx? _ ((false, _) :: assignEach ts env) = none
    rw [List.findIdx?_cons, h.star env]; rfl
  · cases r with
    | cons v d vs ds rv rs =>
    show wpAny _ _ (assignInOrder (PySem.assign (.Name x pos) env :: (assignEach ts env).map (·.2)) (v :: vs)) _ _ _
    unfold assignInOrder
    refine wpAny_bind (wpAny_holding (wpAny_assign_Name (sv.store hk rv fun h' k hs sv' => ?_)))
    refine h.run env g A _ vs _ _ sv' (rs.solid (sv.solid hs.extBut)) fun h2 k2 hx sv2 => q h2 k2 (fun a o hb e => hx a o hb (hs.extBut a o hb e)) sv2

theorem Sv.fresh {env : Env} {g h h' : Heap} (sv : Sv b sc env g Γ h) (k : ∀ a o, h.get? a = some o → h'.get? a = some o) : Sv b sc env g Γ h' :=
  ⟨sv.vars.kp (b := b) (.of k), sv.nd, sv.kp.trans (.of k), sv.fl⟩
theorem Tg.tup {ts : List Expr} {x1} {pos : Pos} {ds : List D} {Γ' : List (Str × D)} (h : Tgs w b sc Γ ts ds Γ') : Tg w b sc Γ (.Tuple ts x1 pos) (.tup ds) Γ' := by
  refine ⟨fun env g A s v Q E hh hu sv r q => ?_⟩
  obtain ⟨a, vs, rfl, ht, rs⟩ := r.tupI
  have hlen := rs.length
  refine wpAny_assign_Tuple hh ht (by rw [h.len env, ← hlen]; simp) (h.star env) fun h1 hx => ?_
  have kk : ∀ a o, s.heap.get? a = some o → h1.get? a = some o := fun a o e => hx a o (Nat.ne_of_lt (Heap.lt_size e)) e
  refine h.run env g A _ _ _ _ (sv.fresh kk) (rs.kp (b := b) (.of kk)) fun h2 k2 hx2 sv2 => q h2 k2 (fun a o hb e => hx2 a o hb (kk a o e)) sv2

/-- names that a block closes over -/
inductive Caps (sc : Scope) (Γ : List (Str × D)) : List (Str × NameKind) → List (Str × D) → Prop
  | nil : Caps sc Γ [] []
  | free {x : Str} {d : D} {r : List (Str × NameKind)} {cs : List (Str × D)} : look x Γ = some d → sc.names.lookup x = some .cell → Caps sc Γ r cs → Caps sc Γ ((x, .free) :: r) ((x, d) :: cs)
  | skip {x : Str} {k : NameKind} {r : List (Str × NameKind)} {cs : List (Str × D)} : k ≠ .free → Caps sc Γ r cs → Caps sc Γ ((x, k) :: r) cs
noncomputable def clOf (env : Env) : List (Str × NameKind) → List (Str × Addr) → List (Str × Addr)
  | [], acc => acc
  | (x, k) :: r, acc => if k = .free then (match env.cells.lookup x with | some c => clOf env r ((x, c) :: acc) | none => clOf env r acc) else clOf env r acc
theorem closureFor_caps {env : Env} {h : Heap} {names : List (Str × NameKind)} {caps : List (Str × D)} (hc : Caps sc Γ names caps) (vr : Vars sc env Γ h) (acc : List (Str × Addr)) :
    (forIn names acc fun x r => if (x.2 == NameKind.free) = true then do let c ← cellOf env x.1; pure (ForInStep.yield ((x.1, c) :: r)) else pure (ForInStep.yield r) : Sem (List (Str × Addr))) = pure (clOf env names acc) := by
  induction hc generalizing acc with
  | nil => rfl
  | @free x d r cs hl hk _ ih =>
    have : ∃ c, env.cells.lookup x = some c := by
      rcases vr.var _ (look_mem hl) with ⟨hk', _⟩ | ⟨_, c, v, e, _⟩
      · unfold Env.kindOf at hk'; rw [vr.sco] at hk'; rw [show sc.names.lookup x = some .local from hk'] at hk; cases hk
      · exact ⟨c, e⟩
    obtain ⟨c, e⟩ := this
    rw [List.forIn_cons]
    unfold clOf
    rw [if_pos rfl, e]
    have : cellOf env x = pure c := by unfold cellOf; rw [e]
    simp only [this]
    exact ih _
  | @skip x k r cs hk _ ih =>
    rw [List.forIn_cons]
    unfold clOf
    rw [if_neg hk]
    have : (k == NameKind.free) = false := by simpa using hk
    simp only [this]
    exact ih _
theorem clOf_acc {env : Env} {x : Str} {c : Addr} : ∀ (names : List (Str × NameKind)) (acc : List (Str × Addr)), env.cells.lookup x = some c → acc.lookup x = some c → (clOf env names acc).lookup x = some c
  | [], _, _, h => h
  | (y, k) :: r, acc, he, h => by
    unfold clOf
    split
    · split
      · rename_i c' hc'
        refine clOf_acc r _ he ?_
        rw [List.lookup_cons]
        split
        · rename_i q; rw [beq_iff_eq.mp q, hc'] at he; exact he
        · exact h
      · exact clOf_acc r _ he h
    · exact clOf_acc r _ he h
theorem clOf_lookup {env : Env} {x : Str} {c : Addr} : ∀ (names : List (Str × NameKind)) (acc : List (Str × Addr)), env.cells.lookup x = some c → (x, .free) ∈ names → (clOf env names acc).lookup x = some c
  | (y, k) :: r, acc, he, h => by
    unfold clOf
    rcases List.mem_cons.mp h with e | h
    · cases e
      rw [if_pos rfl, he]
      exact clOf_acc r _ he (by rw [List.lookup_cons]; simp)
    · split
      · split
        · exact clOf_lookup r _ he h
        · exact clOf_lookup r _ he h
      · exact clOf_lookup r _ he h
theorem Caps.mem {names : List (Str × NameKind)} {caps : List (Str × D)} (hc : Caps sc Γ names caps) {p : Str × D} (hp : p ∈ caps) : look p.1 Γ = some p.2 ∧ sc.names.lookup p.1 = some .cell ∧ (p.1, .free) ∈ names := by
  induction hc with
  | nil => cases hp
  | free hl hk _ ih =>
    rcases List.mem_cons.mp hp with rfl | hp
    · exact ⟨hl, hk, .head _⟩
    · obtain ⟨a, b, c⟩ := ih hp; exact ⟨a, b, .tail _ c⟩
  | skip hk _ ih => obtain ⟨a, b, c⟩ := ih hp; exact ⟨a, b, .tail _ c⟩
theorem Caps.sub {names : List (Str × NameKind)} {caps : List (Str × D)} (hc : Caps sc Γ names caps) : (caps.map (·.1)).Sublist (names.map (·.1)) := by
  induction hc with
  | nil => exact .slnil
  | free _ _ _ ih => exact .cons_cons _ ih
  | skip _ _ ih => exact .cons _ ih

noncomputable def relS (scope sc : Scope) : Scope := { scope with names := scope.names.map fun (n, k) => if (k == .free && sc.kind == .function && sc.names.lookup n == some .cell) then (n, .cell) else (n, k) }
theorem relabel_eq {scope : Scope} {env : Env} : relabel scope env = relS scope env.scope := rfl

end
end Mine
end
section
open PySem PySem.W PySem.Calls PyProof.Rows
set_option Elab.async false
set_option maxRecDepth 100000
set_option linter.unusedVariables false
namespace Mine
section
variable {w : World} {b n : Nat} {sc : Scope} {Γ : List (Str × D)}

theorem RepAll.snoc {h : Heap} {v : Value} {d : D} : ∀ {vs : List Value} {ds : List D}, RepAll h vs ds → Rep h v d → RepAll h (vs ++ [v]) (ds ++ [d])
  | _, _, .nil, r => .cons _ _ _ _ r .nil
  | _, _, .cons _ _ _ _ x y, r => .cons _ _ _ _ x (y.snoc r)
/-- the turns of a comprehension -/
inductive Cm (w : World) (b n : Nat) (sc : Scope) (caps : List (Str × D)) (t elt : Expr) : List D → List D → Prop
  | nil : Cm w b n sc caps t elt [] []
  | cons {d e : D} {ds es : List D} {Γ' : List (Str × D)} : Tg w b sc caps t d Γ' → EvF w b n sc Γ' elt e → Cm w b n sc caps t elt ds es → Cm w b n sc caps t elt (d :: ds) (e :: es)
theorem Cm.length {caps : List (Str × D)} {t elt : Expr} : ∀ {ds es : List D}, Cm w b n sc caps t elt ds es → ds.length = es.length
  | _, _, .nil => rfl
  | _, _, .cons _ _ r => congrArg (· + 1) r.length
theorem Cm.at {caps : List (Str × D)} {t elt : Expr} : ∀ {ds es : List D} (i : Nat), Cm w b n sc caps t elt ds es → (h1 : i < ds.length) → (h2 : i < es.length) → ∃ Γ', Tg w b sc caps t ds[i] Γ' ∧ EvF w b n sc Γ' elt es[i]
  | _, _, _, .nil, h1, _ => by cases h1
  | _, _, 0, .cons tg ev _, _, _ => ⟨_, tg, ev⟩
  | _, _, i + 1, .cons _ _ r, h1, h2 => r.at i (by simpa using h1) (by simpa using h2)
theorem lookup_map_of {x : Str} {f : Str × NameKind → Str × NameKind} {k' : NameKind} : ∀ {ns : List (Str × NameKind)}, (∀ p ∈ ns, (f p).1 = p.1) → (∀ k, (x, k) ∈ ns → f (x, k) = (x, k')) → (∃ k, (x, k) ∈ ns) → (ns.map f).lookup x = some k'
  | [], _, _, h => by obtain ⟨_, h⟩ := h; cases h
  | (y, k) :: r, h1, h2, h3 => by
    rw [List.map_cons]
    have e1 : f (y, k) = ((f (y, k)).1, (f (y, k)).2) := rfl
    rw [e1, List.lookup_cons, h1 (y, k) (.head _)]
    split
    · rename_i q
      have hx : x = y := beq_iff_eq.mp q
      subst hx
      have := h2 k (.head _)
      rw [this]
    · rename_i q
      refine lookup_map_of (fun p hp => h1 p (.tail _ hp)) (fun k hk => h2 k (.tail _ hk)) ?_
      obtain ⟨k', hk'⟩ := h3
      rcases List.mem_cons.mp hk' with e | e
      · cases e; simp at q
      · exact ⟨k', e⟩

theorem comp_core {t e elt : Expr} {scope : Scope} {pos ppos : Pos} {ds es : List D} {caps : List (Str × D)} {env : Env} {A : Around} {s : Shared} {Q E : Value → Shared → Prop} {use : Option (Value → Sem Unit)}
    (c : Cx w b n A s.heap) (vr : Vars sc env Γ s.heap) (hn : 0 < n) (hi : Io w b n sc Γ e ds) (hc : Caps sc Γ scope.names caps) (hb : Cm w b n (relS scope sc) caps t elt ds es)
    (hk : scope.kind = .function) (hcell : ∀ y ∈ scope.names, y.2 ≠ .cell) (hnd : (scope.names.map (·.1)).Nodup) (hsz : ds.length ≤ sizeLine) (hs : ∀ x, foldedSetIterable e env x = pure x)
    (post : ∀ D C h' tk m, Kp b s.heap h' → RepF s.heap h' (.ref D) (.list es) → h'.Ns C m → s.heap.get? C = none → D ≠ C → CompEnd (model PG w) A E Q (.ref D) C use { s with heap := h', toks := tk }) :
    wpR (model PG w) A (comprehension (.ListComp elt [⟨t, e, [], 0⟩] scope pos) scope env ppos (newList []) false (eval e env) use) Q E s := by
  have hlen := hb.length
  have hnames : ∀ y ∈ scope.names, y.2 = .local → scope.names.lookup y.1 = some .local := by
    intro y hy hl
    have aux : ∀ {l : List (Str × NameKind)}, (l.map (·.1)).Nodup → y ∈ l → l.lookup y.1 = some y.2 := fun {l} => by
      induction l with
      | nil => intro _ h; cases h
      | cons p r ih =>
        intro h1 h2
        simp only [List.map_cons, List.nodup_cons] at h1
        rw [show p = (p.1, p.2) from rfl, List.lookup_cons]
        rcases List.mem_cons.mp h2 with rfl | h2
        · simp
        · split
          · rename_i q
            exact absurd (List.mem_map_of_mem (f := (·.1)) h2) (by rw [show y.1 = p.1 from beq_iff_eq.mp q]; exact h1.1)
          · exact ih h1.2 h2
    rw [aux hnd hy, hl]
  have hclos : closureFor scope env = pure (clOf env scope.names []) := by
    have := closureFor_caps hc vr []
    unfold closureFor
    refine Eq.trans ?_ this
    simp only [bind_pure]
  refine R.comp rfl hs hclos hk hnames ?_
  refine hi.run env A s _ _ c vr fun I S h1' k1 it s0 hI kp1 => ?_
  refine wpAny_newObj_type (wpAny_newFunctionEnv hcell (by intro y hy; simp at hy) (fun h₁ hns₁ hsb₁ => ?_) hk)
  dsimp only at hns₁ hsb₁ ⊢
  generalize hH2 : h1'.push { cls := .type "list", dict := none, data := .seq ([] : List Value).toArray } = H2 at hns₁ hsb₁ ⊢
  have hC : H2.objs.size = h1'.objs.size + 1 := by rw [← hH2, Heap.size_push]
  have hDC : h1'.objs.size ≠ H2.objs.size := by rw [hC]; exact Nat.ne_of_lt (Nat.lt_succ_self _)
  have old : ∀ b o, h1'.get? b = some o → h₁.get? b = some o := fun b o e => hsb₁.extBut b o (by rw [hC]; exact Nat.ne_of_lt (Nat.lt_succ_of_lt (Heap.lt_size e))) (Heap.get?_push_of_some _ (hH2 ▸ Heap.get?_push_of_some _ e))
  have hacc : h₁.IsList h1'.objs.size #[] := ⟨_, hsb₁.extBut _ _ hDC (Heap.get?_push_of_some _ (hH2 ▸ Heap.get?_push_size _ rfl)), rfl, _, rfl⟩
  have fresh : ∀ a, h1'.objs.size ≤ a → s.heap.get? a = none := fun a ha => kp1.none (Heap.get?_none_of_le ha)
  have hIlt := it.low
  have hcx : A.handled = none := c.hnd
  have hun : A.units + 10 < cLine := by have := c.un; omega
  let cenv := compEnvC scope (clOf env scope.names []) H2.objs.size env
  have loop : ∀ s₃ : Shared, s₃ = { s with heap := h₁, toks := k1 + ([] : List (Str × Value)).length } →
      codeR (model PG w) A (.compLoop (.ListComp elt [⟨t, e, [], 0⟩] scope pos) 0 (.ref I) (.ref h1'.objs.size) cenv) (fun r s => (∃ f, r = .ok f) ∧ CompEnd (model PG w) A E Q (.ref h1'.objs.size) H2.objs.size use s) s₃ := by
    rintro s₃ rfl
    refine R.compLoop (fun j s' => ∃ i h k ys m, j = ds.length + 1 - i ∧ i ≤ ds.length ∧ s' = { s with heap := h, toks := k } ∧ S i h ∧ Kp b s.heap h ∧ h.Ns H2.objs.size m ∧ h.IsList h1'.objs.size ys ∧ RepAll (hideAll h (h1'.objs.size :: occ s.heap)) ys.toList (es.take i)) ?_ (ds.length + 1)
      ⟨0, h₁, _, #[], _, rfl, Nat.zero_le _, rfl, it.kx 0 h1' h₁ h1'.objs.size (Nat.le_refl _) s0 (fun a o _ e _ _ => old a o e), kp1.trans (.of old), hns₁, hacc, .nil⟩
    rintro j s' ⟨i, h, k, ys, m, rfl, hile, rfl, si, kpi, hns, hl, hr⟩
    obtain ⟨oI, fs, eI, dI, cI⟩ := it.at_ i h si
    have hDl := hl
    obtain ⟨oD, eD, cD, nD, dD⟩ := hl
    have hI' : I ≠ h1'.objs.size := Nat.ne_of_lt hIlt
    by_cases hlt : i < ds.length
    · refine it.next A i _ _ _ hcx hlt si fun v h2 k2 rv s2 hx => ?_
      obtain ⟨o2, fs2, e2, d2, c2⟩ := it.at_ _ _ s2
      refine go_pure e2 d2 c2 ?_
      obtain ⟨Γ', tg, ev⟩ := hb.at i hlt (by omega)
      have kp2 : Kp b s.heap h2 := fun a o e => by
        obtain ⟨sl, e1, k1⟩ := kpi a o e
        exact ⟨sl, hx a _ (fun q => by rw [q, hI] at e; cases e) e1, k1⟩
      have vr2 := vr.kp kp2
      have hns2 : h2.Ns H2.objs.size m := hns.extBut hx (by rw [hC]; exact Nat.ne_of_gt (Nat.lt_succ_of_lt hIlt))
      have sv : Sv b (relS scope sc) cenv s.heap caps h2 := by
        refine ⟨⟨by show relabel scope env = _; rw [relabel_eq, vr.sco], hk, vr.glob, vr.blt, ⟨m, hns2⟩, fun p hp => ?_⟩, hc.sub.nodup hnd, kp2, fresh _ (by rw [show cenv.locals = H2.objs.size from rfl, hC]; exact Nat.le_succ _)⟩
        obtain ⟨l1, l2, l3⟩ := hc.mem hp
        rcases vr2.var _ (look_mem l1) with ⟨hk', _⟩ | ⟨_, cc, v', e', i', r'⟩
        · unfold Env.kindOf at hk'; rw [vr.sco] at hk'; rw [show sc.names.lookup p.1 = some .local from hk'] at l2; cases l2
        · refine .inr ⟨.inl ?_, cc, v', clOf_lookup _ _ e' l3, i', r'⟩
          show (relabel scope env).names.lookup p.1 = some .cell
          rw [relabel_eq, vr.sco]
          refine lookup_map_of (fun q _ => by obtain ⟨q1, q2⟩ := q; dsimp only; split <;> rfl) (fun kk hkk => ?_) ⟨_, l3⟩
          have hfree : kk = .free := by
            have aux : ∀ {l : List (Str × NameKind)} {x : Str} {k k' : NameKind}, (l.map (·.1)).Nodup → (x, k) ∈ l → (x, k') ∈ l → k = k' := fun {l} => by
              induction l with
              | nil => intro _ _ _ _ h; cases h
              | cons p r ih =>
                intro x k k' hd h1 h2
                simp only [List.map_cons, List.nodup_cons] at hd
                rcases List.mem_cons.mp h1 with e | h1
                · rcases List.mem_cons.mp h2 with e' | h2
                  · rw [← e] at e'; exact (congrArg Prod.snd e').symm
                  · exact absurd (List.mem_map_of_mem (f := (·.1)) h2) (by rw [show (x, k').1 = p.1 by rw [← e]]; exact hd.1)
                · rcases List.mem_cons.mp h2 with e' | h2
                  · exact absurd (List.mem_map_of_mem (f := (·.1)) h1) (by rw [show (x, k).1 = p.1 by rw [← e']]; exact hd.1)
                  · exact ih hd.2 h1 h2
            exact aux hnd hkk l3
          subst hfree
          have hkf : sc.kind = .function := vr.kind
          simp only [hkf, l2, beq_self_eq_true, Bool.and_self, if_true]
      refine tg.run cenv s.heap A { s with heap := h2, toks := k2 } v _ _ hcx hun sv rv fun h3 k3 hx3 sv3 => ?_
      refine ev.run cenv A { s with heap := h3, toks := k3 } _ _ (c.kp sv3.kp) sv3.vars fun y h4 k4 kp4 r4 => ?_
      have hCl : cenv.locals = H2.objs.size := rfl
      have dDn : ∀ es n, oD.data ≠ .dict es n := by rw [dD]; intro _ _ q; cases q
      have eD3 : h3.get? h1'.objs.size = some oD := hx3 _ _ (by rw [hCl]; exact hDC) (hx _ _ (Ne.symm hI') eD)
      have eD4 : h4.get? h1'.objs.size = some oD := kp4.get eD3 (.inl dDn)
      have hys : ys.size = i := by
        have := hr.length
        rw [List.length_take] at this
        have e4 : ys.toList.length = ys.size := by simp
        omega
      refine wpAny_list_append ⟨oD, eD4, cD, nD, dD⟩ (fun h5 hl5 hs5 => ?_) (by omega)
      refine ⟨ds.length + 1 - (i + 1), by omega, i + 1, h5, k4, ys.push y, ?_⟩
      obtain ⟨m3, n3⟩ := sv3.vars.nsv
      refine ⟨m3, rfl, hlt, rfl, ?_, fun a o e => ?_, ?_, hl5, ?_⟩
      · refine it.kx _ _ _ h1'.objs.size (Nat.le_refl _) s2 fun a o ha e hd hcc => ?_
        exact hs5.extBut a o ha (kp4.get (sv.keep2 hx3 a o e hd hcc) (.inl hd))
      · obtain ⟨sl, e1, k1'⟩ := (sv3.kp.trans kp4) a o e
        exact ⟨sl, hs5.extBut a _ (fun q => by rw [q, fresh _ (Nat.le_refl _)] at e; cases e) e1, k1'⟩
      · exact (kp4.ns n3).sameBut hs5 (by rw [hCl]; exact Ne.symm hDC)
      · have e1 : (ys.push y).toList = ys.toList ++ [y] := by simp
        have e2 : es.take (i + 1) = es.take i ++ [es[i]] := by rw [List.take_append_getElem]
        rw [e1, e2]
        refine RepAll.snoc (hr.solid fun a o e h1 h2 => ?_) ?_
        · have hL : a ∉ h1'.objs.size :: occ s.heap := fun q => by rw [hideAll_none _ q] at e; cases e
          have ha : a ≠ h1'.objs.size := fun q => hL (by rw [q]; exact .head _)
          have e0 := of_hideAll _ e
          refine hideAll_get _ (hs5.extBut a o ha (kp4.get (hx3 a o (fun q => ?_) (hx a o (fun q => ?_) e0)) (.inl h1))) hL
          · obtain ⟨oC, es', ep', eC, dC, _⟩ := hns
            rw [q, hCl, eC] at e0; cases e0; exact h1 _ _ dC
          · rw [q, eI] at e0; cases e0; exact h2 cI
        · obtain ⟨g, g1, g2, g3⟩ := r4
          refine g3.solid fun a o e _ _ => ?_
          have ha : a ≠ h1'.objs.size := fun q => by have := g2 a o e; rw [q, eD3] at this; cases this
          refine hideAll_get _ (hs5.extBut a o ha (g1 a o e)) fun hm => ?_
          rcases List.mem_cons.mp hm with q | q
          · exact ha q
          · obtain ⟨o', e'⟩ := occ_some q
            rw [sv3.kp.none (g2 a o e)] at e'; cases e'
    · have hin : i = ds.length := by omega
      subst hin
      refine it.done A _ _ _ hcx si fun h2 k2 hx => ?_
      have eD2 := hx _ _ (Ne.symm hI') eD
      refine ⟨⟨_, rfl⟩, post h1'.objs.size H2.objs.size h2 k2 m (fun a o e => ?_) ⟨hideAll h2 (occ s.heap), fun a o e => of_hideAll _ e, fun a o e => ?_, .list _ ys _ ⟨oD, hideAll_get _ eD2 fun q => ?_, cD, nD, dD⟩ ?_⟩ (hns.extBut hx (by rw [hC]; exact Nat.ne_of_gt (Nat.lt_succ_of_lt hIlt))) (fresh _ (by rw [hC]; exact Nat.le_succ _)) hDC⟩
      · obtain ⟨sl, e1, k1⟩ := kpi a o e
        exact ⟨sl, hx a _ (fun q => by rw [q, hI] at e; cases e) e1, k1⟩
      · cases q : s.heap.get? a with
        | none => rfl
        | some o' => rw [hideAll_none _ (mem_occ q)] at e; cases e
      · obtain ⟨o', e'⟩ := occ_some q
        rw [fresh _ (Nat.le_refl _)] at e'; cases e'
      · rw [hlen, List.take_length] at hr
        refine hr.solid fun a o e h1 h2 => ?_
        have e0 := of_hideAll _ e
        refine hideAll_get _ (hx a o (fun q => by rw [q, eI] at e0; cases e0; exact h2 cI) e0) fun hm => ?_
        rw [hideAll_none _ (.tail _ hm)] at e; cases e
  exact R.compStart (loop _ rfl) (it.self A 0 _ _ _ (it.kx 0 h1' h₁ h1'.objs.size (Nat.le_refl _) s0 (fun a o _ e _ _ => old a o e)) (loop _ rfl))

theorem EvF.comp {t e elt : Expr} {scope : Scope} {pos : Pos} {ds es : List D} {caps : List (Str × D)} (hn : 0 < n) (hi : Io w b n sc Γ e ds) (hc : Caps sc Γ scope.names caps) (hb : Cm w b n (relS scope sc) caps t elt ds es)
    (hk : scope.kind = .function) (hcell : ∀ y ∈ scope.names, y.2 ≠ .cell) (hnd : (scope.names.map (·.1)).Nodup) (hsz : ds.length ≤ sizeLine) (hs : ∀ env x, foldedSetIterable e env x = pure x := by exact fun _ _ => rfl) :
    EvF w b n sc Γ (.ListComp elt [⟨t, e, [], 0⟩] scope pos) (.list es) := by
  refine ⟨fun env A s Q E c vr q => ?_⟩
  rw [eval_ListComp]
  refine comp_core (use := none) c vr hn hi hc hb hk hcell hnd hsz (hs env) fun D C h' tk m kp r n hC hDC => ⟨m, n, fun h'' hs'' => ?_⟩
  have hne : ∀ a o, s.heap.get? a = some o → a ≠ C := fun a o e q => by rw [q, hC] at e; cases e
  refine q _ _ _ (fun a o e => ?_) ?_
  · obtain ⟨sl, e1, k1⟩ := kp a o e
    exact ⟨sl, (hs''.2 a (hne a o e)).trans e1, k1⟩
  · refine r.to fun a o e0 e hd _ => (hs''.2 a fun q => ?_).trans e
    obtain ⟨o', es', ep, e', d', _⟩ := n
    rw [q, e'] at e; cases e; exact hd _ _ d'

theorem Ex1.assignComp {x : Str} {t e elt : Expr} {scope : Scope} {pos px spos : Pos} {ds es : List D} {caps : List (Str × D)} (hn : 0 < n) (hi : Io w b n sc Γ e ds) (hc : Caps sc Γ scope.names caps) (hb : Cm w b n (relS scope sc) caps t elt ds es)
    (hk : scope.kind = .function) (hcell : ∀ y ∈ scope.names, y.2 ≠ .cell) (hnd : (scope.names.map (·.1)).Nodup) (hsz : ds.length ≤ sizeLine) (hx : sc.names.lookup x = some .local)
    (hsw : (px.line == pos.line && !(scope.names.any fun (n, k) => n == x && (k == .local || k == .cell))) = true)
    (hs : ∀ env x, foldedSetIterable e env x = pure x := by exact fun _ _ => rfl) : Ex1 w b n sc Γ (.Assign [.Name x px] (.ListComp elt [⟨t, e, [], 0⟩] scope pos) spos) (.nx (put x (.list es) Γ)) := by
  refine ⟨fun env outer g A s Q E ax st q => ?_⟩
  have hsw' : swapsWith (.ListComp elt [⟨t, e, [], 0⟩] scope pos) (some (.Name x px)) spos.line env = pure true := by
    show pure (env.blockKind == .function && env.kindOf x == some .local && px.line == pos.line && !(scope.names.any fun (n, k) => n == x && (k == .local || k == .cell))) = pure true
    have h1 : env.blockKind = .function := by unfold Env.blockKind; rw [st.vars.sco, st.vars.kind]; rfl
    have h2 : env.kindOf x = some .local := by unfold Env.kindOf; rw [st.vars.sco]; exact hx
    rw [h1, h2, Bool.and_assoc, hsw]; rfl
  rw [exec_Assign_Name_used _ _ _ _ hsw']
  refine R.at_ (R.bind ?_)
  show wpR _ A (do let _ ← comprehension (.ListComp elt [⟨t, e, [], 0⟩] scope pos) scope env _ (newList []) false (eval e env) (some (PySem.assign (.Name x px) env))) _ _ s
  refine R.bind (R.mono (comp_core (use := some (PySem.assign (.Name x px) env)) (Q := fun _ s' => Q .next s') (E := E) (st.cx ax) st.vars hn hi hc hb hk hcell hnd hsz (hs env) fun D C h' tk m kp r n hC hDC => ?_) (fun _ s' hq => R.pure (R.pure hq)) fun _ _ e => e)
  have st1 := st.to kp
  have hgC : g.get? C = none := st.kp.none hC
  have hLC : C ≠ env.locals := fun q => by
    obtain ⟨m', o', es', ep', e', _⟩ := st.vars.nsv
    rw [← q, hC] at e'; cases e'
  show wpAny _ A (PySem.assign (.Name x px) env (.ref D)) _ _ _
  refine wpAny_assign_Name (st1.sv.store hx r.rep fun h2 k2 hs2 sv2 => ⟨m, n.sameBut hs2 hLC, fun h3 hs3 => ?_⟩)
  have st2 := st1.of_sv hs2.extBut sv2
  have n2 := n.sameBut hs2 hLC
  obtain ⟨o', es', ep', e', d', _⟩ := n2
  refine q .next h3 k2 (st2.extG hs3.extBut hgC (Ne.symm hLC) (fun v hv => ?_) fun a o e hd _ => (hs3.2 a fun q => ?_).trans e)
  · obtain ⟨o2, e2, d2⟩ := hv
    rw [e'] at e2; cases e2; rw [d'] at d2; cases d2
  · rw [q] at e; rw [e'] at e; cases e; exact hd _ _ d'
end
end Mine
end
section
open PySem PySem.W PySem.Calls PyProof.Rows
set_option Elab.async false
set_option maxRecDepth 100000
set_option linter.unusedVariables false
namespace Mine
section
variable {w : World} {b n : Nat} {sc : Scope} {Γ : List (Str × D)}

/-- the turns of a while -/
inductive Lw (w : World) (b n : Nat) (sc : Scope) (t : Expr) (body : List Stmt) : List (Str × D) → Out → Prop
  | done {Γ : List (Str × D)} : Ts w b n sc Γ t false → Lw w b n sc t body Γ (.nx Γ)
  | next {Γ Γ₁ : List (Str × D)} {o : Out} : Ts w b n sc Γ t true → Ex w b n sc Γ body (.nx Γ₁) → Lw w b n sc t body Γ₁ o → Lw w b n sc t body Γ o
inductive LwN (w : World) (b n : Nat) (sc : Scope) (t : Expr) (body : List Stmt) : Nat → List (Str × D) → Out → Prop
  | done {Γ : List (Str × D)} : Ts w b n sc Γ t false → LwN w b n sc t body 0 Γ (.nx Γ)
  | next {Γ Γ₁ : List (Str × D)} {o : Out} {k : Nat} : Ts w b n sc Γ t true → Ex w b n sc Γ body (.nx Γ₁) → LwN w b n sc t body k Γ₁ o → LwN w b n sc t body (k + 1) Γ o
theorem Lw.count {t : Expr} {body : List Stmt} {Γ : List (Str × D)} {o : Out} (h : Lw w b n sc t body Γ o) : ∃ k, LwN w b n sc t body k Γ o := by
  induction h with
  | done h => exact ⟨0, .done h⟩
  | next h1 h2 _ ih => obtain ⟨k, hk⟩ := ih; exact ⟨k + 1, .next h1 h2 hk⟩
theorem Ex1.while_ {t : Expr} {body : List Stmt} {pos : Pos} {o : Out} (h : Lw w b n sc t body Γ o) : Ex1 w b n sc Γ (.While t body [] pos) o := by
  refine ⟨fun env outer g A s Q E ax st q => ?_⟩
  obtain ⟨k, hk⟩ := h.count
  refine R.While (R.whileLoop (fun j s' => ∃ Γi h k', j = k' ∧ s' = { s with heap := h.1, toks := h.2 } ∧ St w b sc env outer g Γi h.1 ∧ LwN w b n sc t body k' Γi o) ?_ k ⟨Γ, (s.heap, s.toks), k, rfl, rfl, st, hk⟩)
  rintro j s' ⟨Γi, ⟨h, tk⟩, k', rfl, rfl, sti, lw⟩
  dsimp only at sti ⊢
  cases lw with
  | done ht =>
    refine ht.run env A _ _ _ (sti.cx ax) sti.vars fun h1 k1 kp1 => ?_
    simp only [Bool.false_eq_true, if_false]
    exact R.of <| wpAny_execs_nil (q .next _ _ (sti.to kp1))
  | @next _ Γ₁ _ k ht hx lw' =>
    refine ht.run env A _ _ _ (sti.cx ax) sti.vars fun h1 k1 kp1 => ?_
    simp only [if_true]
    refine hx.run env outer g A { s with heap := h1, toks := k1 } _ _ ax (sti.to kp1) fun fl h2 k2 ok => ?_
    cases fl <;> first | exact ok.elim | exact ⟨k, Nat.lt_succ_self _, Γ₁, (h2, k2), k, rfl, rfl, ok, lw'⟩

theorem Bo.mul {x y : Int} (h : IntMulOk x y) : Bo w b .Mult (.int x) (.int y) (.int (x * y)) := by
  refine ⟨fun A s u v Q E _ _ r1 r2 q => ?_⟩
  (first | obtain ⟨_, rfl⟩ := r1.intI | obtain rfl := r1.valI | obtain rfl := r1.boolI | obtain ⟨_, rfl⟩ := r1.strI | cases r1); (first | obtain ⟨_, rfl⟩ := r2.intI | obtain rfl := r2.valI | obtain rfl := r2.boolI | obtain ⟨_, rfl⟩ := r2.strI | cases r2)
  exact mul_int (q _ _ _ .refl (.int _ _)) h
theorem Bo.pow {x y : Int} (h0 : 0 ≤ y) (h : (Builtin.Int.intBits x : Int) * y ≤ 2 ^ 27) : Bo w b .Pow (.int x) (.int y) (.int (x ^ y.toNat)) := by
  refine ⟨fun A s u v Q E _ _ r1 r2 q => ?_⟩
  (first | obtain ⟨_, rfl⟩ := r1.intI | obtain rfl := r1.valI | obtain rfl := r1.boolI | obtain ⟨_, rfl⟩ := r1.strI | cases r1); (first | obtain ⟨_, rfl⟩ := r2.intI | obtain rfl := r2.valI | obtain rfl := r2.boolI | obtain ⟨_, rfl⟩ := r2.strI | cases r2)
  exact pow_int h0 h (q _ _ _ .refl (.int _ _))
theorem Bo.shl {x y : Int} (h0 : 0 ≤ y) (h : (Builtin.Int.intBits x : Int) + y ≤ 2 ^ 27) : Bo w b .LShift (.int x) (.int y) (.int (x * 2 ^ y.toNat)) := by
  refine ⟨fun A s u v Q E _ _ r1 r2 q => ?_⟩
  (first | obtain ⟨_, rfl⟩ := r1.intI | obtain rfl := r1.valI | obtain rfl := r1.boolI | obtain ⟨_, rfl⟩ := r1.strI | cases r1); (first | obtain ⟨_, rfl⟩ := r2.intI | obtain rfl := r2.valI | obtain rfl := r2.boolI | obtain ⟨_, rfl⟩ := r2.strI | cases r2)
  exact lshift_int h0 h (q _ _ _ .refl (.int _ _))
theorem Bo.shr {x y : Int} (h0 : 0 ≤ y) : Bo w b .RShift (.int x) (.int y) (.int (x / 2 ^ y.toNat)) := by
  refine ⟨fun A s u v Q E _ _ r1 r2 q => ?_⟩
  (first | obtain ⟨_, rfl⟩ := r1.intI | obtain rfl := r1.valI | obtain rfl := r1.boolI | obtain ⟨_, rfl⟩ := r1.strI | cases r1); (first | obtain ⟨_, rfl⟩ := r2.intI | obtain rfl := r2.valI | obtain rfl := r2.boolI | obtain ⟨_, rfl⟩ := r2.strI | cases r2)
  refine rshift_int h0 ?_
  rw [Int.fdiv_eq_ediv_of_nonneg _ (Int.pow_nonneg (by decide))]
  exact q _ _ _ .refl (.int _ _)
theorem Ev.neg {e : Expr} {pos : Pos} {x : Int} (h : Ev w b n sc Γ e (.int x)) : Ev w b n sc Γ (.UnaryOp .USub e pos) (.int (-x)) := by
  refine ⟨fun env A s Q E c vr q => R.UnaryOp (h.run env A s _ _ c vr fun v h1 k1 kp1 r1 => ?_)⟩
  (first | obtain ⟨_, rfl⟩ := r1.intI | obtain rfl := r1.valI | obtain rfl := r1.boolI | obtain ⟨_, rfl⟩ := r1.strI | cases r1)
  exact R.of <| PyProof.Rows.neg_int (q _ _ _ kp1 (.int _ _))
theorem Co.ne {x y : Int} : Co w b .NotEq (.int x) (.int y) (x != y) := by
  refine ⟨fun A s u v Q E _ _ r1 r2 q => ?_⟩
  (first | obtain ⟨_, rfl⟩ := r1.intI | obtain rfl := r1.valI | obtain rfl := r1.boolI | obtain ⟨_, rfl⟩ := r1.strI | cases r1); (first | obtain ⟨_, rfl⟩ := r2.intI | obtain rfl := r2.valI | obtain rfl := r2.boolI | obtain ⟨_, rfl⟩ := r2.strI | cases r2)
  exact PyProof.Rows.ne_int (q _ s.toks .refl)
theorem Co.eq {x y : Int} : Co w b .Eq (.int x) (.int y) (x == y) := by
  refine ⟨fun A s u v Q E _ _ r1 r2 q => ?_⟩
  (first | obtain ⟨_, rfl⟩ := r1.intI | obtain rfl := r1.valI | obtain rfl := r1.boolI | obtain ⟨_, rfl⟩ := r1.strI | cases r1); (first | obtain ⟨_, rfl⟩ := r2.intI | obtain rfl := r2.valI | obtain rfl := r2.boolI | obtain ⟨_, rfl⟩ := r2.strI | cases r2)
  exact PyProof.Rows.eq_int (q _ s.toks .refl)
theorem Co.lt {x y : Int} : Co w b .Lt (.int x) (.int y) (decide (x < y)) := by
  refine ⟨fun A s u v Q E _ _ r1 r2 q => ?_⟩
  (first | obtain ⟨_, rfl⟩ := r1.intI | obtain rfl := r1.valI | obtain rfl := r1.boolI | obtain ⟨_, rfl⟩ := r1.strI | cases r1); (first | obtain ⟨_, rfl⟩ := r2.intI | obtain rfl := r2.valI | obtain rfl := r2.boolI | obtain ⟨_, rfl⟩ := r2.strI | cases r2)
  exact PyProof.Rows.lt_int (q _ s.toks .refl)
theorem Co.ge {x y : Int} : Co w b .GtE (.int x) (.int y) (decide (y ≤ x)) := by
  refine ⟨fun A s u v Q E _ _ r1 r2 q => ?_⟩
  (first | obtain ⟨_, rfl⟩ := r1.intI | obtain rfl := r1.valI | obtain rfl := r1.boolI | obtain ⟨_, rfl⟩ := r1.strI | cases r1); (first | obtain ⟨_, rfl⟩ := r2.intI | obtain rfl := r2.valI | obtain rfl := r2.boolI | obtain ⟨_, rfl⟩ := r2.strI | cases r2)
  exact PyProof.Rows.ge_int (q _ s.toks .refl)

theorem RepAll.append {h : Heap} : ∀ {vs ws : List Value} {ds es : List D}, RepAll h vs ds → RepAll h ws es → RepAll h (vs ++ ws) (ds ++ es)
  | _, _, _, _, .nil, r => r
  | _, _, _, _, .cons _ _ _ _ x y, r => .cons _ _ _ _ x (y.append r)
theorem RepAll.drop {h : Heap} : ∀ {vs : List Value} {ds : List D} (k : Nat), RepAll h vs ds → RepAll h (vs.drop k) (ds.drop k)
  | _, _, 0, r => r
  | _, _, _ + 1, .nil => .nil
  | _, _, k + 1, .cons _ _ _ _ _ y => y.drop k
theorem RepAll.take {h : Heap} : ∀ {vs : List Value} {ds : List D} (k : Nat), RepAll h vs ds → RepAll h (vs.take k) (ds.take k)
  | _, _, 0, _ => .nil
  | _, _, _ + 1, .nil => .nil
  | _, _, k + 1, .cons _ _ _ _ x y => .cons _ _ _ _ x (y.take k)

theorem Ev.list {es : List Expr} {pos : Pos} {ds : List D} (h : Evs w b n sc Γ es ds) (hsz : ds.length ≤ sizeLine) : Ev w b n sc Γ (.List es pos) (.list ds) := by
  refine ⟨fun env A s Q E c vr q => ?_⟩
  refine R.List_ (h.run env A s pos _ _ c vr fun vs h1 k1 kp1 r1 => ⟨by rw [r1.length]; exact hsz, ?_⟩)
  exact q _ _ _ (kp1.trans .push) (.list _ vs.toArray _ ⟨_, Heap.get?_push_size _ rfl, rfl, _, rfl⟩ (by simpa using r1.kp (b := b) .push))
theorem Ev.tuple {es : List Expr} {x1} {pos : Pos} {ds : List D} (h : Evs w b n sc Γ es ds) (hsz : ds.length ≤ sizeLine) : Ev w b n sc Γ (.Tuple es x1 pos) (.tup ds) := by
  refine ⟨fun env A s Q E c vr q => ?_⟩
  refine R.Tuple_ (h.run env A s pos _ _ c vr fun vs h1 k1 kp1 r1 => ⟨by rw [r1.length]; exact hsz, ?_⟩)
  exact q _ _ _ (kp1.trans .push) (.tup _ vs.toArray _ ⟨_, Heap.get?_push_size _ rfl, rfl, _, rfl⟩ (by simpa using r1.kp (b := b) .push))
theorem Bo.cat {x y : List D} (h : x.length + y.length ≤ sizeLine) : Bo w b .Add (.list x) (.list y) (.list (x ++ y)) := by
  refine ⟨fun A s u v Q E _ _ r1 r2 q => ?_⟩
  obtain ⟨a, vs, rfl, hl, rv⟩ := r1.listI
  obtain ⟨a', ws, rfl, hl', rw'⟩ := r2.listI
  have l1 := rv.length
  have l2 := rw'.length
  obtain ⟨⟨cls, dd, data, sl⟩, ho, hc, k, hd⟩ := id hl
  obtain ⟨⟨cls2, dd2, data2, sl2⟩, ho2, hc2, k2, hd2⟩ := id hl'
  simp only at hc hd hc2 hd2
  subst hc hd hc2 hd2
  refine concat_meets ⟨_, ho, rfl⟩ ⟨_, ho2, rfl⟩ noFill_list_add seq_list_add PySem.F.slot_list_add PySem.F.entry_list_add (PySem.F.args_list_add_2 _ _) (list_addW a a' vs ws k k2 dd dd2 sl sl2 (by simp only [Array.length_toList] at l1 l2; omega)) ⟨ho, ho2, ?_⟩
  exact q _ _ s.toks .push (.list _ _ _ ⟨_, Heap.get?_push_size _ rfl, rfl, _, rfl⟩ (by rw [Array.toList_append]; exact (rv.append rw').kp (b := b) .push))

/-- a part of a slice -/
inductive Pt (w : World) (b n : Nat) (sc : Scope) (Γ : List (Str × D)) : Option Expr → Option Int → Prop
  | none : Pt w b n sc Γ none none
  | some {e : Expr} {i : Int} : Ev w b n sc Γ e (.int i) → Pt w b n sc Γ (some e) (some i)
theorem Pt.run {e : Option Expr} {i : Option Int} (h : Pt w b n sc Γ e i) {env : Env} {A : Around} {s : Shared} {Q E : Value → Shared → Prop} (c : Cx w b n A s.heap) (vr : Vars sc env Γ s.heap)
    (q : ∀ v h' k, Kp b s.heap h' → IsPart v i → Q v { s with heap := h', toks := k }) : wpR (model PG w) A (evalPart e env) Q E s := by
  cases h with
  | none => exact R.pure (q _ _ s.toks .refl .none)
  | some h => exact h.run env A s _ _ c vr fun v h1 k1 kp1 r1 => by (first | obtain ⟨_, rfl⟩ := r1.intI | obtain rfl := r1.valI | obtain rfl := r1.boolI | obtain ⟨_, rfl⟩ := r1.strI | cases r1); exact q _ _ _ kp1 (.int _ _)
noncomputable def pickD (l : List D) (lo hi : Option Int) : List D := (l.drop (lo.elim 0 (clipAt l.length))).take (hi.elim l.length (clipAt l.length) - lo.elim 0 (clipAt l.length))
theorem Ev.slice {value : Expr} {lower upper : Option Expr} {p pos : Pos} {l : List D} {lo hi : Option Int} (hv : Ev w b n sc Γ value (.list l)) (hlo : Pt w b n sc Γ lower lo) (hhi : Pt w b n sc Γ upper hi) (hsz : l.length ≤ sizeLine)  :
    Ev w b n sc Γ (.Subscript value (.Slice lower upper none p) pos) (.list (pickD l lo hi)) := by
  refine ⟨fun env A s Q E c vr q => ?_⟩
  refine R.Subscript (hv.run env A s _ _ c vr fun v h1 k1 kp1 r1 => ?_)
  obtain ⟨a, vs, rfl, hl, rv⟩ := r1.listI
  refine R.Slice (hlo.run (c.kp kp1) (vr.kp kp1) fun v2 h2 k2 kp2 p2 => hhi.run (c.kp (kp1.trans kp2)) (vr.kp (kp1.trans kp2)) fun v3 h3 k3 kp3 p3 => ?_)
  have hl3 : h3.IsList a vs := IsList.of2 (kp2.trans kp3).solid.two hl
  have len := rv.length
  rw [Array.length_toList] at len
  refine tail_any (T := "list") (Heap.IsList.typeIs (s := { s with heap := h3.push _, toks := k3 }) (hl3.push _)) list_getitem_lookup (wpAny_getItem_list_slice (hl3.push _) (Heap.IsSliceOf.new ..) p2 p3 .none (by simp) ?_ (by omega)) (by with_unfolding_all rfl)
  refine q _ _ _ (((kp1.trans kp2).trans kp3).trans (.trans .push .push)) (.list _ _ _ ⟨_, Heap.get?_push_size _ rfl, rfl, _, rfl⟩ ?_)
  rw [slicePick_plain, len]
  exact ((rv.drop _).take _).kp (b := b) ((kp2.trans kp3).trans (.trans .push .push))
theorem Ev.itemNeg {value e : Expr} {pos : Pos} {l : List D} {k : Int} {d : D} (hv : Ev w b n sc Γ value (.list l)) (he : Ev w b n sc Γ e (.int k)) (h0 : k < 0) (h1 : -(l.length : Int) ≤ k) (h2 : -(2 ^ 63) ≤ k) (hx : l[(k + l.length).toNat]? = some d)
    (hs : ∀ a t, subscripted e false (.ref a) (.int k t) = operate [.ref a, .int k t] (getItem (.ref a) (.int k t)) := by exact fun _ _ => rfl) : Ev w b n sc Γ (.Subscript value e pos) d := by
  refine ⟨fun env A s Q E c vr q => ?_⟩
  refine R.Subscript (hv.run env A s _ _ c vr fun v h1' k1 kp1 r1 => he.run env A _ _ _ (c.kp kp1) (vr.kp kp1) fun v2 h2' k2 kp2 r2 => ?_)
  (first | obtain ⟨_, rfl⟩ := r2.intI | obtain rfl := r2.valI | obtain rfl := r2.boolI | obtain ⟨_, rfl⟩ := r2.strI | cases r2)
  obtain ⟨a, vs, rfl, hl, rv⟩ := r1.listI
  have hl2 : h2'.IsList a vs := IsList.of2 kp2.solid.two hl
  have len := rv.length
  rw [Array.length_toList] at len
  have hi : (k + l.length).toNat < l.length := by omega
  refine tail_any (T := "list") (Heap.IsList.typeIs (s := { s with heap := h2', toks := k2 }) hl2) list_getitem_lookup (wpAny_getItem_list_neg hl2 h0 (by omega) h2 (x := vs[(k + l.length).toNat]'(by omega)) (by rw [show (k + (vs.size : Int)) = k + l.length by omega]; exact Array.getElem?_eq_getElem _) ?_) (hs _ _)
  refine q _ _ k2 (kp1.trans kp2) ?_
  have := (rv.kp kp2).at (k + l.length).toNat (by simpa [len] using hi) hi
  rw [List.getElem?_eq_getElem hi] at hx
  cases hx
  simpa using this
end
end Mine
end
section
open PySem PySem.W PySem.Calls PyProof.Rows
set_option Elab.async false
set_option maxRecDepth 100000
set_option linter.unusedVariables false
namespace Mine
section
variable {w : World} {b n : Nat} {sc : Scope} {Γ : List (Str × D)}

theorem Fn.bltn {i : String} {args : List D} {d : D} (hn : 0 < n) (run : ∀ (A : Around) (s : Shared) (vs : List Value) (Q E : Value → Shared → Prop), A.handled = none → A.units + 10 < cLine → RepAll s.heap vs args →
    (∀ v h' k, Kp b s.heap h' → Rep h' v d → Q v { s with heap := h', toks := k }) → wpAny (model PG w) A (call (.builtin i) vs) Q E s) : Fn w b n (.val (.builtin i)) args d :=
  ⟨fun v h _ r => by (first | obtain ⟨_, rfl⟩ := r.intI | obtain rfl := r.valI | obtain rfl := r.boolI | obtain ⟨_, rfl⟩ := r.strI | cases r); exact Kpr.builtin, fun A s v vs Q E c r rs q => by (first | obtain ⟨_, rfl⟩ := r.intI | obtain rfl := r.valI | obtain rfl := r.boolI | obtain ⟨_, rfl⟩ := r.strI | cases r); refine R.of ?_; exact run A s vs Q E c.hnd (by have := c.un; omega) rs q⟩
theorem Fn.typ {i : String} {args : List D} {d : D} (hn : 0 < n) (run : ∀ (A : Around) (s : Shared) (vs : List Value) (Q E : Value → Shared → Prop), A.handled = none → A.units + 10 < cLine → RepAll s.heap vs args →
    (∀ v h' k, Kp b s.heap h' → Rep h' v d → Q v { s with heap := h', toks := k }) → wpAny (model PG w) A (call (.type i) vs) Q E s) : Fn w b n (.val (.type i)) args d :=
  ⟨fun v h _ r => by (first | obtain ⟨_, rfl⟩ := r.intI | obtain rfl := r.valI | obtain rfl := r.boolI | obtain ⟨_, rfl⟩ := r.strI | cases r); exact Kpr.type, fun A s v vs Q E c r rs q => by (first | obtain ⟨_, rfl⟩ := r.intI | obtain rfl := r.valI | obtain rfl := r.boolI | obtain ⟨_, rfl⟩ := r.strI | cases r); refine R.of ?_; exact run A s vs Q E c.hnd (by have := c.un; omega) rs q⟩
theorem FnF.typ {i : String} {args : List D} {d : D} (hn : 0 < n) (run : ∀ (A : Around) (s : Shared) (vs : List Value) (Q E : Value → Shared → Prop), A.handled = none → A.units + 10 < cLine → RepAll s.heap vs args →
    (∀ v h' k, Kp b s.heap h' → RepF s.heap h' v d → Q v { s with heap := h', toks := k }) → wpAny (model PG w) A (call (.type i) vs) Q E s) : FnF w b n (.val (.type i)) args d :=
  ⟨fun v h _ r => by (first | obtain ⟨_, rfl⟩ := r.intI | obtain rfl := r.valI | obtain rfl := r.boolI | obtain ⟨_, rfl⟩ := r.strI | cases r); exact Kpr.type, fun A s v vs Q E c r rs q => by (first | obtain ⟨_, rfl⟩ := r.intI | obtain rfl := r.valI | obtain rfl := r.boolI | obtain ⟨_, rfl⟩ := r.strI | cases r); refine R.of ?_; exact run A s vs Q E c.hnd (by have := c.un; omega) rs q⟩
theorem RepAll.one {h : Heap} {vs : List Value} {d : D} (r : RepAll h vs [d]) : ∃ v, vs = [v] ∧ Rep h v d := by
  cases r with | cons v _ vs _ x y => cases y; exact ⟨v, rfl, x⟩
theorem RepAll.two {h : Heap} {vs : List Value} {d e : D} (r : RepAll h vs [d, e]) : ∃ v u, vs = [v, u] ∧ Rep h v d ∧ Rep h u e := by
  cases r with | cons v _ vs _ x y => obtain ⟨u, rfl, z⟩ := y.one; exact ⟨v, u, rfl, x, z⟩

theorem Fn.len {l : List D} (hn : 0 < n) (hl : (l.length : Int) < 2 ^ 63) : Fn w b n (.val (.builtin "len")) [.list l] (.int l.length) := by
  refine .bltn hn fun A s vs Q E hh hu rs q => ?_
  obtain ⟨v, rfl, r⟩ := rs.one
  obtain ⟨a, vs, rfl, hl', rv⟩ := r.listI
  have len := rv.length
  rw [Array.length_toList] at len
  refine call_len_list hl' (by omega) ?_
  rw [len]
  exact q _ _ _ .refl (.int _ _)
noncomputable def absI (x : Int) : Int := if x < 0 then -x else x
theorem Fn.abs {x : Int} (hn : 0 < n) : Fn w b n (.val (.builtin "abs")) [.int x] (.int (absI x)) := by
  refine .bltn hn fun A s vs Q E hh hu rs q => ?_
  obtain ⟨v, rfl, r⟩ := rs.one
  (first | obtain ⟨_, rfl⟩ := r.intI | obtain rfl := r.valI | obtain rfl := r.boolI | obtain ⟨_, rfl⟩ := r.strI | cases r)
  exact call_abs_int fun u tk => q _ _ _ .refl (.int _ _)
theorem Fn.max {x y : Int} (hn : 0 < n) : Fn w b n (.val (.builtin "max")) [.int x, .int y] (.int (if y > x then y else x)) := by
  refine .bltn hn fun A s vs Q E hh hu rs q => ?_
  obtain ⟨v, u, rfl, r, r'⟩ := rs.two
  (first | obtain ⟨_, rfl⟩ := r.intI | obtain rfl := r.valI | obtain rfl := r.boolI | obtain ⟨_, rfl⟩ := r.strI | cases r); (first | obtain ⟨_, rfl⟩ := r'.intI | obtain rfl := r'.valI | obtain rfl := r'.boolI | obtain ⟨_, rfl⟩ := r'.strI | cases r')
  refine max_two_ints hh fun h' tk k => q _ _ _ (.of k) ?_
  split <;> exact .int _ _
theorem Fn.min {x y : Int} (hn : 0 < n) : Fn w b n (.val (.builtin "min")) [.int x, .int y] (.int (if y < x then y else x)) := by
  refine .bltn hn fun A s vs Q E hh hu rs q => ?_
  obtain ⟨v, u, rfl, r, r'⟩ := rs.two
  (first | obtain ⟨_, rfl⟩ := r.intI | obtain rfl := r.valI | obtain rfl := r.boolI | obtain ⟨_, rfl⟩ := r.strI | cases r); (first | obtain ⟨_, rfl⟩ := r'.intI | obtain rfl := r'.valI | obtain rfl := r'.boolI | obtain ⟨_, rfl⟩ := r'.strI | cases r')
  refine min_two_ints hh fun h' tk k => q _ _ _ (.of k) ?_
  split <;> exact .int _ _

/-- an operation in place -/
theorem Ex1.augAdd {x : Str} {e : Expr} {pos pos' : Pos} {i j : Int} (hx : look x Γ = some (.int i)) (h : Ev w b n sc Γ e (.int j)) (hk : sc.names.lookup x = some .local) : Ex1 w b n sc Γ (.AugAssign (.Name x pos') .Add e pos) (.nx (put x (.int (i + j)) Γ)) := by
  refine ⟨fun env outer g A s Q E ax st q => ?_⟩
  refine R.AugAssign (loadV st.vars hx fun v rv => h.run env A s _ _ (st.cx ax) st.vars fun u h1 k1 kp1 r1 => ?_)
  (first | obtain ⟨_, rfl⟩ := rv.intI | obtain rfl := rv.valI | obtain rfl := rv.boolI | obtain ⟨_, rfl⟩ := rv.strI | cases rv); (first | obtain ⟨_, rfl⟩ := r1.intI | obtain rfl := r1.valI | obtain rfl := r1.boolI | obtain ⟨_, rfl⟩ := r1.strI | cases r1)
  exact wpAny_iadd_int ((st.to kp1).store (s := { s with heap := h1, toks := k1 + 1 }) hk (.int _ _) fun h' k st' => q .next h' k st')
theorem Ex1.assignC {x : Str} {e : Expr} {pos pos' : Pos} {d : D} (h : Ev w b n sc Γ e d) (hk : sc.names.lookup x = some .cell) (hc : ∀ p ∈ Γ, Cf p.2) (hd : Cf d)
    (hs : ∀ env, env.kindOf x = some .cell → swapsWith e (some (.Name x pos')) pos.line env = pure false) : Ex1 w b n sc Γ (.Assign [.Name x pos'] e pos) (.nx (put x d Γ)) := by
  refine ⟨fun env outer g A s Q E ax st q => ?_⟩
  refine R.Assign (h.run env A s _ _ (st.cx ax) st.vars fun v h1 k1 kp1 r1 => ?_) (hs env (by unfold Env.kindOf; rw [st.vars.sco]; exact hk))
  refine (st.to kp1).storeC (s := { s with heap := h1, toks := k1 }) hk hc r1 (fun h' c hl hs' => ?_) fun h' k st' => q .next h' k st'
  obtain ⟨c', v', e', oc, eC, dC⟩ := (st.to kp1).ce x hk
  rw [hl] at e'; cases e'
  exact r1.solid2 (fun a o e _ h2 _ => (hs'.2 a fun q => by subst q; rw [eC] at e; cases e; exact h2 _ dC).trans e) hd
theorem swapsWith_comp_cell {elt : Expr} {gens : List Comprehension} {scope : Scope} {pos px : Pos} {x : Str} {l : Nat} {env : Env} (h : env.kindOf x = some .cell) : swapsWith (.ListComp elt gens scope pos) (some (.Name x px)) l env = pure false := by
  show pure (env.blockKind == .function && env.kindOf x == some .local && px.line == pos.line && !(scope.names.any fun (n, k) => n == x && (k == .local || k == .cell))) = pure false
  rw [h, show (some NameKind.cell == some NameKind.local) = false from rfl, Bool.and_false, Bool.false_and, Bool.false_and]

/-- equal data are not unlike -/
inductive Fl : Nat → D → Prop
  | int (k i) : Fl k (.int i)
  | list (k l) : (∀ d ∈ l, Fl k d) → Fl (k + 1) (.list l)
theorem beq_all {k : Nat} {e : Nat → Bool} (h : ∀ j < k, e j = true) : (List.range k).all e = true := List.all_eq_true.mpr fun j hj => h j (List.mem_range.mp hj)
theorem eqAt_same : ∀ (k : Nat) {d : D} {A : Around} {s : Shared} {u v : Value}, Fl k d → A.units + k < cLine → Rep s.heap u d → Rep s.heap v d → SeqAt.EqAt A s u v true := by
  intro k
  induction k with
  | zero =>
    intro d A s u v hf _ r1 r2
    cases hf
    (first | obtain ⟨_, rfl⟩ := r1.intI | obtain rfl := r1.valI | obtain rfl := r1.boolI | obtain ⟨_, rfl⟩ := r1.strI | cases r1); (first | obtain ⟨_, rfl⟩ := r2.intI | obtain rfl := r2.valI | obtain rfl := r2.boolI | obtain ⟨_, rfl⟩ := r2.strI | cases r2)
    have := SeqAt.EqAt.int_int (A := A) (s := s)
    rename_i i t t'
    have := this i t i t'
    rw [beq_self_eq_true] at this; exact this
  | succ k ih =>
    intro d A s u v hf hu r1 r2
    cases hf with
    | int _ i =>
      (first | obtain ⟨_, rfl⟩ := r1.intI | obtain rfl := r1.valI | obtain rfl := r1.boolI | obtain ⟨_, rfl⟩ := r1.strI | cases r1); (first | obtain ⟨_, rfl⟩ := r2.intI | obtain rfl := r2.valI | obtain rfl := r2.boolI | obtain ⟨_, rfl⟩ := r2.strI | cases r2)
      rename_i t t'
      have := SeqAt.EqAt.int_int (A := A) (s := s) i t i t'
      rw [beq_self_eq_true] at this; exact this
    | list _ l hl =>
      obtain ⟨a, vs, rfl, h1, rv⟩ := r1.listI
      obtain ⟨a', ws, rfl, h2, rw'⟩ := r2.listI
      by_cases haa : a = a'
      · subst haa; exact SeqAt.EqAt.same _
      have l1 := rv.length
      have l2 := rw'.length
      rw [Array.length_toList] at l1 l2
      refine SeqAt.EqAt.of_refs haa ?_
      have := SeqAt.RcAt.lists (A := A) (s := s) (e := fun _ => true) h1 h2 (by omega) (by omega) fun j j1 j2 => ?_
      · rw [beq_all fun _ _ => rfl] at this; exact this
      · have hj : j < l.length := by omega
        exact ih (hl _ (List.getElem_mem hj)) (by show A.units + 1 + k < cLine; omega) (by have := rv.at j (by simpa using j1) hj; rwa [Array.getElem_toList] at this) (by have := rw'.at j (by simpa using j2) hj; rwa [Array.getElem_toList] at this)
theorem Co.same {k : Nat} {l : List D} (hf : Fl (k + 1) (.list l)) (hk : k < 9) : Co w b .NotEq (.list l) (.list l) false := by
  refine ⟨fun A s u v Q E hh hu r1 r2 q => ?_⟩
  obtain ⟨a, vs, rfl, h1, rv⟩ := r1.listI
  obtain ⟨a', ws, rfl, h2, rw'⟩ := r2.listI
  have l1 := rv.length
  have l2 := rw'.length
  rw [Array.length_toList] at l1 l2
  have := SeqAt.RcNeAt.lists (A := A) (s := s) (e := fun _ => true) h1 h2 (by omega) (by omega) fun j j1 j2 => by
    have hj : j < l.length := by omega
    refine eqAt_same k ?_ (by show A.units + 1 + k < cLine; omega) (by have := rv.at j (by simpa using j1) hj; rwa [Array.getElem_toList] at this) (by have := rw'.at j (by simpa using j2) hj; rwa [Array.getElem_toList] at this)
    cases hf with | list _ _ hl => exact hl _ (List.getElem_mem hj)
  rw [beq_all fun _ _ => rfl] at this
  exact EqBoolInt.of_rcne this (q _ s.toks .refl)
theorem Bo.rep {l : List D} {x : Int} (h0 : 0 ≤ x) (h1 : l.length * x.toNat ≤ 256) (h2 : x < 2 ^ 62) : Bo w b .Mult (.list l) (.int x) (.list (List.replicate x.toNat l).flatten) := by
  refine ⟨fun A s u v Q E _ _ r1 r2 q => ?_⟩
  (first | obtain ⟨_, rfl⟩ := r2.intI | obtain rfl := r2.valI | obtain rfl := r2.boolI | obtain ⟨_, rfl⟩ := r2.strI | cases r2)
  obtain ⟨a, vs, rfl, hl, rv⟩ := r1.listI
  have len := rv.length
  rw [Array.length_toList] at len
  obtain ⟨⟨cls, d, data, sl⟩, ho, hcl, k, hd⟩ := id hl
  simp only at hcl hd
  subst hcl hd
  have hsz' : vs.size * x.toNat ≤ 256 := by rw [len]; exact h1
  refine wpAny_binaryOp_repeat_ref (T := "list") (U := "int") (by decide) ⟨_, ho, rfl⟩ (fun s' => typeIs_int s' x _) noFill_list_mul F.fills_int_mul F.slot_int_rmul repeat_list F.slot_int_index.lookup
    (call_meets F.slot_int_rmul (typeIs_int s x _) F.entry_int_rmul (F.args_int_rmul_2 _ _) (lm_int_rmul_list_any x _ a vs k d sl)
      ⟨ho, rfl, ⟨_, ho, rfl⟩, call_meets F.slot_list_mul ⟨_, ho, rfl⟩ F.entry_list_mul (F.args_list_mul_2 _ _)
        (lm_list_mul_any a vs k d sl x _ (by simp [Builtin.List.listFitsIndex]; omega) (by omega) (by simp [Builtin.List.listTooLong, sizeLine]; omega))
        ⟨ho, ?_⟩⟩)
  rw [listMul_foldl_if]
  refine q _ _ s.toks .push (.list _ _ _ ⟨_, Heap.get?_push_size _ rfl, rfl, _, rfl⟩ ?_)
  have : ∀ m : Nat, RepAll s.heap (List.replicate m vs.toList).flatten (List.replicate m l).flatten := fun m => by
    induction m with
    | zero => exact .nil
    | succ m ih => rw [List.replicate_succ, List.replicate_succ, List.flatten_cons, List.flatten_cons]; exact rv.append ih
  exact (this _).kp (b := b) .push
end
end Mine
end
section
open PySem PySem.W PySem.Calls PyProof.Rows
set_option Elab.async false
set_option maxRecDepth 100000
set_option linter.unusedVariables false
namespace Mine
section
variable {prog : Program} {w : World} {A : Around} {E : Value → Shared → Prop} {s : Shared}
theorem rBuiltin {i : String} {args : Args} {b : Builtin} {P : Result → Shared → Prop} (hb : entryFor table i = some b) (hn : noDec (.builtin i args) = true)
    (h : wpR (model prog w) (A.under (.builtin i args)) (b args) (fun fin s' => match fin with | .done f => P (.ok f) s' | .again c' => c'.quiet = true ∧ codeR (model prog w) A c' P s') (fun e s' => P (.error e) s') s) : codeR (model prog w) A (.builtin i args) P s := by
  refine R.tree hn ?_
  show wpR _ _ (match entryFor table i with | some b => b args | none => unsupported ((withoutEnding? i "#data").getD i)) _ _ s
  rw [hb]; exact h
theorem rIff {α : Type} {M : Model} {A : Around} {c : Bool} {a b : Sem α} {Q : α → Shared → Prop} (hc : c = false) (h : wpR M A b Q E s) : wpR M A (if c = true then a else b) Q E s := by
  subst hc; exact h
/-- a class of the interpreter's is called -/
theorem rCallType {T newId initId : String} {args : List Value} {Q : Value → Shared → Prop} (ft : TypeCalled T newId initId) (hct : checkTypeCall T ⟨args, []⟩ = pure ())
    (h : wpR (model prog w) A.in1 (PySem.call (.builtin newId) (.type T :: args)) (fun obj s₁ => s₁.TypeIs obj T ∧ wpR (model prog w) A.in1 (PySem.call (.builtin initId) (obj :: args)) (fun r s₂ => r = .none ∧ Q obj s₂) E s₁) E s) :
    wpR (model prog w) A (PySem.call (.type T) args) Q E s := by
  obtain ⟨c, tl, hmro⟩ := ft.mro
  refine R.call (R.tree rfl ?_)
  show wpR _ _ (callAny (.type T) _) _ _ _
  refine R.pure ⟨Code.quiet_builtin _ (by decide +kernel), rBuiltin F.entry_type_call (by show (!Builtin.Bytes.decodersThatHold.contains "type.__call__") = true; decide +kernel) ?_⟩
  rw [Around.under_plain (weight_type_call_type T args []) (units_type_call_type T args [])]
  unfold Builtin.«type.__call__»
  refine rIff ft.notType ?_
  refine rIff ft.canCreate ?_
  refine R.bind (R.eqp hct (R.bind (R.eqp hmro (rIff rfl (R.bind (R.eqp ft.made (R.bind (R.pure (R.bind (R.holding ?_))))))))))
  refine R.mono h (fun obj s₁ h₁ => ?_) fun _ _ x => x
  refine R.after (wpAny_isInstance h₁.1 ft.sub ?_)
  refine rIff rfl ?_
  refine R.bind (R.holding ?_)
  have hs := ft.init
  unfold callSpecial?
  refine R.after (wpAny_specialOf h₁.1 hs.lookup ?_)
  dsimp only
  refine R.holding ?_
  rw [hs.bind obj]
  refine R.bind (R.pure (R.bind (R.mono h₁.2 (fun r s₂ h₂ => ?_) fun _ _ x => x)))
  obtain ⟨rfl, hq⟩ := h₂
  exact R.pure (rIff rfl (R.pure hq))
end
namespace Ba
theorem mro : mroOf (.type "bytearray") = pure [.type "bytearray", .type "object"] := by rw [mroOf_type]; kernel_rfl
theorem lookup_new : typeLookup (.type "bytearray") "__new__" = pure (some (.builtin "bytearray.__new__")) := by rw [typeLookup_type, builtinLookup_eq_fast]; kernel_rfl
theorem slot_init : Slot "bytearray" "__init__" "bytearray.__init__" :=
  .of (owner := "bytearray") (n := "__init__") (by rw [typeLookup_type, builtinLookup_eq_fast]; kernel_rfl) (by decide +kernel) (by decide +kernel) (by decide +kernel)
    (by first | exact .inl (by decide +kernel) | exact .inr (by decide +kernel)) (by rw [isSubtype_type]; kernel_rfl)
theorem called : TypeCalled "bytearray" "bytearray.__new__" "bytearray.__init__" :=
  ⟨by decide +kernel, by decide +kernel, ⟨_, _, mro⟩, madeBy_type mro lookup_new (by decide +kernel), by decide +kernel, by rw [isSubtype_type]; kernel_rfl, slot_init⟩
theorem typeCall (a : Value) : checkTypeCall "bytearray" ⟨[a], []⟩ = pure () := by kernel_rfl
theorem newCall (a : Value) : checkBuiltinCall "bytearray.__new__" ⟨[.type "bytearray", a], []⟩ = pure () := by kernel_rfl
theorem entry_new : entryFor table "bytearray.__new__" = some Builtin.«list.__new__» :=
  entryFor_alias (id' := "list.__new__") (by kernel_rfl) (by first | rfl | decide +kernel) (by decide +kernel) (by kernel_rfl)
theorem entry_init : entryFor table "bytearray.__init__" = some Builtin.«bytearray.__init__» := by first | exact entryFor_of_fast (by kernel_rfl) | exact entryFor_of_tree (by kernel_rfl)
theorem args_init (a b : Value) : argsOk "bytearray.__init__" ⟨[a, b], []⟩ := by unfold argsOk; kernel_rfl
theorem plain_new : plainId "bytearray.__new__" = true := by decide +kernel
set_option maxRecDepth 1000000 in
set_option maxHeartbeats 4000000 in
theorem owner_new : ("bytearray.__new__".splitOn ".__new__").headD "" = "bytearray" := by simp +decide [String.splitOn, String.splitOnAux]
theorem sub : isSubtype (.type "bytearray") (.type "bytearray") = pure true := by rw [isSubtype_type]; kernel_rfl
theorem bind (v : Value) : Builtin.Bytes.bindOptional "bytearray.__init__" "bytearray" ["source", "encoding", "errors"] [v] [] = pure [some v, none, none] := by kernel_rfl
theorem noIdx : typeLookup (.type "bytes") "__index__" = pure none := by rw [typeLookup_type, builtinLookup_eq_fast]; kernel_rfl
theorem release : typeLookup (.type "bytearray") "__release_buffer__" = pure (some (.builtin "bytearray.__release_buffer__")) := by rw [typeLookup_type, builtinLookup_eq_fast]; kernel_rfl
theorem buffer : typeLookup (.type "bytes") "__buffer__" = pure (some (.builtin "bytes.__buffer__")) := by rw [typeLookup_type, builtinLookup_eq_fast]; kernel_rfl
theorem no_release : typeLookup (.type "bytes") "__release_buffer__" = pure none := by rw [typeLookup_type, builtinLookup_eq_fast]; kernel_rfl
section
variable {prog : Program} {w : World} {A : Around} {E : Value → Shared → Prop} {s : Shared}
theorem new {a : Value} {Q : Value → Shared → Prop} (h : Q (.ref s.heap.objs.size) { s with heap := s.heap.push { cls := .type "bytearray", data := .bytearray #[] } }) :
    wpR (model prog w) A (PySem.call (.builtin "bytearray.__new__") [.type "bytearray", a]) Q E s := by
  refine R.call (R.cof (codeAny_of_tree ?_))
  show wpAny _ A.in1 (do checkBuiltinCall "bytearray.__new__" ⟨[.type "bytearray", a], []⟩; again (.builtin "bytearray.__new__" ⟨[.type "bytearray", a], []⟩)) _ _ s
  refine wpAny_bind (wpAny_of_eq (newCall a) (wpAny_pure ⟨plainId_quiet plain_new _, codeAny_builtin_stack entry_new rfl fun p st => ?_⟩))
  rw [Around.under_plainId plain_new _]
  have hsub := sub
  have hown := owner_new
  obtain ⟨hp, g, d, tk, os⟩ := s
  simp only [hown]
  wp_walk
  exact h
theorem dno {c : Prop} {i : Decidable c} {α : Type} {x : c → α} {y : ¬ c → α} {v : α} (h : ¬ c) (g : y h = v) : @dite α c i x y = v := (dif_neg h).trans g
set_option smartUnfolding false in
/-- what asks the stack whether it holds an object says no of a frame that is neither a guard nor a decoder -/
theorem asks (a : Addr) : ∃ f : Code × Pos → Bool, Builtin.Bytes.exported (.ref a) = (stack >>= fun l => Pure.pure (l.any f)) ∧ ∀ c q, c.isGuard = false → noDec c = true → f (c, q) = false := by
  refine ⟨_, rfl, fun c q hg hd => ?_⟩
  cases c with
  | builtin id args =>
    have ne : ∀ k : String, guardIds.contains k = true → id ≠ k := fun k hk e => by
      have hg : guardIds.contains id = false := hg
      rw [e, hk] at hg; cases hg
    have hdc : Builtin.Bytes.decodersThatHold.contains id = false := (Bool.not_eq_true' _).mp hd
    obtain ⟨ps, kw⟩ := args
    refine dno (ne _ (by decide)) (dno (ne _ (by decide)) (dno (ne _ (by decide)) (dno (ne _ (by decide)) (dno (ne _ (by decide)) ?_))))
    cases ps with
    | nil => rfl
    | cons v r => exact (congrArg (Builtin.Bytes.sameRef v (.ref a) && ·) hdc).trans (Bool.and_false _)
  | _ => rfl
theorem not_exported {M : Model} {a : Addr} {Q : Bool → Shared → Prop} (hg : A.guards = some []) (h : Q false s) : wpR M A (Builtin.Bytes.exported (.ref a)) Q E s := by
  obtain ⟨f, e, no⟩ := asks a
  rw [e]
  intro Γ p x
  show Q (((Γ.code, p) :: Γ.below).any f) s
  have key : ∀ l : List (Code × Pos), guardsOf l = [] → NoD l → l.any f = false := fun l => by
    induction l with
    | nil => intro _ _; rfl
    | cons cp r ih =>
      intro g n
      rw [guardsOf_cons] at g
      obtain ⟨g1, g2⟩ := List.append_eq_nil_iff.mp g
      have gd : cp.1.isGuard = false := by
        cases hh : cp.1.isGuard with
        | false => rfl
        | true => simp [Code.guards, hh] at g1
      rw [List.any_cons, ih g2 fun y hy => n y (.tail _ hy), Bool.or_false]
      exact no cp.1 cp.2 gd (n _ (.head _))
  rw [key ((Γ.code, p) :: Γ.below) (by rw [guardsOf_cons]; exact x.i.2.2.2.1 _ hg) (NoD.cons x.c x.b)]
  exact h
theorem ends1 : ("bytearray.__release_buffer__".endsWith ("." ++ "__release_buffer__")) = true := by decide +kernel
theorem drop1 : ("bytearray.__release_buffer__".dropRight ("__release_buffer__".length + 1)) = "bytearray" := by decide +kernel
theorem ends2 : ("bytes.__buffer__".endsWith ("." ++ "__buffer__")) = true := by decide +kernel
theorem drop2 : ("bytes.__buffer__".dropRight ("__buffer__".length + 1)) = "bytes" := by decide +kernel
theorem ownRel {M : Model} {a : Addr} {o : Obj} {Q : Bool → Shared → Prop} (ho : s.heap.get? a = some o) (hc : o.cls = .type "bytearray") (h : Q false s) : wpAny M A (Builtin.Bytes.ownRelease (.ref a)) Q E s := by
  have hT : s.TypeIs (.ref a) "bytearray" := ⟨o, ho, hc⟩
  unfold Builtin.Bytes.ownRelease Builtin.Bytes.slotIsOwn
  refine wpAny_bind (wpAny_bind (wpAny_specialOf hT release ?_))
  show wpAny M A (if (!"bytearray.__release_buffer__".endsWith ("." ++ "__release_buffer__")) = true then _ else _) _ _ _
  rw [ends1]
  refine KFB.if_not rfl ?_
  rw [drop1]
  exact wpAny_isInstance hT sub (wpAny_pure h)
theorem ownRelB {M : Model} {b : Array UInt8} {t : Tok} {Q : Bool → Shared → Prop} (h : Q false s) : wpAny M A (Builtin.Bytes.ownRelease (.bytes b t)) Q E s := by
  have hT : s.TypeIs (.bytes b t) "bytes" := PySem.W.typeIs_bytes _ _ _
  unfold Builtin.Bytes.ownRelease Builtin.Bytes.slotIsOwn
  exact wpAny_bind (wpAny_bind (wpAny_specialOf hT no_release (wpAny_pure (wpAny_pure h))))
theorem buf {M : Model} {b : Array UInt8} {t : Tok} {Q : Option (Array UInt8) → Shared → Prop} (h : Q (some b) s) : wpAny M A (Builtin.Bytes.buffer? "bytearray.__init__" (.bytes b t) true) Q E s := by
  have hT : s.TypeIs (.bytes b t) "bytes" := PySem.W.typeIs_bytes _ _ _
  unfold Builtin.Bytes.buffer?
  refine wpAny_bind (wpAny_specialOf hT buffer ?_)
  dsimp only
  refine wpAny_bind ?_
  unfold Builtin.Bytes.slotIsOwn
  refine wpAny_bind (wpAny_specialOf hT buffer ?_)
  show wpAny M A (if (!"bytes.__buffer__".endsWith ("." ++ "__buffer__")) = true then _ else _) _ _ _
  rw [ends2]
  refine KFB.if_not rfl ?_
  rw [drop2]
  refine wpAny_isInstance hT F.bm_sub ?_
  refine KFB.if_not rfl ?_
  refine wpAny_bind (wpAny_specialOf hT buffer ?_)
  refine wpAny_bind (ownRelB ?_)
  refine KFB.if_not rfl ?_
  exact wpAny_bind (wpAny_bind (wpAny_pure (wpAny_pure (wpAny_pure h))))
theorem wr {M : Model} {a : Addr} {o : Obj} {c : Array UInt8} {f : Array UInt8 → Array UInt8} {Q : Unit → Shared → Prop} (ho : s.heap.get? a = some { cls := .type "bytearray", data := .bytearray c }) (hz : (f c).size ≤ sizeLine)
    (h : ∀ h', h'.get? a = some { cls := .type "bytearray", data := .bytearray (f c) } → Heap.SameBut a s.heap h' → Q () { s with heap := h' }) : wpAny M A (Builtin.Bytes.write (.ref a) f) Q E s := by
  unfold Builtin.Bytes.write updateBytearray
  refine wpAny_bind (wpAny_load ho ?_)
  dsimp only
  refine wpAny_bind (wpAny_update ho ?_)
  have hu : (s.heap.update a (Obj.mapBytearray f)).get? a = some { cls := .type "bytearray", data := .bytearray (f c) } := Heap.get?_update_self _ ho rfl
  refine wpAny_lookBehind hu ?_ (h _ hu (Heap.SameBut.update ..))
  show (if (f c).size > sizeLine then _ else _) = none
  rw [if_neg (Nat.not_lt.mpr hz)]
theorem init {b : Array UInt8} {t : Tok} {a : Addr} {Q : Value → Shared → Prop} (hg : A.guards = some []) (ho : s.heap.get? a = some { cls := .type "bytearray", data := .bytearray #[] }) (hz : b.size ≤ sizeLine)
    (h : ∀ h', h'.get? a = some { cls := .type "bytearray", data := .bytearray b } → Heap.SameBut a s.heap h' → Q .none { s with heap := h' }) : wpR (model prog w) A (PySem.call (.builtin "bytearray.__init__") [.ref a, .bytes b t]) Q E s := by
  have hT : s.TypeIs (.ref a) "bytearray" := ⟨_, ho, rfl⟩
  have hTb : ∀ s' : Shared, s'.TypeIs (.bytes b t) "bytes" := fun s' => PySem.W.typeIs_bytes _ _ _
  refine R.call (R.tree rfl ?_)
  show wpR _ A.in1 (do checkBuiltinCall "bytearray.__init__" ⟨[.ref a, .bytes b t], []⟩; again (.builtin "bytearray.__init__" ⟨[.ref a, .bytes b t], []⟩)) _ _ s
  refine R.after (slot_init.check _ _ _ _ _ _ _ _ hT (args_init _ _) (R.pure ⟨plainId_quiet slot_init.plain _, rBuiltin entry_init (by show (!Builtin.Bytes.decodersThatHold.contains "bytearray.__init__") = true; decide +kernel) ?_⟩))
  rw [Around.under_plainId slot_init.plain _]
  unfold Builtin.«bytearray.__init__»
  refine R.after (ownRel ho rfl ?_)
  refine rIff rfl ?_
  refine R.bind (R.eqp (bind _) ?_)
  refine R.bind (R.eqp rfl ?_)
  refine R.bind (R.eqp rfl ?_)
  refine R.bind (R.bind (not_exported hg ?_))
  refine R.bind (R.after (wpAny_load ho (R.pure (R.pure ?_))))
  refine rIff (by decide) ?_
  refine R.after (wr (o := default) ho (Nat.zero_le _) fun h1 ho1 hs1 => ?_)
  refine R.bind (R.eqp (a := none) rfl ?_)
  refine rIff rfl ?_
  refine R.bind (R.eqp (a := ()) rfl ?_)
  refine R.after (wpAny_specialOf (hTb _) noIdx ?_)
  refine rIff rfl ?_
  refine R.after (buf ?_)
  refine R.after (wpAny_rule (R.after (wr (o := default) ho1 hz fun h2 ho2 hs2 => R.pure ?_)))
  exact h h2 ho2 (hs1.trans hs2)
/-- bytearray of bytes: a new object -/
theorem call {b : Array UInt8} {t : Tok} {Q : Value → Shared → Prop} (hg : A.guards = some []) (hz : b.size ≤ sizeLine)
    (h : ∀ h', (∀ a o, s.heap.get? a = some o → h'.get? a = some o) → h'.get? s.heap.objs.size = some { cls := .type "bytearray", data := .bytearray b } → Q (.ref s.heap.objs.size) { s with heap := h' }) :
    wpR (model prog w) A (PySem.call (.type "bytearray") [.bytes b t]) Q E s := by
  refine rCallType called (typeCall _) (new ⟨⟨_, Heap.get?_push_size _ rfl, rfl⟩, init hg (Heap.get?_push_size _ rfl) hz fun h' ho hs => ⟨rfl, h h' (fun a o e => ?_) ho⟩⟩)
  exact (hs.2 a (Nat.ne_of_lt (Heap.lt_size e))).trans (Heap.get?_push_of_some _ e)
end
end Ba
section
variable {w : World} {b n : Nat} {sc : Scope} {Γ : List (Str × D)}
theorem Fn.barr {bs : Array UInt8} (hn : 0 < n) (hz : bs.size ≤ sizeLine) : Fn w b n (.val (.type "bytearray")) [.bytes bs] (.barr bs) := by
  refine ⟨fun v h _ r => by (first | obtain ⟨_, rfl⟩ := r.intI | obtain rfl := r.valI | obtain rfl := r.boolI | obtain ⟨_, rfl⟩ := r.strI | cases r); exact Kpr.type, fun A s v vs Q E c r rs q => ?_⟩
  (first | obtain ⟨_, rfl⟩ := r.intI | obtain rfl := r.valI | obtain rfl := r.boolI | obtain ⟨_, rfl⟩ := r.strI | cases r)
  obtain ⟨v, rfl, r⟩ := rs.one
  (first | obtain ⟨_, rfl⟩ := r.intI | obtain rfl := r.valI | obtain rfl := r.boolI | obtain ⟨_, rfl⟩ := r.strI | cases r)
  exact Ba.call c.gd hz fun h' k ho => q _ _ s.toks (.of k) (.barr _ _ _ ho rfl rfl)
theorem ints_are {h : Heap} : ∀ {vs : List Value} {ns : List Int}, RepAll h vs (ns.map .int) → IntsAre vs ns
  | _, [], .nil => .nil
  | _, _ :: _, .cons _ _ _ _ (.int i t) r => .cons i t (ints_are r)
theorem Fn.bytes {ns : List Int} (hn : 0 < n) (hr : ∀ i ∈ ns, 0 ≤ i ∧ i < 256) (hz : ns.length ≤ sizeLine) : Fn w b n (.val (.type "bytes")) [.list (ns.map .int)] (.bytes (byteArr ns)) := by
  refine .typ hn fun A s vs Q E hh hu rs q => ?_
  obtain ⟨v, rfl, r⟩ := rs.one
  obtain ⟨a, vs, rfl, hl, rv⟩ := r.listI
  have hi := ints_are rv
  exact call_bytes_ints (vs := vs.toList) (by simpa using hl) hi hr (by rw [hi.length]; exact hz) hh fun h' t k hk => q _ _ _ (.of hk) (.bytes _ _)
end
end Mine
end
section
open PySem PySem.W PySem.Calls PyProof.Rows
set_option Elab.async false
set_option maxRecDepth 100000
set_option linter.unusedVariables false
namespace Mine
namespace Ba
theorem slot_iter : Slot "bytearray" "__iter__" "bytearray.__iter__" :=
  .of (owner := "bytearray") (n := "__iter__") (by rw [typeLookup_type, builtinLookup_eq_fast]; kernel_rfl) (by decide +kernel) (by decide +kernel) (by decide +kernel)
    (by first | exact .inl (by decide +kernel) | exact .inr (by decide +kernel)) (by rw [isSubtype_type]; kernel_rfl)
theorem entry_iter : entryFor table "bytearray.__iter__" = some Builtin.«bytearray.__iter__» := by first | exact entryFor_of_fast (by kernel_rfl) | exact entryFor_of_tree (by kernel_rfl)
theorem args_iter (a : Value) : argsOk "bytearray.__iter__" ⟨[a], []⟩ := by unfold argsOk; kernel_rfl
theorem slot_next : Slot "bytearray_iterator" "__next__" "bytearray_iterator.__next__" :=
  .of (owner := "bytearray_iterator") (n := "__next__") (by rw [typeLookup_type, builtinLookup_eq_fast]; kernel_rfl) (by decide +kernel) (by decide +kernel) (by decide +kernel)
    (by first | exact .inl (by decide +kernel) | exact .inr (by decide +kernel)) (by rw [isSubtype_type]; kernel_rfl)
theorem entry_next : entryFor table "bytearray_iterator.__next__" = some Builtin.«bytearray_iterator.__next__» := by first | exact entryFor_of_fast (by kernel_rfl) | exact entryFor_of_tree (by kernel_rfl)
theorem args_next (a : Value) : argsOk "bytearray_iterator.__next__" ⟨[a], []⟩ := by unfold argsOk; kernel_rfl
theorem slot_len : Slot "bytearray" "__len__" "bytearray.__len__" :=
  .of (owner := "bytearray") (n := "__len__") (by rw [typeLookup_type, builtinLookup_eq_fast]; kernel_rfl) (by decide +kernel) (by decide +kernel) (by decide +kernel)
    (by first | exact .inl (by decide +kernel) | exact .inr (by decide +kernel)) (by rw [isSubtype_type]; kernel_rfl)
theorem entry_len : entryFor table "bytearray.__len__" = some Builtin.«bytearray.__len__» := by first | exact entryFor_of_fast (by kernel_rfl) | exact entryFor_of_tree (by kernel_rfl)
theorem slot_iiter : Slot "bytearray_iterator" "__iter__" "bytearray_iterator.__iter__" :=
  .of (owner := "bytearray_iterator") (n := "__iter__") (by rw [typeLookup_type, builtinLookup_eq_fast]; kernel_rfl) (by decide +kernel) (by decide +kernel) (by decide +kernel)
    (by first | exact .inl (by decide +kernel) | exact .inr (by decide +kernel)) (by rw [isSubtype_type]; kernel_rfl)
theorem entry_iiter : entryFor table "bytearray_iterator.__iter__" = some Builtin.«dict_keyiterator.__iter__» :=
  entryFor_alias (id' := "dict_keyiterator.__iter__") (by kernel_rfl) (by first | rfl | decide +kernel | (unfold String.splitOn; simp +decide [String.splitOnAux])) (by decide +kernel) (by kernel_rfl)
theorem args_iiter (a : Value) : argsOk "bytearray_iterator.__iter__" ⟨[a], []⟩ := by unfold argsOk; kernel_rfl
theorem args_len (a : Value) : argsOk "bytearray.__len__" ⟨[a], []⟩ := by unfold argsOk; kernel_rfl
section
variable {prog : Program} {w : World} {A : Around} {E : Value → Shared → Prop} {s : Shared} {a : Addr} {o : Obj} {b : Array UInt8} {k : Nat}
theorem len_ (ho : s.heap.get? a = some o) (hc : o.cls = .type "bytearray") (hd : o.data = .bytearray b k) {Q : Value → Shared → Prop} (h : Q (.int (b.size : Int) s.toks) { s with toks := s.toks + 1 }) :
    wpAny (model prog w) A (PySem.call (.builtin "bytearray.__len__") [.ref a]) Q E s := by
  have hT : s.TypeIs (.ref a) "bytearray" := ⟨o, ho, hc⟩
  refine wpAny_call_entry slot_len hT entry_len ?_ (args_len _)
  show wpAny _ _ (Builtin.Bytes.payload (.ref a) >>= _) _ _ s
  refine wpAny_bind ?_
  unfold Builtin.Bytes.payload Builtin.Bytes.payload?
  refine wpAny_bind (wpAny_bind (wpAny_load ho ?_))
  rw [hd]
  exact wpAny_pure (wpAny_pure (wpAny_bind (wpAny_mkInt (wpAny_pure ⟨_, rfl, h⟩))))
theorem len (ho : s.heap.get? a = some o) (hc : o.cls = .type "bytearray") (hd : o.data = .bytearray b k) (hz : b.size ≤ sizeLine) {Q : Value → Shared → Prop} (h : Q (.int (b.size : Int) (s.toks + 1)) { s with toks := s.toks + 1 + 1 }) :
    wpAny (model prog w) A (PySem.call (.builtin "len") [.ref a]) Q E s :=
  PyProof.Rows.call_len_slot (n := b.size) ⟨o, ho, hc⟩ slot_len (fun Q' hq => len_ ho hc hd hq) (by omega) (by rw [sizeLine_eq] at hz; omega) h
theorem iter (ho : s.heap.get? a = some o) (hc : o.cls = .type "bytearray") {Q : Value → Shared → Prop}
    (h : Q (.ref s.heap.objs.size) { s with heap := s.heap.push { cls := .type "bytearray_iterator", data := .fields #[.ref a, .int 0 0] } }) : wpAny (model prog w) A (pyIter (.ref a)) Q E s := by
  have hT : s.TypeIs (.ref a) "bytearray" := ⟨o, ho, hc⟩
  refine wpAny_pyIter_slot hT slot_iter (wpAny_call_entry slot_iter hT entry_iter ?_ (args_iter _))
  show wpAny _ _ (do ret (← newFields "bytearray_iterator" [.ref a, rawInt 0])) _ _ s
  exact wpAny_bind (wpAny_newObj_type (wpAny_pure ⟨_, rfl, "bytearray_iterator", _, ⟨_, Heap.get?_push_size _ rfl, rfl⟩, slot_next.lookup, h⟩))
noncomputable abbrev ItAt (h : Heap) (I a : Addr) (i : Nat) : Prop := h.get? I = some { cls := .type "bytearray_iterator", data := .fields #[.ref a, .int (i : Nat) 0] }
theorem next {I : Addr} {i : Nat} (hI : ItAt s.heap I a i) (ho : s.heap.get? a = some o) (hd : o.data = .bytearray b k) (hi : i < b.size) {Q : Option Value → Shared → Prop}
    (h : ∀ h', ItAt h' I a (i + 1) → Heap.SameBut I s.heap h' → Q (some (.int ((b[i].toNat : Nat) : Int) s.toks)) { s with heap := h', toks := s.toks + 1 }) : wpAny (model prog w) A (pyNext (.ref I)) Q E s := by
  have hT : s.TypeIs (.ref I) "bytearray_iterator" := ⟨_, hI, rfl⟩
  unfold pyNext
  refine wpAny_bind (wpAny_attempt (wpAny_callSpecial?_slot (name := Str.ofString "__next__") hT slot_next (wpAny_call_entry slot_next hT entry_next ?_ (args_next _))))
  show wpAny _ _ (field (.ref I) 0 >>= _) _ _ s
  refine wpAny_bind (wpAny_field hI rfl (x := .ref a) rfl ?_)
  refine wpAny_bind (wpAny_load ho ?_)
  rw [hd]
  refine wpAny_bind (wpAny_field hI rfl (x := .int (i : Nat) 0) rfl ?_)
  have e : b[((i : Nat) : Int).toNat]? = some b[i] := by simp [hi]
  show wpAny _ _ (match b[((i : Nat) : Int).toNat]? with | some c => _ | none => _) _ _ _
  rw [e]
  refine wpAny_bind (wpAny_setField hI rfl (by simp) ?_)
  refine wpAny_bind (wpAny_mkInt (wpAny_pure ⟨_, rfl, wpAny_pure (h _ ?_ (Heap.SameBut.update ..))⟩))
  have := Heap.get?_update_self (Obj.mapFields (·.setIfInBounds 1 (rawInt ((i : Nat) + 1)))) hI rfl
  have e2 : (((i + 1 : Nat) : Int)) = (i : Int) + 1 := by omega
  show Heap.get? _ _ = some ({ cls := .type "bytearray_iterator", data := .fields #[.ref a, .int ((i + 1 : Nat) : Int) 0] } : Obj)
  rw [e2]
  simpa [Obj.mapFields, rawInt] using this
theorem nextEnd {I : Addr} (hh : A.handled = none) (hI : ItAt s.heap I a b.size) (ho : s.heap.get? a = some o) (hd : o.data = .bytearray b k) {Q : Option Value → Shared → Prop}
    (h : ∀ h', Heap.ExtBut I s.heap h' → Q none { s with heap := h' }) : wpAny (model prog w) A (pyNext (.ref I)) Q E s := by
  have hT : s.TypeIs (.ref I) "bytearray_iterator" := ⟨_, hI, rfl⟩
  unfold pyNext
  refine wpAny_bind (wpAny_attempt (wpAny_callSpecial?_slot (name := Str.ofString "__next__") hT slot_next (wpAny_call_entry slot_next hT entry_next ?_ (args_next _))))
  show wpAny _ _ (field (.ref I) 0 >>= _) _ _ s
  refine wpAny_bind (wpAny_field hI rfl (x := .ref a) rfl ?_)
  refine wpAny_bind (wpAny_load ho ?_)
  rw [hd]
  refine wpAny_bind (wpAny_field hI rfl (x := .int (b.size : Nat) 0) rfl ?_)
  have e : b[((b.size : Nat) : Int).toNat]? = none := by simp
  show wpAny _ _ (match b[((b.size : Nat) : Int).toNat]? with | some c => _ | none => _) _ _ _
  rw [e]
  refine wpAny_bind (wpAny_rule (wpAny_bind (wpAny_setField hI rfl (by simp) (wpAny_bind (wpAny_letGo ?_)))))
  show wpAny _ _ (newExc (.type "StopIteration") [] >>= _) _ _ _
  refine wpAny_bind ?_
  simp only [newExc, newTuple]
  refine wpAny_bind (wpAny_newObj_type ?_ (by size_fits))
  refine wpAny_bind (m := firstArgMember _ _) (wpAny_of_eq (a := Value.none) (by first | rfl | (simp only [firstArgMember]; rfl)) ?_)
  refine wpAny_newObj_type ?_ (by size_fits)
  simp only [raiseNew]
  refine wpAny_bind (wpAny_handled ?_)
  rw [show A.in1.handled = none from hh]
  refine wpAny_bind (wpAny_pure (wpAny_throw ?_))
  refine wpAny_bind (wpAny_isInstance (T := "StopIteration") (b := true) ⟨_, Heap.get?_push_size _ rfl, rfl⟩ isSubtype_stop ?_)
  exact wpAny_pure (h _ (((Heap.SameBut.update ..).extBut.push _).push _))
theorem self_ {I : Addr} {i : Nat} (hI : ItAt s.heap I a i) {Q : Value → Shared → Prop} (h : Q (.ref I) s) : wpAny (model prog w) A (pyIter (.ref I)) Q E s := by
  have hT : s.TypeIs (.ref I) "bytearray_iterator" := ⟨_, hI, rfl⟩
  refine wpAny_pyIter_slot hT slot_iiter (wpAny_call_entry slot_iiter hT entry_iiter ?_ (args_iiter _))
  show wpAny _ _ (ret (.ref I)) _ _ s
  exact wpAny_pure ⟨_, rfl, "bytearray_iterator", _, hT, slot_next.lookup, h⟩
theorem walks (hh : A.handled = none) {I : Addr} (hne : a ≠ I) (o : Obj) (hd : o.data = .bytearray b k) : Walks prog w A I [I, a] [I] b.size (fun i v => ∃ (h : i < b.size) (t : Tok), v = .int ((b[i].toNat : Nat) : Int) t) (fun i h => ItAt h I a i ∧ h.get? a = some o) where
  sub := fun c hc => by simp at hc; simp [hc]
  frame := fun _ _ _ st hk => ⟨hk I (by simp) _ st.1, hk a (by simp) _ st.2⟩
  item := fun i s Q E hi st hQ => next st.1 st.2 hd hi fun h' it' hs => hQ _ h' _ ⟨hi, _, rfl⟩ ⟨it', hs.extBut _ _ hne st.2⟩ fun c o hc e => hs.extBut c o (by simpa using hc) e
  done := fun s Q E st hQ => nextEnd hh st.1 st.2 hd fun h' hx => hQ h' s.toks fun c o hc e => hx c o (by simpa using hc) e
  self := fun i s Q E st hQ => self_ st.1 hQ
/-- the length is asked for -/
theorem hint (ho : s.heap.get? a = some o) (hc : o.cls = .type "bytearray") (hd : o.data = .bytearray b k) (hz : b.size ≤ sizeLine) {Q : Bool → Shared → Prop} (h : ∀ r tk, Q r { s with toks := tk }) : wpAny (model prog w) A (Builtin.List.listLengthHint (.ref a)) Q E s := by
  have hT : s.TypeIs (.ref a) "bytearray" := ⟨o, ho, hc⟩
  unfold Builtin.List.listLengthHint
  refine wpAny_bind (wpAny_specialOf hT slot_len.lookup ?_)
  generalize hid : ("bytearray.__len__" : String) = id0
  wp_delta
  rw [show splitId id0 = some ("bytearray", "__len__") from by subst hid; decide +kernel]
  subst hid
  refine wpAny_bind (wpAny_isInstance hT sub ?_)
  refine wpAny_ite_split (fun hab => absurd hab (by decide)) (fun _ => ?_)
  refine wpAny_ite_split (fun _ => ?_) (fun hab => absurd (by decide +kernel) hab)
  refine wpAny_bind (wpAny_typeOf hT ?_)
  exact wpAny_pure (h _ s.toks)
end
end Ba
/-- list(x): what is left is the loop -/
theorem list_core {prog : Program} {w : World} {A : Around} {E : Value → Shared → Prop} {s : Shared} {Q : Value → Shared → Prop} {x : Addr} {ox : Obj} {T : String} (hx : s.heap.get? x = some ox) (hc : ox.cls = .type T)
    (hT1 : (Value.type T == Value.type "list") = false) (hT2 : (Value.type T == Value.type "tuple") = false)
    (it : ∀ (s' : Shared) (S : Addr) (E' : Value → Shared → Prop) (Q' : Value → Shared → Prop), S = s.heap.objs.size → s'.heap.get? x = some ox → (∀ b o, s.heap.get? b = some o → s'.heap.get? b = some o) → s.heap.get? S = none → s'.heap.get? S ≠ none →
      (∀ I h', (∀ b o, s'.heap.get? b = some o → h'.get? b = some o) → (∀ (h : Heap) (c₁ tk : Nat), (∀ b o, b ≠ S → h'.get? b = some o → h.get? b = some o) → h.get? S = some { cls := .type "list", data := .seq #[] c₁ } →
        codeAny (model prog w) A.in1 (.builtin "list.extend.loop" ⟨[.ref S, .ref I, .none], []⟩) (wants (fun r s₂ => r = .none ∧ Q (.ref S) s₂) E) { s with heap := h, toks := tk }) → Q' (.ref I) { s' with heap := h' }) → wpAny (model prog w) A.in1.in1 (pyIter (.ref x)) Q' E' s')
    (hint : ∀ (s' : Shared) (A' : Around) (E' : Value → Shared → Prop) (Q' : Bool → Shared → Prop), s'.heap.get? x = some ox → (∀ r tk, Q' r { s' with toks := tk }) → wpAny (model prog w) A' (Builtin.List.listLengthHint (.ref x)) Q' E' s') :
    wpAny (model prog w) A (PySem.call (.type "list") [.ref x]) Q E s := by
  refine callType_codes (Q₁ := fun obj s₁ => obj = .ref s.heap.objs.size ∧ s₁ = { s with heap := s.heap.push { cls := .type "list", data := .seq #[] } }) F.called_list (F.typeCall_list_1 _) F.entry_list_init
    (code_list_new _ ⟨rfl, rfl⟩) fun obj s₁ h₁ => ?_
  obtain ⟨rfl, rfl⟩ := h₁
  have hS : (s.heap.push { cls := .type "list", data := .seq #[] }).get? s.heap.objs.size = some { cls := .type "list", data := .seq #[] } := Heap.get?_push_size _ rfl
  have hSn : s.heap.get? s.heap.objs.size = none := Heap.get?_none_of_le (Nat.le_refl _)
  have hSx : s.heap.objs.size ≠ x := Nat.ne_of_gt (Heap.lt_size hx)
  generalize hSd : s.heap.objs.size = S at hS hSn hSx ⊢
  refine ⟨⟨_, hS, rfl⟩, F.args_list_init_2 _ _, ?_⟩
  show wpAny _ _ (do let old ← Builtin.List.listItems (.ref S); Builtin.List.listUpdate (.ref S) (fun _ => #[]); letGo old.toList.reverse; Builtin.List.listExtendWith (.ref S) (.ref x) .none) _ _ _
  refine wpAny_bind ?_
  unfold Builtin.List.listItems
  refine wpAny_bind (wpAny_seqItems hS rfl (wpAny_pure ?_))
  show wpAny _ _ (updateSeq S (fun _ => #[]) >>= fun _ => letGo (#[] : Array Value).toList.reverse >>= fun _ => Builtin.List.listExtendWith (.ref S) (.ref x) .none) _ _ _
  refine wpAny_bind (wpAny_updateSeq hS rfl ?_)
  have hS₂ := Heap.get?_update_self (Obj.mapSeq (fun _ => (#[] : Array Value))) hS rfl
  refine wpAny_bind (wpAny_letGo ?_)
  generalize hh2 : (s.heap.push { cls := .type "list", data := .seq #[] }).update S (Obj.mapSeq (fun _ => (#[] : Array Value))) = h2 at hS₂ ⊢
  have old2 : ∀ b o, s.heap.get? b = some o → h2.get? b = some o := fun b o e => by
    rw [← hh2]
    exact (Heap.get?_update_other _ _ (fun q => by rw [← q, hSn] at e; cases e)).trans (Heap.get?_push_of_some _ e)
  unfold Builtin.List.listExtendWith
  refine wpAny_bind (wpAny_typeOf (T := T) ⟨ox, old2 _ _ hx, hc⟩ ?_)
  have h1 : Builtin.List.listSameRef (.ref S) (.ref x) = false := by simp [Builtin.List.listSameRef, hSx]
  simp only [h1, hT1, hT2, Bool.or_false, Bool.false_eq_true, if_false]
  refine wpAny_bind (it _ S _ _ hSd.symm (old2 _ _ hx) old2 hSn (by rw [hS₂]; simp) fun I h3 hk3 key => ?_)
  refine wpAny_bind (wpAny_holding (hint _ _ _ _ (hk3 _ _ (old2 _ _ hx)) fun room tk => ?_))
  have hS₃ := hk3 _ _ hS₂
  refine wpAny_ite_split (fun _ => ?_) (fun _ => wpAny_pure ⟨plainId_quiet F.plain_extend_loop _, key _ _ _ (fun b o _ e => e) hS₃⟩)
  refine wpAny_bind (wpAny_rule ?_)
  refine wpAny_bind ?_
  show wpAny _ _ (updateSeq S (·.push .none) >>= fun _ => updateSeq S (·.pop)) _ _ _
  refine wpAny_bind (wpAny_updateSeq hS₃ rfl ?_)
  have hS₄ := Heap.get?_update_self (Obj.mapSeq (·.push Value.none)) hS₃ rfl
  refine wpAny_updateSeq (hz := by seq_fits) hS₄ rfl ?_
  have hS₅ := Heap.get?_update_self (Obj.mapSeq (·.pop)) hS₄ rfl
  have oth : ∀ b o, b ≠ S → h3.get? b = some o → ((h3.update S (Obj.mapSeq (·.push Value.none))).update S (Obj.mapSeq (·.pop))).get? b = some o :=
    fun b o hb e => (Heap.get?_update_other _ _ (Ne.symm hb)).trans ((Heap.get?_update_other _ _ (Ne.symm hb)).trans e)
  exact wpAny_pure ⟨plainId_quiet F.plain_extend_loop _, key _ _ _ oth hS₅⟩
/-- list(x), by the walk of its iterator -/
theorem list_walk {prog : Program} {w : World} {A : Around} {E : Value → Shared → Prop} {s : Shared} {Q : Value → Shared → Prop} {x : Addr} {ox : Obj} {T : String} {n : Nat} {P : Nat → Value → Prop} (hx : s.heap.get? x = some ox) (hc : ox.cls = .type T)
    (hT1 : (Value.type T == Value.type "list") = false) (hT2 : (Value.type T == Value.type "tuple") = false) (hn : n ≤ sizeLine)
    (it : ∀ (s' : Shared) (S : Addr) (E' : Value → Shared → Prop) (Q' : Value → Shared → Prop), s'.heap.get? x = some ox → (∀ b o, s.heap.get? b = some o → s'.heap.get? b = some o) → s.heap.get? S = none → s'.heap.get? S ≠ none →
      (∀ I fp wr St h' , Walks prog w A.in1.in1 I fp wr n P St → S ∉ fp → (∀ b ∈ wr, s.heap.get? b = none) → (∀ b o, s'.heap.get? b = some o → h'.get? b = some o) → St 0 h' → Q' (.ref I) { s' with heap := h' }) → wpAny (model prog w) A.in1.in1 (pyIter (.ref x)) Q' E' s')
    (hint : ∀ (s' : Shared) (A' : Around) (E' : Value → Shared → Prop) (Q' : Bool → Shared → Prop), s'.heap.get? x = some ox → (∀ r tk, Q' r { s' with toks := tk }) → wpAny (model prog w) A' (Builtin.List.listLengthHint (.ref x)) Q' E' s')
    (hQ : ∀ h' tk acc c', (∀ b o, s.heap.get? b = some o → h'.get? b = some o) → h'.get? s.heap.objs.size = some { cls := .type "list", dict := none, data := .seq acc c', slots := #[] } → ItemsOf P acc n → Q (.ref s.heap.objs.size) { s with heap := h', toks := tk }) :
    wpAny (model prog w) A (PySem.call (.type "list") [.ref x]) Q E s := by
  refine list_core hx hc hT1 hT2 (fun s' S E' Q' hSd hx' old hSn hSs q => it s' S E' Q' hx' old hSn hSs fun I fp wr St h3 W hSf hwr hk3 hst => q I h3 hk3 fun h c₁ tk hk hSS => ?_) hint
  subst hSd
  refine codeAny_extend_loopS W.toS hn _ hSf .none n 0 _ #[] c₁ rfl (Nat.zero_le _) (W.frame 0 h3 _ hst fun b hb o e => hk b o (fun q => hSf (q ▸ hb)) e) hSS (ItemsOf.nil _) fun s'' acc' c' hm hS' hacc => ?_
  rw [Moved.eq_with hm]
  refine ⟨rfl, hQ s''.heap s''.toks acc' c' (fun b o e => hm.heap b o (fun hmem => ?_) (hk b o (fun q => by rw [q, hSn] at e; cases e) (hk3 _ _ (old b o e)))) hS' hacc⟩
  rcases List.mem_cons.mp hmem with e' | hmem
  · rw [e', hSn] at e; cases e
  · rw [hwr b hmem] at e; cases e
section
variable {w : World} {b n : Nat} {sc : Scope} {Γ : List (Str × D)}
theorem Fn.lenB {bs : Array UInt8} (hn : 0 < n) (hz : bs.size ≤ sizeLine) : Fn w b n (.val (.builtin "len")) [.barr bs] (.int bs.size) := by
  refine .bltn hn fun A s vs Q E hh hu rs q => ?_
  obtain ⟨v, rfl, r⟩ := rs.one
  cases r with
  | barr a o _ e hc hd => exact Ba.len e hc hd hz (q _ _ _ .refl (.int _ _))
theorem FnF.listB {bs : Array UInt8} (hn : 0 < n) (hz : bs.size ≤ sizeLine) : FnF w b n (.val (.type "list")) [.barr bs] (.list (bs.toList.map fun c => .int ((c.toNat : Nat) : Int))) := by
  refine .typ hn fun A s vs Q E hh hu rs q => ?_
  obtain ⟨v, rfl, r⟩ := rs.one
  obtain ⟨a, o, rfl, e, hc, hd⟩ := r.barrI
  refine list_walk (n := bs.size) (P := fun i v => ∃ (h : i < bs.size) (t : Tok), v = .int ((bs[i].toNat : Nat) : Int) t) e hc (by decide) (by decide) hz (fun s' S E' Q' hx old hSn hSs q' => ?_) (fun s' A' E' Q' hx q' => Ba.hint hx hc hd hz q') fun h' tk acc c' hk hS hacc => ?_
  · refine Ba.iter hx hc ?_
    have hne : a ≠ s'.heap.objs.size := Nat.ne_of_lt (Heap.lt_size hx)
    refine q' _ [s'.heap.objs.size, a] [s'.heap.objs.size] _ _ (Ba.walks (A := A.in1.in1) (o := o) hh hne hd) (fun hm => ?_) (fun b' hb => ?_) (fun _ _ e => Heap.get?_push_of_some _ e) ⟨Heap.get?_push_size _ rfl, Heap.get?_push_of_some _ hx⟩
    · rcases List.mem_cons.mp hm with q1 | q1
      · rw [q1] at hSs; exact hSs (Heap.get?_none_of_le (Nat.le_refl _))
      · rw [List.mem_singleton.mp q1, e] at hSn; cases hSn
    · rw [List.mem_singleton.mp hb]
      cases z : s.heap.get? s'.heap.objs.size with
      | none => rfl
      | some o' => have := old _ _ z; rw [Heap.get?_none_of_le (Nat.le_refl _)] at this; cases this
  · have hno : s.heap.get? s.heap.objs.size = none := Heap.get?_none_of_le (Nat.le_refl _)
    refine q _ _ _ (.of hk) (.mk' (.list _ acc _ ⟨_, hideAll_get _ hS (occ_none hno), rfl, _, rfl⟩ ?_))
    have key : ∀ (g : Heap) (l : List Value) (m : List UInt8), l.length = m.length → (∀ (j : Nat) (v : Value), l[j]? = some v → ∃ (h : j < m.length) (t : Tok), v = .int ((m[j].toNat : Nat) : Int) t) → RepAll g l (m.map fun c => .int ((c.toNat : Nat) : Int)) := fun g l => by
      induction l with
      | nil => intro m hl _; cases m with | nil => exact .nil | cons _ _ => cases hl
      | cons v l ih =>
        intro m hl hv
        cases m with
        | nil => cases hl
        | cons c m =>
          obtain ⟨_, t, rfl⟩ := hv 0 v rfl
          exact .cons _ _ _ _ (.int _ _) (ih m (by simpa using hl) fun j v hj => by
            obtain ⟨h1, t, e⟩ := hv (j + 1) v (by simpa using hj)
            exact ⟨by simpa using h1, t, by simpa using e⟩)
    refine key _ _ _ (by simp [hacc.1]) fun j v hj => ?_
    obtain ⟨h1, t, e⟩ := hacc.2 j v (by simpa using hj)
    exact ⟨by simpa using h1, t, by simpa using e⟩
end
end Mine
end
section
open PySem PySem.W PySem.Calls PyProof.Rows
set_option Elab.async false
set_option maxRecDepth 100000
set_option linter.unusedVariables false
namespace Mine
namespace Zi
noncomputable abbrev ZAt (h : Heap) (z TI TO : Addr) (f0 f1 : Value) : Prop := h.get? z = some { cls := .type "zip", dict := none, data := .fields #[f0, f1, .bool false, .ref TI, .ref TO], slots := #[] }
section
variable {prog : Program} {w : World} {A : Around} {E : Value → Shared → Prop} {s : Shared}
theorem alive {a : Addr} {o : Obj} {Q : Option Obj → Shared → Prop} (ho : s.heap.get? a = some o) (h : Q (some o) s) : wpAny (model prog w) A (loadIfAlive a) Q E s := fun Γ p _ => by
  show Q (s.heap.get? a) s
  rw [ho]; exact h
theorem notFree {z TI TO T : Addr} {f1 : Value} {o : Obj} (hz : ZAt s.heap z TI TO (rawInt T) f1) (hT : s.heap.get? T = some o) {Q : Bool → Shared → Prop} (h : ∀ h' f1', ZAt h' z TI TO (rawInt T) f1' → Heap.SameBut z s.heap h' → Q false { s with heap := h' }) :
    wpAny (model prog w) A (Builtin.SmallTypes.ownedTupleIsFree (.ref z)) Q E s := by
  unfold Builtin.SmallTypes.ownedTupleIsFree
  refine wpAny_bind (wpAny_field hz rfl (x := rawInt T) rfl ?_)
  show wpAny _ _ (loadIfAlive ((T : Nat) : Int).toNat >>= _) _ _ _
  rw [Int.toNat_natCast]
  refine wpAny_bind (alive hT ?_)
  refine KFB.if_not rfl ?_
  refine wpAny_bind (wpAny_field hz rfl (x := f1) rfl ?_)
  refine wpAny_ite_split (fun _ => ?_) (fun _ => wpAny_pure (h _ f1 hz (.refl ..)))
  exact wpAny_bind (wpAny_setField_rec hz (by simp) fun h' hz' hs => wpAny_pure (h h' _ hz' hs))
theorem nextNew {z TI TO T i1 i2 l1 l2 : Addr} {f1 : Value} {o : Obj} {k1 k2 : Nat} {xs ys : Array Value} {x y : Value} (hzT : TI ≠ z) (hz1 : i1 ≠ z) (hz2 : i2 ≠ z) (h12 : i1 ≠ i2) (hl1z : l1 ≠ z) (hl2z : l2 ≠ z) (hl21 : l2 ≠ i1)
    (hz : ZAt s.heap z TI TO (rawInt T) f1) (hT : s.heap.get? T = some o) (hTI : IsPair s.heap TI (.ref i1) (.ref i2)) (h1 : s.heap.IsListIter i1 l1 k1) (h2 : s.heap.IsListIter i2 l2 k2) (hl1 : s.heap.IsList l1 xs) (hl2 : s.heap.IsList l2 ys)
    (hx : xs[k1]? = some x) (hy : ys[k2]? = some y) {Q : Option Value → Shared → Prop}
    (h : ∀ h' f1' N, ZAt h' z TI TO (rawInt T) f1' → h'.IsListIter i1 l1 (k1 + 1) → h'.IsListIter i2 l2 (k2 + 1) → IsPair h' N x y → s.heap.get? N = none → (∀ c o, c ≠ z → c ≠ i1 → c ≠ i2 → s.heap.get? c = some o → h'.get? c = some o) → Q (some (.ref N)) { s with heap := h' }) :
    wpAny (model prog w) A (pyNext (.ref z)) Q E s := by
  have hTz : s.TypeIs (.ref z) "zip" := ⟨_, hz, rfl⟩
  unfold pyNext
  refine wpAny_bind (wpAny_attempt (wpAny_callSpecial?_slot (name := Str.ofString "__next__") hTz F.slot_zip_next (wpAny_call_entry F.slot_zip_next hTz F.entry_zip_next ?_ (F.args_zip_next_1 _))))
  show wpAny _ _ (field (.ref z) 2 >>= _) _ _ _
  refine wpAny_bind (wpAny_field hz rfl (x := .bool false) rfl ?_)
  show wpAny _ _ (field (.ref z) 3 >>= _) _ _ _
  refine wpAny_bind (wpAny_field hz rfl (x := .ref TI) rfl ?_)
  refine wpAny_bind (wpAny_seqItems hTI rfl ?_)
  show wpAny _ _ (Builtin.SmallTypes.ownedTupleIsFree (.ref z) >>= _) _ _ _
  refine wpAny_bind (notFree hz hT fun h₁ f1' hz₁ hs₁ => ?_)
  simp only [Bool.false_eq_true, if_false]
  simp only [List.forIn_toArray, List.forIn_cons, List.forIn_nil]
  refine wpAny_bind (wpAny_bind (wpAny_bind (wpAny_holding ?_)))
  show wpAny _ _ (Builtin.SmallTypes.nextOf (.ref i1) >>= fun v => pure (some v)) _ _ _
  refine wpAny_bind (wpAny_nextOf_list_item (h1.extBut hs₁.extBut hz1) (hl1.extBut hs₁.extBut hl1z) hx fun h₂ h1₂ hs₂ => wpAny_pure (wpAny_pure ?_))
  refine wpAny_bind (wpAny_bind (wpAny_holding ?_))
  show wpAny _ _ (Builtin.SmallTypes.nextOf (.ref i2) >>= fun v => pure (some v)) _ _ _
  refine wpAny_bind (wpAny_nextOf_list_item ((h2.extBut hs₁.extBut hz2).extBut hs₂.extBut (Ne.symm h12)) ((hl2.extBut hs₁.extBut hl2z).extBut hs₂.extBut hl21) hy fun h₃ h2₃ hs₃ => wpAny_pure (wpAny_pure (wpAny_pure ?_)))
  refine wpAny_bind (wpAny_newTuple (wpAny_pure ⟨_, rfl, wpAny_pure (h _ f1' _ ?_ ?_ ?_ (Heap.get?_push_size _ rfl) ?_ ?_)⟩) (by show 2 ≤ sizeLine; rw [sizeLine_eq]; decide))
  · exact Heap.get?_push_of_some _ (hs₃.extBut _ _ (Ne.symm hz2) (hs₂.extBut _ _ (Ne.symm hz1) hz₁))
  · exact (h1₂.extBut hs₃.extBut h12).at fun o e => Heap.get?_push_of_some _ e
  · exact h2₃.at fun o e => Heap.get?_push_of_some _ e
  · exact Heap.get?_none_of_le (by rw [hs₃.1, hs₂.1, hs₁.1]; exact Nat.le_refl _)
  · exact fun c o c1 c2 c3 e => Heap.get?_push_of_some _ (hs₃.extBut _ _ c3 (hs₂.extBut _ _ c2 (hs₁.extBut _ _ c1 e)))
theorem nextEnd {z TI TO T i1 i2 l1 : Addr} {f1 : Value} {o : Obj} {k1 : Nat} {xs : Array Value} (hh : A.handled = none) (hz1 : i1 ≠ z) (hl1z : l1 ≠ z)
    (hz : ZAt s.heap z TI TO (rawInt T) f1) (hT : s.heap.get? T = some o) (hTI : IsPair s.heap TI (.ref i1) (.ref i2)) (h1 : s.heap.IsListIter i1 l1 k1) (hl1 : s.heap.IsList l1 xs) (hx : xs[k1]? = none) {Q : Option Value → Shared → Prop}
    (h : ∀ h', (∀ c o, c ≠ z → c ≠ i1 → s.heap.get? c = some o → h'.get? c = some o) → Q none { s with heap := h' }) : wpAny (model prog w) A (pyNext (.ref z)) Q E s := by
  have hTz : s.TypeIs (.ref z) "zip" := ⟨_, hz, rfl⟩
  unfold pyNext
  refine wpAny_bind (wpAny_attempt (wpAny_callSpecial?_slot (name := Str.ofString "__next__") hTz F.slot_zip_next (wpAny_call_entry F.slot_zip_next hTz F.entry_zip_next ?_ (F.args_zip_next_1 _))))
  show wpAny _ _ (field (.ref z) 2 >>= _) _ _ _
  refine wpAny_bind (wpAny_field hz rfl (x := .bool false) rfl ?_)
  show wpAny _ _ (field (.ref z) 3 >>= _) _ _ _
  refine wpAny_bind (wpAny_field hz rfl (x := .ref TI) rfl ?_)
  refine wpAny_bind (wpAny_seqItems hTI rfl ?_)
  show wpAny _ _ (Builtin.SmallTypes.ownedTupleIsFree (.ref z) >>= _) _ _ _
  refine wpAny_bind (notFree hz hT fun h₁ f1' hz₁ hs₁ => ?_)
  simp only [Bool.false_eq_true, if_false]
  simp only [List.forIn_toArray, List.forIn_cons, List.forIn_nil]
  refine wpAny_bind (wpAny_bind (wpAny_bind (wpAny_holding ?_)))
  show wpAny _ _ (Builtin.SmallTypes.nextOf (.ref i1) >>= fun v => pure (some v)) _ _ _
  refine wpAny_bind (wpAny_nextOf_list_end hh (h1.extBut hs₁.extBut hz1) (hl1.extBut hs₁.extBut hl1z) hx fun h₂ e hs₂ he => ?_)
  obtain ⟨oe, hoe, hce⟩ := he
  refine wpAny_bind (wpAny_isInstance (T := "StopIteration") (b := true) ⟨oe, hoe, hce⟩ isSubtype_stop ?_)
  exact wpAny_pure (h _ fun c o c1 c2 x => hs₂ _ _ c2 (hs₁.extBut _ _ c1 x))
theorem hint {z TI TO : Addr} {f0 f1 : Value} (hz : ZAt s.heap z TI TO f0 f1) {Q : Bool → Shared → Prop} (h : Q true s) : wpAny (model prog w) A (Builtin.List.listLengthHint (.ref z)) Q E s := by
  have hT : s.TypeIs (.ref z) "zip" := ⟨_, hz, rfl⟩
  unfold Builtin.List.listLengthHint
  refine wpAny_bind (wpAny_specialOf hT (by rw [typeLookup_type, builtinLookup_eq_fast]; kernel_rfl : typeLookup (.type "zip") "__len__" = pure none) ?_)
  show wpAny _ _ (specialOf (.ref z) (Str.ofString "__length_hint__") >>= _) _ _ _
  refine wpAny_bind (wpAny_specialOf hT (by rw [typeLookup_type, builtinLookup_eq_fast]; kernel_rfl : typeLookup (.type "zip") "__length_hint__" = pure none) ?_)
  exact wpAny_pure h
/-- the loop, once the first tuple is out -/
theorem loop {S z TI TO T i1 i2 l1 l2 : Addr} {xs ys : Array Value} {R : Result → Shared → Prop} {s₀ : Heap} (hh : A.handled = none) (hn : xs.size = ys.size) (hsz : xs.size ≤ sizeLine)
    (nzT : TI ≠ z) (nz1 : i1 ≠ z) (nz2 : i2 ≠ z) (n12 : i1 ≠ i2) (nl1z : l1 ≠ z) (nl2z : l2 ≠ z) (nl21 : l2 ≠ i1) (nl11 : l1 ≠ i1) (nl12 : l1 ≠ i2) (nl22 : l2 ≠ i2) (nT1 : TI ≠ i1) (nT2 : TI ≠ i2) (nSz : S ≠ z) (nS1 : S ≠ i1) (nS2 : S ≠ i2) (nSl1 : S ≠ l1) (nSl2 : S ≠ l2) (nST : S ≠ TI) (nSt : S ≠ T) (ntz : T ≠ z) (nt1 : T ≠ i1) (nt2 : T ≠ i2)
    (fz : s₀.get? z = none) (f1 : s₀.get? i1 = none) (f2 : s₀.get? i2 = none) (fS : s₀.get? S = none) :
    ∀ (k i : Nat) (s : Shared) (acc : Array Value) (c : Nat) (g1 : Value) (ot : Obj), xs.size - i = k → i ≤ xs.size → ZAt s.heap z TI TO (rawInt T) g1 → s.heap.get? T = some ot → IsPair s.heap TI (.ref i1) (.ref i2) → s.heap.IsListIter i1 l1 i → s.heap.IsListIter i2 l2 i →
      s.heap.IsList l1 xs → s.heap.IsList l2 ys → s.heap.get? S = some { cls := .type "list", dict := none, data := .seq acc c, slots := #[] } → acc.size = i →
      (∀ j (h1 : j < xs.size) (h2 : j < ys.size), j < i → ∃ N, acc[j]? = some (.ref N) ∧ IsPair s.heap N xs[j] ys[j] ∧ s₀.get? N = none ∧ N ≠ S ∧ N ≠ z ∧ N ≠ i1 ∧ N ≠ i2) → (∀ b o, s₀.get? b = some o → s.heap.get? b = some o) →
      (∀ h' tk acc' c', (∀ b o, s₀.get? b = some o → h'.get? b = some o) → h'.get? S = some { cls := .type "list", dict := none, data := .seq acc' c', slots := #[] } → acc'.size = xs.size →
        (∀ j (h1 : j < xs.size) (h2 : j < ys.size), ∃ N, acc'[j]? = some (.ref N) ∧ IsPair h' N xs[j] ys[j] ∧ s₀.get? N = none) → R (.ok (.ret .none)) { s with heap := h', toks := tk }) →
      codeAny (model prog w) A (.builtin "list.extend.loop" ⟨[.ref S, .ref z, .none], []⟩) R s := by
  intro k
  induction k with
  | zero =>
    intro i s acc c g1 ot hk hi hz hT hTI h1 h2 hl1 hl2 hS hacc hpairs hold hR
    have hin : i = xs.size := by omega
    subst hin
    refine codeAny_builtin F.entry_extend_loop ?_
    rw [Around.under_plainId F.plain_extend_loop _]
    show wpAny _ A.in1 (pyNext (.ref z) >>= _) _ _ s
    refine wpAny_bind (nextEnd (A := A.in1) hh nz1 nl1z hz hT hTI h1 hl1 (by simp) fun h' hk' => wpAny_pure ?_)
    refine hR h' s.toks acc c (fun b o e => hk' b o (fun q => by rw [q, fz] at e; cases e) (fun q => by rw [q, f1] at e; cases e) (hold b o e)) (hk' _ _ nSz nS1 hS) hacc fun j j1 j2 => ?_
    obtain ⟨N, e1, e2, e3, m1, m2, m3, m4⟩ := hpairs j j1 j2 j1
    exact ⟨N, e1, hk' _ _ m2 m3 e2, e3⟩
  | succ k ih =>
    intro i s acc c g1 ot hk hi hz hT hTI h1 h2 hl1 hl2 hS hacc hpairs hold hR
    have hlt : i < xs.size := by omega
    have hlt2 : i < ys.size := by omega
    refine codeAny_builtin F.entry_extend_loop ?_
    rw [Around.under_plainId F.plain_extend_loop _]
    show wpAny _ A.in1 (pyNext (.ref z) >>= _) _ _ s
    refine wpAny_bind (nextNew nzT nz1 nz2 n12 nl1z nl2z nl21 hz hT hTI h1 h2 hl1 hl2 (x := xs[i]) (y := ys[i]) (by simp [hlt]) (by simp [hlt2]) fun h' g1' N hz' h1' h2' hN hNf hk' => ?_)
    have hS' := hk' _ _ nSz nS1 nS2 hS
    show wpAny _ A.in1 (updateSeq S (·.push (.ref N)) >>= _) _ _ _
    have oth : ∀ b, b ≠ S → (h'.update S (Obj.mapSeq (·.push (Value.ref N)))).get? b = h'.get? b := fun b hb => Heap.get?_update_other _ _ (Ne.symm hb)
    have nNz : N ≠ z := fun q => by rw [q, hz] at hNf; cases hNf
    have nN1 : N ≠ i1 := fun q => by obtain ⟨_, e, _⟩ := h1; rw [q, e] at hNf; cases hNf
    have nN2 : N ≠ i2 := fun q => by obtain ⟨_, e, _⟩ := h2; rw [q, e] at hNf; cases hNf
    have nNS : N ≠ S := fun q => by rw [q, hS] at hNf; cases hNf
    have fN : s₀.get? N = none := by
      cases q : s₀.get? N with
      | none => rfl
      | some o' => have := hold _ _ q; rw [hNf] at this; cases this
    refine wpAny_bind ?_
    refine wpAny_updateSeq hS' rfl (wpAny_pure ⟨plainId_quiet F.plain_extend_loop _, ih (i + 1) _ (acc.push (.ref N)) _ g1' ot (by omega) hlt ((oth _ (Ne.symm nSz)).trans hz') ((oth _ (Ne.symm nSt)).trans (hk' _ _ ntz nt1 nt2 hT))
      ((oth _ (Ne.symm nST)).trans (hk' _ _ nzT nT1 nT2 hTI)) (h1'.at fun o e => (oth _ (Ne.symm nS1)).trans e) (h2'.at fun o e => (oth _ (Ne.symm nS2)).trans e)
      (hl1.at fun o e => (oth _ (Ne.symm nSl1)).trans (hk' _ _ nl1z nl11 nl12 e)) (hl2.at fun o e => (oth _ (Ne.symm nSl2)).trans (hk' _ _ nl2z nl21 nl22 e)) (Heap.get?_update_self _ hS' rfl) (by rw [Array.size_push, hacc]) (fun j j1 j2 ji => ?_)
      (fun b o e => (oth b fun q => by rw [q, fS] at e; cases e).trans (hk' b o (fun q => by rw [q, fz] at e; cases e) (fun q => by rw [q, f1] at e; cases e) (fun q => by rw [q, f2] at e; cases e) (hold b o e))) hR⟩)
      (by rw [hacc]; omega) (by show (acc.push (.ref N)).size ≤ sizeLine + 1; rw [Array.size_push, hacc]; omega)
    by_cases hj : j < i
    · obtain ⟨N', e1, e2, e3, m1, m2, m3, m4⟩ := hpairs j j1 j2 hj
      exact ⟨N', by rw [Array.getElem?_push_lt (by omega)]; rw [Array.getElem?_eq_getElem (by omega)] at e1; exact e1, (oth _ m1).trans (hk' _ _ m2 m3 m4 e2), e3, m1, m2, m3, m4⟩
    · have hji : j = i := by omega
      subst hji
      exact ⟨N, by rw [← hacc]; exact Array.getElem?_push_size, (oth _ nNS).trans hN, fN, nNS, nNz, nN1, nN2⟩
local macro_rules | `(tactic| walk_at "apart") => `(tactic| first | exact .inl (by assumption) | exact .inr (by assumption))
theorem zch {z : Nat} (h : 4 ≤ z) : z - 4 < z - 3 ∧ z - 3 < z - 2 ∧ z - 2 < z - 1 ∧ z - 1 < z := by omega
/-- list(zip(..)) of two lists of one length, not empty -/
theorem ne' {a b : Nat} (h : a < b ∨ b < a) : @Ne Addr a b := fun q => by have q' : @Eq Nat a b := q; omega
theorem list {l1 l2 : Nat} {xs ys : Array Value} {Q : Value → Shared → Prop} (hh : A.handled = none) (hn : xs.size = ys.size) (h0 : 0 < xs.size) (hsz : xs.size ≤ sizeLine) {z : Nat} {g₀ : Heap}
    (hz : ZAt s.heap z (z - 2) (z - 1) .none (.bool false)) (hTI : IsPair s.heap (z - 2) (.ref (z - 4)) (.ref (z - 3))) (hTO : IsPair s.heap (z - 1) .none .none) (hi1 : s.heap.IsListIter (z - 4) l1 0) (hi2 : s.heap.IsListIter (z - 3) l2 0)
    (hl1 : s.heap.IsList l1 xs) (hl2 : s.heap.IsList l2 ys) (z4 : 4 ≤ z) (hlz1 : l1 < z - 4) (hlz2 : l2 < z - 4) (hg : ∀ (b : Nat) o, g₀.get? b = some o → b < z - 4 ∧ s.heap.get? b = some o)
    (hQ : ∀ h' tk acc c' S, (∀ b o, g₀.get? b = some o → h'.get? b = some o) → h'.get? S = some { cls := .type "list", dict := none, data := .seq acc c', slots := #[] } → g₀.get? S = none → acc.size = xs.size →
        (∀ j (h1 : j < xs.size) (h2 : j < ys.size), ∃ N, acc[j]? = some (.ref N) ∧ IsPair h' N xs[j] ys[j] ∧ g₀.get? N = none) → Q (.ref S) { s with heap := h', toks := tk }) :
    wpAny (model prog w) A (PySem.call (.type "list") [.ref z]) Q E s := by
  have hzlt : z < s.heap.objs.size := Heap.lt_size hz
  have fresh : ∀ a : Nat, z - 4 ≤ a → g₀.get? a = none := fun a ha => by
    cases q : g₀.get? a with
    | none => rfl
    | some o' => exact absurd (hg _ _ q).1 (Nat.not_lt.mpr ha)
  refine list_core hz rfl (by decide) (by decide) (fun s' S E' Q' hSd hx' old hSn hSs q => wpAny_pyIter_zip hx' (q z _ (fun _ _ e => e) fun h c₁ tk hk hSS => ?_)) (fun s' A' E' Q' hx q => hint hx (q true s'.toks))
  subst hSd
  have nS : ∀ b, b < s.heap.objs.size → b ≠ s.heap.objs.size := fun b hb => Nat.ne_of_lt hb
  have up : ∀ b o, s.heap.get? b = some o → h.get? b = some o := fun b o e => hk b o (nS b (Heap.lt_size e)) (old b o e)
  have hhs : s.heap.objs.size < h.objs.size := Heap.lt_size hSS
  obtain ⟨c1, c2, c3, c4⟩ := zch z4
  have d02 : z - 4 < z - 2 := Nat.lt_trans c1 c2
  have d13 : z - 3 < z - 1 := Nat.lt_trans c2 c3
  have d24 : z - 2 < z := Nat.lt_trans c3 c4
  have d35 : z - 1 < s.heap.objs.size := Nat.lt_trans c4 hzlt
  have d46 : z < h.objs.size := Nat.lt_trans hzlt hhs
  have d03 : z - 4 < z - 1 := Nat.lt_trans d02 c3
  have d14 : z - 3 < z := Nat.lt_trans d13 c4
  have d25 : z - 2 < s.heap.objs.size := Nat.lt_trans d24 hzlt
  have d36 : z - 1 < h.objs.size := Nat.lt_trans d35 hhs
  have d04 : z - 4 < z := Nat.lt_trans d03 c4
  have d15 : z - 3 < s.heap.objs.size := Nat.lt_trans d14 hzlt
  have d26 : z - 2 < h.objs.size := Nat.lt_trans d25 hhs
  have d05 : z - 4 < s.heap.objs.size := Nat.lt_trans d04 hzlt
  have d16 : z - 3 < h.objs.size := Nat.lt_trans d15 hhs
  have d06 : z - 4 < h.objs.size := Nat.lt_trans d05 hhs
  have l11 : l1 < z - 3 := Nat.lt_trans hlz1 c1
  have l12 : l1 < z - 2 := Nat.lt_trans hlz1 d02
  have l13 : l1 < z - 1 := Nat.lt_trans hlz1 d03
  have l14 : l1 < z := Nat.lt_trans hlz1 d04
  have l15 : l1 < s.heap.objs.size := Nat.lt_trans hlz1 d05
  have l16 : l1 < h.objs.size := Nat.lt_trans hlz1 d06
  have l21 : l2 < z - 3 := Nat.lt_trans hlz2 c1
  have l22 : l2 < z - 2 := Nat.lt_trans hlz2 d02
  have l23 : l2 < z - 1 := Nat.lt_trans hlz2 d03
  have l24 : l2 < z := Nat.lt_trans hlz2 d04
  have l25 : l2 < s.heap.objs.size := Nat.lt_trans hlz2 d05
  have l26 : l2 < h.objs.size := Nat.lt_trans hlz2 d06
  have D : ZipApart z (z - 2) (z - 1) (z - 4) (z - 3) l1 l2 := by constructor <;> exact ne' (by walk_at "apart")
  refine codeAny_builtin F.entry_extend_loop ?_
  rw [Around.under_plainId F.plain_extend_loop _]
  show wpAny _ A.in1.in1 (pyNext (.ref z) >>= _) _ _ _
  refine wpAny_bind (wpAny_pyNext_zip_item D (up _ _ hz) (up _ _ hTI) (up _ _ hTO) (hi1.at fun o e => up _ o e) (hi2.at fun o e => up _ o e) (hl1.at fun o e => up _ o e) (hl2.at fun o e => up _ o e) (x := xs[0]) (y := ys[0]'(by omega)) (by simp [h0]) (by simp [show 0 < ys.size by omega])
    fun h' hz' hTO' h1' h2' hN hsz' hk' => ?_)
  have hS' : h'.get? s.heap.objs.size = _ := hk' _ _ (ne' (by walk_at "apart")) (ne' (by walk_at "apart")) (ne' (by walk_at "apart")) (ne' (by walk_at "apart")) hSS
  show wpAny _ A.in1.in1 (updateSeq s.heap.objs.size (·.push (.ref h.objs.size)) >>= _) _ _ _
  have oth : ∀ b, b ≠ s.heap.objs.size → (h'.update s.heap.objs.size (Obj.mapSeq (·.push (Value.ref h.objs.size)))).get? b = h'.get? b := fun b hb => Heap.get?_update_other _ _ (Ne.symm hb)
  refine wpAny_bind ?_
  refine wpAny_updateSeq hS' rfl (wpAny_pure ⟨plainId_quiet F.plain_extend_loop _, ?_⟩) (by show (0 : Nat) ≤ _; exact Nat.zero_le _) (by show 1 ≤ sizeLine + 1; omega)
  refine loop (A := A.in1) (s₀ := g₀) (z := z) (TI := z - 2) (TO := z - 1) (T := h.objs.size) (i1 := z - 4) (i2 := z - 3) (l1 := l1) (l2 := l2) (xs := xs) (ys := ys) hh hn hsz (ne' (by walk_at "apart")) (ne' (by walk_at "apart")) (ne' (by walk_at "apart")) (ne' (by walk_at "apart")) (ne' (by walk_at "apart")) (ne' (by walk_at "apart")) (ne' (by walk_at "apart")) (ne' (by walk_at "apart")) (ne' (by walk_at "apart")) (ne' (by walk_at "apart")) (ne' (by walk_at "apart")) (ne' (by walk_at "apart")) (ne' (by walk_at "apart")) (ne' (by walk_at "apart")) (ne' (by walk_at "apart")) (ne' (by walk_at "apart")) (ne' (by walk_at "apart")) (ne' (by walk_at "apart")) (ne' (by walk_at "apart")) (ne' (by walk_at "apart")) (ne' (by walk_at "apart")) (ne' (by walk_at "apart"))
    (fresh _ (by omega)) (fresh _ (by omega)) (fresh _ (by omega)) (fresh _ (by omega)) (xs.size - 1) 1 _ _ _ _ _ rfl h0 ((oth _ (ne' (by walk_at "apart"))).trans hz') ((oth _ (ne' (by walk_at "apart"))).trans hN) ((oth _ (ne' (by walk_at "apart"))).trans (hk' _ _ (ne' (by walk_at "apart")) (ne' (by walk_at "apart")) (ne' (by walk_at "apart")) (ne' (by walk_at "apart")) (up _ _ hTI)))
    (h1'.at fun o e => (oth _ (ne' (by walk_at "apart"))).trans e) (h2'.at fun o e => (oth _ (ne' (by walk_at "apart"))).trans e) (hl1.at fun o e => (oth _ (ne' (by walk_at "apart"))).trans (hk' _ _ (ne' (by walk_at "apart")) (ne' (by walk_at "apart")) (ne' (by walk_at "apart")) (ne' (by walk_at "apart")) (up _ _ e))) (hl2.at fun o e => (oth _ (ne' (by walk_at "apart"))).trans (hk' _ _ (ne' (by walk_at "apart")) (ne' (by walk_at "apart")) (ne' (by walk_at "apart")) (ne' (by walk_at "apart")) (up _ _ e)))
    (Heap.get?_update_self _ hS' rfl) rfl (fun j j1 j2 ji => ?_) (fun b o e => ?_) fun h'' tk acc c' hk'' hSS'' hac hpr => ⟨rfl, hQ h'' tk acc c' _ hk'' hSS'' (fresh _ (by omega)) hac hpr⟩
  · have : j = 0 := by omega
    subst this
    exact ⟨h.objs.size, rfl, (oth _ (ne' (by walk_at "apart"))).trans hN, fresh _ (by omega), ne' (by walk_at "apart"), ne' (by walk_at "apart"), ne' (by walk_at "apart"), ne' (by walk_at "apart")⟩
  · have := hg b o e
    have b0 := this.1
    have b1 : b < z - 3 := Nat.lt_trans b0 c1
    have b2 : b < z - 2 := Nat.lt_trans b0 d02
    have b3 : b < z - 1 := Nat.lt_trans b0 d03
    have b4 : b < z := Nat.lt_trans b0 d04
    have b5 : b < s.heap.objs.size := Nat.lt_trans b0 d05
    have b6 : b < h.objs.size := Nat.lt_trans b0 d06
    exact (oth _ (ne' (by walk_at "apart"))).trans (hk' _ _ (ne' (by walk_at "apart")) (ne' (by walk_at "apart")) (ne' (by walk_at "apart")) (ne' (by walk_at "apart")) (up _ _ this.2))
end
end Zi
end Mine
end
section
open PySem PySem.W PySem.Calls PyProof.Rows
set_option Elab.async false
set_option maxRecDepth 100000
set_option linter.unusedVariables false
namespace Mine
section
variable {w : World} {b n : Nat} {sc : Scope} {Γ : List (Str × D)}
noncomputable def zipD (l m : List D) : List D := (l.zip m).map fun p => .tup [p.1, p.2]
theorem Ev.listZip {ln zn : Str} {lp zp p1 p2 : Pos} {e1 e2 : Expr} {l m : List D} (hn : 0 < n) (hl : Ev w b n sc Γ (.Name ln lp) (.val (.type "list"))) (hz : Ev w b n sc Γ (.Name zn zp) (.val (.type "zip"))) (h1 : Ev w b n sc Γ e1 (.list l)) (h2 : Ev w b n sc Γ e2 (.list m))
    (hlen : l.length = m.length) (h0 : 0 < l.length) (hsz : l.length ≤ sizeLine)
    (he : ∀ env, starEach [e1, e2] env = [(false, eval e1 env), (false, eval e2 env)] := by exact fun _ => rfl) (he' : ∀ env, starEach [e2] env = [(false, eval e2 env)] := by exact fun _ => rfl) : Ev w b n sc Γ (.Call (.Name ln lp) [.Call (.Name zn zp) [e1, e2] [] p1] [] p2) (.list (zipD l m)) := by
  refine ⟨fun env A s Q E c vr q => ?_⟩
  refine R.CallName (hl.run env A s _ _ c vr fun u h1' k1 kp1 r1 => ?_)
  (first | obtain ⟨_, rfl⟩ := r1.intI | obtain rfl := r1.valI | obtain rfl := r1.boolI | obtain ⟨_, rfl⟩ := r1.strI | cases r1)
  show wpR _ _ (callWith p2 (.type "list") [] [(false, eval (.Call (.Name zn zp) [e1, e2] [] p1) env)] []) _ _ _
  refine R.callWith (P := fun _ => True) rfl (fun h x => Kpr.type) (R.argsPlain (R.splicedCons ?_))
  refine R.CallName (hz.run env A _ _ _ (c.kp kp1) (vr.kp kp1) fun u h2' k2 kp2 r2 => ?_)
  (first | obtain ⟨_, rfl⟩ := r2.intI | obtain rfl := r2.valI | obtain rfl := r2.boolI | obtain ⟨_, rfl⟩ := r2.strI | cases r2)
  have hes : Evs w b n sc Γ [e1, e2] [.list l, .list m] := .cons h1 (.cons h2 .nil he') fun env => by rw [he env, he' env]
  have c2 := c.kp (kp1.trans kp2)
  have vr2 := vr.kp (kp1.trans kp2)
  have pl := hes.plain env p1
  have hr := hes.run env A { s with heap := h2', toks := k2 } p1 (fun vs s₁ => True ∧ wpR (model PG w) A (PySem.call (.type "zip") ([] ++ vs)) (fun v s₁ => wpR (model PG w) A (spliced []) (fun vs s₂ => True ∧ wpR (model PG w) A (PySem.call (.type "list") ([] ++ (v :: vs))) Q E s₂) E s₁) E s₁) E c2 vr2 fun vs h3 k3 kp3 rs => ⟨trivial, by
    obtain ⟨u, v, rfl, ru, rv⟩ := rs.two
    obtain ⟨a1, xs, rfl, hl1, r1⟩ := ru.listI
    obtain ⟨a2, ys, rfl, hl2, r2⟩ := rv.listI
    have lx := r1.length
    have ly := r2.length
    rw [Array.length_toList] at lx ly
    refine R.of (call_zip_2 hl1 hl2 fun h4 z1 z2 z3 z4 z5 z6 z7 => R.of (wpAny_pure ⟨trivial, R.of ?_⟩))
    have ha1 : a1 < h3.objs.size := let ⟨_, e, _⟩ := hl1; Heap.lt_size e
    have ha2 : a2 < h3.objs.size := let ⟨_, e, _⟩ := hl2; Heap.lt_size e
    refine Zi.list (g₀ := h3) (l1 := a1) (l2 := a2) (xs := xs) (ys := ys) (z := h3.objs.size + 4) c.hnd (by omega) (by omega) (by omega) z1 z2 z3 z4 z5 (hl1.at fun o e => z7 _ o e) (hl2.at fun o e => z7 _ o e) (by omega) ha1 ha2 (fun b o e => ⟨Heap.lt_size e, z7 _ o e⟩) fun h5 k5 acc c5 S hk5 hS hSn hac hpr => ?_
    refine q _ _ _ ((kp1.trans kp2).trans (kp3.trans (.of hk5))) (.list S acc _ ⟨_, hS, rfl, _, rfl⟩ ?_)
    have key : ∀ (acc xs ys : List Value) (l m : List D), acc.length = xs.length → xs.length = ys.length → (∀ j (h1 : j < xs.length) (h2 : j < ys.length), ∃ N, acc[j]? = some (.ref N) ∧ IsPair h5 N xs[j] ys[j]) → RepAll h3 xs l → RepAll h3 ys m → RepAll h5 acc (zipD l m) := fun acc => by
      induction acc with
      | nil =>
        intro xs ys l m e1 e2 _ r1 r2
        have : xs = [] := List.eq_nil_of_length_eq_zero e1.symm
        subst this
        (first | obtain ⟨_, rfl⟩ := r1.intI | obtain rfl := r1.valI | obtain rfl := r1.boolI | obtain ⟨_, rfl⟩ := r1.strI | cases r1)
        exact .nil
      | cons v acc ih =>
        intro xs ys l m e1 e2 hp r1 r2
        cases xs with
        | nil => cases e1
        | cons x xs =>
        cases ys with
        | nil => cases e2
        | cons y ys =>
        cases r1 with
        | cons _ d _ ds rx rxs =>
        cases r2 with
        | cons _ e _ es ry rys =>
        obtain ⟨N, q1, q2⟩ := hp 0 (Nat.zero_lt_succ _) (Nat.zero_lt_succ _)
        simp only [List.getElem?_cons_zero, Option.some.injEq] at q1
        subst q1
        refine .cons _ _ _ _ (.tup N #[x, y] _ ⟨_, q2, rfl, _, rfl⟩ (.cons _ _ _ _ (rx.kp (b := b) (.of hk5)) (.cons _ _ _ _ (ry.kp (b := b) (.of hk5)) .nil))) (ih xs ys ds es (by simpa using e1) (by simpa using e2) (fun j j1 j2 => ?_) rxs rys)
        obtain ⟨N', q3, q4⟩ := hp (j + 1) (by simpa using j1) (by simpa using j2)
        exact ⟨N', by simpa using q3, by simpa using q4⟩
    refine key _ _ _ _ _ (by simp [hac]) (by simp; omega) (fun j j1 j2 => ?_) r1 r2
    obtain ⟨N, q1, q2, _⟩ := hpr j (by simpa using j1) (by simpa using j2)
    exact ⟨N, by simpa using q1, by simpa using q2⟩⟩
  rw [he env] at pl hr ⊢
  exact R.callWith (P := fun _ => True) (by rw [pl]; rfl) (fun h x => Kpr.type) (R.argsPlain hr)
end
end Mine
end
section
open PySem PySem.W PySem.Calls PyProof.Rows
set_option Elab.async false
set_option maxRecDepth 100000
set_option linter.unusedVariables false
namespace Mine
open PySem.Builtin.Int (intBits)
/-- what from_bytes gives -/
noncomputable def fromB (sg : Bool) (bs : Array UInt8) : Int :=
  let n : Int := bs.toList.reverse.foldl (fun (acc : Int) (b : UInt8) => acc * 256 + (b.toNat : Int)) ((0 : Nat) : Int)
  if (sg && bs.toList.reverse.head?.any (· ≥ 128)) = true then n - 256 ^ bs.toList.reverse.length else n
/-- what to_bytes takes -/
noncomputable def fitsB (sg : Bool) (x : Int) (k : Nat) : Bool := !(decide (x < 0) && !sg) && !(x != 0 && decide ((if sg = true then (intBits (if x < 0 then -x - 1 else x) : Int) + 1 else (intBits x : Int)) > 8 * (k : Int)))
example : hd.heap_1 = hd.heap_1 ∧ PySem.Challenge.rw_ln0031_02.row.prog = PySem.Challenge.rw_ln0031_02.row.prog := by
  k_fill
  exact ⟨rfl, rfl⟩
namespace By
theorem check (a : Value) (o : PySem.Str) (u : Tok) (sg : Bool) : checkBoundCall "int.from_bytes" ⟨[.type "int", a, .str o u], [(PySem.Str.ofString "signed", .bool sg)]⟩ = pure () := by first | kernel_rfl | rfl
theorem noBytes : typeLookup (.type "bytearray") "__bytes__" = pure none := by rw [typeLookup_type, builtinLookup_eq_fast]; kernel_rfl
theorem bufB : typeLookup (.type "bytearray") "__buffer__" = pure (some (.builtin "bytearray.__buffer__")) := by rw [typeLookup_type, builtinLookup_eq_fast]; kernel_rfl
theorem argsTb (a b c : Value) (sg : Bool) : argsOk "int.to_bytes" ⟨[a, b, c], [(PySem.Str.ofString "signed", .bool sg)]⟩ := by unfold argsOk; cases sg <;> kernel_rfl
section
variable {prog : Program} {w : World} {M : Model} {A : Around} {E : Value → Shared → Prop} {s : Shared}
theorem getm {pl : Sem Bool} {Q : Value × List Value → Shared → Prop} (X : (hd.heap_1 w.params).In s.heap)
    (e : findCls (hd.heap_1 w.params) (.type "int") (.type "type") (PySem.Str.ofString "from_bytes") = some (.get (.builtin "classmethod_descriptor.__get__") (.builtin "int.from_bytes") .none (.type "int")))
    (h : Q (.ref s.heap.objs.size, []) { s with heap := s.heap.push KFB.bound, toks := s.toks + 1 }) : wpAny (model PG w) A (getMethod (.type "int") (PySem.Str.ofString "from_bytes") pl) Q E s := by
  have hstub : opaqueClassAbove (.type "int") = pure none := by unfold opaqueClassAbove; dsimp only; rw [show Manifest.isStub "int" = false by decide +kernel]; rfl
  have ht : typeOf (.type "int") = pure (.type "type") := by first | rfl | kernel_rfl
  have L0 : Looks (model PG w) s.heap (typeOf (.type "int")) (.type "type") := Looks.of_pure ht
  have hg : findIn (hd.heap_1 w.params) (.type "type") "__getattribute__" = some (some (.builtin "type.__getattribute__")) := type_tga
  unfold getMethod specialOf
  refine wpAny_bind (wpAny_bind (L0.here ((looks_findIn X hg).here ?_)))
  dsimp only
  rw [if_pos canon_tga]
  refine wpAny_bind (wpAny_mono (Q := fun v => Q (v, [])) (E := E) ?_ (fun _ _ z => wpAny_pure z) fun _ _ z => z)
  refine cls_open X (Looks.of_pure hstub) L0 hg (looks_hook X (r := none) (by rfl)) (by show subIn (hd.heap_1 w.params) _ _ = _; rfl) e ?_
  show wpAny _ _ (holding [.builtin "int.from_bytes"] (call (.builtin "classmethod_descriptor.__get__") [.builtin "int.from_bytes", .none, .type "int"]) >>= fun v => ret v) _ _ _
  exact wpAny_bind (wpAny_holding (wpAny_call_entry KFB.slot_get KFB.type_fb KFB.entry_get (KFB.run_get ⟨_, rfl, wpAny_pure (wpAny_pure h)⟩) (KFB.args_get _ _ _)))
theorem foldI_nonneg : ∀ (l : List UInt8) (a : Nat), ∃ n : Nat, l.foldl (fun (acc : Int) (b : UInt8) => acc * 256 + (b.toNat : Int)) (a : Int) = (n : Int) ∧ n < (a + 1) * 256 ^ l.length
  | l, a => ⟨_, KFB.foldI_eq l a, KFB.fold_lt l a⟩
theorem grown {i : Int} {Q : Value → Shared → Prop} (hn : i.natAbs < 2 ^ 65) (h : Q (.int i s.toks) { s with toks := s.toks + 1 }) : wpAny M A (mkIntGrown i) Q E s := by
  unfold mkIntGrown
  have hl : ¬ (i.natAbs.log2 ≥ bitsLine) := by
    have hb : bitsLine = 134217728 := by first | rfl | decide
    by_cases hz : i.natAbs = 0
    · rw [hz, hb]; decide
    · have h1 := (Nat.log2_lt hz).mpr hn
      omega
  rw [if_neg hl]
  exact wpAny_mkInt h
theorem tree {bs : Array UInt8} {a : Addr} {o : Obj} {u : Tok} {sg : Bool} {P : Fin → Shared → Prop} (ho : s.heap.get? a = some o) (hc : o.cls = .type "bytearray") (hd : o.data = .bytearray bs 0) (hl : bs.size ≤ 8)
    (h : P (.done (.ret (.int (fromB sg bs) s.toks))) { s with toks := s.toks + 1 }) :
    wpAny M A (Builtin.«int.from_bytes» ⟨[.type "int", .ref a, .str (PySem.Str.ofString "little") u], [(PySem.Str.ofString "signed", .bool sg)]⟩) P E s := by
  have hT : s.TypeIs (.ref a) "bytearray" := ⟨o, ho, hc⟩
  have hz : (fromB sg bs).natAbs < 2 ^ 65 := by
    obtain ⟨n, e, hlt⟩ := foldI_nonneg bs.toList.reverse 0
    have h1 : bs.toList.reverse.length ≤ 8 := by simp; omega
    have h2 : 256 ^ bs.toList.reverse.length ≤ 256 ^ 8 := Nat.pow_le_pow_right (by decide) h1
    unfold fromB
    dsimp only
    rw [e]
    have h3 : ((256 : Int) ^ bs.toList.reverse.length) = ((256 ^ bs.toList.reverse.length : Nat) : Int) := by rw [Int.natCast_pow]; rfl
    rw [h3]
    generalize 256 ^ bs.toList.reverse.length = B at h2 hlt
    split <;> omega
  unfold Builtin.«int.from_bytes»
  refine wpAny_bind (wpAny_of_eq (a := true) KFB.type_int ?_)
  refine KFB.if_not rfl ?_
  refine wpAny_bind (wpAny_of_eq (a := true) F.conv_sub_int ?_)
  refine KFB.if_not rfl ?_
  refine wpAny_bind (wpAny_of_eq (a := [some (.ref a), some (.str (PySem.Str.ofString "little") u), some (.bool sg)]) (by kernel_rfl) ?_)
  refine wpAny_bind (wpAny_of_eq (a := PySem.Str.ofString "little") (by kernel_rfl) ?_)
  refine wpAny_bind (wpAny_truthy_bool ?_)
  refine wpAny_bind (wpAny_of_eq (a := true) (by kernel_rfl) ?_)
  refine wpAny_bind ?_
  show wpAny _ _ (specialOf (.ref a) (Str.ofString "__bytes__") >>= _) _ _ _
  refine wpAny_bind (wpAny_specialOf hT noBytes ?_)
  have bo : ∀ {Q : Option (Array UInt8) → Shared → Prop} {k : Obj → Sem (Option (Array UInt8))}, k o = pure (some bs) → Q (some bs) s → wpAny M A (load a >>= k) Q E s := fun hk hq => wpAny_bind (wpAny_load ho (by rw [hk]; exact wpAny_pure hq))
  refine wpAny_bind (bo (by rw [hd]) ?_)
  refine KFB.if_so rfl ?_
  refine wpAny_bind (wpAny_specialOf hT bufB ?_)
  refine wpAny_bind (wpAny_specialOf hT Ba.release ?_)
  refine wpAny_bind (wpAny_isInstance hT Ba.sub ?_)
  refine KFB.if_not rfl ?_
  refine wpAny_bind (bo (by rw [hd]) ?_)
  refine wpAny_pure ?_
  show wpAny _ _ (mkIntGrown (fromB sg bs) >>= fun v => _) _ _ _
  refine wpAny_bind (grown hz ?_)
  refine KFB.if_so (by decide +kernel) ?_
  exact wpAny_bind (wpAny_pure (wpAny_pure h))
theorem call {x : Addr} {bs : Array UInt8} {a : Addr} {o : Obj} {u : Tok} {sg : Bool} {Q : Value → Shared → Prop} (hx : s.heap.get? x = some KFB.bound) (ho : s.heap.get? a = some o) (hc : o.cls = .type "bytearray") (hd : o.data = .bytearray bs 0) (hl : bs.size ≤ 8)
    (h : Q (.int (fromB sg bs) s.toks) { s with toks := s.toks + 1 }) : wpAny (model prog w) A (PySem.call (.ref x) [.ref a, .str (PySem.Str.ofString "little") u] [(PySem.Str.ofString "signed", .bool sg)]) Q E s := by
  refine wpAny_call (codeAny_of_tree ?_)
  show wpAny _ A.in1 (callAny (.ref x) ⟨[.ref a, .str (PySem.Str.ofString "little") u], [(PySem.Str.ofString "signed", .bool sg)]⟩) _ _ s
  simp only [callAny]
  refine wpAny_bind (wpAny_load hx ?_)
  simp only [KFB.bound, show (Value.type "builtin_function_or_method" == Value.type "method" || Value.type "builtin_function_or_method" == Value.type "builtin_function_or_method" || Value.type "builtin_function_or_method" == Value.type "method-wrapper") = true by decide, if_true]
  refine KFB.if_so (by decide) ?_
  refine wpAny_bind (wpAny_of_eq (a := ()) (check _ _ _ _) ?_)
  refine wpAny_bind (wpAny_pure (wpAny_pure ?_))
  exact ⟨KFB.quiet_fb, codeAny_builtin KFB.entry_fb (tree ho hc hd hl h)⟩
/-- to_bytes, where it fits and where it does not -/
theorem tb2 {x : Int} {k : Nat} {t u v : Tok} {sg : Bool} {Q : Value → Shared → Prop} (hk : k ≤ 8) (h : fitsB sg x k = true → ∀ t', Q (.bytes (KTBy.low x k).toArray t') { s with toks := s.toks + 1 })
    (hX : fitsB sg x k = false → A.handled = none ∧ ∀ h' tk e, Heap.NewExc s.heap h' e "OverflowError" → E (.ref e) { s with heap := h', toks := tk }) :
    wpAny (model prog w) A (PySem.call (.builtin "int.to_bytes") [.int x t, .int (k : Int) u, .str (PySem.Str.ofString "little") v] [(PySem.Str.ofString "signed", .bool sg)]) Q E s := by
  have small : ∀ n : Int, 8 < n → decide ((k : Int) ≥ n) = false ∧ decide ((k : Int) > n) = false := fun n hn => ⟨decide_eq_false (by omega), decide_eq_false (by omega)⟩
  refine wpAny_call_entry_kw KTBy.slot (typeIs_int s x t) KTBy.entry ?_ (argsTb _ _ _ _)
  show wpAny _ _ (Builtin.Int.intOfSelf (.int x t) >>= fun y => _) _ _ s
  refine wpAny_bind (wpAny_of_eq (a := x) rfl ?_)
  refine wpAny_bind (wpAny_of_eq (a := [some (.int (k : Int) u), some (.str (PySem.Str.ofString "little") v), some (.bool sg)]) (by kernel_rfl) ?_)
  refine wpAny_bind (wpAny_of_eq (a := (k : Int)) rfl ?_)
  refine KFB.if_not (Bool.or_eq_false_iff.mpr ⟨decide_eq_false (by omega), (small _ (by decide)).1⟩) ?_
  refine wpAny_bind (wpAny_of_eq (a := PySem.Str.ofString "little") (by kernel_rfl) (wpAny_bind (wpAny_truthy_bool (wpAny_bind (wpAny_of_eq (a := true) (by kernel_rfl) ?_)))))
  refine wpAny_ite_false (decide_eq_false (by omega)) (wpAny_ite_false (small _ (by decide)).2 (wpAny_ite_false (small _ (by rw [sizeLine_eq]; decide)).2 ?_))
  cases f1 : (decide (x < 0) && !sg) with
  | true =>
    obtain ⟨hh, hX⟩ := hX (by unfold fitsB; rw [f1]; rfl)
    exact KFB.if_so rfl (wpAny_bind (wpAny_rule (wpAny_bind (wpAny_raiseErrorWords plainExc_OverflowError hh hX))))
  | false =>
    refine KFB.if_not rfl ?_
    cases f2 : (x != 0 && decide ((if sg = true then (intBits (if x < 0 then -x - 1 else x) : Int) + 1 else (intBits x : Int)) > 8 * (k : Int))) with
    | true =>
      obtain ⟨hh, hX⟩ := hX (by unfold fitsB; rw [f1, f2]; rfl)
      exact KFB.if_so f2 (wpAny_bind (wpAny_rule (wpAny_bind (wpAny_raiseErrorWords plainExc_OverflowError hh hX))))
    | false =>
      have q := h (by unfold fitsB; rw [f1, f2]; rfl) s.toks
      rw [show KTBy.low x k = KTBy.low x (Int.toNat (k : Int)) by rw [Int.toNat_natCast]] at q
      exact KFB.if_not f2 (wpAny_bind (wpAny_mkBytes (wpAny_pure ⟨_, rfl, q⟩) (Nat.le_trans (Nat.le_of_eq (KTBy.low_length x (Int.toNat (k : Int)))) (by rw [Int.toNat_natCast, sizeLine_eq]; omega))))
theorem tb {x : Int} {k : Nat} {t u v : Tok} {sg : Bool} {Q : Value → Shared → Prop} (hk : k ≤ 8) (hf : fitsB sg x k = true) (h : ∀ t', Q (.bytes (KTBy.low x k).toArray t') { s with toks := s.toks + 1 }) :
    wpAny (model prog w) A (PySem.call (.builtin "int.to_bytes") [.int x t, .int (k : Int) u, .str (PySem.Str.ofString "little") v] [(PySem.Str.ofString "signed", .bool sg)]) Q E s := tb2 hk (fun _ => h) fun e => absurd (hf.symm.trans e) (by decide)
theorem tbX {x : Int} {k : Nat} {t u v : Tok} {sg : Bool} {Q : Value → Shared → Prop} (hk : k ≤ 8) (hh : A.handled = none) (hf : fitsB sg x k = false) (h : ∀ h' tk e, Heap.NewExc s.heap h' e "OverflowError" → E (.ref e) { s with heap := h', toks := tk }) :
    wpAny (model prog w) A (PySem.call (.builtin "int.to_bytes") [.int x t, .int (k : Int) u, .str (PySem.Str.ofString "little") v] [(PySem.Str.ofString "signed", .bool sg)]) Q E s := tb2 hk (fun e => absurd (hf.symm.trans e) (by decide)) fun _ => ⟨hh, h⟩
end
end By
end Mine
end
section
open PySem PySem.W PySem.Calls PyProof.Rows
set_option Elab.async false
set_option maxRecDepth 100000
set_option linter.unusedVariables false
namespace Mine
namespace R
section
variable {M : Model} {A : Around} {E : Value → Shared → Prop} {s : Shared} {env : Env}
theorem argsKw {f : Value} {x : Sem Value} {rest : List (Bool × Sem Value)} {keywords : List (Option Str × Sem Value)} {Q : Args → Shared → Prop}
    (hall : keywords.all (·.1.isSome) = true)
    (h : wpR M A (spliced ((false, x) :: rest)) (fun vs s₁ => wpAny M A (evalAll (keywords.map (·.2))) (fun kvs s₂ => Q ⟨vs, (keywords.filterMap (·.1)).zip kvs⟩ s₂) E s₁) E s) :
    wpR M A (evalArgs f true ((false, x) :: rest) keywords) Q E s := by
  unfold evalArgs
  show wpR M A (spliced ((false, x) :: rest) >>= _) Q E s
  refine bind (mono h (fun vs s' h' => ?_) fun _ _ x => x)
  refine holding ?_
  rw [if_pos hall]
  refine after (wpAny_mono h' (fun kvs s₂ h₂ => ?_) fun _ _ x => x)
  exact bind (pure (pure h₂))
theorem Expr_ {e : Expr} {pos : Pos} {Q : Flow → Shared → Prop} {prog : Program} {w : World} (h : wpR (model prog w) A (eval e env) (fun _ => Q .next) E s)
    (hi : interactive env = false) (hs : swapsWith e none pos.line env = Pure.pure false) : wpR (model prog w) A (exec (.Expr e pos) env) Q E s := by
  rw [exec_Expr env e pos hi hs]
  exact at_ (bind (mono h (fun v s' h' => of (wpAny_dropValue h')) fun _ _ x => x))
theorem Assert {test : Expr} {pos : Pos} {Q : Flow → Shared → Prop} (hh : A.handled = none)
    (h : wpR M A (isTrue test env (eval test env)) (fun b s₁ => if b then Q .next s₁ else ∀ h' e, Heap.MadeExc s₁.heap h' e "AssertionError" [] → E (.ref e) { s₁ with heap := h' }) E s) :
    wpR M A (exec (.Assert test none pos) env) Q E s := by
  rw [arm_exec_Assert]
  refine at_ (bind (mono h (fun b s₁ h₁ => ?_) fun _ _ x => x))
  cases b with
  | true => exact pure h₁
  | false =>
    simp only [Bool.false_eq_true, if_false] at h₁ ⊢
    refine of ?_
    unfold assertFails valueOfOpt
    refine wpAny_bind (wpAny_pure ?_)
    refine wpAny_bind (wpAny_standAt ?_)
    refine wpAny_bind (wpAny_rule ?_)
    exact wpAny_bind (wpAny_newExc_plain plainExc_AssertionError fun h' e hm => wpAny_raiseNew_none hh (h₁ h' e hm))
theorem tryStmt {body orelse : Sem Flow} {h₀ : ExceptHandler} {hs : List ExceptHandler} {Q : Flow → Shared → Prop}
    (h : wpR M A body (fun f s₁ => match f with | .next => wpR M A orelse Q E s₁ | f => Q f s₁)
      (fun e s₁ => wpAny M A (noteFrame e env) (fun _ s₂ => wpAny M A (setFlight e none) (fun _ s₃ => wpR M A (handleBy e env (h₀ :: hs)) Q E s₃) E s₂) E s₁) s) :
    wpR M A (PySem.tryStmt false body (h₀ :: hs) orelse [] env) Q E s := by
  unfold PySem.tryStmt
  simp only [List.isEmpty_nil, if_true, List.isEmpty_cons, Bool.false_and, Bool.false_eq_true, if_false]
  refine bind (attempt (mono h (fun f s₁ h₁ => ?_) fun e s₁ h₁ => ?_))
  · cases f <;> first | exact h₁ | exact pure h₁
  · exact after (wpAny_mono h₁ (fun _ _ h₂ => after h₂) fun _ _ x => x)
theorem Try {body orelse : List Stmt} {h₀ : ExceptHandler} {hs : List ExceptHandler} {pos : Pos} {Q : Flow → Shared → Prop} {prog : Program} {w : World}
    (h : wpR (model prog w) A (execs body env) (fun f s₁ => match f with | .next => wpR (model prog w) A (execs orelse env) Q E s₁ | f => Q f s₁)
      (fun e s₁ => wpAny (model prog w) A (noteFrame e env) (fun _ s₂ => wpAny (model prog w) A (setFlight e none) (fun _ s₃ => wpR (model prog w) A (handleBy e env (h₀ :: hs)) Q E s₃) E s₂) E s₁) s) :
    wpR (model prog w) A (exec (.Try body (h₀ :: hs) orelse [] pos) env) Q E s := by
  rw [arm_exec_Try]
  exact at_ (tryStmt h)
end
end R
section
variable {w : World} {b n : Nat} {sc : Scope} {Γ : List (Str × D)}
theorem Ev.fromBytes {np apos pos kp bp : Pos} {k2} {e : Expr} {rest : List Expr} {bs : Array UInt8} {sg : Bool} (hg : Ev w b n sc Γ (.Name (Str.ofString "int") np) (.val (.type "int")))
    (ha : Evs w b n sc Γ (e :: rest) [.barr bs, .str (Str.ofString "little")]) (hl : bs.size ≤ 8)
    (hf : findCls (hd.heap_1 w.params) (.type "int") (.type "type") (Str.ofString "from_bytes") = some (.get (.builtin "classmethod_descriptor.__get__") (.builtin "int.from_bytes") .none (.type "int")))
    (hv : ∀ env, ∃ pl, eval (.Call (.Attribute (.Name (Str.ofString "int") np) (Str.ofString "from_bytes") apos) (e :: rest) [⟨some (Str.ofString "signed"), .Constant (.bool sg) k2 bp, kp⟩] pos) env = (do
      let ov ← eval (.Name (Str.ofString "int") np) env
      standAt apos.atName
      let (f, first) ← holding [ov] (getMethod ov (Str.ofString "from_bytes") pl)
      callWith pos f first (backTo pos (starEach (e :: rest) env)) (backToKw pos (keywordEach [⟨some (Str.ofString "signed"), .Constant (.bool sg) k2 bp, kp⟩] env))) := by exact fun _ => ⟨_, rfl⟩)
    (he : ∀ env, starEach (e :: rest) env = (false, eval e env) :: starEach rest env := by exact fun _ => rfl) :
    Ev w b n sc Γ (.Call (.Attribute (.Name (Str.ofString "int") np) (Str.ofString "from_bytes") apos) (e :: rest) [⟨some (Str.ofString "signed"), .Constant (.bool sg) k2 bp, kp⟩] pos) (.int (fromB sg bs)) := by
  refine ⟨fun env A s Q E c vr q => ?_⟩
  obtain ⟨pl, hv⟩ := hv env
  refine R.CallMeth (hg.run env A s _ _ c vr fun u h1 k1 kp1 r1 => ?_) hv
  (first | obtain ⟨_, rfl⟩ := r1.intI | obtain rfl := r1.valI | obtain rfl := r1.boolI | obtain ⟨_, rfl⟩ := r1.strI | cases r1)
  refine By.getm (c.kp kp1).pf.k hf ?_
  have kp2 : Kp b h1 (h1.push KFB.bound) := .push
  have pl := ha.plain env pos
  have hx : (h1.push KFB.bound).get? h1.objs.size = some KFB.bound := Heap.get?_push_size _ rfl
  have hr := ha.run env A { s with heap := h1.push KFB.bound, toks := k1 + 1 } pos (fun vs s₁ => wpAny (model PG w) A (evalAll ((backToKw pos (keywordEach [⟨some (Str.ofString "signed"), .Constant (.bool sg) k2 bp, kp⟩] env)).map (·.2))) (fun kvs s₂ => s₂.heap.get? h1.objs.size = some KFB.bound ∧ wpR (model PG w) A (PySem.call (.ref h1.objs.size) ([] ++ vs) (((backToKw pos (keywordEach [⟨some (Str.ofString "signed"), .Constant (.bool sg) k2 bp, kp⟩] env)).filterMap (·.1)).zip kvs)) Q E s₂) E s₁) E (c.kp (kp1.trans kp2)) (vr.kp (kp1.trans kp2)) fun vs h3 k3 kp3 r3 => by
    refine kws_cons (wpAny_Constant_bool (kws_nil ?_))
    have hx3 : h3.get? h1.objs.size = some KFB.bound := kp3.get hx (.inl (by intro _ _ q; cases q))
    refine ⟨hx3, R.of ?_⟩
    obtain ⟨u1, u2, rfl, ra, rb⟩ := r3.two
    obtain ⟨a, o, rfl, ho, hc, hd⟩ := ra.barrI
    (first | obtain ⟨_, rfl⟩ := rb.intI | obtain rfl := rb.valI | obtain rfl := rb.boolI | obtain ⟨_, rfl⟩ := rb.strI | cases rb)
    exact By.call hx3 ho hc hd hl (q _ _ _ ((kp1.trans kp2).trans kp3) (.int _ _))
  rw [he env] at pl hr ⊢
  refine R.callWith (P := fun h => h.get? h1.objs.size = some KFB.bound) (by rw [pl]; rfl) (fun h x => ⟨.machine, .inr (.inl rfl), (Looks.ld (part := none) x).andThen .now⟩) ?_
  exact R.argsKw rfl hr
theorem Ev.toBytes {x : Str} {np apos pos kp bp : Pos} {k2} {e : Expr} {rest : List Expr} {i : Int} {k : Nat} {sg : Bool} (hx : Ev w b n sc Γ (.Name x np) (.int i))
    (ha : Evs w b n sc Γ (e :: rest) [.int (k : Int), .str (Str.ofString "little")]) (hk : k ≤ 8) (hf : fitsB sg i k = true)
    (hv : ∀ env, ∃ pl, eval (.Call (.Attribute (.Name x np) (Str.ofString "to_bytes") apos) (e :: rest) [⟨some (Str.ofString "signed"), .Constant (.bool sg) k2 bp, kp⟩] pos) env = (do
      let ov ← eval (.Name x np) env
      standAt apos.atName
      let (f, first) ← holding [ov] (getMethod ov (Str.ofString "to_bytes") pl)
      callWith pos f first (backTo pos (starEach (e :: rest) env)) (backToKw pos (keywordEach [⟨some (Str.ofString "signed"), .Constant (.bool sg) k2 bp, kp⟩] env))) := by exact fun _ => ⟨_, rfl⟩)
    (he : ∀ env, starEach (e :: rest) env = (false, eval e env) :: starEach rest env := by exact fun _ => rfl) :
    Ev w b n sc Γ (.Call (.Attribute (.Name x np) (Str.ofString "to_bytes") apos) (e :: rest) [⟨some (Str.ofString "signed"), .Constant (.bool sg) k2 bp, kp⟩] pos) (.bytes (KTBy.low i k).toArray) := by
  refine ⟨fun env A s Q E c vr q => ?_⟩
  obtain ⟨pl, hv⟩ := hv env
  refine R.CallMeth (hx.run env A s _ _ c vr fun u h1 k1 kp1 r1 => ?_) hv
  (first | obtain ⟨_, rfl⟩ := r1.intI | obtain rfl := r1.valI | obtain rfl := r1.boolI | obtain ⟨_, rfl⟩ := r1.strI | cases r1)
  rename_i t0
  refine KTBy.method ?_
  have pl := ha.plain env pos
  have hr := ha.run env A { s with heap := h1, toks := k1 } pos (fun vs s₁ => wpAny (model PG w) A (evalAll ((backToKw pos (keywordEach [⟨some (Str.ofString "signed"), .Constant (.bool sg) k2 bp, kp⟩] env)).map (·.2))) (fun kvs s₂ => True ∧ wpR (model PG w) A (PySem.call (.builtin "int.to_bytes") ([.int i t0] ++ vs) (((backToKw pos (keywordEach [⟨some (Str.ofString "signed"), .Constant (.bool sg) k2 bp, kp⟩] env)).filterMap (·.1)).zip kvs)) Q E s₂) E s₁) E (c.kp kp1) (vr.kp kp1) fun vs h3 k3 kp3 r3 => by
    refine kws_cons (wpAny_Constant_bool (kws_nil ?_))
    refine ⟨trivial, R.of ?_⟩
    obtain ⟨u1, u2, rfl, ra, rb⟩ := r3.two
    (first | obtain ⟨_, rfl⟩ := ra.intI | obtain rfl := ra.valI | obtain rfl := ra.boolI | obtain ⟨_, rfl⟩ := ra.strI | cases ra)
    (first | obtain ⟨_, rfl⟩ := rb.intI | obtain rfl := rb.valI | obtain rfl := rb.boolI | obtain ⟨_, rfl⟩ := rb.strI | cases rb)
    exact By.tb hk hf fun t' => q _ _ _ (kp1.trans kp3) (.bytes _ _)
  rw [he env] at pl hr ⊢
  refine R.callWith (P := fun h => True) (by rw [pl]; rfl) (fun h x => ⟨.machine, .inr (.inl rfl), .now⟩) ?_
  exact R.argsKw rfl hr

/-- evaluation that raises -/
structure EvX (w : World) (b n : Nat) (sc : Scope) (Γ : List (Str × D)) (e : Expr) (X : String) : Prop where
  run : ∀ (env : Env) (A : Around) (s : Shared) (Q : Value → Shared → Prop) (E : Value → Shared → Prop), Cx w b n A s.heap → Vars sc env Γ s.heap →
    (∀ h1 h' k x, Kp b s.heap h1 → Heap.NewExc h1 h' x X → E (.ref x) { s with heap := h', toks := k }) → wpR (model PG w) A (eval e env) Q E s
theorem EvX.toBytes {x : Str} {np apos pos kp bp : Pos} {k2} {e : Expr} {rest : List Expr} {i : Int} {k : Nat} {sg : Bool} (hx : Ev w b n sc Γ (.Name x np) (.int i))
    (ha : Evs w b n sc Γ (e :: rest) [.int (k : Int), .str (Str.ofString "little")]) (hk : k ≤ 8) (hf : fitsB sg i k = false)
    (hv : ∀ env, ∃ pl, eval (.Call (.Attribute (.Name x np) (Str.ofString "to_bytes") apos) (e :: rest) [⟨some (Str.ofString "signed"), .Constant (.bool sg) k2 bp, kp⟩] pos) env = (do
      let ov ← eval (.Name x np) env
      standAt apos.atName
      let (f, first) ← holding [ov] (getMethod ov (Str.ofString "to_bytes") pl)
      callWith pos f first (backTo pos (starEach (e :: rest) env)) (backToKw pos (keywordEach [⟨some (Str.ofString "signed"), .Constant (.bool sg) k2 bp, kp⟩] env))) := by exact fun _ => ⟨_, rfl⟩)
    (he : ∀ env, starEach (e :: rest) env = (false, eval e env) :: starEach rest env := by exact fun _ => rfl) :
    EvX w b n sc Γ (.Call (.Attribute (.Name x np) (Str.ofString "to_bytes") apos) (e :: rest) [⟨some (Str.ofString "signed"), .Constant (.bool sg) k2 bp, kp⟩] pos) "OverflowError" := by
  refine ⟨fun env A s Q E c vr q => ?_⟩
  obtain ⟨pl, hv⟩ := hv env
  refine R.CallMeth (hx.run env A s _ _ c vr fun u h1 k1 kp1 r1 => ?_) hv
  (first | obtain ⟨_, rfl⟩ := r1.intI | obtain rfl := r1.valI | obtain rfl := r1.boolI | obtain ⟨_, rfl⟩ := r1.strI | cases r1)
  rename_i t0
  refine KTBy.method ?_
  have pl := ha.plain env pos
  have hr := ha.run env A { s with heap := h1, toks := k1 } pos (fun vs s₁ => wpAny (model PG w) A (evalAll ((backToKw pos (keywordEach [⟨some (Str.ofString "signed"), .Constant (.bool sg) k2 bp, kp⟩] env)).map (·.2))) (fun kvs s₂ => True ∧ wpR (model PG w) A (PySem.call (.builtin "int.to_bytes") ([.int i t0] ++ vs) (((backToKw pos (keywordEach [⟨some (Str.ofString "signed"), .Constant (.bool sg) k2 bp, kp⟩] env)).filterMap (·.1)).zip kvs)) Q E s₂) E s₁) E (c.kp kp1) (vr.kp kp1) fun vs h3 k3 kp3 r3 => by
    refine kws_cons (wpAny_Constant_bool (kws_nil ?_))
    refine ⟨trivial, R.of ?_⟩
    obtain ⟨u1, u2, rfl, ra, rb⟩ := r3.two
    (first | obtain ⟨_, rfl⟩ := ra.intI | obtain rfl := ra.valI | obtain rfl := ra.boolI | obtain ⟨_, rfl⟩ := ra.strI | cases ra)
    (first | obtain ⟨_, rfl⟩ := rb.intI | obtain rfl := rb.valI | obtain rfl := rb.boolI | obtain ⟨_, rfl⟩ := rb.strI | cases rb)
    exact By.tbX hk c.hnd hf fun h' tk x nx => q h3 h' tk x (kp1.trans kp3) nx
  rw [he env] at pl hr ⊢
  refine R.callWith (P := fun h => True) (by rw [pl]; rfl) (fun h x => ⟨.machine, .inr (.inl rfl), .now⟩) ?_
  exact R.argsKw rfl hr
/-- through a call's only argument -/
theorem EvX.call {x : Str} {np pos : Pos} {e : Expr} {X : String} {f : D} (hf : Ev w b n sc Γ (.Name x np) f) (hx : EvX w b n sc Γ e X)
    (he : ∀ env, starEach [e] env = (false, eval e env) :: starEach [] env := by exact fun _ => rfl) : EvX w b n sc Γ (.Call (.Name x np) [e] [] pos) X := by
  refine ⟨fun env A s Q E c vr q => ?_⟩
  refine R.CallName (hf.run env A s _ _ c vr fun u h1 k1 kp1 r1 => ?_)
  rw [he env]
  unfold PySem.callWith
  refine R.bind (R.holding (R.argsPlain ?_))
  refine R.splicedCons ?_
  exact hx.run env A _ _ _ (c.kp kp1) (vr.kp kp1) fun h2 h' k x kp2 nx => q h2 h' k x (kp1.trans kp2) nx
end
end Mine
end
section
open PySem PySem.W PySem.Calls PyProof.Rows
set_option Elab.async false
set_option maxRecDepth 100000
set_option linter.unusedVariables false
namespace Mine
section
variable {w : World} {b n : Nat} {sc : Scope} {Γ : List (Str × D)}
/-- statements that raise -/
structure ExX (w : World) (b n : Nat) (sc : Scope) (Γ : List (Str × D)) (ss : List Stmt) (X : String) : Prop where
  run : ∀ (env : Env) (outer : List Env) (g : Heap) (A : Around) (s : Shared) (Q : Flow → Shared → Prop) (E : Value → Shared → Prop), Ax n A (env :: outer) → St w b sc env outer g Γ s.heap →
    (∀ h1 h' k x, St w b sc env outer g Γ h1 → Heap.NewExc h1 h' x X → E (.ref x) { s with heap := h', toks := k }) → wpR (model PG w) A (execs ss env) Q E s
theorem ExX.ret {e : Expr} {pos : Pos} {rest : List Stmt} {X : String} (h : EvX w b n sc Γ e X) : ExX w b n sc Γ (.Return (some e) pos :: rest) X := by
  refine ⟨fun env outer g A s Q E ax st q => ?_⟩
  exact R.execs_cons (R.Return (h.run env A s _ _ (st.cx ax) st.vars fun h1 h' k x kp nx => q h1 h' k x (st.to kp) nx))
theorem ExX.assert {e : Expr} {pos : Pos} {rest : List Stmt} (h : Ts w b n sc Γ e false) : ExX w b n sc Γ (.Assert e none pos :: rest) "AssertionError" := by
  refine ⟨fun env outer g A s Q E ax st q => ?_⟩
  refine R.execs_cons (R.Assert ax.hnd (h.run env A s _ _ (st.cx ax) st.vars fun h1 k1 kp1 => ?_))
  exact fun h' x mx => q h1 h' k1 x (st.to kp1) mx.newExc
theorem Ex1.assert {e : Expr} {pos : Pos} (h : Ts w b n sc Γ e true) : Ex1 w b n sc Γ (.Assert e none pos) (.nx Γ) := by
  refine ⟨fun env outer g A s Q E ax st q => ?_⟩
  exact R.Assert ax.hnd (h.run env A s _ _ (st.cx ax) st.vars fun h1 k1 kp1 => q .next h1 k1 (st.to kp1))

/-- an exception on its way, above h₀ -/
noncomputable def Thrown (b : Nat) (l : List Env) (h₀ h' : Heap) (x : Addr) (X : String) : Prop :=
  ∃ base a0, Heap.FlyingW base l x (.type X) a0 h' ∧ ∀ a o, h₀.get? a = some o → (∃ sl, h'.get? a = some { o with slots := sl }) ∧ (base.get? a = some o ∨ (b ≤ a ∧ ∃ es n, o.data = .dict es n))
theorem Thrown.kp_of {b : Nat} {base h₀ h' h'' : Heap} (k : ∀ a o, h₀.get? a = some o → (∃ sl, h'.get? a = some { o with slots := sl }) ∧ (base.get? a = some o ∨ (b ≤ a ∧ ∃ es n, o.data = .dict es n)))
    (st : base.StaysIn h'') (u : h'.UpToSlots h'') : Kp b h₀ h'' := by
  intro a o e
  obtain ⟨⟨sl, e1⟩, e2 | ⟨hb, es, n, hd⟩⟩ := k a o e
  · exact ⟨o.slots, st a o e2, fun _ => rfl⟩
  · obtain ⟨sl2, e3⟩ := u a _ e1 (by intro vs q; dsimp only at q; rw [hd] at q; cases q)
    refine ⟨sl2, e3, fun q => ?_⟩
    rcases q with q | q
    · exact absurd hd (q _ _)
    · exact absurd q (Nat.not_lt.mpr hb)
/-- a call that raises -/
structure FnX (w : World) (b n : Nat) (f : D) (args : List D) (X : String) : Prop where
  keep : ∀ v h, PF w b h → Rep h v f → Kpr w v h
  run : ∀ (A : Around) (s : Shared) (v : Value) (vs : List Value) (Q E : Value → Shared → Prop) (l : List Env), Cx w b n A s.heap → A.frames = some l → Rep s.heap v f → RepAll s.heap vs args →
    (∀ h' k x, Thrown b l s.heap h' x X → E (.ref x) { s with heap := h', toks := k }) → wpR (model PG w) A (call v vs) Q E s

theorem enter_st {f : Addr} {name qual : Str} {params : Arguments} {body : List Stmt} {scope : Scope} {dV kV doc pm cdv ct oc : Value} {an od : Option Addr} {osl : Array (Option Value)} {args : List D} {ns : List Str} {A : Around} {s : Shared} {vs : List Value} {Q E : Value → Shared → Prop}
    (ho : (hd.heap_1 w.params).lookup f = some ⟨oc, od, .func (fnOf name qual params body scope dV kV doc pm an cdv ct), osl⟩) (hcd : codeIn (hd.heap_1 w.params) cdv qual = true)
    (hb : ∀ vs : List Value, vs.length = args.length → bindArgs (fnOf name qual params body scope dV kV doc pm an cdv ct) ⟨vs, []⟩ = pure (ns.zip vs)) (hl : ns.length = args.length)
    (hkd : (ns.all fun y => scope.names.lookup y == some .local || scope.names.lookup y == some .cell) = true) (hnd : ns.Nodup)
    (hco : scope.isCoroutine = false) (hgen : scope.isGenerator = false) (hk : scope.kind = .function)
    (c : Cx w b (n + 1) A s.heap) (r : RepAll s.heap vs args)
    (q : ∀ env ls h1 tk, A.frames = some ls → Ax n (A.deeper env) (env :: ls) → Kp b s.heap h1 → St w b scope env ls s.heap (ns.zip args) h1 → env.func = some f → env.code = cdv → env.qual = qual ++ ".<locals>." →
      wpR (model PG w) (A.deeper env) (execs body env) (fun f s' => Q (match f with | .ret v => v | _ => .none) s')
        (fun e s' => wpAny (model PG w) (A.deeper env) (leaving env e) (fun _ s'' => E e s'') (fun e' s'' => E e' s'') s') { s with heap := h1, toks := tk }) : wpR (model PG w) A (call (.ref f) vs) Q E s := by
  have hlen := r.length
  refine R.callDef (body := body) (fd := fnOf name qual params body scope dV kV doc pm an cdv ct) (by have := c.dep; omega) (c.pf.k _ _ ho) rfl hco hgen rfl (codeRec_of c.pf.k hcd) ?_
  rw [hb vs hlen]
  refine wpAny_pure ?_
  have hnames : ((ns.zip vs).map (·.1)) = ns := zip_names (by omega)
  have hkinds : ((ns.zip vs).all fun y => scope.names.lookup y.1 == some .local || scope.names.lookup y.1 == some .cell) = true := by
    refine List.all_eq_true.mpr fun y hy => List.all_eq_true.mp hkd y.1 ?_
    rw [← hnames]; exact List.mem_map_of_mem hy
  refine wpAny_newFunctionEnv_cells hk (kindsX hkinds _) fun env he s' x => ?_
  have hlim := c.pf.lim
  obtain ⟨ls, ax, stk⟩ := c.ax
  have el : env.locals = s.heap.objs.size := by rw [he]; rfl
  have es : env.scope = scope := by rw [he]; rfl
  have keep := x.toInCall.keep
  have kp : Kp b s.heap s'.heap := .of keep
  obtain ⟨h1, tk, e1⟩ := x.toInCall.same
  refine ⟨(c.pf.kp kp).lim, ?_⟩
  have fresh : ∀ a, s.heap.objs.size ≤ a → s.heap.get? a = none := fun a ha => by
    cases e : s.heap.get? a with
    | none => rfl
    | some o' => exact absurd (Heap.lt_size e) (Nat.not_lt.mpr ha)
  have st : St w b scope env ls s.heap (ns.zip args) s'.heap := by
    refine ⟨⟨es, hk, by rw [he]; rfl, by rw [he]; rfl, ⟨_, x.toInCall.ns⟩, fun p hp => ?_⟩, by rw [zip_names hl]; exact hnd, kp, fresh _ (by rw [el]; exact Nat.le_refl _), fun y a _ hy => ?_, fun y hy => ?_, ?_, c.pf, stk, by rw [el]; exact c.size, by rw [he]; rfl⟩
    · obtain ⟨y, e⟩ := p
      obtain ⟨v, hm, rv⟩ := r.zip hp
      have hny : ((ns.zip vs).map (·.1)).Nodup := by rw [hnames]; exact hnd
      have hyn : y ∈ ns := by rw [← hnames]; exact List.mem_map_of_mem hm
      have hyk := List.all_eq_true.mp hkd y hyn
      rcases Bool.or_eq_true_iff.mp hyk with hy | hy
      · have hy : env.kindOf y = some .local := by unfold Env.kindOf; rw [es]; exact beq_iff_eq.mp hy
        exact .inl ⟨hy, _, v, x.toInCall.ns, bindL_in hy hny hm, rv.kp kp⟩
      · have hy' : scope.names.lookup y = some .cell := beq_iff_eq.mp hy
        have hy : env.kindOf y = some .cell := by unfold Env.kindOf; rw [es]; exact hy'
        have hc : (env.cells.lookup y).isSome = true := by
          rw [he]; exact cellsFrom_some scope.names _ [] (.inl hy')
        obtain ⟨c', hc'⟩ := Option.isSome_iff_exists.mp hc
        refine .inr ⟨.inl hy, c', v, hc', ?_, rv.kp kp⟩
        have := x.cell y c' hc'
        rw [bindC_in hy hny hm] at this; exact this
    · have := x.above y a (lookup_mem hy)
      exact fresh a (by rw [el] at this; exact Nat.le_of_lt this)
    · obtain ⟨c', hc'⟩ := Option.isSome_iff_exists.mp (show (env.cells.lookup y).isSome = true by rw [he]; exact cellsFrom_some scope.names _ [] (.inl hy))
      exact ⟨c', _, hc', x.cell y c' hc'⟩
    · exact fun y z c _ => apart_inj x.apart y z c
  have ax' : Ax n (A.deeper env) (env :: ls) := by
    refine ⟨?_, ?_, ax.hnd, Around.frames_deeper ax.fr, ax.gd⟩
    · have := ax.dep; show A.depth + 1 + n < recursionLimit; omega
    · have := ax.un; show A.units + 3 + 20 * n < cLine; omega
  subst e1
  exact q env ls h1 tk ax.fr ax' kp st (by rw [he]; rfl) (by rw [he]; rfl) (by rw [he]; rfl)

theorem FnX.enterP {f : Addr} {name qual : Str} {params : Arguments} {body : List Stmt} {scope : Scope} {dV kV doc pm cdv ct oc : Value} {an od : Option Addr} {osl : Array (Option Value)} {args : List D} {X : String}
    (ho : (hd.heap_1 w.params).lookup f = some ⟨oc, od, .func (fnOf name qual params body scope dV kV doc pm an cdv ct), osl⟩) (hcd : codeIn (hd.heap_1 w.params) cdv qual = true)
    (hb : ∀ vs : List Value, vs.length = args.length → bindArgs (fnOf name qual params body scope dV kV doc pm an cdv ct) ⟨vs, []⟩ = pure ((params.args.map (·.arg)).zip vs)) (hl : (params.args.map (·.arg)).length = args.length)
    (hkd : ((params.args.map (·.arg)).all fun y => scope.names.lookup y == some .local || scope.names.lookup y == some .cell) = true) (hnd : (params.args.map (·.arg)).Nodup)
    (hco : scope.isCoroutine = false) (hgen : scope.isGenerator = false) (hk : scope.kind = .function)
    (h : ExX w b n scope ((params.args.map (·.arg)).zip args) body X) : FnX w b (n + 1) (.val (.ref f)) args X := by
  refine ⟨keep_of ho, fun A s v vs Q E l c hfr rf r q => ?_⟩
  (first | obtain ⟨_, rfl⟩ := rf.intI | obtain rfl := rf.valI | obtain rfl := rf.boolI | obtain ⟨_, rfl⟩ := rf.strI | cases rf)
  refine enter_st ho hcd hb hl hkd hnd hco hgen hk c r fun env ls h1 tk hls ax kp st _ _ _ => ?_
  rw [hfr] at hls; cases hls
  refine h.run env l s.heap (A.deeper env) _ _ _ ax st fun h2 h' k x st2 nx => ?_
  have cx2 := st2.cx ax
  obtain ⟨l', ax', stk⟩ := cx2.ax
  have : l' = env :: l := by have := ax'.fr; rw [ax.fr] at this; exact (Option.some.inj this).symm
  subst this
  let fr := (env :: l).filterMap (·.frame)
  obtain ⟨oe, t, e1, e2, e3⟩ := nx.there
  have ff : ∀ l₁ : List Env, (∀ env ∈ l₁, env ∈ env :: l) → l₁.filterMap (·.frame) ⊆ fr → (∀ e' ∈ l₁, e'.scope.kind ≠ .module ∧ ∃ L o, e'.frame = some L ∧ b ≤ L ∧ h2.get? L = some o ∧ ∃ es n, o.data = .dict es n) → h'.FunFrames (hideAll h2 fr) l₁ := by
    intro l₁
    induction l₁ with
    | nil => intro _ _ _; exact trivial
    | cons e' r ih =>
      intro i1 i2 i3
      obtain ⟨hk', L, o, hf, hb', hg, es, en, hd'⟩ := i3 e' (.head _)
      refine ⟨hk', ⟨L, o, hf, hideAll_none _ (i2 (List.mem_filterMap.mpr ⟨e', .head _, hf⟩)), nx.keeps _ _ hg, by intro vs q; rw [hd'] at q; cases q⟩, ih (fun a _ => .head _) (fun a ha => i2 ?_) fun e ha => i3 e (.tail _ ha)⟩
      obtain ⟨e'', he'', hf''⟩ := List.mem_filterMap.mp ha
      exact List.mem_filterMap.mpr ⟨e'', .tail _ he'', hf''⟩
  have hff := ff (env :: l) (fun _ _ => .head _) (fun _ h => h) stk
  refine wpAny_leaving_firstW (base := hideAll h2 fr) ax.fr hff st2.ef e1 (fun a o e => nx.keeps a o (of_hideAll _ e)) ?_ e3 rfl rfl fun h3 hL => ?_
  · cases q2 : (hideAll h2 fr).get? x with
    | none => rfl
    | some o => have := of_hideAll _ q2; rw [nx.new] at this; cases this
  obtain ⟨k1, ⟨_, _, k2⟩, k3, k4⟩ := hL
  refine q h3 k x ⟨hideAll h2 fr, t, ⟨k1, ?_, k2, by rw [e2] at k3; exact k3⟩, fun a o e => ?_⟩
  · cases q2 : (hideAll h2 fr).get? x with
    | none => rfl
    | some o => have := of_hideAll _ q2; rw [nx.new] at this; cases this
  · obtain ⟨sl, e5, k5⟩ := st2.kp a o e
    by_cases hm : a ∈ fr
    · obtain ⟨e', he', hf'⟩ := List.mem_filterMap.mp hm
      obtain ⟨_, L, o', hf2, hb2, hg2, es, en, hd2⟩ := stk e' he'
      rw [hf'] at hf2; cases hf2
      rw [e5] at hg2; cases hg2
      obtain ⟨sl3, e7⟩ := k4 a _ (nx.keeps _ _ e5) (by intro vs q; dsimp only at q hd2; rw [hd2] at q; cases q)
      exact ⟨⟨sl3, e7⟩, .inr ⟨hb2, es, en, hd2⟩⟩
    · by_cases hdd : (∀ es n, o.data ≠ .dict es n) ∨ a < b
      · rw [k5 hdd] at e5
        have e6 : (hideAll h2 fr).get? a = some o := hideAll_get _ e5 hm
        exact ⟨⟨o.slots, k1 _ _ e6⟩, .inl e6⟩
      · have e6 : (hideAll h2 fr).get? a = some { o with slots := sl } := hideAll_get _ e5 hm
        refine ⟨⟨sl, k1 _ _ e6⟩, .inr ⟨?_, ?_⟩⟩
        · have := fun hq => hdd (.inr hq); exact Nat.not_lt.mp this
        · exact Classical.byContradiction fun hq => hdd (.inl fun es n he => hq ⟨es, n, he⟩)
/-- a method's call that raises -/
theorem raise_meth {x name : Str} {np apos pos : Pos} {e : Expr} {rest : List Expr} {a f : Addr} {ds : List D} {X : String} (ho : Ev w b n sc Γ (.Name x np) (.val (.ref a))) (hm : Meth w b a name f)
    (ha : Evs w b n sc Γ (e :: rest) ds) (fn : FnX w b n (.val (.ref f)) (.val (.ref a) :: ds) X)
    (hv : ∀ env, ∃ pl, eval (.Call (.Attribute (.Name x np) name apos) (e :: rest) [] pos) env = (do
      let ov ← eval (.Name x np) env
      standAt apos.atName
      let (f, first) ← holding [ov] (getMethod ov name pl)
      callWith pos f first (backTo pos (starEach (e :: rest) env)) (backToKw pos (keywordEach [] env))))
    (he : ∀ env, starEach (e :: rest) env = (false, eval e env) :: starEach rest env)
    {env : Env} {A : Around} {s : Shared} {Q E : Value → Shared → Prop} {l : List Env} (c : Cx w b n A s.heap) (hfr : A.frames = some l) (vr : Vars sc env Γ s.heap)
    (q : ∀ h1 h' k x, Kp b s.heap h1 → Thrown b l h1 h' x X → E (.ref x) { s with heap := h', toks := k }) : wpR (model PG w) A (eval (.Call (.Attribute (.Name x np) name apos) (e :: rest) [] pos) env) Q E s := by
  obtain ⟨pl, hv⟩ := hv env
  refine R.CallMeth (ho.run env A s _ _ c vr fun u h1 k1 kp1 r1 => ?_) hv
  (first | obtain ⟨_, rfl⟩ := r1.intI | obtain rfl := r1.valI | obtain rfl := r1.boolI | obtain ⟨_, rfl⟩ := r1.strI | cases r1)
  refine hm A _ pl _ _ (c.kp kp1).pf ?_
  have pl := ha.plain env pos
  have hr := ha.run env A { s with heap := h1, toks := k1 } pos (fun vs s₁ => PF w b s₁.heap ∧ wpR (model PG w) A (PySem.call (.ref f) ([.ref a] ++ vs)) Q E s₁) E (c.kp kp1) (vr.kp kp1) fun vs h2 k2 kp2 r2 =>
    ⟨(c.kp (kp1.trans kp2)).pf, fn.run A _ _ _ _ _ l (c.kp (kp1.trans kp2)) hfr (.val _) (.cons _ _ _ _ (.val _) r2) fun h' k x th => q h2 h' k x (kp1.trans kp2) th⟩
  rw [he env] at pl hr ⊢
  exact R.callWith (P := PF w b) (by rw [pl]; rfl) (fun h x => fn.keep _ h x (.val _)) (R.argsPlain hr)

theorem nameBlt {x : Str} {v : Value} {pos} (hk : sc.names.lookup x = some .globalImplicit) (e : nsIn (hd.heap_1 w.params) mainGlobals x = some none) (hv : bootBuiltins x = some v) (hn : x ≠ "__name__")
    (hd : (x == ("__debug__" : Str)) = false := by decide) (env : Env) (A : Around) (s : Shared) (Q E : Value → Shared → Prop) (pf : PF w b s.heap) (vr : Vars sc env Γ s.heap) (q : Q v s) : wpAny (model PG w) A (eval (.Name x pos) env) Q E s := by
  obtain ⟨mg, hg⟩ := pf.g
  obtain ⟨mb, hb, hbb⟩ := pf.b
  exact Name_function_global (by rw [vr.sco]; exact vr.kind) (by unfold Env.kindOf; rw [vr.sco]; exact hk) (loadGlobal_builtin (by rw [vr.glob]; exact hg) (mg_none_of pf.k hg e) (by rw [vr.blt]; exact hb) ((hbb x hn).trans hv) q) hd

/-- try: a method's call that raises; except X: continue -/
theorem Ex1.tryX {x name y : Str} {np apos pos epos tpos hp yp cp : Pos} {e : Expr} {rest : List Expr} {a f : Addr} {ds : List D} {X : String} (ho : Ev w b n sc Γ (.Name x np) (.val (.ref a))) (hm : Meth w b a name f)
    (ha : Evs w b n sc Γ (e :: rest) ds) (fn : FnX w b n (.val (.ref f)) (.val (.ref a) :: ds) X)
    (hexc : isSubtype (.type X) (.type "BaseException") = pure true) (hnt : isSubtype (.type ((Manifest.find? X).elim "type" fun x => x.metatype)) (.type "tuple") = pure false)
    (hsub : isSubtype (.type X) (.type X) = pure true)
    (hyr : ∀ (env : Env) (A : Around) (s : Shared) (Q E : Value → Shared → Prop), PF w b s.heap → Vars sc env Γ s.heap → Q (.type X) s → wpAny (model PG w) A (eval (.Name y yp) env) Q E s)
    (hv : ∀ env, ∃ pl, eval (.Call (.Attribute (.Name x np) name apos) (e :: rest) [] pos) env = (do
      let ov ← eval (.Name x np) env
      standAt apos.atName
      let (f, first) ← holding [ov] (getMethod ov name pl)
      callWith pos f first (backTo pos (starEach (e :: rest) env)) (backToKw pos (keywordEach [] env))) := by exact fun _ => ⟨_, rfl⟩)
    (he : ∀ env, starEach (e :: rest) env = (false, eval e env) :: starEach rest env := by exact fun _ => rfl)
    (hs : ∀ env, swapsWith (.Call (.Attribute (.Name x np) name apos) (e :: rest) [] pos) none epos.line env = pure false := by exact fun _ => rfl) :
    Ex1 w b n sc Γ (.Try [.Expr (.Call (.Attribute (.Name x np) name apos) (e :: rest) [] pos) epos] [.ExceptHandler (some (.Name y yp)) none [.Continue cp] hp] [] [] tpos) (.ct Γ) := by
  refine ⟨fun env outer g A s Q E ax st q => ?_⟩
  have hi : interactive env = false := by unfold interactive; rw [st.vars.sco, st.vars.kind]; rfl
  refine R.Try (R.execs_cons (R.Expr_ ?_ hi (hs env)))
  refine raise_meth ho hm ha fn hv he (st.cx ax) ax.fr st.vars fun h1 h' k ex kp th => ?_
  obtain ⟨base, a0, fl, kk⟩ := th
  have st1 := st.to kp
  refine wpAny_looks_onW ax.fr st.ef fl fun h2 held u2 => ?_
  refine wpAny_landsW held fun h3 fl3 u3 => ?_
  have kp3 : Kp b h1 h3 := Thrown.kp_of kk fl3.1 (u2.trans u3)
  refine R.of ?_
  refine wpAny_handleBy_builtin (X := X) (T := X) (b := true) hexc hnt hsub ?_
  refine hyr env _ _ _ _ ((st1.to kp3).cx ax).pf (st1.to kp3).vars ⟨rfl, fl3.there, ?_⟩
  rw [if_pos rfl]
  refine lands_againW fl3 fun h4 fl4 u4 => ?_
  have kp4 : Kp b h1 h4 := Thrown.kp_of kk fl4.1 ((u2.trans u3).trans u4)
  exact wpAny_execs_cons (wpAny_Continue (q .cont h4 k (st1.to kp4)))
end
end Mine
end
section
open PySem PySem.W PySem.Calls PyProof.Rows
set_option Elab.async false
set_option maxRecDepth 100000
set_option linter.unusedVariables false
namespace Mine
theorem Tb.solid2 {h h' : Heap} (k : Solid2 h h') (x : Tb h) : Tb h' := by
  obtain ⟨ps, e1, e2, e3⟩ := x
  have kc : ∀ v q, h.CodeRec v q → h'.CodeRec v q := fun v q r => by
    obtain ⟨c, o, vs, t, r1, r2, r3, r4⟩ := r
    refine ⟨c, o, vs, t, r1, k c o r2 (by rw [r3]; intro _ _ q; cases q) (by rw [r3]; intro _ q; cases q) ?_, r3, r4⟩
    rintro ⟨_, ws, q1, q2⟩
    rw [r3] at q1; cases q1; exact q2 _ _ r4
  exact ⟨ps, k _ _ e1 (by intro _ _ q; cases q) (by intro _ q; cases q) (by rintro ⟨q | q, _⟩ <;> cases q), e2, fun pos cv hc => kc _ _ (e3 pos cv hc)⟩
theorem codeRec_solid {h h' : Heap} (k : Solid2 h h') {v : Value} {q : Str} (r : h.CodeRec v q) : h'.CodeRec v q := by
  obtain ⟨c, o, vs, t, r1, r2, r3, r4⟩ := r
  refine ⟨c, o, vs, t, r1, k c o r2 (by rw [r3]; intro _ _ q; cases q) (by rw [r3]; intro _ q; cases q) ?_, r3, r4⟩
  rintro ⟨_, ws, q1, q2⟩
  rw [r3] at q1; cases q1; exact q2 _ _ r4
/-- an integer, and the table -/
noncomputable def intTb (i : Int) : Abs where
  P v h := (∃ t, v = .int i t) ∧ Tb h
  st _ _ _ k x := ⟨x.1, x.2.solid2 k.two⟩
  hop _ _ _ k x := ⟨x.1, k.2.2⟩
theorem Cf.intTb {i : Int} : Cf (.abs (intTb i)) := .abs _ fun _ _ _ k x => ⟨x.1, x.2.solid2 k⟩
/-- a list, and the table -/
noncomputable def listTb (l : List D) : Abs where
  P v h := Rep h v (.list l) ∧ Tb h
  st _ _ _ k x := ⟨x.1.solid k, x.2.solid2 k.two⟩
  hop _ _ _ k x := ⟨x.1.hop k, k.2.2⟩
/-- a function with cells -/
noncomputable def fnV (name qual : Str) (params : Arguments) (body : List Stmt) (scope : Scope) (caps : List (Str × D)) : Abs where
  P v h := ∃ f cl doc pm c' ctv, v = .ref f ∧ h.get? f = some { cls := .type "function", data := .func (fnX name qual params body scope cl .none .none doc pm none (.ref c') ctv) } ∧ h.CodeRec (.ref c') qual ∧
    ∀ p ∈ caps, ∃ c u, cl.lookup p.1 = some c ∧ h.IsCell c (some u) ∧ Rep h u p.2
  st v h h' k x := by
    obtain ⟨f, cl, doc, pm, c', ctv, e1, e2, e3, e4⟩ := x
    refine ⟨f, cl, doc, pm, c', ctv, e1, k _ _ e2 (by intro _ _ q; cases q) (by rintro ⟨_, vs, q, _⟩; cases q), codeRec_solid k.two e3, fun p hp => ?_⟩
    obtain ⟨c, u, c1, ⟨o, c2, c3⟩, c4⟩ := e4 p hp
    exact ⟨c, u, c1, ⟨o, k _ _ c2 (by rw [c3]; intro _ _ q; cases q) (by rintro ⟨_, vs, q, _⟩; rw [c3] at q; cases q), c3⟩, c4.solid k⟩
  hop v h h' k x := by
    obtain ⟨f, cl, doc, pm, c', ctv, e1, e2, e3, e4⟩ := x
    refine ⟨f, cl, doc, pm, c', ctv, e1, k.nf e2 (by intro _ q; cases q) (by intro _ _ q; cases q), k.codeRec e3, fun p hp => ?_⟩
    obtain ⟨c, u, c1, ⟨o, c2, c3⟩, c4⟩ := e4 p hp
    exact ⟨c, u, c1, ⟨o, k.nf c2 (by rw [c3]; intro _ q; cases q) (by rw [c3]; intro _ _ q; cases q), c3⟩, c4.hop k⟩
section
variable {w : World} {b n : Nat} {sc : Scope} {Γ : List (Str × D)}
theorem Ev.absI {x : Str} {i : Int} {pos} (h : look x Γ = some (.abs (intTb i))) (hd : (x == ("__debug__" : Str)) = false := by decide) : Ev w b n sc Γ (.Name x pos) (.int i) :=
  ⟨fun _ _ s _ _ _ v q => R.of (wpAny_Name (loadV v h fun v' r => by
    cases r with | abs _ _ x => obtain ⟨⟨t, rfl⟩, _⟩ := x; exact q _ _ s.toks .refl (.int _ _)) hd)⟩
theorem Ev.absL {x : Str} {l : List D} {pos} (h : look x Γ = some (.abs (listTb l))) (hd : (x == ("__debug__" : Str)) = false := by decide) : Ev w b n sc Γ (.Name x pos) (.list l) :=
  ⟨fun _ _ s _ _ _ v q => R.of (wpAny_Name (loadV v h fun v' r => by
    cases r with | abs _ _ x => exact q _ _ s.toks .refl x.1) hd)⟩

theorem codeAmong_app {pos : Pos} {cv : Value} (l : List Value) (h : TriplesOk l) (line col : Int) (t1 t2 : Tok) (c : Value) (e : codeAmong pos (l ++ [.int line t1, .int col t2, c]) = some cv) :
    codeAmong pos l = some cv ∨ (line = pos.line ∧ col = pos.col ∧ cv = c) := by
  fun_induction TriplesOk l with
  | case1 =>
    right
    simp only [List.nil_append, codeAmong] at e
    split at e
    · rename_i q
      simp only [Bool.and_eq_true, beq_iff_eq] at q
      exact ⟨q.1, q.2, (Option.some.inj e).symm⟩
    · cases e
  | case2 a b c' d e' rest ih =>
    simp only [List.cons_append, codeAmong] at e ⊢
    split
    · rename_i q; rw [if_pos q] at e; exact .inl e
    · rename_i q; rw [if_neg q] at e; exact ih h e
  | case3 => exact h.elim
theorem triples_app : ∀ (l : List Value), TriplesOk l → ∀ (line col : Int) (t1 t2 : Tok) (c : Value), TriplesOk (l ++ [.int line t1, .int col t2, c]) := by
  intro l h line col t1 t2 c
  fun_induction TriplesOk l with
  | case1 => exact trivial
  | case2 a b c' d e' rest ih => exact ih h
  | case3 => exact h.elim

theorem codeHd (pf : (hd.heap_1 w.params).In h) (e : codeHdIn (hd.heap_1 w.params) 358 354 = true) : CodeHd h 358 354 := codeHd_of_K pf e

/-- a def within the def makes a function -/
theorem makeFn {env : Env} {A : Around} {s : Shared} {Q E : Value → Shared → Prop} {name qual : Str} {params : Arguments} {body : List Stmt} {scope : Scope} {clos : List (Str × Addr)} {pos : Pos} {line : Nat}
    (hcl : closureFor scope env = pure clos) (hge : env.globals = mainGlobals) (pf : PF w b s.heap) (hc : env.code = .ref 358) (hcd : codeHdIn (hd.heap_1 w.params) 358 354 = true) (tb : Tb s.heap) (hq : qual = qualAt pos)
    (h : ∀ f c' ctv doc pm h' tk, Heap.ExtBut 354 s.heap h' → Tb h' → s.heap.get? f = none → h'.get? f = some { cls := .type "function", data := .func (fnX name qual params body scope clos .none .none doc pm none (.ref c') ctv) } → h'.CodeRec (.ref c') qual →
      Q (.ref f) { s with heap := h', toks := tk }) : wpAny (model PG w) A (makeFunction name qual params (.stmts body) scope env [] [] [] pos line) Q E s := by
  subst hq
  obtain ⟨ps, e1, e2, e3⟩ := id tb
  obtain ⟨mg, hg, bm, ob, b1, b2, b3, b4, b5, b6⟩ := pf.bm
  have C := codeHd pf.k hcd
  have hgP : mainGlobals ≠ 354 := by decide
  have hbP : bm ≠ 354 := fun q => by rw [q, e1] at b3; cases b3; cases b6
  have hbG : bm ≠ mainGlobals := fun q => by
    obtain ⟨o, es, ep, e, hd, _⟩ := hg
    rw [q, e] at b3; cases b3; rw [hd] at b6; cases b6
  cases hf : codeAmong pos ps.toList with
  | none =>
    refine makeFunction_K (mg := mg) hcl hge hg hc C e1 e2 hf hgP ⟨bm, ob, b1, b2, hbG, hbP, b3, b4, b5, b6⟩ fun c' ctv doc h' tk hx h1 h2 hr ht => ?_
    have hx' : Heap.ExtBut 354 s.heap (h'.push (fnMade name (qualAt pos) params body scope clos doc ((mg "__name__").getD .none) c' ctv)) := hx.push _
    have tb' : Tb (h'.push (fnMade name (qualAt pos) params body scope clos doc ((mg "__name__").getD .none) c' ctv)) := by
      refine ⟨_, Heap.get?_push_of_some _ ht, ?_, fun p cv hp => ?_⟩
      · rw [Array.toList_append]; exact triples_app _ e2 _ _ _ _ _
      · rw [Array.toList_append] at hp
        rcases codeAmong_app _ e2 _ _ _ _ _ hp with hp | ⟨p1, p2, rfl⟩
        · obtain ⟨c2, o2, vs2, t2, r1, r2, r3, r4⟩ := e3 p cv hp
          refine ⟨c2, o2, vs2, t2, r1, hx' _ _ (fun q => ?_) r2, r3, r4⟩
          exact tb.ne_code r2 r3 r4 q
        · have : qualAt p = qualAt pos := by
            unfold qualAt
            rw [show p.line = pos.line by exact_mod_cast p1.symm]
          rw [this]; exact hr.push _
    refine h _ c' ctv doc _ _ tk hx' tb' ?_ (Heap.get?_push_size _ rfl) (hr.push _)
    exact Heap.get?_none_of_le (Nat.le_trans h1 (Nat.le_of_lt h2))
  | some cv =>
    obtain ⟨c', o2, vs2, t2, rfl, r2, r3, r4⟩ := e3 pos cv hf
    refine makeFunction_hit (mg := mg) hcl hge hg hc C e1 e2 hf ⟨bm, ob, b1, b2, hbG, hbP, b3, b4, b5, b6⟩ fun ctv doc h' tk hk hs => ?_
    have kk := fun a o e => Heap.get?_push_of_some { cls := .type "function", data := .func (fnX name (qualAt pos) params body scope clos .none .none doc ((mg "__name__").getD .none) none (.ref c') ctv) } (hk a o e)
    refine h _ c' ctv doc _ _ tk (fun a o _ e => kk a o e) ⟨ps, kk _ _ e1, e2, fun p cv hp => (e3 p cv hp).keeps kk⟩ (Heap.get?_none_of_le hs) (Heap.get?_push_size _ rfl) ?_
    exact Heap.CodeRec.keeps ⟨c', o2, vs2, t2, rfl, r2, r3, r4⟩ kk
end
end Mine
end
section
open PySem PySem.W PySem.Calls PyProof.Rows
set_option Elab.async false
set_option maxRecDepth 100000
set_option linter.unusedVariables false
namespace Mine
/-- kept, but for the table -/
noncomputable def Gh (b : Nat) (h h' : Heap) : Prop :=
  (∀ a o, a ≠ 354 → h.get? a = some o → ∃ sl, h'.get? a = some { o with slots := sl } ∧ (((∀ es n, o.data ≠ .dict es n) ∨ a < b) → sl = o.slots)) ∧ Tb h ∧ Tb h'
theorem Gh.hop {b : Nat} {h h' : Heap} (x : Gh b h h') : Hop h h' := ⟨fun a o hne e hd hi => by
  obtain ⟨sl, e1, k1⟩ := x.1 a o hne e
  rw [k1 (.inl hd)] at e1; exact e1, x.2⟩
theorem Gh.of {b : Nat} {h h' : Heap} (x : Heap.ExtBut 354 h h') (t : Tb h) (t' : Tb h') : Gh b h h' := ⟨fun a o hne e => ⟨o.slots, x a o hne e, fun _ => rfl⟩, t, t'⟩
theorem Gh.ns {b : Nat} {h h' : Heap} (x : Gh b h h') {a : Addr} {m : Str → Option Value} (n : h.Ns a m) : h'.Ns a m := by
  obtain ⟨o, es, ep, e, hd, r⟩ := n
  obtain ⟨sl, e1, _⟩ := x.1 a o (fun q => by
    obtain ⟨_, ⟨ps, p1, _⟩, _⟩ := x
    rw [q, p1] at e; cases e; cases hd) e
  exact ⟨_, es, ep, e1, hd, r⟩
theorem Gh.cell {b : Nat} {h h' : Heap} (x : Gh b h h') {a : Addr} {v : Option Value} (n : h.IsCell a v) : h'.IsCell a v := by
  obtain ⟨o, e, hd⟩ := n
  obtain ⟨sl, e1, _⟩ := x.1 a o (fun q => by
    obtain ⟨_, ⟨ps, p1, _⟩, _⟩ := x
    rw [q, p1] at e; cases e; cases hd) e
  exact ⟨_, e1, hd⟩
section
variable {w : World} {b n : Nat} {sc : Scope} {Γ : List (Str × D)}
theorem Vars.gh {env : Env} {h h' : Heap} (x : Vars sc env Γ h) (k : Gh b h h') : Vars sc env Γ h' :=
  ⟨x.sco, x.kind, x.glob, x.blt, let ⟨m, n⟩ := x.nsv; ⟨m, k.ns n⟩, fun p hp => by
    rcases x.var p hp with ⟨hk, m, v, n, hm, r⟩ | ⟨hk, c, v, hc, hv, r⟩
    · exact .inl ⟨hk, m, v, k.ns n, hm, r.hop k.hop⟩
    · exact .inr ⟨hk, c, v, hc, k.cell hv, r.hop k.hop⟩⟩
theorem St.gh {env : Env} {outer : List Env} {g h h' : Heap} (x : St w b sc env outer g Γ h) (hg : g.get? 354 = none) (k : Gh b h h') : St w b sc env outer g Γ h' :=
  ⟨x.vars.gh k, x.nd, fun a o e => by
    obtain ⟨sl, e1, k1⟩ := x.kp a o e
    obtain ⟨sl2, e2, k2⟩ := k.1 a _ (fun q => by rw [q, hg] at e; cases e) e1
    exact ⟨sl2, e2, fun q => (k2 q).trans (k1 q)⟩, x.fl, x.fc, fun y hy => let ⟨c, v, e, i⟩ := x.ce y hy; ⟨c, v, e, k.cell i⟩, x.ap, x.pg, x.sg, x.lo, x.ef⟩
/-- the ground without the table -/
theorem St.ghost {env : Env} {outer : List Env} {g h : Heap} (x : St w b sc env outer g Γ h) (t : Tb g) (hK : (hd.heap_1 w.params).lookup 354 = none) : St w b sc env outer (hideAll g [354]) Γ h := by
  obtain ⟨ps, p1, _⟩ := id t
  have kp : Kp b (hideAll g [354]) g := .of fun a o e => of_hideAll _ e
  have nn : ∀ a m, g.Ns a m → (hideAll g [354]).Ns a m := fun a m n => by
    obtain ⟨o, es, ep, e, hd, r⟩ := n
    exact ⟨o, es, ep, hideAll_get _ e (fun q => by rw [List.mem_singleton.mp q, p1] at e; cases e; cases hd), hd, r⟩
  refine ⟨x.vars, x.nd, kp.trans x.kp, kp.none x.fl, fun y c hy hc => kp.none (x.fc y c hy hc), x.ce, x.ap, ?_, fun env he => ?_, x.lo, x.ef⟩
  · refine ⟨fun a o e => hideAll_get _ (x.pg.k a o e) (fun q => by rw [List.mem_singleton.mp q, hK] at e; cases e), x.pg.kb, let ⟨m, n⟩ := x.pg.g; ⟨m, nn _ _ n⟩, let ⟨m, n, r⟩ := x.pg.b; ⟨m, nn _ _ n, r⟩, let ⟨m, n, r⟩ := x.pg.lim; ⟨m, nn _ _ n, r⟩, ?_⟩
    obtain ⟨mg, n, bm, ob, e1, e2, e3, e4, e5, e6⟩ := x.pg.bm
    exact ⟨mg, nn _ _ n, bm, ob, e1, e2, hideAll_get _ e3 (fun q => by rw [List.mem_singleton.mp q, p1] at e3; cases e3; cases e6), e4, e5, e6⟩
  · obtain ⟨hk, L, o, hf, hb, e, es, n, hd'⟩ := x.sg env he
    exact ⟨hk, L, o, hf, hb, hideAll_get _ e (fun q => by rw [List.mem_singleton.mp q, p1] at e; cases e; cases hd'), es, n, hd'⟩

/-- statements of the def that makes functions -/
structure ExG (w : World) (b n : Nat) (sc : Scope) (Γ : List (Str × D)) (ss : List Stmt) (o : Out) : Prop where
  run : ∀ (env : Env) (outer : List Env) (g : Heap) (A : Around) (s : Shared) (Q : Flow → Shared → Prop) (E : Value → Shared → Prop), Ax n A (env :: outer) → St w b sc env outer g Γ s.heap →
    g.get? 354 = none → env.code = .ref 358 → env.qual = Str.ofString "_law_dues" ++ ".<locals>." →
    (∀ fl h' k, o.ok w b sc env outer g fl h' → Tb h' → Q fl { s with heap := h', toks := k }) → wpR (model PG w) A (execs ss env) Q E s
theorem Vars.tb {env : Env} {h : Heap} {x : Str} {i : Int} (vr : Vars sc env Γ h) (ht : look x Γ = some (.abs (intTb i))) : Tb h := by
  rcases vr.var _ (look_mem ht) with ⟨_, _, v, _, _, r⟩ | ⟨_, _, v, _, _, r⟩ <;> (cases r with | abs _ _ x => exact x.2)
theorem ExG.cons {st : Stmt} {rest : List Stmt} {Γ' : List (Str × D)} {o : Out} (h : Ex1 w b n sc Γ st (.nx Γ')) (r : ExG w b n sc Γ' rest o) : ExG w b n sc Γ (st :: rest) o := by
  refine ⟨fun env outer g A s Q E ax x hg hc hq q => ?_⟩
  refine R.execs_cons (h.run env outer g A s _ _ ax x fun fl h' k ok => ?_)
  cases fl with
  | next => exact r.run env outer g A _ _ _ ax ok hg hc hq q
  | _ => exact ok.elim
/-- the rest, which makes none -/
theorem ExG.of {ss : List Stmt} {d : D} {x : Str} {i : Int} (ht : look x Γ = some (.abs (intTb i))) (h : Ex w b n sc Γ ss (.rt d)) : ExG w b n sc Γ ss (.rt d) := by
  refine ⟨fun env outer g A s Q E ax x hg hc hq q => ?_⟩
  have tb := x.vars.tb ht
  obtain ⟨g', st', k1, k2, k3, k4⟩ := x.rebase
  refine h.run env outer g' A s _ _ ax st' fun fl h' k ok => ?_
  cases fl with
  | ret v =>
    have tb' : Tb h' := (tb.solid2 k2.two).solid2 ok.1.solid.two
    exact q _ h' k ⟨k1.trans ok.1, ok.2⟩ tb'
  | _ => exact ok.elim

theorem fnV_made {env : Env} {g h' : Heap} {outer : List Env} {name qual : Str} {params : Arguments} {body : List Stmt} {scope : Scope} {caps : List (Str × D)} {f c' : Addr} {ctv doc pm : Value}
    (hc : Caps sc Γ scope.names caps) (st : St w b sc env outer g Γ h')
    (e : h'.get? f = some { cls := .type "function", data := .func (fnX name qual params body scope (clOf env scope.names []) .none .none doc pm none (.ref c') ctv) }) (r : h'.CodeRec (.ref c') qual) : (fnV name qual params body scope caps).P (.ref f) h' := by
  refine ⟨f, _, doc, pm, c', ctv, rfl, e, r, fun p hp => ?_⟩
  have key : ∀ {names : List (Str × NameKind)} {caps : List (Str × D)}, Caps sc Γ names caps → p ∈ caps → (p.1, NameKind.free) ∈ names ∧ look p.1 Γ = some p.2 ∧ sc.names.lookup p.1 = some .cell := by
    intro names caps hc
    induction hc with
    | nil => intro h; cases h
    | free l k _ ih =>
      intro h
      rcases List.mem_cons.mp h with rfl | h
      · exact ⟨.head _, l, k⟩
      · have := ih h; exact ⟨.tail _ this.1, this.2⟩
    | skip _ _ ih => intro h; have := ih h; exact ⟨.tail _ this.1, this.2⟩
  obtain ⟨k1, k2, k3⟩ := key hc hp
  rcases st.vars.var _ (look_mem k2) with ⟨hk', _⟩ | ⟨_, c, v, e1, e2, e3⟩
  · unfold Env.kindOf at hk'; rw [st.vars.sco, k3] at hk'; cases hk'
  · exact ⟨c, v, clOf_lookup _ _ e1 k1, e2, e3⟩

theorem closure_eq {env : Env} {h : Heap} {scope : Scope} {caps : List (Str × D)} (hc : Caps sc Γ scope.names caps) (vr : Vars sc env Γ h) : closureFor scope env = pure (clOf env scope.names []) := by
  have := closureFor_caps hc vr []
  unfold closureFor
  simp only [this]
  rfl

/-- def, its name a local -/
theorem ExG.def_ {name tn : Str} {params : Arguments} {body : List Stmt} {scope : Scope} {pos : Pos} {rest : List Stmt} {caps : List (Str × D)} {o : Out} {i : Int}
    (ht : look tn Γ = some (.abs (intTb i))) (hc : Caps sc Γ scope.names caps) (hk : sc.names.lookup name = some .local) (hd0 : params.defaults = []) (hk0 : params.kw_defaults = []) (ha : ∀ env, annTrees params none env = [])
    (hq : (Str.ofString "_law_dues" ++ ".<locals>.") ++ name = qualAt pos) (hcd : codeHdIn (hd.heap_1 w.params) 358 354 = true)
    (r : ExG w b n sc (put name (.abs (fnV name (qualAt pos) params body scope caps)) Γ) rest o) : ExG w b n sc Γ (.FunctionDef name params body [] none [] scope none name pos :: rest) o := by
  refine ⟨fun env outer g A s Q E ax x hg hco hqu q => ?_⟩
  have tb := x.vars.tb ht
  refine R.execs_cons (R.of (nestDef_K hd0 hk0 (ha env) ?_))
  have hqn : qualnameIn env name name = qualAt pos := by
    unfold qualnameIn
    rw [if_neg (by unfold Env.kindOf; rw [x.vars.sco, hk]; decide), hqu, hq]
  rw [hqn]
  refine makeFn (closure_eq hc x.vars) x.vars.glob (x.cx ax).pf hco hcd tb rfl fun f c' ctv doc pm h' tk hx tb' hf e1 e2 => ?_
  have st' := x.gh hg (Gh.of hx tb tb')
  refine st'.store (s := { s with heap := h', toks := tk }) hk (.abs _ _ (fnV_made hc st' e1 e2)) fun h'' k st'' => ?_
  exact r.run env outer g A _ _ _ ax st'' hg hco hqu q
/-- def, its name a cell -/
theorem ExG.defC {name tn : Str} {params : Arguments} {body : List Stmt} {scope : Scope} {pos : Pos} {rest : List Stmt} {caps : List (Str × D)} {o : Out} {i : Int}
    (ht : look tn Γ = some (.abs (intTb i))) (hc : Caps sc Γ scope.names caps) (hk : sc.names.lookup name = some .cell) (hd0 : params.defaults = []) (hk0 : params.kw_defaults = []) (ha : ∀ env, annTrees params none env = [])
    (hq : (Str.ofString "_law_dues" ++ ".<locals>.") ++ name = qualAt pos) (hcd : codeHdIn (hd.heap_1 w.params) 358 354 = true)
    (hcf : ∀ p ∈ Γ, Cf p.2) (hcc : ∀ p ∈ caps, Cf p.2 ∧ p.1 ≠ name)
    (r : ExG w b n sc (put name (.abs (fnV name (qualAt pos) params body scope caps)) Γ) rest o) : ExG w b n sc Γ (.FunctionDef name params body [] none [] scope none name pos :: rest) o := by
  refine ⟨fun env outer g A s Q E ax x hg hco hqu q => ?_⟩
  have tb := x.vars.tb ht
  refine R.execs_cons (R.of (nestDef_K hd0 hk0 (ha env) ?_))
  have hqn : qualnameIn env name name = qualAt pos := by
    unfold qualnameIn
    rw [if_neg (by unfold Env.kindOf; rw [x.vars.sco, hk]; decide), hqu, hq]
  rw [hqn]
  refine makeFn (closure_eq hc x.vars) x.vars.glob (x.cx ax).pf hco hcd tb rfl fun f c' ctv doc pm h' tk hx tb' hf e1 e2 => ?_
  have st' := x.gh hg (Gh.of hx tb tb')
  have made := fnV_made hc st' e1 e2
  refine st'.storeC (s := { s with heap := h', toks := tk }) hk hcf (.abs _ _ made) (fun h2 c0 hl0 sb => ?_) fun h'' k st'' => ?_
  · obtain ⟨c1, v1, l1, ⟨oc, g1, d1⟩⟩ := st'.ce name hk
    rw [hl0] at l1; cases l1
    have sol : Solid2 h' h2 := fun a o e _ h2' _ => (sb.2 a fun q => by subst q; rw [g1] at e; cases e; exact h2' _ d1).trans e
    obtain ⟨f2, cl, doc2, pm2, c2, ctv2, m1, m2, m3, m4⟩ := made
    cases m1
    refine .abs _ _ ⟨f, cl, doc2, pm2, c2, ctv2, rfl, sol _ _ m2 (by intro _ _ q; cases q) (by intro _ q; cases q) (by rintro ⟨_, vs, q, _⟩; cases q), codeRec_solid sol m3, fun p hp => ?_⟩
    obtain ⟨c, u, l2, i2, r2⟩ := m4 p hp
    refine ⟨c, u, l2, i2.sameBut sb (fun q => ?_), r2.solid2 sol (hcc p hp).1⟩
    subst q
    -- the cell of another name
    have : env.cells.lookup p.1 = some c := by
      rw [e1] at m2
      cases m2
      have key : ∀ {names : List (Str × NameKind)} {acc : List (Str × Addr)} {y : Str} {c : Addr}, (∀ z d, acc.lookup z = some d → env.cells.lookup z = some d) → (clOf env names acc).lookup y = some c → env.cells.lookup y = some c := by
        intro names
        induction names with
        | nil => intro acc y c ha h; exact ha _ _ h
        | cons a r ih =>
          intro acc y c ha h
          unfold clOf at h
          split at h
          · split at h
            · rename_i cc hcc'
              refine ih (fun z d hz => ?_) h
              rw [List.lookup_cons] at hz
              split at hz
              · rename_i qz; cases hz; rw [beq_iff_eq.mp qz]; exact hcc'
              · exact ha _ _ hz
            · exact ih ha h
          · exact ih ha h
      exact key (fun z d hz => by cases hz) l2
    exact (hcc p hp).2 (st'.ap name p.1 c hk hl0 this).symm
  · exact r.run env outer g A _ _ _ ax st'' hg hco hqu q
end
end Mine
end
section
open PySem PySem.W PySem.Calls PyProof.Rows
set_option Elab.async false
set_option maxRecDepth 100000
set_option linter.unusedVariables false
namespace Mine
theorem lookup_nodup {α : Type} {x : Str} {v : α} : ∀ {l : List (Str × α)}, (l.map (·.1)).Nodup → (x, v) ∈ l → l.lookup x = some v
  | [], _, h => nomatch h
  | (y, u) :: r, hn, h => by
    simp only [List.map_cons, List.nodup_cons] at hn
    rw [List.lookup_cons]
    rcases List.mem_cons.mp h with e | h
    · cases e; simp
    · have hne : x ≠ y := fun q => hn.1 (by rw [← q]; exact List.mem_map_of_mem (f := (·.1)) h)
      rw [show (x == y) = false by simpa using hne]
      exact lookup_nodup hn.2 h
section
variable {w : World} {b n : Nat} {sc : Scope} {Γ : List (Str × D)}
theorem Fn.clos {name qual : Str} {params : Arguments} {body : List Stmt} {scope : Scope} {caps : List (Str × D)} {args : List D} {d : D} {ns : List Str}
    (hb : ∀ (cl : List (Str × Addr)) (doc pm cdv ct : Value) (vs : List Value), vs.length = args.length → bindArgs (fnX name qual params body scope cl .none .none doc pm none cdv ct) ⟨vs, []⟩ = pure (ns.zip vs)) (hl : ns.length = args.length)
    (hkd : ∀ y ∈ ns, scope.names.lookup y = some .local) (hnc : ∀ y, scope.names.lookup y ≠ some .cell) (hnc' : ∀ x ∈ scope.names, x.2 ≠ .cell) (hfr : ∀ p ∈ caps, scope.names.lookup p.1 = some .free ∧ (p.1 == ("__classdict__" : Str)) = false) (hnd : (ns ++ caps.map (·.1)).Nodup)
    (hco : scope.isCoroutine = false) (hgen : scope.isGenerator = false) (hk : scope.kind = .function)
    (h : Ex w b n scope (ns.zip args ++ caps) body (.rt d)) : Fn w b (n + 1) (.abs (fnV name qual params body scope caps)) args d := by
  refine ⟨fun v h' pf r => ?_, fun A s v vs Q E c rf r q => ?_⟩
  · have x := r.absI
    obtain ⟨f, cl, doc, pm, c', ctv, rfl, e2, _⟩ := x
    exact ⟨.frame, .inl rfl, (Looks.ld (part := none) e2).andThen .now⟩
  cases rf with | abs _ _ x =>
  obtain ⟨f, cl, doc, pm, c', ctv, rfl, e2, e3, e4⟩ := x
  have hlen := r.length
  refine R.callDef (body := body) (fd := fnX name qual params body scope cl .none .none doc pm none (.ref c') ctv) (by have := c.dep; omega) e2 rfl hco hgen rfl e3 ?_
  rw [hb cl doc pm _ _ vs hlen]
  refine wpAny_pure ?_
  have hnames : ((ns.zip vs).map (·.1)) = ns := zip_names (by omega)
  have hnn : ns.Nodup := (List.nodup_append.mp hnd).1
  refine wpAny_newFunctionEnv hnc' (fun x hx => hkd x.1 (by rw [← hnames]; exact List.mem_map_of_mem hx)) (fun h1 hns hsb => ?_) hk
  have kp : Kp b s.heap h1 := .of fun a o e => (hsb.2 a (Nat.ne_of_lt (Heap.lt_size e))).trans (Heap.get?_push_of_some _ e)
  obtain ⟨ls, ax, stk⟩ := c.ax
  refine ⟨(c.pf.kp kp).lim, ?_⟩
  have fresh : ∀ a, s.heap.objs.size ≤ a → s.heap.get? a = none := fun a ha => Heap.get?_none_of_le ha
  let env : Env := newEnv scope s.heap.objs.size mainGlobals cl (qual ++ ".<locals>.") (some f) (.ref c') none builtinsNs
  have hnz : ((ns.zip vs).map (·.1)).Nodup := by rw [hnames]; exact hnn
  have st : St w b scope env ls s.heap (ns.zip args ++ caps) h1 := by
    refine ⟨⟨rfl, hk, rfl, rfl, ⟨_, hns⟩, fun p hp => ?_⟩, by rw [List.map_append, zip_names hl]; exact hnd, kp, fresh _ (Nat.le_refl _), fun y a hy _ => absurd hy (hnc y), fun y hy => absurd hy (hnc y), fun y _ _ hy => absurd hy (hnc y), c.pf, stk, c.size, rfl⟩
    rcases List.mem_append.mp hp with hp | hp
    · obtain ⟨y, e⟩ := p
      obtain ⟨v, hm, rv⟩ := r.zip hp
      have hyn : y ∈ ns := by rw [← hnames]; exact List.mem_map_of_mem hm
      refine .inl ⟨hkd y hyn, _, v, hns, ?_, rv.kp kp⟩
      exact lookup_nodup (by rw [List.map_reverse]; exact (by unfold List.Nodup at hnz ⊢; rw [List.pairwise_reverse]; exact hnz.imp fun h => h.symm)) (List.mem_reverse.mpr hm)
    · obtain ⟨cc, u, l1, i1, r1⟩ := e4 p hp
      exact .inr ⟨.inr (hfr p hp), cc, u, l1, kp.cell i1, r1.kp kp⟩
  have ax' : Ax n (A.deeper env) (env :: ls) := by
    refine ⟨?_, ?_, ax.hnd, Around.frames_deeper ax.fr, ax.gd⟩
    · have := ax.dep; show A.depth + 1 + n < recursionLimit; omega
    · have := ax.un; show A.units + 3 + 20 * n < cLine; omega
  refine h.run env ls s.heap (A.deeper env) _ _ _ ax' st fun fl h' k ok => ?_
  cases fl with
  | ret v => exact q v h' k ok.1 ok.2
  | _ => exact ok.elim

/-- the call of the def that makes functions -/
structure FnG (w : World) (b n : Nat) (f : D) (args : List D) (d : D) : Prop where
  keep : ∀ v h, PF w b h → Rep h v f → Kpr w v h
  run : ∀ (A : Around) (s : Shared) (v : Value) (vs : List Value) (Q E : Value → Shared → Prop), Cx w b n A s.heap → Tb s.heap → Rep s.heap v f → RepAll s.heap vs args →
    (∀ v h' k, Gh b s.heap h' → Rep h' v d → Q v { s with heap := h', toks := k }) → wpR (model PG w) A (call v vs) Q E s
theorem FnG.enterP {f : Addr} {name : Str} {params : Arguments} {body : List Stmt} {scope : Scope} {dV kV doc pm ct oc : Value} {an od : Option Addr} {osl : Array (Option Value)} {args : List D} {d : D}
    (ho : (hd.heap_1 w.params).lookup f = some ⟨oc, od, .func (fnOf name (Str.ofString "_law_dues") params body scope dV kV doc pm an (.ref 358) ct), osl⟩) (hcd : codeIn (hd.heap_1 w.params) (.ref 358) (Str.ofString "_law_dues") = true)
    (hb : ∀ vs : List Value, vs.length = args.length → bindArgs (fnOf name (Str.ofString "_law_dues") params body scope dV kV doc pm an (.ref 358) ct) ⟨vs, []⟩ = pure ((params.args.map (·.arg)).zip vs)) (hl : (params.args.map (·.arg)).length = args.length)
    (hkd : ((params.args.map (·.arg)).all fun y => scope.names.lookup y == some .local || scope.names.lookup y == some .cell) = true) (hnd : (params.args.map (·.arg)).Nodup)
    (hco : scope.isCoroutine = false) (hgen : scope.isGenerator = false) (hk : scope.kind = .function) (hK : (hd.heap_1 w.params).lookup 354 = none)
    (h : ExG w b n scope ((params.args.map (·.arg)).zip args) body (.rt d)) : FnG w b (n + 1) (.val (.ref f)) args d := by
  refine ⟨keep_of ho, fun A s v vs Q E c tb rf r q => ?_⟩
  (first | obtain ⟨_, rfl⟩ := rf.intI | obtain rfl := rf.valI | obtain rfl := rf.boolI | obtain ⟨_, rfl⟩ := rf.strI | cases rf)
  refine enter_st ho hcd hb hl hkd hnd hco hgen hk c r fun env ls h1 tk hls ax kp st ef ec eq => ?_
  refine h.run env ls _ (A.deeper env) _ _ _ ax (st.ghost tb hK) (hideAll_none _ (.head _)) ec eq fun fl h' k ok tb' => ?_
  cases fl with
  | ret v => exact q v h' k ⟨fun a o hne e => ok.1 a o (hideAll_get _ e (fun q => hne (List.mem_singleton.mp q))), tb, tb'⟩ ok.2
  | _ => exact ok.elim
example (w : World) : (hd.heap_1 w.params).lookup 354 = none := by kernel_rfl
example (w : World) : codeHdIn (hd.heap_1 w.params) 358 354 = true := by kernel_rfl
end
end Mine
end
section
open PySem PySem.W PySem.Calls PyProof.Rows
set_option Elab.async false
set_option maxRecDepth 100000
set_option linter.unusedVariables false
namespace Mine
theorem look_put {α : Type} {x : Str} {d : α} : ∀ {l : List (Str × α)}, look x (put x d l) = some d
  | [] => by simp [put, look]
  | (y, e) :: r => by
    unfold put
    split
    · rename_i q; unfold look; rw [if_pos q]
    · rename_i q; unfold look; rw [if_neg q]; exact look_put
section
variable {w : World} {b n : Nat} {sc : Scope} {Γ : List (Str × D)}
theorem Sv.stored {env : Env} {g h h' : Heap} {x : Str} {v : Value} {d : D} {m : Str → Option Value} (st : Sv b sc env g Γ h)
    (hk : sc.names.lookup x = some .local) (r : Rep h v d) (hns : h.Ns env.locals m) (hn : h'.Ns env.locals (fun y => if y = x then some v else m y)) (hs : Heap.SameBut env.locals h h') : Sv b sc env g (put x d Γ) h' := by
  have hkx : env.kindOf x = some .local := by unfold Env.kindOf; rw [st.vars.sco]; exact hk
  obtain ⟨oL, es, ep, eL, dL, _⟩ := id hns
  have hL : ∀ o, h.get? env.locals = some o → ∃ es n, o.data = .dict es n := fun o e => by
    rw [eL] at e; cases e; exact ⟨_, _, dL⟩
  have sol := solid_but hs hL
  have hcell : ∀ c u, h.IsCell c u → c ≠ env.locals := fun c u hc q => by
    obtain ⟨o, e, hd⟩ := hc
    rw [q, eL] at e; cases e; rw [dL] at hd; cases hd
  refine ⟨⟨st.vars.sco, st.vars.kind, st.vars.glob, st.vars.blt, ⟨_, hn⟩, fun p hp => ?_⟩, put_nodup st.nd, fun a o e => ?_, st.fl⟩
  · obtain ⟨y, e⟩ := p
    rcases put_mem st.nd hp with ⟨rfl, rfl⟩ | ⟨hm, hne⟩
    · exact .inl ⟨hkx, _, v, hn, by simp, r.solid sol⟩
    · rcases st.vars.var _ hm with ⟨hk', m', v', hn', hm', r'⟩ | ⟨hk', c, v', hc, hv, r'⟩
      · refine .inl ⟨hk', _, v', hn, ?_, r'.solid sol⟩
        obtain ⟨o1, es1, ep1, q1, d1, k1, f1⟩ := hns
        obtain ⟨o2, es2, ep2, q2, d2, k2, f2⟩ := hn'
        rw [q1] at q2; cases q2
        rw [d1] at d2; cases d2
        show (if y = x then some v else m y) = some v'
        rw [if_neg hne, ← f1, f2]; exact hm'
      · obtain ⟨o, e', hd⟩ := hv
        exact .inr ⟨hk', c, v', hc, ⟨o, (hs.2 c (hcell c _ ⟨o, e', hd⟩)).trans e', hd⟩, r'.solid sol⟩
  · obtain ⟨sl, e1, k1⟩ := st.kp a o e
    refine ⟨sl, (hs.2 a fun q => ?_).trans e1, k1⟩
    rw [q, st.fl] at e; cases e
/-- what a name holds is known better -/
theorem St.better {env : Env} {outer : List Env} {g h : Heap} {x : Str} {u : Value} {d : D} (st : St w b sc env outer g (put x (.val u) Γ) h) (hn : (Γ.map (·.1)).Nodup) (r : Rep h u d) : St w b sc env outer g (put x d Γ) h := by
  refine ⟨⟨st.vars.sco, st.vars.kind, st.vars.glob, st.vars.blt, st.vars.nsv, fun p hp => ?_⟩, put_nodup hn, st.kp, st.fl, st.fc, st.ce, st.ap, st.pg, st.sg, st.lo, st.ef⟩
  obtain ⟨y, e⟩ := p
  rcases put_mem hn hp with ⟨rfl, rfl⟩ | ⟨hm, hne⟩
  · rcases st.vars.var _ (look_mem look_put) with ⟨hk', m', v', hn', hm', r'⟩ | ⟨hk', c', v', hc', hv, r'⟩
    · (first | obtain ⟨_, rfl⟩ := r'.intI | obtain rfl := r'.valI | obtain rfl := r'.boolI | obtain ⟨_, rfl⟩ := r'.strI | cases r'); exact .inl ⟨hk', m', _, hn', hm', r⟩
    · (first | obtain ⟨_, rfl⟩ := r'.intI | obtain rfl := r'.valI | obtain rfl := r'.boolI | obtain ⟨_, rfl⟩ := r'.strI | cases r'); exact .inr ⟨hk', c', _, hc', hv, r⟩
  · refine st.vars.var (y, e) ?_
    have : ∀ {l : List (Str × D)}, (y, e) ∈ l → y ≠ x → (y, e) ∈ put x (.val u) l := by
      intro l
      induction l with
      | nil => intro h; cases h
      | cons a r ih =>
        intro h hne
        unfold put
        split
        · rename_i q
          rcases List.mem_cons.mp h with h | h
          · cases h; exact absurd q hne
          · exact .tail _ h
        · rcases List.mem_cons.mp h with h | h
          · rw [h]; exact .head _
          · exact .tail _ (ih h hne)
    exact this hm hne
theorem hide_same {a : Addr} {h h' : Heap} (hs : ∀ c, c ≠ a → h'.get? c = h.get? c) {c : Addr} {o : Obj} (e : (hideAll h [a]).get? c = some o) : (hideAll h' [a]).get? c = some o := by
  have hne : c ≠ a := fun q => by rw [hideAll_none [a] (by rw [q]; exact .head _)] at e; cases e
  exact hideAll_get _ ((hs c hne).trans (of_hideAll _ e)) (fun q => hne (List.mem_singleton.mp q))
theorem hide_kp {a : Addr} {h h' : Heap} (k : Kp b h h') : Kp b (hideAll h [a]) (hideAll h' [a]) := fun c o e => by
  have hne : c ≠ a := fun q => by rw [hideAll_none [a] (by rw [q]; exact .head _)] at e; cases e
  obtain ⟨sl, e1, k1⟩ := k c o (of_hideAll _ e)
  exact ⟨sl, hideAll_get _ e1 (fun q => hne (List.mem_singleton.mp q)), k1⟩
theorem hide_ns {a : Addr} {h : Heap} {L : Addr} {m : Str → Option Value} (n : h.Ns L m) (hne : L ≠ a) : (hideAll h [a]).Ns L m := by
  obtain ⟨o, es, ep, e, r⟩ := n
  exact ⟨o, es, ep, hideAll_get _ e (fun q => hne (List.mem_singleton.mp q)), r⟩

/-- evaluation to a new list of integers -/
structure EvL (w : World) (b n : Nat) (sc : Scope) (Γ : List (Str × D)) (e : Expr) (is : List Int) : Prop where
  run : ∀ (env : Env) (A : Around) (s : Shared) (Q : Value → Shared → Prop) (E : Value → Shared → Prop), Cx w b n A s.heap → Vars sc env Γ s.heap →
    (∀ a vs h' k, Kp b s.heap h' → s.heap.get? a = none → h'.PlainList a vs → RepAll h' vs.toList (is.map .int) → Q (.ref a) { s with heap := h', toks := k }) → wpR (model PG w) A (eval e env) Q E s
theorem EvL.list {es : List Expr} {pos : Pos} {is : List Int} (h : Evs w b n sc Γ es (is.map .int)) (hsz : is.length ≤ sizeLine) : EvL w b n sc Γ (.List es pos) is := by
  refine ⟨fun env A s Q E c vr q => ?_⟩
  refine R.List_ (h.run env A s pos _ _ c vr fun vs h1 k1 kp1 r1 => ⟨by rw [r1.length]; simpa using hsz, ?_⟩)
  exact q _ vs.toArray _ _ (kp1.trans .push) (kp1.none (Heap.get?_none_of_le (Nat.le_refl _))) ⟨_, Heap.get?_push_size _ rfl⟩ (by simpa using r1.kp (b := b) .push)
theorem EvL.cat {l r : Expr} {pos : Pos} {xs ys : List Int} (hl : Ev w b n sc Γ l (.list (xs.map .int))) (hr : Ev w b n sc Γ r (.list (ys.map .int))) (hsz : xs.length + ys.length ≤ sizeLine) : EvL w b n sc Γ (.BinOp l .Add r pos) (xs ++ ys) := by
  refine ⟨fun env A s Q E c vr q => ?_⟩
  refine R.BinOp (hl.run env A s _ _ c vr fun u h1 k1 kp1 r1 => ?_)
  refine hr.run env A _ _ _ (c.kp kp1) (vr.kp kp1) fun v h2 k2 kp2 r2 => ?_
  refine R.of ?_
  cases r1.kp kp2 with
  | list a vs _ hl rv =>
  obtain ⟨a', ws, rfl, hl', rw'⟩ := r2.listI
  have l1 := rv.length
  have l2 := rw'.length
  obtain ⟨⟨cls, dd, data, sl⟩, ho, hc, k, hd⟩ := id hl
  obtain ⟨⟨cls2, dd2, data2, sl2⟩, ho2, hc2, k2', hd2⟩ := id hl'
  simp only at hc hd hc2 hd2
  subst hc hd hc2 hd2
  refine concat_meets ⟨_, ho, rfl⟩ ⟨_, ho2, rfl⟩ noFill_list_add seq_list_add PySem.F.slot_list_add PySem.F.entry_list_add (PySem.F.args_list_add_2 _ _) (list_addW a a' vs ws k k2' dd dd2 sl sl2 (by simp only [Array.length_toList, List.length_map] at l1 l2; omega)) ⟨ho, ho2, ?_⟩
  refine q _ (vs ++ ws) _ _ ((kp1.trans kp2).trans .push) ((kp1.trans kp2).none (Heap.get?_none_of_le (Nat.le_refl _))) ⟨_, Heap.get?_push_size _ rfl⟩ ?_
  rw [Array.toList_append, List.map_append]; exact (rv.append rw').kp (b := b) .push

/-- statements while x holds a list that no other name stands on -/
structure Hot (w : World) (b n : Nat) (sc : Scope) (Γ : List (Str × D)) (x : Str) (is : List Int) (ss : List Stmt) (o : Out) : Prop where
  run : ∀ (env : Env) (outer : List Env) (g : Heap) (A : Around) (s : Shared) (a : Addr) (vs : Array Value) (Q : Flow → Shared → Prop) (E : Value → Shared → Prop), Ax n A (env :: outer) → St w b sc env outer g (put x (.val (.ref a)) Γ) (hideAll s.heap [a]) →
    (Γ.map (·.1)).Nodup → s.heap.PlainList a vs → RepAll s.heap vs.toList (is.map .int) →
    (∀ fl h' k, o.ok w b sc env outer g fl h' → Q fl { s with heap := h', toks := k }) → wpR (model PG w) A (execs ss env) Q E s
theorem RepAll.ints {h h' : Heap} : ∀ {vs : List Value} {is : List Int}, RepAll h vs (is.map .int) → RepAll h' vs (is.map .int)
  | [], [], _ => .nil
  | _ :: _, _ :: _, .cons _ _ _ _ x y => .cons _ _ _ _ (by cases x; exact .int _ _) y.ints
theorem Hot.start {x : Str} {e : Expr} {pos pos' : Pos} {is : List Int} {rest : List Stmt} {o : Out} (h : EvL w b n sc Γ e is) (hk : sc.names.lookup x = some .local) (r : Hot w b n sc Γ x is rest o)
    (hs : ∀ env, swapsWith e (some (.Name x pos')) pos.line env = pure false := by exact fun _ => rfl) : Ex w b n sc Γ (.Assign [.Name x pos'] e pos :: rest) o := by
  refine ⟨fun env outer g A s Q E ax st q => ?_⟩
  refine R.execs_cons (R.Assign (h.run env A s _ _ (st.cx ax) st.vars fun a vs h1 k1 kp1 hn pl rl => ?_) (hs env))
  have st1 : St w b sc env outer g Γ (hideAll h1 [a]) := st.to fun c o e => by
    obtain ⟨sl, e1, k1⟩ := kp1 c o e
    exact ⟨sl, hideAll_get _ e1 (fun q => by rw [List.mem_singleton.mp q, hn] at e; cases e), k1⟩
  have hkx : env.kindOf x = some .local := by unfold Env.kindOf; rw [st.vars.sco]; exact hk
  obtain ⟨m, hns⟩ := (st.to kp1).vars.nsv
  have hne : env.locals ≠ a := fun q => by
    obtain ⟨_, o', _, _, e, _⟩ := st.vars.nsv
    rw [q, hn] at e; cases e
  refine wpAny_storeName_local hkx hns (fun h' hn' hsb => ?_) (by rw [st.vars.sco, st.vars.kind]; rfl)
  have sb' : Heap.SameBut env.locals (hideAll h1 [a]) (hideAll h' [a]) := by
    refine ⟨by rw [hideAll_size, hideAll_size]; exact hsb.1, fun c hc => ?_⟩
    by_cases hca : c = a
    · rw [hideAll_none [a] (by rw [hca]; exact .head _), hideAll_none [a] (by rw [hca]; exact .head _)]
    · have hm : c ∉ [a] := fun q => hca (List.mem_singleton.mp q)
      cases e : h1.get? c with
      | some o => rw [hideAll_get _ e hm, hideAll_get _ ((hsb.2 c hc).trans e) hm]
      | none =>
        have e2 := (hsb.2 c hc).trans e
        cases q1 : (hideAll h1 [a]).get? c with
        | some o => have := of_hideAll _ q1; rw [e] at this; cases this
        | none =>
          cases q2 : (hideAll h' [a]).get? c with
          | some o => have := of_hideAll _ q2; rw [e2] at this; cases this
          | none => rfl
  have sv := st1.sv.stored hk (.val (.ref a)) (hide_ns hns hne) (hide_ns hn' hne) sb'
  obtain ⟨c, pe⟩ := pl
  exact r.run env outer g A _ a vs _ _ ax (st1.of_sv sb'.extBut sv) st.nd ⟨c, (hsb.2 a (Ne.symm hne)).trans pe⟩ rl.ints q
theorem Hot.stop {x : Str} {is : List Int} {ss : List Stmt} {o : Out} (h : Ex w b n sc (put x (.list (is.map .int)) Γ) ss o) : Hot w b n sc Γ x is ss o := by
  refine ⟨fun env outer g A s a vs Q E ax st hn pl rl q => ?_⟩
  have st1 := st.to (.of fun c o e => of_hideAll [a] e)
  obtain ⟨c, pe⟩ := pl
  exact h.run env outer g A s _ _ ax (st1.better hn (.list _ vs _ ⟨_, pe, rfl, c, rfl⟩ rl)) q
theorem Hot.append {x : Str} {e : Expr} {np apos pos epos : Pos} {is : List Int} {i : Int} {rest : List Stmt} {o : Out} (he : ∀ a, Ev w b n sc (put x (.val (.ref a)) Γ) e (.int i)) (hsz : is.length ≤ sizeLine) (r : Hot w b n sc Γ x (is ++ [i]) rest o)
    (hx : (x == ("__debug__" : Str)) = false := by decide)
    (hv : ∀ env, ∃ pl, eval (.Call (.Attribute (.Name x np) (Str.ofString "append") apos) [e] [] pos) env = (do
      let ov ← eval (.Name x np) env
      standAt apos.atName
      let (f, first) ← holding [ov] (getMethod ov (Str.ofString "append") pl)
      callWith pos f first (backTo pos (starEach [e] env)) (backToKw pos (keywordEach [] env))) := by exact fun _ => ⟨_, rfl⟩)
    (hst : ∀ env, starEach [e] env = (false, eval e env) :: starEach [] env := by exact fun _ => rfl)
    (hs : ∀ env, swapsWith (.Call (.Attribute (.Name x np) (Str.ofString "append") apos) [e] [] pos) none epos.line env = pure false := by exact fun _ => rfl) :
    Hot w b n sc Γ x is (.Expr (.Call (.Attribute (.Name x np) (Str.ofString "append") apos) [e] [] pos) epos :: rest) o := by
  refine ⟨fun env outer g A s a vs Q E ax st hn pl rl q => ?_⟩
  have hi : interactive env = false := by unfold interactive; rw [st.vars.sco, st.vars.kind]; rfl
  have st1 := st.to (.of fun c o e => of_hideAll [a] e)
  refine R.execs_cons (R.Expr_ ?_ hi (hs env))
  obtain ⟨p, hv⟩ := hv env
  obtain ⟨c, pe⟩ := id pl
  refine R.CallMeth (R.of (wpAny_Name (loadV st1.vars look_put fun v' r' => ?_) hx)) hv
  (first | obtain ⟨_, rfl⟩ := r'.intI | obtain rfl := r'.valI | obtain rfl := r'.boolI | obtain ⟨_, rfl⟩ := r'.strI | cases r')
  refine getMethod_list_append pe rfl rfl ?_
  rw [hst env]
  refine R.callWith (P := fun _ => True) rfl (fun h _ => ⟨.machine, .inr (.inl rfl), .now⟩) (R.argsPlain (R.splicedCons ?_))
  refine (he a).run env A _ _ _ (st1.cx ax) st1.vars fun u h1 k1 kp1 r1 => R.of (spliced_none ?_)
  refine ⟨trivial, R.of ?_⟩
  have pl1 : h1.PlainList a vs := ⟨c, kp1.get pe (.inl (by intro _ _ q; cases q))⟩
  have l1 := rl.length
  refine wpAny_list_append_plain pl1 (fun h2 pl2 sb => ?_) (by simp only [Array.length_toList, List.length_map] at l1; omega)
  refine r.run env outer g A _ a (vs.push u) _ _ ax ((st.to (hide_kp kp1)).to (.of fun c o e => hide_same sb.2 e)) hn pl2 ?_ q
  rw [Array.toList_push, List.map_append]
  exact (rl.ints (h' := h2)).append (.cons _ _ _ _ (by (first | obtain ⟨_, rfl⟩ := r1.intI | obtain rfl := r1.valI | obtain rfl := r1.boolI | obtain ⟨_, rfl⟩ := r1.strI | cases r1); exact .int _ _) .nil)
end
end Mine
end
section
set_option linter.unusedVariables false
namespace Mine
theorem and_top (x k : Nat) : x &&& 2 ^ k = x / 2 ^ k % 2 * 2 ^ k := by
  apply Nat.eq_of_testBit_eq
  intro i
  rw [Nat.testBit_and, Nat.testBit_two_pow]
  have h := Nat.testBit_eq_decide_div_mod_eq (x := x) (i := k)
  rcases Nat.mod_two_eq_zero_or_one (x / 2 ^ k) with e | e
  · rw [e, Nat.zero_mul, Nat.zero_testBit]
    by_cases hi : k = i
    · subst hi; rw [h, e]; simp
    · simp [hi]
  · rw [e, Nat.one_mul, Nat.testBit_two_pow]
    by_cases hi : k = i
    · subst hi; rw [h, e]; simp
    · simp [hi]
theorem xor_low {s k : Nat} (h : s < 2 ^ k) : s ^^^ 2 ^ k = s + 2 ^ k := by
  have h1 := xor_and_or s (2 ^ k)
  have h2 : s &&& 2 ^ k = 0 := by rw [and_top, Nat.div_eq_of_lt h]; simp
  have h3 := Nat.two_pow_add_eq_or_of_lt h 1
  rw [Nat.mul_one, Nat.or_comm] at h3
  omega
theorem xor_top {s k : Nat} (h : s < 2 ^ (k + 1)) : s ^^^ 2 ^ k = if s < 2 ^ k then s + 2 ^ k else s - 2 ^ k := by
  split
  · exact xor_low ‹_›
  · rename_i hs
    rw [Nat.pow_succ] at h
    have e : s = (s - 2 ^ k) + 2 ^ k := by omega
    have hl : s - 2 ^ k < 2 ^ k := by omega
    have h1 := xor_low hl
    rw [← e] at h1
    conv => lhs; rw [← h1]
    rw [Nat.xor_assoc, Nat.xor_self, Nat.xor_zero]
theorem div_top {x k : Nat} (h : x < 2 ^ (k + 1)) : x / 2 ^ k = if x < 2 ^ k then 0 else 1 := by
  split
  · exact Nat.div_eq_of_lt ‹_›
  · rw [Nat.pow_succ] at h
    exact Nat.div_eq_of_lt_le (by omega) (by omega)
theorem bit_xor (x y k : Nat) : (x ^^^ y) / 2 ^ k % 2 = (x / 2 ^ k + y / 2 ^ k) % 2 := by
  have h1 : (x ^^^ y) / 2 ^ k = x / 2 ^ k ^^^ y / 2 ^ k := by
    apply Nat.eq_of_testBit_eq; intro i
    rw [Nat.testBit_xor, Nat.testBit_div_two_pow, Nat.testBit_div_two_pow, Nat.testBit_div_two_pow, Nat.testBit_xor]
  rw [h1, bx]
theorem bit_and (x y k : Nat) : (x &&& y) / 2 ^ k % 2 = (x / 2 ^ k % 2) * (y / 2 ^ k % 2) := by
  have h1 : (x &&& y) / 2 ^ k = x / 2 ^ k &&& y / 2 ^ k := by
    apply Nat.eq_of_testBit_eq; intro i
    rw [Nat.testBit_and, Nat.testBit_div_two_pow, Nat.testBit_div_two_pow, Nat.testBit_div_two_pow, Nat.testBit_and]
  rw [h1, ba]
theorem bit_or (x y k : Nat) : (x ||| y) / 2 ^ k % 2 = (x / 2 ^ k % 2) + (y / 2 ^ k % 2) - (x / 2 ^ k % 2) * (y / 2 ^ k % 2) := by
  have h1 : (x ||| y) / 2 ^ k = x / 2 ^ k ||| y / 2 ^ k := by
    apply Nat.eq_of_testBit_eq; intro i
    rw [Nat.testBit_or, Nat.testBit_div_two_pow, Nat.testBit_div_two_pow, Nat.testBit_div_two_pow, Nat.testBit_or]
  rw [h1, bo]
theorem mod_of {m B : Nat} (h : m < B + B) : m % B = if m < B then m else m - B := by
  split
  · exact Nat.mod_eq_of_lt ‹_›
  · rename_i q
    rw [Nat.mod_eq_sub_mod (Nat.not_lt.mp q), Nat.mod_eq_of_lt (by omega)]
theorem md2 {m B : Nat} (h : B ≤ m) (h' : m < B + B) : m % B = m - B := by rw [mod_of h', if_neg (Nat.not_lt.mpr h)]
theorem tp (k : Nat) : 2 ^ (k + 1) = 2 ^ k + 2 ^ k := by rw [Nat.pow_succ, Nat.mul_two]
/-- one lane of the sum -/
noncomputable def ls (k a b : Nat) : Nat := (a &&& 2 ^ k - 1) + (b &&& 2 ^ k - 1) ^^^ (a ^^^ b) &&& 2 ^ k
theorem ls_eq {k a b : Nat} (ha : a < 2 ^ (k + 1)) (hb : b < 2 ^ (k + 1)) : ls k a b = (a + b) % 2 ^ (k + 1) := by
  unfold ls
  rw [Nat.and_two_pow_sub_one_eq_mod, Nat.and_two_pow_sub_one_eq_mod, and_top, bit_xor, div_top ha, div_top hb]
  have xt : ∀ {s}, s < 2 ^ k + 2 ^ k → s ^^^ 2 ^ k = if s < 2 ^ k then s + 2 ^ k else s - 2 ^ k := fun {s} hs => xor_top (by rw [tp]; exact hs)
  rw [tp] at ha hb ⊢
  generalize 2 ^ k = T at *
  rcases Nat.lt_or_ge a T with h1 | h1 <;> rcases Nat.lt_or_ge b T with h2 | h2
  · rw [if_pos h1, if_pos h2, Nat.zero_mod, Nat.zero_mul, Nat.xor_zero, Nat.mod_eq_of_lt h1, Nat.mod_eq_of_lt h2, Nat.mod_eq_of_lt (Nat.add_lt_add h1 h2)]
  · rw [if_pos h1, if_neg (Nat.not_lt.mpr h2), show (0 + 1) % 2 = 1 from rfl, Nat.one_mul, Nat.mod_eq_of_lt h1, md2 h2 hb, xt (by omega)]
    split
    · rw [Nat.mod_eq_of_lt (by omega)]; omega
    · rw [md2 (by omega) (by omega)]; omega
  · rw [if_neg (Nat.not_lt.mpr h1), if_pos h2, show (1 + 0) % 2 = 1 from rfl, Nat.one_mul, Nat.mod_eq_of_lt h2, md2 h1 ha, xt (by omega)]
    split
    · rw [Nat.mod_eq_of_lt (by omega)]; omega
    · rw [md2 (by omega) (by omega)]; omega
  · rw [if_neg (Nat.not_lt.mpr h1), if_neg (Nat.not_lt.mpr h2), show (1 + 1) % 2 = 0 from rfl, Nat.zero_mul, Nat.xor_zero, md2 h1 ha, md2 h2 hb, md2 (by omega) (by omega)]
    omega
end Mine
namespace Mine
theorem or_top {a k : Nat} (h : a < 2 ^ (k + 1)) : a ||| 2 ^ k = if a < 2 ^ k then a + 2 ^ k else a := by
  have h1 := xor_and_or a (2 ^ k)
  rw [xor_top h, and_top, div_top h] at h1
  rw [← h1]
  split
  · simp
  · rw [Nat.pow_succ] at h; simp only [Nat.reduceMod, Nat.one_mul]; omega
/-- one lane of the difference -/
noncomputable def ld (k a b : Nat) : Nat := ((a ||| 2 ^ k) - (b &&& 2 ^ k - 1)) ^^^ ((a ^^^ b ^^^ 2 ^ k) &&& 2 ^ k)
theorem ld_eq {k a b : Nat} (ha : a < 2 ^ (k + 1)) (hb : b < 2 ^ (k + 1)) : ld k a b = (a + 2 ^ (k + 1) - b) % 2 ^ (k + 1) := by
  unfold ld
  have xt : ∀ {s}, s < 2 ^ k + 2 ^ k → s ^^^ 2 ^ k = if s < 2 ^ k then s + 2 ^ k else s - 2 ^ k := fun {s} hs => xor_top (by rw [tp]; exact hs)
  have p : 0 < 2 ^ k := Nat.two_pow_pos k
  have e : (a ^^^ b ^^^ 2 ^ k) / 2 ^ k % 2 = ((if a < 2 ^ k then 0 else 1) + (if b < 2 ^ k then 0 else 1) + 1) % 2 := by
    rw [bit_xor, Nat.div_self p, Nat.add_mod, bit_xor, div_top ha, div_top hb, Nat.mod_add_mod]
  rw [Nat.and_two_pow_sub_one_eq_mod, and_top, e, or_top ha]
  clear e
  rw [tp] at ha hb ⊢
  generalize 2 ^ k = T at *
  rcases Nat.lt_or_ge a T with h1 | h1 <;> rcases Nat.lt_or_ge b T with h2 | h2
  · rw [if_pos h1, if_pos h1, if_pos h2, show (0 + 0 + 1) % 2 = 1 from rfl, Nat.one_mul, Nat.mod_eq_of_lt h2, xt (by omega)]
    split
    · rw [Nat.mod_eq_of_lt (by omega)]; omega
    · rw [md2 (by omega) (by omega)]; omega
  · rw [if_pos h1, if_pos h1, if_neg (Nat.not_lt.mpr h2), show (0 + 1 + 1) % 2 = 0 from rfl, Nat.zero_mul, Nat.xor_zero, md2 h2 hb, Nat.mod_eq_of_lt (by omega)]
    omega
  · rw [if_neg (Nat.not_lt.mpr h1), if_neg (Nat.not_lt.mpr h1), if_pos h2, show (1 + 0 + 1) % 2 = 0 from rfl, Nat.zero_mul, Nat.xor_zero, Nat.mod_eq_of_lt h2, md2 (by omega) (by omega)]
    omega
  · rw [if_neg (Nat.not_lt.mpr h1), if_neg (Nat.not_lt.mpr h1), if_neg (Nat.not_lt.mpr h2), show (1 + 1 + 1) % 2 = 1 from rfl, Nat.one_mul, md2 h2 hb, xt (by omega)]
    split
    · rw [Nat.mod_eq_of_lt (by omega)]; omega
    · rw [md2 (by omega) (by omega)]; omega
/-- the bits turned -/
theorem xor_full {k a : Nat} (h : a < 2 ^ k) : (2 ^ k - 1) ^^^ a = 2 ^ k - 1 - a := by
  have h1 := xor_and_or (2 ^ k - 1) a
  have h2 : (2 ^ k - 1) &&& a = a := by rw [Nat.and_comm, Nat.and_two_pow_sub_one_eq_mod, Nat.mod_eq_of_lt h]
  have h3 : (2 ^ k - 1) ||| a = 2 ^ k - 1 := by
    apply Nat.eq_of_testBit_eq; intro i
    rw [Nat.testBit_or, Nat.testBit_two_pow_sub_one]
    by_cases hi : i < k
    · simp [hi]
    · simp only [hi, decide_false, Bool.false_or]
      exact Nat.testBit_lt_two_pow (Nat.lt_of_lt_of_le h (Nat.pow_le_pow_right (by decide) (by omega)))
  omega
end Mine
end
section
set_option linter.unusedVariables false
set_option linter.unusedSimpArgs false
set_option exponentiation.threshold 1100
namespace Mine
/-- the mask of every second field -/
noncomputable def kee (s : Nat) : Nat → Nat
  | 0 => 0
  | m + 1 => (2 ^ s - 1) + 2 ^ (2 * s) * kee s m
/-- the sum of m fields of width s -/
noncomputable def fs (s : Nat) : Nat → Nat → Nat
  | 0, _ => 0
  | m + 1, y => y % 2 ^ s + fs s m (y / 2 ^ s)
/-- one step of the count -/
noncomputable def gst (s m y : Nat) : Nat := (y &&& kee s m) + (y / 2 ^ s &&& kee s m)
theorem and_split {t p q y : Nat} (hp : p < 2 ^ t) : y &&& (p + 2 ^ t * q) = (y % 2 ^ t &&& p) + 2 ^ t * (y / 2 ^ t &&& q) := by
  have e : y = 2 ^ t * (y / 2 ^ t) + y % 2 ^ t := (Nat.div_add_mod y (2 ^ t)).symm
  apply Nat.eq_of_testBit_eq
  intro i
  have hm : y % 2 ^ t < 2 ^ t := Nat.mod_lt _ (Nat.two_pow_pos t)
  rw [Nat.add_comm p, Nat.add_comm (y % 2 ^ t &&& p), Nat.testBit_and, Nat.testBit_two_pow_mul_add _ hp, Nat.testBit_two_pow_mul_add _ (Nat.and_lt_two_pow _ hp)]
  conv => lhs; lhs; rw [e, Nat.testBit_two_pow_mul_add _ hm]
  split <;> rw [Nat.testBit_and]
theorem two_s (s : Nat) : 2 ^ (2 * s) = 2 ^ s * 2 ^ s := by rw [← Nat.pow_add]; congr 1; omega
theorem pow_ge_two {s : Nat} (hs : 0 < s) : 2 ≤ 2 ^ s := by
  have := Nat.pow_le_pow_right (n := 2) (by decide) hs
  simpa using this
theorem low_le {s : Nat} : 2 ^ s ≤ 2 ^ (2 * s) := Nat.pow_le_pow_right (by decide) (by omega)
theorem kee_low {s m y : Nat} : y &&& kee s (m + 1) = y % 2 ^ s + 2 ^ (2 * s) * (y / 2 ^ (2 * s) &&& kee s m) := by
  have p := Nat.two_pow_pos s
  have l := low_le (s := s)
  show y &&& ((2 ^ s - 1) + 2 ^ (2 * s) * kee s m) = _
  rw [and_split (by omega), Nat.and_two_pow_sub_one_eq_mod, two_s, Nat.mod_mul_right_mod]
theorem gst_succ {s m y : Nat} : gst s (m + 1) y = (y % 2 ^ s + y / 2 ^ s % 2 ^ s) + 2 ^ (2 * s) * gst s m (y / 2 ^ (2 * s)) := by
  unfold gst
  rw [kee_low, kee_low, Nat.mul_add, Nat.div_div_eq_div_mul y (2 ^ s), Nat.div_div_eq_div_mul y (2 ^ (2 * s)), Nat.mul_comm (2 ^ s) (2 ^ (2 * s))]
  omega
theorem gst_head {s : Nat} (hs : 0 < s) (y : Nat) : y % 2 ^ s + y / 2 ^ s % 2 ^ s < 2 ^ (2 * s) := by
  have p2 := pow_ge_two hs
  have h1 := Nat.mod_lt y (Nat.two_pow_pos s)
  have h2 := Nat.mod_lt (y / 2 ^ s) (Nat.two_pow_pos s)
  have := Nat.mul_le_mul_left (2 ^ s) p2
  rw [two_s]; omega
theorem gst_lt {s : Nat} (hs : 0 < s) : ∀ (m y : Nat), gst s m y < 2 ^ (2 * s * m)
  | 0, y => by unfold gst kee; simp
  | m + 1, y => by
    rw [gst_succ]
    have h := gst_head hs y
    have ih := gst_lt hs m (y / 2 ^ (2 * s))
    have e : 2 ^ (2 * s * (m + 1)) = 2 ^ (2 * s) * 2 ^ (2 * s * m) := by rw [← Nat.pow_add]; congr 1; rw [Nat.mul_add]; omega
    rw [e]
    have := Nat.mul_le_mul_left (2 ^ (2 * s)) ih
    rw [Nat.succ_eq_add_one, Nat.mul_add] at this
    omega
theorem gst_fs {s : Nat} (hs : 0 < s) : ∀ (m y : Nat), fs (2 * s) m (gst s m y) = fs s (2 * m) y
  | 0, y => rfl
  | m + 1, y => by
    have h := gst_head hs y
    rw [show 2 * (m + 1) = 2 * m + 1 + 1 by omega]
    show gst s (m + 1) y % 2 ^ (2 * s) + fs (2 * s) m (gst s (m + 1) y / 2 ^ (2 * s)) = y % 2 ^ s + (y / 2 ^ s % 2 ^ s + fs s (2 * m) (y / 2 ^ s / 2 ^ s))
    rw [gst_succ, Nat.add_mul_mod_self_left, Nat.mod_eq_of_lt h, Nat.add_mul_div_left _ _ (Nat.two_pow_pos _), Nat.div_eq_of_lt h, Nat.zero_add, gst_fs hs m, Nat.div_div_eq_div_mul, ← two_s]
    omega
/-- the ones of n bits -/
noncomputable abbrev pop (n y : Nat) : Nat := fs 1 n y
theorem fs_one {n y : Nat} (h : y < 2 ^ n) : fs n 1 y = y := by
  show y % 2 ^ n + 0 = y
  rw [Nat.mod_eq_of_lt h, Nat.add_zero]
theorem pop8 {y : Nat} (h : y < 2 ^ 8) : gst 4 1 (gst 2 2 (gst 1 4 y)) = pop 8 y := by
  rw [← fs_one (n := 8) (gst_lt (by decide : 0 < 4) 1 _), show (8 : Nat) = 2 * 4 from rfl, gst_fs (by decide), gst_fs (s := 2) (by decide), gst_fs (s := 1) (by decide)]
theorem pop16 {y : Nat} (h : y < 2 ^ 16) : gst 8 1 (gst 4 2 (gst 2 4 (gst 1 8 y))) = pop 16 y := by
  rw [← fs_one (n := 16) (gst_lt (by decide : 0 < 8) 1 _), show (16 : Nat) = 2 * 8 from rfl, gst_fs (by decide), gst_fs (s := 4) (by decide), gst_fs (s := 2) (by decide), gst_fs (s := 1) (by decide)]
theorem pop64 {y : Nat} (h : y < 2 ^ 64) : gst 32 1 (gst 16 2 (gst 8 4 (gst 4 8 (gst 2 16 (gst 1 32 y))))) = pop 64 y := by
  rw [← fs_one (n := 64) (gst_lt (by decide : 0 < 32) 1 _), show (64 : Nat) = 2 * 32 from rfl, gst_fs (by decide), gst_fs (s := 16) (by decide), gst_fs (s := 8) (by decide), gst_fs (s := 4) (by decide), gst_fs (s := 2) (by decide), gst_fs (s := 1) (by decide)]
/-- the noughts at the top of n bits -/
noncomputable def cl : Nat → Nat → Nat
  | 0, _ => 0
  | n + 1, a => if a < 2 ^ n then 1 + cl n a else 0
/-- the noughts at the foot -/
noncomputable def ct : Nat → Nat → Nat
  | 0, _ => 0
  | n + 1, a => if a % 2 = 1 then 0 else 1 + ct n (a / 2)
theorem fs_top {n y : Nat} : fs 1 (n + 1) y = fs 1 n y + y / 2 ^ n % 2 := by
  induction n generalizing y with
  | zero => simp [fs]
  | succ n ih =>
    show y % 2 ^ 1 + fs 1 (n + 1) (y / 2 ^ 1) = y % 2 ^ 1 + fs 1 n (y / 2 ^ 1) + _
    rw [ih, Nat.div_div_eq_div_mul, ← Nat.pow_add, Nat.add_comm 1 n]
    omega
theorem fs_zero : ∀ n, fs 1 n 0 = 0
  | 0 => rfl
  | n + 1 => by show 0 % 2 ^ 1 + fs 1 n (0 / 2 ^ 1) = 0; rw [Nat.zero_div, fs_zero n]
theorem bitN (y M : Nat) : y / 2 ^ M % 2 = if y.testBit M = true then 1 else 0 := by
  rw [Nat.testBit_eq_decide_div_mod_eq]
  rcases Nat.mod_two_eq_zero_or_one (y / 2 ^ M) with e | e <;> rw [e] <;> rfl
theorem fs_two {n y : Nat} : fs 1 (n + 1) (2 * y) = fs 1 n y := by
  show 2 * y % 2 + fs 1 n (2 * y / 2) = _
  rw [Nat.mul_mod_right, Nat.mul_div_cancel_left y (by decide), Nat.zero_add]
theorem fs_two1 {n y : Nat} : fs 1 (n + 1) (2 * y + 1) = 1 + fs 1 n y := by
  show (2 * y + 1) % 2 + fs 1 n ((2 * y + 1) / 2) = _
  rw [Nat.mul_add_mod, Nat.mul_add_div (by decide)]
  rfl
theorem fs_full : ∀ N, fs 1 N (2 ^ N - 1) = N
  | 0 => rfl
  | N + 1 => by
    have p := Nat.two_pow_pos N
    rw [show 2 ^ (N + 1) - 1 = 2 * (2 ^ N - 1) + 1 by rw [Nat.pow_succ]; omega, fs_two1, fs_full N, Nat.add_comm]
theorem above {a z n N : Nat} (hz : ∀ i, z.testBit i = decide (2 ^ i ≤ a)) (h1 : 2 ^ n ≤ a) (h2 : a < 2 ^ (n + 1)) : ∀ M, M ≤ N → fs 1 M ((2 ^ N - 1) ^^^ z) = M - (n + 1)
  | 0, _ => by rw [Nat.zero_sub]; rfl
  | M + 1, hM => by
    rw [fs_top, above hz h1 h2 M (Nat.le_of_succ_le hM), bitN, Nat.testBit_xor, hz, Nat.testBit_two_pow_sub_one, decide_eq_true (show M < N from hM)]
    clear hz
    by_cases h : M ≤ n
    · rw [decide_eq_true (Nat.le_trans (Nat.pow_le_pow_right (by decide) h) h1)]
      show M - (n + 1) + 0 = _
      clear h1 h2; omega
    · rw [decide_eq_false (fun q => Nat.lt_irrefl _ (Nat.lt_of_lt_of_le h2 (Nat.le_trans (Nat.pow_le_pow_right (by decide) (Nat.lt_of_not_le h)) q)))]
      show M - (n + 1) + 1 = _
      clear h1 h2; omega
/-- what stands above the highest one -/
theorem pop_clz {a z : Nat} (hz : ∀ i, z.testBit i = decide (2 ^ i ≤ a)) : ∀ n, a < 2 ^ n → ∀ (N : Nat), n ≤ N → fs 1 N ((2 ^ N - 1) ^^^ z) = (N - n) + cl n a
  | 0, ha, N, hN => by
    have a0 : a = 0 := by simpa using ha
    subst a0
    have z0 : z = 0 := by
      apply Nat.eq_of_testBit_eq; intro i
      rw [hz, Nat.zero_testBit, decide_eq_false (Nat.not_le.mpr (Nat.two_pow_pos i))]
    rw [z0, Nat.xor_zero, fs_full]
    rfl
  | n + 1, ha, N, hN => by
    show _ = (N - (n + 1)) + (if a < 2 ^ n then 1 + cl n a else 0)
    split
    · rename_i h
      rw [pop_clz hz n h N (Nat.le_of_succ_le hN)]
      clear hz h ha; omega
    · rename_i h
      rw [above hz (Nat.not_lt.mp h) ha N (Nat.le_refl _)]
      rfl
theorem and_odd (x y : Nat) : (2 * x + 1) &&& (2 * y + 1) = 2 * (x &&& y) + 1 := by
  have := and_split (t := 1) (p := 1) (q := y) (y := 2 * x + 1) (by decide)
  rw [show 1 + 2 ^ 1 * y = 2 * y + 1 by omega] at this
  rw [this, show (2 * x + 1) % 2 ^ 1 = 1 by omega, show (2 * x + 1) / 2 ^ 1 = x by omega]
  show 1 + 2 ^ 1 * (x &&& y) = _
  omega
theorem and_even (x y : Nat) : (2 * x) &&& (2 * y) = 2 * (x &&& y) := by
  have := and_split (t := 1) (p := 0) (q := y) (y := 2 * x) (by decide)
  rw [show 0 + 2 ^ 1 * y = 2 * y by omega] at this
  rw [this, show (2 * x) / 2 ^ 1 = x by omega, Nat.and_zero]
  omega
theorem and_not_self : ∀ (n a : Nat), a < 2 ^ n → (2 ^ n - 1 - a) &&& a = 0 := by
  intro n a h
  rw [← xor_full h]
  apply Nat.eq_of_testBit_eq; intro i
  rw [Nat.testBit_and, Nat.testBit_xor, Nat.testBit_two_pow_sub_one, Nat.zero_testBit]
  by_cases hi : i < n
  · simp [hi]
  · rw [Nat.testBit_lt_two_pow (Nat.lt_of_lt_of_le h (Nat.pow_le_pow_right (by decide) (by omega)))]; simp
theorem odd_mod (m B : Nat) : (2 * m + 1) % (2 * B) = 2 * (m % B) + 1 := by
  rcases Nat.eq_zero_or_pos B with rfl | hB
  · rw [Nat.mul_zero, Nat.mod_zero, Nat.mod_zero]
  · have e : 2 * m + 1 = 2 * B * (m / B) + (2 * (m % B) + 1) := by
      conv => lhs; rw [← Nat.div_add_mod m B]
      rw [Nat.mul_add, Nat.mul_assoc, Nat.add_assoc]
    have l := Nat.mod_lt m hB
    rw [e, Nat.mul_add_mod, Nat.mod_eq_of_lt (by omega)]
theorem ctz_a {k B : Nat} (h : 2 * k + 1 < 2 * B) : 2 * B - 1 - (2 * k + 1) = 2 * (B - 1 - k) ∧ 2 * k + 1 + 2 * B - 1 = 2 * k + 2 * B ∧ k < B := by omega
theorem ctz_b {k B : Nat} (h : 2 * k < 2 * B) : 2 * B - 1 - 2 * k = 2 * (B - 1 - k) + 1 ∧ 2 * k + 2 * B - 1 = 2 * (k + B - 1) + 1 ∧ k < B := by omega
theorem pop_ctz : ∀ (n a : Nat), a < 2 ^ n → fs 1 n ((2 ^ n - 1 - a) &&& (a + 2 ^ n - 1) % 2 ^ n) = ct n a
  | 0, a, _ => rfl
  | n + 1, a, ha => by
    have ih := pop_ctz n (a / 2)
    have ns := and_not_self n (a / 2)
    rw [show 2 ^ (n + 1) = 2 * 2 ^ n by rw [Nat.pow_succ, Nat.mul_comm]] at ha ⊢
    generalize 2 ^ n = B at *
    show _ = if a % 2 = 1 then 0 else 1 + ct n (a / 2)
    have d := Nat.div_add_mod a 2
    rcases Nat.mod_two_eq_zero_or_one a with h | h
    · rw [h, if_neg (by decide)]
      rw [h, Nat.add_zero] at d
      generalize a / 2 = k at *
      subst d
      obtain ⟨e1, e2, e3⟩ := ctz_b ha
      rw [e1, e2, odd_mod, and_odd, fs_two1, ih e3]
    · rw [h, if_pos rfl]
      rw [h] at d
      generalize a / 2 = k at *
      subst d
      obtain ⟨e1, e2, e3⟩ := ctz_a ha
      rw [e1, e2, Nat.add_mod_right, Nat.mod_eq_of_lt (Nat.lt_of_succ_lt ha), and_even, fs_two]
      rw [ns e3, fs_zero]
end Mine
end
section
open PySem PySem.W PySem.Calls PyProof.Rows
set_option Elab.async false
set_option maxRecDepth 100000
set_option linter.unusedVariables false
namespace Mine
theorem band_nat (m n : Nat) : Builtin.bitAnd (m : Int) (n : Int) = ((m &&& n : Nat) : Int) := by
  unfold Builtin.bitAnd
  simp
theorem bor_nat (m n : Nat) : Builtin.bitOr (m : Int) (n : Int) = ((m ||| n : Nat) : Int) := by
  unfold Builtin.bitOr Builtin.bitAnd Builtin.bitNot
  have h1 : decide (0 ≤ -(m : Int) - 1) = false := decide_eq_false (by omega)
  have h2 : decide (0 ≤ -(n : Int) - 1) = false := decide_eq_false (by omega)
  simp only [h1, h2]
  have e1 : (-(-(m : Int) - 1) - 1).toNat = m := by omega
  have e2 : (-(-(n : Int) - 1) - 1).toNat = n := by omega
  rw [e1, e2]
  omega
theorem bxor_nat (m n : Nat) : Builtin.bitXor (m : Int) (n : Int) = ((m ^^^ n : Nat) : Int) := by
  unfold Builtin.bitXor
  rw [bor_nat, band_nat]
  have := xor_and_or m n
  omega
theorem bits_lt {x : Int} {m : Nat} (h : x.natAbs < 2 ^ m) : Builtin.Int.intBits x ≤ m := intBits_le_iff.mpr h
section
variable {w : World} {b n : Nat} {sc : Scope} {Γ : List (Str × D)}
theorem Bo.addN {x y : Nat} : Bo w b .Add (.int x) (.int y) (.int ((x + y : Nat) : Int)) := by rw [Int.natCast_add]; exact Bo.add
theorem Bo.andN {x y : Nat} : Bo w b .BitAnd (.int x) (.int y) (.int ((x &&& y : Nat) : Int)) := by rw [← band_nat]; exact Bo.and
theorem Bo.orN {x y : Nat} : Bo w b .BitOr (.int x) (.int y) (.int ((x ||| y : Nat) : Int)) := by rw [← bor_nat]; exact Bo.or
theorem Bo.xorN {x y : Nat} : Bo w b .BitXor (.int x) (.int y) (.int ((x ^^^ y : Nat) : Int)) := by rw [← bxor_nat]; exact Bo.xor
theorem Bo.subN {x y : Nat} (h : y ≤ x) : Bo w b .Sub (.int x) (.int y) (.int ((x - y : Nat) : Int)) := by rw [Int.ofNat_sub h]; exact Bo.sub
theorem Bo.mulL {x y : Nat} (h : x < 2 ^ 64) : Bo w b .Mult (.int x) (.int y) (.int ((x * y : Nat) : Int)) := by rw [Int.natCast_mul]; exact Bo.mul (.of_left (bits_lt (by simpa using h)))
theorem Bo.mulR {x y : Nat} (h : y < 2 ^ 64) : Bo w b .Mult (.int x) (.int y) (.int ((x * y : Nat) : Int)) := by rw [Int.natCast_mul]; exact Bo.mul (.of_right (bits_lt (by simpa using h)))
theorem Bo.mulB {x y : Nat} (h : x < 2 ^ 1000) (h' : y < 2 ^ 1000) : Bo w b .Mult (.int x) (.int y) (.int ((x * y : Nat) : Int)) := by rw [Int.natCast_mul]; exact Bo.mul (.of_le (bits_lt (by simpa using h)) (bits_lt (by simpa using h')) (by decide))
theorem Bo.divN {x y : Nat} (h : 0 < y) (h' : y < 2 ^ 1000) : Bo w b .FloorDiv (.int x) (.int y) (.int ((x / y : Nat) : Int)) := by
  rw [Int.natCast_ediv]; exact Bo.div (by omega) (by have := Int.ofNat_lt.mpr h'; simpa using this)
theorem Bo.modN {x y : Nat} (h : 0 < y) : Bo w b .Mod (.int x) (.int y) (.int ((x % y : Nat) : Int)) := by rw [Int.natCast_emod]; exact Bo.mod (by omega)
theorem Bo.powN {x y : Nat} (h : x < 1024) (h' : y < 1000) : Bo w b .Pow (.int x) (.int y) (.int ((x ^ y : Nat) : Int)) := by
  have := Bo.pow (w := w) (b := b) (x := (x : Int)) (y := (y : Int)) (by omega) (by
    have h1 : Builtin.Int.intBits (x : Int) ≤ 10 := bits_lt (by simpa using h)
    have h2 : (Builtin.Int.intBits (x : Int)) * y ≤ 10 * 1000 := Nat.mul_le_mul h1 (by omega)
    have h3 : ((Builtin.Int.intBits (x : Int) : Nat) : Int) * (y : Int) = ((Builtin.Int.intBits (x : Int) * y : Nat) : Int) := by rw [Int.natCast_mul]
    rw [h3]; omega)
  rw [Int.toNat_natCast] at this
  rw [Int.natCast_pow]; exact this
theorem Ev.nat {k : Nat} {x1 pos} : Ev w b n sc Γ (.Constant (.int (k : Int)) x1 pos) (.int (k : Int)) := Ev.int
end
theorem pw {k : Nat} (h : k < 1000) : 2 ^ k < 2 ^ 1000 := Nat.pow_lt_pow_right (by decide) h
theorem pw1 {k : Nat} (h : k < 1000) : 2 ^ k - 1 < 2 ^ 1000 := Nat.lt_of_le_of_lt (Nat.sub_le _ _) (pw h)
theorem pwP {k : Nat} (h : k < 999) : 2 ^ k + 1 < 2 ^ 1000 := by
  have h1 : 2 ^ (k + 1) < 2 ^ 1000 := pw (by omega)
  have h2 : 1 ≤ 2 ^ k := Nat.one_le_two_pow
  rw [Nat.pow_succ] at h1; omega
theorem pw64 {k : Nat} (h : k < 64) : 2 ^ k < 2 ^ 64 := Nat.pow_lt_pow_right (by decide) h
theorem pw64' {k : Nat} (h : k ≤ 64) : 2 ^ k - 1 < 2 ^ 64 := by
  have h1 : 2 ^ k ≤ 2 ^ 64 := Nat.pow_le_pow_right (by decide) h
  have h2 : 1 ≤ 2 ^ k := Nat.one_le_two_pow
  omega
theorem pos1 {k : Nat} (h : 0 < k) : 0 < 2 ^ k - 1 := by
  have h1 : 2 ^ 1 ≤ 2 ^ k := Nat.pow_le_pow_right (by decide) h
  omega
section
variable {w : World} {b n : Nat} {sc : Scope} {Γ : List (Str × D)}
theorem Ex.asg {x : Str} {e : Expr} {pos pos' : Pos} {d : D} {Γ' : List (Str × D)} {rest : List Stmt} {o : Out} (h : Ev w b n sc Γ e d) (hk : sc.names.lookup x = some .local) (hp : put x d Γ = Γ') (r : Ex w b n sc Γ' rest o)
    (hs : ∀ env, swapsWith e (some (.Name x pos')) pos.line env = pure false := by exact fun _ => rfl) : Ex w b n sc Γ (.Assign [.Name x pos'] e pos :: rest) o := by
  subst hp; exact Ex.cons (Ex1.assign h hk hs) r
theorem St.drop {env : Env} {outer : List Env} {g h : Heap} {Γ' : List (Str × D)} (st : St w b sc env outer g Γ h) (hs : ∀ p ∈ Γ', p ∈ Γ) (nd : (Γ'.map (·.1)).Nodup) : St w b sc env outer g Γ' h :=
  ⟨⟨st.vars.sco, st.vars.kind, st.vars.glob, st.vars.blt, st.vars.nsv, fun p hp => st.vars.var p (hs p hp)⟩, nd, st.kp, st.fl, st.fc, st.ce, st.ap, st.pg, st.sg, st.lo, st.ef⟩
theorem Ex.pre {ss : List Stmt} {Γ₁ Γ₂ ex : List (Str × D)} (h : Ex w b n sc Γ ss (.nx Γ₁)) (e : Γ₁ = Γ₂ ++ ex) : Ex w b n sc Γ ss (.nx Γ₂) := by
  subst e
  refine ⟨fun env outer g A s Q E ax st q => h.run env outer g A s Q E ax st fun fl h' k ok => q fl h' k ?_⟩
  cases fl with
  | next => exact St.drop ok (fun p hp => List.mem_append_left _ hp) (by have := ok.nd; rw [List.map_append] at this; exact (List.nodup_append.mp this).1)
  | _ => exact ok.elim
theorem Lp.fold {α β : Type} {t : Expr} {body : List Stmt} {G : α → List (Str × D)} {f : α → β → α} {D' : β → D} : ∀ (l : List β) (a : α), (∀ a, ∀ x ∈ l, ∃ Γ', Tg w b sc (G a) t (D' x) Γ' ∧ Ex w b n sc Γ' body (.nx (G (f a x)))) →
    Lp w b n sc t body (l.map D') (G a) (.nx (G (l.foldl f a)))
  | [], a, _ => .nil
  | x :: l, a, h => by
    obtain ⟨Γ', h1, h2⟩ := h a x (.head _)
    exact .next h1 h2 (Lp.fold l (f a x) fun a y hy => h a y (.tail _ hy))
noncomputable def iter {α : Type} (c : α → Bool) (f : α → α) : Nat → α → α
  | 0, a => a
  | k + 1, a => if c a then iter c f k (f a) else a
theorem Lw.iter {α : Type} {t : Expr} {body : List Stmt} {G : α → List (Str × D)} {c : α → Bool} {f : α → α} {P : α → Prop} (ht : ∀ a, P a → Ts w b n sc (G a) t (c a))
    (hb : ∀ a, P a → c a = true → Ex w b n sc (G a) body (.nx (G (f a))) ∧ P (f a)) : ∀ (k : Nat) (a : α), P a → c (iter c f k a) = false → Lw w b n sc t body (G a) (.nx (G (iter c f k a)))
  | 0, a, p, e => .done (by have := ht a p; rw [show c a = false from e] at this; exact this)
  | k + 1, a, p, e => by
    unfold Mine.iter at e ⊢
    cases h : c a with
    | true =>
      rw [h] at e
      simp only [if_true] at e ⊢
      have h1 := ht a p
      rw [h] at h1
      obtain ⟨h2, p2⟩ := hb a p h
      exact .next h1 h2 (Lw.iter ht hb k (f a) p2 e)
    | false =>
      simp only [Bool.false_eq_true, if_false]
      have h1 := ht a p
      rw [h] at h1
      exact .done h1
theorem Co.ltN {x y : Nat} : Co w b .Lt (.int x) (.int y) (decide (x < y)) := by
  have := Co.lt (w := w) (b := b) (x := (x : Int)) (y := (y : Int))
  rw [show decide ((x : Int) < (y : Int)) = decide (x < y) by simp] at this; exact this
theorem Co.geN {x y : Nat} : Co w b .GtE (.int x) (.int y) (decide (y ≤ x)) := by
  have := Co.ge (w := w) (b := b) (x := (x : Int)) (y := (y : Int))
  rw [show decide ((y : Int) ≤ (x : Int)) = decide (y ≤ x) by simp] at this; exact this
theorem Ev.conv {e : Expr} {d d' : D} (h : Ev w b n sc Γ e d') (q : d' = d) : Ev w b n sc Γ e d := q ▸ h
theorem Ts.conv {e : Expr} {t t' : Bool} (h : Ts w b n sc Γ e t') (q : t' = t) : Ts w b n sc Γ e t := q ▸ h
theorem Tg.nm {x : Str} {pos : Pos} {d : D} {Γ' : List (Str × D)} (hk : sc.names.lookup x = some .local) (hp : put x d Γ = Γ') : Tg w b sc Γ (.Name x pos) d Γ' := hp ▸ Tg.name hk
theorem Tgs.cn {x : Str} {pos : Pos} {ts : List Expr} {d : D} {ds : List D} {Γ₁ Γ' : List (Str × D)} (hk : sc.names.lookup x = some .local) (hp : put x d Γ = Γ₁) (h : Tgs w b sc Γ₁ ts ds Γ') : Tgs w b sc Γ (.Name x pos :: ts) (d :: ds) Γ' := by
  subst hp; exact Tgs.cons hk h
theorem Io.rng {x : Str} {np pos : Pos} {e : Expr} {k : Nat} {ds : List D} (hf : Ev w b n sc Γ (.Name x np) (.val (.type "range"))) (h : Ev w b n sc Γ e (.int (k : Int))) (h1 : k < 1000) (hd : dInts k = ds)
    (he : ∀ env, starEach [e] env = (false, eval e env) :: starEach [] env := by exact fun _ => rfl) : Io w b n sc Γ (.Call (.Name x np) [e] [] pos) ds := by
  have := Io.range (pos := pos) hf h (by omega) (by omega) he
  rw [Int.toNat_natCast, hd] at this; exact this
noncomputable def cfB : Nat → D → Bool
  | 0, _ => false
  | k + 1, .list l => l.all (cfB k)
  | k + 1, .tup l => l.all (cfB k)
  | _ + 1, .abs _ => false
  | _ + 1, _ => true
theorem cfB_cf : ∀ (k : Nat) (d : D), cfB k d = true → Cf d
  | 0, _, h => by cases h
  | k + 1, .list l, h => .list l fun d hd => cfB_cf k d (List.all_eq_true.mp h d hd)
  | k + 1, .tup l, h => .tup l fun d hd => cfB_cf k d (List.all_eq_true.mp h d hd)
  | _ + 1, .abs _, h => by cases h
  | _ + 1, .int _, _ => .int _
  | _ + 1, .bool _, _ => .bool _
  | _ + 1, .none, _ => .none
  | _ + 1, .val _, _ => .val _
  | _ + 1, .str _, _ => .str _
  | _ + 1, .bytes _, _ => .bytes _
  | _ + 1, .barr _, _ => .barr _
theorem cf_all {ds : List D} (h : ds.all (cfB 5) = true) : ∀ d ∈ ds, Cf d := fun d hd => cfB_cf 5 d (List.all_eq_true.mp h d hd)
theorem EvF.int {e : Expr} {i : Int} (h : Ev w b n sc Γ e (.int i)) : EvF w b n sc Γ e (.int i) :=
  ⟨fun env A s Q E c vr q => h.run env A s Q E c vr fun v h' k kp r => q v h' k kp (.mk' (by cases r; exact .int _ _))⟩
end
theorem mem_hd {α : Type} {a : α} {l : List α} : a ∈ a :: l := .head _
theorem mem_tl {α : Type} {a c : α} {l : List α} (h : a ∈ l) : a ∈ c :: l := .tail _ h
theorem nes {a b : String} (h : a ≠ b) : Str.ofString a ≠ Str.ofString b := fun q => h (by rw [ofs_inj] at q; exact q)
theorem look_hd {α : Type} {x : Str} {d : α} {r : List (Str × α)} : look x ((x, d) :: r) = some d := by unfold look; rw [if_pos rfl]
theorem look_tl {α : Type} {x y : Str} {d e : α} {r : List (Str × α)} (h : y ≠ x) (q : look x r = some d) : look x ((y, e) :: r) = some d := by
  show (if y = x then some e else look x r) = _
  rw [if_neg h, q]
theorem put_nil {α : Type} {x : Str} {d : α} : put x d [] = [(x, d)] := rfl
theorem put_hd {α : Type} {x : Str} {d e : α} {r : List (Str × α)} : put x d ((x, e) :: r) = (x, d) :: r := by unfold put; rw [if_pos rfl]
theorem put_tl {α : Type} {x y : Str} {d e : α} {r r' : List (Str × α)} (h : y ≠ x) (q : put x d r = r') : put x d ((y, e) :: r) = (y, e) :: r' := by
  show (if y = x then (y, d) :: r else (y, e) :: put x d r) = _
  rw [if_neg h, q]
theorem wdb {W : Nat} (h : W = 8 ∨ W = 16 ∨ W = 64) : 8 ≤ W ∧ W ≤ 64 := by omega
theorem szb {sz : Nat} (h : sz = 1 ∨ sz = 2 ∨ sz = 8) : 1 ≤ sz ∧ sz ≤ 8 := by omega
theorem sz_le {k : Nat} (h : Nat.ble k 300 = true) : k ≤ sizeLine := Nat.le_trans (Nat.le_of_ble_eq_true h) (by rw [sizeLine_eq]; decide)
section
variable {w : World} {b n : Nat} {sc : Scope} {Γ : List (Str × D)}
theorem loadM {x : Str} {d : D} {env : Env} {A : Around} {s : Shared} {Q : Value → Shared → Prop} {E : Value → Shared → Prop} (v : Vars sc env Γ s.heap) (h : (x, d) ∈ Γ)
    (q : ∀ v, Rep s.heap v d → Q v s) : wpAny (model PG w) A (loadName env x) Q E s := by
  rcases v.var _ h with ⟨hk, m, v', hn, hm, r⟩ | ⟨hk, c, v', hc, hv, r⟩
  · exact wpAny_loadName_local (by rw [v.sco]; exact v.kind) hk hn hm (q _ r)
  · rcases hk with hk | ⟨hk, hx⟩
    · exact wpAny_loadName_cell (by rw [v.sco]; exact v.kind) hk hc hv (q _ r)
    · exact wpAny_loadName_free (by rw [v.sco]; exact v.kind) hk hc hv (q _ r) hx
/-- a name, by its place -/
theorem Ev.nameM {x : Str} {d : D} {pos} (h : (x, d) ∈ Γ) (hd : (x == ("__debug__" : Str)) = false := by decide) : Ev w b n sc Γ (.Name x pos) d :=
  ⟨fun _ _ s _ _ _ v q => R.of (wpAny_Name (loadM v h fun v' r => q _ _ s.toks .refl r) hd)⟩
theorem Ev.attrM {x name : Str} {np pos : Pos} {a : Addr} {i : Int} (ho : (x, .val (.ref a)) ∈ Γ) (ha : Attr w b a name i) (hx : (x == ("__debug__" : Str)) = false := by decide) : Ev w b n sc Γ (.Attribute (.Name x np) name pos) (.int i) := by
  refine ⟨fun env A s Q E c vr q => ?_⟩
  obtain ⟨t, ha⟩ := ha
  refine R.of (Attribute_name (wpAny_Name (loadM vr ho fun u r1 => ?_) hx))
  cases r1
  exact ha A _ _ _ c.pf (q _ _ _ .refl (.int _ _))
end
theorem args1 {P : List Value → Prop} (h : ∀ a, P [a]) : ∀ vs : List Value, vs.length = 1 → P vs
  | [a], _ => h a
theorem argsC {k : Nat} {P : List Value → Prop} (h : ∀ a vs, vs.length = k → P (a :: vs)) : ∀ vs : List Value, vs.length = k + 1 → P vs
  | a :: vs, e => h a vs (Nat.succ.inj e)
theorem args2 {P : List Value → Prop} (h : ∀ a b, P [a, b]) : ∀ vs : List Value, vs.length = 2 → P vs := argsC fun a => args1 (h a)
theorem args3 {P : List Value → Prop} (h : ∀ a b c, P [a, b, c]) : ∀ vs : List Value, vs.length = 3 → P vs := argsC fun a => args2 (h a)
theorem args4 {P : List Value → Prop} (h : ∀ a b c d, P [a, b, c, d]) : ∀ vs : List Value, vs.length = 4 → P vs := argsC fun a => args3 (h a)
theorem args5 {P : List Value → Prop} (h : ∀ a b c d e, P [a, b, c, d, e]) : ∀ vs : List Value, vs.length = 5 → P vs := argsC fun a => args4 (h a)
theorem args8 {P : List Value → Prop} (h : ∀ a b c d e f g i, P [a, b, c, d, e, f, g, i]) : ∀ vs : List Value, vs.length = 8 → P vs := argsC fun a => argsC fun b => argsC fun c => args5 (h a b c)
set_option exponentiation.threshold 1100
local macro_rules | `(tactic| walk_at "lookS") => `(tactic| (simp only [look, put, ofs_inj, String.reduceEq, if_false, if_true]; first | done | rfl))
local macro_rules | `(tactic| walk_at "mem") => `(tactic| with_reducible first | exact mem_hd | (refine mem_tl ?_; walk_at "mem"))
local macro_rules | `(tactic| walk_at "pos") => `(tactic| first | exact Nat.succ_pos _ | omega)
local macro_rules | `(tactic| walk_at "look") => `(tactic| walk_at "lookS")
local macro_rules | `(tactic| walk_at "look") => `(tactic| with_reducible first | exact look_hd | (refine' look_tl ?zn ?zq; (case zn => exact nes (by decide)); (case zq => walk_at "lookR")))
local macro_rules | `(tactic| walk_at "lookR") => `(tactic| with_reducible first | exact look_hd | (refine' look_tl ?zn ?zq; (case zn => exact nes (by decide)); (case zq => walk_at "lookR")))
local macro_rules | `(tactic| walk_at "put") => `(tactic| (simp only [put, ofs_inj, String.reduceEq, if_false, if_true]; first | done | rfl))
local macro_rules | `(tactic| walk_at "put") => `(tactic| ((try dsimp only); walk_at "putR"))
local macro_rules | `(tactic| walk_at "putR") => `(tactic| with_reducible first | exact put_hd | exact put_nil | (refine' put_tl ?zn ?zq; (case zn => exact nes (by decide)); (case zq => walk_at "putR")))
local macro_rules | `(tactic| walk_at "const") => `(tactic| first
  | exact Ev.nat (k := 0) | exact Ev.nat (k := 1) | exact Ev.nat (k := 2) | exact Ev.nat (k := 3) | exact Ev.nat (k := 256) | exact Ev.nat (k := 8) | exact Ev.nat (k := 4) | exact Ev.nat (k := 5) | exact Ev.nat (k := 9) | exact Ev.nat (k := 24) | exact Ev.nat (k := 67) | exact Ev.nat (k := 61))
local macro_rules | `(tactic| walk_at "side") => `(tactic| first | assumption | exact Nat.one_le_two_pow | exact Nat.two_pow_pos _ | omega | exact pw1 (by omega) | exact pw (by omega) | exact pwP (by omega) | exact pw64 (by omega) | exact pw64' (by omega) | exact pos1 (by omega) | (simp; done))
local macro_rules | `(tactic| walk_at "bo") => `(tactic| first
  | exact Bo.andN | exact Bo.orN | exact Bo.xorN | exact Bo.addN
  | (refine' Bo.subN ?h1; (case h1 => walk_at "side"))
  | (refine' Bo.divN ?h1 ?h2; (case h1 => walk_at "side"); (case h2 => walk_at "side"))
  | (refine' Bo.modN ?h1; (case h1 => walk_at "side"))
  | (refine' Bo.powN ?h1 ?h2; (case h1 => walk_at "side"); (case h2 => walk_at "side"))
  | (refine' Bo.mulL ?h1; (case h1 => walk_at "side"))
  | (refine' Bo.mulR ?h1; (case h1 => walk_at "side"))
  | exact Bo.add | exact Bo.sub | exact Bo.and | exact Bo.or | exact Bo.xor)
local macro_rules | `(tactic| walk_at "fn") => `(tactic| fail "no contract")
local macro_rules | `(tactic| walk_at "evs") => `(tactic| first
  | exact Evs.nil
  | (refine' Evs.cons ?h1 ?h2 ?h3; (case h1 => walk_at "ev"); (case h2 => walk_at "evs"); (case h3 => exact fun _ => rfl)))
local macro_rules | `(tactic| walk_at "ev") => `(tactic| first
  | walk_at "const"
  | exact Ev.bool
  | exact Ev.str
  | (refine' Ev.nameM ?h1 ?h2; (case h1 => walk_at "mem"); (case h2 => decide))
  | (refine' Ev.name ?h1 ?h2; (case h1 => walk_at "look"); (case h2 => decide))
  | (refine' Ev.glob ?h1 ?h2 ?h3; (case h1 => rfl); (case h2 => k_is); (case h3 => decide))
  | (refine' Ev.blt ?h1 ?h2 ?h3 ?h4 ?h5; (case h5 => decide); (case h1 => rfl); (case h2 => k_is); (case h3 => first | with_reducible exact PyProof.Rows.Boot.«range» | with_reducible exact PyProof.Rows.Boot.«len» | with_reducible exact PyProof.Rows.Boot.«max» | with_reducible exact PyProof.Rows.Boot.«min» | with_reducible exact PyProof.Rows.Boot.«int» | with_reducible exact PyProof.Rows.Boot.«bytearray» | with_reducible exact PyProof.Rows.Boot.«bytes» | with_reducible exact PyProof.Rows.Boot.«list» | with_reducible exact PyProof.Rows.Boot.«zip» | with_reducible exact PyProof.Rows.Boot.«abs» | rfl); (case h4 => decide +kernel))
  | (refine' Ev.bin ?hn ?hl ?hr ?ho; (case hn => walk_at "pos"); (case hl => walk_at "ev"); (case hr => walk_at "ev"); (case ho => walk_at "bo"))
  | (refine' Ev.call ?hf ?ha ?fn ?he; (case hf => walk_at "ev"); (case ha => walk_at "evs"); (case fn => walk_at "fn"); (case he => exact fun _ => rfl)))
local macro_rules | `(tactic| walk_at "ex") => `(tactic| first
  | exact Ex.nil
  | (refine' Ex.asg ?h1 ?h2 ?h3 ?h4 ?h5; (case h1 => walk_at "ev"); (case h2 => rfl); (case h3 => walk_at "put"); (case h4 => walk_at "ex"); (case h5 => exact fun _ => rfl)))
local macro_rules | `(tactic| walk_at "caps") => `(tactic| first
  | exact Caps.nil
  | (refine' Caps.free ?zl ?zk ?zr; (case zl => walk_at "look"); (case zk => rfl); (case zr => walk_at "caps"))
  | (refine' Caps.skip ?zn ?zr; (case zn => intro h; cases h); (case zr => walk_at "caps")))
local macro_rules | `(tactic| walk_at "tgs") => `(tactic| first
  | exact Tgs.nil
  | (refine' Tgs.cn ?zk ?zp ?zr; (case zk => rfl); (case zp => walk_at "put"); (case zr => walk_at "tgs")))
local macro_rules | `(tactic| walk_at "tg") => `(tactic| first
  | (refine' Tg.nm ?zk ?zp; (case zk => rfl); (case zp => walk_at "put"))
  | (refine' Tg.tup ?zh; (case zh => walk_at "tgs")))
local macro_rules | `(tactic| walk_at "cm") => `(tactic| first
  | exact Cm.nil
  | (refine' Cm.cons ?zt ?ze ?zr; (case zt => walk_at "tg"); (case ze => walk_at "evf"); (case zr => walk_at "cm")))
local macro_rules | `(tactic| walk_at "io") => `(tactic| first
  | (refine' Io.rng ?zf ?ze ?zp ?zq ?zh; (case zh => exact fun _ => rfl); (case zf => walk_at "ev"); (case ze => walk_at "ev"); (case zp => walk_at "side"); (case zq => rfl))
  | (refine' Io.list ?ze ?zc; (case ze => walk_at "ev"); (case zc => walk_at "cf")))
local macro_rules | `(tactic| walk_at "cf") => `(tactic| exact cf_all rfl)
local macro_rules | `(tactic| walk_at "size") => `(tactic| first | exact sz_le rfl | (simp only [dInts, List.length_append, List.length_cons, List.length_nil, List.length_map, List.length_range, sizeLine_eq]; omega))
local macro_rules | `(tactic| walk_at "evc") => `(tactic|
  (refine' EvF.comp ?zhn ?zhi ?zhc ?zhb ?zhk ?zhl ?zhd ?zhz ?zhs; (case zhs => exact fun _ _ => rfl); (case zhn => walk_at "pos"); (case zhi => walk_at "io"); (case zhc => walk_at "caps"); (case zhb => walk_at "cm"); (case zhk => rfl); (case zhl => decide +kernel); (case zhd => decide +kernel); (case zhz => walk_at "size")))
local macro_rules | `(tactic| walk_at "evf") => `(tactic| first
  | walk_at "evc"
  | (refine' EvF.call ?zhf ?zha ?zfn ?zhe; (case zhf => walk_at "ev"); (case zha => walk_at "evs"); (case zfn => walk_at "fnf"); (case zhe => exact fun _ => rfl))
  | (refine' EvF.int ?zh; (case zh => walk_at "ev")))
local macro_rules | `(tactic| walk_at "enter") => `(tactic| (
  first | refine' Fn.enterP ?ho ?hcd ?hb ?hl ?hkd ?hnd ?c1 ?c2 ?c3 ?body | refine' FnF.enterP ?ho ?hcd ?hb ?hl ?hkd ?hnd ?c1 ?c2 ?c3 ?body | refine' FnX.enterP ?ho ?hcd ?hb ?hl ?hkd ?hnd ?c1 ?c2 ?c3 ?body
  (case ho => k_is)
  (case hcd => k_is)
  (case hb => first | exact args1 (fun _ => rfl) | exact args2 (fun _ _ => rfl) | exact args3 (fun _ _ _ => rfl) | exact args4 (fun _ _ _ _ => rfl) | exact args5 (fun _ _ _ _ _ => rfl) | exact args8 (fun _ _ _ _ _ _ _ _ => rfl))
  (case hl => rfl)
  (case hkd => rfl)
  (case hnd => decide +kernel)
  (case c1 => rfl)
  (case c2 => rfl)
  (case c3 => rfl)
  (try dsimp only [List.map, List.zip, List.zipWith])))
example : hd.heap_1 = hd.heap_1 ∧ PySem.Challenge.rw_ln0031_02.row.prog = PySem.Challenge.rw_ln0031_02.row.prog := by
  k_fill
  exact ⟨rfl, rfl⟩
section
variable {w : World} {b n : Nat}
noncomputable def lsum (x y t r : Nat) : Nat := (x &&& r) + (y &&& r) ^^^ (x ^^^ y) &&& t
theorem c_sum {x y t r : Nat} : Fn w b (n + 2) (.val (.ref 324)) [.int x, .int y, .int t, .int r] (.int (lsum x y t r : Nat)) := by
  walk_at "enter"
  refine' Ex.ret ?h ?q
  case h => walk_at "ev"
  case q => rfl
noncomputable def ldif (x y t r : Nat) : Nat := ((x ||| t) - (y &&& r)) ^^^ ((x ^^^ y ^^^ t) &&& t)
theorem c_difference {x y t r : Nat} (h : y &&& r ≤ x ||| t) : Fn w b (n + 2) (.val (.ref 331)) [.int x, .int y, .int t, .int r] (.int (ldif x y t r : Nat)) := by
  walk_at "enter"
  refine' Ex.ret ?h ?q
  case h => walk_at "ev"
  case q => rfl
noncomputable def rep (W : Nat) : Nat := (2 ^ (3 * W) - 1) / (2 ^ W - 1)
theorem c_each {l W : Nat} (hl : l < 2 ^ 64) (hW : W = 8 ∨ W = 16 ∨ W = 64) : Fn w b (n + 2) (.val (.ref 312)) [.int l, .int W] (.int (l * rep W : Nat)) := by
  walk_at "enter"
  refine' Ex.ret ?h ?q
  case h => walk_at "ev"
  case q => rfl
end
section
local macro_rules | `(tactic| walk_at "fn") => `(tactic| exact c_sum)
local macro_rules | `(tactic| walk_at "fn") => `(tactic| (refine' c_each ?h1 ?h2; (case h1 => walk_at "side"); (case h2 => assumption)))
section
variable {w : World} {b n : Nat}
noncomputable def pstep (W x y t r : Nat) (tot p : Nat) : Nat := lsum ((tot &&& r) * 2) (x &&& (y / 2 ^ (W - 1 - p) &&& 1 * rep W) * (2 ^ W - 1)) t r
noncomputable def lprod (W x y t r : Nat) : Nat := (List.range W).foldl (pstep W x y t r) 0
theorem c_product {x y t r W : Nat} (hW : W = 8 ∨ W = 16 ∨ W = 64) : Fn w b (n + 4) (.val (.ref 338)) [.int x, .int y, .int W, .int t, .int r] (.int (lprod W x y t r : Nat)) := by
  have hW2 := wdb hW
  walk_at "enter"
  refine' Ex.asg ?h1 ?h2 ?h3 ?h4
  case h1 => walk_at "ev"
  case h2 => rfl
  case h3 => walk_at "put"
  case h4 =>
    refine' Ex.cons (Ex1.for_ ?hn ?hi ?hl) ?rest
    case hn => walk_at "pos"
    case hi =>
      refine' Io.range ?iF ?ie ?ip ?iq
      case iF => walk_at "ev"
      case ie => walk_at "ev"
      case ip => walk_at "pos"
      case iq => walk_at "pos"
    case hl =>
      rw [Int.toNat_natCast]
      refine Lp.fold (G := fun tot : Nat => [(Str.ofString "x", .int x), (Str.ofString "y", .int y), (Str.ofString "wide", .int W), (Str.ofString "tops", .int t), (Str.ofString "rest", .int r), (Str.ofString "total", .int tot)])
        (f := pstep W x y t r) (D' := fun i : Nat => .int (i : Int)) (List.range W) 0 fun tot p hp => ⟨_, Tg.name rfl, ?_⟩
      have hp := List.mem_range.mp hp
      simp only [put, ofs_inj, String.reduceEq, if_false, if_true]
      refine' Ex.pre ?sh ?ss
      case sh => walk_at "ex"
      case ss => rfl
    case rest =>
      refine' Ex.ret ?h ?q
      case h => walk_at "ev"
      case q => rfl
/-- the ones of each field, folded -/
noncomputable def ostep (W s x : Nat) : Nat := (x &&& (2 ^ (3 * W) - 1) / (2 ^ s + 1)) + (x / 2 ^ s &&& (2 ^ (3 * W) - 1) / (2 ^ s + 1))
noncomputable def ones (W x : Nat) : Nat := (iter (fun p : Nat × Nat => decide (p.1 < W)) (fun p => (2 * p.1, ostep W p.1 p.2)) 6 (1, x)).2
theorem c_ones {x W : Nat} (hW : W = 8 ∨ W = 16 ∨ W = 64) : Fn w b (n + 2) (.val (.ref 345)) [.int x, .int W] (.int (ones W x : Nat)) := by
  have hW2 := wdb hW
  walk_at "enter"
  refine' Ex.asg ?h1 ?h2 ?h3 ?h4
  case h1 => walk_at "ev"
  case h2 => rfl
  case h3 => walk_at "put"
  case h4 =>
    refine' Ex.cons (Ex1.while_ (Lw.iter (G := fun p : Nat × Nat => [(Str.ofString "number", .int (p.2 : Nat)), (Str.ofString "wide", .int W), (Str.ofString "step", .int (p.1 : Nat))])
      (c := fun p => decide (p.1 < W)) (f := fun p => (2 * p.1, ostep W p.1 p.2)) (P := fun p => p.1 ≤ 128) ?ht ?hb 6 (1, x) (by show (1:Nat) ≤ 128; decide) ?hc)) ?rest
    case ht =>
      rintro ⟨s, y⟩ hs
      refine' Ts.cmp ?t1 ?t2 ?t3 Co.ltN
      case t1 => walk_at "pos"
      case t2 => walk_at "ev"
      case t3 => walk_at "ev"
    case hb =>
      rintro ⟨s, y⟩ hs hc
      have hc := of_decide_eq_true hc
      dsimp only at hs hc ⊢
      refine' ⟨Ex.pre ?sh ?ss, ?sp⟩
      case sh => walk_at "ex"
      case ss => rfl
      case sp => walk_at "pos"
    case hc => rcases hW with rfl | rfl | rfl <;> simp [iter]
    case rest =>
      refine' Ex.ret ?h ?q
      case h => walk_at "ev"
      case q => rfl
noncomputable def sstep (W s x : Nat) : Nat := x ||| (x / 2 ^ s &&& (2 ^ (W - s) - 1) * rep W)
noncomputable def smeared (W x : Nat) : Nat := (iter (fun p : Nat × Nat => decide (p.1 < W)) (fun p => (2 * p.1, sstep W p.1 p.2)) 6 (1, x)).2
theorem c_smeared {x W : Nat} (hW : W = 8 ∨ W = 16 ∨ W = 64) : Fn w b (n + 4) (.val (.ref 352)) [.int x, .int W] (.int (smeared W x : Nat)) := by
  have hW2 := wdb hW
  walk_at "enter"
  refine' Ex.asg ?h1 ?h2 ?h3 ?h4
  case h1 => walk_at "ev"
  case h2 => rfl
  case h3 => walk_at "put"
  case h4 =>
    refine' Ex.cons (Ex1.while_ (Lw.iter (G := fun p : Nat × Nat => [(Str.ofString "number", .int (p.2 : Nat)), (Str.ofString "wide", .int W), (Str.ofString "step", .int (p.1 : Nat))])
      (c := fun p => decide (p.1 < W)) (f := fun p => (2 * p.1, sstep W p.1 p.2)) (P := fun p => p.1 ≤ 128) ?ht ?hb 6 (1, x) (by show (1:Nat) ≤ 128; decide) ?hc)) ?rest
    case ht =>
      rintro ⟨s, y⟩ hs
      refine' Ts.cmp ?t1 ?t2 ?t3 Co.ltN
      case t1 => walk_at "pos"
      case t2 => walk_at "ev"
      case t3 => walk_at "ev"
    case hb =>
      rintro ⟨s, y⟩ hs hc
      have hc := of_decide_eq_true hc
      dsimp only at hs hc ⊢
      refine' ⟨Ex.pre ?sh ?ss, ?sp⟩
      case sh => walk_at "ex"
      case ss => rfl
      case sp => walk_at "pos"
    case hc => rcases hW with rfl | rfl | rfl <;> simp [iter]
    case rest =>
      refine' Ex.ret ?h ?q
      case h => walk_at "ev"
      case q => rfl
end
end
section
section
variable {w : World} {b n : Nat} {sc : Scope} {Γ : List (Str × D)}
noncomputable def sgn (W : Nat) (sg : Bool) (l : Nat) : Int := if (sg && decide (2 ^ (W - 1) ≤ l)) = true then (l : Int) - ((2 ^ W : Nat) : Int) else l
theorem sgn_pos {W : Nat} {sg : Bool} {l : Nat} (h : (sg && decide (2 ^ (W - 1) ≤ l)) = true) : sgn W sg l = (l : Int) - ((2 ^ W : Nat) : Int) := if_pos h
theorem sgn_neg {W : Nat} {sg : Bool} {l : Nat} (h : (sg && decide (2 ^ (W - 1) ≤ l)) = false) : sgn W sg l = l := if_neg (by rw [h]; decide)
local macro_rules | `(tactic| walk_at "lane") => `(tactic| first
  | exact Cm.nil
  | (refine' Cm.cons ?y1 (EvF.int (Ev.ife (Ts.and2 (Ts.val (Ev.name ?x1)) fun _ => Ts.cmp ?x2 ?x3 ?x4 Co.geN) (fun hq => Ev.conv ?x5 (congrArg D.int (sgn_pos hq).symm)) (fun hq => Ev.conv ?x6 (congrArg D.int (sgn_neg hq).symm)))) ?y3
     (case y1 => walk_at "tg")
     (case x1 => walk_at "look")
     (case x2 => walk_at "pos")
     (case x3 => walk_at "ev")
     (case x4 => walk_at "ev")
     (case x5 => walk_at "ev")
     (case x6 => walk_at "ev")
     (case y3 => walk_at "lane")))
theorem c_lanes {x W : Nat} {sg : Bool} (hW : W = 8 ∨ W = 16 ∨ W = 64) : FnF w b (n + 2) (.val (.ref 317)) [.int x, .int W, .bool sg] (.list ([x / 2 ^ (W * 0) % 2 ^ W, x / 2 ^ (W * 1) % 2 ^ W, x / 2 ^ (W * 2) % 2 ^ W].map fun l => .int (sgn W sg l))) := by
  have hW2 := wdb hW
  walk_at "enter"
  refine' Ex.cons (Ex1.assignComp ?hn ?hi ?hc ?hb ?hk ?hl ?hd ?hz ?hx ?hs) ?rest
  case hn => walk_at "pos"
  case hi =>
    refine' Io.rng ?f1 ?f2 ?f3 ?f4
    case f1 => walk_at "ev"
    case f2 => walk_at "ev"
    case f3 => walk_at "pos"
    case f4 => rfl
  case hc => walk_at "caps"
  case hb => walk_at "cm"
  case hk => rfl
  case hl => decide +kernel
  case hd => decide +kernel
  case hz => walk_at "size"
  case hx => rfl
  case hs => rfl
  case rest =>
    simp only [put, ofs_inj, String.reduceEq, if_false, if_true]
    refine' Ex.leave (Ex1.retF ?e) ?l
    case l => intro _ h; cases h
    case e =>
      refine' EvF.comp ?gn ?gi ?gc ?gb ?gk ?gl ?gd ?gz
      case gn => walk_at "pos"
      case gi =>
        refine' Io.list ?i1 ?i2
        case i1 => walk_at "ev"
        case i2 => intro d hd; simp only [List.mem_cons, List.not_mem_nil, or_false] at hd; rcases hd with rfl | rfl | rfl <;> exact Cf.int _
      case gc => walk_at "caps"
      case gb =>
        walk_at "lane"
      case gk => rfl
      case gl => decide +kernel
      case gd => decide +kernel
      case gz => walk_at "size"
end
end
section
section
variable {w : World} {b n : Nat}
noncomputable def hiK (sg : Bool) (W : Nat) : Int := if sg = true then 2 ^ (W - 1) - 1 else 2 ^ W - 1
noncomputable def loK (sg : Bool) (W : Nat) : Int := if sg = true then -2 ^ (W - 1) else 0
def fnA (sg : Bool) (i u : Addr) : Addr := if sg = true then i else u
/-- one of the top's objects -/
structure Kd (w : World) (b : Nat) (a : Addr) (sg : Bool) (sz : Nat) : Prop where
  hs : sz = 1 ∨ sz = 2 ∨ sz = 8
  bl : Attr w b a (Str.ofString "bits_length") ((8 * sz : Nat) : Int)
  by_ : Attr w b a (Str.ofString "byte_length") (sz : Int)
  mask : Attr w b a (Str.ofString "mask") (2 ^ (8 * sz) - 1)
  ms : Attr w b a (Str.ofString "mask_sign") (2 ^ (8 * sz - 1))
  mx : Attr w b a (Str.ofString "max") (hiK sg (8 * sz))
  mn : Attr w b a (Str.ofString "min") (loK sg (8 * sz))
  from_ : Meth w b a (Str.ofString "from_bytearray") (fnA sg 42 154)
  into : Meth w b a (Str.ofString "into_bytearray") (fnA sg 49 161)
  fit : Meth w b a (Str.ofString "fit") (fnA sg 56 168)
  sat : Meth w b a (Str.ofString "sat") (fnA sg 63 175)
  add : Meth w b a (Str.ofString "add") (fnA sg 70 182)
  adds : Meth w b a (Str.ofString "add_sat") (fnA sg 77 189)
  sub : Meth w b a (Str.ofString "sub") (fnA sg 84 196)
  subs : Meth w b a (Str.ofString "sub_sat") (fnA sg 91 203)
  mul : Meth w b a (Str.ofString "mul") (fnA sg 98 210)
  shl : Meth w b a (Str.ofString "shl") (fnA sg 119 231)
  shr : Meth w b a (Str.ofString "shr") (fnA sg 126 238)
  rotl : sg = false → Meth w b a (Str.ofString "rotl") 245
  rotr : sg = false → Meth w b a (Str.ofString "rotr") 252
  clz : sg = false → Meth w b a (Str.ofString "clz") 259
  ctz : sg = false → Meth w b a (Str.ofString "ctz") 266
  pop : sg = false → Meth w b a (Str.ofString "popcnt") 273
local macro_rules | `(tactic| walk_at "attr") => `(tactic| (refine' Attr.of ?za ?zb ?zc ?zd ?ze ?zf ?zg; (case za => k_is); (case zb => k_is); (case zc => k_is); (case zd => k_is); (case ze => k_is); (case zf => k_is); (case zg => rfl)))
local macro_rules | `(tactic| walk_at "meth") => `(tactic| (refine' Meth.of ?za ?zb ?zc ?zd ?ze ?zf; (case za => k_is); (case zb => k_is); (case zc => k_is); (case zd => k_is); (case ze => k_is); (case zf => rfl)))
theorem k_i8 : Kd w b 282 true 1 := by
  refine ⟨by decide, ?_, ?_, ?_, ?_, ?_, ?_, ?_, ?_, ?_, ?_, ?_, ?_, ?_, ?_, ?_, ?_, ?_, ?_, ?_, ?_, ?_, ?_⟩
  iterate 6 (walk_at "attr")
  iterate 11 (walk_at "meth")
  iterate 5 (intro h; cases h)
theorem k_u8 : Kd w b 285 false 1 := by
  refine ⟨by decide, ?_, ?_, ?_, ?_, ?_, ?_, ?_, ?_, ?_, ?_, ?_, ?_, ?_, ?_, ?_, ?_, ?_, ?_, ?_, ?_, ?_, ?_⟩
  iterate 6 (walk_at "attr")
  iterate 11 (walk_at "meth")
  iterate 5 (intro _; walk_at "meth")
theorem k_i16 : Kd w b 288 true 2 := by
  refine ⟨by decide, ?_, ?_, ?_, ?_, ?_, ?_, ?_, ?_, ?_, ?_, ?_, ?_, ?_, ?_, ?_, ?_, ?_, ?_, ?_, ?_, ?_, ?_⟩
  iterate 6 (walk_at "attr")
  iterate 11 (walk_at "meth")
  iterate 5 (intro h; cases h)
theorem k_u16 : Kd w b 291 false 2 := by
  refine ⟨by decide, ?_, ?_, ?_, ?_, ?_, ?_, ?_, ?_, ?_, ?_, ?_, ?_, ?_, ?_, ?_, ?_, ?_, ?_, ?_, ?_, ?_, ?_⟩
  iterate 6 (walk_at "attr")
  iterate 11 (walk_at "meth")
  iterate 5 (intro _; walk_at "meth")
theorem k_i64 : Kd w b 294 true 8 := by
  refine ⟨by decide, ?_, ?_, ?_, ?_, ?_, ?_, ?_, ?_, ?_, ?_, ?_, ?_, ?_, ?_, ?_, ?_, ?_, ?_, ?_, ?_, ?_, ?_⟩
  iterate 6 (walk_at "attr")
  iterate 11 (walk_at "meth")
  iterate 5 (intro h; cases h)
theorem k_u64 : Kd w b 297 false 8 := by
  refine ⟨by decide, ?_, ?_, ?_, ?_, ?_, ?_, ?_, ?_, ?_, ?_, ?_, ?_, ?_, ?_, ?_, ?_, ?_, ?_, ?_, ?_, ?_, ?_⟩
  iterate 6 (walk_at "attr")
  iterate 11 (walk_at "meth")
  iterate 5 (intro _; walk_at "meth")
end
end
local macro_rules | `(tactic| walk_at "kattr") => `(tactic| first
  | with_reducible exact Kd.bl (by assumption) | with_reducible exact Kd.mask (by assumption) | with_reducible exact Kd.ms (by assumption) | with_reducible exact Kd.by_ (by assumption) | with_reducible exact Kd.mx (by assumption) | with_reducible exact Kd.mn (by assumption))
local macro_rules | `(tactic| walk_at "kmeth") => `(tactic| first
  | with_reducible exact Kd.fit (by assumption) | with_reducible exact Kd.sat (by assumption) | with_reducible exact Kd.add (by assumption) | with_reducible exact Kd.adds (by assumption) | with_reducible exact Kd.sub (by assumption) | with_reducible exact Kd.subs (by assumption) | with_reducible exact Kd.mul (by assumption)
  | with_reducible exact Kd.shl (by assumption) | with_reducible exact Kd.shr (by assumption) | with_reducible exact Kd.rotl (by assumption) rfl | with_reducible exact Kd.rotr (by assumption) rfl | with_reducible exact Kd.clz (by assumption) rfl | with_reducible exact Kd.ctz (by assumption) rfl | with_reducible exact Kd.pop (by assumption) rfl
  | with_reducible exact Kd.from_ (by assumption) | with_reducible exact Kd.into (by assumption))
local macro_rules | `(tactic| walk_at "ev") => `(tactic| first
  | (refine' Ev.attrM ?z1 ?z2 ?z3; (case z1 => walk_at "mem"); (case z2 => walk_at "kattr"); (case z3 => decide))
  | (refine' Ev.attr ?z1 ?z2 ?z3; (case z1 => walk_at "look"); (case z2 => walk_at "kattr"); (case z3 => decide))
  | (refine' Ev.meth ?z1 ?z2 ?z3 ?z4 ?z5 ?z6; (case z1 => walk_at "ev"); (case z2 => walk_at "kmeth"); (case z3 => walk_at "evs"); (case z4 => walk_at "fn"); (case z5 => exact fun _ => ⟨_, rfl⟩); (case z6 => exact fun _ => rfl)))
local macro_rules | `(tactic| walk_at "ev") => `(tactic| first
  | (refine' EvF.ev ?zc; (case zc => walk_at "evc"))
  | (refine' Ev.list ?za ?zb; (case za => walk_at "evs"); (case zb => walk_at "size")))
section
section
variable {w : World} {b n : Nat} {a : Addr} {sg : Bool} {sz : Nat}
noncomputable def wrapS (W : Nat) (x : Int) : Int := x % 2 ^ W - (x % 2 ^ W / 2 ^ (W - 1) % 2 * 2 ^ (W - 1)) * 2
noncomputable def wrap (sg : Bool) (W : Nat) (x : Int) : Int := if sg = true then wrapS W x else x % 2 ^ W
theorem Kd.w64 (K : Kd w b a sg sz) : 8 * sz = 8 ∨ 8 * sz = 16 ∨ 8 * sz = 64 := by have := K.hs; omega
theorem p2 (k : Nat) : (2 : Int) ^ k = ((2 ^ k : Nat) : Int) := by rw [Int.natCast_pow]; rfl
theorem c_fit {x : Int} (K : Kd w b a sg sz) : Fn w b (n + 2) (.val (.ref (fnA sg 56 168))) [.val (.ref a), .int x] (.int (wrap sg (8 * sz) x)) := by
  cases sg with
  | false =>
    show Fn w b (n + 2) (.val (.ref 168)) _ _
    walk_at "enter"
    refine' Ex.ret ?h ?q
    case h => walk_at "ev"
    case q => exact congrArg D.int (kbt_mask _ _)
  | true =>
    show Fn w b (n + 2) (.val (.ref 56)) _ _
    walk_at "enter"
    refine' Ex.asg ?h1 ?h2 ?h3 ?h4
    case h1 => walk_at "ev"
    case h2 => rfl
    case h3 => walk_at "put"
    case h4 =>
      rw [kbt_mask]
      refine' Ex.asg ?g1 ?g2 ?g3 ?g4
      case g1 =>
        refine' Ev.bin (by omega) ?g5 (Ev.bin (by omega) ?g6 ?g7 (Bo.shl ?g8 ?g9)) Bo.sub
        case g5 => walk_at "ev"
        case g6 => walk_at "ev"
        case g7 => walk_at "ev"
        case g8 => decide
        case g9 =>
          rw [kbt_bit]
          have hW := K.w64
          have hW2 := wdb hW
          have h0 : 0 ≤ x % 2 ^ (8 * sz) / 2 ^ (8 * sz - 1) % 2 ∧ x % 2 ^ (8 * sz) / 2 ^ (8 * sz - 1) % 2 < 2 := ⟨Int.emod_nonneg _ (by decide), Int.emod_lt_of_pos _ (by decide)⟩
          have h1 : Builtin.Int.intBits (x % 2 ^ (8 * sz) / 2 ^ (8 * sz - 1) % 2 * 2 ^ (8 * sz - 1)) ≤ 2 + 64 := intBits_mul_le (bits_lt (by omega)) (bits_lt (by rw [p2, Int.natAbs_natCast]; exact pw64 (by omega)))
          omega
      case g2 => rfl
      case g3 => walk_at "put"
      case g4 =>
        refine' Ex.ret ?h ?q
        case h => walk_at "ev"
        case q => rw [kbt_bit]; rfl
noncomputable def clampK (lo hi x : Int) : Int := if lo > (if hi < x then hi else x) then lo else (if hi < x then hi else x)
local macro_rules | `(tactic| walk_at "fn") => `(tactic| first | with_reducible exact Fn.min (by omega) | with_reducible exact Fn.max (by omega))
local macro_rules | `(tactic| walk_at "fn") => `(tactic| exact c_fit (by assumption))
theorem c_sat {x : Int} (K : Kd w b a sg sz) : Fn w b (n + 2) (.val (.ref (fnA sg 63 175))) [.val (.ref a), .int x] (.int (clampK (loK sg (8 * sz)) (hiK sg (8 * sz)) x)) := by
  cases sg with
  | false =>
    show Fn w b (n + 2) (.val (.ref 175)) _ _
    walk_at "enter"
    refine' Ex.ret ?h ?q
    case h => walk_at "ev"
    case q => rfl
  | true =>
    show Fn w b (n + 2) (.val (.ref 63)) _ _
    walk_at "enter"
    refine' Ex.ret ?h ?q
    case h => walk_at "ev"
    case q => rfl
local macro_rules | `(tactic| walk_at "fn") => `(tactic| with_reducible exact c_sat (by assumption))
theorem c_add {x y : Int} (K : Kd w b a sg sz) : Fn w b (n + 4) (.val (.ref (fnA sg 70 182))) [.val (.ref a), .int x, .int y] (.int (wrap sg (8 * sz) (x + y))) := by
  cases sg with
  | false =>
    show Fn w b (n + 4) (.val (.ref 182)) _ _
    walk_at "enter"
    refine' Ex.ret ?h ?q
    case h => walk_at "ev"
    case q => rfl
  | true =>
    show Fn w b (n + 4) (.val (.ref 70)) _ _
    walk_at "enter"
    refine' Ex.ret ?h ?q
    case h => walk_at "ev"
    case q => rfl
theorem c_sub {x y : Int} (K : Kd w b a sg sz) : Fn w b (n + 4) (.val (.ref (fnA sg 84 196))) [.val (.ref a), .int x, .int y] (.int (wrap sg (8 * sz) (x - y))) := by
  cases sg with
  | false =>
    show Fn w b (n + 4) (.val (.ref 196)) _ _
    walk_at "enter"
    refine' Ex.ret ?h ?q
    case h => walk_at "ev"
    case q => rfl
  | true =>
    show Fn w b (n + 4) (.val (.ref 84)) _ _
    walk_at "enter"
    refine' Ex.ret ?h ?q
    case h => walk_at "ev"
    case q => rfl
theorem c_adds {x y : Int} (K : Kd w b a sg sz) : Fn w b (n + 4) (.val (.ref (fnA sg 77 189))) [.val (.ref a), .int x, .int y] (.int (clampK (loK sg (8 * sz)) (hiK sg (8 * sz)) (x + y))) := by
  cases sg with
  | false =>
    show Fn w b (n + 4) (.val (.ref 189)) _ _
    walk_at "enter"
    refine' Ex.ret ?h ?q
    case h => walk_at "ev"
    case q => rfl
  | true =>
    show Fn w b (n + 4) (.val (.ref 77)) _ _
    walk_at "enter"
    refine' Ex.ret ?h ?q
    case h => walk_at "ev"
    case q => rfl
theorem c_subs {x y : Int} (K : Kd w b a sg sz) : Fn w b (n + 4) (.val (.ref (fnA sg 91 203))) [.val (.ref a), .int x, .int y] (.int (clampK (loK sg (8 * sz)) (hiK sg (8 * sz)) (x - y))) := by
  cases sg with
  | false =>
    show Fn w b (n + 4) (.val (.ref 203)) _ _
    walk_at "enter"
    refine' Ex.ret ?h ?q
    case h => walk_at "ev"
    case q => rfl
  | true =>
    show Fn w b (n + 4) (.val (.ref 91)) _ _
    walk_at "enter"
    refine' Ex.ret ?h ?q
    case h => walk_at "ev"
    case q => rfl
local macro_rules | `(tactic| walk_at "bo") => `(tactic| exact Bo.mul (.of_left (by assumption)))
theorem c_mul {x y : Int} (K : Kd w b a sg sz) (hx : Builtin.Int.intBits x ≤ 64) : Fn w b (n + 4) (.val (.ref (fnA sg 98 210))) [.val (.ref a), .int x, .int y] (.int (wrap sg (8 * sz) (x * y))) := by
  cases sg with
  | false =>
    show Fn w b (n + 4) (.val (.ref 210)) _ _
    walk_at "enter"
    refine' Ex.ret ?h ?q
    case h => walk_at "ev"
    case q => rfl
  | true =>
    show Fn w b (n + 4) (.val (.ref 98)) _ _
    walk_at "enter"
    refine' Ex.ret ?h ?q
    case h => walk_at "ev"
    case q => rfl
end
end
section
section
variable {w : World} {b n : Nat} {a : Addr} {sg : Bool} {sz : Nat} {sc : Scope} {Γ : List (Str × D)}
theorem Bo.shlI {x : Int} {m : Nat} (h : Builtin.Int.intBits x ≤ 1000) (hm : m < 1000) : Bo w b .LShift (.int x) (.int (m : Int)) (.int (x * 2 ^ m)) := by
  have := Bo.shl (w := w) (b := b) (x := x) (y := (m : Int)) (by omega) (by omega)
  rw [Int.toNat_natCast] at this; exact this
theorem Bo.shrI {x : Int} {m : Nat} : Bo w b .RShift (.int x) (.int (m : Int)) (.int (x / 2 ^ m)) := by
  have := Bo.shr (w := w) (b := b) (x := x) (y := (m : Int)) (by omega)
  rw [Int.toNat_natCast] at this; exact this
theorem Bo.shlN {x m : Nat} (h : x < 2 ^ 1000) (hm : m < 1000) : Bo w b .LShift (.int (x : Int)) (.int (m : Int)) (.int ((x * 2 ^ m : Nat) : Int)) := by
  rw [Int.natCast_mul, Int.natCast_pow]; exact Bo.shlI (bits_lt (by simpa using h)) hm
theorem Bo.shrN {x m : Nat} : Bo w b .RShift (.int (x : Int)) (.int (m : Int)) (.int ((x / 2 ^ m : Nat) : Int)) := by
  rw [Int.natCast_ediv, Int.natCast_pow]; exact Bo.shrI
theorem Co.neN {x y : Nat} : Co w b .NotEq (.int x) (.int y) (x != y) := by
  have := Co.ne (w := w) (b := b) (x := (x : Int)) (y := (y : Int))
  rw [show ((x : Int) != (y : Int)) = (x != y) by rw [Bool.eq_iff_iff]; simp only [bne_iff_ne, ne_eq]; omega] at this; exact this
theorem Co.eqN {x y : Nat} : Co w b .Eq (.int x) (.int y) (x == y) := by
  have := Co.eq (w := w) (b := b) (x := (x : Int)) (y := (y : Int))
  rw [show ((x : Int) == (y : Int)) = (x == y) by rw [Bool.eq_iff_iff]; simp only [beq_iff_eq]; omega] at this; exact this
theorem Kd.maskN (K : Kd w b a sg sz) : Attr w b a (Str.ofString "mask") ((2 ^ (8 * sz) - 1 : Nat) : Int) := by
  rw [Int.ofNat_sub Nat.one_le_two_pow, Int.natCast_pow]; exact K.mask
theorem Kd.msN (K : Kd w b a sg sz) : Attr w b a (Str.ofString "mask_sign") ((2 ^ (8 * sz - 1) : Nat) : Int) := by
  rw [Int.natCast_pow]; exact K.ms
theorem Ex.aug {x : Str} {e : Expr} {pos pos' : Pos} {i j : Nat} {Γ' : List (Str × D)} {rest : List Stmt} {o : Out} (hx : look x Γ = some (.int (i : Int))) (h : Ev w b n sc Γ e (.int (j : Int))) (hk : sc.names.lookup x = some .local)
    (hp : put x (.int ((i + j : Nat) : Int)) Γ = Γ') (r : Ex w b n sc Γ' rest o) : Ex w b n sc Γ (.AugAssign (.Name x pos') .Add e pos :: rest) o := by
  have := Ex1.augAdd (pos := pos) (pos' := pos') hx h hk
  rw [← Int.natCast_add, hp] at this
  exact Ex.cons this r
theorem Ex.preB {ss : List Stmt} {Γ₁ Γ₂ ex : List (Str × D)} (h : Ex w b n sc Γ ss (.bk Γ₁)) (e : Γ₁ = Γ₂ ++ ex) : Ex w b n sc Γ ss (.bk Γ₂) := by
  subst e
  refine ⟨fun env outer g A s Q E ax st q => h.run env outer g A s Q E ax st fun fl h' k ok => q fl h' k ?_⟩
  cases fl with
  | brk => exact St.drop ok (fun p hp => List.mem_append_left _ hp) (by have := ok.nd; rw [List.map_append] at this; exact (List.nodup_append.mp this).1)
  | _ => exact ok.elim
theorem and_pred {sz c : Nat} (hs : sz = 1 ∨ sz = 2 ∨ sz = 8) : c &&& (8 * sz - 1) = c % (8 * sz) := by
  rcases hs with rfl | rfl | rfl
  · exact Nat.and_two_pow_sub_one_eq_mod c 3
  · exact Nat.and_two_pow_sub_one_eq_mod c 4
  · exact Nat.and_two_pow_sub_one_eq_mod c 6
local macro_rules | `(tactic| walk_at "fn") => `(tactic| with_reducible exact c_fit (by assumption))
theorem c_shl {x : Int} {c : Nat} (K : Kd w b a sg sz) (hx : Builtin.Int.intBits x ≤ 64) : Fn w b (n + 4) (.val (.ref (fnA sg 119 231))) [.val (.ref a), .int x, .int (c : Int)] (.int (wrap sg (8 * sz) (x * 2 ^ (c % (8 * sz))))) := by
  have hs := K.hs
  have hs2 := szb hs
  have hc : c &&& (8 * sz - 1) < 1000 := by rw [and_pred hs]; have := Nat.mod_lt c (show 0 < 8 * sz by omega); omega
  rw [← and_pred hs]
  cases sg with
  | false =>
    show Fn w b (n + 4) (.val (.ref 231)) _ _
    walk_at "enter"
    refine' Ex.ret (Ev.meth ?z1 ?z2 (Evs.cons (Ev.bin ?z3 ?z4 ?z5 (Bo.shlI ?z6 ?z7)) Evs.nil) ?z8) rfl
    case z1 => walk_at "ev"
    case z2 => walk_at "kmeth"
    case z3 => walk_at "pos"
    case z4 => walk_at "ev"
    case z5 => walk_at "ev"
    case z6 => walk_at "pos"
    case z7 => exact hc
    case z8 => walk_at "fn"
  | true =>
    show Fn w b (n + 4) (.val (.ref 119)) _ _
    walk_at "enter"
    refine' Ex.ret (Ev.meth ?z1 ?z2 (Evs.cons (Ev.bin ?z3 ?z4 ?z5 (Bo.shlI ?z6 ?z7)) Evs.nil) ?z8) rfl
    case z1 => walk_at "ev"
    case z2 => walk_at "kmeth"
    case z3 => walk_at "pos"
    case z4 => walk_at "ev"
    case z5 => walk_at "ev"
    case z6 => walk_at "pos"
    case z7 => exact hc
    case z8 => walk_at "fn"
theorem c_shr {x : Int} {c : Nat} (K : Kd w b a sg sz) : Fn w b (n + 4) (.val (.ref (fnA sg 126 238))) [.val (.ref a), .int x, .int (c : Int)] (.int (wrap sg (8 * sz) (x / 2 ^ (c % (8 * sz))))) := by
  have hs := K.hs
  have hs2 := szb hs
  rw [← and_pred hs]
  cases sg with
  | false =>
    show Fn w b (n + 4) (.val (.ref 238)) _ _
    walk_at "enter"
    refine' Ex.ret (Ev.meth ?z1 ?z2 (Evs.cons (Ev.bin ?z3 ?z4 ?z5 Bo.shrI) Evs.nil) ?z8) rfl
    case z1 => walk_at "ev"
    case z2 => walk_at "kmeth"
    case z3 => walk_at "pos"
    case z4 => walk_at "ev"
    case z5 => walk_at "ev"
    case z8 => walk_at "fn"
  | true =>
    show Fn w b (n + 4) (.val (.ref 126)) _ _
    walk_at "enter"
    refine' Ex.ret (Ev.meth ?z1 ?z2 (Evs.cons (Ev.bin ?z3 ?z4 ?z5 Bo.shrI) Evs.nil) ?z8) rfl
    case z1 => walk_at "ev"
    case z2 => walk_at "kmeth"
    case z3 => walk_at "pos"
    case z4 => walk_at "ev"
    case z5 => walk_at "ev"
    case z8 => walk_at "fn"
theorem lt1000 {x : Nat} (h : x < 2 ^ 64) : x < 2 ^ 1000 := Nat.lt_trans h (pw (by decide))
theorem c_rotl {x c : Nat} (K : Kd w b a false sz) (hx : x < 2 ^ 64) : Fn w b (n + 2) (.val (.ref 245)) [.val (.ref a), .int (x : Int), .int (c : Int)] (.int (((x * 2 ^ (c % (8 * sz)) &&& 2 ^ (8 * sz) - 1) ||| x / 2 ^ (8 * sz - c % (8 * sz)) : Nat) : Int)) := by
  have hs := K.hs
  have hs2 := szb hs
  have hm := Nat.mod_lt c (show 0 < 8 * sz by omega)
  walk_at "enter"
  refine' Ex.asg ?h1 ?h2 ?h3 ?h4
  case h1 => walk_at "ev"
  case h2 => rfl
  case h3 => walk_at "put"
  case h4 =>
    refine' Ex.ret (Ev.bin ?z1 (Ev.bin ?z2 (Ev.bin ?z3 ?z4 ?z5 (Bo.shlN (lt1000 hx) ?z6)) (Ev.attr ?z7 K.maskN) Bo.andN) (Ev.bin ?y1 ?y2 ?y3 Bo.shrN) Bo.orN) rfl
    case z1 => walk_at "pos"
    case z2 => walk_at "pos"
    case z3 => walk_at "pos"
    case z4 => walk_at "ev"
    case z5 => walk_at "ev"
    case z6 => walk_at "pos"
    case z7 => walk_at "look"
    case y1 => walk_at "pos"
    case y2 => walk_at "ev"
    case y3 => walk_at "ev"
theorem c_rotr {x c : Nat} (K : Kd w b a false sz) (hx : x < 2 ^ 64) : Fn w b (n + 2) (.val (.ref 252)) [.val (.ref a), .int (x : Int), .int (c : Int)] (.int ((x / 2 ^ (c % (8 * sz)) ||| (x * 2 ^ (8 * sz - c % (8 * sz)) &&& 2 ^ (8 * sz) - 1) : Nat) : Int)) := by
  have hs := K.hs
  have hs2 := szb hs
  have hm := Nat.mod_lt c (show 0 < 8 * sz by omega)
  walk_at "enter"
  refine' Ex.asg ?h1 ?h2 ?h3 ?h4
  case h1 => walk_at "ev"
  case h2 => rfl
  case h3 => walk_at "put"
  case h4 =>
    refine' Ex.ret (Ev.bin ?z1 (Ev.bin ?y1 ?y2 ?y3 Bo.shrN) (Ev.bin ?z2 (Ev.bin ?z3 ?z4 ?z5 (Bo.shlN (lt1000 hx) ?z6)) (Ev.attr ?z7 K.maskN) Bo.andN) Bo.orN) rfl
    case z1 => walk_at "pos"
    case z2 => walk_at "pos"
    case z3 => walk_at "pos"
    case z4 => walk_at "ev"
    case z5 => walk_at "ev"
    case z6 => walk_at "pos"
    case z7 => walk_at "look"
    case y1 => walk_at "pos"
    case y2 => walk_at "ev"
    case y3 => walk_at "ev"
end
end
section
section
variable {w : World} {b n : Nat} {a : Addr} {sg : Bool} {sz : Nat} {sc : Scope} {Γ : List (Str × D)}
theorem Lp.iter {α : Type} {t : Expr} {body : List Stmt} {G : α → List (Str × D)} {c : α → Bool} {f : α → α} {P : Nat → α → Prop}
    (hb : ∀ k s d, P (k + 1) s → c s = false → ∃ Γ', Tg w b sc (G s) t d Γ' ∧ Ex w b n sc Γ' body (.bk (G s)))
    (hn : ∀ k s d, P (k + 1) s → c s = true → ∃ Γ', Tg w b sc (G s) t d Γ' ∧ Ex w b n sc Γ' body (.nx (G (f s))) ∧ P k (f s)) : ∀ (l : List D) (s : α), P l.length s → Lp w b n sc t body l (G s) (.nx (G (Mine.iter c f l.length s)))
  | [], s, _ => .nil
  | d :: l, s, p => by
    show Lp w b n sc t body (d :: l) (G s) (.nx (G (if c s then Mine.iter c f l.length (f s) else s)))
    cases h : c s with
    | true =>
      obtain ⟨Γ', h1, h2, h3⟩ := hn _ s d p h
      exact .next h1 h2 (Lp.iter hb hn l (f s) h3)
    | false =>
      obtain ⟨Γ', h1, h2⟩ := hb _ s d p h
      exact .brk h1 h2
noncomputable def clzN (W x : Nat) : Nat := (iter (fun s : Nat × Nat => !((s.1 &&& 2 ^ (W - 1)) != 0)) (fun s => (s.1 * 2 ^ 1, s.2 + 1)) W (x, 0)).2
noncomputable def ctzN (W x : Nat) : Nat := (iter (fun s : Nat × Nat => !((s.1 &&& 1) != 0)) (fun s => (s.1 / 2 ^ 1, s.2 + 1)) W (x, 0)).2
noncomputable def popN (W x : Nat) : Nat := ((List.range W).foldl (fun (s : Nat × Nat) _ => (s.1 / 2 ^ 1, if ((s.1 &&& 1) != 0) = true then s.2 + 1 else s.2)) (x, 0)).2
theorem c_clz {x : Nat} (K : Kd w b a false sz) (hx : x < 2 ^ 64) : Fn w b (n + 2) (.val (.ref 259)) [.val (.ref a), .int (x : Int)] (.int (clzN (8 * sz) x : Nat)) := by
  have hs := K.hs
  have hs2 := szb hs
  walk_at "enter"
  refine' Ex.asg ?h1 ?h2 ?h3 ?h4
  case h1 => walk_at "ev"
  case h2 => rfl
  case h3 => walk_at "put"
  case h4 =>
    refine' Ex.cons (Ex1.for_ ?hn (Io.rng ?if1 ?if2 ?if3 rfl) (Lp.iter (w := w) (b := b) (n := n + 1) (G := fun s : Nat × Nat => [(Str.ofString "self", .val (.ref a)), (Str.ofString "a", .int (s.1 : Int)), (Str.ofString "b", .int (s.2 : Int))]) (c := fun s => !((s.1 &&& 2 ^ (8 * sz - 1)) != 0)) (f := fun s => (s.1 * 2 ^ 1, s.2 + 1)) (P := fun k s => s.1 < 2 ^ (64 + s.2) ∧ s.2 + k ≤ 64) ?hb ?hn2 _ (x, 0) ?hp)) ?rest
    case hn => walk_at "pos"
    case if1 => walk_at "ev"
    case if2 => walk_at "ev"
    case if3 => walk_at "pos"
    case hb =>
      rintro k ⟨y, i⟩ d ⟨p1, p2⟩ hc
      refine' ⟨_, Tg.nm ?u1 ?u2, Ex.preB (Ex.leave (Ex1.ifs (t := true) (Ts.conv (Ts.cmp ?u3 (Ev.bin ?u4 ?u5 (Ev.attr ?u6 K.msN) Bo.andN) ?u7 Co.neN) ?u8) (fun _ => Ex.leave Ex1.brk ?u9) (fun h => by cases h)) ?u10) ?u11⟩
      case u1 => rfl
      case u2 => walk_at "put"
      case u3 => walk_at "pos"
      case u4 => walk_at "pos"
      case u5 => walk_at "ev"
      case u6 => walk_at "look"
      case u7 => walk_at "ev"
      case u8 => simpa using hc
      case u9 => intro _ h; cases h
      case u10 => intro _ h; cases h
      case u11 => rfl
    case hn2 =>
      rintro k ⟨y, i⟩ d ⟨p1, p2⟩ hc
      dsimp only at p1 p2 ⊢
      have hy : y < 2 ^ 1000 := Nat.lt_trans p1 (pw (by omega))
      refine' ⟨_, Tg.nm ?u1 ?u2, Ex.pre (Ex.cons (Ex1.ifs (t := false) (Ts.conv (Ts.cmp ?u3 (Ev.bin ?u4 ?u5 (Ev.attr ?u6 K.msN) Bo.andN) ?u7 Co.neN) ?u8) (fun h => by cases h) (fun _ => Ex.nil))
        (Ex.aug ?v1 ?v2 ?v3 ?v4 (Ex.asg (Ev.bin ?v5 ?v6 ?v7 (Bo.shlN hy (m := 1) (by decide))) ?v8 ?v9 Ex.nil))) ?v10, ?v11⟩
      case u1 => rfl
      case u2 => walk_at "put"
      case u3 => walk_at "pos"
      case u4 => walk_at "pos"
      case u5 => walk_at "ev"
      case u6 => walk_at "look"
      case u7 => walk_at "ev"
      case u8 => simpa using hc
      case v1 => walk_at "look"
      case v2 => walk_at "ev"
      case v3 => rfl
      case v4 => walk_at "put"
      case v5 => walk_at "pos"
      case v6 => walk_at "ev"
      case v7 => walk_at "ev"
      case v8 => rfl
      case v9 => walk_at "put"
      case v10 => rfl
      case v11 =>
        refine ⟨?_, by omega⟩
        rw [show 64 + (i + 1) = 64 + i + 1 by omega, Nat.pow_succ]; omega
    case hp =>
      refine ⟨by simpa using hx, ?_⟩
      simp only [dInts, List.length_map, List.length_range]; omega
    case rest =>
      refine' Ex.ret ?h ?q
      case h => walk_at "ev"
      case q => simp only [dInts, List.length_map, List.length_range]; rfl
theorem c_ctz {x : Nat} (K : Kd w b a false sz) : Fn w b (n + 2) (.val (.ref 266)) [.val (.ref a), .int (x : Int)] (.int (ctzN (8 * sz) x : Nat)) := by
  have hs := K.hs
  have hs2 := szb hs
  walk_at "enter"
  refine' Ex.asg ?h1 ?h2 ?h3 ?h4
  case h1 => walk_at "ev"
  case h2 => rfl
  case h3 => walk_at "put"
  case h4 =>
    refine' Ex.cons (Ex1.for_ ?hn (Io.rng ?if1 ?if2 ?if3 rfl) (Lp.iter (w := w) (b := b) (n := n + 1) (G := fun s : Nat × Nat => [(Str.ofString "self", .val (.ref a)), (Str.ofString "a", .int (s.1 : Int)), (Str.ofString "b", .int (s.2 : Int))]) (c := fun s => !((s.1 &&& 1) != 0)) (f := fun s => (s.1 / 2 ^ 1, s.2 + 1)) (P := fun k s => True) ?hb ?hn2 _ (x, 0) trivial)) ?rest
    case hn => walk_at "pos"
    case if1 => walk_at "ev"
    case if2 => walk_at "ev"
    case if3 => walk_at "pos"
    case hb =>
      rintro k ⟨y, i⟩ d _ hc
      refine' ⟨_, Tg.nm ?u1 ?u2, Ex.preB (Ex.leave (Ex1.ifs (t := true) (Ts.conv (Ts.cmp ?u3 ?u5 ?u7 Co.neN) ?u8) (fun _ => Ex.leave Ex1.brk ?u9) (fun h => by cases h)) ?u10) ?u11⟩
      case u1 => rfl
      case u2 => walk_at "put"
      case u3 => walk_at "pos"
      case u5 => walk_at "ev"
      case u7 => walk_at "ev"
      case u8 => simpa using hc
      case u9 => intro _ h; cases h
      case u10 => intro _ h; cases h
      case u11 => rfl
    case hn2 =>
      rintro k ⟨y, i⟩ d _ hc
      dsimp only
      refine' ⟨_, Tg.nm ?u1 ?u2, Ex.pre (Ex.cons (Ex1.ifs (t := false) (Ts.conv (Ts.cmp ?u3 ?u5 ?u7 Co.neN) ?u8) (fun h => by cases h) (fun _ => Ex.nil))
        (Ex.aug ?v1 ?v2 ?v3 ?v4 (Ex.asg (Ev.bin ?v5 ?v6 ?v7 (Bo.shrN (m := 1))) ?v8 ?v9 Ex.nil))) ?v10, trivial⟩
      case u1 => rfl
      case u2 => walk_at "put"
      case u3 => walk_at "pos"
      case u5 => walk_at "ev"
      case u7 => walk_at "ev"
      case u8 => simpa using hc
      case v1 => walk_at "look"
      case v2 => walk_at "ev"
      case v3 => rfl
      case v4 => walk_at "put"
      case v5 => walk_at "pos"
      case v6 => walk_at "ev"
      case v7 => walk_at "ev"
      case v8 => rfl
      case v9 => walk_at "put"
      case v10 => rfl
    case rest =>
      refine' Ex.ret ?h ?q
      case h => walk_at "ev"
      case q => simp only [dInts, List.length_map, List.length_range]; rfl
theorem c_pop {x : Nat} (K : Kd w b a false sz) : Fn w b (n + 2) (.val (.ref 273)) [.val (.ref a), .int (x : Int)] (.int (popN (8 * sz) x : Nat)) := by
  have hs := K.hs
  have hs2 := szb hs
  walk_at "enter"
  refine' Ex.asg ?h1 ?h2 ?h3 ?h4
  case h1 => walk_at "ev"
  case h2 => rfl
  case h3 => walk_at "put"
  case h4 =>
    refine' Ex.cons (Ex1.for_ ?hn (Io.rng ?if1 ?if2 ?if3 rfl) (Lp.fold (w := w) (b := b) (n := n + 1) (G := fun s : Nat × Nat => [(Str.ofString "self", .val (.ref a)), (Str.ofString "a", .int (s.1 : Int)), (Str.ofString "b", .int (s.2 : Int))]) (f := fun s (_ : Nat) => (s.1 / 2 ^ 1, if ((s.1 &&& 1) != 0) = true then s.2 + 1 else s.2)) (D' := fun i : Nat => .int (i : Int)) (List.range (8 * sz)) (x, 0) ?hb)) ?rest
    case hn => walk_at "pos"
    case if1 => walk_at "ev"
    case if2 => walk_at "ev"
    case if3 => walk_at "pos"
    case hb =>
      rintro ⟨y, i⟩ d hd
      dsimp only
      refine' ⟨_, Tg.nm ?u1 ?u2, Ex.pre (Ex.cons (Ex1.ifs (t := (y &&& 1) != 0) (Ts.cmp ?u3 ?u5 ?u7 Co.neN) (fun ht => ?w1) (fun ht => ?w2)) (Ex.asg (Ev.bin ?v5 ?v6 ?v7 (Bo.shrN (m := 1))) ?v8 ?v9 Ex.nil)) ?v10⟩
      case u1 => rfl
      case u2 => walk_at "put"
      case u3 => walk_at "pos"
      case u5 => walk_at "ev"
      case u7 => walk_at "ev"
      case w1 =>
        refine' Ex.conv (Ex.aug ?x1 ?x2 ?x3 ?x4 Ex.nil) ?x5
        case x1 => walk_at "look"
        case x2 => walk_at "ev"
        case x3 => rfl
        case x4 => walk_at "put"
        case x5 => exact congrArg (fun j : Nat => Out.nx [(Str.ofString "self", D.val (.ref a)), (Str.ofString "a", .int (y : Int)), (Str.ofString "b", .int (j : Int)), (Str.ofString "_", .int (d : Int))]) (if_pos ht : (if ((y &&& 1) != 0) = true then i + 1 else i) = i + 1).symm
      case w2 =>
        refine Ex.conv Ex.nil ?_
        exact congrArg (fun j : Nat => Out.nx [(Str.ofString "self", D.val (.ref a)), (Str.ofString "a", .int (y : Int)), (Str.ofString "b", .int (j : Int)), (Str.ofString "_", .int (d : Int))]) (if_neg (by rw [ht]; decide) : (if ((y &&& 1) != 0) = true then i + 1 else i) = i).symm
      case v5 => walk_at "pos"
      case v6 => walk_at "ev"
      case v7 => walk_at "ev"
      case v8 => rfl
      case v9 => walk_at "put"
      case v10 => rfl
    case rest =>
      refine' Ex.ret ?h ?q
      case h => walk_at "ev"
      case q => rfl
end
end
section
section
variable {w : World} {b n : Nat} {a : Addr} {sg : Bool} {sz : Nat} {sc : Scope} {Γ : List (Str × D)}
theorem eight_size {k : Nat} (h : k ≤ 300) : k ≤ sizeLine := by rw [sizeLine_eq]; omega
local macro_rules | `(tactic| walk_at "fn") => `(tactic| with_reducible exact Fn.lenB (by omega) (by assumption))
theorem c_from {bs : Array UInt8} (K : Kd w b a sg sz) (hb : bs.size = sz) : Fn w b (n + 3) (.val (.ref (fnA sg 42 154))) [.val (.ref a), .barr bs] (.int (fromB sg bs)) := by
  have hs := K.hs
  have hs2 := szb hs
  have hz : bs.size ≤ sizeLine := eight_size (by omega)
  cases sg with
  | false =>
    show Fn w b (n + 3) (.val (.ref 154)) _ _
    walk_at "enter"
    refine' Ex.cons (Ex1.assert (Ts.conv (Ts.cmp ?z1 ?z2 ?z3 Co.eqN) ?z4)) (Ex.ret (Ev.fromBytes ?y1 ?y2 ?y3 ?y4) rfl)
    case z1 => walk_at "pos"
    case z2 => walk_at "ev"
    case z3 => walk_at "ev"
    case z4 => simpa using hb
    case y1 => walk_at "ev"
    case y2 => walk_at "evs"
    case y3 => walk_at "pos"
    case y4 => k_is
  | true =>
    show Fn w b (n + 3) (.val (.ref 42)) _ _
    walk_at "enter"
    refine' Ex.cons (Ex1.assert (Ts.conv (Ts.cmp ?z1 ?z2 ?z3 Co.eqN) ?z4)) (Ex.ret (Ev.fromBytes ?y1 ?y2 ?y3 ?y4) rfl)
    case z1 => walk_at "pos"
    case z2 => walk_at "ev"
    case z3 => walk_at "ev"
    case z4 => simpa using hb
    case y1 => walk_at "ev"
    case y2 => walk_at "evs"
    case y3 => walk_at "pos"
    case y4 => k_is
theorem x_from {bs : Array UInt8} (K : Kd w b a sg sz) (hb : bs.size ≠ sz) (hz : bs.size ≤ sizeLine) : FnX w b (n + 3) (.val (.ref (fnA sg 42 154))) [.val (.ref a), .barr bs] "AssertionError" := by
  have hs := K.hs
  have hs2 := szb hs
  cases sg with
  | false =>
    show FnX w b (n + 3) (.val (.ref 154)) _ _
    walk_at "enter"
    refine' ExX.assert (Ts.conv (Ts.cmp ?z1 ?z2 ?z3 Co.eqN) ?z4)
    case z1 => walk_at "pos"
    case z2 => walk_at "ev"
    case z3 => walk_at "ev"
    case z4 => simpa using hb
  | true =>
    show FnX w b (n + 3) (.val (.ref 42)) _ _
    walk_at "enter"
    refine' ExX.assert (Ts.conv (Ts.cmp ?z1 ?z2 ?z3 Co.eqN) ?z4)
    case z1 => walk_at "pos"
    case z2 => walk_at "ev"
    case z3 => walk_at "ev"
    case z4 => simpa using hb
theorem c_into {x : Int} (K : Kd w b a sg sz) (hf : fitsB sg x sz = true) : Fn w b (n + 3) (.val (.ref (fnA sg 49 161))) [.val (.ref a), .int x] (.barr (KTBy.low x sz).toArray) := by
  have hs := K.hs
  have hs2 := szb hs
  have hz : (KTBy.low x sz).toArray.size ≤ sizeLine := by rw [List.size_toArray, KTBy.low_length]; exact eight_size (by omega)
  cases sg with
  | false =>
    show Fn w b (n + 3) (.val (.ref 161)) _ _
    walk_at "enter"
    refine' Ex.ret (Ev.call ?z1 (Evs.cons (Ev.toBytes ?y1 ?y2 ?y3 hf) Evs.nil) (Fn.barr ?z2 hz)) rfl
    case z1 => walk_at "ev"
    case y1 => walk_at "ev"
    case y2 => walk_at "evs"
    case y3 => walk_at "pos"
    case z2 => walk_at "pos"
  | true =>
    show Fn w b (n + 3) (.val (.ref 49)) _ _
    walk_at "enter"
    refine' Ex.ret (Ev.call ?z1 (Evs.cons (Ev.toBytes ?y1 ?y2 ?y3 hf) Evs.nil) (Fn.barr ?z2 hz)) rfl
    case z1 => walk_at "ev"
    case y1 => walk_at "ev"
    case y2 => walk_at "evs"
    case y3 => walk_at "pos"
    case z2 => walk_at "pos"
theorem x_into {x : Int} (K : Kd w b a sg sz) (hf : fitsB sg x sz = false) : FnX w b (n + 3) (.val (.ref (fnA sg 49 161))) [.val (.ref a), .int x] "OverflowError" := by
  have hs := K.hs
  have hs2 := szb hs
  cases sg with
  | false =>
    show FnX w b (n + 3) (.val (.ref 161)) _ _
    walk_at "enter"
    refine' ExX.ret (EvX.call ?z1 (EvX.toBytes ?y1 ?y2 ?y3 hf))
    case z1 => walk_at "ev"
    case y1 => walk_at "ev"
    case y2 => walk_at "evs"
    case y3 => walk_at "pos"
  | true =>
    show FnX w b (n + 3) (.val (.ref 49)) _ _
    walk_at "enter"
    refine' ExX.ret (EvX.call ?z1 (EvX.toBytes ?y1 ?y2 ?y3 hf))
    case z1 => walk_at "ev"
    case y1 => walk_at "ev"
    case y2 => walk_at "evs"
    case y3 => walk_at "pos"
/-- stirred -/
noncomputable def stir (l : List Int) (t : Int) : Int := l.foldl (fun t i => t * (2 ^ 67 - 61) + i) t
theorem stir_bits {t i : Int} {m : Nat} (ht : Builtin.Int.intBits t ≤ m) (hi : Builtin.Int.intBits i ≤ m) : Builtin.Int.intBits (t * ((2 ^ 67 - 61 : Nat) : Int) + i) ≤ m + 68 := by
  have h1 : Builtin.Int.intBits (t * ((2 ^ 67 - 61 : Nat) : Int)) ≤ m + 67 := intBits_mul_le ht (bits_lt (by decide))
  have h2 := intBits_add_le h1 hi
  omega
theorem Lp.foldP {α β : Type} {t : Expr} {body : List Stmt} {G : α → List (Str × D)} {f : α → β → α} {D' : β → D} {P : Nat → α → Prop} {R : β → Prop}
    (h : ∀ k a x, R x → P (k + 1) a → ∃ Γ', Tg w b sc (G a) t (D' x) Γ' ∧ Ex w b n sc Γ' body (.nx (G (f a x))) ∧ P k (f a x)) : ∀ (l : List β) (a : α), (∀ x ∈ l, R x) → P l.length a → Lp w b n sc t body (l.map D') (G a) (.nx (G (l.foldl f a)))
  | [], a, _, _ => .nil
  | x :: l, a, hr, p => by
    obtain ⟨Γ', h1, h2, h3⟩ := h _ a x (hr x (.head _)) p
    exact .next h1 h2 (Lp.foldP h l (f a x) (fun y hy => hr y (.tail _ hy)) h3)
theorem c_stirred {l : List Int} (hl : l.length ≤ 6) (hb : ∀ i ∈ l, Builtin.Int.intBits i ≤ 1048576) : Fn w b (n + 2) (.val (.ref 305)) [.list (l.map .int)] (.int (stir l 1)) := by
  walk_at "enter"
  refine' Ex.asg ?h1 ?h2 ?h3 ?h4
  case h1 => walk_at "ev"
  case h2 => rfl
  case h3 => walk_at "put"
  case h4 =>
    refine' Ex.cons (Ex1.for_ ?hn (Io.list ?hi ?hc) ?hlp) ?rest
    case hn => walk_at "pos"
    case hi => walk_at "ev"
    case hc => intro d hd; obtain ⟨i, _, rfl⟩ := List.mem_map.mp hd; exact Cf.int _
    case hlp =>
      refine' Lp.foldP (G := fun t : Int => [(Str.ofString "numbers", .list (l.map .int)), (Str.ofString "total", .int t)]) (f := fun t i => t * (2 ^ 67 - 61) + i) (D' := D.int)
        (P := fun k t => k ≤ 6 ∧ Builtin.Int.intBits t ≤ 1048576 + 68 * (6 - k)) (R := fun i => Builtin.Int.intBits i ≤ 1048576) ?st l 1 hb ⟨hl, Nat.le_trans (show Builtin.Int.intBits 1 ≤ 1 by decide) (by omega)⟩
      rintro k t i hi ⟨hk, ht⟩
      have h1 : Builtin.Int.intBits (t * ((2 ^ 67 - 61 : Nat) : Int) + i) ≤ 1048576 + 68 * (6 - k) := by
        have := stir_bits (m := 1048576 + 68 * (6 - (k + 1))) ht (Nat.le_trans hi (by omega)); omega
      have hm : IntMulOk t ((2 ^ 67 - 61 : Nat) : Int) := .of_le ht (bits_lt (m := 67) (by decide)) (by omega)
      refine' ⟨_, Tg.nm ?a1 ?a2, Ex.pre (Ex.asg (Ev.bin ?a3 (Ev.bin ?a4 ?a5 ?a6 (Bo.mul hm)) ?a7 Bo.add) ?a8 ?a9 Ex.nil) ?a10, by omega, h1⟩
      case a1 => rfl
      case a2 => walk_at "put"
      case a3 => walk_at "pos"
      case a4 => walk_at "pos"
      case a5 => walk_at "ev"
      case a6 =>
        refine' Ev.bin (by omega) (Ev.bin (by omega) (Ev.nat (k := 2)) (Ev.nat (k := 67)) (Bo.powN (by decide) (by decide))) (Ev.nat (k := 61)) (Bo.subN (by decide))
      case a7 => walk_at "ev"
      case a8 => rfl
      case a9 => walk_at "put"
      case a10 => rfl
    case rest =>
      refine' Ex.ret ?h ?q
      case h => walk_at "ev"
      case q => rfl
end
end
section
theorem wrapT {T x : Int} (hT : 0 < T) : x % (T * 2) - (x % (T * 2) / T % 2 * T) * 2 = (x - -T) % (T * 2) + -T := by
  have h0 := Int.emod_nonneg x (show T * 2 ≠ 0 by omega)
  have h1 := Int.emod_lt_of_pos x (show 0 < T * 2 by omega)
  rw [Int.sub_neg, ← Int.emod_add_emod]
  generalize x % (T * 2) = y at *
  rcases Int.lt_or_le y T with h | h
  · rw [Int.ediv_eq_zero_of_lt h0 h, Int.emod_eq_of_lt (a := y + T) (b := T * 2) (by omega) (by omega)]; omega
  · have e : y = T * 1 + (y - T) := by omega
    have d : y / T = 1 := by
      rw [e, Int.add_comm, Int.add_mul_ediv_left _ _ (by omega), Int.ediv_eq_zero_of_lt (by omega) (by omega)]; rfl
    have f : y + T = (y - T) + T * 2 * 1 := by omega
    rw [d, f, Int.add_mul_emod_self_left, Int.emod_eq_of_lt (a := y - T) (b := T * 2) (by omega) (by omega)]
    omega
theorem wrap_eq {sg : Bool} {sz : Nat} (hs : sz = 1 ∨ sz = 2 ∨ sz = 8) (x : Int) : wrap sg (8 * sz) x = (x - loK sg (8 * sz)) % 2 ^ (8 * sz) + loK sg (8 * sz) := by
  cases sg with
  | false => simp [wrap, loK]
  | true =>
    have e : (2 : Int) ^ (8 * sz) = 2 ^ (8 * sz - 1) * 2 := by rw [← Int.pow_succ]; congr 1; omega
    show wrapS (8 * sz) x = _
    unfold wrapS loK
    rw [if_pos rfl, e]
    exact wrapT (Int.pow_pos (by decide))
theorem hi_lo {sg : Bool} {sz : Nat} (hs : sz = 1 ∨ sz = 2 ∨ sz = 8) : loK sg (8 * sz) + ((2 ^ (8 * sz) : Nat) : Int) - ((1 : Nat) : Int) = hiK sg (8 * sz) := by
  rcases hs with rfl | rfl | rfl <;> cases sg <;> decide
theorem lo_le {sg : Bool} {sz : Nat} (hs : sz = 1 ∨ sz = 2 ∨ sz = 8) : loK sg (8 * sz) ≤ hiK sg (8 * sz) := by
  rcases hs with rfl | rfl | rfl <;> cases sg <;> decide
theorem clamp_lo {lo hi : Int} (h : lo ≤ hi) (d : Nat) : clampK lo hi (lo - ((1 : Nat) : Int) - (d : Int)) = lo := by unfold clampK; split <;> split <;> omega
theorem clamp_hi {lo hi : Int} (h : lo ≤ hi) (d : Nat) : clampK lo hi (hi + ((1 : Nat) : Int) + (d : Int)) = hi := by unfold clampK; split <;> split <;> omega
theorem bits_iff {x : Int} {k : Nat} : ((Builtin.Int.intBits x : Int) > k) ↔ ¬ (x.natAbs < 2 ^ k) := by
  rw [← intBits_le_iff]; omega
theorem fits_lo {sg : Bool} {sz : Nat} (hs : sz = 1 ∨ sz = 2 ∨ sz = 8) (d : Nat) : fitsB sg (loK sg (8 * sz) - ((1 : Nat) : Int) - (d : Int)) sz = false := by
  cases sg with
  | false =>
    unfold fitsB loK
    have : decide ((if false = true then -2 ^ (8 * sz - 1) else (0 : Int)) - ((1 : Nat) : Int) - (d : Int) < 0) = true := decide_eq_true (by simp; omega)
    simp only [this]; rfl
  | true =>
    have e : ((8 * sz - 1 : Nat) : Int) + 1 = 8 * (sz : Int) := by rcases hs with rfl | rfl | rfl <;> rfl
    unfold fitsB loK
    simp only [if_true, Bool.not_true, Bool.and_false, Bool.not_false, Bool.true_and]
    have p : (0 : Int) < 2 ^ (8 * sz - 1) := Int.pow_pos (by decide)
    have p' : ((2 : Int) ^ (8 * sz - 1)) = ((2 ^ (8 * sz - 1) : Nat) : Int) := by rw [Int.natCast_pow]; rfl
    have h1 : (-(2 : Int) ^ (8 * sz - 1) - ((1 : Nat) : Int) - (d : Int)) < 0 := by omega
    have h2 : ((-(2 : Int) ^ (8 * sz - 1) - ((1 : Nat) : Int) - (d : Int)) != 0) = true := by rw [bne_iff_ne]; omega
    rw [if_pos h1, h2, Bool.true_and, Bool.not_eq_false', decide_eq_true_eq, ← e]
    have : ¬ ((-(-(2 : Int) ^ (8 * sz - 1) - ((1 : Nat) : Int) - (d : Int)) - 1).natAbs < 2 ^ (8 * sz - 1)) := by rw [p']; omega
    have := bits_iff.mpr this
    omega
theorem fits_hi {sg : Bool} {sz : Nat} (hs : sz = 1 ∨ sz = 2 ∨ sz = 8) (d : Nat) : fitsB sg (hiK sg (8 * sz) + ((1 : Nat) : Int) + (d : Int)) sz = false := by
  cases sg with
  | false =>
    have e : ((8 * sz : Nat) : Int) = 8 * (sz : Int) := by omega
    unfold fitsB hiK
    simp only [Bool.false_eq_true, if_false, Bool.not_false, Bool.and_true]
    have p : (0 : Int) < 2 ^ (8 * sz) := Int.pow_pos (by decide)
    have p' : ((2 : Int) ^ (8 * sz)) = ((2 ^ (8 * sz) : Nat) : Int) := by rw [Int.natCast_pow]; rfl
    have h1 : decide ((2 : Int) ^ (8 * sz) - 1 + ((1 : Nat) : Int) + (d : Int) < 0) = false := decide_eq_false (by omega)
    have h2 : (((2 : Int) ^ (8 * sz) - 1 + ((1 : Nat) : Int) + (d : Int)) != 0) = true := by rw [bne_iff_ne]; omega
    rw [h1, h2, Bool.true_and, Bool.not_false, Bool.true_and, Bool.not_eq_false', decide_eq_true_eq, ← e]
    have : ¬ (((2 : Int) ^ (8 * sz) - 1 + ((1 : Nat) : Int) + (d : Int)).natAbs < 2 ^ (8 * sz)) := by rw [p']; omega
    exact bits_iff.mpr this
  | true =>
    have e : ((8 * sz - 1 : Nat) : Int) + 1 = 8 * (sz : Int) := by rcases hs with rfl | rfl | rfl <;> rfl
    unfold fitsB hiK
    simp only [if_true, Bool.not_true, Bool.and_false, Bool.not_false, Bool.true_and]
    have p : (0 : Int) < 2 ^ (8 * sz - 1) := Int.pow_pos (by decide)
    have p' : ((2 : Int) ^ (8 * sz - 1)) = ((2 ^ (8 * sz - 1) : Nat) : Int) := by rw [Int.natCast_pow]; rfl
    have h1 : ¬ (((2 : Int) ^ (8 * sz - 1) - 1 + ((1 : Nat) : Int) + (d : Int)) < 0) := by omega
    have h2 : (((2 : Int) ^ (8 * sz - 1) - 1 + ((1 : Nat) : Int) + (d : Int)) != 0) = true := by rw [bne_iff_ne]; omega
    rw [if_neg h1, h2, Bool.true_and, Bool.not_eq_false', decide_eq_true_eq, ← e]
    have : ¬ (((2 : Int) ^ (8 * sz - 1) - 1 + ((1 : Nat) : Int) + (d : Int)).natAbs < 2 ^ (8 * sz - 1)) := by rw [p']; omega
    have := bits_iff.mpr this
    omega
theorem rep_ints {i : Int} : ∀ (k : Nat), (List.replicate k [D.int i]).flatten = (List.replicate k i).map .int
  | 0 => rfl
  | k + 1 => by rw [List.replicate_succ, List.replicate_succ, List.flatten_cons, rep_ints k]; rfl
end
section
section
variable {w : World} {b n : Nat} {a : Addr} {sg : Bool} {sz : Nat} {sc : Scope} {Γ : List (Str × D)}
theorem EvF.slice {value : Expr} {lower upper : Option Expr} {p pos : Pos} {l : List D} {lo hi : Option Int} (hv : Ev w b n sc Γ value (.list l)) (hlo : Pt w b n sc Γ lower lo) (hhi : Pt w b n sc Γ upper hi) (hsz : l.length ≤ sizeLine) (hint : ∀ d ∈ l, ∃ i, d = .int i) :
    EvF w b n sc Γ (.Subscript value (.Slice lower upper none p) pos) (.list (pickD l lo hi)) := by
  refine ⟨fun env A s Q E c vr q => ?_⟩
  refine R.Subscript (hv.run env A s _ _ c vr fun v h1 k1 kp1 r1 => ?_)
  obtain ⟨a, vs, rfl, hl, rv⟩ := r1.listI
  refine R.Slice (hlo.run (c.kp kp1) (vr.kp kp1) fun v2 h2 k2 kp2 p2 => hhi.run (c.kp (kp1.trans kp2)) (vr.kp (kp1.trans kp2)) fun v3 h3 k3 kp3 p3 => ?_)
  have hl3 : h3.IsList a vs := IsList.of2 (kp2.trans kp3).solid.two hl
  have len := rv.length
  rw [Array.length_toList] at len
  refine tail_any (T := "list") (Heap.IsList.typeIs (s := { s with heap := h3.push _, toks := k3 }) (hl3.push _)) list_getitem_lookup (wpAny_getItem_list_slice (hl3.push _) (Heap.IsSliceOf.new ..) p2 p3 .none (by simp) ?_ (by omega)) (by with_unfolding_all rfl)
  have kp4 := ((kp1.trans kp2).trans kp3).trans (Kp.push (b := b) (o := { cls := .type "slice", data := .fields #[v2, v3, .none] }))
  refine q _ _ _ (kp4.trans .push) (.mk' (.list _ _ _ ⟨_, hideAll_get _ (Heap.get?_push_size _ rfl) (occ_none (kp4.none (Heap.get?_none_of_le (Nat.le_refl _)))), rfl, _, rfl⟩ ?_))
  rw [slicePick_plain, len]
  have key : ∀ {vs : List Value} {ds : List D} (g : Heap), RepAll h1 vs ds → (∀ d ∈ ds, ∃ i, d = .int i) → RepAll g vs ds := fun {vs ds} g r => by
    induction ds generalizing vs with
    | nil => intro _; (first | obtain ⟨_, rfl⟩ := r.intI | obtain rfl := r.valI | obtain rfl := r.boolI | obtain ⟨_, rfl⟩ := r.strI | cases r); exact .nil
    | cons d ds ih =>
      intro hi
      cases r with
      | cons v _ vs _ x y =>
        obtain ⟨i, rfl⟩ := hi d (.head _)
        cases x
        exact .cons _ _ _ _ (.int _ _) (ih y fun d hd => hi d (.tail _ hd))
  exact key _ ((rv.drop _).take _) fun d hd => hint d (List.mem_of_mem_drop (List.mem_of_mem_take hd))
noncomputable def nD (l : List Nat) : List D := l.map fun (o : Nat) => .int (o : Int)
theorem clip_nat {k m : Nat} (h : k ≤ m) : clipAt m (k : Int) = k := by
  unfold clipAt
  rw [if_neg (Int.not_lt.mpr (Int.natCast_nonneg k)), Int.min_eq_left (Int.ofNat_le.mpr h), Int.max_eq_right (Int.natCast_nonneg k), Int.toNat_natCast]
theorem pick_nat {l : List Nat} {i j : Nat} (h : i + j ≤ l.length) : pickD (nD l) (some (i : Int)) (some ((i + j : Nat) : Int)) = nD ((l.drop i).take j) := by
  unfold pickD nD
  simp only [Option.elim_some, List.length_map]
  rw [clip_nat h, clip_nat (show i ≤ l.length by omega), Nat.add_sub_cancel_left, List.map_take, List.map_drop]
theorem nD_int {l : List Nat} : ∀ d ∈ nD l, ∃ i, d = .int i := fun d hd => by
  obtain ⟨i, _, rfl⟩ := List.mem_map.mp hd; exact ⟨_, rfl⟩
theorem nD_ints {l : List Nat} : nD l = (l.map (fun (o : Nat) => (o : Int))).map .int := by unfold nD; rw [List.map_map]; rfl
/-- the octets at a place -/
noncomputable def octs (os : List Nat) (sz p : Nat) : List Nat := (os.drop (sz * p)).take sz
noncomputable def octB (os : List Nat) (sz p : Nat) : Array UInt8 := byteArr ((octs os sz p).map (fun (o : Nat) => (o : Int)))
theorem octs_len {os : List Nat} {sz p : Nat} (hl : os.length = 3 * sz) (hp : p < 3) : (octs os sz p).length = sz := by
  unfold octs
  rw [List.length_take, List.length_drop, hl]
  have : sz * p + sz ≤ 3 * sz := by
    have : sz * (p + 1) ≤ sz * 3 := Nat.mul_le_mul_left _ hp
    rw [Nat.mul_add] at this; omega
  omega
theorem octB_size {os : List Nat} {sz p : Nat} (hl : os.length = 3 * sz) (hp : p < 3) : (octB os sz p).size = sz := by unfold octB; rw [byteArr_size, List.length_map, octs_len hl hp]
theorem oct_ev {os : List Nat} {e1 e2 e3 : Expr} {p : Nat} {q1 q2 : Pos} (hl : os.length = 3 * sz) (hp : p < 3) (hz : sz ≤ 8) (h1 : Ev w b n sc Γ e1 (.list (nD os))) (h2 : Ev w b n sc Γ e2 (.int ((sz * p : Nat) : Int))) (h3 : Ev w b n sc Γ e3 (.int ((sz * p + sz : Nat) : Int))) :
    EvF w b n sc Γ (.Subscript e1 (.Slice (some e2) (some e3) none q1) q2) (.list (nD (octs os sz p))) := by
  have := EvF.slice (p := q1) (pos := q2) h1 (.some h2) (.some h3) (by unfold nD; rw [List.length_map, hl]; exact eight_size (by omega)) nD_int
  rw [pick_nat (by
    have : sz * (p + 1) ≤ sz * 3 := Nat.mul_le_mul_left _ hp
    rw [Nat.mul_add] at this; omega)] at this
  exact this
local macro_rules | `(tactic| walk_at "oct") => `(tactic| first
  | exact Cm.nil
  | (refine' Cm.cons ?z1 (EvF.int (Ev.meth ?z2 ?z3 (Evs.cons (Ev.call ?z4 (Evs.cons (Ev.call ?z5 (Evs.cons (Ev.conv (EvF.ev (oct_ev (by assumption) (by decide) ?z6 ?z7 ?z8 ?z9)) (congrArg D.list nD_ints)) Evs.nil) (Fn.bytes ?y1 ?y2 ?y3)) Evs.nil) (Fn.barr ?y4 ?y5)) Evs.nil) (c_from (by assumption) ?y6))) ?y7
     (case z1 => walk_at "tg")
     (case z2 => walk_at "ev")
     (case z3 => walk_at "kmeth")
     (case z4 => walk_at "ev")
     (case z5 => walk_at "ev")
     (case z6 => walk_at "pos")
     (case z7 => walk_at "ev")
     (case z8 => walk_at "ev")
     (case z9 => walk_at "ev")
     (case y1 => walk_at "pos")
     (case y2 => intro i hi; obtain ⟨o, ho', rfl⟩ := List.mem_map.mp hi; have := (by assumption : ∀ o ∈ _, o < 256) o (List.mem_of_mem_drop (List.mem_of_mem_take ho')); omega)
     (case y3 => rw [List.length_map, octs_len (by assumption) (by decide)]; exact eight_size (by omega))
     (case y4 => walk_at "pos")
     (case y5 => rw [byteArr_size, List.length_map, octs_len (by assumption) (by decide)]; exact eight_size (by omega))
     (case y6 => exact octB_size (by assumption) (by decide))
     (case y7 => walk_at "oct")))
theorem c_read {os : List Nat} (K : Kd w b a sg sz) (hl : os.length = 3 * sz) (ho : ∀ o ∈ os, o < 256) : Fn w b (n + 6) (.val (.ref 369)) [.val (.ref a), .int (sz : Int), .list (nD os)] (.list [.int (fromB sg (octB os sz 0)), .int (fromB sg (octB os sz 1)), .int (fromB sg (octB os sz 2))]) := by
  have hs := K.hs
  have hs2 := szb hs
  walk_at "enter"
  refine' Ex.ret (EvF.ev (EvF.comp ?hn ?hi ?hc ?hb ?hk ?hl ?hd ?hz)) rfl
  case hn => walk_at "pos"
  case hi => walk_at "io"
  case hc => walk_at "caps"
  case hb => walk_at "oct"
  case hk => rfl
  case hl => decide +kernel
  case hd => decide +kernel
  case hz => walk_at "size"
end
end
section
section
variable {w : World} {b n : Nat} {a : Addr} {sg : Bool} {sz : Nat} {sc : Scope} {Γ : List (Str × D)}
local macro_rules | `(tactic| walk_at "fn") => `(tactic| first | with_reducible exact c_pop (by assumption) | with_reducible exact c_ctz (by assumption) | with_reducible exact c_clz (by assumption) (by assumption) | with_reducible exact c_rotr (by assumption) (by assumption) | with_reducible exact c_rotl (by assumption) (by assumption) | with_reducible exact c_shr (by assumption) | with_reducible exact c_shl (by assumption) (by assumption) | with_reducible exact c_subs (by assumption) | with_reducible exact c_adds (by assumption) | with_reducible exact c_mul (by assumption) (by assumption) | with_reducible exact c_sub (by assumption) | with_reducible exact c_add (by assumption))
local macro_rules | `(tactic| walk_at "bo") => `(tactic| (refine' Bo.cat ?zs; (case zs => walk_at "size")))
noncomputable def row (f : Int → Int → Int) (x0 x1 x2 y0 y1 y2 : Int) : D := .list [.int (f x0 y0), .int (f x1 y1), .int (f x2 y2)]
noncomputable def rows7 (sg : Bool) (W c : Nat) (x0 x1 x2 y0 y1 y2 : Int) : List D :=
  [row (fun x y => wrap sg W (x + y)) x0 x1 x2 y0 y1 y2, row (fun x y => wrap sg W (x - y)) x0 x1 x2 y0 y1 y2, row (fun x y => wrap sg W (x * y)) x0 x1 x2 y0 y1 y2,
    row (fun x y => clampK (loK sg W) (hiK sg W) (x + y)) x0 x1 x2 y0 y1 y2, row (fun x y => clampK (loK sg W) (hiK sg W) (x - y)) x0 x1 x2 y0 y1 y2,
    row (fun x _ => wrap sg W (x * 2 ^ (c % W))) x0 x1 x2 y0 y1 y2, row (fun x _ => wrap sg W (x / 2 ^ (c % W))) x0 x1 x2 y0 y1 y2]
noncomputable def rowN (f : Nat → Nat) (x0 x1 x2 : Nat) : D := .list [.int (f x0 : Nat), .int (f x1 : Nat), .int (f x2 : Nat)]
noncomputable def rows5 (W c : Nat) (x0 x1 x2 : Nat) : List D :=
  [rowN (fun x => (x * 2 ^ (c % W) &&& 2 ^ W - 1) ||| x / 2 ^ (W - c % W)) x0 x1 x2, rowN (fun x => x / 2 ^ (c % W) ||| (x * 2 ^ (W - c % W) &&& 2 ^ W - 1)) x0 x1 x2,
    rowN (clzN W) x0 x1 x2, rowN (ctzN W) x0 x1 x2, rowN (popN W) x0 x1 x2]
/-- a row of the told ones: by two lanes -/
theorem row2 {scope : Scope} {nm : Str} {f : Addr} {x0 x1 x2 y0 y1 y2 r0 r1 r2 : Int} {p1 p2 p3 p4 p5 p6 p7 p8 p9 p10 : Pos} {k : Nat} (hn : 0 < n)
    (hp : (Str.ofString "pairs", D.list [.tup [.int x0, .int y0], .tup [.int x1, .int y1], .tup [.int x2, .int y2]]) ∈ Γ) (hc : Caps sc Γ scope.names [(Str.ofString "kind", .val (.ref a))])
    (ka : (relS scope sc).names.lookup (Str.ofString "a") = some .local) (kb : (relS scope sc).names.lookup (Str.ofString "b") = some .local) (hk : scope.kind = .function) (hcell : ∀ y ∈ scope.names, y.2 ≠ .cell) (hnd : (scope.names.map (·.1)).Nodup)
    (hv : ∀ env, ∃ pl, eval (.Call (.Attribute (.Name (Str.ofString "kind") p1) nm p2) [.Name (Str.ofString "a") p3, .Name (Str.ofString "b") p4] [] p5) env = (do
      let ov ← eval (.Name (Str.ofString "kind") p1) env
      standAt p2.atName
      let (f, first) ← holding [ov] (getMethod ov nm pl)
      callWith p5 f first (backTo p5 (starEach [.Name (Str.ofString "a") p3, .Name (Str.ofString "b") p4] env)) (backToKw p5 (keywordEach [] env))))
    (hm : Meth w b a nm f) (h0 : Fn w b n (.val (.ref f)) [.val (.ref a), .int x0, .int y0] (.int r0)) (h1 : Fn w b n (.val (.ref f)) [.val (.ref a), .int x1, .int y1] (.int r1)) (h2 : Fn w b n (.val (.ref f)) [.val (.ref a), .int x2, .int y2] (.int r2)) :
    EvF w b n sc Γ (.ListComp (.Call (.Attribute (.Name (Str.ofString "kind") p1) nm p2) [.Name (Str.ofString "a") p3, .Name (Str.ofString "b") p4] [] p5) [⟨.Tuple [.Name (Str.ofString "a") p6, .Name (Str.ofString "b") p7] k p8, .Name (Str.ofString "pairs") p9, [], 0⟩] scope p10)
      (.list [.int r0, .int r1, .int r2]) := by
  have one : ∀ {x y r : Int}, Fn w b n (.val (.ref f)) [.val (.ref a), .int x, .int y] (.int r) → ∃ Γ', Tg w b (relS scope sc) [(Str.ofString "kind", .val (.ref a))] (.Tuple [.Name (Str.ofString "a") p6, .Name (Str.ofString "b") p7] k p8) (.tup [.int x, .int y]) Γ' ∧
      EvF w b n (relS scope sc) Γ' (.Call (.Attribute (.Name (Str.ofString "kind") p1) nm p2) [.Name (Str.ofString "a") p3, .Name (Str.ofString "b") p4] [] p5) (.int r) := fun {x y r} h =>
    ⟨[(Str.ofString "kind", .val (.ref a)), (Str.ofString "a", .int x), (Str.ofString "b", .int y)], .tup (.cn ka (by walk_at "put") (.cn kb (by walk_at "put") .nil)),
      .int (.meth (.nameM (by walk_at "mem")) hm (.cons (.nameM (by walk_at "mem")) (.cons (.nameM (by walk_at "mem")) .nil)) h hv)⟩
  obtain ⟨_, t0, e0⟩ := one h0
  obtain ⟨_, t1, e1⟩ := one h1
  obtain ⟨_, t2, e2⟩ := one h2
  exact .comp hn (.list (.nameM hp) (cf_all rfl)) hc (.cons t0 e0 (.cons t1 e1 (.cons t2 e2 .nil))) hk hcell hnd (sz_le rfl)
/-- by one lane and the count -/
theorem row1 {scope : Scope} {nm : Str} {f : Addr} {x0 x1 x2 c r0 r1 r2 : Int} {p1 p2 p3 p4 p5 p6 p9 p10 : Pos} (hn : 0 < n)
    (hp : (Str.ofString "xs", D.list [.int x0, .int x1, .int x2]) ∈ Γ) (hc : Caps sc Γ scope.names [(Str.ofString "kind", .val (.ref a)), (Str.ofString "count", .int c)])
    (ka : (relS scope sc).names.lookup (Str.ofString "a") = some .local) (hk : scope.kind = .function) (hcell : ∀ y ∈ scope.names, y.2 ≠ .cell) (hnd : (scope.names.map (·.1)).Nodup)
    (hv : ∀ env, ∃ pl, eval (.Call (.Attribute (.Name (Str.ofString "kind") p1) nm p2) [.Name (Str.ofString "a") p3, .Name (Str.ofString "count") p4] [] p5) env = (do
      let ov ← eval (.Name (Str.ofString "kind") p1) env
      standAt p2.atName
      let (f, first) ← holding [ov] (getMethod ov nm pl)
      callWith p5 f first (backTo p5 (starEach [.Name (Str.ofString "a") p3, .Name (Str.ofString "count") p4] env)) (backToKw p5 (keywordEach [] env))))
    (hm : Meth w b a nm f) (h0 : Fn w b n (.val (.ref f)) [.val (.ref a), .int x0, .int c] (.int r0)) (h1 : Fn w b n (.val (.ref f)) [.val (.ref a), .int x1, .int c] (.int r1)) (h2 : Fn w b n (.val (.ref f)) [.val (.ref a), .int x2, .int c] (.int r2)) :
    EvF w b n sc Γ (.ListComp (.Call (.Attribute (.Name (Str.ofString "kind") p1) nm p2) [.Name (Str.ofString "a") p3, .Name (Str.ofString "count") p4] [] p5) [⟨.Name (Str.ofString "a") p6, .Name (Str.ofString "xs") p9, [], 0⟩] scope p10)
      (.list [.int r0, .int r1, .int r2]) := by
  have one : ∀ {x r : Int}, Fn w b n (.val (.ref f)) [.val (.ref a), .int x, .int c] (.int r) → ∃ Γ', Tg w b (relS scope sc) [(Str.ofString "kind", .val (.ref a)), (Str.ofString "count", .int c)] (.Name (Str.ofString "a") p6) (.int x) Γ' ∧
      EvF w b n (relS scope sc) Γ' (.Call (.Attribute (.Name (Str.ofString "kind") p1) nm p2) [.Name (Str.ofString "a") p3, .Name (Str.ofString "count") p4] [] p5) (.int r) := fun {x r} h =>
    ⟨[(Str.ofString "kind", .val (.ref a)), (Str.ofString "count", .int c), (Str.ofString "a", .int x)], .nm ka (by walk_at "put"),
      .int (.meth (.nameM (by walk_at "mem")) hm (.cons (.nameM (by walk_at "mem")) (.cons (.nameM (by walk_at "mem")) .nil)) h hv)⟩
  obtain ⟨_, t0, e0⟩ := one h0
  obtain ⟨_, t1, e1⟩ := one h1
  obtain ⟨_, t2, e2⟩ := one h2
  exact .comp hn (.list (.nameM hp) (cf_all rfl)) hc (.cons t0 e0 (.cons t1 e1 (.cons t2 e2 .nil))) hk hcell hnd (sz_le rfl)
theorem row0 {scope : Scope} {nm : Str} {f : Addr} {x0 x1 x2 r0 r1 r2 : Int} {p1 p2 p3 p5 p6 p9 p10 : Pos} (hn : 0 < n)
    (hp : (Str.ofString "xs", D.list [.int x0, .int x1, .int x2]) ∈ Γ) (hc : Caps sc Γ scope.names [(Str.ofString "kind", .val (.ref a))])
    (ka : (relS scope sc).names.lookup (Str.ofString "a") = some .local) (hk : scope.kind = .function) (hcell : ∀ y ∈ scope.names, y.2 ≠ .cell) (hnd : (scope.names.map (·.1)).Nodup)
    (hv : ∀ env, ∃ pl, eval (.Call (.Attribute (.Name (Str.ofString "kind") p1) nm p2) [.Name (Str.ofString "a") p3] [] p5) env = (do
      let ov ← eval (.Name (Str.ofString "kind") p1) env
      standAt p2.atName
      let (f, first) ← holding [ov] (getMethod ov nm pl)
      callWith p5 f first (backTo p5 (starEach [.Name (Str.ofString "a") p3] env)) (backToKw p5 (keywordEach [] env))))
    (hm : Meth w b a nm f) (h0 : Fn w b n (.val (.ref f)) [.val (.ref a), .int x0] (.int r0)) (h1 : Fn w b n (.val (.ref f)) [.val (.ref a), .int x1] (.int r1)) (h2 : Fn w b n (.val (.ref f)) [.val (.ref a), .int x2] (.int r2)) :
    EvF w b n sc Γ (.ListComp (.Call (.Attribute (.Name (Str.ofString "kind") p1) nm p2) [.Name (Str.ofString "a") p3] [] p5) [⟨.Name (Str.ofString "a") p6, .Name (Str.ofString "xs") p9, [], 0⟩] scope p10)
      (.list [.int r0, .int r1, .int r2]) := by
  have one : ∀ {x r : Int}, Fn w b n (.val (.ref f)) [.val (.ref a), .int x] (.int r) → ∃ Γ', Tg w b (relS scope sc) [(Str.ofString "kind", .val (.ref a))] (.Name (Str.ofString "a") p6) (.int x) Γ' ∧
      EvF w b n (relS scope sc) Γ' (.Call (.Attribute (.Name (Str.ofString "kind") p1) nm p2) [.Name (Str.ofString "a") p3] [] p5) (.int r) := fun {x r} h =>
    ⟨[(Str.ofString "kind", .val (.ref a)), (Str.ofString "a", .int x)], .nm ka (by walk_at "put"),
      .int (.meth (.nameM (by walk_at "mem")) hm (.cons (.nameM (by walk_at "mem")) .nil) h hv)⟩
  obtain ⟨_, t0, e0⟩ := one h0
  obtain ⟨_, t1, e1⟩ := one h1
  obtain ⟨_, t2, e2⟩ := one h2
  exact .comp hn (.list (.nameM hp) (cf_all rfl)) hc (.cons t0 e0 (.cons t1 e1 (.cons t2 e2 .nil))) hk hcell hnd (sz_le rfl)
local macro_rules | `(tactic| walk_at "evc") => `(tactic| first
  | (refine' row2 ?zn ?zp ?zc ?za ?zb ?zk ?zl ?zd ?zv ?zm ?z0 ?z1 ?z2; (case zn => walk_at "pos"); (case zp => walk_at "mem"); (case zc => walk_at "caps"); (case za => rfl); (case zb => rfl); (case zk => rfl); (case zl => decide +kernel); (case zd => decide +kernel); (case zv => exact fun _ => ⟨_, rfl⟩); (case zm => walk_at "kmeth"); (case z0 => walk_at "fn"); (case z1 => walk_at "fn"); (case z2 => walk_at "fn"))
  | (refine' row1 ?zn ?zp ?zc ?za ?zk ?zl ?zd ?zv ?zm ?z0 ?z1 ?z2; (case zn => walk_at "pos"); (case zp => walk_at "mem"); (case zc => walk_at "caps"); (case za => rfl); (case zk => rfl); (case zl => decide +kernel); (case zd => decide +kernel); (case zv => exact fun _ => ⟨_, rfl⟩); (case zm => walk_at "kmeth"); (case z0 => walk_at "fn"); (case z1 => walk_at "fn"); (case z2 => walk_at "fn"))
  | (refine' row0 ?zn ?zp ?zc ?za ?zk ?zl ?zd ?zv ?zm ?z0 ?z1 ?z2; (case zn => walk_at "pos"); (case zp => walk_at "mem"); (case zc => walk_at "caps"); (case za => rfl); (case zk => rfl); (case zl => decide +kernel); (case zd => decide +kernel); (case zv => exact fun _ => ⟨_, rfl⟩); (case zm => walk_at "kmeth"); (case z0 => walk_at "fn"); (case z1 => walk_at "fn"); (case z2 => walk_at "fn"))
  | fail "row")
theorem c_toldI {x0 x1 x2 y0 y1 y2 : Int} {c : Nat} (K : Kd w b a true sz) (h0 : Builtin.Int.intBits x0 ≤ 64) (h1 : Builtin.Int.intBits x1 ≤ 64) (h2 : Builtin.Int.intBits x2 ≤ 64) :
    Fn w b (n + 8) (.val (.ref 364)) [.val (.ref a), .list [.int x0, .int x1, .int x2], .list [.int y0, .int y1, .int y2], .int (c : Int), .bool true] (.list (rows7 true (8 * sz) c x0 x1 x2 y0 y1 y2)) := by
  walk_at "enter"
  refine' Ex.asg (Ev.listZip ?z1 ?z2 ?z3 ?z4 ?z5 ?z11 ?z6 ?z7) ?z8 ?z9 ?z10
  case z1 => walk_at "pos"
  case z2 => walk_at "ev"
  case z3 => walk_at "ev"
  case z4 => walk_at "ev"
  case z5 => walk_at "ev"
  case z11 => rfl
  case z6 => exact Nat.succ_pos _
  case z7 => walk_at "size"
  case z8 => rfl
  case z9 => walk_at "put"
  case z10 =>
    simp only [zipD, List.zip, List.zipWith, List.map]
    refine' Ex.asg ?y1 ?y2 ?y3 (Ex.asg ?y4 ?y5 ?y6 (Ex.asg ?y7 ?y8 ?y9 (Ex.leave (Ex1.ifs (t := true) (Ts.val ?x1) (fun _ => Ex.ret ?x2 rfl) (fun h => by cases h)) ?x4)))
    case y1 => walk_at "ev"
    case y2 => rfl
    case y3 => walk_at "put"
    case y4 => walk_at "ev"
    case y5 => rfl
    case y6 => walk_at "put"
    case y7 => walk_at "ev"
    case y8 => rfl
    case y9 => walk_at "put"
    case x1 => walk_at "ev"
    case x2 => walk_at "ev"
    case x4 => intro _ h; cases h
theorem c_toldU {x0 x1 x2 y0 y1 y2 c : Nat} (K : Kd w b a false sz) (h0 : x0 < 2 ^ 64) (h1 : x1 < 2 ^ 64) (h2 : x2 < 2 ^ 64) :
    Fn w b (n + 8) (.val (.ref 364)) [.val (.ref a), .list [.int (x0 : Int), .int (x1 : Int), .int (x2 : Int)], .list [.int (y0 : Int), .int (y1 : Int), .int (y2 : Int)], .int (c : Int), .bool false]
      (.list (rows7 false (8 * sz) c x0 x1 x2 y0 y1 y2 ++ rows5 (8 * sz) c x0 x1 x2)) := by
  have b0 : Builtin.Int.intBits (x0 : Int) ≤ 64 := bits_lt (by simpa using h0)
  have b1 : Builtin.Int.intBits (x1 : Int) ≤ 64 := bits_lt (by simpa using h1)
  have b2 : Builtin.Int.intBits (x2 : Int) ≤ 64 := bits_lt (by simpa using h2)
  walk_at "enter"
  refine' Ex.asg (Ev.listZip ?z1 ?z2 ?z3 ?z4 ?z5 ?z11 ?z6 ?z7) ?z8 ?z9 ?z10
  case z1 => walk_at "pos"
  case z2 => walk_at "ev"
  case z3 => walk_at "ev"
  case z4 => walk_at "ev"
  case z5 => walk_at "ev"
  case z11 => rfl
  case z6 => exact Nat.succ_pos _
  case z7 => walk_at "size"
  case z8 => rfl
  case z9 => walk_at "put"
  case z10 =>
    simp only [zipD, List.zip, List.zipWith, List.map]
    refine' Ex.asg ?y1 ?y2 ?y3 (Ex.asg ?y4 ?y5 ?y6 (Ex.asg ?y7 ?y8 ?y9 (Ex.cons (Ex1.ifs (t := false) (Ts.val ?x1) (fun h => by cases h) (fun _ => Ex.nil)) (Ex.asg ?w1 ?w2 ?w3 (Ex.ret ?x2 rfl)))))
    case y1 => walk_at "ev"
    case y2 => rfl
    case y3 => walk_at "put"
    case y4 => walk_at "ev"
    case y5 => rfl
    case y6 => walk_at "put"
    case y7 => walk_at "ev"
    case y8 => rfl
    case y9 => walk_at "put"
    case x1 => walk_at "ev"
    case w1 => walk_at "ev"
    case w2 => rfl
    case w3 => walk_at "put"
    case x2 => walk_at "ev"
end
end
section
section
variable {w : World} {b n : Nat} {a : Addr} {sg : Bool} {sz : Nat} {sc : Scope} {Γ : List (Str × D)}
local macro_rules | `(tactic| walk_at "fn") => `(tactic| first | with_reducible exact c_sat (by assumption) | with_reducible exact c_fit (by assumption))
local macro_rules | `(tactic| walk_at "bo") => `(tactic| (with_reducible refine' Bo.mod ?zm; (case zm => exact Int.natCast_pos.mpr (Nat.two_pow_pos _))))
theorem sub_OE : isSubtype (.type "OverflowError") (.type "OverflowError") = pure true := by rw [isSubtype_type]; kernel_rfl
theorem sub_AE : isSubtype (.type "AssertionError") (.type "AssertionError") = pure true := by rw [isSubtype_type]; kernel_rfl
local macro_rules | `(tactic| walk_at "xnumber") => `(tactic|
  (refine' Ex.cons (Ex1.ifs (t := false) (Ts.conv (Ts.or2 (t := false) (u := false) (Ts.conv (Ts.cmp ?z1 ?z2 ?z3 Co.ne) ?z4) (fun _ => Ts.conv (Ts.cmp ?z5 ?z6 ?z7 Co.ne) ?z8)) rfl) (fun h => by cases h) (fun _ => Ex.nil))
      (Ex.leave (Ex1.tryX (X := "OverflowError") ?y1 ?y2 ?y3 (x_into (by assumption) ?y4) PySem.F.isExc_OverflowError PySem.F.notTuple_OverflowError sub_OE (nameBlt ?y5 ?y6 PyProof.Rows.Boot.«OverflowError» ?y7)) ?y8)
   (case z1 => walk_at "pos")
   (case z2 => walk_at "ev")
   (case z3 => walk_at "ev")
   (case z5 => walk_at "pos")
   (case z6 => walk_at "ev")
   (case z7 => walk_at "ev")
   (case y1 => walk_at "ev")
   (case y2 => walk_at "kmeth")
   (case y3 => walk_at "evs")
   (case y5 => rfl)
   (case y6 => k_is)
   (case y7 => decide +kernel)
   (case y8 => intro _ h; cases h)))
theorem Bo.repN {i : Int} {k : Nat} (h : k ≤ 256) : Bo w b .Mult (.list [.int i]) (.int (k : Int)) (.list ((List.replicate k i).map .int)) := by
  have := Bo.rep (w := w) (b := b) (l := [.int i]) (x := (k : Int)) (by omega) (by rw [Int.toNat_natCast]; simpa using h) (by omega)
  rw [Int.toNat_natCast, rep_ints] at this; exact this
theorem mem_rep {m k : Nat} {i : Int} (hi : i ∈ List.replicate k ((m % 256 : Nat) : Int)) : 0 ≤ i ∧ i < 256 := by
  rw [List.eq_of_mem_replicate hi]; omega
local macro_rules | `(tactic| walk_at "xbytes") => `(tactic|
  (refine' Ex.leave (Ex1.tryX (X := "AssertionError") ?y1 ?y2 (Evs.cons (Ev.call ?x1 (Evs.cons (Ev.call ?x2 (Evs.cons (Ev.bin ?x3 (Ev.list (Evs.cons ?x4 Evs.nil) ?x5) ?x6 (Bo.repN ?x7)) Evs.nil) (Fn.bytes ?w1 (fun _ => mem_rep) ?w2)) Evs.nil) (Fn.barr ?w3 ?w4)) Evs.nil) (x_from (by assumption) ?w5 ?w6)
      PySem.F.isExc_AssertionError PySem.F.notTuple_AssertionError sub_AE (nameBlt ?y5 ?y6 PyProof.Rows.Boot.«AssertionError» ?y7)) ?y8
   (case y1 => walk_at "ev")
   (case y2 => walk_at "kmeth")
   (case x1 => walk_at "ev")
   (case x2 => walk_at "ev")
   (case x3 => walk_at "pos")
   (case x4 => walk_at "ev")
   (case x5 => walk_at "size")
   (case x6 => walk_at "ev")
   (case x7 => walk_at "pos")
   (case w1 => walk_at "pos")
   (case w2 => rw [List.length_replicate]; exact eight_size (by omega))
   (case w3 => walk_at "pos")
   (case w4 => rw [byteArr_size, List.length_replicate]; exact eight_size (by omega))
   (case w5 => rw [byteArr_size, List.length_replicate]; omega)
   (case w6 => rw [byteArr_size, List.length_replicate]; exact eight_size (by omega))
   (case y5 => rfl)
   (case y6 => k_is)
   (case y7 => decide +kernel)
   (case y8 => intro _ h; cases h)))
theorem c_refused {d : Nat} (K : Kd w b a sg sz) : Fn w b (n + 6) (.val (.ref 376)) [.val (.ref a), .int (sz : Int), .bool sg, .int (d : Int)] (.bool true) := by
  have hs := K.hs
  have hs2 := szb hs
  walk_at "enter"
  refine' Ex.asg (d := .int (loK sg (8 * sz))) (Ev.ife (t := sg) (Ts.val ?a1) (fun h => Ev.conv (Ev.neg ?a2) ?a3) (fun h => Ev.conv ?a4 ?a5)) ?a6 ?a7 ?a8
  case a1 => walk_at "ev"
  case a2 => walk_at "ev"
  case a3 => subst h; simp only [loK, if_true]; rw [Int.natCast_pow]; rfl
  case a4 => walk_at "ev"
  case a5 => subst h; rfl
  case a6 => rfl
  case a7 => walk_at "put"
  case a8 =>
    refine' Ex.asg (d := .int (hiK sg (8 * sz))) (Ev.conv ?b1 (congrArg D.int (hi_lo hs))) ?b2 ?b3 ?b4
    case b1 => walk_at "ev"
    case b2 => rfl
    case b3 => walk_at "put"
    case b4 =>
      refine' Ex.cons (Ex1.for_ ?c1 (Io.list (ds := [.tup [.int (loK sg (8 * sz) - ((1 : Nat) : Int) - (d : Int)), .int (loK sg (8 * sz))], .tup [.int (hiK sg (8 * sz) + ((1 : Nat) : Int) + (d : Int)), .int (hiK sg (8 * sz))]]) (Ev.list (Evs.cons (Ev.tuple ?c2 ?c3) (Evs.cons (Ev.tuple ?c4 ?c5) Evs.nil)) ?c6) (cf_all rfl)) (Lp.cont (Tg.tup ?d1) ?d2 (Lp.cont (Tg.tup ?d3) ?d4 Lp.nil))) ?rest
      case c1 => walk_at "pos"
      case c2 => walk_at "evs"
      case c3 => walk_at "size"
      case c4 => walk_at "evs"
      case c5 => walk_at "size"
      case c6 => walk_at "size"
      case d1 => walk_at "tgs"
      case d2 =>
        walk_at "xnumber"
        · rw [clamp_lo (lo_le hs)]; exact bne_self_eq_false _
        · rw [wrap_eq hs, p2]; exact bne_self_eq_false _
        · exact fits_lo hs d
      case d3 => walk_at "tgs"
      case d4 =>
        walk_at "xnumber"
        · rw [clamp_hi (lo_le hs)]; exact bne_self_eq_false _
        · rw [wrap_eq hs, p2]; exact bne_self_eq_false _
        · exact fits_hi hs d
      case rest =>
        refine' Ex.cons (Ex1.for_ ?e1 (Io.list (ds := [.int ((sz - 1 : Nat) : Int), .int ((sz + 1 + d % 9 : Nat) : Int)]) (Ev.list (Evs.cons ?e2 (Evs.cons ?e3 Evs.nil)) ?e4) (cf_all rfl)) (Lp.cont (Tg.nm ?f1 ?f2) ?f3 (Lp.cont (Tg.nm ?f4 ?f5) ?f6 Lp.nil))) (Ex.ret Ev.bool rfl)
        case e1 => walk_at "pos"
        case e2 => walk_at "ev"
        case e3 => walk_at "ev"
        case e4 => walk_at "size"
        case f1 => rfl
        case f2 => walk_at "put"
        case f3 => walk_at "xbytes"
        case f4 => rfl
        case f5 => walk_at "put"
        case f6 => walk_at "xbytes"
end
end
section
section
variable {w : World} {b n : Nat} {sc : Scope} {Γ : List (Str × D)}
theorem and_lt1000 {x y : Nat} (h : x < 2 ^ 1000) : x &&& y < 2 ^ 1000 := Nat.lt_of_le_of_lt Nat.and_le_left h
theorem ExG.asg {x : Str} {e : Expr} {pos pos' : Pos} {d : D} {Γ' : List (Str × D)} {rest : List Stmt} {o : Out} (h : Ev w b n sc Γ e d) (hk : sc.names.lookup x = some .local) (hp : put x d Γ = Γ') (r : ExG w b n sc Γ' rest o)
    (hs : ∀ env, swapsWith e (some (.Name x pos')) pos.line env = pure false) : ExG w b n sc Γ (.Assign [.Name x pos'] e pos :: rest) o := by
  subst hp; exact ExG.cons (Ex1.assign h hk hs) r
theorem ExG.asgC {x : Str} {e : Expr} {pos pos' : Pos} {d : D} {Γ' : List (Str × D)} {rest : List Stmt} {o : Out} (h : Ev w b n sc Γ e d) (hk : sc.names.lookup x = some .cell) (hc : ∀ p ∈ Γ, Cf p.2) (hd : Cf d) (hp : put x d Γ = Γ') (r : ExG w b n sc Γ' rest o)
    (hs : ∀ env, env.kindOf x = some .cell → swapsWith e (some (.Name x pos')) pos.line env = pure false) : ExG w b n sc Γ (.Assign [.Name x pos'] e pos :: rest) o := by
  subst hp; exact ExG.cons (Ex1.assignC h hk hc hd hs) r
noncomputable def Tp (W : Nat) : Nat := 2 ^ (W - 1) * rep W
noncomputable def Rs (W : Nat) : Nat := (2 ^ (W - 1) - 1) * rep W
noncomputable def Fu (W : Nat) : Nat := 2 ^ (3 * W) - 1
noncomputable def spr (W m : Nat) : Nat := (m &&& Tp W) / 2 ^ (W - 1) * (2 ^ W - 1)
noncomputable def pik (W m o t : Nat) : Nat := (o &&& spr W m) ||| (t &&& (Fu W ^^^ spr W m))
theorem rs_le {W x y : Nat} : y &&& Rs W ≤ x ||| Tp W := Nat.le_trans Nat.and_le_right (Nat.le_trans (Nat.mul_le_mul_right _ (Nat.sub_le _ _)) Nat.right_le_or)
local macro_rules | `(tactic| walk_at "side") => `(tactic| exact and_lt1000 (by assumption))
theorem Ev.atPut {x : Str} {d d' : D} {e : Expr} {Γ' : List (Str × D)} (hp : put x d Γ = Γ') (h : Ev w b n sc Γ' e d') : Ev w b n sc (put x d Γ) e d' := by rw [hp]; exact h
local macro_rules | `(tactic| walk_at "ev") => `(tactic| first | (refine' Ev.absI ?z1 ?z2; (case z1 => walk_at "lookS"); (case z2 => decide)) | fail "absI")
local macro_rules | `(tactic| walk_at "fn") => `(tactic| with_reducible exact c_sum)
local macro_rules | `(tactic| walk_at "fn") => `(tactic| first | (with_reducible refine' c_each ?h1 ?h2; (case h1 => walk_at "side"); (case h2 => assumption)) | fail "each")
local macro_rules | `(tactic| walk_at "fn") => `(tactic| first | with_reducible exact c_smeared (by assumption) | with_reducible exact c_ones (by assumption) | with_reducible exact c_product (by assumption))
local macro_rules | `(tactic| walk_at "fn") => `(tactic| exact c_difference rs_le)
local macro_rules | `(tactic| walk_at "bo") => `(tactic| first | (with_reducible refine' Bo.mulB ?h1 ?h2; (case h1 => walk_at "side"); (case h2 => walk_at "side")) | fail "mulB")
theorem hc_nil : ∀ p ∈ ([] : List (Str × D)), Cf p.2 := fun _ h => nomatch h
theorem hc_cons {x : Str} {d : D} {l : List (Str × D)} (h : Cf d) (r : ∀ p ∈ l, Cf p.2) : ∀ p ∈ (x, d) :: l, Cf p.2 := fun p hp => by
  rcases List.mem_cons.mp hp with rfl | hp
  · exact h
  · exact r p hp
local macro_rules | `(tactic| walk_at "hc") => `(tactic| first
  | exact hc_nil
  | (refine' hc_cons ?c1 ?c2; (case c1 => first | exact Cf.int _ | exact Cf.intTb); (case c2 => walk_at "hc"))
  | fail "hc")
noncomputable def dAdd (W x y : Nat) : Nat := lsum x y (Tp W) (Rs W)
noncomputable def dTak (W x y : Nat) : Nat := ldif x y (Tp W) (Rs W)
noncomputable def dPro (W x y : Nat) : Nat := lprod W x y (Tp W) (Rs W)
noncomputable def dLast (W x : Nat) : Nat := Rs W + (x &&& Tp W) / 2 ^ (W - 1)
noncomputable def dKeep (W t : Nat) : Nat := (2 ^ (W - t) - 1) * rep W
noncomputable def dSpill (W t : Nat) : Nat := (2 ^ t - 1) * rep W
noncomputable def dUp (W t x : Nat) : Nat := (x &&& dKeep W t) * 2 ^ t
noncomputable def dDown (W t x : Nat) : Nat := x / 2 ^ t &&& dKeep W t
noncomputable def dAddS (W x y : Nat) : Nat := dAdd W x y ||| spr W ((x &&& y) ||| ((x ||| y) &&& (Fu W ^^^ dAdd W x y)))
noncomputable def dTakS (W x y : Nat) : Nat := dTak W x y &&& (Fu W ^^^ spr W (((Fu W ^^^ x) &&& y) ||| (((Fu W ^^^ x) ||| y) &&& dTak W x y)))
noncomputable def dRl (W t x : Nat) : Nat := dUp W t x ||| (x / 2 ^ (W - t) &&& dSpill W t)
noncomputable def dRr (W t x : Nat) : Nat := dDown W t x ||| ((x &&& dSpill W t) * 2 ^ (W - t))
noncomputable def dClz (W x : Nat) : Nat := ones W (Fu W ^^^ smeared W x)
noncomputable def dCtz (W x : Nat) : Nat := ones W ((Fu W ^^^ x) &&& ldif x (1 * rep W) (Tp W) (Rs W))
noncomputable def dAddI (W x y : Nat) : Nat := pik W ((Fu W ^^^ x ^^^ y) &&& (x ^^^ dAdd W x y)) (dLast W x) (dAdd W x y)
noncomputable def dTakI (W x y : Nat) : Nat := pik W ((x ^^^ y) &&& (x ^^^ dTak W x y)) (dLast W x) (dTak W x y)
noncomputable def dSar (W t x : Nat) : Nat := dDown W t x ||| (spr W x &&& (Fu W ^^^ dKeep W t))
noncomputable def plainL (W t x y : Nat) : List Nat := [dAdd W x y, dTak W x y, dPro W x y, dAddS W x y, dTakS W x y, dUp W t x, dDown W t x, dRl W t x, dRr W t x, dClz W x, dCtz W x, ones W x]
noncomputable def signsL (W t x y : Nat) : List Nat := [dAdd W x y, dTak W x y, dPro W x y, dAddI W x y, dTakI W x y, dUp W t x, dSar W t x]
theorem mem1 {P : Str → Prop} {a : Str} (h : P a) : ∀ y ∈ [a], P y := fun y hy => by rw [List.mem_singleton.mp hy]; exact h
theorem mem3 {P : Str → Prop} {a b c : Str} (h : P a) (h' : P b) (h'' : P c) : ∀ y ∈ [a, b, c], P y := fun y hy => by
  simp only [List.mem_cons, List.not_mem_nil, or_false] at hy
  rcases hy with rfl | rfl | rfl <;> assumption
theorem mem2 {P : Str × D → Prop} {a b : Str × D} (h : P a) (h' : P b) : ∀ y ∈ [a, b], P y := fun y hy => by
  simp only [List.mem_cons, List.not_mem_nil, or_false] at hy
  rcases hy with rfl | rfl <;> assumption
theorem ExG.defCP {P : Abs → Prop} {name tn : Str} {params : Arguments} {body : List Stmt} {scope : Scope} {pos : Pos} {rest : List Stmt} {caps : List (Str × D)} {o : Out} {i : Int}
    (ht : look tn Γ = some (.abs (intTb i))) (hc : Caps sc Γ scope.names caps) (hk : sc.names.lookup name = some .cell) (hd0 : params.defaults = []) (hk0 : params.kw_defaults = []) (ha : ∀ env, annTrees params none env = [])
    (hq : (Str.ofString "_law_dues" ++ ".<locals>.") ++ name = qualAt pos) (hcd : codeHdIn (hd.heap_1 w.params) 358 354 = true)
    (hcf : ∀ p ∈ Γ, Cf p.2) (hcc : ∀ p ∈ caps, Cf p.2 ∧ p.1 ≠ name) (spec : P (fnV name (qualAt pos) params body scope caps))
    (r : ∀ F, P F → ExG w b n sc (put name (.abs F) Γ) rest o) : ExG w b n sc Γ (.FunctionDef name params body [] none [] scope none name pos :: rest) o :=
  ExG.defC ht hc hk hd0 hk0 ha hq hcd hcf hcc (r _ spec)
theorem ExG.defP {P : Abs → Prop} {name tn : Str} {params : Arguments} {body : List Stmt} {scope : Scope} {pos : Pos} {rest : List Stmt} {caps : List (Str × D)} {o : Out} {i : Int}
    (ht : look tn Γ = some (.abs (intTb i))) (hc : Caps sc Γ scope.names caps) (hk : sc.names.lookup name = some .local) (hd0 : params.defaults = []) (hk0 : params.kw_defaults = []) (ha : ∀ env, annTrees params none env = [])
    (hq : (Str.ofString "_law_dues" ++ ".<locals>.") ++ name = qualAt pos) (hcd : codeHdIn (hd.heap_1 w.params) 358 354 = true) (spec : P (fnV name (qualAt pos) params body scope caps))
    (r : ∀ F, P F → ExG w b n sc (put name (.abs F) Γ) rest o) : ExG w b n sc Γ (.FunctionDef name params body [] none [] scope none name pos :: rest) o :=
  ExG.def_ ht hc hk hd0 hk0 ha hq hcd (r _ spec)
/-- what the defs within give back -/
structure SprOk (w : World) (b W : Nat) (F : Abs) : Prop where
  f : ∀ k m : Nat, Fn w b (k + 2) (.abs F) [.int (m : Int)] (.int ((spr W m : Nat) : Int))
structure PikOk (w : World) (b n W : Nat) (F : Abs) : Prop where
  f : ∀ m o t : Nat, Fn w b n (.abs F) [.int (m : Int), .int (o : Int), .int (t : Int)] (.int ((pik W m o t : Nat) : Int))
local macro_rules | `(tactic| walk_at "fn") => `(tactic| first | with_reducible exact PikOk.f (by assumption) _ _ _ | with_reducible exact SprOk.f (by assumption) _ _)
set_option maxHeartbeats 4000000 in
theorem c_dues {x y t W : Nat} (hW : W = 8 ∨ W = 16 ∨ W = 64) (ht : t < W) (hx : x < 2 ^ 1000) : FnG w b (n + 8) (.val (.ref 359)) [.int (x : Int), .int (y : Int), .abs (intTb (t : Int)), .int (W : Int)] (.tup [.list (nD (plainL W t x y)), .list (nD (signsL W t x y))]) := by
  have hW2 := wdb hW
  refine' FnG.enterP ?ho ?hcd ?hb ?hl ?hkd ?hnd ?c1 ?c2 ?c3 ?hK ?body
  case ho => k_is
  case hcd => k_is
  case hb => exact args4 fun _ _ _ _ => rfl
  case hl => rfl
  case hkd => rfl
  case hnd => decide +kernel
  case c1 => rfl
  case c2 => rfl
  case c3 => rfl
  case hK => kernel_rfl
  case body =>
    dsimp only [List.map, List.zip, List.zipWith]
    refine' ExG.asgC (d := .int (Tp W : Nat)) (Ev.conv ?a1 ?a1q) ?a2 ?a3 (.int _) ?a4 (ExG.asg (d := .int (Rs W : Nat)) (Ev.conv ?b1 ?b1q) ?b2 ?b3 (ExG.asgC (d := .int (Fu W : Nat)) (Ev.conv ?d1 ?d1q) ?d2 ?d3 (.int _) ?d4 ?e1 ?d5) ?b4) ?a5
    case a1 => walk_at "ev"
    case a1q => rfl
    case a2 => rfl
    case a3 => walk_at "hc"
    case a4 => walk_at "put"
    case a5 => exact fun _ _ => rfl
    case b1 => walk_at "ev"
    case b1q => rfl
    case b2 => rfl
    case b3 => walk_at "put"
    case b4 => exact fun _ => rfl
    case d1 => walk_at "ev"
    case d1q => rfl
    case d2 => rfl
    case d3 => walk_at "hc"
    case d4 => walk_at "put"
    case d5 => exact fun _ _ => rfl
    case e1 =>
      refine' ExG.defCP (P := SprOk w b W) (tn := Str.ofString "turn") (i := (t : Int)) ?f1 ?f2 ?f3 rfl rfl (fun _ => rfl) ?f4 ?f5 ?f6 ?f7 ?fs (fun S hS => ?f8)
      case f1 => walk_at "look"
      case f2 => walk_at "caps"
      case f3 => rfl
      case f4 => rfl
      case f5 => kernel_rfl
      case f6 => walk_at "hc"
      case f7 => 
        intro p hp; simp only [List.mem_cons, List.not_mem_nil, or_false] at hp; rcases hp with h | h <;> subst h <;> exact ⟨.int _, by simp [ofs_inj]⟩
      case fs =>
        refine ⟨fun k m => ?_⟩
        refine' Fn.clos (ns := [Str.ofString "marks"]) ?c1 ?c2 ?c3 ?c4 ?c5 ?c6 ?c7 ?c8 ?c9 ?c10 ?c11
        (case c1 => exact fun cl doc pm cdv ct => args1 fun _ => rfl)
        (case c2 => rfl)
        (case c3 => exact mem1 rfl)
        (case c4 => intro y h; have := lookup_mem h; simp at this)
        (case c5 => decide +kernel)
        (case c6 => exact mem2 ⟨rfl, by dsimp only; decide⟩ ⟨rfl, by dsimp only; decide⟩)
        (case c7 => simp only [List.map, List.cons_append, List.nil_append]; decide +kernel)
        (case c8 => rfl)
        (case c9 => rfl)
        (case c10 => rfl)
        (case c11 => simp only [List.zip, List.zipWith, List.cons_append, List.nil_append]; refine' Ex.ret ?c12 ?c13; (case c12 => walk_at "ev"); (case c13 => rfl))
      case f8 =>
        simp only [put, ofs_inj, String.reduceEq, if_false, if_true]
        refine' ExG.defP (P := PikOk w b (n + 7) W) (tn := Str.ofString "turn") (i := (t : Int)) ?g1 ?g2 ?g3 rfl rfl (fun _ => rfl) ?g4 ?g5 ?gs (fun T hT => ?g8)
        case g1 => walk_at "look"
        case g2 => walk_at "caps"
        case g3 => rfl
        case g4 => rfl
        case g5 => kernel_rfl
        case gs =>
          refine ⟨fun m o t => ?_⟩
          refine' Fn.clos (ns := [Str.ofString "marks", Str.ofString "one", Str.ofString "two"]) ?c1 ?c2 ?c3 ?c4 ?c5 ?c6 ?c7 ?c8 ?c9 ?c10 ?c11
          (case c1 => exact fun cl doc pm cdv ct => args3 fun _ _ _ => rfl)
          (case c2 => rfl)
          (case c3 => exact mem3 rfl rfl rfl)
          (case c4 => intro y h; have := lookup_mem h; simp at this)
          (case c5 => decide +kernel)
          (case c6 => exact mem2 ⟨rfl, by dsimp only; decide⟩ ⟨rfl, by dsimp only; decide⟩)
          (case c7 => simp only [List.map, List.cons_append, List.nil_append]; decide +kernel)
          (case c8 => rfl)
          (case c9 => rfl)
          (case c10 => rfl)
          (case c11 => simp only [List.zip, List.zipWith, List.cons_append, List.nil_append]; refine' Ex.ret ?c12 ?c13; (case c12 => walk_at "ev"); (case c13 => rfl))
        case g8 =>
          simp only [put, ofs_inj, String.reduceEq, if_false, if_true]
          refine ExG.of (x := Str.ofString "turn") (i := (t : Int)) (by walk_at "look") ?_
          refine' Ex.asg (d := .int ((dAdd W x y : Nat) : Int)) (Ev.conv ?s1a ?s1b) ?s1c ?s1d ?s1e ?s1f
          case s1a => walk_at "ev"
          case s1b => rfl
          case s1c => rfl
          case s1d => walk_at "put"
          case s1f => exact fun _ => rfl
          case s1e =>
            refine' Ex.asg (d := .int ((dTak W x y : Nat) : Int)) (Ev.conv ?s2a ?s2b) ?s2c ?s2d ?s2e ?s2f
            case s2a => walk_at "ev"
            case s2b => rfl
            case s2c => rfl
            case s2d => walk_at "put"
            case s2f => exact fun _ => rfl
            case s2e =>
              refine' Ex.asg (d := .int ((dPro W x y : Nat) : Int)) (Ev.conv ?s3a ?s3b) ?s3c ?s3d ?s3e ?s3f
              case s3a => walk_at "ev"
              case s3b => rfl
              case s3c => rfl
              case s3d => walk_at "put"
              case s3f => exact fun _ => rfl
              case s3e =>
                refine' Ex.asg (d := .int ((dLast W x : Nat) : Int)) (Ev.conv ?s4a ?s4b) ?s4c ?s4d ?s4e ?s4f
                case s4a => walk_at "ev"
                case s4b => rfl
                case s4c => rfl
                case s4d => walk_at "put"
                case s4f => exact fun _ => rfl
                case s4e =>
                  refine' Ex.asg (d := .int ((dKeep W t : Nat) : Int)) (Ev.conv ?s5a ?s5b) ?s5c ?s5d ?s5e ?s5f
                  case s5a => walk_at "ev"
                  case s5b => rfl
                  case s5c => rfl
                  case s5d => walk_at "put"
                  case s5f => exact fun _ => rfl
                  case s5e =>
                    refine' Ex.asg (d := .int ((dSpill W t : Nat) : Int)) (Ev.conv ?s6a ?s6b) ?s6c ?s6d ?s6e ?s6f
                    case s6a => walk_at "ev"
                    case s6b => rfl
                    case s6c => rfl
                    case s6d => walk_at "put"
                    case s6f => exact fun _ => rfl
                    case s6e =>
                      refine' Ex.asg (d := .int ((dUp W t x : Nat) : Int)) (Ev.conv ?s7a ?s7b) ?s7c ?s7d ?s7e ?s7f
                      case s7a => walk_at "ev"
                      case s7b => rfl
                      case s7c => rfl
                      case s7d => walk_at "put"
                      case s7f => exact fun _ => rfl
                      case s7e =>
                        refine' Ex.asg (d := .int ((dDown W t x : Nat) : Int)) (Ev.conv ?s8a ?s8b) ?s8c ?s8d ?s8e ?s8f
                        case s8a => walk_at "ev"
                        case s8b => rfl
                        case s8c => rfl
                        case s8d => walk_at "put"
                        case s8f => exact fun _ => rfl
                        case s8e =>
                          refine' Hot.start (is := [((dAdd W x y : Nat) : Int), ((dTak W x y : Nat) : Int), ((dPro W x y : Nat) : Int)]) (EvL.list ?p1 ?p2) ?p3 ?p4
                          case p1 => walk_at "evs"
                          case p2 => walk_at "size"
                          case p3 => rfl
                          case p4 =>
                            refine' Hot.append (i := ((dAddS W x y : Nat) : Int)) (fun a => Ev.atPut ?q1p (Ev.conv ?q1a ?q1b)) ?q1c ?q1d
                            case q1p => walk_at "put"
                            case q1a => walk_at "ev"
                            case q1b => rfl
                            case q1c => walk_at "size"
                            case q1d =>
                              refine' Hot.append (i := ((dTakS W x y : Nat) : Int)) (fun a => Ev.atPut ?q2p (Ev.conv ?q2a ?q2b)) ?q2c ?q2d
                              case q2p => walk_at "put"
                              case q2a => walk_at "ev"
                              case q2b => rfl
                              case q2c => walk_at "size"
                              case q2d =>
                                refine Hot.stop ?_
                                simp only [put, ofs_inj, String.reduceEq, if_false, if_true]
                                refine' Hot.start (EvL.cat (ys := [((dUp W t x : Nat) : Int), ((dDown W t x : Nat) : Int), ((dRl W t x : Nat) : Int), ((dRr W t x : Nat) : Int)]) ?r1 (Ev.conv ?r2 ?r3) ?r4) ?r5 ?r6
                                case r1 => walk_at "ev"
                                case r2 => walk_at "ev"
                                case r3 => rfl
                                case r4 => walk_at "size"
                                case r5 => rfl
                                case r6 =>
                                  refine' Hot.append (i := ((dClz W x : Nat) : Int)) (fun a => Ev.atPut ?q3p (Ev.conv ?q3a ?q3b)) ?q3c ?q3d
                                  case q3p => walk_at "put"
                                  case q3a => walk_at "ev"
                                  case q3b => rfl
                                  case q3c => walk_at "size"
                                  case q3d =>
                                    refine' Hot.append (i := ((dCtz W x : Nat) : Int)) (fun a => Ev.atPut ?q4p (Ev.conv ?q4a ?q4b)) ?q4c ?q4d
                                    case q4p => walk_at "put"
                                    case q4a => walk_at "ev"
                                    case q4b => rfl
                                    case q4c => walk_at "size"
                                    case q4d =>
                                      refine' Hot.append (i := ((ones W x : Nat) : Int)) (fun a => Ev.atPut ?q5p (Ev.conv ?q5a ?q5b)) ?q5c ?q5d
                                      case q5p => walk_at "put"
                                      case q5a => walk_at "ev"
                                      case q5b => rfl
                                      case q5c => walk_at "size"
                                      case q5d =>
                                        refine Hot.stop ?_
                                        simp only [put, ofs_inj, String.reduceEq, if_false, if_true]
                                        refine' Hot.start (is := [((dAdd W x y : Nat) : Int), ((dTak W x y : Nat) : Int), ((dPro W x y : Nat) : Int)]) (EvL.list ?t1 ?t2) ?t3 ?t4
                                        case t1 => walk_at "evs"
                                        case t2 => walk_at "size"
                                        case t3 => rfl
                                        case t4 =>
                                          refine' Hot.append (i := ((dAddI W x y : Nat) : Int)) (fun a => Ev.atPut ?q6p (Ev.conv ?q6a ?q6b)) ?q6c ?q6d
                                          case q6p => walk_at "put"
                                          case q6a => walk_at "ev"
                                          case q6b => rfl
                                          case q6c => walk_at "size"
                                          case q6d =>
                                            refine' Hot.append (i := ((dTakI W x y : Nat) : Int)) (fun a => Ev.atPut ?q7p (Ev.conv ?q7a ?q7b)) ?q7c ?q7d
                                            case q7p => walk_at "put"
                                            case q7a => walk_at "ev"
                                            case q7b => rfl
                                            case q7c => walk_at "size"
                                            case q7d =>
                                              refine Hot.stop ?_
                                              simp only [put, ofs_inj, String.reduceEq, if_false, if_true]
                                              refine' Ex.ret (Ev.tuple (Evs.cons ?u1 (Evs.cons (Ev.bin ?u2 ?u3 (Ev.list (Evs.cons ?u4 (Evs.cons (Ev.conv (d := .int ((dSar W t x : Nat) : Int)) ?u5 ?u6) Evs.nil)) ?u7) (Bo.cat ?u8)) Evs.nil)) ?u9) ?u10
                                              case u1 => walk_at "ev"
                                              case u2 => walk_at "pos"
                                              case u3 => walk_at "ev"
                                              case u4 => walk_at "ev"
                                              case u5 => walk_at "ev"
                                              case u6 => rfl
                                              case u7 => walk_at "size"
                                              case u8 => walk_at "size"
                                              case u9 => walk_at "size"
                                              case u10 => rfl
end
end
section
section
variable {w : World} {b n : Nat} {a : Addr} {sg : Bool} {sz : Nat} {sc : Scope} {Γ : List (Str × D)}
theorem Cm.map {α : Type} {caps : List (Str × D)} {t elt : Expr} {D' E' : α → D} : ∀ (l : List α), (∀ x ∈ l, ∃ Γ', Tg w b sc caps t (D' x) Γ' ∧ EvF w b n sc Γ' elt (E' x)) → Cm w b n sc caps t elt (l.map D') (l.map E')
  | [], _ => .nil
  | x :: l, h => by
    obtain ⟨Γ', h1, h2⟩ := h x (.head _)
    exact .cons h1 h2 (Cm.map l fun y hy => h y (.tail _ hy))
theorem Ex.asgC {x : Str} {e : Expr} {pos pos' : Pos} {d : D} {Γ' : List (Str × D)} {rest : List Stmt} {o : Out} (h : Ev w b n sc Γ e d) (hk : sc.names.lookup x = some .cell) (hc : ∀ p ∈ Γ, Cf p.2) (hd : Cf d) (hp : put x d Γ = Γ') (r : Ex w b n sc Γ' rest o)
    (hs : ∀ env, env.kindOf x = some .cell → swapsWith e (some (.Name x pos')) pos.line env = pure false) : Ex w b n sc Γ (.Assign [.Name x pos'] e pos :: rest) o := by
  subst hp; exact Ex.cons (Ex1.assignC h hk hc hd hs) r
/-- the octets of a number -/
noncomputable def oct8 (x k : Nat) : List Nat := (List.range k).map fun p => x / 256 ^ p % 256
noncomputable def laneN (W x p : Nat) : Nat := x / 2 ^ (W * p) % 2 ^ W
noncomputable def lanesD (W : Nat) (sg : Bool) (x : Nat) : List D := [.int (sgn W sg (laneN W x 0)), .int (sgn W sg (laneN W x 1)), .int (sgn W sg (laneN W x 2))]
theorem oct8_len {x k : Nat} : (oct8 x k).length = k := by unfold oct8; simp
theorem oct8_lt {x k : Nat} : ∀ o ∈ oct8 x k, o < 256 := fun o ho => by
  obtain ⟨p, _, rfl⟩ := List.mem_map.mp ho
  exact Nat.mod_lt _ (by decide)
theorem cf_nD {l : List Nat} : Cf (.list (nD l)) := .list _ fun d hd => by obtain ⟨i, _, rfl⟩ := List.mem_map.mp hd; exact .int _
theorem fl_ints {l : List D} (h : ∀ d ∈ l, ∃ i, d = .int i) : Fl 2 (.list l) := .list _ _ fun d hd => by obtain ⟨i, rfl⟩ := h d hd; exact .int _ _
local macro_rules | `(tactic| walk_at "hc") => `(tactic| first
  | exact hc_nil
  | (refine' hc_cons ?c1 ?c2; (case c1 => first | exact Cf.int _ | exact Cf.val _ | exact Cf.bool _ | exact cf_nD); (case c2 => walk_at "hc"))
  | fail "hc")
local macro_rules | `(tactic| walk_at "fn") => `(tactic| first | with_reducible exact FnF.fn (c_lanes (by assumption)) | with_reducible exact c_refused (by assumption) | with_reducible exact c_read (by assumption) oct8_len oct8_lt)
theorem pw256 {p : Nat} (h : p < 24) : 256 ^ p < 2 ^ 1000 := by
  rw [show 256 = 2 ^ 8 from rfl, ← Nat.pow_mul]; exact pw (by omega)
theorem ev_octs {xn pn : Str} {q1 q2 q3 q4 q5 q6 q7 : Pos} {k1 k2} {x p : Nat} (hn : 0 < n) (hx : Ev w b n sc Γ (.Name xn q1) (.int (x : Int))) (hp : Ev w b n sc Γ (.Name pn q2) (.int (p : Int))) (hl : p < 24) :
    EvF w b n sc Γ (.BinOp (.BinOp (.Name xn q1) .FloorDiv (.BinOp (.Constant (.int 256) k1 q3) .Pow (.Name pn q2) q4) q5) .Mod (.Constant (.int 256) k2 q7) q6) (.int ((x / 256 ^ p % 256 : Nat) : Int)) :=
  EvF.int (Ev.bin hn (Ev.bin hn hx (Ev.bin hn (Ev.nat (k := 256)) hp (Bo.powN (by omega) (by omega))) (Bo.divN (Nat.pow_pos (by decide)) (pw256 hl))) (Ev.nat (k := 256)) (Bo.modN (by decide)))

theorem oct_comp {x : Nat} : (dInts (3 * sz)) = (List.range (3 * sz)).map (fun p : Nat => D.int (p : Int)) := rfl
theorem oct_nD {x : Nat} : nD (oct8 x (3 * sz)) = (List.range (3 * sz)).map (fun p : Nat => D.int ((x / 256 ^ p % 256 : Nat) : Int)) := by unfold nD oct8; rw [List.map_map]; rfl
local macro_rules | `(tactic| walk_at "octc") => `(tactic|
  (refine' Ev.conv (EvF.ev (EvF.comp ?on (Io.rng ?of ?oe ?op (oct_comp (x := 0)) ?oh) ?oc (Cm.map _ fun p hp => ⟨_, ?ot, ev_octs ?o1 ?o2 ?o3 (by have := List.mem_range.mp hp; omega)⟩) ?ok ?ol ?od ?oz ?os)) (congrArg D.list oct_nD.symm)
   (case os => exact fun _ _ => rfl)
   (case on => walk_at "pos")
   (case oh => exact fun _ => rfl)
   (case of => walk_at "ev")
   (case oe => walk_at "ev")
   (case op => walk_at "pos")
   (case oc => walk_at "caps")
   (case ot => walk_at "tg")
   (case o1 => walk_at "pos")
   (case o2 => walk_at "ev")
   (case o3 => walk_at "ev")
   (case ok => rfl)
   (case ol => decide +kernel)
   (case od => decide +kernel)
   (case oz => rw [List.length_map, List.length_range]; exact eight_size (by omega))))
theorem EvF.conv {e : Expr} {d d' : D} (h : EvF w b n sc Γ e d') (q : d' = d) : EvF w b n sc Γ e d := q ▸ h
theorem fl_lanes {W : Nat} {x : Nat} : Fl 2 (.list (lanesD W sg x)) := fl_ints fun d hd => by
  unfold lanesD at hd
  simp only [List.mem_cons, List.not_mem_nil, or_false] at hd
  rcases hd with rfl | rfl | rfl <;> exact ⟨_, rfl⟩
theorem fl_nD {l : List Nat} : Fl 2 (.list (nD l)) := fl_ints nD_int
theorem cf_lanes {W : Nat} {x : Nat} : ∀ d ∈ lanesD W sg x, Cf d := cf_all rfl
theorem fl_two {k : Nat} {a b : D} (h : Fl k a) (h' : Fl k b) : Fl (k + 1) (.list [a, b]) := .list _ _ fun d hd => by
  simp only [List.mem_cons, List.not_mem_nil, or_false] at hd
  rcases hd with rfl | rfl <;> assumption
theorem fl_three {k : Nat} {a b c : D} (h : Fl k a) (h' : Fl k b) (h'' : Fl k c) : Fl (k + 1) (.list [a, b, c]) := .list _ _ fun d hd => by
  simp only [List.mem_cons, List.not_mem_nil, or_false] at hd
  rcases hd with rfl | rfl | rfl <;> assumption
theorem fl_map {l : List Nat} {f : Nat → D} {k : Nat} (h : ∀ u, Fl k (f u)) : Fl (k + 1) (.list (l.map f)) := .list _ _ fun d hd => by
  obtain ⟨u, _, rfl⟩ := List.mem_map.mp hd; exact h u
theorem lanes_read {z : Nat} (hX : ∀ z p, p < 3 → fromB sg (octB (oct8 z (3 * sz)) sz p) = sgn (8 * sz) sg (laneN (8 * sz) z p)) :
    D.list [.int (fromB sg (octB (oct8 z (3 * sz)) sz 0)), .int (fromB sg (octB (oct8 z (3 * sz)) sz 1)), .int (fromB sg (octB (oct8 z (3 * sz)) sz 2))] = .list (lanesD (8 * sz) sg z) := by
  unfold lanesD; rw [hX z 0 (by decide), hX z 1 (by decide), hX z 2 (by decide)]
theorem c_same {x y c d : Nat} {dues : List Nat} (K : Kd w b a sg sz)
    (hX : ∀ z p, p < 3 → fromB sg (octB (oct8 z (3 * sz)) sz p) = sgn (8 * sz) sg (laneN (8 * sz) z p))
    (hF : ∀ p, p < 3 → fitsB sg (sgn (8 * sz) sg (laneN (8 * sz) x p)) sz = true)
    (hL : ∀ p, p < 3 → ((KTBy.low (sgn (8 * sz) sg (laneN (8 * sz) x p)) sz).toArray.toList.map fun c => D.int ((c.toNat : Nat) : Int)) = nD (octs (oct8 x (3 * sz)) sz p))
    (hT : Fn w b (n + 8) (.val (.ref 364)) [.val (.ref a), .list (lanesD (8 * sz) sg x), .list (lanesD (8 * sz) sg y), .int (c : Int), .bool sg] (.list (dues.map fun u => .list (lanesD (8 * sz) sg u))))
    (hdl : dues.length ≤ 12) :
    Fn w b (n + 9) (.val (.ref 381)) [.val (.ref a), .int (sz : Int), .bool sg, .int (x : Int), .int (y : Int), .int (c : Int), .list (nD dues), .int (d : Int)] (.bool true) := by
  have hs := K.hs
  have hs2 := szb hs
  have hW := K.w64
  have hW2 := wdb hW
  walk_at "enter"
  refine' Ex.asgC (d := .list (nD (oct8 x (3 * sz)))) ?a1 ?a2 ?a3 cf_nD ?a4 ?a5 ?a6
  case a1 => walk_at "octc"
  case a2 => rfl
  case a3 => walk_at "hc"
  case a4 => walk_at "put"
  case a6 => exact fun _ h => swapsWith_comp_cell h
  case a5 =>
    refine' Ex.asg (d := .list (lanesD (8 * sz) sg x)) (Ev.conv ?b1 (lanes_read hX)) ?b2 ?b3 ?b4
    case b1 => walk_at "ev"
    case b2 => rfl
    case b3 => walk_at "put"
    case b4 =>
      refine' Ex.asg (d := .list (lanesD (8 * sz) sg y)) (Ev.conv (Ev.call ?d1 (Evs.cons ?d2 (Evs.cons ?d3 (Evs.cons (d := .list (nD (oct8 y (3 * sz)))) ?d4 Evs.nil))) ?d5) (lanes_read hX)) ?d6 ?d7 ?d8
      case d1 => walk_at "ev"
      case d2 => walk_at "ev"
      case d3 => walk_at "ev"
      case d4 => walk_at "octc"
      case d5 => exact c_read (by assumption) oct8_len oct8_lt
      case d6 => rfl
      case d7 => walk_at "put"
      case d8 =>
        refine' Ex.cons (Ex1.ifs (t := false) (Ts.conv (Ts.cmp ?e1 (Ev.list (Evs.cons ?e2 (Evs.cons ?e3 Evs.nil)) ?e4) (Ev.list (Evs.cons (d := .list (lanesD (8 * sz) sg x)) (Ev.conv ?e5 ?e5q) (Evs.cons (d := .list (lanesD (8 * sz) sg y)) (Ev.conv ?e6 ?e6q) Evs.nil)) ?e7) (Co.same (k := 2) ?e8 ?e9)) rfl) (fun h => by cases h) (fun _ => Ex.nil)) ?f
        case e1 => walk_at "pos"
        case e2 => walk_at "ev"
        case e3 => walk_at "ev"
        case e4 => walk_at "size"
        case e5 => walk_at "ev"
        case e5q => rfl
        case e6 => walk_at "ev"
        case e6q => rfl
        case e7 => walk_at "size"
        case e8 => exact fl_two fl_lanes fl_lanes
        case e9 => decide
        case f => 
          have hk : ∀ i : Int, (KTBy.low i sz).toArray.size ≤ sizeLine := fun i => by
            rw [List.size_toArray, KTBy.low_length]; exact eight_size (by omega)
          refine' Ex.cons (Ex1.ifs (t := false) (Ts.conv (Ts.cmp (d₁ := .list [.list (nD (octs (oct8 x (3 * sz)) sz 0)), .list (nD (octs (oct8 x (3 * sz)) sz 1)), .list (nD (octs (oct8 x (3 * sz)) sz 2))]) ?g1 (EvF.ev (EvF.comp ?g2 (Io.list (ds := lanesD (8 * sz) sg x) ?g3 cf_lanes) ?g4 ?g5 ?g6 ?g7 ?g8 ?g9 ?g10)) (EvF.ev (EvF.comp ?h2 (Io.rng ?h3 ?h4 ?h5 (show dInts 3 = [.int ((0 : Nat) : Int), .int ((1 : Nat) : Int), .int ((2 : Nat) : Int)] from rfl) ?h11) ?h6 (Cm.cons ?k1 (oct_ev oct8_len (by decide) ?k2 ?k3 ?k4 ?k5) (Cm.cons ?l1 (oct_ev oct8_len (by decide) ?l2 ?l3 ?l4 ?l5) (Cm.cons ?m1 (oct_ev oct8_len (by decide) ?m2 ?m3 ?m4 ?m5) Cm.nil))) ?h7 ?h8 ?h9 ?h10 ?h12)) (Co.same (k := 2) ?g11 ?g12)) rfl) (fun h => by cases h) (fun _ => Ex.nil)) ?t
          case g1 => walk_at "pos"
          case g2 => walk_at "pos"
          case g3 => walk_at "ev"
          case g4 => walk_at "caps"
          case g5 =>
            unfold lanesD
            refine' Cm.cons ?ia1 (EvF.conv (EvF.call ?ia2 (Evs.cons (Ev.meth ?ia3 ?ia4 (Evs.cons ?ia5 Evs.nil) (c_into K (hF 0 (by decide)))) Evs.nil) (FnF.listB ?ia6 ?ia7)) (congrArg D.list (hL 0 (by decide)))) ?ia8
            (case ia1 => walk_at "tg")
            (case ia2 => walk_at "ev")
            (case ia3 => walk_at "ev")
            (case ia4 => walk_at "kmeth")
            (case ia5 => walk_at "ev")
            (case ia6 => walk_at "pos")
            (case ia7 => exact hk _)
            refine' Cm.cons ?ib1 (EvF.conv (EvF.call ?ib2 (Evs.cons (Ev.meth ?ib3 ?ib4 (Evs.cons ?ib5 Evs.nil) (c_into K (hF 1 (by decide)))) Evs.nil) (FnF.listB ?ib6 ?ib7)) (congrArg D.list (hL 1 (by decide)))) ?ib8
            (case ib1 => walk_at "tg")
            (case ib2 => walk_at "ev")
            (case ib3 => walk_at "ev")
            (case ib4 => walk_at "kmeth")
            (case ib5 => walk_at "ev")
            (case ib6 => walk_at "pos")
            (case ib7 => exact hk _)
            refine' Cm.cons ?ic1 (EvF.conv (EvF.call ?ic2 (Evs.cons (Ev.meth ?ic3 ?ic4 (Evs.cons ?ic5 Evs.nil) (c_into K (hF 2 (by decide)))) Evs.nil) (FnF.listB ?ic6 ?ic7)) (congrArg D.list (hL 2 (by decide)))) ?ic8
            (case ic1 => walk_at "tg")
            (case ic2 => walk_at "ev")
            (case ic3 => walk_at "ev")
            (case ic4 => walk_at "kmeth")
            (case ic5 => walk_at "ev")
            (case ic6 => walk_at "pos")
            (case ic7 => exact hk _)
            exact Cm.nil
          case g6 => rfl
          case g7 => decide +kernel
          case g8 => decide +kernel
          case g9 => exact eight_size (show 3 ≤ 300 by decide)
          case g10 => exact fun _ _ => rfl
          case h2 => walk_at "pos"
          case h3 => walk_at "ev"
          case h4 => walk_at "ev"
          case h5 => decide
          case h11 => exact fun _ => rfl
          case h6 => walk_at "caps"
          case k1 => walk_at "tg"
          case k2 => walk_at "pos"
          case k3 => walk_at "ev"
          case k4 => walk_at "ev"
          case k5 => walk_at "ev"
          case l1 => walk_at "tg"
          case l2 => walk_at "pos"
          case l3 => walk_at "ev"
          case l4 => walk_at "ev"
          case l5 => walk_at "ev"
          case m1 => walk_at "tg"
          case m2 => walk_at "pos"
          case m3 => walk_at "ev"
          case m4 => walk_at "ev"
          case m5 => walk_at "ev"
          case h7 => rfl
          case h8 => decide +kernel
          case h9 => decide +kernel
          case h10 => exact eight_size (by decide)
          case h12 => exact fun _ _ => rfl
          case g11 => exact fl_three fl_nD fl_nD fl_nD
          case g12 => decide
          case t =>
            refine' Ex.cons (Ex1.ifs (t := false) (Ts.conv (Ts.cmp (d₁ := .list (dues.map fun u => .list (lanesD (8 * sz) sg u))) ?o1 (Ev.call ?o2 (Evs.cons ?o3 (Evs.cons ?o4 (Evs.cons ?o5 (Evs.cons ?o6 (Evs.cons ?o7 Evs.nil))))) hT) (EvF.ev (EvF.comp ?p2 (Io.list (ds := dues.map fun (u : Nat) => D.int (u : Int)) ?p3 ?p4) ?p5 (Cm.map _ fun u hu => ⟨_, ?p6, EvF.conv (EvF.call ?p7 (Evs.cons ?q1 (Evs.cons ?q2 (Evs.cons ?q3 Evs.nil))) (c_lanes hW)) rfl⟩) ?p8 ?p9 ?p10 ?p11 ?p12)) (Co.same (k := 2) ?p13 ?p14)) rfl) (fun h => by cases h) (fun _ => Ex.nil)) ?u
            case o1 => walk_at "pos"
            case o2 => walk_at "ev"
            case o3 => walk_at "ev"
            case o4 => walk_at "ev"
            case o5 => walk_at "ev"
            case o6 => walk_at "ev"
            case o7 => walk_at "ev"
            case p2 => walk_at "pos"
            case p3 => walk_at "ev"
            case p4 => intro d hd; obtain ⟨i, _, rfl⟩ := List.mem_map.mp hd; exact .int _
            case p5 => walk_at "caps"
            case p6 => walk_at "tg"
            case p7 => walk_at "ev"
            case q1 => walk_at "ev"
            case q2 => walk_at "ev"
            case q3 => walk_at "ev"
            case p8 => rfl
            case p9 => decide +kernel
            case p10 => decide +kernel
            case p11 => rw [List.length_map]; exact eight_size (by omega)
            case p12 => exact fun _ _ => rfl
            case p13 => exact fl_map fun u => fl_lanes
            case p14 => decide
            case u =>
              refine' Ex.ret ?v1 rfl
              case v1 => walk_at "ev"
end
end
section
section
variable {w : World} {b n : Nat} {sc : Scope} {Γ : List (Str × D)}
/-- statements of the law's own frame: its ground is without the table -/
structure ExL (w : World) (b n : Nat) (sc : Scope) (Γ : List (Str × D)) (ss : List Stmt) (o : Out) : Prop where
  run : ∀ (env : Env) (outer : List Env) (g : Heap) (A : Around) (s : Shared) (Q : Flow → Shared → Prop) (E : Value → Shared → Prop), Ax n A (env :: outer) → St w b sc env outer g Γ s.heap → g.get? 354 = none →
    (∀ fl h' k, o.ok w b sc env outer g fl h' → Q fl { s with heap := h', toks := k }) → wpR (model PG w) A (execs ss env) Q E s
structure ExL1 (w : World) (b n : Nat) (sc : Scope) (Γ : List (Str × D)) (ss : Stmt) (o : Out) : Prop where
  run : ∀ (env : Env) (outer : List Env) (g : Heap) (A : Around) (s : Shared) (Q : Flow → Shared → Prop) (E : Value → Shared → Prop), Ax n A (env :: outer) → St w b sc env outer g Γ s.heap → g.get? 354 = none →
    (∀ fl h' k, o.ok w b sc env outer g fl h' → Q fl { s with heap := h', toks := k }) → wpR (model PG w) A (exec ss env) Q E s
theorem ExL.of {ss : List Stmt} {o : Out} (h : Ex w b n sc Γ ss o) : ExL w b n sc Γ ss o := ⟨fun env outer g A s Q E ax st _ q => h.run env outer g A s Q E ax st q⟩
theorem ExL1.of {ss : Stmt} {o : Out} (h : Ex1 w b n sc Γ ss o) : ExL1 w b n sc Γ ss o := ⟨fun env outer g A s Q E ax st _ q => h.run env outer g A s Q E ax st q⟩
theorem ExL.cons {st : Stmt} {rest : List Stmt} {Γ' : List (Str × D)} {o : Out} (h : ExL1 w b n sc Γ st (.nx Γ')) (r : ExL w b n sc Γ' rest o) : ExL w b n sc Γ (st :: rest) o := by
  refine ⟨fun env outer g A s Q E ax x hg q => ?_⟩
  refine R.execs_cons (h.run env outer g A s _ _ ax x hg fun fl h' k ok => ?_)
  cases fl with
  | next => exact r.run env outer g A _ _ _ ax ok hg q
  | _ => exact ok.elim
theorem ExL.asg {x : Str} {e : Expr} {pos pos' : Pos} {d : D} {Γ' : List (Str × D)} {rest : List Stmt} {o : Out} (h : Ev w b n sc Γ e d) (hk : sc.names.lookup x = some .local) (hp : put x d Γ = Γ') (r : ExL w b n sc Γ' rest o)
    (hs : ∀ env, swapsWith e (some (.Name x pos')) pos.line env = pure false) : ExL w b n sc Γ (.Assign [.Name x pos'] e pos :: rest) o := by
  subst hp; exact ExL.cons (.of (Ex1.assign h hk hs)) r
theorem Vars.tbL {env : Env} {h : Heap} {x : Str} {l : List D} (vr : Vars sc env Γ h) (ht : look x Γ = some (.abs (listTb l))) : Tb h := by
  rcases vr.var _ (look_mem ht) with ⟨_, _, v, _, _, r⟩ | ⟨_, _, v, _, _, r⟩ <;> (cases r with | abs _ _ x => exact x.2)
/-- an integer, and the table -/
theorem Ev.withTb {e : Expr} {i : Int} {x : Str} {l : List D} (ht : look x Γ = some (.abs (listTb l))) (h : Ev w b n sc Γ e (.int i)) : Ev w b n sc Γ e (.abs (intTb i)) := by
  refine ⟨fun env A s Q E c vr q => h.run env A s _ _ c vr fun v h1 k1 kp1 r1 => ?_⟩
  (first | obtain ⟨_, rfl⟩ := r1.intI | obtain rfl := r1.valI | obtain rfl := r1.boolI | obtain ⟨_, rfl⟩ := r1.strI | cases r1)
  exact q _ _ _ kp1 (.abs _ _ ⟨⟨_, rfl⟩, (vr.tbL ht).solid2 kp1.solid.two⟩)
/-- the call that makes functions, its value told apart -/
theorem ExL1.assignG {f : Str} {np pos tpos cpos : Pos} {k} {e : Expr} {rest elts : List Expr} {fd : D} {ds : List D} {d : D} {Γ' : List (Str × D)} {x : Str} {l : List D} (hn : 0 < n) (ht : look x Γ = some (.abs (listTb l)))
    (hf : Ev w b n sc Γ (.Name f np) fd) (ha : Evs w b n sc Γ (e :: rest) ds) (fn : FnG w b n fd ds d) (tg : Tg w b sc Γ (.Tuple elts k tpos) d Γ')
    (hs : ∀ env, swapsWithSole [.Tuple elts k tpos] (.Call (.Name f np) (e :: rest) [] cpos) pos.line env = pure false) (hw : ∀ env, swappedStores [.Tuple elts k tpos] (.Call (.Name f np) (e :: rest) [] cpos) env = pure none)
    (he : ∀ env, starEach (e :: rest) env = (false, eval e env) :: starEach rest env := by exact fun _ => rfl) :
    ExL1 w b n sc Γ (.Assign [.Tuple elts k tpos] (.Call (.Name f np) (e :: rest) [] cpos) pos) (.nx Γ') := by
  refine ⟨fun env outer g A s Q E ax st hg q => ?_⟩
  have c := st.cx ax
  have vr := st.vars
  have tb := vr.tbL ht
  have hun : A.units + 10 < cLine := by have := ax.un; have := c.un; omega
  refine R.AssignTup (R.CallName (hf.run env A s _ _ c vr fun u h1 k1 kp1 r1 => ?_)) (hs env) (hw env)
  have pl := ha.plain env cpos
  have hr := ha.run env A { s with heap := h1, toks := k1 } cpos (fun vs s₁ => (PF w b s₁.heap ∧ Rep s₁.heap u fd) ∧ wpR (model PG w) A (PySem.call u ([] ++ vs)) (fun v s₁ => wpAny (model PG w) A (assign (.Tuple elts k tpos) env v) (fun _ => Q .next) E s₁) E s₁) E (c.kp kp1) (vr.kp kp1) fun vs h2 k2 kp2 r2 =>
    ⟨⟨(c.kp (kp1.trans kp2)).pf, r1.kp kp2⟩, fn.run A _ u _ _ _ (c.kp (kp1.trans kp2)) (tb.solid2 (kp1.trans kp2).solid.two) (r1.kp kp2) r2 fun v h3 k3 gh r3 => by
      have st2 := (st.to (kp1.trans kp2)).gh hg gh
      exact tg.run env g A _ v _ _ ax.hnd hun st2.sv r3 fun h4 k4 kx sv => q .next h4 k4 (st2.of_sv kx sv)⟩
  rw [he env] at pl hr ⊢
  exact R.callWith (P := fun h => PF w b h ∧ Rep h u fd) (by rw [pl]; rfl) (fun h x => fn.keep u h x.1 x.2) (R.argsPlain hr)
noncomputable def boolTb (t : Bool) : Abs where
  P v h := v = .bool t ∧ Tb h
  st _ _ _ k x := ⟨x.1, x.2.solid2 k.two⟩
  hop _ _ _ k x := ⟨x.1, k.2.2⟩
theorem Ev.boolTb {e : Expr} {t : Bool} {x : Str} {l : List D} (ht : look x Γ = some (.abs (listTb l))) (h : Ev w b n sc Γ e (.bool t)) : Ev w b n sc Γ e (.abs (boolTb t)) := by
  refine ⟨fun env A s Q E c vr q => h.run env A s _ _ c vr fun v h1 k1 kp1 r1 => ?_⟩
  (first | obtain ⟨_, rfl⟩ := r1.intI | obtain rfl := r1.valI | obtain rfl := r1.boolI | obtain ⟨_, rfl⟩ := r1.strI | cases r1)
  exact q _ _ _ kp1 (.abs _ _ ⟨rfl, (vr.tbL ht).solid2 kp1.solid.two⟩)
/-- one turn after the other -/
inductive LpL (w : World) (b n : Nat) (sc : Scope) (t : Expr) (body : List Stmt) (sn : Str) (sl : List D) : List D → List (Str × D) → List (Str × D) → Prop
  | nil {Γ : List (Str × D)} : LpL w b n sc t body sn sl [] Γ Γ
  | next {d : D} {ds : List D} {Γ Γ₁ Γ₂ Γ' : List (Str × D)} : Tg w b sc Γ t d Γ₁ → look sn Γ₁ = some (.abs (listTb sl)) → ExL w b n sc Γ₁ body (.nx Γ₂) → LpL w b n sc t body sn sl ds Γ₂ Γ' → LpL w b n sc t body sn sl (d :: ds) Γ Γ'
/-- three in a row, none of them at the table -/
theorem Rep.hide3 {h : Heap} {v u1 u2 : Value} {i : Int} (tb : Tb h) (r : Rep h v (.tup [.val u1, .val u2, .int i])) : Rep (hideAll h [354]) v (.tup [.val u1, .val u2, .int i]) := by
  obtain ⟨ps, p1, _⟩ := tb
  obtain ⟨a, vs, rfl, ht, rv⟩ := r.tupI
  obtain ⟨o, e, hc, m, hd⟩ := ht
  refine .tup a vs _ ⟨o, hideAll_get _ e (fun q => by rw [List.mem_singleton.mp q, p1] at e; cases e; cases hc), hc, m, hd⟩ ?_
  generalize vs.toList = l at rv
  cases rv with
  | cons v1 _ l1 _ x1 rv =>
  cases rv with
  | cons v2 _ l2 _ x2 rv =>
  cases rv with
  | cons v3 _ l3 _ x3 rv =>
  (first | obtain ⟨_, rfl⟩ := rv.intI | obtain rfl := rv.valI | obtain rfl := rv.boolI | obtain ⟨_, rfl⟩ := rv.strI | cases rv)
  cases x1; cases x2; cases x3
  exact .cons _ _ _ _ (.val _) (.cons _ _ _ _ (.val _) (.cons _ _ _ _ (.int _ _) .nil))
theorem RepAll.hide3 {h : Heap} (tb : Tb h) : ∀ {vs : List Value} {ds : List D}, RepAll h vs ds → (∀ d ∈ ds, ∃ u1 u2 i, d = .tup [.val u1, .val u2, .int i]) → RepAll (hideAll h [354]) vs ds
  | _, _, .nil, _ => .nil
  | _, _, .cons v d vs ds x y, hh => by
    obtain ⟨u1, u2, i, rfl⟩ := hh d (.head _)
    exact .cons _ _ _ _ (x.hide3 tb) (y.hide3 tb fun d hd => hh d (.tail _ hd))

theorem ExL1.for_ {t e : Expr} {body : List Stmt} {pos : Pos} {ds : List D} {Γ' : List (Str × D)} {sn : Str} {sl : List D} (hn : 0 < n) (ht : look sn Γ = some (.abs (listTb sl))) (he : Ev w b n sc Γ e (.list ds)) (hds : ∀ d ∈ ds, ∃ u1 u2 i, d = .tup [.val u1, .val u2, .int i])
    (hl : LpL w b n sc t body sn sl ds Γ Γ') (hK : (hd.heap_1 w.params).lookup 354 = none)
    (hs : ∀ env x, foldedSetIterable e env x = pure x := by exact fun _ _ => rfl) : ExL1 w b n sc Γ (.For t e body [] pos) (.nx Γ') := by
  refine ⟨fun env outer g A s Q E ax st hg q => ?_⟩
  have hc : ∀ d ∈ ds, Cf d := fun d hd => by
    obtain ⟨u1, u2, i, rfl⟩ := hds d hd
    exact cfB_cf 5 _ rfl
  refine R.For (hs env) (he.run env A s _ _ (st.cx ax) st.vars fun v h1 k1 kp1 r1 => ?_)
  obtain ⟨a, vs, rfl, hli, hr⟩ := r1.listI
  have tb1 : Tb h1 := (st.vars.tbL ht).solid2 kp1.solid.two
  obtain ⟨ps1, p1, _⟩ := id tb1
  have hno : h1.get? h1.objs.size = none := Heap.get?_none_of_le (Nat.le_refl _)
  have hl0 : (hideAll h1 [354]).IsList a vs := by
    obtain ⟨o, e, hc, m, hd⟩ := hli
    exact ⟨o, hideAll_get _ e (fun q => by rw [List.mem_singleton.mp q, p1] at e; cases e; cases hc), hc, m, hd⟩
  have hr0 := hr.hide3 tb1 hds
  refine wpAny_pyIter_list hli ?_
  have it : Itr w h1.objs.size ds (fun i h => h.IsListIter h1.objs.size a i ∧ Solid2 (hideAll h1 [354]) h) (h1.objs.size + 1) := Itr.list (Nat.lt_succ_self _) (by
    cases e : (hideAll h1 [354]).get? h1.objs.size with
    | none => rfl
    | some o => rw [of_hideAll _ e] at hno; cases hno) (by rw [hideAll_size]; exact Nat.le_succ _) hl0 hr0 hc
  have hIg : g.get? h1.objs.size = none := (st.kp.trans kp1).none hno
  have hI354 : @Ne Addr h1.objs.size 354 := fun q => by rw [q, p1] at hno; cases hno
  have s0 : ((h1.push { cls := .type "list_iterator", data := .fields #[.ref a, .int (0 : Nat) 0] }).IsListIter h1.objs.size a 0) ∧ Solid2 (hideAll h1 [354]) (h1.push { cls := .type "list_iterator", data := .fields #[.ref a, .int (0 : Nat) 0] }) :=
    ⟨⟨_, Heap.get?_push_size _ rfl, rfl, rfl⟩, fun x o e _ _ _ => Heap.get?_push_of_some _ (of_hideAll _ e)⟩
  refine R.forLoop (fun j s' => ∃ i Γi h k, j = ds.length + 1 - i ∧ i ≤ ds.length ∧ s' = { s with heap := h, toks := k } ∧ (h.IsListIter h1.objs.size a i ∧ Solid2 (hideAll h1 [354]) h) ∧ St w b sc env outer g Γi h ∧ LpL w b n sc t body sn sl (ds.drop i) Γi Γ') ?_ (ds.length + 1) ⟨0, Γ, _, k1, rfl, Nat.zero_le _, rfl, s0, st.to (kp1.trans .push), by simpa using hl⟩
  rintro j s' ⟨i, Γi, h, k, rfl, hile, rfl, si, sti, lp⟩
  obtain ⟨oI, fs, eI, dI, cI⟩ := it.at_ i h si
  by_cases hlt : i < ds.length
  · refine it.next A i _ _ _ ax.hnd hlt si fun v h2 k2 rv s2 hx => ?_
    have st2 := sti.ext hx hIg eI dI cI
    obtain ⟨o2, fs2, e2, d2, c2⟩ := it.at_ _ _ s2
    refine go_pure e2 d2 c2 ?_
    have hun : A.units + 10 < cLine := by have := ax.un; omega
    rw [List.drop_eq_getElem_cons hlt] at lp
    cases lp with
    | next tg ht1 ex lp' =>
      refine tg.run env g A { s with heap := h2, toks := k2 } v _ _ ax.hnd hun st2.sv rv fun h3 k3 kx3 sv3 => ?_
      have kk3 := st2.sv.keep2 kx3
      have s3 := it.kq _ _ _ s2 kk3
      have st3 := st2.of_sv kx3 sv3
      have tb3 : Tb h3 := st3.vars.tbL ht1
      obtain ⟨g', st', kgg, kh, hgh, _⟩ := st3.rebase
      have tbg : Tb g' := tb3.solid2 kh.two
      have st'' := st'.ghost tbg hK
      have kg : Kp b g (hideAll g' [354]) := fun x o e => by
        obtain ⟨sl', e1, k1⟩ := kgg x o e
        exact ⟨sl', hideAll_get _ e1 (fun q => by rw [List.mem_singleton.mp q, hg] at e; cases e), k1⟩
      refine ex.run env outer _ A { s with heap := h3, toks := k3 } _ _ ax st'' (hideAll_none _ (.head _)) fun fl h4 k4 ok => ?_
      cases fl with
      | next =>
        have kept : ∀ x o, x ≠ 354 → h3.get? x = some o → (∀ es n, o.data ≠ .dict es n) → (∀ v, o.data ≠ .cell v) → h4.get? x = some o := fun x o hx e n1 n2 =>
          Kp.get ok.kp (hideAll_get _ (kh x o e n1 n2) (fun q => hx (List.mem_singleton.mp q))) (.inl n1)
        refine ⟨ds.length + 1 - (i + 1), by omega, i + 1, _, h4, k4, rfl, hlt, rfl, ⟨?_, ?_⟩, st3.home kg ok, lp'⟩
        · obtain ⟨o, e, c, d⟩ := s3.1
          exact ⟨o, kept _ _ hI354 e (by rw [d]; intro _ _ q; cases q) (by rw [d]; intro _ q; cases q), c, d⟩
        · intro x o e n1 n2 n3
          exact kept x o (fun q => by rw [q, hideAll_none _ (.head _)] at e; cases e) (s3.2 x o e n1 n2 n3) n1 n2
      | _ => exact ok.elim
  · have hin : i = ds.length := by omega
    subst hin
    refine it.done A _ _ _ ax.hnd si fun h2 k2 hx => ?_
    have st2 := sti.ext hx hIg eI dI cI
    rw [List.drop_length] at lp
    cases lp
    exact R.of (wpAny_execs_nil (q .next _ _ st2))
end
end
section
section
variable {w : World} {b n : Nat} {sc : Scope} {Γ : List (Str × D)}
/-- the law's frame is made -/
theorem enter0 {f : Addr} {name qual : Str} {params : Arguments} {body : List Stmt} {scope : Scope} {dV kV doc pm cdv ct oc : Value} {an od : Option Addr} {osl : Array (Option Value)} {args : List D} {ns : List Str} {A : Around} {s : Shared} {vs : List Value} {Q E : Value → Shared → Prop} {ls : List Env}
    (ho : (hd.heap_1 w.params).lookup f = some ⟨oc, od, .func (fnOf name qual params body scope dV kV doc pm an cdv ct), osl⟩) (hcd : codeIn (hd.heap_1 w.params) cdv qual = true)
    (hb : ∀ vs : List Value, vs.length = args.length → bindArgs (fnOf name qual params body scope dV kV doc pm an cdv ct) ⟨vs, []⟩ = pure (ns.zip vs)) (hl : ns.length = args.length)
    (hkd : (ns.all fun y => scope.names.lookup y == some .local || scope.names.lookup y == some .cell) = true) (hnd : ns.Nodup)
    (hco : scope.isCoroutine = false) (hgen : scope.isGenerator = false) (hk : scope.kind = .function)
    (ax : Ax (n + 1) A ls) (stk : Stk b ls s.heap) (pf : PF w b s.heap) (hsz : b ≤ s.heap.objs.size) (r : RepAll s.heap vs args)
    (q : ∀ env h1 tk, Ax n (A.deeper env) (env :: ls) → Kp b s.heap h1 → St w b scope env ls s.heap (ns.zip args) h1 →
      wpR (model PG w) (A.deeper env) (execs body env) (fun f s' => Q (match f with | .ret v => v | _ => .none) s')
        (fun e s' => wpAny (model PG w) (A.deeper env) (leaving env e) (fun _ s'' => E e s'') (fun e' s'' => E e' s'') s') { s with heap := h1, toks := tk }) : wpR (model PG w) A (call (.ref f) vs) Q E s := by
  have hlen := r.length
  refine R.callDef (body := body) (fd := fnOf name qual params body scope dV kV doc pm an cdv ct) (by have := ax.dep; omega) (pf.k _ _ ho) rfl hco hgen rfl (codeRec_of pf.k hcd) ?_
  rw [hb vs hlen]
  refine wpAny_pure ?_
  have hnames : ((ns.zip vs).map (·.1)) = ns := zip_names (by omega)
  have hkinds : ((ns.zip vs).all fun y => scope.names.lookup y.1 == some .local || scope.names.lookup y.1 == some .cell) = true := by
    refine List.all_eq_true.mpr fun y hy => List.all_eq_true.mp hkd y.1 ?_
    rw [← hnames]; exact List.mem_map_of_mem hy
  refine wpAny_newFunctionEnv_cells hk (kindsX hkinds _) fun env he s' x => ?_
  have el : env.locals = s.heap.objs.size := by rw [he]; rfl
  have es : env.scope = scope := by rw [he]; rfl
  have keep := x.toInCall.keep
  have kp : Kp b s.heap s'.heap := .of keep
  obtain ⟨h1, tk, e1⟩ := x.toInCall.same
  refine ⟨(pf.kp kp).lim, ?_⟩
  have fresh : ∀ a, s.heap.objs.size ≤ a → s.heap.get? a = none := fun a ha => by
    cases e : s.heap.get? a with
    | none => rfl
    | some o' => exact absurd (Heap.lt_size e) (Nat.not_lt.mpr ha)
  have st : St w b scope env ls s.heap (ns.zip args) s'.heap := by
    refine ⟨⟨es, hk, by rw [he]; rfl, by rw [he]; rfl, ⟨_, x.toInCall.ns⟩, fun p hp => ?_⟩, by rw [zip_names hl]; exact hnd, kp, fresh _ (by rw [el]; exact Nat.le_refl _), fun y a _ hy => ?_, fun y hy => ?_, ?_, pf, stk, by rw [el]; exact hsz, by rw [he]; rfl⟩
    · obtain ⟨y, e⟩ := p
      obtain ⟨v, hm, rv⟩ := r.zip hp
      have hny : ((ns.zip vs).map (·.1)).Nodup := by rw [hnames]; exact hnd
      have hyn : y ∈ ns := by rw [← hnames]; exact List.mem_map_of_mem hm
      have hyk := List.all_eq_true.mp hkd y hyn
      rcases Bool.or_eq_true_iff.mp hyk with hy | hy
      · have hy : env.kindOf y = some .local := by unfold Env.kindOf; rw [es]; exact beq_iff_eq.mp hy
        exact .inl ⟨hy, _, v, x.toInCall.ns, bindL_in hy hny hm, rv.kp kp⟩
      · have hy' : scope.names.lookup y = some .cell := beq_iff_eq.mp hy
        have hy : env.kindOf y = some .cell := by unfold Env.kindOf; rw [es]; exact hy'
        have hc : (env.cells.lookup y).isSome = true := by
          rw [he]; exact cellsFrom_some scope.names _ [] (.inl hy')
        obtain ⟨c', hc'⟩ := Option.isSome_iff_exists.mp hc
        refine .inr ⟨.inl hy, c', v, hc', ?_, rv.kp kp⟩
        have := x.cell y c' hc'
        rw [bindC_in hy hny hm] at this; exact this
    · have := x.above y a (lookup_mem hy)
      exact fresh a (by rw [el] at this; exact Nat.le_of_lt this)
    · obtain ⟨c', hc'⟩ := Option.isSome_iff_exists.mp (show (env.cells.lookup y).isSome = true by rw [he]; exact cellsFrom_some scope.names _ [] (.inl hy))
      exact ⟨c', _, hc', x.cell y c' hc'⟩
    · exact fun y z c _ => apart_inj x.apart y z c
  have ax' : Ax n (A.deeper env) (env :: ls) := by
    refine ⟨?_, ?_, ax.hnd, Around.frames_deeper ax.fr, ax.gd⟩
    · have := ax.dep; show A.depth + 1 + n < recursionLimit; omega
    · have := ax.un; show A.units + 3 + 20 * n < cLine; omega
  subst e1
  exact q env h1 tk ax' kp st
/-- the law's call -/
structure LawF (w : World) (f : Addr) (l : List Int) : Prop where
  run : ∀ (s : Shared) (v : Value) (Q E : Value → Shared → Prop), PF w s.heap.objs.size s.heap → Tb s.heap → Rep s.heap v (.list (l.map .int)) →
    (∀ v h' k, Gh s.heap.objs.size s.heap h' → Rep h' v (.bool true) → Q v { s with heap := h', toks := k }) → wpR (model PG w) callerA (call (.ref f) [v]) Q E s
theorem LawF.enterP {l : List Int} {f : Addr} {name qual : Str} {params : Arguments} {body : List Stmt} {scope : Scope} {dV kV doc pm cdv ct oc : Value} {an od : Option Addr} {osl : Array (Option Value)}
    (ho : (hd.heap_1 w.params).lookup f = some ⟨oc, od, .func (fnOf name qual params body scope dV kV doc pm an cdv ct), osl⟩) (hcd : codeIn (hd.heap_1 w.params) cdv qual = true)
    (hb : ∀ vs : List Value, vs.length = 1 → bindArgs (fnOf name qual params body scope dV kV doc pm an cdv ct) ⟨vs, []⟩ = pure ((params.args.map (·.arg)).zip vs)) (hl : (params.args.map (·.arg)).length = 1)
    (hkd : ((params.args.map (·.arg)).all fun y => scope.names.lookup y == some .local || scope.names.lookup y == some .cell) = true) (hnd : (params.args.map (·.arg)).Nodup)
    (hco : scope.isCoroutine = false) (hgen : scope.isGenerator = false) (hk : scope.kind = .function) (hK : (hd.heap_1 w.params).lookup 354 = none)
    (hax : Ax (n + 1) callerA [])
    (h : ∀ b, ExL w b n scope ((params.args.map (·.arg)).zip [.abs (listTb (l.map .int))]) body (.rt (.abs (boolTb true)))) : LawF w f l := by
  refine ⟨fun s v Q E pf tb r q => ?_⟩
  refine enter0 (args := [.abs (listTb (l.map .int))]) ho hcd hb hl hkd hnd hco hgen hk hax (fun _ he => nomatch he) pf (Nat.le_refl _) (.cons _ _ _ _ (.abs _ _ ⟨r, tb⟩) .nil) fun env h1 tk ax kp st => ?_
  refine (h _).run env [] _ (callerA.deeper env) _ _ _ ax (st.ghost tb hK) (hideAll_none _ (.head _)) fun fl h' k ok => ?_
  cases fl with
  | ret v =>
    obtain ⟨k1, r1⟩ := ok
    have x := r1.absI
    obtain ⟨rfl, tb'⟩ := x
    exact q _ h' k ⟨fun a o hne e => k1 a o (hideAll_get _ e (fun q => hne (List.mem_singleton.mp q))), tb, tb'⟩ (.bool _)
  | _ => exact ok.elim
theorem caller_ax : Ax 40 callerA [] := ⟨by decide +kernel, by decide +kernel, rfl, rfl, rfl⟩
theorem ExL.drop {ss : List Stmt} {Γ₁ Γ₂ ex : List (Str × D)} (h : ExL w b n sc Γ ss (.nx Γ₁)) (e : Γ₁ = Γ₂ ++ ex) : ExL w b n sc Γ ss (.nx Γ₂) := by
  subst e
  refine ⟨fun env outer g A s Q E ax st hg q => h.run env outer g A s Q E ax st hg fun fl h' k ok => q fl h' k ?_⟩
  cases fl with
  | next => exact St.drop ok (fun p hp => List.mem_append_left _ hp) (by have := ok.nd; rw [List.map_append] at this; exact (List.nodup_append.mp this).1)
  | _ => exact ok.elim
end
section
variable {w : World} {b n : Nat} {sc : Scope} {Γ : List (Str × D)}
theorem clip_pos {m k : Nat} : clipAt m (k : Int) = min k m := by
  rcases Nat.le_total k m with h | h
  · rw [clip_nat h, Nat.min_eq_left h]
  · unfold clipAt
    rw [if_neg (Int.not_lt.mpr (Int.natCast_nonneg k)), Int.min_eq_right (Int.ofNat_le.mpr h), Int.max_eq_right (Int.natCast_nonneg m), Int.toNat_natCast, Nat.min_eq_right h]
theorem pick_head {l : List Int} {k : Nat} : pickD (l.map .int) none (some (k : Int)) = (l.take k).map .int := by
  unfold pickD
  simp only [Option.elim, List.drop_zero, Nat.sub_zero, clip_pos, List.length_map]
  rw [← List.map_take, ← List.take_eq_take_min]
theorem pick_mid {l : List Int} {i j : Nat} : pickD (l.map .int) (some (i : Int)) (some ((i + j : Nat) : Int)) = ((l.drop i).take j).map .int := by
  unfold pickD
  simp only [Option.elim, clip_pos, List.length_map]
  rw [← List.map_drop, ← List.map_take]
  congr 1
  by_cases h : i ≤ l.length
  · rw [Nat.min_eq_left h]
    by_cases h' : i + j ≤ l.length
    · rw [Nat.min_eq_left h', show i + j - i = j by omega]
    · rw [Nat.min_eq_right (by omega), List.take_of_length_le (by rw [List.length_drop]; omega), List.take_of_length_le (by rw [List.length_drop]; omega)]
  · rw [Nat.min_eq_right (by omega), List.drop_of_length_le (by omega), List.drop_of_length_le (by omega), List.take_nil, List.take_nil]
theorem pick_tail {i : Int} {k : Nat} : pickD [.int i] (some (k : Int)) none = ([i].drop k).map .int := by
  unfold pickD
  simp only [Option.elim, clip_pos, List.length_cons, List.length_nil, Nat.zero_add]
  cases k with
  | zero => rfl
  | succ k => rw [Nat.min_eq_right (by omega)]; simp
/-- the script's last number -/
noncomputable def lastI (l : List Int) : Int := (l ++ [5].drop l.length).getLastD 0
theorem last_at {l : List Int} : ((l.map D.int) ++ ([5].drop l.length).map D.int)[((-1 : Int) + (((l.map D.int) ++ ([5].drop l.length).map D.int).length : Int)).toNat]? = some (.int (lastI l)) := by
  rw [← List.map_append]
  unfold lastI
  have hne : l ++ [5].drop l.length ≠ [] := by cases l <;> simp
  generalize l ++ [5].drop l.length = m at hne ⊢
  have hp : 0 < m.length := List.length_pos_iff.mpr hne
  rw [List.length_map, show ((-1 : Int) + (m.length : Int)).toNat = m.length - 1 by omega, List.getElem?_map, List.getElem?_eq_getElem (by omega), List.getLastD_eq_getLast?, List.getLast?_eq_getElem?, List.getElem?_eq_getElem (by omega)]
  rfl
theorem absI_nat {x : Int} : absI x = ((x.natAbs : Nat) : Int) := by unfold absI; split <;> omega
theorem emod_nat {x : Int} {y : Nat} (h : 0 < y) : x % (y : Int) = (((x % (y : Int)).toNat : Nat) : Int) := (Int.toNat_of_nonneg (Int.emod_nonneg _ (by omega))).symm
end
section
variable {w : World} {b n : Nat} {sc : Scope} {Γ : List (Str × D)}
local macro_rules | `(tactic| walk_at "ev") => `(tactic| first | (refine' Ev.absL ?z1 ?z2; (case z1 => walk_at "lookS"); (case z2 => decide)) | fail "absL")
local macro_rules | `(tactic| walk_at "ev") => `(tactic| first | (refine' Ev.tuple ?za ?zb; (case za => walk_at "evs"); (case zb => walk_at "size")) | fail "tuple")
/-- the numbers that the law takes of its script -/
noncomputable def oneI (l : List Int) : Int := stir (l.take 4) 1
noncomputable def twoI (l : List Int) : Int := stir (-9 :: (l.drop 4).take 4) 1
noncomputable def xN (t : Int) (sz : Nat) : Nat := (t % ((2 ^ (24 * sz) : Nat) : Int)).toNat
noncomputable def cN (d sz : Nat) : Nat := d % 2 ^ (8 * sz - 1)
noncomputable def baseL (l : List Int) : List (Str × D) := [(Str.ofString "script", .abs (listTb (l.map .int))), (Str.ofString "one", .int (oneI l)), (Str.ofString "two", .int (twoI l)), (Str.ofString "distance", .int (((lastI l).natAbs : Nat) : Int))]
noncomputable def SameOk (w : World) (b n : Nat) : Prop := ∀ (a : Addr) (sg : Bool) (sz X Y c d : Nat), Kd w b a sg sz → X < 2 ^ (24 * sz) → Y < 2 ^ (24 * sz) →
  Fn w b (n + 9) (.val (.ref 381)) [.val (.ref a), .int (sz : Int), .bool sg, .int (X : Int), .int (Y : Int), .int (c : Int), .list (nD (if sg = true then signsL (8 * sz) (c % (8 * sz)) X Y else plainL (8 * sz) (c % (8 * sz)) X Y)), .int (d : Int)] (.bool true)
theorem x_lt {t : Int} {sz : Nat} : xN t sz < 2 ^ (24 * sz) := by
  have p : (0 : Int) < ((2 ^ (24 * sz) : Nat) : Int) := by have := Nat.two_pow_pos (24 * sz); omega
  have := Int.emod_lt_of_pos t p
  have := Int.emod_nonneg t (show ((2 ^ (24 * sz) : Nat) : Int) ≠ 0 by omega)
  unfold xN; omega
theorem LpL.three {t : Expr} {body : List Stmt} {sn : Str} {sl : List D} (turn : ∀ (ai au : Addr) (sz : Nat), Kd w b ai true sz → Kd w b au false sz → ∃ Γ₁, Tg w b sc Γ t (.tup [.val (.ref ai), .val (.ref au), .int (sz : Int)]) Γ₁ ∧ look sn Γ₁ = some (.abs (listTb sl)) ∧ ExL w b n sc Γ₁ body (.nx Γ)) :
    LpL w b n sc t body sn sl [.tup [.val (.ref 282), .val (.ref 285), .int ((1 : Nat) : Int)], .tup [.val (.ref 288), .val (.ref 291), .int ((2 : Nat) : Int)], .tup [.val (.ref 294), .val (.ref 297), .int ((8 : Nat) : Int)]] Γ Γ := by
  obtain ⟨Γ1, a1, a2, a3⟩ := turn 282 285 1 k_i8 k_u8
  obtain ⟨Γ2, b1, b2, b3⟩ := turn 288 291 2 k_i16 k_u16
  obtain ⟨Γ3, c1, c2, c3⟩ := turn 294 297 8 k_i64 k_u64
  exact .next a1 a2 a3 (.next b1 b2 b3 (.next c1 c2 c3 .nil))
set_option maxHeartbeats 4000000 in
theorem c_law {l : List Int} (hl : l.length ≤ 63) (hb : ∀ i ∈ l, Builtin.Int.intBits i ≤ 1048576) (same : ∀ b, SameOk w b 30) : LawF w 388 l := by
  have hK : (hd.heap_1 w.params).lookup 354 = none := by kernel_rfl
  have hsz : (l.map D.int).length ≤ sizeLine := by rw [List.length_map, sizeLine_eq]; omega
  refine' LawF.enterP (n := 39) ?ho ?hcd ?hb ?hl ?hkd ?hnd ?c1 ?c2 ?c3 hK caller_ax ?body
  case ho => k_is
  case hcd => k_is
  case hb => exact args1 fun _ => rfl
  case hl => rfl
  case hkd => rfl
  case hnd => decide +kernel
  case c1 => rfl
  case c2 => rfl
  case c3 => rfl
  case body =>
    intro b
    dsimp only [List.map, List.zip, List.zipWith]
    refine' ExL.asg (d := .int (oneI l)) (Ev.call ?a1 (Evs.cons (d := .list ((l.take 4).map .int)) (Ev.conv (Ev.slice (lo := none) (hi := some ((4 : Nat) : Int)) ?a2 .none (.some ?a3) hsz) (congrArg D.list pick_head)) Evs.nil) ?a5) ?a6 ?a7 ?r1 ?a8
    case a1 => walk_at "ev"
    case a2 => walk_at "ev"
    case a3 => exact Ev.nat (k := 4)
    case a5 => exact c_stirred (n := 37) (by rw [List.length_take]; omega) fun i hi => hb i (List.mem_of_mem_take hi)
    case a6 => rfl
    case a7 => walk_at "put"
    case a8 => exact fun _ => rfl
    case r1 =>
      refine' ExL.asg (d := .int (twoI l)) (Ev.call ?b1 (Evs.cons (d := .list ((-9 :: (l.drop 4).take 4).map .int)) (Ev.conv (Ev.bin ?b2 (Ev.list (Evs.cons (Ev.neg ?b3) Evs.nil) ?b4) (Ev.conv (Ev.slice (lo := some ((4 : Nat) : Int)) (hi := some ((4 + 4 : Nat) : Int)) ?b5 (.some ?b6) (.some ?b7) hsz) (congrArg D.list pick_mid)) (Bo.cat ?b8)) ?b9) Evs.nil) ?b10) ?b11 ?b12 ?r2 ?b13
      case b1 => walk_at "ev"
      case b2 => walk_at "pos"
      case b3 => exact Ev.nat (k := 9)
      case b4 => walk_at "size"
      case b5 => walk_at "ev"
      case b6 => exact Ev.nat (k := 4)
      case b7 => exact Ev.nat (k := 8)
      case b8 => rw [List.length_map, List.length_take, sizeLine_eq]; simp; omega
      case b9 => rfl
      case b10 => 
        refine c_stirred (n := 37) (by rw [List.length_cons, List.length_take]; omega) fun i hi => ?_
        rcases List.mem_cons.mp hi with rfl | hi
        · decide +kernel
        · exact hb i (List.mem_of_mem_drop (List.mem_of_mem_take hi))
      case b11 => rfl
      case b12 => walk_at "put"
      case b13 => exact fun _ => rfl
      case r2 =>
        refine' ExL.asg (d := .int (((lastI l).natAbs : Nat) : Int)) (Ev.conv (Ev.call ?d1 (Evs.cons (Ev.itemNeg (Ev.bin ?d2 ?d3 (Ev.conv (Ev.slice (lo := some ((l.length : Nat) : Int)) (hi := none) (Ev.list (Evs.cons ?d4 Evs.nil) ?d5) (.some (Ev.conv (Ev.call ?d6 (Evs.cons ?d7 Evs.nil) (Fn.len ?d8 ?d9)) ?d10)) .none ?d11) (congrArg D.list pick_tail)) (Bo.cat ?d12)) (Ev.neg ?d13) ?d14 ?d15 ?d16 last_at) Evs.nil) (Fn.abs ?d17)) (congrArg D.int absI_nat)) ?d18 ?d19 ?r3 ?d20
        case d1 => walk_at "ev"
        case d2 => walk_at "pos"
        case d3 => walk_at "ev"
        case d4 => exact Ev.nat (k := 5)
        case d5 => walk_at "size"
        case d6 => walk_at "ev"
        case d7 => walk_at "ev"
        case d8 => walk_at "pos"
        case d9 => rw [List.length_map]; omega
        case d10 => rw [List.length_map]
        case d11 => walk_at "size"
        case d12 => rw [List.length_map, List.length_map, List.length_drop, sizeLine_eq]; simp; omega
        case d13 => exact Ev.nat (k := 1)
        case d14 => decide
        case d15 => 
          rw [List.length_append, List.length_map, List.length_map, List.length_drop]; simp; omega
        case d16 => decide
        case d17 => walk_at "pos"
        case d18 => rfl
        case d19 => walk_at "put"
        case d20 => exact fun _ => rfl
        case r3 =>
          refine' ExL.cons (ExL1.for_ (Γ' := baseL l) (ds := [.tup [.val (.ref 282), .val (.ref 285), .int ((1 : Nat) : Int)], .tup [.val (.ref 288), .val (.ref 291), .int ((2 : Nat) : Int)], .tup [.val (.ref 294), .val (.ref 297), .int ((8 : Nat) : Int)]]) ?e1 (sn := Str.ofString "script") (sl := l.map .int) ?e2 ?e3 ?e4 ?e5 hK) ?r4
          case e1 => walk_at "pos"
          case e2 => walk_at "look"
          case e3 => walk_at "ev"
          case e4 =>
            intro d hd'
            simp only [List.mem_cons, List.not_mem_nil, or_false] at hd'
            rcases hd' with rfl | rfl | rfl <;> exact ⟨_, _, _, rfl⟩
          case e5 =>
            refine LpL.three fun ai au sz K K' => ⟨[(Str.ofString "script", .abs (listTb (l.map .int))), (Str.ofString "one", .int (oneI l)), (Str.ofString "two", .int (twoI l)), (Str.ofString "distance", .int (((lastI l).natAbs : Nat) : Int)), (Str.ofString "with_sign", .val (.ref ai)), (Str.ofString "without", .val (.ref au)), (Str.ofString "size", .int (sz : Int))], ?g1, ?g2, ?g3⟩
            case g1 => walk_at "tg"
            case g2 => walk_at "look"
            case g3 =>
              have hs := K.hs
              have hs2 := szb hs
              have hW := K.w64
              have hW2 := wdb hW
              have hp : 0 < 2 ^ (24 * sz) := Nat.two_pow_pos _
              have hp' : (0 : Int) < ((2 ^ (24 * sz) : Nat) : Int) := by omega
              have h1000 : 2 ^ (24 * sz) < 2 ^ 1000 := pw (by omega)
              have hx1 : xN (oneI l) sz < 2 ^ 1000 := Nat.lt_trans x_lt h1000
              have hu : Fn w b 39 (.val (.ref 381)) [.val (.ref au), .int (sz : Int), .bool false, .int (xN (oneI l) sz : Int), .int (xN (twoI l) sz : Int), .int (cN (lastI l).natAbs sz : Int), .list (nD (plainL (8 * sz) (cN (lastI l).natAbs sz % (8 * sz)) (xN (oneI l) sz) (xN (twoI l) sz))), .int ((lastI l).natAbs : Int)] (.bool true) := same b au false sz _ _ _ _ K' x_lt x_lt
              have hi : Fn w b 39 (.val (.ref 381)) [.val (.ref ai), .int (sz : Int), .bool true, .int (xN (oneI l) sz : Int), .int (xN (twoI l) sz : Int), .int (cN (lastI l).natAbs sz : Int), .list (nD (signsL (8 * sz) (cN (lastI l).natAbs sz % (8 * sz)) (xN (oneI l) sz) (xN (twoI l) sz))), .int ((lastI l).natAbs : Int)] (.bool true) := same b ai true sz _ _ _ _ K x_lt x_lt
              refine' ExL.drop (ExL.asg (d := .int (xN (oneI l) sz : Int)) (Ev.conv (Ev.bin ?k1 ?k2 ?k3 (Bo.mod hp')) (congrArg D.int (emod_nat hp))) ?k4 ?k5 ?r5 ?k6) ?kk
              case k1 => walk_at "pos"
              case k2 => walk_at "ev"
              case k3 => walk_at "ev"
              case k4 => rfl
              case k5 => walk_at "put"
              case k6 => exact fun _ => rfl
              case r5 =>
                refine' ExL.asg (d := .int (xN (twoI l) sz : Int)) (Ev.conv (Ev.bin ?m1 ?m2 ?m3 (Bo.mod hp')) (congrArg D.int (emod_nat hp))) ?m4 ?m5 ?r6 ?m6
                case m1 => walk_at "pos"
                case m2 => walk_at "ev"
                case m3 => walk_at "ev"
                case m4 => rfl
                case m5 => walk_at "put"
                case m6 => exact fun _ => rfl
                case r6 =>
                  refine' ExL.asg (d := .int (cN (lastI l).natAbs sz : Int)) (Ev.conv ?o1 ?o2) ?o3 ?o4 ?r7 ?o5
                  case o1 => walk_at "ev"
                  case o2 => rfl
                  case o3 => rfl
                  case o4 => walk_at "put"
                  case o5 => exact fun _ => rfl
                  case r7 =>
                    refine' ExL.cons (ExL1.assignG (x := Str.ofString "script") (l := l.map .int) ?p1 ?p2 ?p3 (Evs.cons ?p4 (Evs.cons ?p5 (Evs.cons (Ev.withTb (x := Str.ofString "script") (l := l.map .int) (i := ((cN (lastI l).natAbs sz % (8 * sz) : Nat) : Int)) ?p6 ?p7) (Evs.cons ?p8 Evs.nil)))) (c_dues (n := 31) (W := 8 * sz) hW (Nat.mod_lt _ ?p9) hx1) ?p10 ?p11 ?p12) ?r8
                    case p1 => walk_at "pos"
                    case p2 => walk_at "look"
                    case p3 => walk_at "ev"
                    case p4 => walk_at "ev"
                    case p5 => walk_at "ev"
                    case p6 => walk_at "look"
                    case p7 => walk_at "ev"
                    case p8 => walk_at "ev"
                    case p9 => walk_at "pos"
                    case p10 => walk_at "tg"
                    case p11 => exact fun _ => rfl
                    case p12 => exact fun _ => rfl
                    case r8 =>
                      refine' ExL.cons (.of (Ex1.ifs (t := false) (Ts.conv (Ts.not (Ts.val (Ev.call ?q1 (Evs.cons ?q2 (Evs.cons ?q3 (Evs.cons ?q4 (Evs.cons ?q5 (Evs.cons ?q6 (Evs.cons ?q7 (Evs.cons ?q8 (Evs.cons ?q9 Evs.nil)))))))) hu))) rfl) (fun h => by cases h) (fun _ => Ex.nil))) ?r9
                      case q1 => walk_at "ev"
                      case q2 => walk_at "ev"
                      case q3 => walk_at "ev"
                      case q4 => walk_at "ev"
                      case q5 => walk_at "ev"
                      case q6 => walk_at "ev"
                      case q7 => walk_at "ev"
                      case q8 => walk_at "ev"
                      case q9 => walk_at "ev"
                      case r9 =>
                        refine' ExL.cons (.of (Ex1.ifs (t := false) (Ts.conv (Ts.not (Ts.val (Ev.call ?s1 (Evs.cons ?s2 (Evs.cons ?s3 (Evs.cons ?s4 (Evs.cons ?s5 (Evs.cons ?s6 (Evs.cons ?s7 (Evs.cons ?s8 (Evs.cons ?s9 Evs.nil)))))))) hi))) rfl) (fun h => by cases h) (fun _ => Ex.nil))) (.of Ex.nil)
                        case s1 => walk_at "ev"
                        case s2 => walk_at "ev"
                        case s3 => walk_at "ev"
                        case s4 => walk_at "ev"
                        case s5 => walk_at "ev"
                        case s6 => walk_at "ev"
                        case s7 => walk_at "ev"
                        case s8 => walk_at "ev"
                        case s9 => walk_at "ev"
              case kk => rfl
          case r4 => 
            refine .of (Ex.ret (Ev.boolTb (x := Str.ofString "script") (l := l.map .int) ?f1 Ev.bool) rfl)
            case f1 => unfold baseL; walk_at "look"
end
end
end Mine
end
section
set_option linter.unusedVariables false
set_option exponentiation.threshold 1100
namespace Mine
noncomputable def Wd (W : Nat) : Prop := W = 8 ∨ W = 16 ∨ W = 64
theorem rep_J {W : Nat} (h : Wd W) : rep W = J W 1 1 1 := by rcases h with rfl | rfl | rfl <;> decide +kernel
theorem mul_rep {W l : Nat} (h : Wd W) : l * rep W = J W l l l := by rw [rep_J h, Nat.mul_comm, J_mul]; simp only [Nat.one_mul]
theorem Tp_J {W : Nat} (h : Wd W) : Tp W = J W (2 ^ (W - 1)) (2 ^ (W - 1)) (2 ^ (W - 1)) := mul_rep h
theorem Rs_J {W : Nat} (h : Wd W) : Rs W = J W (2 ^ (W - 1) - 1) (2 ^ (W - 1) - 1) (2 ^ (W - 1) - 1) := mul_rep h
theorem Fu_J {W : Nat} (h : Wd W) : Fu W = J W (2 ^ W - 1) (2 ^ W - 1) (2 ^ W - 1) := by rcases h with rfl | rfl | rfl <;> decide +kernel
theorem Wd.pos {W : Nat} (h : Wd W) : 0 < W := by rcases h with rfl | rfl | rfl <;> decide
theorem Wd.succ {W : Nat} (h : Wd W) : W - 1 + 1 = W := by have := h.pos; omega
theorem Wd.top {W : Nat} (h : Wd W) : 2 ^ W = 2 ^ (W - 1) + 2 ^ (W - 1) := by
  have e : 2 ^ (W - 1 + 1) = 2 ^ (W - 1) * 2 := Nat.pow_succ 2 (W - 1)
  rw [h.succ] at e; omega
theorem Wd.top_lt {W : Nat} (h : Wd W) : 2 ^ (W - 1) < 2 ^ W := by
  have := h.top
  have p : 0 < 2 ^ (W - 1) := Nat.two_pow_pos (W - 1)
  omega
theorem Wd.rs_lt {W : Nat} (h : Wd W) : 2 ^ (W - 1) - 1 < 2 ^ W := Nat.lt_of_le_of_lt (Nat.sub_le _ _) h.top_lt
theorem Wd.fu_lt {W : Nat} (h : Wd W) : 2 ^ W - 1 < 2 ^ W := by have := Nat.two_pow_pos W; omega
section
variable {W a b c a' b' c' : Nat}
theorem low_lt (h : Wd W) (x y : Nat) : (x &&& 2 ^ (W - 1) - 1) + (y &&& 2 ^ (W - 1) - 1) < 2 ^ W := by
  rw [Nat.and_two_pow_sub_one_eq_mod, Nat.and_two_pow_sub_one_eq_mod, h.top]
  have h1 := Nat.mod_lt x (Nat.two_pow_pos (W - 1))
  have h2 := Nat.mod_lt y (Nat.two_pow_pos (W - 1))
  omega
theorem sum_J (h : Wd W) (ha : a < 2 ^ W) (hb : b < 2 ^ W) (hc : c < 2 ^ W) (ha' : a' < 2 ^ W) (hb' : b' < 2 ^ W) (hc' : c' < 2 ^ W) :
    lsum (J W a b c) (J W a' b' c') (Tp W) (Rs W) = J W ((a + a') % 2 ^ W) ((b + b') % 2 ^ W) ((c + c') % 2 ^ W) := by
  have e : ∀ {x y : Nat}, x < 2 ^ W → y < 2 ^ W → (x &&& 2 ^ (W - 1) - 1) + (y &&& 2 ^ (W - 1) - 1) ^^^ (x ^^^ y) &&& 2 ^ (W - 1) = (x + y) % 2 ^ W := fun {x y} hx hy => by
    have := ls_eq (k := W - 1) (a := x) (b := y) (by rw [h.succ]; exact hx) (by rw [h.succ]; exact hy)
    rw [h.succ] at this; exact this
  unfold lsum
  rw [Tp_J h, Rs_J h, J_and ha hb h.rs_lt h.rs_lt, J_and ha' hb' h.rs_lt h.rs_lt, J_add, J_xor ha hb ha' hb', J_and (Nat.xor_lt_two_pow ha ha') (Nat.xor_lt_two_pow hb hb') h.top_lt h.top_lt,
    J_xor (low_lt h _ _) (low_lt h _ _) (Nat.and_lt_two_pow _ h.top_lt) (Nat.and_lt_two_pow _ h.top_lt), e ha ha', e hb hb', e hc hc']
theorem dif_J (h : Wd W) (ha : a < 2 ^ W) (hb : b < 2 ^ W) (hc : c < 2 ^ W) (ha' : a' < 2 ^ W) (hb' : b' < 2 ^ W) (hc' : c' < 2 ^ W) :
    ldif (J W a b c) (J W a' b' c') (Tp W) (Rs W) = J W ((a + 2 ^ W - a') % 2 ^ W) ((b + 2 ^ W - b') % 2 ^ W) ((c + 2 ^ W - c') % 2 ^ W) := by
  have e : ∀ {x y : Nat}, x < 2 ^ W → y < 2 ^ W → ((x ||| 2 ^ (W - 1)) - (y &&& 2 ^ (W - 1) - 1)) ^^^ ((x ^^^ y ^^^ 2 ^ (W - 1)) &&& 2 ^ (W - 1)) = (x + 2 ^ W - y) % 2 ^ W := fun {x y} hx hy => by
    have := ld_eq (k := W - 1) (a := x) (b := y) (by rw [h.succ]; exact hx) (by rw [h.succ]; exact hy)
    rw [h.succ] at this; exact this
  have le : ∀ x y : Nat, y &&& 2 ^ (W - 1) - 1 ≤ x ||| 2 ^ (W - 1) := fun x y => Nat.le_trans Nat.and_le_right (Nat.le_trans (Nat.sub_le _ _) Nat.right_le_or)
  have lt : ∀ {x : Nat} (y : Nat), x < 2 ^ W → (x ||| 2 ^ (W - 1)) - (y &&& 2 ^ (W - 1) - 1) < 2 ^ W := fun {x} y hx => Nat.lt_of_le_of_lt (Nat.sub_le _ _) (Nat.or_lt_two_pow hx h.top_lt)
  have x3 : ∀ {x y : Nat}, x < 2 ^ W → y < 2 ^ W → x ^^^ y ^^^ 2 ^ (W - 1) < 2 ^ W := fun hx hy => Nat.xor_lt_two_pow (Nat.xor_lt_two_pow hx hy) h.top_lt
  unfold ldif
  rw [Tp_J h, Rs_J h, J_or ha hb h.top_lt h.top_lt, J_and ha' hb' h.rs_lt h.rs_lt, J_sub (le _ _) (le _ _) (le _ _), J_xor ha hb ha' hb', J_xor (Nat.xor_lt_two_pow ha ha') (Nat.xor_lt_two_pow hb hb') h.top_lt h.top_lt,
    J_and (x3 ha ha') (x3 hb hb') h.top_lt h.top_lt, J_xor (lt _ ha) (lt _ hb) (Nat.and_lt_two_pow _ h.top_lt) (Nat.and_lt_two_pow _ h.top_lt), e ha ha', e hb hb', e hc hc']
end
end Mine
end
section
set_option linter.unusedVariables false
set_option exponentiation.threshold 1100
namespace Mine
section
variable {W a b c a' b' c' : Nat}
/-- the top bit of a lane -/
noncomputable def tb (W m : Nat) : Nat := m / 2 ^ (W - 1) % 2
theorem tb_le (W m : Nat) : tb W m ≤ 1 := by unfold tb; omega
theorem tb_eq (h : Wd W) (ha : a < 2 ^ W) : tb W a = if a < 2 ^ (W - 1) then 0 else 1 := by
  unfold tb
  rw [div_top (by rw [h.succ]; exact ha)]
  split <;> rfl
theorem tb_and (x y : Nat) : tb W (x &&& y) = tb W x * tb W y := bit_and x y _
theorem tb_or (x y : Nat) : tb W (x ||| y) = tb W x + tb W y - tb W x * tb W y := bit_or x y _
theorem tb_xor (x y : Nat) : tb W (x ^^^ y) = (tb W x + tb W y) % 2 := by
  unfold tb; rw [bit_xor]; omega
theorem tb_full (h : Wd W) (ha : a < 2 ^ W) : tb W ((2 ^ W - 1) ^^^ a) = 1 - tb W a := by
  rw [xor_full ha, tb_eq h (by omega), tb_eq h ha]
  have := h.top
  have p : 0 < 2 ^ (W - 1) := Nat.two_pow_pos (W - 1)
  split <;> split <;> omega
theorem spr_J (h : Wd W) (ha : a < 2 ^ W) (hb : b < 2 ^ W) : spr W (J W a b c) = J W (tb W a * (2 ^ W - 1)) (tb W b * (2 ^ W - 1)) (tb W c * (2 ^ W - 1)) := by
  unfold spr
  rw [Tp_J h, J_and ha hb h.top_lt h.top_lt, and_top, and_top, and_top, ← J_mul, Nat.mul_div_cancel _ (Nat.two_pow_pos _), J_mul]
  rfl
theorem bit_mul_lt (h : Wd W) (m : Nat) : tb W m * (2 ^ W - 1) < 2 ^ W := by
  have := tb_le W m
  have p := Nat.two_pow_pos W
  rcases Nat.le_one_iff_eq_zero_or_eq_one.mp this with e | e <;> rw [e] <;> omega
theorem or_full (h : a < 2 ^ W) : a ||| (2 ^ W - 1) = 2 ^ W - 1 := by
  have h1 := xor_and_or (2 ^ W - 1) a
  rw [xor_full h, Nat.and_comm, Nat.and_two_pow_sub_one_eq_mod, Nat.mod_eq_of_lt h, Nat.or_comm] at h1
  have p := Nat.two_pow_pos W
  omega
theorem and_full (h : a < 2 ^ W) : a &&& (2 ^ W - 1) = a := by rw [Nat.and_two_pow_sub_one_eq_mod, Nat.mod_eq_of_lt h]
theorem tb0 (h : Wd W) (ha : a < 2 ^ (W - 1)) : tb W a = 0 := by rw [tb_eq h (Nat.lt_trans ha h.top_lt), if_pos ha]
theorem tb1 (h : Wd W) (ha : a < 2 ^ W) (ha' : 2 ^ (W - 1) ≤ a) : tb W a = 1 := by rw [tb_eq h ha, if_neg (Nat.not_lt.mpr ha')]
theorem or_a (y : Nat) : 0 + 0 * y - 0 * (0 * y) = 0 := by rw [Nat.zero_mul, Nat.zero_mul]
theorem or_b (y : Nat) : 1 + y - 1 * y = 1 := by rw [Nat.one_mul, Nat.add_sub_cancel]
/-- the sum that stops at the top -/
theorem adds_lane (h : Wd W) (ha : a < 2 ^ W) (ha' : a' < 2 ^ W) :
    (a + a') % 2 ^ W ||| tb W ((a &&& a') ||| ((a ||| a') &&& ((2 ^ W - 1) ^^^ (a + a') % 2 ^ W))) * (2 ^ W - 1) = if a + a' < 2 ^ W then a + a' else 2 ^ W - 1 := by
  have hs : (a + a') % 2 ^ W < 2 ^ W := Nat.mod_lt _ (Nat.two_pow_pos _)
  have full : (a + a') % 2 ^ W ||| 1 * (2 ^ W - 1) = 2 ^ W - 1 := by rw [Nat.one_mul, or_full hs]
  have none : (a + a') % 2 ^ W ||| 0 * (2 ^ W - 1) = (a + a') % 2 ^ W := by rw [Nat.zero_mul, Nat.or_zero]
  have t := h.top
  have g0 := @tb0 W
  have g1 := @tb1 W
  rw [tb_or, tb_and, tb_and, tb_or, tb_full h hs]
  clear hs
  generalize 2 ^ (W - 1) = T at *
  generalize 2 ^ W = B at *
  have low : a + a' < B → (a + a') % B = a + a' := Nat.mod_eq_of_lt
  have high : B ≤ a + a' → (a + a') % B = a + a' - B := fun q => md2 q (Nat.add_lt_add ha ha')
  rcases Nat.lt_or_ge a T with h1 | h1 <;> rcases Nat.lt_or_ge a' T with h2 | h2
  · have q : a + a' < B := by rw [t]; exact Nat.add_lt_add h1 h2
    rw [g0 h h1, g0 h h2, show 0 + 0 - 0 * 0 = 0 from rfl, show 0 * 0 = 0 from rfl, or_a, none, if_pos q, low q]
  · rw [g0 h h1, g1 h ha' h2]
    rcases Nat.lt_or_ge (a + a') B with h3 | h3
    · rw [low h3] at none ⊢
      rw [g1 h h3 (Nat.le_trans h2 (Nat.le_add_left ..)), if_pos h3]
      exact none
    · rw [high h3] at full ⊢
      rw [g0 h (by omega), if_neg (Nat.not_lt.mpr h3)]
      exact full
  · rw [g1 h ha h1, g0 h h2]
    rcases Nat.lt_or_ge (a + a') B with h3 | h3
    · rw [low h3] at none ⊢
      rw [g1 h h3 (Nat.le_trans h1 (Nat.le_add_right ..)), if_pos h3]
      exact none
    · rw [high h3] at full ⊢
      rw [g0 h (by omega), if_neg (Nat.not_lt.mpr h3)]
      exact full
  · have q : B ≤ a + a' := by rw [t]; exact Nat.add_le_add h1 h2
    rw [g1 h ha h1, g1 h ha' h2, show 1 * 1 = 1 from rfl, show 1 + 1 - 1 = 1 from rfl, Nat.one_mul (1 - _), or_b, if_neg (Nat.not_lt.mpr q)]
    exact full
/-- the difference that stops at nought -/
theorem subs_lane (h : Wd W) (ha : a < 2 ^ W) (ha' : a' < 2 ^ W) :
    (a + 2 ^ W - a') % 2 ^ W &&& ((2 ^ W - 1) ^^^ tb W ((((2 ^ W - 1) ^^^ a) &&& a') ||| ((((2 ^ W - 1) ^^^ a) ||| a') &&& (a + 2 ^ W - a') % 2 ^ W)) * (2 ^ W - 1)) = a - a' := by
  have hs : (a + 2 ^ W - a') % 2 ^ W < 2 ^ W := Nat.mod_lt _ (Nat.two_pow_pos _)
  have full : (a + 2 ^ W - a') % 2 ^ W &&& (2 ^ W - 1 - 0 * (2 ^ W - 1)) = (a + 2 ^ W - a') % 2 ^ W := by rw [Nat.zero_mul, Nat.sub_zero, and_full hs]
  have none : (a + 2 ^ W - a') % 2 ^ W &&& (2 ^ W - 1 - 1 * (2 ^ W - 1)) = 0 := by rw [Nat.one_mul, Nat.sub_self, Nat.and_zero]
  have t := h.top
  have g0 := @tb0 W
  have g1 := @tb1 W
  rw [xor_full (bit_mul_lt h _), tb_or, tb_and, tb_and, tb_or, tb_full h ha]
  clear hs
  generalize 2 ^ (W - 1) = T at *
  generalize 2 ^ W = B at *
  have low : a < a' → (a + B - a') % B = a + B - a' := fun q => Nat.mod_eq_of_lt (by omega)
  have high : a' ≤ a → (a + B - a') % B = a - a' := fun q => by rw [md2 (by omega) (by omega)]; omega
  rcases Nat.lt_or_ge a T with h1 | h1 <;> rcases Nat.lt_or_ge a' T with h2 | h2
  · rw [g0 h h1, g0 h h2]
    rcases Nat.lt_or_ge a a' with h3 | h3
    · rw [low h3] at none ⊢
      rw [g1 h (by omega) (by omega), Nat.sub_eq_zero_of_le (Nat.le_of_lt h3)]
      exact none
    · rw [high h3] at full ⊢
      rw [g0 h (Nat.lt_of_le_of_lt (Nat.sub_le ..) h1)]
      exact full
  · rw [g0 h h1, g1 h ha' h2, show (1 - 0) * 1 = 1 from rfl, show 1 - 0 + 1 - 1 = 1 from rfl, Nat.one_mul (tb W _), or_b, Nat.sub_eq_zero_of_le (Nat.le_of_lt (Nat.lt_of_lt_of_le h1 h2))]
    exact none
  · rw [g1 h ha h1, g0 h h2, show 1 - 1 + 0 - (1 - 1) * 0 = 0 from rfl, Nat.zero_mul, or_a, full, high (Nat.le_trans (Nat.le_of_lt h2) h1)]
  · rw [g1 h ha h1, g1 h ha' h2]
    rcases Nat.lt_or_ge a a' with h3 | h3
    · rw [low h3] at none ⊢
      rw [g1 h (by omega) (by omega), Nat.sub_eq_zero_of_le (Nat.le_of_lt h3)]
      exact none
    · rw [high h3] at full ⊢
      rw [g0 h (by omega)]
      exact full
end
end Mine
end
section
set_option linter.unusedVariables false
set_option linter.unusedSimpArgs false
set_option exponentiation.threshold 1100
namespace Mine
section
variable {W a b c a' b' c' : Nat}
/-- a lane read with its sign -/
theorem sgn_eq (h : Wd W) (ha : a < 2 ^ W) : sgn W true a = if a < 2 ^ (W - 1) then (a : Int) else (a : Int) - ((2 ^ W : Nat) : Int) := by
  unfold sgn
  by_cases q : a < 2 ^ (W - 1)
  · rw [if_pos q, if_neg (by simp; omega)]
  · rw [if_neg q, if_pos (by simp; omega)]
theorem pik_lane (h : Wd W) {m o t : Nat} (ho : o < 2 ^ W) (ht : t < 2 ^ W) : (o &&& tb W m * (2 ^ W - 1)) ||| (t &&& ((2 ^ W - 1) ^^^ tb W m * (2 ^ W - 1))) = if tb W m = 1 then o else t := by
  rw [xor_full (bit_mul_lt h _)]
  rcases Nat.le_one_iff_eq_zero_or_eq_one.mp (tb_le W m) with e | e <;> rw [e]
  · simp only [Nat.zero_mul, Nat.and_zero, Nat.sub_zero, Nat.zero_or]
    rw [and_full ht]; rfl
  · simp only [Nat.one_mul, Nat.sub_self, Nat.and_zero, Nat.or_zero, if_true]
    rw [and_full ho]
theorem lo_true : loK true W = -((2 ^ (W - 1) : Nat) : Int) := by unfold loK; rw [if_pos rfl, p2]
theorem hi_true : hiK true W = ((2 ^ (W - 1) : Nat) : Int) - 1 := by unfold hiK; rw [if_pos rfl, p2]
theorem clamp_mid {lo hi x : Int} (h : lo ≤ x) (h' : x ≤ hi) : clampK lo hi x = x := by
  unfold clampK
  rw [if_neg (Int.not_lt.mpr h'), if_neg (Int.not_lt.mpr h)]
theorem clamp_top {lo hi x : Int} (h : hi < x) (h' : lo ≤ hi) : clampK lo hi x = hi := by
  unfold clampK
  rw [if_pos h, if_neg (Int.not_lt.mpr h')]
theorem clamp_foot {lo hi x : Int} (h : x < lo) (h' : x ≤ hi) : clampK lo hi x = lo := by
  unfold clampK
  rw [if_neg (Int.not_lt.mpr h'), if_pos h]
theorem sgn0 (h : Wd W) (ha : a < 2 ^ (W - 1)) : sgn W true a = (a : Int) := by rw [sgn_eq h (Nat.lt_trans ha h.top_lt), if_pos ha]
theorem sgn1 (h : Wd W) (ha : a < 2 ^ W) (ha' : 2 ^ (W - 1) ≤ a) : sgn W true a = (a : Int) - ((2 ^ W : Nat) : Int) := by rw [sgn_eq h ha, if_neg (Nat.not_lt.mpr ha')]
/-- the signed sum that stops at both ends -/
theorem addi_lane (h : Wd W) (ha : a < 2 ^ W) (ha' : a' < 2 ^ W) :
    sgn W true (if tb W (((2 ^ W - 1) ^^^ a ^^^ a') &&& (a ^^^ (a + a') % 2 ^ W)) = 1 then 2 ^ (W - 1) - 1 + tb W a else (a + a') % 2 ^ W) = clampK (loK true W) (hiK true W) (sgn W true a + sgn W true a') := by
  have t := h.top
  have p : 0 < 2 ^ (W - 1) := Nat.two_pow_pos (W - 1)
  have g0 := @tb0 W
  have g1 := @tb1 W
  have s0 := @sgn0 W
  have s1 := @sgn1 W
  rw [tb_and, tb_xor, tb_full h ha, tb_xor, lo_true, hi_true]
  generalize 2 ^ (W - 1) = T at *
  generalize 2 ^ W = B at *
  subst t
  rcases Nat.lt_or_ge a T with h1 | h1 <;> rcases Nat.lt_or_ge a' T with h2 | h2
  · have m : (a + a') % (T + T) = a + a' := Nat.mod_eq_of_lt (by omega)
    rw [m, g0 h h1, g0 h h2, s0 h h1, s0 h h2]
    rcases Nat.lt_or_ge (a + a') T with h3 | h3
    · rw [g0 h h3, if_neg (by decide), s0 h h3, clamp_mid (by omega) (by omega), Int.natCast_add]
    · rw [g1 h (by omega) h3, if_pos (by decide), s0 h (by omega), clamp_top (by omega) (by omega)]; omega
  · rw [g0 h h1, g1 h ha' h2, s0 h h1, s1 h ha' h2, if_neg (by rw [show (1 - 0 + 1) % 2 = 0 from rfl, Nat.zero_mul]; decide), clamp_mid (by omega) (by omega)]
    rcases Nat.lt_or_ge (a + a') (T + T) with h3 | h3
    · rw [Nat.mod_eq_of_lt h3, s1 h h3 (by omega)]; omega
    · rw [md2 h3 (by omega), s0 h (by omega)]; omega
  · rw [g1 h ha h1, g0 h h2, s1 h ha h1, s0 h h2, if_neg (by rw [show (1 - 1 + 0) % 2 = 0 from rfl, Nat.zero_mul]; decide), clamp_mid (by omega) (by omega)]
    rcases Nat.lt_or_ge (a + a') (T + T) with h3 | h3
    · rw [Nat.mod_eq_of_lt h3, s1 h h3 (by omega)]; omega
    · rw [md2 h3 (by omega), s0 h (by omega)]; omega
  · have m : (a + a') % (T + T) = a + a' - (T + T) := md2 (by omega) (by omega)
    rw [m, g1 h ha h1, g1 h ha' h2, s1 h ha h1, s1 h ha' h2]
    rcases Nat.lt_or_ge (a + a' - (T + T)) T with h3 | h3
    · rw [g0 h h3, if_pos (by decide), s1 h (by omega) (by omega), clamp_foot (by omega) (by omega)]; omega
    · rw [g1 h (by omega) h3, if_neg (by decide), s1 h (by omega) h3, clamp_mid (by omega) (by omega)]; omega
/-- the signed difference that stops at both ends -/
theorem subi_lane (h : Wd W) (ha : a < 2 ^ W) (ha' : a' < 2 ^ W) :
    sgn W true (if tb W ((a ^^^ a') &&& (a ^^^ (a + 2 ^ W - a') % 2 ^ W)) = 1 then 2 ^ (W - 1) - 1 + tb W a else (a + 2 ^ W - a') % 2 ^ W) = clampK (loK true W) (hiK true W) (sgn W true a - sgn W true a') := by
  have t := h.top
  have p : 0 < 2 ^ (W - 1) := Nat.two_pow_pos (W - 1)
  have g0 := @tb0 W
  have g1 := @tb1 W
  have s0 := @sgn0 W
  have s1 := @sgn1 W
  rw [tb_and, tb_xor, tb_xor, lo_true, hi_true]
  generalize 2 ^ (W - 1) = T at *
  generalize 2 ^ W = B at *
  subst t
  rcases Nat.lt_or_ge a T with h1 | h1 <;> rcases Nat.lt_or_ge a' T with h2 | h2
  · rw [g0 h h1, g0 h h2, s0 h h1, s0 h h2, if_neg (by rw [show (0 + 0) % 2 = 0 from rfl, Nat.zero_mul]; decide), clamp_mid (by omega) (by omega)]
    rcases Nat.lt_or_ge a a' with h3 | h3
    · rw [Nat.mod_eq_of_lt (by omega), s1 h (by omega) (by omega)]; omega
    · rw [md2 (by omega) (by omega), s0 h (by omega)]; omega
  · have m : (a + (T + T) - a') % (T + T) = a + (T + T) - a' := Nat.mod_eq_of_lt (by omega)
    rw [m, g0 h h1, g1 h ha' h2, s0 h h1, s1 h ha' h2]
    rcases Nat.lt_or_ge (a + (T + T) - a') T with h3 | h3
    · rw [g0 h h3, if_neg (by decide), s0 h h3, clamp_mid (by omega) (by omega)]; omega
    · rw [g1 h (by omega) h3, if_pos (by decide), s0 h (by omega), clamp_top (by omega) (by omega)]; omega
  · have m : (a + (T + T) - a') % (T + T) = a - a' := by rw [md2 (by omega) (by omega)]; omega
    rw [m, g1 h ha h1, g0 h h2, s1 h ha h1, s0 h h2]
    rcases Nat.lt_or_ge (a - a') T with h3 | h3
    · rw [g0 h h3, if_pos (by decide), s1 h (by omega) (by omega), clamp_foot (by omega) (by omega)]; omega
    · rw [g1 h (by omega) h3, if_neg (by decide), s1 h (by omega) h3, clamp_mid (by omega) (by omega)]; omega
  · rw [g1 h ha h1, g1 h ha' h2, s1 h ha h1, s1 h ha' h2, if_neg (by rw [show (1 + 1) % 2 = 0 from rfl, Nat.zero_mul]; decide), clamp_mid (by omega) (by omega)]
    rcases Nat.lt_or_ge a a' with h3 | h3
    · rw [Nat.mod_eq_of_lt (by omega), s1 h (by omega) (by omega)]; omega
    · rw [md2 (by omega) (by omega), s0 h (by omega)]; omega
end
end Mine
end
section
set_option linter.unusedVariables false
set_option linter.unusedSimpArgs false
set_option exponentiation.threshold 1100
namespace Mine
section
variable {W a b c a' b' c' : Nat}
/-- a shift up within the lanes -/
theorem keep_lt {t : Nat} : 2 ^ (W - t) - 1 < 2 ^ W := Nat.lt_of_le_of_lt (Nat.sub_le_sub_right (Nat.pow_le_pow_right (by decide) (Nat.sub_le _ _)) 1) (by have := Nat.two_pow_pos W; omega)
theorem keep_lt' {t : Nat} : 2 ^ (W - t) - 1 < 2 ^ (W - t) := by have := Nat.two_pow_pos (W - t); omega
theorem up_J (h : Wd W) {t : Nat} (ht : t < W) (ha : a < 2 ^ W) (hb : b < 2 ^ W) : dUp W t (J W a b c) = J W (a % 2 ^ (W - t) * 2 ^ t) (b % 2 ^ (W - t) * 2 ^ t) (c % 2 ^ (W - t) * 2 ^ t) := by
  unfold dUp dKeep
  rw [mul_rep h, J_and ha hb keep_lt keep_lt, J_mul, Nat.and_two_pow_sub_one_eq_mod, Nat.and_two_pow_sub_one_eq_mod, Nat.and_two_pow_sub_one_eq_mod]
theorem up_lane {t : Nat} (ht : t < W) : a % 2 ^ (W - t) * 2 ^ t = a * 2 ^ t % 2 ^ W := by
  have e : 2 ^ W = 2 ^ (W - t) * 2 ^ t := by rw [← Nat.pow_add]; congr 1; omega
  rw [e, Nat.mul_mod_mul_right]
theorem down_J (h : Wd W) {t : Nat} (ht : t < W) (ha : a < 2 ^ W) (hb : b < 2 ^ W) (hc : c < 2 ^ W) : dDown W t (J W a b c) = J W (a / 2 ^ t) (b / 2 ^ t) (c / 2 ^ t) := by
  unfold dDown dKeep
  have e : ∀ {x : Nat}, x < 2 ^ W → x / 2 ^ t &&& 2 ^ (W - t) - 1 = x / 2 ^ t := fun {x} hx => by
    rw [Nat.and_two_pow_sub_one_eq_mod]
    apply Nat.mod_eq_of_lt
    apply Nat.div_lt_of_lt_mul
    rw [← Nat.pow_add, show t + (W - t) = W by omega]; exact hx
  rw [mul_rep h, J_shr ha hb (by omega) keep_lt' keep_lt' keep_lt', e ha, e hb, e hc]
/-- rotations -/
theorem rl_J (h : Wd W) {t : Nat} (ht : t < W) (ha : a < 2 ^ W) (hb : b < 2 ^ W) (hc : c < 2 ^ W) : dRl W t (J W a b c) = J W ((a * 2 ^ t &&& 2 ^ W - 1) ||| a / 2 ^ (W - t)) ((b * 2 ^ t &&& 2 ^ W - 1) ||| b / 2 ^ (W - t)) ((c * 2 ^ t &&& 2 ^ W - 1) ||| c / 2 ^ (W - t)) := by
  unfold dRl dSpill
  have e : ∀ {x : Nat}, x < 2 ^ W → x / 2 ^ (W - t) &&& 2 ^ t - 1 = x / 2 ^ (W - t) := fun {x} hx => by
    rw [Nat.and_two_pow_sub_one_eq_mod]
    apply Nat.mod_eq_of_lt
    apply Nat.div_lt_of_lt_mul
    rw [← Nat.pow_add, show W - t + t = W by omega]; exact hx
  have l : 2 ^ t - 1 < 2 ^ (W - (W - t)) := by rw [show W - (W - t) = t by omega]; have := Nat.two_pow_pos t; omega
  have m : ∀ x, x % 2 ^ (W - t) * 2 ^ t < 2 ^ W := fun x => by rw [up_lane ht]; exact Nat.mod_lt _ (Nat.two_pow_pos _)
  have q : ∀ {x : Nat}, x < 2 ^ W → x / 2 ^ (W - t) < 2 ^ W := fun hx => Nat.lt_of_le_of_lt (Nat.div_le_self _ _) hx
  rw [up_J h ht ha hb, mul_rep h, J_shr ha hb (by omega) l l l, e ha, e hb, e hc, J_or (m _) (m _) (q ha) (q hb)]
  simp only [Nat.and_two_pow_sub_one_eq_mod, up_lane ht]
theorem rr_J (h : Wd W) {t : Nat} (ht : t < W) (ha : a < 2 ^ W) (hb : b < 2 ^ W) (hc : c < 2 ^ W) : dRr W t (J W a b c) = J W (a / 2 ^ t ||| (a * 2 ^ (W - t) &&& 2 ^ W - 1)) (b / 2 ^ t ||| (b * 2 ^ (W - t) &&& 2 ^ W - 1)) (c / 2 ^ t ||| (c * 2 ^ (W - t) &&& 2 ^ W - 1)) := by
  unfold dRr dSpill
  have l : 2 ^ t - 1 < 2 ^ W := by have := Nat.pow_lt_pow_right (a := 2) (by decide) ht; omega
  have m : ∀ x, x % 2 ^ t * 2 ^ (W - t) = x * 2 ^ (W - t) % 2 ^ W := fun x => by
    have e : 2 ^ W = 2 ^ t * 2 ^ (W - t) := by rw [← Nat.pow_add]; congr 1; omega
    rw [e, Nat.mul_mod_mul_right]
  have r : ∀ x, x * 2 ^ (W - t) % 2 ^ W < 2 ^ W := fun x => Nat.mod_lt _ (Nat.two_pow_pos _)
  have q : ∀ {x : Nat}, x < 2 ^ W → x / 2 ^ t < 2 ^ W := fun hx => Nat.lt_of_le_of_lt (Nat.div_le_self _ _) hx
  rw [down_J h ht ha hb hc, mul_rep h, J_and ha hb l l, J_mul]
  simp only [Nat.and_two_pow_sub_one_eq_mod, m]
  rw [J_or (q ha) (q hb) (r _) (r _)]
end
end Mine
end
section
set_option linter.unusedVariables false
set_option linter.unusedSimpArgs false
set_option exponentiation.threshold 1100
namespace Mine
section
variable {W a b c a' b' c' : Nat}
/-- one turn of the product in a lane -/
noncomputable def pl (W a y tot p : Nat) : Nat := (2 * tot + (y / 2 ^ (W - 1 - p) % 2) * a) % 2 ^ W
theorem one_lt (h : Wd W) : 1 < 2 ^ W := by have := h.top; have := Nat.two_pow_pos (W - 1); have := h.top_lt; omega
theorem and_bit (h : Wd W) (ha : a < 2 ^ W) (z : Nat) : a &&& z % 2 * (2 ^ W - 1) = z % 2 * a := by
  rcases Nat.mod_two_eq_zero_or_one z with e | e <;> rw [e]
  · simp
  · rw [Nat.one_mul, Nat.one_mul, and_full ha]
theorem pstep_J (h : Wd W) {p t0 t1 t2 : Nat} (hp : p < W) (ha : a < 2 ^ W) (hb : b < 2 ^ W) (hc : c < 2 ^ W) (ha' : a' < 2 ^ W) (hb' : b' < 2 ^ W) (h0 : t0 < 2 ^ W) (h1 : t1 < 2 ^ W) (h2 : t2 < 2 ^ W) :
    pstep W (J W a b c) (J W a' b' c') (Tp W) (Rs W) (J W t0 t1 t2) p = J W (pl W a a' t0 p) (pl W b b' t1 p) (pl W c c' t2 p) := by
  have top := h.top
  have lw : ∀ x, x % 2 ^ (W - 1) * 2 < 2 ^ W := fun x => by have := Nat.mod_lt x (Nat.two_pow_pos (W - 1)); omega
  have l1 : 1 < 2 ^ (W - (W - 1 - p)) := by
    rw [show W - (W - 1 - p) = p + 1 by omega, Nat.pow_succ]; have := Nat.two_pow_pos p; omega
  have bt : ∀ z : Nat, z % 2 * (2 ^ W - 1) < 2 ^ W := fun z => by
    have := Nat.two_pow_pos W
    rcases Nat.mod_two_eq_zero_or_one z with e | e <;> rw [e] <;> omega
  have bl : ∀ {x : Nat} (z : Nat), x < 2 ^ W → z % 2 * x < 2 ^ W := fun {x} z hx => by
    rcases Nat.mod_two_eq_zero_or_one z with e | e <;> rw [e] <;> omega
  have m1 : ∀ z : Nat, z &&& 1 = z % 2 := fun z => Nat.and_one_is_mod z
  have fin : ∀ (x y tt : Nat), (tt % 2 ^ (W - 1) * 2 + y) % 2 ^ W = (2 * tt + y) % 2 ^ W := fun x y tt => by
    have e : tt % 2 ^ (W - 1) * 2 = 2 * tt % 2 ^ W := by
      rw [show 2 ^ W = 2 * 2 ^ (W - 1) by omega, Nat.mul_mod_mul_left, Nat.mul_comm]
    rw [e, Nat.mod_add_mod]
  unfold pstep pl
  rw [Rs_J h, J_and h0 h1 h.rs_lt h.rs_lt, J_mul, mul_rep h, J_shr ha' hb' (by omega) l1 l1 l1, J_mul]
  simp only [Nat.and_two_pow_sub_one_eq_mod, m1]
  rw [J_and ha hb (bt _) (bt _), and_bit h ha, and_bit h hb, and_bit h hc, ← Rs_J h, sum_J h (lw _) (lw _) (lw _) (bl _ ha) (bl _ hb) (bl _ hc), fin, fin, fin]
  all_goals exact 0
/-- the lane's product -/
theorem pl_fold (h : Wd W) (ha : a < 2 ^ W) {y : Nat} (hy : y < 2 ^ W) : ∀ j ≤ W, (List.range j).foldl (pl W a y) 0 = a * (y / 2 ^ (W - j)) % 2 ^ W
  | 0, _ => by rw [Nat.sub_zero, Nat.div_eq_of_lt hy]; simp
  | j + 1, hj => by
    rw [List.range_succ, List.foldl_append, pl_fold h ha hy j (by omega)]
    show pl W a y _ j = _
    unfold pl
    have e : y / 2 ^ (W - 1 - j) = 2 * (y / 2 ^ (W - j)) + y / 2 ^ (W - 1 - j) % 2 := by
      have : y / 2 ^ (W - j) = y / 2 ^ (W - 1 - j) / 2 := by rw [Nat.div_div_eq_div_mul, ← Nat.pow_succ, show (W - 1 - j).succ = W - j by omega]
      omega
    rw [show W - (j + 1) = W - 1 - j by omega]
    conv => rhs; rw [e]
    generalize y / 2 ^ (W - 1 - j) % 2 = z
    generalize y / 2 ^ (W - j) = q
    rw [Nat.add_mod, Nat.mul_mod, Nat.mod_mod, ← Nat.mul_mod, ← Nat.add_mod, Nat.mul_add]
    congr 1
    rw [Nat.mul_comm z a, ← Nat.mul_assoc, ← Nat.mul_assoc, Nat.mul_comm 2 a]
theorem prod_J (h : Wd W) (ha : a < 2 ^ W) (hb : b < 2 ^ W) (hc : c < 2 ^ W) (ha' : a' < 2 ^ W) (hb' : b' < 2 ^ W) (hc' : c' < 2 ^ W) : dPro W (J W a b c) (J W a' b' c') = J W (a * a' % 2 ^ W) (b * b' % 2 ^ W) (c * c' % 2 ^ W) := by
  have lt : ∀ x y j, (List.range j).foldl (pl W x y) 0 < 2 ^ W := fun x y j => by
    cases j with
    | zero => exact Nat.two_pow_pos W
    | succ j => rw [List.range_succ, List.foldl_append]; exact Nat.mod_lt _ (Nat.two_pow_pos W)
  have key : ∀ j ≤ W, (List.range j).foldl (pstep W (J W a b c) (J W a' b' c') (Tp W) (Rs W)) 0 = J W ((List.range j).foldl (pl W a a') 0) ((List.range j).foldl (pl W b b') 0) ((List.range j).foldl (pl W c c') 0) := by
    intro j
    induction j with
    | zero => intro _; simp [J]
    | succ j ih =>
      intro hj
      rw [List.range_succ, List.foldl_append, List.foldl_append, List.foldl_append, List.foldl_append, ih (by omega)]
      exact pstep_J h (by omega) ha hb hc ha' hb' (lt _ _ _) (lt _ _ _) (lt _ _ _)
  unfold dPro lprod
  rw [key W (Nat.le_refl _), pl_fold h ha ha' W (Nat.le_refl _), pl_fold h hb hb' W (Nat.le_refl _), pl_fold h hc hc' W (Nat.le_refl _), Nat.sub_self, Nat.pow_zero, Nat.div_one, Nat.div_one, Nat.div_one]
end
end Mine
end
section
set_option linter.unusedVariables false
set_option linter.unusedSimpArgs false
set_option exponentiation.threshold 1100
namespace Mine
section
variable {W a b c a' b' c' : Nat}
theorem ones8 (x : Nat) : ones 8 x = ostep 8 4 (ostep 8 2 (ostep 8 1 x)) := by simp [ones, iter]
theorem ones16 (x : Nat) : ones 16 x = ostep 16 8 (ostep 16 4 (ostep 16 2 (ostep 16 1 x))) := by simp [ones, iter]
theorem ones64 (x : Nat) : ones 64 x = ostep 64 32 (ostep 64 16 (ostep 64 8 (ostep 64 4 (ostep 64 2 (ostep 64 1 x))))) := by simp [ones, iter]
theorem smeared8 (x : Nat) : smeared 8 x = sstep 8 4 (sstep 8 2 (sstep 8 1 x)) := by simp [smeared, iter]
theorem smeared16 (x : Nat) : smeared 16 x = sstep 16 8 (sstep 16 4 (sstep 16 2 (sstep 16 1 x))) := by simp [smeared, iter]
theorem smeared64 (x : Nat) : smeared 64 x = sstep 64 32 (sstep 64 16 (sstep 64 8 (sstep 64 4 (sstep 64 2 (sstep 64 1 x))))) := by simp [smeared, iter]
theorem ostep_J {s m : Nat} (hk : (2 ^ (3 * W) - 1) / (2 ^ s + 1) = J W (kee s m) (kee s m) (kee s m)) (hm : kee s m < 2 ^ (W - s)) (hs : s ≤ W) (ha : a < 2 ^ W) (hb : b < 2 ^ W) :
    ostep W s (J W a b c) = J W (gst s m a) (gst s m b) (gst s m c) := by
  have kl : kee s m < 2 ^ W := Nat.lt_of_lt_of_le hm (Nat.pow_le_pow_right (by decide) (Nat.sub_le _ _))
  unfold ostep
  rw [hk, J_and ha hb kl kl, J_shr ha hb hs hm hm hm, J_add]
  rfl
theorem ones_J (h : Wd W) (ha : a < 2 ^ W) (hb : b < 2 ^ W) (hc : c < 2 ^ W) : ones W (J W a b c) = J W (pop W a) (pop W b) (pop W c) := by
  rcases h with rfl | rfl | rfl
  · have g1 := gst_lt (s := 1) (by decide) 4
    have g2 := gst_lt (s := 2) (by decide) 2
    rw [ones8, ostep_J (m := 4) (by decide +kernel) (by decide +kernel) (by decide) ha hb, ostep_J (m := 2) (by decide +kernel) (by decide +kernel) (by decide) (g1 _) (g1 _), ostep_J (m := 1) (by decide +kernel) (by decide +kernel) (by decide) (g2 _) (g2 _),
      pop8 ha, pop8 hb, pop8 hc]
  · have g1 := gst_lt (s := 1) (by decide) 8
    have g2 := gst_lt (s := 2) (by decide) 4
    have g4 := gst_lt (s := 4) (by decide) 2
    rw [ones16, ostep_J (m := 8) (by decide +kernel) (by decide +kernel) (by decide) ha hb, ostep_J (m := 4) (by decide +kernel) (by decide +kernel) (by decide) (g1 _) (g1 _), ostep_J (m := 2) (by decide +kernel) (by decide +kernel) (by decide) (g2 _) (g2 _),
      ostep_J (m := 1) (by decide +kernel) (by decide +kernel) (by decide) (g4 _) (g4 _), pop16 ha, pop16 hb, pop16 hc]
  · have g1 := gst_lt (s := 1) (by decide) 32
    have g2 := gst_lt (s := 2) (by decide) 16
    have g4 := gst_lt (s := 4) (by decide) 8
    have g8 := gst_lt (s := 8) (by decide) 4
    have g16 := gst_lt (s := 16) (by decide) 2
    rw [ones64, ostep_J (m := 32) (by decide +kernel) (by decide +kernel) (by decide) ha hb, ostep_J (m := 16) (by decide +kernel) (by decide +kernel) (by decide) (g1 _) (g1 _), ostep_J (m := 8) (by decide +kernel) (by decide +kernel) (by decide) (g2 _) (g2 _),
      ostep_J (m := 4) (by decide +kernel) (by decide +kernel) (by decide) (g4 _) (g4 _), ostep_J (m := 2) (by decide +kernel) (by decide +kernel) (by decide) (g8 _) (g8 _), ostep_J (m := 1) (by decide +kernel) (by decide +kernel) (by decide) (g16 _) (g16 _),
      pop64 ha, pop64 hb, pop64 hc]
/-- one step of the smearing -/
noncomputable def smr (s a : Nat) : Nat := a ||| a / 2 ^ s
theorem smr_lt {s : Nat} (ha : a < 2 ^ W) : smr s a < 2 ^ W := Nat.or_lt_two_pow ha (Nat.lt_of_le_of_lt (Nat.div_le_self _ _) ha)
theorem sstep_J (h : Wd W) {s : Nat} (hs : s ≤ W) (ha : a < 2 ^ W) (hb : b < 2 ^ W) (hc : c < 2 ^ W) : sstep W s (J W a b c) = J W (smr s a) (smr s b) (smr s c) := by
  have e : ∀ {x : Nat}, x < 2 ^ W → x / 2 ^ s &&& 2 ^ (W - s) - 1 = x / 2 ^ s := fun {x} hx => by
    rw [Nat.and_two_pow_sub_one_eq_mod]
    apply Nat.mod_eq_of_lt
    apply Nat.div_lt_of_lt_mul
    rw [← Nat.pow_add, show s + (W - s) = W by omega]; exact hx
  have l : 2 ^ (W - s) - 1 < 2 ^ (W - s) := by have := Nat.two_pow_pos (W - s); omega
  have q : ∀ {x : Nat}, x < 2 ^ W → x / 2 ^ s < 2 ^ W := fun hx => Nat.lt_of_le_of_lt (Nat.div_le_self _ _) hx
  unfold sstep
  rw [mul_rep h, J_shr ha hb hs l l l, e ha, e hb, e hc, J_or ha hb (q ha) (q hb)]
  rfl
theorem smr_step {z T : Nat} (hz : ∀ i, z.testBit i = true ↔ ∃ d, d < T ∧ a.testBit (i + d) = true) : ∀ i, (smr T z).testBit i = true ↔ ∃ d, d < 2 * T ∧ a.testBit (i + d) = true := by
  intro i
  unfold smr
  rw [Nat.testBit_or, Nat.testBit_div_two_pow, Bool.or_eq_true, hz, hz]
  constructor
  · rintro (⟨d, h1, h2⟩ | ⟨d, h1, h2⟩)
    · exact ⟨d, by omega, h2⟩
    · exact ⟨T + d, by omega, by rw [← Nat.add_assoc]; exact h2⟩
  · rintro ⟨d, h1, h2⟩
    by_cases h : d < T
    · exact .inl ⟨d, h, h2⟩
    · exact .inr ⟨d - T, by omega, by rw [show i + T + (d - T) = i + d by omega]; exact h2⟩
theorem smr_one : ∀ i, a.testBit i = true ↔ ∃ d, d < 1 ∧ a.testBit (i + d) = true := fun i => ⟨fun h => ⟨0, by decide, h⟩, fun ⟨d, h, h'⟩ => by
  have : d = 0 := by omega
  subst this; exact h'⟩
theorem smr_end {z T : Nat} (ha : a < 2 ^ T) (hz : ∀ i, z.testBit i = true ↔ ∃ d, d < T ∧ a.testBit (i + d) = true) (i : Nat) : z.testBit i = decide (2 ^ i ≤ a) := by
  rw [Bool.eq_iff_iff, hz, decide_eq_true_iff]
  constructor
  · rintro ⟨d, _, h⟩
    exact Nat.le_trans (Nat.pow_le_pow_right (by decide) (Nat.le_add_right _ _)) (Nat.ge_two_pow_of_testBit h)
  · intro h
    obtain ⟨j, h1, h2⟩ := Nat.exists_ge_and_testBit_of_ge_two_pow h
    refine ⟨j - i, ?_, by rw [show i + (j - i) = j by omega]; exact h2⟩
    have := Nat.ge_two_pow_of_testBit h2
    have : 2 ^ j < 2 ^ T := by omega
    have := (Nat.pow_lt_pow_iff_right (a := 2) (by decide)).mp this
    omega
/-- the lane smeared -/
noncomputable def smA (W a : Nat) : Nat := if W = 8 then smr 4 (smr 2 (smr 1 a)) else if W = 16 then smr 8 (smr 4 (smr 2 (smr 1 a))) else smr 32 (smr 16 (smr 8 (smr 4 (smr 2 (smr 1 a)))))
theorem smeared_J (h : Wd W) (ha : a < 2 ^ W) (hb : b < 2 ^ W) (hc : c < 2 ^ W) : smeared W (J W a b c) = J W (smA W a) (smA W b) (smA W c) := by
  have l := @smr_lt W
  rcases h with rfl | rfl | rfl
  · rw [smeared8, sstep_J (.inl rfl) (by decide) ha hb hc, sstep_J (.inl rfl) (by decide) (l ha) (l hb) (l hc), sstep_J (.inl rfl) (by decide) (l (l ha)) (l (l hb)) (l (l hc))]; rfl
  · rw [smeared16, sstep_J (.inr (.inl rfl)) (by decide) ha hb hc, sstep_J (.inr (.inl rfl)) (by decide) (l ha) (l hb) (l hc), sstep_J (.inr (.inl rfl)) (by decide) (l (l ha)) (l (l hb)) (l (l hc)), sstep_J (.inr (.inl rfl)) (by decide) (l (l (l ha))) (l (l (l hb))) (l (l (l hc)))]; rfl
  · rw [smeared64, sstep_J (.inr (.inr rfl)) (by decide) ha hb hc, sstep_J (.inr (.inr rfl)) (by decide) (l ha) (l hb) (l hc), sstep_J (.inr (.inr rfl)) (by decide) (l (l ha)) (l (l hb)) (l (l hc)), sstep_J (.inr (.inr rfl)) (by decide) (l (l (l ha))) (l (l (l hb))) (l (l (l hc))),
      sstep_J (.inr (.inr rfl)) (by decide) (l (l (l (l ha)))) (l (l (l (l hb)))) (l (l (l (l hc)))), sstep_J (.inr (.inr rfl)) (by decide) (l (l (l (l (l ha))))) (l (l (l (l (l hb))))) (l (l (l (l (l hc)))))]; rfl
theorem smA_bit (h : Wd W) (ha : a < 2 ^ W) (i : Nat) : (smA W a).testBit i = decide (2 ^ i ≤ a) := by
  have s1 := smr_step (smr_one (a := a))
  have s2 := smr_step s1
  have s4 := smr_step s2
  have s8 := smr_step s4
  have s16 := smr_step s8
  have s32 := smr_step s16
  rcases h with rfl | rfl | rfl
  · exact smr_end (T := 8) ha s4 i
  · exact smr_end (T := 16) ha s8 i
  · exact smr_end (T := 64) ha s32 i
theorem smA_lt (h : Wd W) (ha : a < 2 ^ W) : smA W a < 2 ^ W := by
  have l := @smr_lt W
  rcases h with rfl | rfl | rfl
  · exact l (l (l ha))
  · exact l (l (l (l ha)))
  · exact l (l (l (l (l (l ha)))))
theorem clz_J (h : Wd W) (ha : a < 2 ^ W) (hb : b < 2 ^ W) (hc : c < 2 ^ W) : dClz W (J W a b c) = J W (cl W a) (cl W b) (cl W c) := by
  have x : ∀ {y : Nat}, y < 2 ^ W → (2 ^ W - 1) ^^^ smA W y < 2 ^ W := fun hy => Nat.xor_lt_two_pow h.fu_lt (smA_lt h hy)
  have k : ∀ {y : Nat}, y < 2 ^ W → pop W ((2 ^ W - 1) ^^^ smA W y) = cl W y := fun {y} hy => by
    have := pop_clz (smA_bit h hy) W hy W (Nat.le_refl _)
    rw [Nat.sub_self, Nat.zero_add] at this; exact this
  unfold dClz
  rw [smeared_J h ha hb hc, Fu_J h, J_xor h.fu_lt h.fu_lt (smA_lt h ha) (smA_lt h hb), ones_J h (x ha) (x hb) (x hc), k ha, k hb, k hc]
theorem ctz_J (h : Wd W) (ha : a < 2 ^ W) (hb : b < 2 ^ W) (hc : c < 2 ^ W) : dCtz W (J W a b c) = J W (ct W a) (ct W b) (ct W c) := by
  have x : ∀ {y : Nat}, (2 ^ W - 1) ^^^ y < 2 ^ W → ((2 ^ W - 1) ^^^ y) &&& (y + 2 ^ W - 1) % 2 ^ W < 2 ^ W := fun {y} hy => Nat.and_lt_two_pow _ (Nat.mod_lt _ (Nat.two_pow_pos _))
  have f : ∀ {y : Nat}, y < 2 ^ W → (2 ^ W - 1) ^^^ y < 2 ^ W := fun hy => Nat.xor_lt_two_pow h.fu_lt hy
  have m : ∀ y : Nat, (y + 2 ^ W - 1) % 2 ^ W < 2 ^ W := fun y => Nat.mod_lt _ (Nat.two_pow_pos _)
  have k : ∀ {y : Nat}, y < 2 ^ W → pop W (((2 ^ W - 1) ^^^ y) &&& (y + 2 ^ W - 1) % 2 ^ W) = ct W y := fun {y} hy => by
    rw [xor_full hy]; exact pop_ctz W y hy
  unfold dCtz
  rw [mul_rep h, dif_J h ha hb hc (one_lt h) (one_lt h) (one_lt h), Fu_J h, J_xor h.fu_lt h.fu_lt ha hb, J_and (f ha) (f hb) (m a) (m b), ones_J h (x (f ha)) (x (f hb)) (x (f hc)), k ha, k hb, k hc]
theorem pop_le : ∀ (n y : Nat), pop n y ≤ n
  | 0, _ => Nat.le_refl _
  | n + 1, y => by
    show y % 2 ^ 1 + pop n (y / 2 ^ 1) ≤ n + 1
    have := pop_le n (y / 2 ^ 1)
    omega
theorem cl_le : ∀ (n y : Nat), cl n y ≤ n
  | 0, _ => Nat.le_refl _
  | n + 1, y => by
    have := cl_le n y
    unfold cl; split <;> omega
theorem ct_le : ∀ (n y : Nat), ct n y ≤ n
  | 0, _ => Nat.le_refl _
  | n + 1, y => by
    have := ct_le n (y / 2)
    unfold ct; split <;> omega
theorem le_lt (h : Wd W) {k : Nat} (hk : k ≤ W) : k < 2 ^ W := Nat.lt_of_le_of_lt hk Nat.lt_two_pow_self
theorem clz_loop (hW : 0 < W) : ∀ (n t : Nat), n + t = W → a < 2 ^ n → (iter (fun s : Nat × Nat => !((s.1 &&& 2 ^ (W - 1)) != 0)) (fun s => (s.1 * 2 ^ 1, s.2 + 1)) n (a * 2 ^ t, t)).2 = t + cl n a
  | 0, t, _, _ => rfl
  | n + 1, t, e, ha => by
    have e1 : a * 2 ^ t &&& 2 ^ (W - 1) = a / 2 ^ n % 2 * 2 ^ (W - 1) := by
      rw [and_top, show W - 1 = n + t by omega, Nat.pow_add, Nat.mul_div_mul_right _ _ (Nat.two_pow_pos t)]
    show (if (!((a * 2 ^ t &&& 2 ^ (W - 1)) != 0)) = true then iter _ _ n (a * 2 ^ t * 2 ^ 1, t + 1) else (a * 2 ^ t, t)).2 = t + (if a < 2 ^ n then 1 + cl n a else 0)
    rw [e1, div_top ha]
    have p := Nat.two_pow_pos (W - 1)
    by_cases h : a < 2 ^ n
    · rw [if_pos h, if_pos h, Nat.zero_mod, Nat.zero_mul, if_pos (by decide), Nat.mul_assoc, ← Nat.pow_add, clz_loop hW n (t + 1) (by omega) h]
      omega
    · have hz : ¬ ((!((1 % 2 * 2 ^ (W - 1)) != 0)) = true) := by
        rw [show 1 % 2 * 2 ^ (W - 1) = 2 ^ (W - 1) by omega]
        simp
      rw [if_neg h, if_neg h, if_neg hz]; rfl
theorem clzN_eq (h : Wd W) (ha : a < 2 ^ W) : clzN W a = cl W a := by
  have := clz_loop (W := W) h.pos W 0 (by omega) ha
  rw [Nat.pow_zero, Nat.mul_one, Nat.zero_add] at this
  exact this
theorem ctz_loop : ∀ (n t a : Nat), (iter (fun s : Nat × Nat => !((s.1 &&& 1) != 0)) (fun s => (s.1 / 2 ^ 1, s.2 + 1)) n (a, t)).2 = t + ct n a
  | 0, t, a => rfl
  | n + 1, t, a => by
    show (if (!((a &&& 1) != 0)) = true then iter _ _ n (a / 2 ^ 1, t + 1) else (a, t)).2 = t + (if a % 2 = 1 then 0 else 1 + ct n (a / 2))
    rw [Nat.and_one_is_mod]
    rcases Nat.mod_two_eq_zero_or_one a with q | q
    · rw [q, if_pos (by decide), if_neg (by decide), ctz_loop n (t + 1)]
      simp only [Nat.pow_one]; omega
    · rw [q, if_neg (by decide), if_pos rfl]; rfl
theorem ctzN_eq : ctzN W a = ct W a := by
  have := ctz_loop W 0 a
  rw [Nat.zero_add] at this
  exact this
theorem pop_fold {β : Type} : ∀ (l : List β) (x k : Nat), (l.foldl (fun (s : Nat × Nat) _ => (s.1 / 2 ^ 1, if ((s.1 &&& 1) != 0) = true then s.2 + 1 else s.2)) (x, k)).2 = k + pop l.length x
  | [], x, k => rfl
  | _ :: l, x, k => by
    rw [List.foldl_cons, pop_fold l]
    show _ = k + (x % 2 ^ 1 + pop l.length (x / 2 ^ 1))
    rw [Nat.and_one_is_mod]
    rcases Nat.mod_two_eq_zero_or_one x with q | q <;> simp only [q, Nat.pow_one] <;> simp <;> omega
theorem popN_eq : popN W a = pop W a := by
  have := pop_fold (List.range W) a 0
  rw [List.length_range, Nat.zero_add] at this
  exact this
end
end Mine
end
section
open PySem PySem.W PyProof.Rows
set_option linter.unusedVariables false
set_option linter.unusedSimpArgs false
set_option exponentiation.threshold 1100
namespace Mine
section
variable {W a b c a' b' c' : Nat} {sg : Bool}
local macro_rules | `(tactic| walk_at "lt") => `(tactic| first
  | assumption
  | exact Wd.top_lt (by assumption) | exact Wd.rs_lt (by assumption) | exact Wd.fu_lt (by assumption) | exact bit_mul_lt (by assumption) _ | exact keep_lt
  | exact Nat.mod_lt _ (Nat.two_pow_pos _)
  | (refine Nat.and_lt_two_pow _ ?_; walk_at "lt")
  | (refine Nat.or_lt_two_pow ?_ ?_ <;> walk_at "lt")
  | (refine Nat.xor_lt_two_pow ?_ ?_ <;> walk_at "lt"))
theorem adds_J (h : Wd W) (ha : a < 2 ^ W) (hb : b < 2 ^ W) (hc : c < 2 ^ W) (ha' : a' < 2 ^ W) (hb' : b' < 2 ^ W) (hc' : c' < 2 ^ W) :
    dAddS W (J W a b c) (J W a' b' c') = J W (if a + a' < 2 ^ W then a + a' else 2 ^ W - 1) (if b + b' < 2 ^ W then b + b' else 2 ^ W - 1) (if c + c' < 2 ^ W then c + c' else 2 ^ W - 1) := by
  unfold dAddS dAdd
  rw [sum_J h ha hb hc ha' hb' hc', Fu_J h, J_xor, J_or ha hb ha' hb', J_and ha hb ha' hb', J_and, J_or, spr_J h, J_or, adds_lane h ha ha', adds_lane h hb hb', adds_lane h hc hc']
  all_goals walk_at "lt"
theorem subs_J (h : Wd W) (ha : a < 2 ^ W) (hb : b < 2 ^ W) (hc : c < 2 ^ W) (ha' : a' < 2 ^ W) (hb' : b' < 2 ^ W) (hc' : c' < 2 ^ W) :
    dTakS W (J W a b c) (J W a' b' c') = J W (a - a') (b - b') (c - c') := by
  unfold dTakS dTak
  rw [dif_J h ha hb hc ha' hb' hc', Fu_J h, J_xor h.fu_lt h.fu_lt ha hb, J_or, J_and, J_and, J_or, spr_J h, J_xor, J_and, subs_lane h ha ha', subs_lane h hb hb', subs_lane h hc hc']
  all_goals walk_at "lt"
theorem last_J (h : Wd W) (ha : a < 2 ^ W) (hb : b < 2 ^ W) : dLast W (J W a b c) = J W (2 ^ (W - 1) - 1 + tb W a) (2 ^ (W - 1) - 1 + tb W b) (2 ^ (W - 1) - 1 + tb W c) := by
  unfold dLast
  rw [Tp_J h, Rs_J h, J_and ha hb h.top_lt h.top_lt, and_top, and_top, and_top, ← J_mul, Nat.mul_div_cancel _ (Nat.two_pow_pos _), J_add]
  rfl
theorem last_lt (h : Wd W) (x : Nat) : 2 ^ (W - 1) - 1 + tb W x < 2 ^ W := by
  have := tb_le W x
  have := h.top
  have := Nat.two_pow_pos (W - 1)
  omega
theorem pik_J (h : Wd W) {o0 o1 o2 t0 t1 t2 : Nat} (ha : a < 2 ^ W) (hb : b < 2 ^ W) (h0 : o0 < 2 ^ W) (h1 : o1 < 2 ^ W) (h2 : o2 < 2 ^ W) (k0 : t0 < 2 ^ W) (k1 : t1 < 2 ^ W) (k2 : t2 < 2 ^ W) :
    pik W (J W a b c) (J W o0 o1 o2) (J W t0 t1 t2) = J W (if tb W a = 1 then o0 else t0) (if tb W b = 1 then o1 else t1) (if tb W c = 1 then o2 else t2) := by
  unfold pik
  rw [spr_J h ha hb, Fu_J h, J_xor, J_and h0 h1, J_and k0 k1, J_or, pik_lane h h0 k0, pik_lane h h1 k1, pik_lane h h2 k2]
  all_goals walk_at "lt"
theorem addi_J (h : Wd W) (ha : a < 2 ^ W) (hb : b < 2 ^ W) (hc : c < 2 ^ W) (ha' : a' < 2 ^ W) (hb' : b' < 2 ^ W) (hc' : c' < 2 ^ W) :
    dAddI W (J W a b c) (J W a' b' c') = J W (if tb W (((2 ^ W - 1) ^^^ a ^^^ a') &&& (a ^^^ (a + a') % 2 ^ W)) = 1 then 2 ^ (W - 1) - 1 + tb W a else (a + a') % 2 ^ W)
      (if tb W (((2 ^ W - 1) ^^^ b ^^^ b') &&& (b ^^^ (b + b') % 2 ^ W)) = 1 then 2 ^ (W - 1) - 1 + tb W b else (b + b') % 2 ^ W)
      (if tb W (((2 ^ W - 1) ^^^ c ^^^ c') &&& (c ^^^ (c + c') % 2 ^ W)) = 1 then 2 ^ (W - 1) - 1 + tb W c else (c + c') % 2 ^ W) := by
  unfold dAddI dAdd
  rw [sum_J h ha hb hc ha' hb' hc', Fu_J h, last_J h ha hb, J_xor h.fu_lt h.fu_lt ha hb, J_xor, J_xor ha hb, J_and, pik_J h]
  all_goals first | exact last_lt h _ | walk_at "lt"
theorem subi_J (h : Wd W) (ha : a < 2 ^ W) (hb : b < 2 ^ W) (hc : c < 2 ^ W) (ha' : a' < 2 ^ W) (hb' : b' < 2 ^ W) (hc' : c' < 2 ^ W) :
    dTakI W (J W a b c) (J W a' b' c') = J W (if tb W ((a ^^^ a') &&& (a ^^^ (a + 2 ^ W - a') % 2 ^ W)) = 1 then 2 ^ (W - 1) - 1 + tb W a else (a + 2 ^ W - a') % 2 ^ W)
      (if tb W ((b ^^^ b') &&& (b ^^^ (b + 2 ^ W - b') % 2 ^ W)) = 1 then 2 ^ (W - 1) - 1 + tb W b else (b + 2 ^ W - b') % 2 ^ W)
      (if tb W ((c ^^^ c') &&& (c ^^^ (c + 2 ^ W - c') % 2 ^ W)) = 1 then 2 ^ (W - 1) - 1 + tb W c else (c + 2 ^ W - c') % 2 ^ W) := by
  unfold dTakI dTak
  rw [dif_J h ha hb hc ha' hb' hc', last_J h ha hb, J_xor ha hb ha' hb', J_xor ha hb, J_and, pik_J h]
  all_goals first | exact last_lt h _ | walk_at "lt"
/-- the lane shifted down, its sign kept -/
noncomputable def sar (W t a : Nat) : Nat := a / 2 ^ t ||| (tb W a * (2 ^ W - 1) &&& ((2 ^ W - 1) ^^^ (2 ^ (W - t) - 1)))
theorem div_lt' {t : Nat} (ha : a < 2 ^ W) : a / 2 ^ t < 2 ^ W := Nat.lt_of_le_of_lt (Nat.div_le_self _ _) ha
theorem sar_lt (h : Wd W) {t : Nat} (ha : a < 2 ^ W) : sar W t a < 2 ^ W := Nat.or_lt_two_pow (div_lt' ha) (Nat.and_lt_two_pow _ (Nat.xor_lt_two_pow h.fu_lt keep_lt))
theorem sar_J (h : Wd W) {t : Nat} (ht : t < W) (ha : a < 2 ^ W) (hb : b < 2 ^ W) (hc : c < 2 ^ W) : dSar W t (J W a b c) = J W (sar W t a) (sar W t b) (sar W t c) := by
  unfold dSar dKeep
  rw [down_J h ht ha hb hc, spr_J h ha hb, Fu_J h, mul_rep h, J_xor, J_and, J_or]
  · rfl
  all_goals first | exact div_lt' (by assumption) | walk_at "lt"
theorem pow_pos' (W : Nat) : (0 : Int) < ((2 ^ W : Nat) : Int) := by have := Nat.two_pow_pos W; omega
theorem mod_sub_self {x B : Int} : (x - B) % B = x % B := by
  have := Int.add_mul_emod_self_left x B (-1)
  rw [show x + B * -1 = x - B by omega] at this; exact this
theorem sgn_mod (h : Wd W) (ha : a < 2 ^ W) : sgn W sg a % ((2 ^ W : Nat) : Int) = (a : Int) := by
  have m : (a : Int) % ((2 ^ W : Nat) : Int) = (a : Int) := Int.emod_eq_of_lt (by omega) (by omega)
  cases sg with
  | false => exact m
  | true =>
    rw [sgn_eq h ha]
    split
    · exact m
    · rw [mod_sub_self, m]
theorem wrap_sgn (h : Wd W) {x : Int} {m : Nat} (hm : x % ((2 ^ W : Nat) : Int) = (m : Int)) : wrap sg W x = sgn W sg m := by
  have lt : m < 2 ^ W := by
    have := Int.emod_lt_of_pos x (pow_pos' W)
    omega
  cases sg with
  | false =>
    show x % (2 : Int) ^ W = (m : Int)
    rw [p2]; exact hm
  | true =>
    rw [sgn_eq h lt]
    show wrapS W x = _
    unfold wrapS
    rw [p2, p2, hm, ← Int.natCast_ediv, div_top (by rw [h.succ]; exact lt)]
    have := h.top
    split
    · simp
    · simp only [Int.cast_ofNat_Int, Int.reduceMod, Int.one_mul]; omega
theorem mul_left_mod (x y B : Int) : x * y % B = x % B * y % B := by rw [Int.mul_emod x y, Int.mul_emod (x % B) y, Int.emod_emod]
theorem row_add (h : Wd W) (ha : a < 2 ^ W) (ha' : a' < 2 ^ W) : wrap sg W (sgn W sg a + sgn W sg a') = sgn W sg ((a + a') % 2 ^ W) := by
  apply wrap_sgn h
  rw [Int.add_emod, sgn_mod h ha, sgn_mod h ha', ← Int.natCast_add, ← Int.natCast_emod]
theorem row_sub (h : Wd W) (ha : a < 2 ^ W) (ha' : a' < 2 ^ W) : wrap sg W (sgn W sg a - sgn W sg a') = sgn W sg ((a + 2 ^ W - a') % 2 ^ W) := by
  apply wrap_sgn h
  rw [Int.sub_emod, sgn_mod h ha, sgn_mod h ha', Int.natCast_emod, show ((a : Int) - (a' : Int)) = ((a + 2 ^ W - a' : Nat) : Int) - ((2 ^ W : Nat) : Int) by omega, mod_sub_self]
theorem row_mul (h : Wd W) (ha : a < 2 ^ W) (ha' : a' < 2 ^ W) : wrap sg W (sgn W sg a * sgn W sg a') = sgn W sg (a * a' % 2 ^ W) := by
  apply wrap_sgn h
  rw [Int.mul_emod, sgn_mod h ha, sgn_mod h ha', ← Int.natCast_mul, ← Int.natCast_emod]
theorem row_shl (h : Wd W) {t : Nat} (ha : a < 2 ^ W) : wrap sg W (sgn W sg a * 2 ^ t) = sgn W sg (a * 2 ^ t % 2 ^ W) := by
  apply wrap_sgn h
  rw [mul_left_mod, sgn_mod h ha, p2, ← Int.natCast_mul, ← Int.natCast_emod]
theorem row_shrU (h : Wd W) {t : Nat} (ha : a < 2 ^ W) : wrap false W (sgn W false a / 2 ^ t) = sgn W false (a / 2 ^ t) := by
  apply wrap_sgn h
  show (a : Int) / 2 ^ t % _ = _
  rw [p2, ← Int.natCast_ediv, ← Int.natCast_emod, Nat.mod_eq_of_lt (div_lt' ha)]
theorem row_shrI (h : Wd W) {t : Nat} (ht : t < W) (ha : a < 2 ^ W) : wrap true W (sgn W true a / 2 ^ t) = sgn W true (sar W t a) := by
  apply wrap_sgn h
  have e : 2 ^ W = 2 ^ (W - t) * 2 ^ t := by rw [← Nat.pow_add]; congr 1; omega
  have dl : a / 2 ^ t < 2 ^ (W - t) := by
    apply Nat.div_lt_of_lt_mul
    rw [← Nat.pow_add, show t + (W - t) = W by omega]; exact ha
  have pt := Nat.two_pow_pos t
  have kl : 2 ^ (W - t) ≤ 2 ^ W := Nat.pow_le_pow_right (by decide) (Nat.sub_le _ _)
  have pk := Nat.two_pow_pos (W - t)
  rw [sgn_eq h ha, p2]
  unfold sar
  rw [tb_eq h ha, xor_full keep_lt]
  split
  · rw [Nat.zero_mul, Nat.zero_and, Nat.or_zero, ← Int.natCast_ediv, ← Int.natCast_emod, Nat.mod_eq_of_lt (div_lt' ha)]
  · have e1 : (2 ^ W - 1) &&& (2 ^ W - 1 - (2 ^ (W - t) - 1)) = 2 ^ (W - t) * (2 ^ t - 1) := by
      rw [Nat.and_comm, Nat.and_two_pow_sub_one_eq_mod, Nat.mod_eq_of_lt (by omega), Nat.mul_sub_one, ← e]; omega
    rw [Nat.one_mul, e1, Nat.or_comm, ← Nat.two_pow_add_eq_or_of_lt dl]
    have e2 : ((a : Int) - ((2 ^ W : Nat) : Int)) / ((2 ^ t : Nat) : Int) = ((a / 2 ^ t : Nat) : Int) - ((2 ^ (W - t) : Nat) : Int) := by
      have q := Int.add_mul_ediv_right (a : Int) (-((2 ^ (W - t) : Nat) : Int)) (c := ((2 ^ t : Nat) : Int)) (by omega)
      have q2 : (a : Int) - ((2 ^ W : Nat) : Int) = (a : Int) + -((2 ^ (W - t) : Nat) : Int) * ((2 ^ t : Nat) : Int) := by
        rw [e, Int.natCast_mul, Int.neg_mul]; omega
      rw [q2, q, Int.natCast_ediv]; omega
    rw [e2, Nat.mul_sub_one, ← e]
    have fin : ∀ B K q : Nat, K ≤ B → q < K → ((q : Int) - (K : Int)) % (B : Int) = ((B - K + q : Nat) : Int) := fun B K q h1 h2 => by
      have e3 : ((q : Int) - (K : Int)) = ((B - K + q : Nat) : Int) - (B : Int) := by omega
      rw [e3, mod_sub_self]
      exact Int.emod_eq_of_lt (by omega) (by omega)
    exact fin _ _ _ kl dl
theorem row_addsU (h : Wd W) (ha : a < 2 ^ W) (ha' : a' < 2 ^ W) : clampK (loK false W) (hiK false W) (sgn W false a + sgn W false a') = sgn W false (if a + a' < 2 ^ W then a + a' else 2 ^ W - 1) := by
  show clampK 0 ((2 : Int) ^ W - 1) ((a : Int) + (a' : Int)) = ((if a + a' < 2 ^ W then a + a' else 2 ^ W - 1 : Nat) : Int)
  rw [p2]
  unfold clampK
  (repeat' split) <;> omega
theorem row_subsU (h : Wd W) (ha : a < 2 ^ W) (ha' : a' < 2 ^ W) : clampK (loK false W) (hiK false W) (sgn W false a - sgn W false a') = sgn W false (a - a') := by
  show clampK 0 ((2 : Int) ^ W - 1) ((a : Int) - (a' : Int)) = ((a - a' : Nat) : Int)
  rw [p2]
  unfold clampK
  (repeat' split) <;> omega
theorem laneN_J0 (ha : a < 2 ^ W) : laneN W (J W a b c) 0 = a := by unfold laneN; rw [Nat.mul_zero, Nat.pow_zero, Nat.div_one, J_lane0 ha]
theorem laneN_J1 (ha : a < 2 ^ W) (hb : b < 2 ^ W) : laneN W (J W a b c) 1 = b := by unfold laneN; rw [Nat.mul_one, J_lane1 ha hb]
theorem laneN_J2 (ha : a < 2 ^ W) (hb : b < 2 ^ W) (hc : c < 2 ^ W) : laneN W (J W a b c) 2 = c := by
  unfold laneN
  rw [show W * 2 = W + W by omega, Nat.pow_add, ← Nat.div_div_eq_div_mul, J_lane2 ha hb, Nat.mod_eq_of_lt hc]
theorem lanesD_J (ha : a < 2 ^ W) (hb : b < 2 ^ W) (hc : c < 2 ^ W) : lanesD W sg (J W a b c) = [.int (sgn W sg a), .int (sgn W sg b), .int (sgn W sg c)] := by
  unfold lanesD; rw [laneN_J0 ha, laneN_J1 ha hb, laneN_J2 ha hb hc]
theorem row_J {f : Int → Int → Int} {x0 x1 x2 y0 y1 y2 : Int} (ha : a < 2 ^ W) (hb : b < 2 ^ W) (hc : c < 2 ^ W) (e0 : f x0 y0 = sgn W sg a) (e1 : f x1 y1 = sgn W sg b) (e2 : f x2 y2 = sgn W sg c) :
    row f x0 x1 x2 y0 y1 y2 = .list (lanesD W sg (J W a b c)) := by
  rw [lanesD_J ha hb hc]; unfold row; rw [e0, e1, e2]
theorem rowN_J {f : Nat → Nat} {x0 x1 x2 : Nat} (ha : a < 2 ^ W) (hb : b < 2 ^ W) (hc : c < 2 ^ W) (e0 : f x0 = a) (e1 : f x1 = b) (e2 : f x2 = c) : rowN f x0 x1 x2 = .list (lanesD W false (J W a b c)) := by
  rw [lanesD_J ha hb hc]; unfold rowN; rw [e0, e1, e2]; rfl
theorem rot_lt {x y z : Nat} (hx : x < 2 ^ W) : (y &&& 2 ^ W - 1) ||| x / z < 2 ^ W :=
  Nat.or_lt_two_pow (Nat.and_lt_two_pow _ (by have := Nat.two_pow_pos W; omega)) (Nat.lt_of_le_of_lt (Nat.div_le_self _ _) hx)
theorem rot_lt' {x y z : Nat} (hx : x < 2 ^ W) : x / z ||| (y &&& 2 ^ W - 1) < 2 ^ W :=
  Nat.or_lt_two_pow (Nat.lt_of_le_of_lt (Nat.div_le_self _ _) hx) (Nat.and_lt_two_pow _ (by have := Nat.two_pow_pos W; omega))
theorem rows7U (h : Wd W) {n : Nat} (ha : a < 2 ^ W) (hb : b < 2 ^ W) (hc : c < 2 ^ W) (ha' : a' < 2 ^ W) (hb' : b' < 2 ^ W) (hc' : c' < 2 ^ W) :
    rows7 false W n (sgn W false a) (sgn W false b) (sgn W false c) (sgn W false a') (sgn W false b') (sgn W false c') ++ rows5 W n a b c = (plainL W (n % W) (J W a b c) (J W a' b' c')).map fun u => .list (lanesD W false u) := by
  have ht : n % W < W := Nat.mod_lt _ h.pos
  have m : ∀ x, x % 2 ^ W < 2 ^ W := fun x => Nat.mod_lt _ (Nat.two_pow_pos W)
  have q : ∀ {x y : Nat}, (if x + y < 2 ^ W then x + y else 2 ^ W - 1) < 2 ^ W := fun {x y} => by
    have := h.fu_lt; split <;> assumption
  have sb : ∀ {x : Nat} (y : Nat), x < 2 ^ W → x - y < 2 ^ W := fun y hx => Nat.lt_of_le_of_lt (Nat.sub_le _ _) hx
  have e1 := row_J (W := W) (sg := false) (f := fun x y => wrap false W (x + y)) (m _) (m _) (m _) (row_add h ha ha') (row_add h hb hb') (row_add h hc hc')
  have e2 := row_J (W := W) (sg := false) (f := fun x y => wrap false W (x - y)) (m _) (m _) (m _) (row_sub h ha ha') (row_sub h hb hb') (row_sub h hc hc')
  have e3 := row_J (W := W) (sg := false) (f := fun x y => wrap false W (x * y)) (m _) (m _) (m _) (row_mul h ha ha') (row_mul h hb hb') (row_mul h hc hc')
  have e4 := row_J (W := W) (sg := false) (f := fun x y => clampK (loK false W) (hiK false W) (x + y)) q q q (row_addsU h ha ha') (row_addsU h hb hb') (row_addsU h hc hc')
  have e5 := row_J (W := W) (sg := false) (f := fun x y => clampK (loK false W) (hiK false W) (x - y)) (sb _ ha) (sb _ hb) (sb _ hc) (row_subsU h ha ha') (row_subsU h hb hb') (row_subsU h hc hc')
  have e6 := row_J (W := W) (sg := false) (y0 := sgn W false a') (y1 := sgn W false b') (y2 := sgn W false c') (f := fun x _ => wrap false W (x * 2 ^ (n % W))) (m _) (m _) (m _) (row_shl h ha) (row_shl h hb) (row_shl h hc)
  have e7 := row_J (W := W) (sg := false) (y0 := sgn W false a') (y1 := sgn W false b') (y2 := sgn W false c') (f := fun x _ => wrap false W (x / 2 ^ (n % W))) (div_lt' ha) (div_lt' hb) (div_lt' hc) (row_shrU h ha) (row_shrU h hb) (row_shrU h hc)
  have e8 := rowN_J (W := W) (f := fun x => (x * 2 ^ (n % W) &&& 2 ^ W - 1) ||| x / 2 ^ (W - n % W)) (x0 := a) (x1 := b) (x2 := c) (rot_lt ha) (rot_lt hb) (rot_lt hc) rfl rfl rfl
  have e9 := rowN_J (W := W) (f := fun x => x / 2 ^ (n % W) ||| (x * 2 ^ (W - n % W) &&& 2 ^ W - 1)) (x0 := a) (x1 := b) (x2 := c) (rot_lt' ha) (rot_lt' hb) (rot_lt' hc) rfl rfl rfl
  have e10 := rowN_J (W := W) (f := clzN W) (le_lt h (cl_le W a)) (le_lt h (cl_le W b)) (le_lt h (cl_le W c)) (clzN_eq h ha) (clzN_eq h hb) (clzN_eq h hc)
  have e11 := rowN_J (W := W) (f := ctzN W) (le_lt h (ct_le W a)) (le_lt h (ct_le W b)) (le_lt h (ct_le W c)) ctzN_eq ctzN_eq ctzN_eq
  have e12 := rowN_J (W := W) (f := popN W) (le_lt h (pop_le W a)) (le_lt h (pop_le W b)) (le_lt h (pop_le W c)) popN_eq popN_eq popN_eq
  unfold plainL dAdd dTak
  rw [sum_J h ha hb hc ha' hb' hc', dif_J h ha hb hc ha' hb' hc', prod_J h ha hb hc ha' hb' hc', adds_J h ha hb hc ha' hb' hc', subs_J h ha hb hc ha' hb' hc', up_J h ht ha hb, up_lane ht, up_lane ht, up_lane ht, down_J h ht ha hb hc, rl_J h ht ha hb hc, rr_J h ht ha hb hc, clz_J h ha hb hc, ctz_J h ha hb hc, ones_J h ha hb hc]
  simp only [List.map_cons, List.map_nil]
  rw [← e1, ← e2, ← e3, ← e4, ← e5, ← e6, ← e7, ← e8, ← e9, ← e10, ← e11, ← e12]
  rfl
theorem rows7I (h : Wd W) {n : Nat} (ha : a < 2 ^ W) (hb : b < 2 ^ W) (hc : c < 2 ^ W) (ha' : a' < 2 ^ W) (hb' : b' < 2 ^ W) (hc' : c' < 2 ^ W) :
    rows7 true W n (sgn W true a) (sgn W true b) (sgn W true c) (sgn W true a') (sgn W true b') (sgn W true c') = (signsL W (n % W) (J W a b c) (J W a' b' c')).map fun u => .list (lanesD W true u) := by
  have ht : n % W < W := Nat.mod_lt _ h.pos
  have m : ∀ x, x % 2 ^ W < 2 ^ W := fun x => Nat.mod_lt _ (Nat.two_pow_pos W)
  have q : ∀ {x y z : Nat}, (if tb W x = 1 then 2 ^ (W - 1) - 1 + tb W y else z % 2 ^ W) < 2 ^ W := fun {x y z} => by
    split
    · exact last_lt h _
    · exact m _
  have e1 := row_J (W := W) (sg := true) (f := fun x y => wrap true W (x + y)) (m _) (m _) (m _) (row_add h ha ha') (row_add h hb hb') (row_add h hc hc')
  have e2 := row_J (W := W) (sg := true) (f := fun x y => wrap true W (x - y)) (m _) (m _) (m _) (row_sub h ha ha') (row_sub h hb hb') (row_sub h hc hc')
  have e3 := row_J (W := W) (sg := true) (f := fun x y => wrap true W (x * y)) (m _) (m _) (m _) (row_mul h ha ha') (row_mul h hb hb') (row_mul h hc hc')
  have e4 := row_J (W := W) (sg := true) (f := fun x y => clampK (loK true W) (hiK true W) (x + y)) q q q (addi_lane h ha ha').symm (addi_lane h hb hb').symm (addi_lane h hc hc').symm
  have e5 := row_J (W := W) (sg := true) (f := fun x y => clampK (loK true W) (hiK true W) (x - y)) q q q (subi_lane h ha ha').symm (subi_lane h hb hb').symm (subi_lane h hc hc').symm
  have e6 := row_J (W := W) (sg := true) (y0 := sgn W true a') (y1 := sgn W true b') (y2 := sgn W true c') (f := fun x _ => wrap true W (x * 2 ^ (n % W))) (m _) (m _) (m _) (row_shl h ha) (row_shl h hb) (row_shl h hc)
  have e7 := row_J (W := W) (sg := true) (y0 := sgn W true a') (y1 := sgn W true b') (y2 := sgn W true c') (f := fun x _ => wrap true W (x / 2 ^ (n % W))) (sar_lt h ha) (sar_lt h hb) (sar_lt h hc) (row_shrI h ht ha) (row_shrI h ht hb) (row_shrI h ht hc)
  unfold signsL dAdd dTak
  rw [sum_J h ha hb hc ha' hb' hc', dif_J h ha hb hc ha' hb' hc', prod_J h ha hb hc ha' hb' hc', addi_J h ha hb hc ha' hb' hc', subi_J h ha hb hc ha' hb' hc', up_J h ht ha hb, up_lane ht, up_lane ht, up_lane ht, sar_J h ht ha hb hc]
  simp only [List.map_cons, List.map_nil]
  rw [← e1, ← e2, ← e3, ← e4, ← e5, ← e6, ← e7]
  rfl
end
end Mine
end
section
open PySem PySem.W PyProof.Rows
open PySem.Builtin.Int (intBits)
set_option linter.unusedVariables false
set_option linter.unusedSimpArgs false
set_option exponentiation.threshold 1100
namespace Mine
theorem octs_oct8 {z sz p : Nat} (hp : p < 3) : octs (oct8 z (3 * sz)) sz p = oct8 (z / 256 ^ (sz * p)) sz := by
  unfold octs oct8
  apply List.ext_getElem
  · simp only [List.length_take, List.length_drop, List.length_map, List.length_range]
    have : sz * p + sz ≤ 3 * sz := by
      have : p = 0 ∨ p = 1 ∨ p = 2 := by omega
      rcases this with rfl | rfl | rfl <;> omega
    omega
  · intro i h1 h2
    simp only [List.getElem_take, List.getElem_drop, List.getElem_map, List.getElem_range]
    rw [Nat.div_div_eq_div_mul, ← Nat.pow_add]
theorem laneN_256 {z sz p : Nat} : laneN (8 * sz) z p = z / 256 ^ (sz * p) % 256 ^ sz := by
  unfold laneN
  rw [show (256 : Nat) = 2 ^ 8 from rfl, ← Nat.pow_mul, ← Nat.pow_mul, Nat.mul_assoc]
theorem oct8_succ {y k : Nat} : oct8 y (k + 1) = oct8 y k ++ [y / 256 ^ k % 256] := by
  unfold oct8; rw [List.range_succ, List.map_append]; rfl
theorem foldI (y : Nat) : ∀ (k acc : Nat), ((oct8 y k).map (fun o => ((o : Nat) : Int).toNat.toUInt8)).reverse.foldl (fun (acc : Int) (b : UInt8) => acc * 256 + (b.toNat : Int)) (acc : Int) = ((acc * 256 ^ k + y % 256 ^ k : Nat) : Int)
  | 0, acc => by simp [oct8, Nat.mod_one]
  | k + 1, acc => by
    rw [oct8_succ, List.map_append, List.reverse_append]
    have hb : ((((y / 256 ^ k % 256 : Nat) : Int).toNat.toUInt8).toNat : Nat) = y / 256 ^ k % 256 := by
      rw [Int.toNat_natCast]
      show (UInt8.ofNat (y / 256 ^ k % 256)).toNat = _
      rw [UInt8.toNat_ofNat']; omega
    simp only [List.map_cons, List.map_nil, List.reverse_cons, List.reverse_nil, List.nil_append, List.cons_append, List.foldl_cons]
    rw [hb]
    have := foldI y k (acc * 256 + y / 256 ^ k % 256)
    rw [show ((acc : Int) * 256 + ((y / 256 ^ k % 256 : Nat) : Int)) = ((acc * 256 + y / 256 ^ k % 256 : Nat) : Int) by rw [Int.natCast_add, Int.natCast_mul]; rfl, this, Nat.pow_succ, Nat.mod_mul, Nat.add_mul]
    congr 1
    rw [Nat.mul_assoc, Nat.mul_comm 256 (256 ^ k), Nat.mul_comm (y / 256 ^ k % 256)]
    omega
theorem fromB_oct {sg : Bool} {y k : Nat} : fromB sg (byteArr ((oct8 y (k + 1)).map (fun (o : Nat) => (o : Int)))) = sgn (8 * (k + 1)) sg (y % 256 ^ (k + 1)) := by
  have e : (byteArr ((oct8 y (k + 1)).map (fun (o : Nat) => (o : Int)))).toList = (oct8 y (k + 1)).map (fun o => ((o : Nat) : Int).toNat.toUInt8) := by
    unfold byteArr; rw [List.map_map]; rfl
  have hb : ((((y / 256 ^ k % 256 : Nat) : Int).toNat.toUInt8).toNat : Nat) = y / 256 ^ k % 256 := by
    rw [Int.toNat_natCast]
    show (UInt8.ofNat (y / 256 ^ k % 256)).toNat = _
    rw [UInt8.toNat_ofNat']; omega
  have hf := foldI y (k + 1) 0
  rw [Nat.zero_mul, Nat.zero_add] at hf
  have hh : ((oct8 y (k + 1)).map (fun o => ((o : Nat) : Int).toNat.toUInt8)).reverse.head?.any (· ≥ 128) = decide (2 ^ (8 * (k + 1) - 1) ≤ y % 256 ^ (k + 1)) := by
    rw [oct8_succ, List.map_append, List.reverse_append]
    simp only [List.map_cons, List.map_nil, List.reverse_cons, List.reverse_nil, List.nil_append, List.cons_append, List.head?_cons, Option.any_some]
    rw [Bool.eq_iff_iff, decide_eq_true_iff, decide_eq_true_iff]
    show (128 : UInt8).toNat ≤ (((y / 256 ^ k % 256 : Nat) : Int).toNat.toUInt8).toNat ↔ _
    rw [hb, show (8 * (k + 1) - 1) = 7 + 8 * k by omega, Nat.pow_add, Nat.pow_mul, show 256 ^ (k + 1) = 256 ^ k * 256 from rfl, Nat.mod_mul]
    show 128 ≤ _ ↔ 128 * 256 ^ k ≤ y % 256 ^ k + 256 ^ k * (y / 256 ^ k % 256)
    have hr := Nat.mod_lt y (Nat.pow_pos (n := k) (show 0 < 256 by decide))
    constructor
    · intro h
      have := Nat.mul_le_mul_left (256 ^ k) h
      rw [Nat.mul_comm 128]; omega
    · intro h
      by_cases q : 128 ≤ y / 256 ^ k % 256
      · exact q
      · have := Nat.mul_le_mul_left (256 ^ k) (show y / 256 ^ k % 256 + 1 ≤ 128 by omega)
        rw [Nat.mul_add, Nat.mul_comm (256 ^ k) 128] at this
        omega
  have hl : ((oct8 y (k + 1)).map (fun o => ((o : Nat) : Int).toNat.toUInt8)).reverse.length = k + 1 := by rw [List.length_reverse, List.length_map, oct8_len]
  unfold fromB sgn
  simp only [e]
  rw [hh, hl]
  have p : (256 : Int) ^ (k + 1) = ((2 ^ (8 * (k + 1)) : Nat) : Int) := by rw [Nat.pow_mul, Int.natCast_pow]; rfl
  rw [p]
  have hf' : List.foldl (fun (acc : Int) (b : UInt8) => acc * 256 + (b.toNat : Int)) ((0 : Nat) : Int) ((oct8 y (k + 1)).map (fun o => ((o : Nat) : Int).toNat.toUInt8)).reverse = ((y % 256 ^ (k + 1) : Nat) : Int) := hf
  rw [hf']
theorem lanes_from {sg : Bool} {sz : Nat} (hs : sz = 1 ∨ sz = 2 ∨ sz = 8) : ∀ z p, p < 3 → fromB sg (octB (oct8 z (3 * sz)) sz p) = sgn (8 * sz) sg (laneN (8 * sz) z p) := by
  intro z p hp
  obtain ⟨k, rfl⟩ : ∃ k, sz = k + 1 := ⟨sz - 1, by omega⟩
  unfold octB
  rw [octs_oct8 hp, fromB_oct, laneN_256]
theorem lane_lt {sz z p : Nat} : laneN (8 * sz) z p < 2 ^ (8 * sz) := Nat.mod_lt _ (Nat.two_pow_pos _)
theorem lanes_fit {sg : Bool} {sz l : Nat} (hs : sz = 1 ∨ sz = 2 ∨ sz = 8) (hl : l < 2 ^ (8 * sz)) : fitsB sg (sgn (8 * sz) sg l) sz = true := by
  have h : Wd (8 * sz) := by rcases hs with rfl | rfl | rfl <;> simp [Wd]
  cases sg with
  | false =>
    show fitsB false (l : Int) sz = true
    unfold fitsB
    have h1 : decide ((l : Int) < 0) = false := decide_eq_false (by omega)
    have hb : intBits (l : Int) ≤ 8 * sz := intBits_le_iff.mpr (by simpa using hl)
    have h2 : decide ((if false = true then (intBits (if (l : Int) < 0 then -(l : Int) - 1 else l) : Int) + 1 else (intBits (l : Int) : Int)) > 8 * (sz : Int)) = false := by
      refine decide_eq_false ?_
      simp only [Bool.false_eq_true, if_false]; omega
    rw [h1, h2]; simp
  | true =>
    rw [sgn_eq h hl]
    have ht := h.top
    have key : ∀ x : Int, (if x < 0 then -x - 1 else x).natAbs < 2 ^ (8 * sz - 1) → fitsB true x sz = true := by
      intro x hx
      unfold fitsB
      have hb := intBits_le_iff.mpr hx
      have h2 : decide ((if true = true then (intBits (if x < 0 then -x - 1 else x) : Int) + 1 else (intBits x : Int)) > 8 * (sz : Int)) = false := by
        refine decide_eq_false ?_
        simp only [if_true]
        have := h.pos
        omega
      rw [h2]; simp
    apply key
    split <;> split <;> omega
theorem dm (x : Int) {i n : Nat} (h : i < n) : (x % ((256 ^ n : Nat) : Int)) / ((256 ^ i : Nat) : Int) % 256 = x / ((256 ^ i : Nat) : Int) % 256 := by
  have e : 256 ^ n = 256 ^ i * (256 * 256 ^ (n - i - 1)) := by rw [← Nat.pow_succ', ← Nat.pow_add]; congr 1; omega
  have pos : ((256 ^ i : Nat) : Int) ≠ 0 := by have := Nat.pow_pos (n := i) (show 0 < 256 by decide); omega
  have e1 : x % ((256 ^ n : Nat) : Int) = x + ((256 ^ i : Nat) : Int) * (256 * (((256 ^ (n - i - 1) : Nat) : Int) * -(x / ((256 ^ n : Nat) : Int)))) := by
    have := Int.emod_add_mul_ediv x ((256 ^ n : Nat) : Int)
    have e2 : ((256 ^ n : Nat) : Int) = ((256 ^ i : Nat) : Int) * (256 * ((256 ^ (n - i - 1) : Nat) : Int)) := by rw [e, Int.natCast_mul, Int.natCast_mul]; rfl
    have e3 : ∀ A B q : Int, A * (256 * (B * -q)) = -(A * (256 * B) * q) := fun A B q => by
      rw [Int.mul_neg, Int.mul_neg, Int.mul_neg, Int.mul_assoc, Int.mul_assoc]
    rw [e3, ← e2]; omega
  rw [e1, Int.add_mul_ediv_left _ _ pos, Int.add_mul_emod_self_left]
theorem low_at {x : Int} {n i : Nat} (hi : i < n) : ∃ c : UInt8, (KTBy.low x n)[i]? = some c ∧ (c.toNat : Int) = x / ((256 ^ i : Nat) : Int) % 256 := by
  have hb8 : ∀ k, intBits x ≤ 8 * k → x.natAbs < 256 ^ k := fun k hk => by
    have := intBits_le_iff.mp hk
    rw [Nat.pow_mul] at this; exact this
  obtain ⟨own, ho⟩ : ∃ own, min n (intBits x / 8 + 1) = own := ⟨_, rfl⟩
  have hlow : KTBy.low x n = (List.range own).map (fun i => (((x % (256 ^ own : Int)).toNat >>> (8 * i)) % 256).toUInt8) ++ List.replicate (n - own) (if x < 0 then 255 else 0) := by
    unfold KTBy.low; rw [ho]
  rw [hlow]
  by_cases h1 : i < own
  · refine ⟨(((x % (256 ^ own : Int)).toNat >>> (8 * i)) % 256).toUInt8, by rw [List.getElem?_append_left (by simpa using h1), List.getElem?_map, List.getElem?_range h1]; rfl, ?_⟩
    rw [KTBy.byte_at, KTBy.p256]
    have nn := Int.emod_nonneg x (b := ((256 ^ own : Nat) : Int)) (by have := Nat.pow_pos (n := own) (show 0 < 256 by decide); omega)
    rw [Int.natCast_emod, Int.natCast_ediv, Int.toNat_of_nonneg nn]
    exact dm x h1
  · refine ⟨if x < 0 then 255 else 0, by rw [List.getElem?_append_right (by simpa using Nat.le_of_not_lt h1), List.getElem?_replicate, if_pos (by simp; omega)], ?_⟩
    have hx : x.natAbs < 256 ^ own := hb8 _ (by omega)
    have hle : 256 ^ own ≤ 256 ^ i := Nat.pow_le_pow_right (by decide) (by omega)
    by_cases hneg : x < 0
    · rw [if_pos hneg]
      have : x / ((256 ^ i : Nat) : Int) = -1 := by
        have p : (0 : Int) < ((256 ^ i : Nat) : Int) := by have := Nat.pow_pos (n := i) (show 0 < 256 by decide); omega
        have e := Int.add_mul_ediv_right x 1 (c := ((256 ^ i : Nat) : Int)) (by omega)
        have z : (x + 1 * ((256 ^ i : Nat) : Int)) / ((256 ^ i : Nat) : Int) = 0 := Int.ediv_eq_zero_of_lt (by omega) (by omega)
        omega
      rw [this]; rfl
    · rw [if_neg hneg]
      have : x / ((256 ^ i : Nat) : Int) = 0 := Int.ediv_eq_zero_of_lt (by omega) (by omega)
      rw [this]; rfl
theorem lanes_low {sg : Bool} {sz z p : Nat} (hs : sz = 1 ∨ sz = 2 ∨ sz = 8) (hp : p < 3) :
    ((KTBy.low (sgn (8 * sz) sg (laneN (8 * sz) z p)) sz).toArray.toList.map fun c => D.int ((c.toNat : Nat) : Int)) = nD (octs (oct8 z (3 * sz)) sz p) := by
  have h : Wd (8 * sz) := by rcases hs with rfl | rfl | rfl <;> simp [Wd]
  have hl := lane_lt (sz := sz) (z := z) (p := p)
  have p8 : (256 : Nat) ^ sz = 2 ^ (8 * sz) := by rw [Nat.pow_mul]
  have hm := sgn_mod (sg := sg) h hl
  rw [octs_oct8 hp]
  unfold nD
  apply List.ext_getElem?
  intro i
  rw [List.getElem?_map, List.getElem?_map]
  by_cases hi : i < sz
  · obtain ⟨c, e1, e2⟩ := low_at (x := sgn (8 * sz) sg (laneN (8 * sz) z p)) hi
    have e3 : (KTBy.low (sgn (8 * sz) sg (laneN (8 * sz) z p)) sz).toArray.toList[i]? = some c := e1
    have e4 : (oct8 (z / 256 ^ (sz * p)) sz)[i]? = some (z / 256 ^ (sz * p) / 256 ^ i % 256) := by
      unfold oct8; rw [List.getElem?_map, List.getElem?_range hi]; rfl
    rw [e3, e4]
    show some (D.int (c.toNat : Int)) = some (D.int _)
    rw [e2, ← dm _ hi, p8, hm, laneN_256]
    have e5 := dm ((z / 256 ^ (sz * p) : Nat) : Int) hi
    rw [← Int.natCast_emod, ← Int.natCast_ediv, ← Int.natCast_ediv] at e5
    rw [← Int.natCast_ediv, e5, Int.natCast_emod]
    rfl
  · rw [List.getElem?_eq_none (by rw [List.toList_toArray, KTBy.low_length]; omega), List.getElem?_eq_none (by rw [oct8_len]; omega)]
    rfl
end Mine
end
section
open PySem PySem.W PyProof.Rows
set_option linter.unusedVariables false
set_option exponentiation.threshold 1100
namespace Mine
section
variable {w : World} {b n : Nat}
theorem told_U {W k X Y : Nat} (h : Wd W) (hX : X < 2 ^ (3 * W)) (hY : Y < 2 ^ (3 * W)) :
    rows7 false W k (laneN W X 0 : Nat) (laneN W X 1 : Nat) (laneN W X 2 : Nat) (laneN W Y 0 : Nat) (laneN W Y 1 : Nat) (laneN W Y 2 : Nat) ++ rows5 W k (laneN W X 0) (laneN W X 1) (laneN W X 2) = (plainL W (k % W) X Y).map fun u => .list (lanesD W false u) := by
  have p := Nat.two_pow_pos W
  have e : 2 ^ (3 * W) = 2 ^ W * 2 ^ W * 2 ^ W := by rw [← Nat.pow_add, ← Nat.pow_add]; congr 1; omega
  have top : ∀ {z : Nat}, z < 2 ^ (3 * W) → z / 2 ^ W / 2 ^ W < 2 ^ W := fun {z} hz => by
    rw [Nat.div_div_eq_div_mul]; apply Nat.div_lt_of_lt_mul; rw [← e]; exact hz
  have m : ∀ z : Nat, z % 2 ^ W < 2 ^ W := fun z => Nat.mod_lt _ p
  rw [J_of (W := W) (x := X), J_of (W := W) (x := Y), laneN_J0 (m _), laneN_J1 (m _) (m _), laneN_J2 (m _) (m _) (top hX), laneN_J0 (m _), laneN_J1 (m _) (m _), laneN_J2 (m _) (m _) (top hY)]
  exact rows7U h (m _) (m _) (top hX) (m _) (m _) (top hY)
theorem told_I {W k X Y : Nat} (h : Wd W) (hX : X < 2 ^ (3 * W)) (hY : Y < 2 ^ (3 * W)) :
    rows7 true W k (sgn W true (laneN W X 0)) (sgn W true (laneN W X 1)) (sgn W true (laneN W X 2)) (sgn W true (laneN W Y 0)) (sgn W true (laneN W Y 1)) (sgn W true (laneN W Y 2)) = (signsL W (k % W) X Y).map fun u => .list (lanesD W true u) := by
  have p := Nat.two_pow_pos W
  have e : 2 ^ (3 * W) = 2 ^ W * 2 ^ W * 2 ^ W := by rw [← Nat.pow_add, ← Nat.pow_add]; congr 1; omega
  have top : ∀ {z : Nat}, z < 2 ^ (3 * W) → z / 2 ^ W / 2 ^ W < 2 ^ W := fun {z} hz => by
    rw [Nat.div_div_eq_div_mul]; apply Nat.div_lt_of_lt_mul; rw [← e]; exact hz
  have m : ∀ z : Nat, z % 2 ^ W < 2 ^ W := fun z => Nat.mod_lt _ p
  rw [J_of (W := W) (x := X), J_of (W := W) (x := Y), laneN_J0 (m _), laneN_J1 (m _) (m _), laneN_J2 (m _) (m _) (top hX), laneN_J0 (m _), laneN_J1 (m _) (m _), laneN_J2 (m _) (m _) (top hY)]
  exact rows7I h (m _) (m _) (top hX) (m _) (m _) (top hY)
theorem same_ok : SameOk w b n := by
  intro a sg sz X Y c d K hX hY
  have hs := K.hs
  have h : Wd (8 * sz) := by rcases hs with rfl | rfl | rfl <;> simp [Wd]
  have e24 : 24 * sz = 3 * (8 * sz) := by omega
  rw [e24] at hX hY
  have le64 : 2 ^ (8 * sz) ≤ 2 ^ 64 := Nat.pow_le_pow_right (by decide) (by omega)
  have l64 : ∀ z p, laneN (8 * sz) z p < 2 ^ 64 := fun z p => Nat.lt_of_lt_of_le lane_lt le64
  refine c_same K (lanes_from hs) (fun p _ => lanes_fit hs lane_lt) (fun p hp => lanes_low hs hp) ?_ ?_
  · cases sg with
    | false =>
      have := c_toldU (w := w) (b := b) (n := n) (c := c) (y0 := laneN (8 * sz) Y 0) (y1 := laneN (8 * sz) Y 1) (y2 := laneN (8 * sz) Y 2) K (l64 X 0) (l64 X 1) (l64 X 2)
      rw [told_U h hX hY] at this
      exact this
    | true =>
      have bits : ∀ z p, Builtin.Int.intBits (sgn (8 * sz) true (laneN (8 * sz) z p)) ≤ 64 := fun z p => by
        refine bits_lt ?_
        have l := lane_lt (sz := sz) (z := z) (p := p)
        rw [sgn_eq h l]
        have := h.top
        have := Nat.two_pow_pos (8 * sz - 1)
        split <;> omega
      have := c_toldI (w := w) (b := b) (n := n) (c := c) (y0 := sgn (8 * sz) true (laneN (8 * sz) Y 0)) (y1 := sgn (8 * sz) true (laneN (8 * sz) Y 1)) (y2 := sgn (8 * sz) true (laneN (8 * sz) Y 2)) K (bits X 0) (bits X 1) (bits X 2)
      rw [told_I h hX hY] at this
      exact this
  · cases sg <;> simp [plainL, signsL]
end
end Mine
end
section
open PySem PySem.W PySem.Calls PyProof.Rows
set_option Elab.async false
set_option maxRecDepth 100000
set_option linter.unusedVariables false
namespace Mine
theorem rep_ints_of {h : Heap} : ∀ {vs : List Value} {ns : List Int}, IntsAre vs ns → RepAll h vs (ns.map .int)
  | _, _, .nil => .nil
  | _, _, .cons n t r => .cons _ _ _ _ (.int _ _) (rep_ints_of r)
theorem pf_of {w : World} {p : Program} {loose : List Str} {mean : ExcName → Option Value} {mg mb : Str → Option Value} {h : Heap} (K : (hd.heap_1 w.params).In h) (T : Top p loose mean mg mb h) : PF w h.objs.size h :=
  ⟨K, fun a o e => Heap.lt_size (K a o e), ⟨mg, T.g⟩, ⟨mb, T.b, T.builtins⟩, T.nolimit, ⟨mg, T.g, let ⟨bm, ob, a, b, c, d, e, f⟩ := T.bmain; ⟨bm, ob, a, b, c, d, e, f⟩⟩⟩
theorem old_of {w : World} {h h' : Heap} (K : (hd.heap_1 w.params).In h) (e0 : h.get? 354 = some (tabObj #[])) (hc : codeHdIn (hd.heap_1 w.params) 358 354 = true) (g : Gh h.objs.size h h') : OldK h h' := by
  obtain ⟨g1, _, ⟨ps, p1, _⟩⟩ := g
  have kept : ∀ a o, a ≠ 354 → h.get? a = some o → h'.get? a = some o := fun a o ha e => by
    obtain ⟨sl, e1, k1⟩ := g1 a o ha e
    rw [k1 (.inr (Heap.lt_size e))] at e1
    exact e1
  refine ⟨fun a o e => ?_, fun a o e => ?_⟩
  · by_cases ha : a = 354
    · subst ha
      rw [e0] at e; cases e
      refine .inr (.inl ⟨?_, rfl, #[], ps, rfl, ?_⟩)
      · obtain ⟨o, vs, f, tf, fl, tg, b, n, tt, h1, h2, h3, h4, _⟩ := codeHd_of_K K hc
        exact ⟨358, o, vs, h1, h2, h3, h4⟩
      · rw [p1, Array.empty_append]
    · exact .inl (kept a o ha e)
  · by_cases ha : a = 354
    · exact ⟨_, ha ▸ p1⟩
    · exact ⟨o, kept a o ha e⟩
theorem fin : PySem.Challenge.rw_ln0031_02.Holds := hd (by
  k_fill
  intro w s₀ s₁ mg mb fa args vals as G Y hmg hg hpre hlay hrd hwl hlo
  have KX := km_in_of Y
  km_tabs Y
  have X := (Ground.X G).1
  refine Ground.open G ?_
  intro T B D TE TW
  wrow_args hpre hlay hrd hwl hlo
  rename_i l _ _ hL _ _ _ _ L vs _ hl _ _ _ hI _ hlen _
  have h354 : s₁.heap.get? 354 = some (tabObj #[]) := hT8 354 (.head _)
  have pf := pf_of KX T
  have hfa : fa = 388 := by
    have := mg_of KX T.g (n := Str.ofString "law") (v := .ref 388) (by kernel_rfl)
    rw [show mg (Str.ofString "law") = some (.ref fa) from hmg] at this
    cases this; rfl
  subst hfa
  refine (c_law (w := w) (l := l) (by omega) (fun i hi => intBits_le_of_item hi hL) (fun b => same_ok)).run s₁ _ _ _ pf ?_ ?_ ?_
  · exact ⟨#[], h354, trivial, fun _ _ q => nomatch q⟩
  · exact .list _ _ _ hl (rep_ints_of hI)
  · intro v h' k gh r
    (first | obtain ⟨_, rfl⟩ := r.intI | obtain rfl := r.valI | obtain rfl := r.boolI | obtain ⟨_, rfl⟩ := r.strI | cases r)
    refine ⟨.inl ⟨.bool true, _, [], rfl, fun _ => rfl, .bool _, ?_, fun _ => ⟨.nil, fun _ q => nomatch q⟩⟩, old_of KX h354 (by kernel_rfl) gh, rfl, ?_⟩
    · wrow_post
    · show AllBare s₁.gens
      rw [hg]; exact .empty)
end Mine
end
set_option maxRecDepth 100000 in
set_option maxHeartbeats 8000000 in
theorem PySem.Challenge.cw_ln0031_02_holds : PySem.Challenge.rw_ln0031_02.Holds := by
  exact Mine.fin
