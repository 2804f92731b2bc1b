import PyProof.Rows.All
import Wide.All
import OpenK.AllK
import Wide.FinOn
import KE.BytesMake
import PySem.Challenge.RW_ef5002_02
/- part FbCore -/
section
open PySem PySem.W PySem.Spec PySem.Calls PyProof.Rows
open PySem.Sem (wp)
set_option Elab.async false
set_option maxRecDepth 100000
set_option linter.all false
namespace Mine

/-- no decoder of the codecs under way -/
def notDec : Code → Bool
  | .builtin id _ => !Builtin.Bytes.decodersThatHold.contains id
  | _ => true
def NoDec (l : List (Code × Pos)) : Prop := l.all (fun c => notDec c.1) = true
theorem NoDec.cons {c : Code} {p : Pos} {l : List (Code × Pos)} (h : notDec c = true) (k : NoDec l) : NoDec ((c, p) :: l) := by
  unfold NoDec at *; rw [List.all_cons, h, k]; rfl
def wpN {α : Type} (M : Model) (A : Around) (t : Sem α) (Q : α → Shared → Prop) (E : Value → Shared → Prop) (s : Shared) : Prop :=
  ∀ Γ p, Γ.In A → notDec Γ.code = true → NoDec Γ.below → wp M Γ t (fun a _ s' => Q a s') (fun e _ s' => E e s') p s
def codeN (M : Model) (A : Around) (c : Code) (R : Result → Shared → Prop) (s : Shared) : Prop :=
  ∀ Γ p, Γ.code = c → Γ.Below A → NoDec Γ.below → wpCode M Γ R p s

section
variable {α β : Type} {M : Model} {A : Around} {E : Value → Shared → Prop} {s : Shared}
theorem wpAny.n {t : Sem α} {Q : α → Shared → Prop} (h : wpAny M A t Q E s) : wpN M A t Q E s := fun Γ p i _ _ => h Γ p i
theorem codeAny.n {c : Code} {R : Result → Shared → Prop} (h : codeAny M A c R s) : codeN M A c R s := fun Γ p e i _ => h Γ p e i
theorem wpN_mono {t : Sem α} {Q Q' : α → Shared → Prop} {E' : Value → Shared → Prop} (h : wpN M A t Q E s) (hQ : ∀ a s, Q a s → Q' a s) (hE : ∀ e s, E e s → E' e s) : wpN M A t Q' E' s :=
  fun Γ p hΓ h1 h2 => Sem.wp_mono M Γ t (fun a _ s => hQ a s) (fun e _ s => hE e s) p s (h Γ p hΓ h1 h2)
theorem wpN_pure {a : α} {Q : α → Shared → Prop} (h : Q a s) : wpN M A (pure a) Q E s := fun _ _ _ _ _ => h
theorem wpN_bind {m : Sem α} {f : α → Sem β} {Q : β → Shared → Prop} (h : wpN M A m (fun a s' => wpN M A (f a) Q E s') E s) : wpN M A (m >>= f) Q E s := fun Γ p hΓ h1 h2 => by
  rw [Sem.wp_bind']
  exact Sem.wp_mono M Γ m (fun a p' s' h' => h' Γ p' hΓ h1 h2) (fun _ _ _ h' => h') p s (h Γ p hΓ h1 h2)
theorem wpN_tryCatch {m : Sem α} {k : Value → Sem α} {Q : α → Shared → Prop} (h : wpN M A m Q (fun e s' => wpN M A (k e) Q E s') s) :
    wpN M A (tryCatch m k) Q E s := fun Γ p hΓ h1 h2 => by
  rw [Sem.wp_tryCatch']
  exact Sem.wp_mono M Γ m (fun _ _ _ h' => h') (fun e p' s' h' => h' Γ p' hΓ h1 h2) p s (h Γ p hΓ h1 h2)
theorem wpN_onRaise {m : Sem α} {k : Value → Sem Unit} {Q : α → Shared → Prop}
    (h : wpN M A m Q (fun e s' => wpN M A (k e) (fun _ s'' => E e s'') E s') s) : wpN M A (m.onRaise k) Q E s := fun Γ p hΓ h1 h2 => by
  rw [Sem.wp_onRaise]
  exact Sem.wp_mono M Γ m (fun _ _ _ h' => h') (fun e p' s' h' => h' Γ p' hΓ h1 h2) p s (h Γ p hΓ h1 h2)
theorem wpN_holding {vs : List Value} {m : Sem α} {Q : α → Shared → Prop} (h : wpN M A m Q E s) : wpN M A (holding vs m) Q E s :=
  fun Γ p hΓ h1 h2 => by rw [Sem.wp_holding]; exact h Γ p hΓ h1 h2
theorem wpN_standAt {pos : Pos} {Q : Unit → Shared → Prop} (h : Q () s) : wpN M A (standAt pos) Q E s := fun _ _ _ _ _ => h
theorem wpN_operate {vs : List Value} {m : Sem Value} {Q : Value → Shared → Prop} (h : wpN M A m Q E s) : wpN M A (operate vs m) Q E s :=
  fun Γ p hΓ h1 h2 => by rw [Sem.wp_operate]; exact h Γ p hΓ h1 h2
theorem codeN_mono {c : Code} {R R' : Result → Shared → Prop} (h : codeN M A c R s) (hR : ∀ r s, R r s → R' r s) : codeN M A c R' s :=
  fun Γ p hc hΓ h1 => wpCode_mono hR (h Γ p hc hΓ h1)
theorem enter_nodec {Γ : PySem.Ctx} {c : Code} {h : Option Value} {p : Pos} (h1 : notDec Γ.code = true) (h2 : NoDec Γ.below) : NoDec (Γ.enter c h p).below := by
  show NoDec ((Γ.code, p) :: Γ.below)
  exact NoDec.cons h1 h2
theorem wpN_run {c : Code} {h : Option Value} {Q : Flow → Shared → Prop}
    (hc : codeN M (A.mark h) c (fun r s' => match r with | .ok f => Q f s' | .error e => E e s') s) (hnb : h ≠ some byPass := by intro x; cases x) :
    wpN M A (run c h) Q E s :=
  fun Γ p hΓ h1 h2 => by rw [Sem.wp_run]; exact hc _ p rfl (hΓ.enter c h p hnb) (enter_nodec h1 h2)
theorem wpN_runValue {c : Code} {Q : Value → Shared → Prop}
    (hc : codeN M A c (fun r s' => match r with | .ok (.ret v) => Q v s' | .ok _ => False | .error e => E e s') s) :
    wpN M A (runValue c) Q E s := fun Γ p hΓ h1 h2 => by rw [Sem.wp_runValue]; exact hc _ p rfl (hΓ.enter c none p (by intro x; cases x)) (enter_nodec h1 h2)
theorem wpN_call {f : Value} {pos : List Value} {kw : List (Str × Value)} {Q : Value → Shared → Prop}
    (hc : codeN M A (.call f ⟨pos, kw⟩) (fun r s' => match r with | .ok (.ret v) => Q v s' | .ok _ => False | .error e => E e s') s) :
    wpN M A (call f pos kw) Q E s := wpN_runValue hc
theorem codeN_of_tree {c : Code} {R : Result → Shared → Prop} (hn : notDec c = true)
    (h : wpN M (A.under c) (M.den c) (fun fin s' => match fin with | .done f => R (.ok f) s' | .again c' => c'.quiet = true ∧ codeN M A c' R s')
      (fun e s' => R (.error e) s') s) : codeN M A c R s := fun Γ p hc hΓ h1 => by
  rw [wpCode_iff_wp, hc]
  refine Sem.wp_mono M Γ _ (fun fin p' s' h' => ?_) (fun _ _ _ h' => h') p s (h Γ p (hc ▸ hΓ.in) (hc ▸ hn) h1)
  cases fin with
  | done f => exact h'
  | again c' => exact ⟨h'.1, h'.2 (Γ.goto c') p' rfl (hΓ.goto c') h1⟩
theorem wpN_stack {Q : List (Code × Pos) → Shared → Prop}
    (h : ∀ st : List (Code × Pos), (∀ g, A.guards = some g → guardsOf st = g) → NoDec st → Q st s) : wpN M A stack Q E s := fun Γ p hΓ h1 h2 => by
  show Q ((Γ.code, p) :: Γ.below) s
  exact h _ (fun g hg => by rw [guardsOf_cons]; exact hΓ.2.2.2.1 g hg) (NoDec.cons h1 h2)
theorem codeN_loop {c : Code} {R : Result → Shared → Prop} (hn : notDec c = true) (hq : c.quiet = true) (I : Nat → Shared → Prop)
    (turn : ∀ n s, I n s → wpN M (A.under c) (M.den c)
      (fun fin s' => match fin with | .done f => R (.ok f) s' | .again c' => c' = c ∧ ∃ m, m < n ∧ I m s') (fun e s' => R (.error e) s') s)
    (n : Nat) (h : I n s) : codeN M A c R s := by
  induction n using Nat.strongRecOn generalizing s with
  | ind n ih =>
    refine codeN_of_tree hn (wpN_mono (turn n s h) (fun fin s' hf => ?_) fun _ _ h' => h')
    cases fin with
    | done f => exact hf
    | again c' => obtain ⟨rfl, m, hm, hI⟩ := hf; exact ⟨hq, ih m hm hI⟩

section
variable {env : Env}
theorem nExecs_nil {Q : Flow → Shared → Prop} (h : Q .next s) : wpN M A (execs [] env) Q E s := wpN_pure h
theorem nExecs_cons {st : Stmt} {rest : List Stmt} {Q : Flow → Shared → Prop}
    (h : wpN M A (exec st env) (fun f s' => match f with | .next => wpN M A (execs rest env) Q E s' | f => Q f s') E s) : wpN M A (execs (st :: rest) env) Q E s := by
  rw [execs_cons]
  refine wpN_bind (wpN_mono h (fun f s' h' => ?_) fun _ _ x => x)
  cases f <;> first | exact h' | exact wpN_pure h'
theorem nIf {test : Expr} {body orelse : List Stmt} {pos : Pos} {Q : Flow → Shared → Prop}
    (h : wpN M A (isTrue test env (eval test env)) (fun b s₂ => if b then wpN M A (execs body env) Q E s₂ else wpN M A (execs orelse env) Q E s₂) E s) :
    wpN M A (exec (.If test body orelse pos) env) Q E s := by
  rw [exec_If]
  refine wpN_bind (wpN_standAt (wpN_bind (wpN_mono h (fun b s' h' => ?_) fun _ _ x => x)))
  cases b <;> exact h'
theorem nReturn {e : Expr} {pos : Pos} {Q : Flow → Shared → Prop} (h : wpN M A (eval e env) (fun v => Q (.ret v)) E s) : wpN M A (exec (.Return (some e) pos) env) Q E s := by
  rw [exec_Return_some]
  exact wpN_bind (wpN_standAt (wpN_bind (wpN_mono h (fun _ _ h' => wpN_pure h') fun _ _ x => x)))
theorem nBind {x : Str} {v : Value} {Q : Unit → Shared → Prop} (h : wpN M A (storeName env x v) Q E s) : wpN M A (bindName env x v) Q E s := fun Γ p i h1 h2 => by
  rw [Sem.wp_bindName]; exact h Γ p i h1 h2
theorem nAssign {x : Str} {p pos : Pos} {value : Expr} {Q : Flow → Shared → Prop}
    (h : wpN M A (eval value env) (fun v s₁ => wpN M A (storeName env x v) (fun _ => Q .next) E s₁) E s)
    (hs : swapsWith value (some (.Name x p)) pos.line env = pure false) : wpN M A (exec (.Assign [.Name x p] value pos) env) Q E s := by
  rw [exec_Assign_Name env x p value pos hs]
  exact wpN_bind (wpN_standAt (wpN_bind (wpN_mono h (fun v s' h' => wpN_bind (wpN_standAt (wpN_bind (nBind (wpN_mono h' (fun _ _ h'' => wpN_pure h'') fun _ _ x => x))))) fun _ _ x => x)))
theorem nRelease {vs keep : List Value} {Q : Unit → Shared → Prop} (h : Q () s) : wpN M A (release vs keep) Q E s := fun Γ p i h1 h2 => by
  rw [Sem.wp_release]; exact h
theorem aRelease {vs keep : List Value} {Q : Unit → Shared → Prop} (h : Q () s) : wpAny M A (release vs keep) Q E s := fun Γ p i => by
  rw [Sem.wp_release]; exact h
theorem aOperate {vs : List Value} {m : Sem Value} {Q : Value → Shared → Prop} (h : wpAny M A m Q E s) : wpAny M A (operate vs m) Q E s := fun Γ p i => by
  rw [Sem.wp_operate]; exact h Γ p i
theorem nAugAssign {x : Str} {p pos : Pos} {op : Operator} {value : Expr} {Q : Flow → Shared → Prop}
    (h : wpN M A (loadName env x) (fun old s₁ => wpN M A (eval value env) (fun v s₂ => wpN M A (inplaceOp op old v)
      (fun r s₃ => wpN M A (storeName env x r) (fun _ => Q .next) E s₃) E s₂) E s₁) E s) : wpN M A (exec (.AugAssign (.Name x p) op value pos) env) Q E s := by
  rw [exec_AugAssign_Name]
  exact wpN_bind (wpN_standAt (wpN_bind (wpN_mono h (fun old s₁ h₁ => wpN_bind (wpN_holding (wpN_mono h₁ (fun v s₂ h₂ => wpN_bind (wpN_standAt (wpN_bind (wpN_operate (wpN_mono h₂ (fun r s₃ h₃ =>
    wpN_bind (wpN_standAt (wpN_bind (nBind (wpN_mono h₃ (fun _ _ h'' => wpN_pure h'') fun _ _ x => x))))) fun _ _ x => x))))) fun _ _ x => x))) fun _ _ x => x)))
theorem nExpr {e : Expr} {pos : Pos} {Q : Flow → Shared → Prop} (h : wpN M A (eval e env) (fun v s' => (∀ a, v ≠ .ref a) ∧ Q .next s') E s)
    (hi : interactive env = false) (hs : swapsWith e none pos.line env = pure false) : wpN M A (exec (.Expr e pos) env) Q E s := by
  rw [exec_Expr env e pos hi hs]
  refine wpN_bind (wpN_standAt (wpN_bind (wpN_mono h (fun v s' h' => ?_) fun _ _ x => x)))
  rw [dropValue_plain h'.1]
  exact wpN_pure h'.2
theorem nBinOp {l r : Expr} {op : Operator} {pos : Pos} {Q : Value → Shared → Prop}
    (h : wpN M A (eval l env) (fun a s₁ => wpN M A (eval r env) (fun b s₂ => wpN M A (binaryOp op a b) Q E s₂) E s₁) E s) : wpN M A (eval (.BinOp l op r pos) env) Q E s := by
  rw [eval_BinOp]
  exact wpN_bind (wpN_mono h (fun a s₁ h₁ => wpN_bind (wpN_holding (wpN_mono h₁ (fun b s₂ h₂ => wpN_bind (wpN_standAt (wpN_operate h₂))) fun _ _ x => x))) fun _ _ x => x)
theorem nCompare1 {l r : Expr} {op : CmpOp} {pos : Pos} {Q : Value → Shared → Prop}
    (h : wpN M A (eval l env) (fun a s₁ => wpN M A (eval r env) (fun b s₂ => wpN M A (compareOp op a b) Q E s₂) E s₁) E s) (hm : behindInMarks op r = false) : wpN M A (eval (.Compare l [op] [r] pos) env) Q E s := by
  rw [eval_Compare1, markedBehindIn_of_false hm]
  exact wpN_bind (wpN_mono h (fun a s₁ h₁ => wpN_bind (wpN_holding (wpN_mono h₁ (fun b s₂ h₂ => wpN_bind (wpN_standAt (wpN_operate h₂))) fun _ _ x => x))) fun _ _ x => x)
theorem nTrueCompare1 {l r : Expr} {op : CmpOp} {pos : Pos} {whole : Sem Value} {Q : Bool → Shared → Prop}
    (h : wpN M A (eval l env) (fun a s₁ => wpN M A (eval r env) (fun b s₂ => wpN M A (compareOp op a b) (fun c s₃ => wpN M A (truthy c) Q E s₃) E s₂) E s₁) E s) (hm : behindInMarks op r = false) :
    wpN M A (isTrue (.Compare l [op] [r] pos) env whole) Q E s := by
  rw [isTrue_Compare1, markedBehindIn_of_false hm]
  exact wpN_bind (wpN_mono h (fun a s₁ h₁ => wpN_bind (wpN_holding (wpN_mono h₁ (fun b s₂ h₂ => wpN_bind (wpN_standAt (wpN_bind (wpN_operate (wpN_mono h₂ (fun c s₃ h₃ => wpN_holding h₃) fun _ _ x => x))))) fun _ _ x => x))) fun _ _ x => x)
theorem nUnaryOp {op : UnaryOp} {x : Expr} {pos : Pos} {Q : Value → Shared → Prop} (h : wpN M A (eval x env) (fun v s₁ => wpN M A (unaryOp op v) Q E s₁) E s) : wpN M A (eval (.UnaryOp op x pos) env) Q E s := by
  rw [arm_eval_UnaryOp]
  exact wpN_bind (wpN_mono h (fun v s₁ h₁ => wpN_bind (wpN_standAt (wpN_holding h₁))) fun _ _ x => x)
theorem nTrueNot {x : Expr} {pos : Pos} {whole : Sem Value} {Q : Bool → Shared → Prop} (h : wpN M A (isTrue x env (eval x env)) (fun b s₁ => Q (!b) s₁) E s) :
    wpN M A (isTrue (.UnaryOp .Not x pos) env whole) Q E s := by
  rw [arm_isTrue_UnaryOp]
  exact wpN_bind (wpN_mono h (fun b s₁ h₁ => wpN_pure h₁) fun _ _ x => x)
theorem nTrueValue {e : Expr} {whole : Sem Value} {Q : Bool → Shared → Prop} (h : wpN M A whole (fun v s₁ => wpN M A (truthy v) Q E s₁) E s)
    (he : isTrue e env whole = (do let v ← whole; standAt e.pos; holding [v] (truthy v))) : wpN M A (isTrue e env whole) Q E s := by
  rw [he]
  exact wpN_bind (wpN_mono h (fun v s₁ h₁ => wpN_bind (wpN_standAt (wpN_holding h₁))) fun _ _ x => x)
theorem nIfExp {test body orelse : Expr} {pos : Pos} {Q : Value → Shared → Prop}
    (h : wpN M A (isTrue test env (eval test env)) (fun b s₁ => if b then wpN M A (eval body env) Q E s₁ else wpN M A (eval orelse env) Q E s₁) E s) :
    wpN M A (eval (.IfExp test body orelse pos) env) Q E s := by
  rw [arm_eval_IfExp]
  refine wpN_bind (wpN_mono h (fun b s₁ h₁ => ?_) fun _ _ x => x)
  cases b <;> exact h₁
theorem nAttribute {value : Expr} {attr : Str} {pos : Pos} {Q : Value → Shared → Prop}
    (h : wpN M A (eval value env) (fun o s₁ => wpN M A (getAttr o attr true) Q E s₁) E s)
    (he : eval (value.Attribute attr pos) env = (do let o ← eval value env; standAt pos.atName; let r ← holding [o] (getAttr o attr true); letTemporaryGo value o r; pure r))
    (hg : ∀ o r, letTemporaryGo value o r = pure ()) : wpN M A (eval (value.Attribute attr pos) env) Q E s := by
  rw [he]
  refine wpN_bind (wpN_mono h (fun o s₁ h₁ => wpN_bind (wpN_standAt (wpN_bind (wpN_holding (wpN_mono h₁ (fun r s₂ h₂ => ?_) fun _ _ x => x))))) fun _ _ x => x)
  rw [hg]
  exact wpN_bind (wpN_pure (wpN_pure h₂))
theorem nSpliced_nil {pos : Pos} {Q : List Value → Shared → Prop} (h : Q [] s) : wpN M A (spliced (backTo pos (starEach [] env))) Q E s := wpN_pure h
theorem nSpliced_cons {pos : Pos} {e : Expr} {rest : List Expr} {Q : List Value → Shared → Prop}
    (h : wpN M A (eval e env) (fun v s₁ => wpN M A (spliced (backTo pos (starEach rest env))) (fun vs s₂ => Q (v :: vs) s₂) E s₁) E s)
    (he : starEach (e :: rest) env = (false, eval e env) :: starEach rest env) : wpN M A (spliced (backTo pos (starEach (e :: rest) env))) Q E s := by
  rw [he]
  show wpN M A (do
    let v ← eval e env
    let here ← (pure [v] : Sem (List Value))
    return here ++ (← holding here (spliced (backTo pos (starEach rest env))))) Q E s
  exact wpN_bind (wpN_mono h (fun v s₁ h₁ => wpN_bind (wpN_pure (wpN_bind (wpN_holding (wpN_mono h₁ (fun vs s₂ h₂ => wpN_pure h₂) fun _ _ x => x))))) fun _ _ x => x)
theorem nKeep {α : Type} {vs : List Value} {m : Sem α} {Q : α → Shared → Prop} (h : wpN M A m Q E s) : wpN M A (m.keep vs) Q E s := fun Γ p i h1 h2 => by
  rw [Sem.wp_keep]; exact h Γ p i h1 h2
theorem nPoint {Q : Unit → Shared → Prop} (h : Q () s) : wpN M A point Q E s := fun _ _ _ _ _ => h
/-- a call with plain arguments by place -/
theorem nCallWith {pos : Pos} {f : Value} {first : List Value} {es : List Expr} {Q : Value → Shared → Prop} {P : Heap → Prop}
    (hplain : ((backTo pos (starEach es env)).any (·.1)) = false)
    (hk : ∀ h, P h → ∃ k, (k = Keeper.frame ∨ k = Keeper.machine ∨ k = Keeper.boundFrame) ∧ Looks M h (keeperOf f) k)
    (h : wpN M A (evalArgs f true (backTo pos (starEach es env)) []) (fun a s₁ => P s₁.heap ∧ wpN M A (call f (first ++ a.pos) a.kw) Q E s₁) E s) : wpN M A (callWith pos f first (backTo pos (starEach es env)) []) Q E s := by
  unfold callWith
  refine wpN_bind (wpN_holding (wpN_mono h (fun a s₁ h₁ => wpN_bind (wpN_standAt ?_)) fun _ _ x => x))
  obtain ⟨k, hk', L⟩ := hk _ h₁.1
  simp only [hplain, List.any_nil, Bool.or_false]
  refine wpN_bind (wpAny.n (L.here ?_))
  have tail : ∀ {t : Sem Value}, wpN M A t Q E s₁ → wpN M A (t >>= fun r => holding [r] point >>= fun _ => pure r) Q E s₁ :=
    fun ht => wpN_bind (wpN_mono ht (fun r s₂ hr => wpN_bind (wpN_holding (nPoint (wpN_pure hr)))) fun _ _ x => x)
  have marked (mk : Value) : wpN M A (callMarked mk f (first ++ a.pos) a.kw) Q E s₁ := by unfold callMarked; exact nKeep h₁.2
  rcases hk' with rfl | rfl | rfl <;> dsimp only <;> first | exact tail h₁.2 | (split <;> first | exact tail h₁.2 | exact tail (marked _))
theorem nEvalArgs_nil {f : Value} {pos : Pos} {Q : Args → Shared → Prop} (h : Q ⟨[], []⟩ s) : wpN M A (evalArgs f true (backTo pos (starEach [] env)) []) Q E s := wpAny.n (evalArgs_nil3 h)
theorem nEvalArgs {f : Value} {x : Sem Value} {rest : List (Bool × Sem Value)} {Q : Args → Shared → Prop}
    (h : wpN M A (spliced ((false, x) :: rest)) (fun vs s' => Q ⟨vs, []⟩ s') E s) : wpN M A (evalArgs f true ((false, x) :: rest) []) Q E s := by
  unfold evalArgs
  show wpN M A (spliced ((false, x) :: rest) >>= _) Q E s
  refine wpN_bind (wpN_mono h (fun vs s' h' => ?_) fun _ _ x => x)
  refine wpN_holding ?_
  exact wpN_bind (wpN_pure (wpN_bind (wpN_pure (wpN_pure h'))))
end
section
variable {prog : Program} {w : World}
theorem nDrop {e : Expr} {pos : Pos} {Q : Flow → Shared → Prop} {env : Env} (h : wpN (model prog w) A (eval e env) (fun v s' => Q .next s') E s)
    (hi : interactive env = false) (hs : swapsWith e none pos.line env = pure false) : wpN (model prog w) A (exec (.Expr e pos) env) Q E s := by
  rw [exec_Expr env e pos hi hs]
  exact wpN_bind (wpN_standAt (wpN_bind (wpN_mono h (fun v s' h' => wpAny.n (wpAny_dropValue h')) fun _ _ x => x)))
theorem codeN_func {body : List Stmt} {env : Env} {R : Result → Shared → Prop}
    (h : wpN (model prog w) (A.deeper env) (execs body env) (fun f s' => R (.ok (.ret (match f with | .ret v => v | _ => .none))) s')
      (fun e s' => wpN (model prog w) (A.deeper env) (leaving env e) (fun _ s'' => R (.error e) s'') (fun e' s'' => R (.error e') s'') s') s) :
    codeN (model prog w) A (.func body env) R s := by
  refine codeN_of_tree rfl ?_
  show wpN _ (A.deeper env) (do point; match ← (execs body env).onRaise (leaving env) with | .ret v => ret v | _ => ret .none) _ _ s
  refine wpN_bind (nPoint (wpN_bind (wpN_onRaise (wpN_mono h (fun f s' h' => ?_) fun _ _ h' => h'))))
  cases f <;> exact wpN_pure h'
theorem codeN_call_function {a : Addr} {args : Args} {o : Obj} {fd : FuncData} {body : List Stmt} {R : Result → Shared → Prop} (hroom : A.depth < recursionLimit)
    (ho : s.heap.get? a = some o)
    (hd' : o.data = .func fd) (hco : fd.scope.isCoroutine = false) (hgen : fd.scope.isGenerator = false) (hbody : fd.body = .stmts body) (hcd : s.heap.CodeRec fd.code fd.qualname)
    (h : wpAny (model prog w) A.in1 (bindArgs fd args) (fun binds s₁ =>
      wpAny (model prog w) A.in1 (newFunctionEnv fd.scope fd.globals fd.closure binds (fd.qualname ++ ".<locals>.") (some a) fd.code none fd.builtins)
        (fun env s₂ => s₂.heap.NoLimit ∧ codeN (model prog w) A (.func body env) R s₂) (fun e s' => R (.error e) s') s₁) (fun e s' => R (.error e) s') s) :
    codeN (model prog w) A (.call (.ref a) args) R s := by
  refine codeN_of_tree rfl ?_
  show wpN _ A.in1 (callAny (.ref a) args) _ _ s
  refine wpAny.n ?_
  simp only [callAny]
  refine wpAny_bind (wpAny_load ho ?_)
  obtain ⟨c, oc, vs, tq, hc, hoc, hdc, hq⟩ := hcd
  simp only [hd', callFunction, hco, hgen, hbody, hc]
  rw [hc] at h
  refine wpAny_bind (m := field (.ref c) 1) (wpAny_field hoc hdc hq (wpAny_bind (wpAny_pure ?_)))
  exact wpAny_bind (wpAny_mono h (fun binds s₁ h₁ => wpAny_bind (wpAny_mono h₁ (fun env s₂ h₂ => wpAny_bind (wpAny_enterFrame h₂.1 hroom
    (wpAny_pure (And.intro rfl h₂.2)))) fun _ _ h' => h')) fun _ _ h' => h')
theorem codeN_call_def {R : Result → Shared → Prop} {a : Addr} {o : Obj} {fd : FuncData} {body : List Stmt} {args : Args} {binds : List (Str × Value)}
    (hroom : A.depth < recursionLimit) (ho : s.heap.get? a = some o) (hdata : o.data = .func fd) (hlim : s.heap.NoLimit) (hcd : s.heap.CodeRec fd.code fd.qualname)
    (hbody : fd.body = .stmts body) (hbind : BindsTo s fd args binds)
    (hcell : ∀ x ∈ fd.scope.names, x.2 ≠ .cell) (hloc : ∀ x ∈ binds, fd.scope.names.lookup x.1 = some .local)
    (h : ∀ h₀, h₀.Ns s.heap.objs.size (fun x => binds.reverse.lookup x) → (∀ b o, s.heap.get? b = some o → h₀.get? b = some o) →
      wpN (model prog w) (A.deeper (callEnv fd s.heap.objs.size a)) (execs body (callEnv fd s.heap.objs.size a)) (fun f s' => R (.ok (.ret (match f with | .ret v => v | _ => .none))) s')
        (fun e s' => wpN (model prog w) (A.deeper (callEnv fd s.heap.objs.size a)) (leaving (callEnv fd s.heap.objs.size a) e) (fun _ s'' => R (.error e) s'') (fun e' s'' => R (.error e') s'') s')
        { s with heap := h₀, toks := s.toks + binds.length })
    (hco : fd.scope.isCoroutine = false) (hgen : fd.scope.isGenerator = false) (hk : fd.scope.kind = .function) :
    codeN (model prog w) A (.call (.ref a) args) R s := by
  refine codeN_call_function hroom ho hdata hco hgen hbody hcd (hbind _ _ _ _ ?_)
  refine wpAny_newFunctionEnv hcell hloc (fun h₀ hns₀ hsb₀ => ⟨hlim.fresh _ hsb₀, codeN_func (h h₀ hns₀ fun b o e => ?_)⟩) hk
  exact hsb₀.extBut b o (Nat.ne_of_lt (Heap.lt_size e)) (Heap.get?_push_of_some _ e)

def backN (M : Model) (A : Around) (env : Env) (E : Value → Shared → Prop) : Value → Shared → Prop :=
  fun x s' => wpN M A (do
    if (← field x 1) == .none then unsupported "frame.own-activation:exception-without-traceback"
    setFlight x env.frame) (fun _ s'' => E x s'') E s'
def noteN (M : Model) (A : Around) (env : Env) (E : Value → Shared → Prop) : Value → Shared → Prop :=
  fun x s' => wpN M A (do noteFrame x env; theTreesLotGoes x) (fun _ s'' => E x s'') E s'
theorem nRunOwn {M : Model} {env : Env} {c : Code} {Q : Flow → Shared → Prop}
    (hc : codeN M A c (fun r s' => match r with | .ok f => Q f s' | .error e => backN M A env E e s') s) : wpN M A (runOwn c env) Q E s := by
  unfold runOwn
  exact wpN_onRaise (wpN_run (h := none) (by show codeN M A c _ s; exact hc))
theorem nWhile {M : Model} {env : Env} {test : Expr} {body orelse : List Stmt} {pos : Pos} {Q : Flow → Shared → Prop}
    (h : codeN M A (.whileLoop test body orelse env) (fun r s' => match r with | .ok f => Q f s' | .error e => backN M A env E e s') s) :
    wpN M A (exec (.While test body orelse pos) env) Q E s := by
  rw [exec_While]; exact wpN_bind (wpN_standAt (nRunOwn h))
/-- a while loop, its states known by a measure -/
theorem nWhileLoop {env : Env} {test : Expr} {body : List Stmt} {R : Result → Shared → Prop} (I : Nat → Shared → Prop)
    (turn : ∀ n s, I n s → wpN (model prog w) A (isTrue test env (eval test env)) (fun b s₁ =>
        if b then wpN (model prog w) A (execs body env) (fun f s₂ => match f with | .next | .cont => ∃ m, m < n ∧ I m s₂ | .brk => R (.ok .next) s₂ | .ret v => R (.ok (.ret v)) s₂) (noteN (model prog w) A env (fun e => R (.error e))) s₁
        else R (.ok .next) s₁) (noteN (model prog w) A env (fun e => R (.error e))) s)
    (n : Nat) (h : I n s) : codeN (model prog w) A (.whileLoop test body [] env) R s := by
  refine codeN_loop rfl rfl I (fun n s hi => ?_) n h
  have hu : A.under (.whileLoop test body [] env) = A := Around.under_of_weight rfl rfl
  rw [hu]
  show wpN _ A ((whileTurn test body [] env).onRaise (fun x => do noteFrame x env; theTreesLotGoes x)) _ _ s
  refine wpN_onRaise ?_
  unfold whileTurn
  refine wpN_bind (wpN_mono (turn n s hi) (fun b s₁ h₁ => ?_) fun _ _ x => x)
  cases b with
  | false => exact wpN_bind (nExecs_nil (wpN_pure h₁))
  | true =>
    refine wpN_bind (wpN_mono h₁ (fun f s₂ h₂ => ?_) fun _ _ x => x)
    cases f with
    | next => exact wpN_pure ⟨rfl, h₂⟩
    | cont => exact wpN_pure ⟨rfl, h₂⟩
    | brk => exact wpN_pure h₂
    | ret v => exact wpN_pure h₂
end
end
end Mine
end
/- part FbHead -/
section
open PySem PySem.W PySem.Spec PySem.Calls PyProof.Rows
open PySem.Sem (wp)
set_option Elab.async false
set_option maxRecDepth 100000
set_option linter.all false
namespace Mine
/-- the walk that is asked for: the caller's own stack alone, which holds no decoder -/
abbrev WalkM (q : Program) (loose : List Str) (XP : (Str → Option Value) → Heap → Prop) (YP : World → Heap → Prop) (r : RowW) (d : DefRec) (kwd : List (Str × Expr)) : Prop :=
  ∀ (w : World) (s₀ s₁ : Shared) (mg mb : Str → Option Value), Ground q loose r.records XP w s₀ mg mb s₁.heap → YP w s₁.heap → ∀ (a : Addr) (o : Obj) (pm cd doc dV kV : Value), s₁.heap.get? a = some o →
    o.data = .func { docDef d.name d.params d.body d.scope pm cd doc with defaults := dV, kwdefaults := kV } → s₁.heap.CodeRec cd d.name → Dflts mg s₁.heap d.params kwd dV kV → mg d.name = some (.ref a) → s₁.gens = #[] →
    ∀ (args : List WData) (vals : List Value) (as : List Addr), r.claim.pre args = true → WData.layableAll args = true → ReadsAllW r.records (classAt s₀.heap) s₁.heap vals args as → WellAll w.params s₁.heap vals args → (∀ a ∈ as, (a == sysModules) = false) →
      wpN (model r.prog w) callerA (PySem.call (.ref a) vals) (fun v s' => GoodWG r.claim (classAt s₀.heap) (ExcName.means s₀.heap) args s₁ (.ok (.ret v)) s')
        (fun e s' => GoodWG r.claim (classAt s₀.heap) (ExcName.means s₀.heap) args s₁ (.error e) s') s₁

theorem nBind_get {M : Model} {A : Around} {α : Type} {E : Value → Shared → Prop} {s : Shared} {m : Str → Option Value} {x : Str} {f : Option Value → Sem α} {Q : α → Shared → Prop} (hg : s.heap.Ns mainGlobals m)
    (h : wpN M A (f (m x)) Q E s) : wpN M A (nsGet mainNs x >>= f) Q E s := wpN_bind (wpAny.n (wpAny_nsGet hg h))
theorem callFrom_M {c : ClaimW} {tree : List Value → Sem Fin} {w : World} {s : Shared} {free : Addr → Prop} {gens : Prop} {kept : Heap → Prop} (hz : s.asleep) (hgens : s.gens = #[])
    (hspec : ∀ args, c.pre args = true → WData.layableAll args = true → ∀ ord : List DictEntry → List DictEntry, (∀ l, (ord l).Perm l) →
      ∃ vs s₁, layAllW c.records (classAt s.heap) w.params ord args s = some (vs, s₁) ∧
        wpN (model c.prog w) callerA (tree vs) (fun fin s' => ∃ f, fin = .done f ∧ (c.Ends s args vs s₁ (.ok f) s' ∧ s'.os = s.os ∧ AllBare s'.gens ∧ kept s'.heap))
          (fun e s' => c.Ends s args vs s₁ (.error e) s' ∧ s'.os = s.os ∧ AllBare s'.gens ∧ kept s'.heap) s₁) :
    c.CallFrom (fun vs => ⟨tree vs, .builtin "claim.caller" {}, default, []⟩) w free gens kept s := by
  intro args hpre hlay ord hord
  obtain ⟨vs, s₁, hlaid, hcode⟩ := hspec args hpre hlay ord hord
  have hal := layAllW_rest _ _ _ hlaid
  have hh := hcode ⟨.builtin "claim.caller" {}, none, none, [], none⟩ default caller_in (by decide +kernel) rfl
  have hh2 : wp (model c.prog w) ⟨.builtin "claim.caller" {}, none, none, [], none⟩ (tree vs)
      (Sem.finPost (model c.prog w) ⟨.builtin "claim.caller" {}, none, none, [], none⟩ fun r s' => (c.Ends s args vs s₁ r s' ∧ s'.os = s.os ∧ kept s'.heap) ∧ leftWithCleanup s'.gens = false)
      (fun e _ s' => (c.Ends s args vs s₁ (.error e) s' ∧ s'.os = s.os ∧ kept s'.heap) ∧ leftWithCleanup s'.gens = false) default s₁ :=
    Sem.wp_mono _ _ _ (fun fin p' s' h' => by
      obtain ⟨f, rfl, h1, h2, h3, h4⟩ := h'
      exact ⟨⟨h1, h2, h4⟩, leftWithCleanup_false_of_bare h3⟩) (fun e p' s' h' => by
      obtain ⟨h1, h2, h3, h4⟩ := h'
      exact ⟨⟨h1, h2, h4⟩, leftWithCleanup_false_of_bare h3⟩) _ _ hh
  obtain ⟨k, r, s'', s', hsched, hrun, hfo, hcase, hos, hkp⟩ := wp_halts_full (M := model c.prog w) (R := fun r s' => c.Ends s args vs s₁ r s' ∧ s'.os = s.os ∧ kept s'.heap)
    (Shared.asleep_of_life hal.2.2.2 hz) hh2
  obtain ⟨eh, _, _, eo, _⟩ := Shared.forget_eq hfo
  have hcase := hcase.congr eh
  have hkp : kept s'.heap := by rw [eh]; exact hkp
  rw [← eo] at hos
  have hlife : s'.heap.life = s.heap.life := (runN_life _ _ _ hrun).trans hal.2.2.2
  refine ⟨vs, s₁, hlaid, k, _, s', hsched, ?_, (fun _ i x hx => by rw [hgens] at hx; simp at hx), hkp, by rw [hlife], Shared.rest_eq hos⟩
  rcases hcase with ⟨v, rfl, d1, d2, d3, d4, d5⟩ | ⟨e, ob, cls, rfl, d1, d2, d3, d4, d5⟩
  · exact .inl ⟨v, rfl, d1, d2, d3, fun b o y _ => d4 b o y, d5⟩
  · exact .inr ⟨e, ob, cls, rfl, d1, d2, d3, d4, fun b o y _ => d5 b o y⟩
/-- the head, for a walk with no decoder about; its arguments stand as the kit's own tactic gives them -/
theorem PySem.W.holds_open {r : OpenRow} {q : Program} {loose : List Str} {Xt : Shared → Bool} {XP : (Str → Option Value) → Heap → Prop} {α : Type} {Yf : Shared → α} {Ya : World → α} {YP : World → Heap → Prop} {d : DefRec} {kwd : List (Str × Expr)} {N : Nat}
    (left : LeftO r.prog q loose Xt Yf Ya N) (hY : ∀ w s, Yf s = Ya w → YP w s.heap) (hYk : ∀ w h h', YP w h → (∀ b o, h.get? b = some o → h'.get? b = some o) → YP w h')
    (hX : ∀ s, Xt s = true → XP (s.heap.nsMap mainGlobals) s.heap) (hXk : ∀ mg h h', XP mg h → (∀ b o, h.get? b = some o → h'.get? b = some o) → XP mg h')
    (hdef : defOf q r.name = some (d, kwd)) (hp : r.prog.theDef r.name = some (d.params, d.body, d.scope)) (hk : kwWritten? d.params.kwonlyargs d.params.kw_defaults = some kwd) (hRf : ∀ s, Xt s = true → RecFacts r.records s.heap) (hwr : (!r.writes || r.records.isEmpty) = true)
    (k1 : r.wellSaid = true) (ok : (chainsOk q && opensWell r.prog && (frees r.toRowW && r.within.isEmpty)) = true) (hb : r.prog.bare) (hw : r.toRowW.promised)
    (call : WalkM q loose XP YP r.toRowW d kwd) : r.Holds := by
  obtain ⟨ok, k5⟩ := Bool.and_eq_true_iff.mp ok
  obtain ⟨hch, o1⟩ := Bool.and_eq_true_iff.mp ok
  obtain ⟨k5, k6⟩ := Bool.and_eq_true_iff.mp k5
  obtain ⟨hsame, hu, ha, hap, hm⟩ := frees_parts k5
  refine ⟨k1, hw, ?_⟩
  refine ⟨⟨hb, o1, by show r.toRowW.makers.map _ = []; rw [hm]; rfl⟩, hw.witness, fun w => ⟨(left.behind hX hch w).1, fun s' hs' => ?_⟩⟩
  obtain ⟨s₀, hf, hg0, s, hT, hz, hgens, hg, G00, y⟩ := (left.behind (XP := fun mg h => XP mg h ∧ RecFacts r.records h) (fun s hs => ⟨hX s hs, hRf s hs⟩) hch w).2 s' hs'
  have G0 : Ground q loose [] XP w s (s.heap.nsMap mainGlobals) (s.heap.nsMap builtinsNs) s.heap := ⟨G00.T, G00.B, G00.D, G00.TE, G00.TD, G00.W, G00.X.1, G00.cls, G00.has, G00.apart, G00.once, G00.K⟩
  have RF := G00.X.2
  have hT' := hT
  refine ⟨s₀, hf, hg0, s, hT, fun n hn => ?_, RF.1, RF.2.1, ?_⟩
  · obtain rfl : n = r.name := by split at hn <;> simp_all
    exact pinned_of_view hg G0 hdef hp hk
  have hgens : s.gens = #[] := Array.eq_empty_of_size_eq_zero (beq_iff_eq.mp hgens)
  have G : Ground q loose r.records XP w s _ _ s.heap := RF.ground G0
  refine callFrom_M (c := r.toRowW.claim) (tree := fun vs => do match ← nsGet mainNs r.name with
      | some f => do ret (← PySem.call f vs)
      | none => unsupported "claim.caller:no-such-global") hz hgens fun args hpre hlay ord hord => ?_
  obtain ⟨⟨vs, s₁⟩, hlaid⟩ := Option.isSome_iff_exists.mp (layAllW_isSome (P := w.params) (ord := ord) G.has args r.args s (pre_splitW (r := r.toRowW) hpre).1)
  have keeps := layAllW_keeps _ _ _ hlaid
  have hal := layAllW_rest _ _ _ hlaid
  obtain ⟨as, hrd, hin, hold⟩ := reads_layAllW hord _ _ _ hlaid hlay s₁.heap (fun _ _ e => e)
  have L : Laid r.records w s s₁ args vs as := ⟨⟨ord, hord, hlaid⟩, hrd, hin, hold, keeps, hal.1.trans hgens, hal.2.2.1⟩
  have G₁ := G.keeps hXk keeps
  obtain ⟨a, o, pm, cd, doc, dV, kV, h1, h2, h3, h4, h5⟩ := G₁.fn hdef
  have h := call w s s₁ _ _ G₁ (hYk _ _ _ (hY w s y) keeps) a o pm cd doc dV kV h2 h3 h4 h5 (defOf_name hdef ▸ h1) L.gens args vs as hpre hlay L.reads L.well (L.low G.low)
  have hi := ident_freeW hu ha hap
  have hwi : r.toRowW.claim.within = [] := List.isEmpty_iff.mp k6
  refine ⟨vs, s₁, hlaid, nBind_get G₁.T.g ?_⟩
  rw [h1]
  refine wpN_bind (wpN_mono h (fun v s' g => wpN_pure ?_) fun e s' g => ?_)
  · have z := g.laid (c := r.toRowW.claim) hsame hwi hi L
    exact ⟨_, rfl, z.1, z.2.1, z.2.2, fun q => ⟨namesKept_of hT' hg _ keeps g.2.1.old, noTable hwr q⟩⟩
  · have z := g.laid (c := r.toRowW.claim) hsame hwi hi L
    exact ⟨z.1, z.2.1, z.2.2, fun q => ⟨namesKept_of hT' hg _ keeps g.2.1.old, noTable hwr q⟩⟩
end Mine
end
/- part Hm02 -/
section
open PySem PySem.W PyProof.Rows
set_option Elab.async false
set_option maxRecDepth 100000
set_option maxHeartbeats 8000000
namespace Mine
open_top hd for PySem.Challenge.rw_ef5002_02
end Mine
end
/- part FbBase -/
section
open PySem PySem.W PySem.Spec PySem.Calls PyProof.Rows
set_option Elab.async false
set_option maxRecDepth 100000
set_option linter.all false
namespace Mine

/-- a value without its token -/
def er : Value → Value
  | .int i _ => .int i 0
  | .float b _ => .float b 0
  | .str s _ => .str s 0
  | .bytes b _ => .bytes b 0
  | v => v
@[simp] theorem er_none : er .none = .none := rfl
@[simp] theorem er_bool (b) : er (.bool b) = .bool b := rfl
@[simp] theorem er_int (i t) : er (.int i t) = .int i 0 := rfl
@[simp] theorem er_str (i t) : er (.str i t) = .str i 0 := rfl
@[simp] theorem er_bytes (i t) : er (.bytes i t) = .bytes i 0 := rfl
@[simp] theorem er_type (n) : er (.type n) = .type n := rfl
@[simp] theorem er_builtin (n) : er (.builtin n) = .builtin n := rfl
@[simp] theorem er_ref (n) : er (.ref n) = .ref n := rfl
theorem er_er (v) : er (er v) = er v := by cases v <;> rfl
theorem er_int_inv {v : Value} {i : Int} (h : er v = .int i 0) : ∃ t, v = .int i t := by
  cases v <;> simp_all [er]
theorem er_str_inv {v : Value} {i : Str} (h : er v = .str i 0) : ∃ t, v = .str i t := by
  cases v <;> simp_all [er]
theorem er_bytes_inv {v : Value} {i : Array UInt8} (h : er v = .bytes i 0) : ∃ t, v = .bytes i t := by
  cases v <;> simp_all [er]
theorem er_ref_inv {v : Value} {i : Addr} (h : er v = .ref i) : v = .ref i := by
  cases v <;> simp_all [er]
theorem er_bool_inv {v : Value} {i : Bool} (h : er v = .bool i) : v = .bool i := by
  cases v <;> simp_all [er]
theorem er_none_inv {v : Value} (h : er v = .none) : v = .none := by
  cases v <;> simp_all [er]
theorem er_type_inv {v : Value} {n} (h : er v = .type n) : v = .type n := by
  cases v <;> simp_all [er]
theorem er_builtin_inv {v : Value} {n} (h : er v = .builtin n) : v = .builtin n := by
  cases v <;> simp_all [er]

/-- an object as the laws see it -/
inductive AObj where
  | inst (C dx : Addr) (sl : List (Option Value))
  | ba (b : List UInt8)
  | list (xs : List Value)
  | tup (xs : List Value)
  | raw (o : Obj)
  | hid

abbrev Hp := Addr → Option AObj
abbrev Loc := Str → Option Value
def Hp.put (σ : Hp) (a : Addr) (o : AObj) : Hp := fun b => if b = a then some o else σ b
def Loc.put (ρ : Loc) (x : Str) (v : Value) : Loc := fun y => if y = x then some v else ρ y
@[simp] theorem Hp.put_self (σ : Hp) (a o) : (σ.put a o) a = some o := by simp [Hp.put]
theorem Hp.put_ne (σ : Hp) {a b} (o) (h : b ≠ a) : (σ.put a o) b = σ b := by simp [Hp.put, h]

/-- what stands fast through a law's whole run -/
structure Cx where
  prog : Program
  w : World
  K : Frag
  p : Program
  loose : List Str
  mg : Str → Option Value
  mb : Str → Option Value
  os : OsState
  base : Heap
structure Cx.Ok (C : Cx) : Prop where
  kin : C.K.In C.base
  top : TopRead C.p C.loose C.mg C.mb C.base

/-- a frame's standing -/
structure Fm where
  outer : List Env
  h₀ : Heap
  qual : Str
  sc : Scope
  L : Addr
  fa : Addr
  cd : Value
  cl : List (Str × Addr)
def Fm.env (F : Fm) : Env := envX F.qual F.sc F.L F.fa F.cd F.cl
def Fm.frs (F : Fm) : List Addr := F.outer.filterMap (·.frame)
theorem Fm.env_frame (F : Fm) : F.env.frame = some F.L := rfl
structure Fm.Ok (C : Cx) (F : Fm) : Prop where
  stays : C.base.StaysIn F.h₀
  frames : F.h₀.FunFrames C.base F.outer
  fn : F.sc.kind = .function
  new : F.h₀.get? F.L = none
  above : C.base.objs.size ≤ F.L
  apart : ∀ x y c, F.cl.lookup x = some c → F.cl.lookup y = some c → x = y
  cells : ∀ x, F.env.kindOf x = some .cell → ∃ c, F.cl.lookup x = some c
  celfr : ∀ x c, F.cl.lookup x = some c → c ∉ F.frs

def ORel (σ : Hp) (h : Heap) (a : Addr) : AObj → Prop
  | .inst C dx sl => σ dx = some .hid ∧ ∃ ob, h.get? a = some ob ∧ ob.cls = .ref C ∧ ob.dict = some dx ∧ ob.data = .plain ∧ ob.slots.size ≤ sl.length ∧
      ∀ i : Nat, ((ob.slots[i]?).join).map er = (sl[i]?).join
  | .ba b => h.get? a = some { cls := .type "bytearray", data := .bytearray b.toArray 0 } ∧ b.length ≤ sizeLine
  | .list xs => ∃ items n, h.get? a = some { cls := .type "list", data := .seq items n } ∧ items.toList.map er = xs ∧ xs.length ≤ sizeLine
  | .tup xs => ∃ items n, h.get? a = some { cls := .type "tuple", data := .seq items n } ∧ items.toList.map er = xs ∧ xs.length ≤ sizeLine
  | .raw o => h.get? a = some o
  | .hid => h.get? a = some (dictOf [] 0)

def Cels (F : Fm) (σ : Hp) (ρ : Loc) (h : Heap) : Prop :=
  ∀ x c, F.env.kindOf x ≠ some .local → F.cl.lookup x = some c → c ≠ F.L ∧ σ c = none ∧ ∃ o v, h.get? c = some o ∧ o.data = .cell v ∧ v.map er = ρ x
def Locs (F : Fm) (ρ : Loc) (m : Str → Option Value) : Prop := ∀ x, F.env.kindOf x = some .local → (m x).map er = ρ x
def Kept (F : Fm) (h : Heap) : Prop := ∀ b o, F.h₀.get? b = some o → ∃ sl, h.get? b = some { o with slots := sl } ∧ (b ∉ F.frs → sl = o.slots)
def Own (F : Fm) (σ : Hp) (h : Heap) : Prop := ∀ a o, σ a = some o → a ≠ F.L ∧ F.h₀.get? a = none ∧ ORel σ h a o

structure Inv (C : Cx) (F : Fm) (σ : Hp) (ρ : Loc) (s : Shared) : Prop where
  loc : ∃ m, Fr C.base F.L s.heap m ∧ Locs F ρ m
  kept : Kept F s.heap
  cel : Cels F σ ρ s.heap
  own : Own F σ s.heap
  gens : s.gens = #[]
  os : s.os = C.os

theorem Inv.toks {C F σ ρ s} (h : Inv C F σ ρ s) (t : Nat) : Inv C F σ ρ { s with toks := t } := ⟨h.loc, h.kept, h.cel, h.own, h.gens, h.os⟩

/-- what the stack around allows -/
structure Ar (F : Fm) (A : Around) (d : Nat) : Prop where
  frames : A.frames = some (F.env :: F.outer)
  guards : A.guards = some []
  depth : A.depth + d < recursionLimit
  units : A.units + 10 * d < cLine
  handled : A.handled = none
theorem Ar.in1 {F A d} (h : Ar F A (d + 1)) : Ar F A.in1 d := ⟨h.frames, h.guards, by have := h.depth; show A.depth + d < _; omega, by have := h.units; show A.units + 1 + 10 * d < _; omega, h.handled⟩
theorem Ar.mono {F A d d'} (h : Ar F A d) (hd : d' ≤ d) : Ar F A d' := ⟨h.frames, h.guards, by have := h.depth; omega, by have := h.units; omega, h.handled⟩

structure FreshX (h h' : Heap) (e : Addr) (cls : Value) : Prop where
  keeps : h.StaysIn h'
  new : h.get? e = none
  there : ∃ ob vs a0, h'.get? e = some ob ∧ ob.cls = cls ∧ ob.data = .fields vs ∧ vs[1]? = some .none ∧ vs[0]? = some a0

/-- an exception within frame F: just made, or come out of a call -/
inductive Exc (C : Cx) (F : Fm) (σ : Hp) (ρ : Loc) (e : Addr) (cls : Value) (s : Shared) : Prop where
  | fresh (s₀ : Shared) (i : Inv C F σ ρ s₀) (x : FreshX s₀.heap s.heap e cls) (g : s.gens = #[]) (o : s.os = C.os)
  | fly (B : Heap) (a0 : Value) (st : C.base.StaysIn B) (f : Heap.FlyingW B (F.env :: F.outer) e cls a0 s.heap)
      (own : Own F σ B) (cel : Cels F σ ρ B) (keep : ∀ b o, F.h₀.get? b = some o → b ∉ F.frs → B.get? b = some o) (kept : Kept F s.heap)
      (loc : ∃ m, s.heap.Ns F.L m ∧ Locs F ρ m) (g : s.gens = #[]) (o : s.os = C.os)
  | held (B : Heap) (a0 : Value) (st : C.base.StaysIn B) (f : Heap.HeldW B (F.env :: F.outer) e cls a0 F.L s.heap)
      (own : Own F σ B) (cel : Cels F σ ρ B) (keep : ∀ b o, F.h₀.get? b = some o → b ∉ F.frs → B.get? b = some o) (kept : Kept F s.heap)
      (loc : ∃ m, s.heap.Ns F.L m ∧ Locs F ρ m) (g : s.gens = #[]) (o : s.os = C.os)

class Er (α : Type) where
  e : α → α
instance : Er Value := ⟨er⟩
instance : Er Bool := ⟨id⟩
instance : Er Unit := ⟨id⟩
def erF : Flow → Flow | .ret v => .ret (er v) | f => f
instance : Er Flow := ⟨erF⟩
instance : Er (List Value) := ⟨List.map er⟩
instance : Er (Option Value) := ⟨Option.map er⟩

def W (C : Cx) (F : Fm) (A : Around) {α : Type} [Er α] (t : Sem α) (σ : Hp) (ρ : Loc) (Q : α → Hp → Loc → Prop) (X : Value → Hp → Loc → Prop) : Prop :=
  ∀ s, Inv C F σ ρ s → wpN (model C.prog C.w) A t (fun a s' => ∃ σ' ρ', Inv C F σ' ρ' s' ∧ Q (Er.e a) σ' ρ')
    (fun e s' => ∃ ea cls σ' ρ', e = .ref ea ∧ Exc C F σ' ρ' ea cls s' ∧ X cls σ' ρ') s


/- how the standing lives on -/
theorem ORel.ext {σ h h' a o} (r : ORel σ h a o) (k : h.StaysIn h') : ORel σ h' a o := by
  cases o with
  | inst Cl dx sl =>
    obtain ⟨h1, ob, h4, h5⟩ := r
    exact ⟨h1, ob, k _ _ h4, h5⟩
  | ba b => exact ⟨k _ _ r.1, r.2⟩
  | list xs => obtain ⟨items, n, e, q⟩ := r; exact ⟨items, n, k _ _ e, q⟩
  | tup xs => obtain ⟨items, n, e, q⟩ := r; exact ⟨items, n, k _ _ e, q⟩
  | raw o => exact k _ _ r
  | hid => exact k _ _ r
theorem ORel.there {σ h a o} (r : ORel σ h a o) : ∃ ob, h.get? a = some ob := by
  cases o with
  | inst Cl dx sl => obtain ⟨_, ob, h4, _⟩ := r; exact ⟨ob, h4⟩
  | ba b => exact ⟨_, r.1⟩
  | list xs => obtain ⟨items, n, e, q⟩ := r; exact ⟨_, e⟩
  | tup xs => obtain ⟨items, n, e, q⟩ := r; exact ⟨_, e⟩
  | raw o => exact ⟨_, r⟩
  | hid => exact ⟨_, r⟩
theorem ORel.at {σ h h' a o} (r : ORel σ h a o) (e : h'.get? a = h.get? a) : ORel σ h' a o := by
  cases o with
  | inst Cl dx sl => obtain ⟨h1, ob, h4, h5⟩ := r; exact ⟨h1, ob, e.trans h4, h5⟩
  | ba b => exact ⟨e.trans r.1, r.2⟩
  | list xs => obtain ⟨items, n, q, z⟩ := r; exact ⟨items, n, e.trans q, z⟩
  | tup xs => obtain ⟨items, n, q, z⟩ := r; exact ⟨items, n, e.trans q, z⟩
  | raw o => exact e.trans r
  | hid => exact e.trans r
/-- a change at one address that is not the object's -/
theorem ORel.same {σ h h' a b o} (r : ORel σ h a o) (hs : Heap.SameBut b h h') (hb : a ≠ b) : ORel σ h' a o := r.at (hs.2 _ hb)
theorem ORel.put {σ h a b o o'} (r : ORel σ h a o) (hb : σ b ≠ some .hid) : ORel (σ.put b o') h a o := by
  cases o with
  | inst Cl dx sl =>
    obtain ⟨h1, h3⟩ := r
    exact ⟨(Hp.put_ne _ _ fun z => hb (by rw [← z]; exact h1)).trans h1, h3⟩
  | _ => exact r

section
variable {C : Cx} {F : Fm} {σ : Hp} {ρ : Loc} {s : Shared}
theorem Inv.ext (i : Inv C F σ ρ s) {h' : Heap} (k : s.heap.StaysIn h') (t : Nat) : Inv C F σ ρ { s with heap := h', toks := t } := by
  obtain ⟨⟨m, f, l⟩, kp, ce, ow, g, o⟩ := i
  refine ⟨⟨m, ⟨f.ns.keeps k, fun b o e => k _ _ (f.keep b o e), f.above⟩, l⟩, fun b o e => ?_, fun x c hk hc => ?_, fun a o e => ?_, g, o⟩
  · obtain ⟨sl, q, z⟩ := kp b o e; exact ⟨sl, k _ _ q, z⟩
  · obtain ⟨a1, a2, oc, v, a3, a4⟩ := ce x c hk hc; exact ⟨a1, a2, oc, v, k _ _ a3, a4⟩
  · obtain ⟨a1, a2, a3⟩ := ow a o e; exact ⟨a1, a2, a3.ext k⟩
theorem Inv.setL (i : Inv C F σ ρ s) {h' : Heap} {m' : Str → Option Value} {ρ' : Loc} (ok : F.Ok C) (hn : h'.Ns F.L m') (hs : Heap.SameBut F.L s.heap h') (l : Locs F ρ' m') (hρ : ∀ x, F.env.kindOf x ≠ some .local → ρ' x = ρ x) (t : Nat) :
    Inv C F σ ρ' { s with heap := h', toks := t } := by
  obtain ⟨⟨m, f, _⟩, kp, ce, ow, g, o⟩ := i
  refine ⟨⟨m', f.set hn hs, l⟩, fun b o e => ?_, fun x c hk hc => ?_, fun a o e => ?_, g, o⟩
  · obtain ⟨sl, q, z⟩ := kp b o e
    exact ⟨sl, (hs.2 _ fun z => by rw [z, ok.new] at e; cases e).trans q, z⟩
  · obtain ⟨a1, a2, oc, v, a3, a4, a5⟩ := ce x c hk hc; exact ⟨a1, a2, oc, v, (hs.2 _ a1).trans a3, a4, a5.trans (hρ x hk).symm⟩
  · obtain ⟨a1, a2, a3⟩ := ow a o e
    exact ⟨a1, a2, a3.same hs a1⟩
theorem Inv.lt (i : Inv C F σ ρ s) {a o} (e : σ a = some o) : a < s.heap.objs.size := by
  obtain ⟨_, _, r⟩ := i.own a o e
  obtain ⟨ob, h⟩ := r.there
  exact Heap.lt_size h
theorem Inv.none_at (i : Inv C F σ ρ s) : σ s.heap.objs.size = none := by
  cases e : σ s.heap.objs.size with
  | none => rfl
  | some o => exact absurd (i.lt e) (Nat.lt_irrefl _)
theorem Inv.new_at (i : Inv C F σ ρ s) : F.h₀.get? s.heap.objs.size = none := by
  cases e : F.h₀.get? s.heap.objs.size with
  | none => rfl
  | some o => obtain ⟨sl, q, _⟩ := i.kept _ o e; exact absurd (Heap.lt_size q) (Nat.lt_irrefl _)
theorem Inv.ltL (i : Inv C F σ ρ s) : F.L < s.heap.objs.size := let ⟨_, f, _⟩ := i.loc; f.ns.lt
/-- an object of the law's changed -/
theorem Inv.put (i : Inv C F σ ρ s) (ok : F.Ok C) {h' : Heap} {a : Addr} {o o' : AObj} (e : σ a = some o) (nh : o ≠ .hid) (hs : Heap.SameBut a s.heap h') (r : ORel (σ.put a o') h' a o') (t : Nat) : Inv C F (σ.put a o') ρ { s with heap := h', toks := t } := by
  obtain ⟨⟨m, f, l⟩, kp, ce, ow, g, os⟩ := i
  have aL : a ≠ F.L := (ow a o e).1
  have a0 := (ow a o e).2.1
  refine ⟨⟨m, ⟨f.ns.sameBut hs aL.symm, fun b ob q => (hs.2 b fun z => ?_).trans (f.keep b ob q), f.above⟩, l⟩, fun b ob q => ?_, fun x c hk hc => ?_, fun b ob q => ?_, g, os⟩
  · subst z; have := ok.stays _ _ q; rw [a0] at this; cases this
  · obtain ⟨sl, q', z⟩ := kp b ob q
    exact ⟨sl, (hs.2 _ fun z => by rw [z, a0] at q; cases q).trans q', z⟩
  · obtain ⟨a1, a2, oc, v, a3, a4⟩ := ce x c hk hc
    have : c ≠ a := fun z => by rw [z, e] at a2; cases a2
    exact ⟨a1, (Hp.put_ne _ _ this).trans a2, oc, v, (hs.2 _ this).trans a3, a4⟩
  · by_cases hb : b = a
    · subst hb; rw [Hp.put_self] at q; cases q; exact ⟨aL, a0, r⟩
    · rw [Hp.put_ne _ _ hb] at q
      obtain ⟨b1, b2, b3⟩ := ow b ob q
      exact ⟨b1, b2, (b3.same hs hb).put fun z => nh (by rw [e] at z; exact Option.some.inj z)⟩
/-- a new object -/
theorem Inv.new (i : Inv C F σ ρ s) {h' : Heap} {a : Addr} {o' : AObj} (ha : s.heap.objs.size ≤ a) (k : s.heap.StaysIn h') (r : ORel (σ.put a o') h' a o') (t : Nat) : Inv C F (σ.put a o') ρ { s with heap := h', toks := t } := by
  have i' := i.ext k t
  have na : ∀ {b : Addr} {ob : Obj}, s.heap.get? b = some ob → b ≠ a := fun q z => by subst z; exact absurd (Heap.lt_size q) (Nat.not_lt.mpr ha)
  obtain ⟨l, kp, ce, ow, g, os⟩ := i'
  refine ⟨l, kp, fun x c hk hc => ?_, fun b ob q => ?_, g, os⟩
  · obtain ⟨a1, a2, oc, v, a3, a4⟩ := ce x c hk hc
    obtain ⟨_, _, oc', v', a3', _⟩ := i.cel x c hk hc
    exact ⟨a1, (Hp.put_ne _ _ (na a3')).trans a2, oc, v, a3, a4⟩
  · by_cases hb : b = a
    · subst hb; rw [Hp.put_self] at q; cases q
      refine ⟨fun z => absurd i.ltL (by rw [← z]; exact Nat.not_lt.mpr ha), ?_, r⟩
      cases e : F.h₀.get? b with
      | none => rfl
      | some o => obtain ⟨sl, q, _⟩ := i.kept _ o e; exact absurd (Heap.lt_size q) (Nat.not_lt.mpr ha)
    · rw [Hp.put_ne _ _ hb] at q
      obtain ⟨b1, b2, b3⟩ := ow b ob q
      refine ⟨b1, b2, b3.put fun z => ?_⟩
      exact absurd (i.lt z) (Nat.not_lt.mpr ha)
end

section
variable {C : Cx} {F : Fm} {A : Around} {α β : Type} [Er α] [Er β] {σ : Hp} {ρ : Loc} {X : Value → Hp → Loc → Prop}
theorem W.mono {t : Sem α} {Q Q' : α → Hp → Loc → Prop} {X' : Value → Hp → Loc → Prop} (h : W C F A t σ ρ Q X) (hq : ∀ a σ ρ, Q a σ ρ → Q' a σ ρ) (hx : ∀ c σ ρ, X c σ ρ → X' c σ ρ) : W C F A t σ ρ Q' X' :=
  fun s i => wpN_mono (h s i) (fun _ _ ⟨σ', ρ', i', q⟩ => ⟨σ', ρ', i', hq _ _ _ q⟩) fun _ _ ⟨ea, c, σ', ρ', e, x, q⟩ => ⟨ea, c, σ', ρ', e, x, hx _ _ _ q⟩
/-- how a W is used within a proof over wpAny -/
theorem W.use {t : Sem α} {Q : α → Hp → Loc → Prop} {s : Shared} {P : α → Shared → Prop} {E : Value → Shared → Prop} (h : W C F A t σ ρ Q X) (i : Inv C F σ ρ s)
    (k : ∀ a s' σ' ρ', Inv C F σ' ρ' s' → Q (Er.e a) σ' ρ' → P a s') (x : ∀ ea cls s' σ' ρ', Exc C F σ' ρ' ea cls s' → X cls σ' ρ' → E (.ref ea) s') : wpN (model C.prog C.w) A t P E s :=
  wpN_mono (h s i) (fun _ _ ⟨_, _, i', q⟩ => k _ _ _ _ i' q) fun _ _ ⟨_, _, _, _, e, y, q⟩ => e ▸ x _ _ _ _ _ y q
/-- a W carried on by another -/
theorem W.on {t : Sem α} {u : α → Sem β} {Q : α → Hp → Loc → Prop} {R : β → Hp → Loc → Prop} {s : Shared} (h : W C F A t σ ρ Q X) (i : Inv C F σ ρ s)
    (k : ∀ a s' σ' ρ', Inv C F σ' ρ' s' → Q (Er.e a) σ' ρ' → wpN (model C.prog C.w) A (u a) (fun b s' => ∃ σ' ρ', Inv C F σ' ρ' s' ∧ R (Er.e b) σ' ρ') (fun e s' => ∃ ea cls σ' ρ', e = .ref ea ∧ Exc C F σ' ρ' ea cls s' ∧ X cls σ' ρ') s') :
    wpN (model C.prog C.w) A t (fun a s' => wpN (model C.prog C.w) A (u a) (fun b s' => ∃ σ' ρ', Inv C F σ' ρ' s' ∧ R (Er.e b) σ' ρ') (fun e s' => ∃ ea cls σ' ρ', e = .ref ea ∧ Exc C F σ' ρ' ea cls s' ∧ X cls σ' ρ') s')
      (fun e s' => ∃ ea cls σ' ρ', e = .ref ea ∧ Exc C F σ' ρ' ea cls s' ∧ X cls σ' ρ') s :=
  h.use i (fun a s' σ' ρ' i' q => k a s' σ' ρ' i' q) fun ea cls s' σ' ρ' y q => ⟨ea, cls, σ', ρ', rfl, y, q⟩

/- statements -/
theorem W_nil {Q : Flow → Hp → Loc → Prop} (h : Q .next σ ρ) : W C F A (execs [] F.env) σ ρ Q X := fun _ i => nExecs_nil ⟨_, _, i, h⟩
theorem W_cons {st : Stmt} {rest : List Stmt} {Q : Flow → Hp → Loc → Prop}
    (h : W C F A (exec st F.env) σ ρ (fun f σ' ρ' => match f with | .next => W C F A (execs rest F.env) σ' ρ' Q X | f => Q f σ' ρ') X) : W C F A (execs (st :: rest) F.env) σ ρ Q X := by
  intro s i
  refine nExecs_cons (h.use i (fun f s' σ' ρ' i' q => ?_) fun ea cls s' σ' ρ' y q => ⟨ea, cls, σ', ρ', rfl, y, q⟩)
  cases f <;> first | exact q s' i' | exact ⟨σ', ρ', i', q⟩
theorem W_If {test : Expr} {body orelse : List Stmt} {pos : Pos} {Q : Flow → Hp → Loc → Prop}
    (h : W C F A (isTrue test F.env (eval test F.env)) σ ρ (fun b σ' ρ' => if b then W C F A (execs body F.env) σ' ρ' Q X else W C F A (execs orelse F.env) σ' ρ' Q X) X) : W C F A (exec (.If test body orelse pos) F.env) σ ρ Q X := by
  intro s i
  refine nIf (h.use i (fun b s' σ' ρ' i' q => ?_) fun ea cls s' σ' ρ' y q => ⟨ea, cls, σ', ρ', rfl, y, q⟩)
  cases b
  · exact q s' i'
  · exact q s' i'
theorem W_Return {e : Expr} {pos : Pos} {Q : Flow → Hp → Loc → Prop} (h : W C F A (eval e F.env) σ ρ (fun v σ' ρ' => Q (.ret v) σ' ρ') X) : W C F A (exec (.Return (some e) pos) F.env) σ ρ Q X :=
  fun s i => nReturn (h.use i (fun _ s' σ' ρ' i' q => ⟨σ', ρ', i', q⟩) fun ea cls s' σ' ρ' y q => ⟨ea, cls, σ', ρ', rfl, y, q⟩)
theorem W_Return0 {pos : Pos} {Q : Flow → Hp → Loc → Prop} (h : Q (.ret .none) σ ρ) : W C F A (exec (.Return none pos) F.env) σ ρ Q X :=
  fun s i => wpAny.n (wpAny_Return_none ⟨σ, ρ, i, h⟩)
theorem W_Pass {pos : Pos} {Q : Flow → Hp → Loc → Prop} (h : Q .next σ ρ) : W C F A (exec (.Pass pos) F.env) σ ρ Q X := fun s i => wpAny.n (wpAny_Pass ⟨σ, ρ, i, h⟩)
theorem W_Break {pos : Pos} {Q : Flow → Hp → Loc → Prop} (h : Q .brk σ ρ) : W C F A (exec (.Break pos) F.env) σ ρ Q X := fun s i => wpAny.n (wpAny_Break ⟨σ, ρ, i, h⟩)
theorem W_Continue {pos : Pos} {Q : Flow → Hp → Loc → Prop} (h : Q .cont σ ρ) : W C F A (exec (.Continue pos) F.env) σ ρ Q X := fun s i => wpAny.n (wpAny_Continue ⟨σ, ρ, i, h⟩)
end
end Mine
end
/- part FbBytes -/
section
open PySem PySem.W PySem.Spec PySem.Calls PyProof.Rows
set_option Elab.async false
set_option maxRecDepth 100000
set_option linter.all false
namespace Mine
abbrev baObj (b : Array UInt8) : Obj := { cls := .type "bytearray", data := .bytearray b 0 }
theorem slot_ba_len : Slot "bytearray" "__len__" "bytearray.__len__" :=
  .of (owner := "bytearray") (n := "__len__") (by rw [typeLookup_type, builtinLookup_eq_fast]; kernel_rfl) (by decide +kernel) (by decide +kernel) (by decide +kernel)
    (by first | exact .inl (by decide +kernel) | exact .inr (by decide +kernel)) (by rw [isSubtype_type]; kernel_rfl)
theorem entry_ba_len : entryFor table "bytearray.__len__" = some Builtin.«bytearray.__len__» := entryFor_of_tree (by kernel_rfl)
theorem args_ba_len (a : Value) : argsOk "bytearray.__len__" ⟨[a], []⟩ := by unfold argsOk; kernel_rfl

section
variable {prog : Program} {w : World} {A : Around} {E : Value → Shared → Prop} {s : Shared} {a : Addr} {b : Array UInt8}
theorem len_ba {Q : Value → Shared → Prop} (ho : s.heap.get? a = some (baObj b)) (hfit : b.size ≤ 1099511627776)
    (h : ∀ tk tk', Q (.int b.size tk) { s with toks := tk' }) : wpAny (model prog w) A (call (.builtin "len") [.ref a]) Q E s := by
  have hT : s.TypeIs (.ref a) "bytearray" := ⟨_, ho, rfl⟩
  refine call_function_entry kind_len plain_len entry_len (args_len1 _) ?_
  unfold Builtin.«len»
  refine wpAny_bind (m := oneArg "len" _) (wpAny_pure ?_)
  refine wpAny_bind (m := callSpecial? (.ref a) (Str.ofString "__len__")) (wpAny_callSpecial?_slot (name := Str.ofString "__len__") hT slot_ba_len
    (wpAny_call_entry slot_ba_len hT entry_ba_len ?_ (args_ba_len _)))
  unfold Builtin.«bytearray.__len__»
  repeat lk
  refine ⟨_, rfl, ?_⟩
  repeat lk
  rw [if_neg (by omega)]
  exact wpAny_bind (wpAny_mkInt (wpAny_pure ⟨_, rfl, h _ _⟩))
end

namespace B
theorem mro_ba : mroOf (.type "bytearray") = pure [.type "bytearray", .type "object"] := by rw [mroOf_type]; kernel_rfl
theorem lookup_ba_new : typeLookup (.type "bytearray") "__new__" = pure (some (.builtin "bytearray.__new__")) := by rw [typeLookup_type, builtinLookup_eq_fast]; kernel_rfl
theorem slot_ba_init : Slot "bytearray" "__init__" "bytearray.__init__" :=
  .of (owner := "bytearray") (n := "__init__") (by rw [typeLookup_type, builtinLookup_eq_fast]; kernel_rfl) (by decide +kernel) (by decide +kernel) (by decide +kernel)
    (by first | exact .inl (by decide +kernel) | exact .inr (by decide +kernel)) (by rw [isSubtype_type]; kernel_rfl)
theorem called_ba : TypeCalled "bytearray" "bytearray.__new__" "bytearray.__init__" :=
  ⟨by decide +kernel, by decide +kernel, ⟨_, _, mro_ba⟩, madeBy_type mro_ba lookup_ba_new (by decide +kernel), by decide +kernel, by rw [isSubtype_type]; kernel_rfl, slot_ba_init⟩
theorem typeCall_ba (a : Value) : checkTypeCall "bytearray" ⟨[a], []⟩ = pure () := by kernel_rfl
theorem newCall_ba (a : Value) : checkBuiltinCall "bytearray.__new__" ⟨[.type "bytearray", a], []⟩ = pure () := by kernel_rfl
theorem entry_ba_new : entryFor table "bytearray.__new__" = some Builtin.«list.__new__» := entryFor_alias (id' := "list.__new__") (by decide +kernel) (by decide +kernel) (by decide +kernel) (by kernel_rfl)
theorem plain_ba_new : plainId "bytearray.__new__" = true := by decide +kernel
theorem entry_ba_init : entryFor table "bytearray.__init__" = some Builtin.«bytearray.__init__» := entryFor_of_tree (by kernel_rfl)
theorem args_ba_init (a b : Value) : argsOk "bytearray.__init__" ⟨[a, b], []⟩ := by unfold argsOk; kernel_rfl
set_option maxRecDepth 1000000 in
set_option maxHeartbeats 4000000 in
theorem owner_ba_new : ("bytearray.__new__".splitOn ".__new__").headD "" = "bytearray" := by simp +decide [String.splitOn, String.splitOnAux]
theorem sub_ba : isSubtype (.type "bytearray") (.type "bytearray") = pure true := by rw [isSubtype_type]; kernel_rfl
theorem bindOpt_ba (v : Value) : Builtin.Bytes.bindOptional "bytearray.__init__" "bytearray" ["source", "encoding", "errors"] [v] [] = pure [some v, none, none] := by kernel_rfl
end B
section
variable {prog : Program} {w : World} {A : Around} {E : Value → Shared → Prop} {s : Shared}
theorem lookup_ba_rel : typeLookup (.type "bytearray") "__release_buffer__" = pure (some (.builtin "bytearray.__release_buffer__")) := by rw [typeLookup_type, builtinLookup_eq_fast]; kernel_rfl
theorem lookup_ba_buf : typeLookup (.type "bytearray") "__buffer__" = pure (some (.builtin "bytearray.__buffer__")) := by rw [typeLookup_type, builtinLookup_eq_fast]; kernel_rfl
open Builtin.Bytes in
theorem slotIsOwn_rel {a : Addr} {Q : Bool → Shared → Prop} (hT : s.TypeIs (.ref a) "bytearray") (h : Q true s) : wpAny (model prog w) A (slotIsOwn (.ref a) "__release_buffer__") Q E s := by
  unfold slotIsOwn
  refine wpAny_bind (wpAny_specialOf hT lookup_ba_rel ?_)
  show wpAny _ _ (if (!"bytearray.__release_buffer__".endsWith ("." ++ "__release_buffer__")) = true then _ else _) _ _ _
  rw [if_neg (by decide +kernel)]
  refine wpAny_isInstance hT ?_ h
  rw [show ("bytearray.__release_buffer__".dropRight ("__release_buffer__".length + 1)) = "bytearray" from by decide +kernel]
  exact B.sub_ba
open Builtin.Bytes in
theorem slotIsOwn_buf {a : Addr} {Q : Bool → Shared → Prop} (hT : s.TypeIs (.ref a) "bytearray") (h : Q true s) : wpAny (model prog w) A (slotIsOwn (.ref a) "__buffer__") Q E s := by
  unfold slotIsOwn
  refine wpAny_bind (wpAny_specialOf hT lookup_ba_buf ?_)
  show wpAny _ _ (if (!"bytearray.__buffer__".endsWith ("." ++ "__buffer__")) = true then _ else _) _ _ _
  rw [if_neg (by decide +kernel)]
  refine wpAny_isInstance hT ?_ h
  rw [show ("bytearray.__buffer__".dropRight ("__buffer__".length + 1)) = "bytearray" from by decide +kernel]
  exact B.sub_ba
open Builtin.Bytes in
theorem ownRelease_ba {a : Addr} {Q : Bool → Shared → Prop} (hT : s.TypeIs (.ref a) "bytearray") (h : Q false s) : wpAny (model prog w) A (ownRelease (.ref a)) Q E s :=
  wpAny_bind (slotIsOwn_rel hT (wpAny_pure h))
theorem code_ba_new (a : Value) {Q₁ : Value → Shared → Prop}
    (h : Q₁ (.ref s.heap.objs.size) { s with heap := s.heap.push (baObj #[]) }) :
    codeAny (model prog w) A (.call (.builtin "bytearray.__new__") ⟨[.type "bytearray", a], []⟩) (wants Q₁ E) s := by
  refine codeAny_of_tree ?_
  show wpAny _ A.in1 (do checkBuiltinCall "bytearray.__new__" ⟨[.type "bytearray", a], []⟩; again (.builtin "bytearray.__new__" ⟨[.type "bytearray", a], []⟩)) _ _ s
  refine wpAny_bind (wpAny_of_eq (B.newCall_ba a) (wpAny_pure ⟨plainId_quiet B.plain_ba_new _, codeAny_builtin_stack B.entry_ba_new rfl fun p st => ?_⟩))
  rw [Around.under_plainId B.plain_ba_new _]
  have hsub := B.sub_ba
  have hown := B.owner_ba_new
  obtain ⟨hp, g, d, tk, os⟩ := s
  simp only [hown]
  wp_walk
  exact h
theorem codeN_builtin {id : String} {args : Args} {b : Builtin} {R : Result → Shared → Prop} (hn : notDec (.builtin id args) = true) (hb : entryFor table id = some b)
    (h : wpN (model prog w) (A.under (.builtin id args)) (b args)
      (fun fin s' => match fin with | .done f => R (.ok f) s' | .again c' => c'.quiet = true ∧ codeN (model prog w) A c' R s') (fun e s' => R (.error e) s') s) :
    codeN (model prog w) A (.builtin id args) R s := by
  refine codeN_of_tree hn ?_
  show wpN _ _ (match entryFor table id with | some b => b args | none => unsupported ((withoutEnding? id "#data").getD id)) _ _ s
  rw [hb]; exact h
theorem codeN_call_builtin {id : String} {args : Args} {b : Builtin} {R : Result → Shared → Prop} (hn : notDec (.builtin id args) = true) (hq : plainId id = true) (hb : entryFor table id = some b)
    (h : wpAny (model prog w) A.in1 (checkBuiltinCall id args) (fun _ s₁ => wpN (model prog w) A.in1 (b args)
      (fun fin s' => match fin with | .done f => R (.ok f) s' | .again c' => c'.quiet = true ∧ codeN (model prog w) A c' R s') (fun e s' => R (.error e) s') s₁)
      (fun e s' => R (.error e) s') s) : codeN (model prog w) A (.call (.builtin id) args) R s := by
  refine codeN_of_tree rfl ?_
  show wpN _ A.in1 (do checkBuiltinCall id args; again (.builtin id args)) _ _ s
  refine wpN_bind (wpAny.n (wpAny_mono h (fun _ s₁ h₁ => wpN_pure ⟨plainId_quiet hq args, codeN_builtin hn hb (by rw [Around.under_plainId hq args]; exact h₁)⟩) fun _ _ x => x))
theorem nBind_any {α β : Type} {M : Model} {m : Sem α} {f : α → Sem β} {Q : β → Shared → Prop} (h : wpAny M A m (fun a s' => wpN M A (f a) Q E s') E s) : wpN M A (m >>= f) Q E s := wpN_bind (wpAny.n h)
theorem nCallSpecial {self : Value} {T : String} {name : Str} {id : String} {args : List Value} {kw : List (Str × Value)}
    {Q : Option Value → Shared → Prop} (hT : s.TypeIs self T) (h : Slot T name id)
    (hc : wpN (model prog w) A (call (.builtin id) (self :: args) kw) (fun v => Q (some v)) E s) : wpN (model prog w) A (callSpecial? self name args kw) Q E s := by
  simp only [callSpecial?]
  refine nBind_any (wpAny_specialOf hT h.lookup ?_)
  simp only [h.bind]
  exact wpN_holding (wpN_bind (wpN_pure (wpN_bind (wpN_mono hc (fun v s' h' => wpN_pure h') fun _ _ h' => h'))))
open Builtin.Bytes in
theorem nExported {v : Value} {Q : Bool → Shared → Prop} {M : Model} (hg : A.guards = some []) (h : Q false s) : wpN M A (exported v) Q E s := by
  unfold exported
  refine wpN_bind (wpN_stack fun st hst hn => wpN_pure ?_)
  refine Eq.mpr (congrArg (fun b => Q b s) (?_ : List.any st _ = false)) h
  have hg' := hst [] hg
  rw [List.any_eq_false]
  intro x hx
  have hgx : x.1.isGuard = false := by
    cases q : x.1.isGuard with
    | false => rfl
    | true => have : x.1 ∈ guardsOf st := List.mem_filter.mpr ⟨List.mem_map_of_mem hx, q⟩; rw [hg'] at this; cases this
  have hdx : notDec x.1 = true := List.all_eq_true.mp hn x hx
  obtain ⟨c, p⟩ := x
  dsimp only at hgx hdx ⊢
  split
  · rename_i q; injection q with q1 q2; subst q1; exact absurd hgx (by simp only [Code.isGuard]; decide)
  · rename_i q; injection q with q1 q2; subst q1; exact absurd hgx (by simp only [Code.isGuard]; decide)
  · rename_i q; injection q with q1 q2; subst q1; exact absurd hgx (by simp only [Code.isGuard]; decide)
  · rename_i q; injection q with q1 q2; subst q1; exact absurd hgx (by simp only [Code.isGuard]; decide)
  · rename_i q; injection q with q1 q2; subst q1; exact absurd hgx (by simp only [Code.isGuard]; decide)
  · rename_i q
    injection q with q1 q2
    subst q1
    unfold notDec at hdx
    rw [Bool.not_eq_true'] at hdx
    rw [hdx, Bool.and_false]; exact Bool.false_ne_true
  · exact Bool.false_ne_true
theorem orM_false {M : Model} {m n : Sem Bool} {Q : Bool → Shared → Prop} (h : wpN M A m (fun b s' => b = false ∧ wpN M A n Q E s') E s) : wpN M A (m <||> n) Q E s := by
  show wpN M A (m >>= fun b => match toBool b with | true => pure b | false => n) Q E s
  refine wpN_bind (wpN_mono h (fun b s' h' => ?_) fun _ _ x => x)
  obtain ⟨rfl, h'⟩ := h'
  exact h'
theorem typeCallN {T newId initId : String} {Bi : Builtin} {args : List Value} {Q Q₁ : Value → Shared → Prop} (ft : TypeCalled T newId initId)
    (hct : checkTypeCall T ⟨args, []⟩ = pure ()) (entryI : entryFor table initId = some Bi) (hdec : ∀ a, notDec (.builtin initId a) = true)
    (hnew : codeAny (model prog w) A.in1 (.call (.builtin newId) ⟨.type T :: args, []⟩) (wants Q₁ E) s)
    (hnext : ∀ obj s₁, Q₁ obj s₁ → s₁.TypeIs obj T ∧ argsOk initId ⟨obj :: args, []⟩ ∧
      wpN (model prog w) A.in1.in1 (Bi ⟨obj :: args, []⟩)
        (fun fin s' => match fin with | .done f => wants (fun r s₂ => r = .none ∧ Q obj s₂) E (.ok f) s' | .again c' => c'.quiet = true ∧ codeN (model prog w) A.in1 c' (wants (fun r s₂ => r = .none ∧ Q obj s₂) E) s')
        (fun e s' => wants (fun r s₂ => r = .none ∧ Q obj s₂) E (.error e) s') s₁) :
    wpN (model prog w) A (call (.type T) args) Q E s := by
  obtain ⟨c, tl, hmro⟩ := ft.mro
  have hmade := ft.made
  have hsub := ft.sub
  refine wpN_call (codeN_of_tree rfl ?_)
  show wpN _ _ (callAny (.type T) _) _ _ _
  refine wpN_pure ⟨Code.quiet_builtin _ (by decide +kernel), codeN_builtin rfl F.entry_type_call ?_⟩
  rw [Around.under_plain (weight_type_call_type T args []) rfl]
  have h1 := ft.notType
  have h2 := ft.canCreate
  unfold Builtin.«type.__call__»
  simp only [h1, h2, hct, hmro, hmade, Bool.false_eq_true, if_false, pure_bind, List.isEmpty_cons]
  refine wpN_bind (wpN_holding (wpN_mono (wpAny.n (wpAny_call (codeAny_mono hnew fun r s' hr => by cases r with | error e => exact hr | ok f => cases f <;> first | exact hr | exact hr.elim))) (fun obj s₁ h₁ => ?_) fun _ _ x => x))
  obtain ⟨hT, hok, hsi⟩ := hnext _ _ h₁
  refine nBind_any (wpAny_isInstance hT hsub ?_)
  simp only [Bool.not_true, Bool.false_eq_true, if_false]
  refine wpN_bind (wpN_holding (nCallSpecial hT ft.init (wpN_call ?_)))
  refine codeN_mono (codeN_call_builtin (hdec _) ft.init.plain entryI (ft.init.check _ _ _ _ _ _ _ _ hT hok hsi)) fun r₂ s₂ hr₂ => ?_
  cases r₂ with
  | error e => exact hr₂
  | ok fl₂ =>
    cases fl₂ with
    | ret r => obtain ⟨rfl, hq⟩ := hr₂; exact wpN_pure hq
    | _ => exact hr₂.elim
theorem write_ba {M : Model} {a : Addr} {b : Array UInt8} {f : Array UInt8 → Array UInt8} {Q : Unit → Shared → Prop} (ho : s.heap.get? a = some (baObj b)) (hz : (f b).size ≤ sizeLine)
    (h : ∀ h', Heap.SameBut a s.heap h' → h'.get? a = some (baObj (f b)) → Q () { s with heap := h' }) : wpAny M A (Builtin.Bytes.write (.ref a) f) Q E s := by
  show wpAny _ _ (updateBytearray a f) _ _ _
  unfold updateBytearray
  refine wpAny_bind (wpAny_load ho ?_)
  show wpAny _ _ (update a (Obj.mapBytearray f) >>= fun _ => lookBehind a) _ _ _
  refine wpAny_bind (wpAny_update ho ?_)
  have h2 : (s.heap.update a (Obj.mapBytearray f)).get? a = some (baObj (f b)) := Heap.get?_update_self (Obj.mapBytearray f) ho rfl
  refine wpAny_lookBehind h2 ?_ (h _ (Heap.SameBut.update ..) h2)
  show (if (f b).size > sizeLine then some "bytearray:memory" else none) = none
  rw [if_neg (Nat.not_lt.mpr hz)]
theorem ba_new {n : Int} {t : Tok} {Q : Value → Shared → Prop} (h0 : 0 ≤ n) (hn : n ≤ sizeLine) (hg : A.guards = some [])
    (hQ : ∀ a h' tk, s.heap.objs.size ≤ a → s.heap.StaysIn h' → h'.get? a = some (baObj (Array.replicate n.toNat 0)) → Q (.ref a) { s with heap := h', toks := tk }) :
    wpN (model prog w) A (call (.type "bytearray") [.int n t]) Q E s := by
  refine typeCallN (Q₁ := fun obj s₁ => obj = .ref s.heap.objs.size ∧ s₁ = { s with heap := s.heap.push (baObj #[]) }) B.called_ba (B.typeCall_ba _) B.entry_ba_init (fun _ => rfl)
    (code_ba_new _ ⟨rfl, rfl⟩) fun obj s₁ h₁ => ?_
  obtain ⟨rfl, rfl⟩ := h₁
  have ho : (s.heap.push (baObj #[])).get? s.heap.objs.size = some (baObj #[]) := Heap.get?_push_size _ rfl
  refine ⟨⟨_, ho, rfl⟩, B.args_ba_init _ _, ?_⟩
  have hT : ({ s with heap := s.heap.push (baObj #[]) } : Shared).TypeIs (.ref s.heap.objs.size) "bytearray" := ⟨_, ho, rfl⟩
  unfold Builtin.«bytearray.__init__»
  refine wpN_bind (wpAny.n (ownRelease_ba hT ?_))
  simp only [B.bindOpt_ba, Builtin.Bytes.checkCodecArg, Bool.false_eq_true, if_false, pure_bind]
  refine wpN_bind (orM_false (nExported hg ⟨rfl, wpAny.n ?_⟩))
  unfold Builtin.Bytes.exportsOf
  refine wpAny_bind (wpAny_bind (wpAny_load ho (wpAny_pure (wpAny_pure ?_))))
  refine wpAny.n ?_
  refine wpAny_bind (write_ba ho (Nat.zero_le _) fun h₁ hs₁ ho₁ => ?_)
  refine wpAny_bind (wpAny_of_eq (a := none) rfl ?_)
  simp only [Option.isSome_none, Bool.false_eq_true, if_false]
  refine wpAny_bind (wpAny_pure ?_)
  refine wpAny_bind (wpAny_specialOf (typeIs_int _ n t) F.slot_int_index.lookup ?_)
  simp only [Option.isSome_some, if_true]
  refine wpAny_bind (wpAny_attempt (wpAny_of_eq (a := n) rfl ?_))
  dsimp only
  have hz : (sizeLine : Int) = 16777216 := rfl
  rw [if_neg (by simp only [Builtin.Bytes.fitsIndex, Bool.not_eq_true', Bool.and_eq_false_iff, decide_eq_false_iff_not]; omega)]
  rw [if_neg (by omega)]
  rw [if_neg (by simp only [beq_iff_eq]; omega)]
  rw [if_neg (by simp only [Builtin.Bytes.tooLong, decide_eq_true_eq]; omega)]
  refine wpAny_bind (wpAny_rule ?_)
  have st : ∀ {h' : Heap}, Heap.SameBut s.heap.objs.size (s.heap.push (baObj #[])) h' → s.heap.StaysIn h' := fun hs b o e => hs.extBut b o (Nat.ne_of_lt (Heap.lt_size e)) (Heap.get?_push_of_some _ e)
  split
  · refine wpAny_bind (write_ba ho₁ (by simp; omega) fun h₂ hs₂ ho₂ => ?_)
    exact wpAny_pure ⟨rfl, hQ _ _ _ (Nat.le_refl _) (st (hs₁.trans hs₂)) ho₂⟩
  · have : n = 0 := by omega
    subst this
    exact wpAny_pure ⟨rfl, hQ _ _ _ (Nat.le_refl _) (st hs₁) ho₁⟩
end
end Mine
end
/- part FbExpr -/
section
open PySem PySem.W PySem.Spec PySem.Calls PyProof.Rows
set_option Elab.async false
set_option maxRecDepth 100000
set_option linter.all false
namespace Mine

theorem ofString_eq (a b : String) : (Str.ofString a = Str.ofString b) = (a = b) := by
  apply propext
  refine ⟨fun h => ?_, fun h => h ▸ rfl⟩
  rw [Str.ofString_eq_toList, Str.ofString_eq_toList] at h
  injection h with h
  have h : a.toList.map Char.toNat = b.toList.map Char.toNat := by have := congrArg Array.toList h; simpa using this
  have : a.toList = b.toList := (List.map_inj_right (fun x y q => Char.ext (UInt32.toNat_inj.mp q))).mp h
  exact String.toList_inj.mp this

/-- the text's standing names, as tables -/
structure St where
  G : Str → Option Value
  slot : Addr → Str → Option Nat
  sat : Addr → Str → Option Value
def GlobOk (C : Cx) (x : Str) (v : Value) : Prop := ∃ v', er v' = v ∧ (nsIn C.K mainGlobals x = some (some v') ∨ (nsIn C.K mainGlobals x = some none ∧ bootBuiltins x = some v' ∧ x ≠ "__name__"))
def SlotOk (K : Frag) (Cl : Addr) (x : Str) (i : Nat) : Prop := ∃ p, plainGet K Cl x = true ∧ isClsIn K Cl = true ∧ findIn K (.ref Cl) x = some (some (.ref p)) ∧
  specialIn K (.ref p) "__get__" = some (some (.builtin "member_descriptor.__get__")) ∧ takesIn K (.ref p) = some true ∧ slotIn K p Cl = some i
def SatOk (K : Frag) (a : Addr) (x : Str) (v : Value) : Prop := ∃ mc v', er v' = v ∧ typeIn K (.ref a) = some mc ∧ readsIn K a mc = true ∧ findCls K (.ref a) mc x = some (.val v') ∧ handedIn v' = true
structure St.Ok (C : Cx) (S : St) : Prop where
  g : ∀ x v, S.G x = some v → GlobOk C x v
  slot : ∀ a x i, S.slot a x = some i → SlotOk C.K a x i
  sat : ∀ a x v, S.sat a x = some v → SatOk C.K a x v

def pbin : Operator → Value → Value → Option Value
  | .Add, .int a _, .int b _ => some (.int (a + b) 0)
  | .Sub, .int a _, .int b _ => some (.int (a - b) 0)
  | .Mult, .int a _, .int b _ => if a.natAbs < 2 ^ 62 ∨ b.natAbs < 2 ^ 62 then some (.int (a * b) 0) else none
  | .FloorDiv, .int a _, .int b _ => if b ≠ 0 ∧ b.natAbs < 2 ^ 62 then some (.int (a.fdiv b) 0) else none
  | .Mod, .int a _, .int b _ => if b ≠ 0 then some (.int (a.fmod b) 0) else none
  | .BitAnd, .int a _, .int b _ => some (.int (Builtin.bitAnd a b) 0)
  | .Pow, .int a _, .int n _ => if 0 ≤ n ∧ n ≤ 1000 ∧ a.natAbs < 2 ^ 62 then some (.int (a ^ n.toNat) 0) else none
  | _, _, _ => none
def puna : UnaryOp → Value → Option Value
  | .Invert, .int a _ => some (.int (Builtin.bitNot a) 0)
  | .USub, .int a _ => some (.int (-a) 0)
  | .Not, .bool b => some (.bool (!b))
  | .Not, .int a _ => some (.bool (!(a != 0)))
  | _, _ => none
def pcmp : CmpOp → Value → Value → Option Value
  | .Eq, .int a _, .int b _ => some (.bool (a == b))
  | .NotEq, .int a _, .int b _ => some (.bool (a != b))
  | .Lt, .int a _, .int b _ => some (.bool (decide (a < b)))
  | .LtE, .int a _, .int b _ => some (.bool (decide (a ≤ b)))
  | .Gt, .int a _, .int b _ => some (.bool (decide (b < a)))
  | .GtE, .int a _, .int b _ => some (.bool (decide (b ≤ a)))
  | .Is, v, .none => some (.bool (v == .none))
  | .IsNot, v, .none => some (.bool (!(v == .none)))
  | .Eq, .bytes a _, .bytes b _ => some (.bool (a.toList == b.toList))
  | .NotEq, .bytes a _, .bytes b _ => some (.bool (a.toList != b.toList))
  | .Eq, .bool a, .bool b => some (.bool (a == b))
  | _, _, _ => none
def ptru : Value → Option Bool
  | .bool b => some b
  | .int a _ => some (a != 0)
  | .none => some false
  | _ => none
def plen (σ : Hp) : Value → Option Value
  | .ref a => match σ a with
    | some (.list xs) => some (.int xs.length 0)
    | some (.tup xs) => some (.int xs.length 0)
    | some (.ba b) => some (.int b.length 0)
    | _ => none
  | .bytes b _ => if b.size ≤ 1099511627776 then some (.int b.size 0) else none
  | _ => none
def pcon : Const → Option Value
  | .int i => some (.int i 0)
  | .bool b => some (.bool b)
  | .none => some .none
  | .str x => some (.str x 0)
  | .bytes x => some (.bytes x.toArray 0)
  | _ => none

def pattr (S : St) (σ : Hp) (a : Value) (x : Str) : Option Value := match a with
  | .ref a => match σ a with
    | some (.inst Cl dx sl) => (S.slot Cl x).bind fun i => (sl[i]?).join.bind fun v => if handedIn v = true then some v else none
    | some _ => none
    | none => S.sat a x
  | _ => none
def pitem (σ : Hp) (a k : Value) : Option Value := match a, k with
  | .ref a, .int k _ => match σ a with
    | some (.list xs) => if 0 ≤ k ∧ k < 2 ^ 62 then xs[k.toNat]? else none
    | some (.tup xs) => if 0 ≤ k ∧ k < 2 ^ 62 then xs[k.toNat]? else none
    | _ => none
  | _, _ => none
def plainBase : Expr → Bool
  | .Name .. => true
  | .Attribute .. => true
  | _ => false
def isName : Expr → Bool
  | .Name .. => true
  | _ => false
def noSlice : Expr → Bool
  | .Slice .. => false
  | _ => true
def pe (S : St) (sc : Scope) (σ : Hp) (ρ : Loc) : Expr → Option Value
  | .Name x _ => if (x == ("__debug__" : Str)) = true then none else match sc.names.lookup x with
    | some .local => ρ x
    | some .cell => ρ x
    | some .globalImplicit => S.G x
    | _ => none
  | .Constant c _ _ => pcon c
  | .BinOp l o r _ => (pe S sc σ ρ l).bind fun a => (pe S sc σ ρ r).bind fun b => pbin o a b
  | .UnaryOp o x _ => (pe S sc σ ρ x).bind fun a => puna o a
  | .Compare l os rs _ => match os, rs with
    | [o], [r] => if behindInMarks o r = false then (pe S sc σ ρ l).bind fun a => (pe S sc σ ρ r).bind fun b => pcmp o a b else none
    | _, _ => none
  | .Attribute e x _ => if plainBase e = true then (pe S sc σ ρ e).bind fun a => pattr S σ a x else none
  | .Call f xs ks _ => match xs, ks with
    | [x], [] => if isName f = true then (pe S sc σ ρ f).bind fun g => if g = .builtin "len" then (pe S sc σ ρ x).bind fun a => plen σ a else none else none
    | _, _ => none
  | .Subscript v i _ => if noSlice i = true then (pe S sc σ ρ v).bind fun a => (pe S sc σ ρ i).bind fun k => pitem σ a k else none
  | _ => none
def pt (S : St) (sc : Scope) (σ : Hp) (ρ : Loc) : Expr → Option Bool
  | .Compare l os rs p => match os, rs with
    | [o], [r] => (pe S sc σ ρ (.Compare l [o] [r] p)).bind ptru
    | [o₁, o₂], [m, r] => if lastMarks [o₁, o₂] [m, r] = false then (pe S sc σ ρ l).bind fun a => (pe S sc σ ρ m).bind fun b => (pe S sc σ ρ r).bind fun c =>
      ((pcmp o₁ a b).bind ptru).bind fun t₁ => ((pcmp o₂ b c).bind ptru).bind fun t₂ => some (t₁ && t₂) else none
    | _, _ => none
  | .UnaryOp o x p => match o with
    | .Not => (pt S sc σ ρ x).map fun b => !b
    | _ => none
  | .BoolOp o vs _ => match vs with
    | [x, y] => (pt S sc σ ρ x).bind fun a => (pt S sc σ ρ y).bind fun b => some (match o with | .And => a && b | .Or => a || b)
    | _ => none
  | .Name x p => (pe S sc σ ρ (.Name x p)).bind ptru
  | .Attribute e x p => (pe S sc σ ρ (.Attribute e x p)).bind ptru
  | .Constant c k p => (pe S sc σ ρ (.Constant c k p)).bind ptru
  | .BinOp a o b p => (pe S sc σ ρ (.BinOp a o b p)).bind ptru
  | _ => none

def PE (C : Cx) (F : Fm) (A : Around) (t : Sem Value) (σ : Hp) (ρ : Loc) (v : Value) : Prop :=
  ∀ s, Inv C F σ ρ s → ∀ (Q : Value → Shared → Prop) (E : Value → Shared → Prop), (∀ w tk, er w = v → Q w { s with toks := tk }) → wpAny (model C.prog C.w) A t Q E s
def PB (C : Cx) (F : Fm) (A : Around) (t : Sem Bool) (σ : Hp) (ρ : Loc) (v : Bool) : Prop :=
  ∀ s, Inv C F σ ρ s → ∀ (Q : Bool → Shared → Prop) (E : Value → Shared → Prop), (∀ tk, Q v { s with toks := tk }) → wpAny (model C.prog C.w) A t Q E s

theorem er_int_inv' {v : Value} {i : Int} {t : Tok} (h : er v = .int i t) : ∃ u, v = .int i u := by
  cases v <;> simp_all [er]
theorem er_bytes_inv' {v : Value} {i : Array UInt8} {t : Tok} (h : er v = .bytes i t) : ∃ u, v = .bytes i u := by
  cases v <;> simp_all [er]
theorem er_str_inv' {v : Value} {i : Str} {t : Tok} (h : er v = .str i t) : ∃ u, v = .str i u := by
  cases v <;> simp_all [er]
theorem bits_le_64 {a : Int} (h : a.natAbs < 2 ^ 62) : Builtin.Int.intBits a ≤ 64 := intBits_le_64 (by omega) (by omega)
theorem mul_fits {a b : Int} (h : a.natAbs < 2 ^ 62 ∨ b.natAbs < 2 ^ 62) : IntMulOk a b := by
  unfold IntMulOk
  have h64 : shortFactorBits = 64 := rfl
  rcases h with h | h
  · have := bits_le_64 h
    have : decide (Builtin.Int.intBits a > shortFactorBits) = false := decide_eq_false (by omega)
    simp [this]
  · have := bits_le_64 h
    have : decide (Builtin.Int.intBits b > shortFactorBits) = false := decide_eq_false (by omega)
    simp [this]
theorem log2_small {n : Nat} (h : n < 2 ^ 62) : n.log2 < 62 := by
  by_cases z : n = 0
  · subst z; decide
  · exact (Nat.log2_lt z).mpr h
theorem div_small {a b : Int} (h : b.natAbs < 2 ^ 62) : Builtin.divisionGoesByPylong a b = false := by
  unfold Builtin.divisionGoesByPylong
  have hl := log2_small h
  have : decide ((if (b == 0) = true then 0 else b.natAbs.log2 / 30 + 1) > 300) = false := decide_eq_false (by split <;> omega)
  dsimp only
  rw [this, Bool.false_and]
section
variable {C : Cx} {S : St} {F : Fm} {A : Around} {σ : Hp} {ρ : Loc}
theorem pbin_ok {o : Operator} {a b : Value} {v x y : Value} (h : pbin o x y = some v) (ha : er a = x) (hb : er b = y) : PE C F A (binaryOp o a b) σ ρ v := by
  intro s i Q E q
  unfold pbin at h
  split at h
  · obtain ⟨t, rfl⟩ := er_int_inv' ha; obtain ⟨u, rfl⟩ := er_int_inv' hb; cases h; exact add_int (q _ _ rfl)
  · obtain ⟨t, rfl⟩ := er_int_inv' ha; obtain ⟨u, rfl⟩ := er_int_inv' hb; cases h; exact sub_int (q _ _ rfl)
  · obtain ⟨t, rfl⟩ := er_int_inv' ha; obtain ⟨u, rfl⟩ := er_int_inv' hb
    split at h
    · rename_i k; cases h; exact mul_int (q _ _ rfl) (mul_fits k)
    · cases h
  · obtain ⟨t, rfl⟩ := er_int_inv' ha; obtain ⟨u, rfl⟩ := er_int_inv' hb
    split at h
    · rename_i k; cases h; exact floordiv_int k.1 (q _ _ rfl) (.inl (div_small k.2))
    · cases h
  · obtain ⟨t, rfl⟩ := er_int_inv' ha; obtain ⟨u, rfl⟩ := er_int_inv' hb
    split at h
    · rename_i k; cases h; exact mod_int k (q _ _ rfl)
    · cases h
  · obtain ⟨t, rfl⟩ := er_int_inv' ha; obtain ⟨u, rfl⟩ := er_int_inv' hb; cases h; exact and_int (q _ _ rfl)
  · obtain ⟨t, rfl⟩ := er_int_inv' ha; obtain ⟨u, rfl⟩ := er_int_inv' hb
    split at h
    · rename_i k; cases h
      refine pow_int k.1 ?_ (q _ _ rfl)
      have := bits_le_64 k.2.2
      have h2 : (Builtin.Int.intBits _ : Int) * _ ≤ 64 * 1000 := Int.mul_le_mul (by exact_mod_cast this) k.2.1 k.1 (by decide)
      exact Int.le_trans h2 (by decide)
    · cases h
  · cases h
theorem puna_ok {o : UnaryOp} {a : Value} {v x : Value} (h : puna o x = some v) (ha : er a = x) : PE C F A (unaryOp o a) σ ρ v := by
  intro s i Q E q
  unfold puna at h
  split at h
  · obtain ⟨t, rfl⟩ := er_int_inv' ha; cases h; exact invert_int (q _ _ rfl)
  · obtain ⟨t, rfl⟩ := er_int_inv' ha; cases h; exact neg_int (q _ _ rfl)
  · have := er_bool_inv ha; subst this; cases h; exact not_value (wpAny_truthy_bool (q _ s.toks rfl))
  · obtain ⟨t, rfl⟩ := er_int_inv' ha; cases h; exact not_value (truthy_int (q _ s.toks rfl))
  · cases h
theorem none_beq (v : Value) : (er v == Value.none) = (v == Value.none) := by cases v <;> rfl
theorem pcmp_ok {o : CmpOp} {a b : Value} {v x y : Value} (h : pcmp o x y = some v) (ha : er a = x) (hb : er b = y) : PE C F A (compareOp o a b) σ ρ v := by
  intro s i Q E q
  unfold pcmp at h
  split at h
  · obtain ⟨t, rfl⟩ := er_int_inv' ha; obtain ⟨u, rfl⟩ := er_int_inv' hb; cases h; exact eq_int (q _ s.toks rfl)
  · obtain ⟨t, rfl⟩ := er_int_inv' ha; obtain ⟨u, rfl⟩ := er_int_inv' hb; cases h; exact ne_int (q _ s.toks rfl)
  · obtain ⟨t, rfl⟩ := er_int_inv' ha; obtain ⟨u, rfl⟩ := er_int_inv' hb; cases h; exact lt_int (q _ s.toks rfl)
  · obtain ⟨t, rfl⟩ := er_int_inv' ha; obtain ⟨u, rfl⟩ := er_int_inv' hb; cases h; exact le_int (q _ s.toks rfl)
  · obtain ⟨t, rfl⟩ := er_int_inv' ha; obtain ⟨u, rfl⟩ := er_int_inv' hb; cases h; exact gt_int (q _ s.toks rfl)
  · obtain ⟨t, rfl⟩ := er_int_inv' ha; obtain ⟨u, rfl⟩ := er_int_inv' hb; cases h; exact ge_int (q _ s.toks rfl)
  · have := er_none_inv hb; subst this; cases h; subst ha; rw [none_beq] at q; exact is_none (q _ s.toks rfl)
  · have := er_none_inv hb; subst this; cases h; subst ha; rw [none_beq] at q; exact isNot_none (q _ s.toks rfl)
  · obtain ⟨t, rfl⟩ := er_bytes_inv' ha; obtain ⟨u, rfl⟩ := er_bytes_inv' hb; cases h; exact eq_bytes (q _ s.toks rfl)
  · obtain ⟨t, rfl⟩ := er_bytes_inv' ha; obtain ⟨u, rfl⟩ := er_bytes_inv' hb; cases h; exact ne_bytes (q _ s.toks rfl)
  · have := er_bool_inv ha; subst this; have := er_bool_inv hb; subst this; cases h; exact eq_bool (q _ s.toks rfl)
  · cases h
theorem ptru_ok {a : Value} {b : Bool} {x : Value} (h : ptru x = some b) (ha : er a = x) : PB C F A (truthy a) σ ρ b := by
  intro s i Q E q
  unfold ptru at h
  split at h
  · have := er_bool_inv ha; subst this; cases h; exact wpAny_truthy_bool (q s.toks)
  · obtain ⟨t, rfl⟩ := er_int_inv' ha; cases h; exact truthy_int (q s.toks)
  · have := er_none_inv ha; subst this; cases h; exact fun _ _ _ => q s.toks
  · cases h

theorem inst_of (ok : F.Ok C) {s : Shared} (i : Inv C F σ ρ s) {a Cl dx sl} (e : σ a = some (.inst Cl dx sl)) : ∃ ox, W.InstAt s.heap a ox Cl (some (dictOf [] 0)) ∧ ox.dict = some dx ∧ ox.data = .plain ∧ ox.slots.size ≤ sl.length ∧ ∀ i : Nat, ((ox.slots[i]?).join).map er = (sl[i]?).join := by
  obtain ⟨_, _, h2, ob, h4, h5, h6, h7, h9, h8⟩ := i.own a _ e
  have h3 := (i.own dx _ h2).2.2
  obtain ⟨oc, odd, oda, osl⟩ := ob
  dsimp only at h5 h6 h7; subst h5 h6 h7
  exact ⟨_, ⟨h4, rfl, rfl, h3⟩, rfl, rfl, h9, h8⟩
theorem handed_er (v : Value) : handedIn (er v) = handedIn v := by cases v <;> rfl
theorem attr_slot (ok : F.Ok C) (co : C.Ok) (so : S.Ok C) {a Cl dx : Addr} {sl : List (Option Value)} {x : Str} {j : Nat} {v : Value} {ex : Bool} (e : σ a = some (.inst Cl dx sl)) (h1 : S.slot Cl x = some j) (h2 : (sl[j]?).join = some v) (h3 : handedIn v = true) :
    PE C F A (getAttr (.ref a) x ex) σ ρ v := by
  intro s i Q E q
  obtain ⟨ox, I, _, _, _, hs⟩ := inst_of ok i e
  obtain ⟨p, k1, k2, k3, k4, k5, k6⟩ := so.slot _ _ _ h1
  obtain ⟨m, f, _⟩ := i.loc
  have hj := hs j
  rw [h2] at hj
  obtain ⟨w, hw, he⟩ := Option.map_eq_some_iff.mp hj
  subst he
  exact get_slot f co.kin I k1 k2 k3 k4 k5 k6 hw (by rw [← handed_er]; exact h3) (q _ _ rfl)
theorem attr_sat (co : C.Ok) (so : S.Ok C) {a : Addr} {x : Str} {v : Value} {ex : Bool} (h1 : S.sat a x = some v) : PE C F A (getAttr (.ref a) x ex) σ ρ v := by
  intro s i Q E q
  obtain ⟨mc, v', k1, k2, k3, k4, k5⟩ := so.sat _ _ _ h1
  obtain ⟨m, f, _⟩ := i.loc
  exact cls_val f co.kin k2 k3 k4 k5 (q _ _ k1)
theorem isList_of {s : Shared} (i : Inv C F σ ρ s) {a xs} (e : σ a = some (.list xs)) : ∃ items, s.heap.IsList a items ∧ items.toList.map er = xs := by
  obtain ⟨items, n, h1, h2, _⟩ := (i.own a _ e).2.2
  exact ⟨items, ⟨_, h1, rfl, n, rfl⟩, h2⟩
theorem isTup_of {s : Shared} (i : Inv C F σ ρ s) {a xs} (e : σ a = some (.tup xs)) : ∃ items, IsTup s.heap a items ∧ items.toList.map er = xs := by
  obtain ⟨items, n, h1, h2, _⟩ := (i.own a _ e).2.2
  exact ⟨items, ⟨_, h1, rfl, n, rfl⟩, h2⟩
theorem name_ok (ok : F.Ok C) (co : C.Ok) (so : S.Ok C) {x : Str} {p : Pos} {v : Value} (h : pe S F.sc σ ρ (.Name x p) = some v) : PE C F A (eval (.Name x p) F.env) σ ρ v := by
  intro s i Q E q
  unfold pe at h
  split at h
  · cases h
  rename_i hd
  have hd : (x == ("__debug__" : Str)) = false := by simpa using hd
  split at h
  · rename_i hk
    obtain ⟨m, f, l⟩ := i.loc
    have hm := l x hk
    rw [h] at hm
    obtain ⟨w, hw, he⟩ := Option.map_eq_some_iff.mp hm
    exact wpAny_Name (wpAny_loadName_local (env := F.env) ok.fn hk f.ns hw (q _ s.toks he)) hd
  · rename_i hk
    obtain ⟨c, hc⟩ := ok.cells x hk
    obtain ⟨_, _, o, w, ho, hd', hw⟩ := i.cel x c (by rw [show F.env.kindOf x = some .cell from hk]; intro z; cases z) hc
    rw [h] at hw
    obtain ⟨w', rfl, he⟩ := Option.map_eq_some_iff.mp hw
    exact wpAny_Name (wpAny_loadName_cell (env := F.env) ok.fn hk hc ⟨o, ho, hd'⟩ (q _ s.toks he)) hd
  · rename_i hk
    obtain ⟨v', e, hg⟩ := so.g _ _ h
    obtain ⟨m, f, _⟩ := i.loc
    rcases hg with hg | ⟨hg, hb, hn⟩
    · exact nameX_K f co.kin co.top hg (q _ s.toks e) ok.fn hk hd
    · exact nameX_B f co.kin co.top hg hb hn (q _ s.toks e) ok.fn hk hd
  · cases h
theorem con_ok {c : Const} {k : Nat} {p : Pos} {v : Value} (h : pcon c = some v) : PE C F A (eval (.Constant c k p) F.env) σ ρ v := by
  intro s i Q E q
  unfold pcon at h
  split at h
  · cases h; exact wpAny_Constant_int (q _ _ rfl)
  · cases h; exact wpAny_Constant_bool (q _ s.toks rfl)
  · cases h; exact wpAny_Constant_none (q _ s.toks rfl)
  · cases h; exact wpAny_Constant_str (q _ _ rfl)
  · cases h; exact Constant_bytes (q _ _ rfl)
  · cases h

theorem len_ok {a v x : Value} (h : plen σ x = some v) (ha : er a = x) : PE C F A (call (.builtin "len") [a]) σ ρ v := by
  intro s i Q E q
  unfold plen at h
  split at h
  · have := er_ref_inv ha; subst this
    split at h
    · rename_i e
      obtain ⟨items, hl, hx⟩ := isList_of i e
      obtain ⟨_, _, _, _, hz⟩ := (i.own _ _ e).2.2
      cases h; subst hx
      simp only [List.length_map, Array.length_toList] at *
      exact len_list hl (by have : sizeLine = 16777216 := rfl; omega) (q _ _ rfl)
    · rename_i e
      obtain ⟨items, hl, hx⟩ := isTup_of i e
      obtain ⟨_, _, _, _, hz⟩ := (i.own _ _ e).2.2
      cases h; subst hx
      simp only [List.length_map, Array.length_toList] at *
      exact len_tuple hl (by have : sizeLine = 16777216 := rfl; omega) (q _ _ rfl)
    · rename_i e
      obtain ⟨h1, hz⟩ := (i.own _ _ e).2.2
      cases h
      refine len_ba h1 (by have : sizeLine = 16777216 := rfl; simp only [List.size_toArray]; omega) fun tk tk' => q _ _ ?_
      simp
    · cases h
  · obtain ⟨u, rfl⟩ := er_bytes_inv' ha
    split at h
    · rename_i hz; cases h; exact len_bytes hz (q _ _ rfl)
    · cases h
  · cases h
theorem item_ok (value slice : Expr) {a k : Value} {x y v : Value} (h : pitem σ x y = some v) (ha : er a = x) (hk : er k = y) (hs : ∀ l j u, subscripted slice false (.ref l) (.int j u) = operate [.ref l, .int j u] (getItem (.ref l) (.int j u))) : PE C F A (subscriptTail value slice a k) σ ρ v := by
  intro s i Q E q
  unfold pitem at h
  split at h
  · rename_i l j _
    have := er_ref_inv ha; subst this
    obtain ⟨u, rfl⟩ := er_int_inv' hk
    split at h
    · rename_i e
      obtain ⟨items, hl, hx⟩ := isList_of i e
      split at h
      · rename_i hb
        subst hx
        rw [List.getElem?_map] at h
        obtain ⟨w, hw, he⟩ := Option.map_eq_some_iff.mp h
        exact tail_any hl.typeIs slot_list_getitem.lookup (wpAny_getItem_list hl hb.1 (by omega) (by simpa using hw) (q _ s.toks he)) (hs _ _ _)
      · cases h
    · rename_i e
      obtain ⟨items, hl, hx⟩ := isTup_of i e
      split at h
      · rename_i hb
        subst hx
        rw [List.getElem?_map] at h
        obtain ⟨w, hw, he⟩ := Option.map_eq_some_iff.mp h
        have hlt : j.toNat < items.toList.length := (List.getElem?_eq_some_iff.mp hw).1
        refine item_tupleT (value := value) (by rw [Array.toArray_toList]; exact hl) (by omega) (by omega) (j := j.toNat) ?_ hw (q _ s.toks he) (hs _ _ _)
        have hn : ¬ j < 0 := Int.not_lt.mpr hb.1
        have h1 : 0 ≤ j ∧ j < items.toList.length := ⟨hb.1, by omega⟩
        unfold seqIndex?
        simp only [hn, if_false]
        rw [if_pos (by simpa using h1)]
      · cases h
    · cases h
  · cases h
end

section
variable {C : Cx} {S : St} {F : Fm} {A : Around} {σ : Hp} {ρ : Loc}
theorem PE.bind {t : Sem Value} {f : Value → Sem Value} {x v : Value} (h : PE C F A t σ ρ x) (k : ∀ a, er a = x → PE C F A (f a) σ ρ v) : ∀ s, Inv C F σ ρ s → ∀ (Q : Value → Shared → Prop) (E : Value → Shared → Prop), (∀ w tk, er w = v → Q w { s with toks := tk }) →
    wpAny (model C.prog C.w) A t (fun a s' => wpAny (model C.prog C.w) A (f a) Q E s') E s :=
  fun s i Q E q => h s i _ _ fun a tk ha => k a ha _ (i.toks tk) _ _ fun w tk' hw => q w tk' hw
theorem attr_ok (ok : F.Ok C) (co : C.Ok) (so : S.Ok C) {a x v : Value} {n : Str} {ex : Bool} (h : pattr S σ x n = some v) (ha : er a = x) : PE C F A (getAttr a n ex) σ ρ v := by
  unfold pattr at h
  split at h
  · have := er_ref_inv ha; subst this
    split at h
    · rename_i e
      obtain ⟨j, hj, h⟩ := Option.bind_eq_some_iff.mp h
      obtain ⟨w, hw, h⟩ := Option.bind_eq_some_iff.mp h
      split at h
      · rename_i hh; cases h; exact attr_slot ok co so e hj hw hh
      · cases h
    · cases h
    · exact attr_sat co so h
  · cases h
theorem pe_ok (ok : F.Ok C) (co : C.Ok) (so : S.Ok C) : ∀ (e : Expr) {v : Value}, pe S F.sc σ ρ e = some v → PE C F A (eval e F.env) σ ρ v
  | .Name x p, v, h => name_ok ok co so h
  | .Constant c k p, v, h => con_ok (by unfold pe at h; exact h)
  | .BinOp l o r p, v, h => by
    unfold pe at h
    obtain ⟨a, ha, h⟩ := Option.bind_eq_some_iff.mp h
    obtain ⟨b, hb, h⟩ := Option.bind_eq_some_iff.mp h
    intro s i Q E q
    refine wpAny_BinOp (pe_ok ok co so l ha s i _ _ fun a' tk ea => pe_ok ok co so r hb _ (i.toks tk) _ _ fun b' tk' eb => pbin_ok h ea eb _ (i.toks tk') _ _ q)
  | .UnaryOp o x p, v, h => by
    unfold pe at h
    obtain ⟨a, ha, h⟩ := Option.bind_eq_some_iff.mp h
    intro s i Q E q
    exact wpAny_UnaryOp (pe_ok ok co so x ha s i _ _ fun a' tk ea => puna_ok h ea _ (i.toks tk) _ _ q)
  | .Compare l os rs p, v, h => by
    unfold pe at h
    split at h
    · rename_i o r
      split at h
      · rename_i hm
        obtain ⟨a, ha, h⟩ := Option.bind_eq_some_iff.mp h
        obtain ⟨b, hb, h⟩ := Option.bind_eq_some_iff.mp h
        intro s i Q E q
        exact wpAny_Compare1 (pe_ok ok co so l ha s i _ _ fun a' tk ea => pe_ok ok co so r hb _ (i.toks tk) _ _ fun b' tk' eb => pcmp_ok h ea eb _ (i.toks tk') _ _ q) hm
      · cases h
    · cases h
  | .Attribute e x p, v, h => by
    unfold pe at h
    split at h
    · rename_i hp
      obtain ⟨a, ha, h⟩ := Option.bind_eq_some_iff.mp h
      intro s i Q E q
      refine Attribute_any_ (pe_ok ok co so e ha s i _ _ fun a' tk ea => attr_ok ok co so h ea _ (i.toks tk) _ _ q) ?_
      cases e <;> first | rfl | cases hp
    · cases h
  | .Call f xs ks p, v, h => by
    unfold pe at h
    split at h
    · rename_i x
      split at h
      · rename_i hn
        obtain ⟨g, hg, h⟩ := Option.bind_eq_some_iff.mp h
        split at h
        · rename_i hgl
          subst hgl
          obtain ⟨a, ha, h3⟩ := Option.bind_eq_some_iff.mp h
          intro s i Q E q
          have hf := pe_ok ok co so f hg
          have hx := pe_ok ok co so x ha
          cases f <;> first | cases hn | skip
          refine wpAny_Call_ofName (hf s i _ _ fun g' tk eg => ?_)
          have := er_builtin_inv eg; subst this
          have hst : starEach [x] F.env = (false, eval x F.env) :: starEach [] F.env := by cases x <;> first | rfl | (unfold pe at ha; cases ha)
          refine PyProof.Rows.callWith_builtin1 (rest := []) ?_ hst rfl
          refine spliced_more (rest := []) (hx _ (i.toks tk) _ _ fun a' tk' ea => wpAny_items_nil ?_) hst
          exact len_ok h3 ea _ (i.toks tk') _ _ q
        · cases h
      · cases h
    · cases h
  | .Subscript e k p, v, h => by
    unfold pe at h
    split at h
    · rename_i hn
      obtain ⟨a, ha, h⟩ := Option.bind_eq_some_iff.mp h
      obtain ⟨b, hb, h⟩ := Option.bind_eq_some_iff.mp h
      intro s i Q E q
      refine Subscript_ (pe_ok ok co so e ha s i _ _ fun a' tk ea => pe_ok ok co so k hb _ (i.toks tk) _ _ fun b' tk' eb => item_ok e k h ea eb ?_ _ (i.toks tk') _ _ q)
      intro l j u
      cases k <;> first | rfl | cases hn
    · cases h
  | .BoolOp .., v, h | .NamedExpr .., v, h | .Lambda .., v, h | .IfExp .., v, h | .Dict .., v, h | .Set .., v, h | .ListComp .., v, h | .SetComp .., v, h | .DictComp .., v, h
  | .GeneratorExp .., v, h | .Await .., v, h | .Yield .., v, h | .YieldFrom .., v, h | .FormattedValue .., v, h | .JoinedStr .., v, h | .Starred .., v, h | .List .., v, h | .Tuple .., v, h | .Slice .., v, h => by
    unfold pe at h; cases h

theorem pt_ok (ok : F.Ok C) (co : C.Ok) (so : S.Ok C) : ∀ (e : Expr) {v : Bool}, pt S F.sc σ ρ e = some v → PB C F A (isTrue e F.env (eval e F.env)) σ ρ v
  | .Compare l os rs p, v, h => by
    unfold pt at h
    split at h
    · rename_i o r
      obtain ⟨a, ha, h⟩ := Option.bind_eq_some_iff.mp h
      unfold pe at ha
      dsimp only at ha
      split at ha
      · rename_i hm
        obtain ⟨a1, ha1, ha⟩ := Option.bind_eq_some_iff.mp ha
        obtain ⟨b1, hb1, ha⟩ := Option.bind_eq_some_iff.mp ha
        intro s i Q E q
        exact wpAny_isTrue_Compare1 (pe_ok ok co so l ha1 s i _ _ fun a' tk ea => pe_ok ok co so r hb1 _ (i.toks tk) _ _ fun b' tk' eb => pcmp_ok ha ea eb _ (i.toks tk') _ _ fun c tk2 ec => ptru_ok h ec _ (i.toks tk2) _ _ q) hm
      · cases ha
    · rename_i o₁ o₂ m r
      split at h
      · rename_i hm
        obtain ⟨a, ha, h⟩ := Option.bind_eq_some_iff.mp h
        obtain ⟨b, hb, h⟩ := Option.bind_eq_some_iff.mp h
        obtain ⟨c, hc, h⟩ := Option.bind_eq_some_iff.mp h
        obtain ⟨t₁, h1, h⟩ := Option.bind_eq_some_iff.mp h
        obtain ⟨t₂, h2, h⟩ := Option.bind_eq_some_iff.mp h
        obtain ⟨c1, hc1, h1⟩ := Option.bind_eq_some_iff.mp h1
        obtain ⟨c2, hc2, h2⟩ := Option.bind_eq_some_iff.mp h2
        cases h
        intro s i Q E q
        refine isTrue_chain (rs := []) (ops := []) (pe_ok ok co so l ha s i _ _ fun a' tk ea => ?_) hm
        show wpAny _ _ (do
          let rv ← holding [a'] (eval m F.env)
          standAt p
          let c ← holding [a', rv] (compareOp o₁ a' rv)
          release [a', rv] [c]
          if ← holding [c, rv] (truthy c) then testChain p rv [o₂] [eval r F.env] else pure false) _ _ _
        refine wpAny_bind (wpAny_holding (pe_ok ok co so m hb _ (i.toks tk) _ _ fun b' tk' eb => ?_))
        refine wpAny_bind (wpAny_standAt (wpAny_bind (wpAny_holding (pcmp_ok hc1 ea eb _ (i.toks tk') _ _ fun c' tk2 ec => ?_))))
        refine wpAny_bind (aRelease ?_)
        refine wpAny_bind (wpAny_holding (ptru_ok h1 ec _ (i.toks tk2) _ _ fun tk3 => ?_))
        cases t₁ with
        | false => exact wpAny_pure (q tk3)
        | true =>
          show wpAny _ _ (do
            let rv ← holding [b'] (eval r F.env)
            standAt p
            let c ← operate [b', rv] (compareOp o₂ b' rv)
            holding [c] (truthy c)) _ _ _
          refine wpAny_bind (wpAny_holding (pe_ok ok co so r hc _ (i.toks tk3) _ _ fun d' tk4 ed => ?_))
          refine wpAny_bind (wpAny_standAt (wpAny_bind (aOperate ?_)))
          exact pcmp_ok hc2 eb ed _ (i.toks tk4) _ _ fun c2' tk5 ec2 => wpAny_holding (ptru_ok h2 ec2 _ (i.toks tk5) _ _ q)
      · cases h
    · cases h
  | .UnaryOp o x p, v, h => by
    unfold pt at h
    split at h
    · obtain ⟨b, hb, rfl⟩ := Option.map_eq_some_iff.mp h
      intro s i Q E q
      exact wpAny_isTrue_Not (pt_ok ok co so x hb s i _ _ q)
    · cases h
  | .BoolOp o vs p, v, h => by
    unfold pt at h
    split at h
    · rename_i x y
      obtain ⟨a, ha, h⟩ := Option.bind_eq_some_iff.mp h
      obtain ⟨b, hb, h⟩ := Option.bind_eq_some_iff.mp h
      intro s i Q E q
      have hx := pt_ok ok co so x ha s i
      have hy := fun tk => pt_ok ok co so y hb _ (i.toks tk)
      cases o with
      | And =>
        cases h
        refine wpAny_isTrue_BoolOp (wpAny_allTrue_And_cons (hx _ _ fun tk => ?_))
        cases a with
        | false => exact q tk
        | true => exact wpAny_allTrue_And_cons (hy tk _ _ fun tk' => by cases b with | false => exact q tk' | true => exact wpAny_allTrue_And_nil (q tk'))
      | Or =>
        cases h
        refine wpAny_isTrue_BoolOp (wpAny_allTrue_Or_cons (hx _ _ fun tk => ?_))
        cases a with
        | true => exact q tk
        | false => exact wpAny_allTrue_Or_cons (hy tk _ _ fun tk' => by cases b with | true => exact q tk' | false => exact wpAny_allTrue_Or_nil (q tk'))
    · cases h
  | .Name x p, v, h => by
    unfold pt at h
    obtain ⟨a, ha, h⟩ := Option.bind_eq_some_iff.mp h
    intro s i Q E q
    exact wpAny_isTrue_value (pe_ok ok co so _ ha s i _ _ fun a' tk ea => ptru_ok h ea _ (i.toks tk) _ _ q) rfl
  | .Attribute e x p, v, h => by
    unfold pt at h
    obtain ⟨a, ha, h⟩ := Option.bind_eq_some_iff.mp h
    intro s i Q E q
    exact wpAny_isTrue_value (pe_ok ok co so _ ha s i _ _ fun a' tk ea => ptru_ok h ea _ (i.toks tk) _ _ q) rfl
  | .Constant c k p, v, h => by
    unfold pt at h
    obtain ⟨a, ha, h⟩ := Option.bind_eq_some_iff.mp h
    intro s i Q E q
    exact wpAny_isTrue_value (pe_ok ok co so _ ha s i _ _ fun a' tk ea => ptru_ok h ea _ (i.toks tk) _ _ q) rfl
  | .BinOp a o b p, v, h => by
    unfold pt at h
    obtain ⟨a, ha, h⟩ := Option.bind_eq_some_iff.mp h
    intro s i Q E q
    exact wpAny_isTrue_value (pe_ok ok co so _ ha s i _ _ fun a' tk ea => ptru_ok h ea _ (i.toks tk) _ _ q) rfl
  | .Call .., v, h | .Subscript .., v, h | .NamedExpr .., v, h | .Lambda .., v, h | .IfExp .., v, h | .Dict .., v, h | .Set .., v, h | .ListComp .., v, h | .SetComp .., v, h | .DictComp .., v, h
  | .GeneratorExp .., v, h | .Await .., v, h | .Yield .., v, h | .YieldFrom .., v, h | .FormattedValue .., v, h | .JoinedStr .., v, h | .Starred .., v, h | .List .., v, h | .Tuple .., v, h | .Slice .., v, h => by
    unfold pt at h; cases h
end
end Mine
end
/- part FbStmt -/
section
open PySem PySem.W PySem.Spec PySem.Calls PyProof.Rows
set_option Elab.async false
set_option maxRecDepth 100000
set_option linter.all false
namespace Mine

section
variable {C : Cx} {S : St} {F : Fm} {A : Around} {σ : Hp} {ρ : Loc} {X : Value → Hp → Loc → Prop}
theorem W_pe (ok : F.Ok C) (co : C.Ok) (so : S.Ok C) {e : Expr} {v : Value} {Q : Value → Hp → Loc → Prop} (h : pe S F.sc σ ρ e = some v) (q : Q v σ ρ) : W C F A (eval e F.env) σ ρ Q X :=
  fun s i => wpAny.n (pe_ok ok co so e h s i _ _ fun w tk ew => ⟨σ, ρ, i.toks tk, by show Q (er w) σ ρ; rw [ew]; exact q⟩)
theorem W_If_pt (ok : F.Ok C) (co : C.Ok) (so : S.Ok C) {test : Expr} {body orelse : List Stmt} {pos : Pos} {b : Bool} {Q : Flow → Hp → Loc → Prop} (h : pt S F.sc σ ρ test = some b)
    (h1 : b = true → W C F A (execs body F.env) σ ρ Q X) (h2 : b = false → W C F A (execs orelse F.env) σ ρ Q X) : W C F A (exec (.If test body orelse pos) F.env) σ ρ Q X := by
  refine W_If fun s i => wpAny.n (pt_ok ok co so test h s i _ _ fun tk => ⟨σ, ρ, i.toks tk, ?_⟩)
  cases b with
  | true => exact h1 rfl
  | false => exact h2 rfl
/-- storing a local name -/
theorem W_store (ok : F.Ok C) {x : Str} {v : Value} {Q : Unit → Hp → Loc → Prop} (hk : F.env.kindOf x = some .local) (q : Q () σ (ρ.put x (er v))) : W C F A (storeName F.env x v) σ ρ Q X := by
  intro s i
  obtain ⟨m, f, l⟩ := i.loc
  refine wpAny.n (wpAny_storeName_local (env := F.env) hk f.ns (fun h' hn hs => ⟨σ, ρ.put x (er v), i.setL ok hn hs (fun y hy => ?_) (fun y hy => ?_) _, q⟩) ?_)
  · unfold Loc.put
    by_cases e : y = x
    · simp [e]
    · simp only [e, if_false]; exact l y hy
  · unfold Loc.put
    have : y ≠ x := fun e => hy (by rw [e]; exact hk)
    simp [this]
  · show (F.sc.kind == .class || (F.sc.kind == .module && F.L != mainGlobals)) = false
    rw [ok.fn]; rfl
theorem W_Assign (ok : F.Ok C) {x : Str} {p pos : Pos} {e : Expr} {Q : Flow → Hp → Loc → Prop} (hk : F.env.kindOf x = some .local) (hs : swapsWith e (some (.Name x p)) pos.line F.env = pure false)
    (h : W C F A (eval e F.env) σ ρ (fun v σ' ρ' => Q .next σ' (ρ'.put x v)) X) : W C F A (exec (.Assign [.Name x p] e pos) F.env) σ ρ Q X := by
  intro s i
  refine nAssign (h.use i (fun v s' σ' ρ' i' q => ?_) fun ea cls s' σ' ρ' y q => ⟨ea, cls, σ', ρ', rfl, y, q⟩) hs
  exact (W_store (Q := fun _ σ ρ => Q .next σ ρ) ok hk q).use i' (fun _ s2 σ2 ρ2 i2 q2 => ⟨σ2, ρ2, i2, q2⟩) fun ea cls s' σ' ρ' y q => ⟨ea, cls, σ', ρ', rfl, y, q⟩
theorem W_Expr {e : Expr} {pos : Pos} {Q : Flow → Hp → Loc → Prop} (hi : interactive F.env = false) (hs : swapsWith e none pos.line F.env = pure false)
    (h : W C F A (eval e F.env) σ ρ (fun _ σ' ρ' => Q .next σ' ρ') X) : W C F A (exec (.Expr e pos) F.env) σ ρ Q X := by
  intro s i
  exact nDrop (h.use i (fun v s' σ' ρ' i' q => ⟨σ', ρ', i', q⟩) fun ea cls s' σ' ρ' y q => ⟨ea, cls, σ', ρ', rfl, y, q⟩) hi hs
def pinp : Operator → Value → Value → Option Value
  | .Add, .int a _, .int b _ => some (.int (a + b) 0)
  | .Sub, .int a _, .int b _ => some (.int (a - b) 0)
  | .Mult, .int a _, .int b _ => if a.natAbs < 2 ^ 62 ∨ b.natAbs < 2 ^ 62 then some (.int (a * b) 0) else none
  | .BitAnd, .int a _, .int b _ => some (.int (Builtin.bitAnd a b) 0)
  | _, _, _ => none
theorem pinp_ok {o : Operator} {a b : Value} {v x y : Value} (h : pinp o x y = some v) (ha : er a = x) (hb : er b = y) : PE C F A (inplaceOp o a b) σ ρ v := by
  intro s i Q E q
  unfold pinp at h
  split at h
  · obtain ⟨t, rfl⟩ := er_int_inv' ha; obtain ⟨u, rfl⟩ := er_int_inv' hb; cases h; exact AutoIntOps.iadd_0 (q _ _ rfl)
  · obtain ⟨t, rfl⟩ := er_int_inv' ha; obtain ⟨u, rfl⟩ := er_int_inv' hb; cases h; exact AutoIntOps.isub_0 (q _ _ rfl)
  · obtain ⟨t, rfl⟩ := er_int_inv' ha; obtain ⟨u, rfl⟩ := er_int_inv' hb
    split at h
    · rename_i k; cases h; exact AutoIntOps.imul_0 (q _ _ rfl) (mul_fits k)
    · cases h
  · obtain ⟨t, rfl⟩ := er_int_inv' ha; obtain ⟨u, rfl⟩ := er_int_inv' hb; cases h; exact iand_int (q _ _ rfl)
  · cases h
theorem W_AugAssign_pe (ok : F.Ok C) (co : C.Ok) (so : S.Ok C) {x : Str} {p pos : Pos} {op : Operator} {e : Expr} {a b v : Value} {Q : Flow → Hp → Loc → Prop} (hk : F.env.kindOf x = some .local) (ha : ρ x = some a)
    (hb : pe S F.sc σ ρ e = some b) (hv : pinp op a b = some v) (hve : er v = v) (q : Q .next σ (ρ.put x v)) : W C F A (exec (.AugAssign (.Name x p) op e pos) F.env) σ ρ Q X := by
  intro s i
  obtain ⟨m, f, l⟩ := i.loc
  have hm := l x hk
  rw [ha] at hm
  obtain ⟨w, hw, he⟩ := Option.map_eq_some_iff.mp hm
  refine nAugAssign (wpAny.n (wpAny_loadName_local (env := F.env) ok.fn hk f.ns hw ?_))
  refine wpAny.n (pe_ok ok co so e hb s i _ _ fun b' tk eb => ?_)
  refine wpAny.n (pinp_ok hv he eb _ (i.toks tk) _ _ fun r tk' er' => ?_)
  refine (W_store (Q := fun _ σ ρ => Q .next σ ρ) (v := r) ok hk (by rw [er']; exact q)).use (i.toks tk') (fun _ s2 σ2 ρ2 i2 q2 => ⟨σ2, ρ2, i2, q2⟩) fun ea cls s' σ' ρ' y q => ⟨ea, cls, σ', ρ', rfl, y, q⟩

/- expressions with effects within -/
theorem W_BinOp {l r : Expr} {op : Operator} {pos : Pos} {Q : Value → Hp → Loc → Prop}
    (h : W C F A (eval l F.env) σ ρ (fun a σ₁ ρ₁ => W C F A (eval r F.env) σ₁ ρ₁ (fun b σ₂ ρ₂ => ∃ v, pbin op a b = some v ∧ Q v σ₂ ρ₂) X) X) : W C F A (eval (.BinOp l op r pos) F.env) σ ρ Q X := by
  intro s i
  refine nBinOp (h.use i (fun a s' σ' ρ' i' q => q.use i' (fun b s2 σ2 ρ2 i2 q2 => ?_) fun ea cls s' σ' ρ' y q => ⟨ea, cls, σ', ρ', rfl, y, q⟩) fun ea cls s' σ' ρ' y q => ⟨ea, cls, σ', ρ', rfl, y, q⟩)
  obtain ⟨v, hv, q3⟩ := q2
  exact wpAny.n (pbin_ok hv rfl rfl s2 i2 _ _ fun w tk ew => ⟨σ2, ρ2, i2.toks tk, by show Q (er w) σ2 ρ2; rw [ew]; exact q3⟩)
theorem W_Compare1 {l r : Expr} {op : CmpOp} {pos : Pos} {Q : Value → Hp → Loc → Prop} (hm : behindInMarks op r = false)
    (h : W C F A (eval l F.env) σ ρ (fun a σ₁ ρ₁ => W C F A (eval r F.env) σ₁ ρ₁ (fun b σ₂ ρ₂ => ∃ v, pcmp op a b = some v ∧ Q v σ₂ ρ₂) X) X) : W C F A (eval (.Compare l [op] [r] pos) F.env) σ ρ Q X := by
  intro s i
  refine nCompare1 (h.use i (fun a s' σ' ρ' i' q => q.use i' (fun b s2 σ2 ρ2 i2 q2 => ?_) fun ea cls s' σ' ρ' y q => ⟨ea, cls, σ', ρ', rfl, y, q⟩) fun ea cls s' σ' ρ' y q => ⟨ea, cls, σ', ρ', rfl, y, q⟩) hm
  obtain ⟨v, hv, q3⟩ := q2
  exact wpAny.n (pcmp_ok hv rfl rfl s2 i2 _ _ fun w tk ew => ⟨σ2, ρ2, i2.toks tk, by show Q (er w) σ2 ρ2; rw [ew]; exact q3⟩)
theorem W_TrueCompare1 {l r : Expr} {op : CmpOp} {pos : Pos} {whole : Sem Value} {Q : Bool → Hp → Loc → Prop} (hm : behindInMarks op r = false)
    (h : W C F A (eval l F.env) σ ρ (fun a σ₁ ρ₁ => W C F A (eval r F.env) σ₁ ρ₁ (fun b σ₂ ρ₂ => ∃ v t, pcmp op a b = some v ∧ ptru v = some t ∧ Q t σ₂ ρ₂) X) X) : W C F A (isTrue (.Compare l [op] [r] pos) F.env whole) σ ρ Q X := by
  intro s i
  refine nTrueCompare1 (h.use i (fun a s' σ' ρ' i' q => q.use i' (fun b s2 σ2 ρ2 i2 q2 => ?_) fun ea cls s' σ' ρ' y q => ⟨ea, cls, σ', ρ', rfl, y, q⟩) fun ea cls s' σ' ρ' y q => ⟨ea, cls, σ', ρ', rfl, y, q⟩) hm
  obtain ⟨v, t, hv, ht, q3⟩ := q2
  exact wpAny.n (pcmp_ok hv rfl rfl s2 i2 _ _ fun w tk ew => wpAny.n (ptru_ok ht ew _ (i2.toks tk) _ _ fun tk' => ⟨σ2, ρ2, i2.toks tk', q3⟩))
end
end Mine
end
/- part FbCall -/
section
open PySem PySem.W PySem.Spec PySem.Calls PyProof.Rows
set_option Elab.async false
set_option maxRecDepth 100000
set_option linter.all false
namespace Mine

/-- the addresses of the law's objects -/
noncomputable def addrs (σ : Hp) (h : Heap) : List Addr := (List.range h.objs.size).filter fun a => (σ a).isSome
theorem mem_addrs {C F σ ρ s} (i : Inv C F σ ρ s) {a : Addr} : a ∈ addrs σ s.heap ↔ (σ a).isSome = true := by
  unfold addrs
  rw [List.mem_filter, List.mem_range]
  refine ⟨fun h => h.2, fun h => ⟨?_, h⟩⟩
  obtain ⟨o, e⟩ := Option.isSome_iff_exists.mp h
  exact i.lt e
noncomputable def below (F : Fm) (σ : Hp) (s : Shared) (qual : Str) (sc : Scope) (f : Addr) (cd : Value) (cl : List (Str × Addr) := []) : Fm :=
  { outer := F.env :: F.outer, h₀ := hideAll s.heap (addrs σ s.heap), qual, sc, L := s.heap.objs.size, fa := f, cd, cl }

section
variable {C : Cx} {F : Fm} {σ : Hp} {ρ : Loc} {s : Shared} {qual : Str} {sc : Scope} {f : Addr} {cd : Value} {cl : List (Str × Addr)}
theorem lookup_mem {α β : Type} [BEq α] [LawfulBEq α] {x : α} {k : β} : ∀ {l : List (α × β)}, l.lookup x = some k → (x, k) ∈ l
  | (y, v) :: r, h => by
    rw [List.lookup_cons] at h
    by_cases e : (x == y) = true
    · simp only [e] at h; cases h; rw [eq_of_beq e]; exact .head _
    · simp only [e] at h; exact .tail _ (lookup_mem h)
theorem hid_get (i : Inv C F σ ρ s) {b : Addr} {o : Obj} (e : s.heap.get? b = some o) (h : σ b = none) : (hideAll s.heap (addrs σ s.heap)).get? b = some o :=
  hideAll_get _ e fun m => by rw [mem_addrs i, h] at m; cases m
theorem Inv.base_out (i : Inv C F σ ρ s) (ok : F.Ok C) {b : Addr} {o : Obj} (e : C.base.get? b = some o) : σ b = none := by
  cases q : σ b with
  | none => rfl
  | some x => have := ok.stays _ _ e; rw [(i.own b x q).2.1] at this; cases this
theorem Inv.h₀_out (i : Inv C F σ ρ s) {b : Addr} {o : Obj} (e : F.h₀.get? b = some o) : σ b = none := by
  cases q : σ b with
  | none => rfl
  | some x => rw [(i.own b x q).2.1] at e; cases e
theorem Inv.L_out (i : Inv C F σ ρ s) : σ F.L = none := by
  cases q : σ F.L with
  | none => rfl
  | some x => exact absurd rfl (i.own _ x q).1
theorem Inv.frames (i : Inv C F σ ρ s) (ok : F.Ok C) : s.heap.FunFrames C.base F.outer :=
  ok.frames.of_keeps fun b o e _ => let ⟨sl, q, _⟩ := i.kept b o e; ⟨_, q, rfl⟩
theorem Inv.framesL (i : Inv C F σ ρ s) (ok : F.Ok C) : s.heap.FunFrames C.base (F.env :: F.outer) := by
  obtain ⟨m, f, _⟩ := i.loc
  have hnew : C.base.get? F.L = none := by
    cases hq : C.base.get? F.L with
    | none => rfl
    | some o => exact absurd (Nat.lt_of_lt_of_le (Heap.lt_size hq) ok.above) (Nat.lt_irrefl _)
  exact .cons (by show F.sc.kind ≠ .module; rw [ok.fn]; decide) rfl f.ns hnew (i.frames ok)
theorem below_frames (i : Inv C F σ ρ s) (ok : F.Ok C) : (hideAll s.heap (addrs σ s.heap)).FunFrames C.base (F.env :: F.outer) := by
  refine funFrames_hideAll (i.framesL ok) fun env he a ha hf => ?_
  rw [mem_addrs i] at ha
  rcases List.mem_cons.mp he with rfl | he
  · have : F.L = a := Option.some.inj hf
    rw [← this, i.L_out] at ha; cases ha
  · obtain ⟨L₁, o₁, hf₁, ho₁⟩ := funFrames_in ok.frames env he
    have : L₁ = a := Option.some.inj (hf₁.symm.trans hf)
    rw [← this, i.h₀_out ho₁] at ha; cases ha
theorem below_ok (i : Inv C F σ ρ s) (ok : F.Ok C) (hk : sc.kind = .function) (hc : ∀ x ∈ sc.names, x.2 ≠ .cell) : (below F σ s qual sc f cd).Ok C := by
  obtain ⟨m, fr, _⟩ := i.loc
  refine ⟨fun b o e => hid_get i (fr.keep b o e) (i.base_out ok e), below_frames i ok, hk, ?_, Nat.le_of_lt (Nat.lt_of_le_of_lt ok.above fr.ns.lt), fun x y c h => (by cases h), fun x h => ?_, fun x c h => (by cases h)⟩
  · show (hideAll s.heap _).get? s.heap.objs.size = none
    cases q : (hideAll s.heap (addrs σ s.heap)).get? s.heap.objs.size with
    | none => rfl
    | some o => exact absurd (Heap.lt_size (of_hideAll _ q)) (Nat.lt_irrefl _)
  · exact absurd rfl (hc (x, .cell) (lookup_mem h))
theorem below_inv (i : Inv C F σ ρ s) (ok : F.Ok C) {h₁ : Heap} {m : Str → Option Value} {ρ' : Loc} (hns : h₁.Ns s.heap.objs.size m) (hk : s.heap.StaysIn h₁) (l : Locs (below F σ s qual sc f cd) ρ' m) (t : Nat) :
    Inv C (below F σ s qual sc f cd) σ ρ' { s with heap := h₁, toks := t } := by
  obtain ⟨m₀, fr, _⟩ := i.loc
  refine ⟨⟨m, ⟨hns, fun b o e => hk _ _ (fr.keep b o e), Nat.le_of_lt (Nat.lt_of_le_of_lt ok.above fr.ns.lt)⟩, l⟩, fun b o e => ⟨o.slots, hk _ _ (of_hideAll _ e), fun _ => rfl⟩, fun x c _ hc => (by cases hc), fun a o e => ?_, i.gens, i.os⟩
  refine ⟨Nat.ne_of_lt (i.lt e), ?_, (i.own a o e).2.2.ext hk⟩
  exact hideAll_none _ ((mem_addrs i).mpr (by rw [e]; rfl))
theorem kept_ns {h h' : Heap} {L : Addr} {m : Str → Option Value} (n : h.Ns L m) (k : ∀ o, h.get? L = some o → ∃ sl, h'.get? L = some { o with slots := sl }) : h'.Ns L m := by
  obtain ⟨o, es, ep, ho, hd, r⟩ := n
  obtain ⟨sl, q⟩ := k o ho
  exact ⟨_, es, ep, q, hd, r⟩
/-- what a heap that keeps the callee's base keeps of the caller's standing -/
structure Back (C : Cx) (F : Fm) (σ σ' : Hp) (ρ : Loc) (s : Shared) (h' : Heap) : Prop where
  loc : ∃ m, h'.Ns F.L m ∧ Locs F ρ m
  kept : Kept F h'
  cel : Cels F σ' ρ h'
theorem back_of (i : Inv C F σ ρ s) (ok : F.Ok C) {σ' : Hp} {h' : Heap} (k : Kept (below F σ s qual sc f cd cl) h') (own : ∀ a o, σ' a = some o → (hideAll s.heap (addrs σ s.heap)).get? a = none) : Back C F σ σ' ρ s h' := by
  obtain ⟨m, fr, l⟩ := i.loc
  have kk : ∀ b o, s.heap.get? b = some o → σ b = none → ∃ sl, h'.get? b = some { o with slots := sl } ∧ (b ∉ (F.L :: F.frs) → sl = o.slots) := fun b o e h => k b o (hid_get i e h)
  have out : ∀ b o, s.heap.get? b = some o → σ b = none → σ' b = none := fun b o e h => by
    cases q : σ' b with
    | none => rfl
    | some x => have := own b x q; rw [hid_get i e h] at this; cases this
  refine ⟨⟨m, kept_ns fr.ns fun o e => let ⟨sl, q, _⟩ := kk _ o e i.L_out; ⟨sl, q⟩, l⟩, fun b o e => ?_, fun x c hk hc => ?_⟩
  · obtain ⟨sl₁, q₁, z₁⟩ := i.kept b o e
    obtain ⟨sl₂, q₂, z₂⟩ := kk b _ q₁ (i.h₀_out e)
    refine ⟨sl₂, q₂, fun hb => ?_⟩
    have hL : b ≠ F.L := fun z => by rw [z, ok.new] at e; cases e
    rw [z₂ (fun hm => by rcases List.mem_cons.mp hm with hm | hm; exact hL hm; exact hb hm), z₁ hb]
  · obtain ⟨a1, a2, oc, v, a3, a4, a5⟩ := i.cel x c hk hc
    obtain ⟨sl, q, _⟩ := kk c oc a3 a2
    exact ⟨a1, out c oc a3 a2, _, v, q, a4, a5⟩
/-- back from a call -/
theorem inv_back (i : Inv C F σ ρ s) (ok : F.Ok C) {σ' : Hp} {ρ' : Loc} {s' : Shared} (i' : Inv C (below F σ s qual sc f cd cl) σ' ρ' s') : Inv C F σ' ρ s' := by
  obtain ⟨m', fr', _⟩ := i'.loc
  obtain ⟨⟨m, n, l⟩, kp, ce⟩ := back_of i ok i'.kept fun a o e => (i'.own a o e).2.1
  refine ⟨⟨m, ⟨n, fr'.keep, ok.above⟩, l⟩, kp, ce, fun a o e => ?_, i'.gens, i'.os⟩
  obtain ⟨b1, b2, b3⟩ := i'.own a o e
  refine ⟨fun z => ?_, ?_, b3⟩
  · subst z
    obtain ⟨m₀, fr₀, _⟩ := i.loc
    obtain ⟨oL, _, _, ho, _⟩ := fr₀.ns
    have : (hideAll s.heap (addrs σ s.heap)).get? F.L = none := b2
    rw [hid_get i ho i.L_out] at this; cases this
  · cases q : F.h₀.get? a with
    | none => rfl
    | some o₁ =>
      obtain ⟨sl₁, q₁, _⟩ := i.kept a o₁ q
      have : (hideAll s.heap (addrs σ s.heap)).get? a = none := b2
      rw [hid_get i q₁ (i.h₀_out q)] at this; cases this

theorem out_own (i : Inv C F σ ρ s) {a : Addr} (b2 : (hideAll s.heap (addrs σ s.heap)).get? a = none) : a ≠ F.L ∧ F.h₀.get? a = none := by
  refine ⟨fun z => ?_, ?_⟩
  · subst z
    obtain ⟨m₀, fr₀, _⟩ := i.loc
    obtain ⟨oL, _, _, ho, _⟩ := fr₀.ns
    rw [hid_get i ho i.L_out] at b2; cases b2
  · cases q : F.h₀.get? a with
    | none => rfl
    | some o₁ =>
      obtain ⟨sl₁, q₁, _⟩ := i.kept a o₁ q
      rw [hid_get i q₁ (i.h₀_out q)] at b2; cases b2
theorem fly_out (i : Inv C F σ ρ s) (ok : F.Ok C) {σ' : Hp} {s' : Shared} {B h' : Heap} {a0 cls : Value} {e : Addr} (st : C.base.StaysIn B) (fl : Heap.FlyingW B (F.env :: F.outer) e cls a0 h')
    (own : Own (below F σ s qual sc f cd cl) σ' B) (keep : ∀ b o, (below F σ s qual sc f cd cl).h₀.get? b = some o → b ∉ (below F σ s qual sc f cd cl).frs → B.get? b = some o) (kept : Kept (below F σ s qual sc f cd cl) s'.heap)
    (up : s'.heap.UpToSlots h') (g : s'.gens = #[]) (os : s'.os = C.os) : Exc C F σ' ρ e cls { s' with heap := h' } := by
  have bk : Back C F σ σ' ρ s s'.heap := back_of i ok kept fun a o q => (own a o q).2.1
  have bB : ∀ {b o}, s.heap.get? b = some o → σ b = none → b ≠ F.L → b ∉ F.frs → B.get? b = some o := fun q h h1 h2 => keep _ _ (hid_get i q h) fun hm => by
    rcases List.mem_cons.mp hm with hm | hm
    · exact h1 hm
    · exact h2 hm
  refine .fly B a0 st fl (fun a o q => ?_) (fun x c hk hc => ?_) (fun b o q hb => ?_) (fun b o q => ?_) ?_ g os
  · obtain ⟨_, b2, b3⟩ := own a o q
    exact ⟨(out_own i b2).1, (out_own i b2).2, b3⟩
  · obtain ⟨a1, a2, oc, v, a3, a4, a5⟩ := i.cel x c hk hc
    obtain ⟨_, a2', _⟩ := bk.cel x c hk hc
    exact ⟨a1, a2', oc, v, bB a3 a2 a1 (ok.celfr x c hc), a4, a5⟩
  · obtain ⟨sl, q₁, z⟩ := i.kept b o q
    have := z hb
    subst this
    exact bB q₁ (i.h₀_out q) (fun z => by rw [z, ok.new] at q; cases q) hb
  · obtain ⟨sl, q₁, z⟩ := bk.kept b o q
    by_cases hb : b ∈ F.frs
    · obtain ⟨_, o', ho', hd'⟩ := ok.frames.mem hb
      rw [q] at ho'; cases ho'
      obtain ⟨sl', q₂⟩ := up b _ q₁ hd'
      exact ⟨sl', q₂, fun h => absurd hb h⟩
    · obtain ⟨sl₀, q₀, z₀⟩ := i.kept b o q
      have := z₀ hb
      subst this
      exact ⟨o.slots, fl.1 _ _ (bB q₀ (i.h₀_out q) (fun z => by rw [z, ok.new] at q; cases q) hb), fun _ => rfl⟩
  · obtain ⟨m, n, l⟩ := bk.loc
    exact ⟨m, up.ns n, l⟩
theorem in_frames {F : Fm} {b : Addr} (h : b ∈ (F.env :: F.outer).filterMap (·.frame)) : b = F.L ∨ b ∈ F.frs := by
  rw [List.filterMap_cons] at h
  exact (List.mem_cons.mp h).imp (fun e => e) fun e => e
/-- a fresh exception, seen as flying over a base -/
theorem fresh_base {F : Fm} {s₀ s' : Shared} {e : Addr} {cls : Value} (i : Inv C F σ ρ s₀) (ok : F.Ok C) (x : FreshX s₀.heap s'.heap e cls) :
    let B := hideAll s₀.heap ((F.env :: F.outer).filterMap (·.frame))
    C.base.StaysIn B ∧ s'.heap.FunFrames B (F.env :: F.outer) ∧ B.StaysIn s'.heap ∧ B.get? e = none ∧ Own F σ B ∧ Cels F σ ρ B ∧ (∀ b o, F.h₀.get? b = some o → b ∉ F.frs → B.get? b = some o) ∧ Kept F s'.heap ∧ ∃ m, s'.heap.Ns F.L m ∧ Locs F ρ m := by
  intro B
  obtain ⟨m, fr, l⟩ := i.loc
  have fk := i.framesL ok
  have nB : ∀ {b o}, s₀.heap.get? b = some o → b ≠ F.L → b ∉ F.frs → B.get? b = some o := fun q h1 h2 => hideAll_get _ q fun hm => (in_frames hm).elim h1 h2
  have hin : ∀ env ∈ (F.env :: F.outer), ∀ b, env.frame = some b → b ∈ (F.env :: F.outer).filterMap (·.frame) := fun env he b hb => List.mem_filterMap.mpr ⟨env, he, hb⟩
  refine ⟨fun b o q => hideAll_get _ (fr.keep b o q) fun hm => ?_, ?_, fun b o q => x.keeps _ _ (of_hideAll _ q), ?_, fun a o q => ?_, fun y c hk hc => ?_, fun b o q hb => ?_, fun b o q => ?_, ?_⟩
  · rw [(fk.mem hm).1] at q; cases q
  · exact (funFrames_hide (fk.of_keeps fun b o ho _ => ⟨o, ho, rfl⟩) hin).of_keeps (fun b o ho _ => ⟨o, x.keeps _ _ ho, rfl⟩) 
  · cases q : B.get? e with
    | none => rfl
    | some o => have := of_hideAll _ q; rw [x.new] at this; cases this
  · obtain ⟨a1, a2, a3⟩ := i.own a o q
    refine ⟨a1, a2, a3.at ?_⟩
    obtain ⟨ob, ho⟩ := a3.there
    rw [ho]
    refine nB ho a1 fun hm => ?_
    obtain ⟨_, o', ho', _⟩ := ok.frames.mem hm
    rw [a2] at ho'; cases ho'
  · obtain ⟨a1, a2, oc, v, a3, a4⟩ := i.cel y c hk hc
    exact ⟨a1, a2, oc, v, nB a3 a1 (ok.celfr y c hc), a4⟩
  · obtain ⟨sl, q₁, z⟩ := i.kept b o q
    have := z hb
    subst this
    exact nB q₁ (fun z => by rw [z, ok.new] at q; cases q) hb
  · obtain ⟨sl, q₁, z⟩ := i.kept b o q
    exact ⟨sl, x.keeps _ _ q₁, z⟩
  · exact ⟨m, fr.ns.keeps x.keeps, l⟩
/-- an exception leaves the callee's frame -/
theorem leave_exc (i : Inv C F σ ρ s) (ok : F.Ok C) (ok' : (below F σ s qual sc f cd cl).Ok C) {A : Around} {M : Model} {σ' : Hp} {ρ' : Loc} {s' : Shared} {e : Addr} {cls : Value} {Q : Unit → Shared → Prop} {E : Value → Shared → Prop}
    (hA : A.frames = some ((below F σ s qual sc f cd cl).env :: F.env :: F.outer)) (x : Exc C (below F σ s qual sc f cd cl) σ' ρ' e cls s') (q : ∀ s'', Exc C F σ' ρ e cls s'' → Q () s'') :
    wpAny M A (leaving (below F σ s qual sc f cd cl).env (.ref e)) Q E s' := by
  cases x with
  | fresh s₀ i₀ x g o =>
    obtain ⟨f1, f2, f3, f4, f5, f6, f7, f8, f9⟩ := fresh_base i₀ ok' x
    obtain ⟨ob, vs, a0, h1, h2, h3, h4, h5⟩ := x.there
    refine wpAny_leaving_firstW (a0 := a0) hA f2 rfl h1 f3 f4 h3 h4 h5 fun h' hL => ?_
    obtain ⟨k1, ⟨_, _, k2⟩, k3, k4⟩ := hL
    rw [h2] at k3
    exact q _ (fly_out i ok f1 ⟨k1, f4, k2, k3⟩ f5 f7 f8 k4 g o)
  | fly B a0 st f own cel keep kept loc g o =>
    refine wpAny_leaves_onW hA rfl f fun h' f' up => q _ (fly_out i ok st f' own keep kept up g o)
  | held B a0 st f own cel keep kept loc g o =>
    unfold leaving
    refine wpAny_bind (wpAny_noteFrame_againW rfl f.2.2.2 ?_)
    refine wpAny_landsW f fun h' hfl up => ?_
    obtain ⟨k1, k2, ⟨_, _, k3⟩, k4⟩ := hfl
    exact q _ (fly_out i ok st ⟨k1, k2, k3, k4⟩ own keep kept up g o)
end

def flv : Flow → Value
  | .ret v => v
  | _ => .none
theorem lookup_er (x : Str) : ∀ l : List (Str × Value), (l.lookup x).map er = (l.map fun p => (p.1, er p.2)).lookup x
  | [] => rfl
  | (y, v) :: r => by
    rw [List.map_cons, List.lookup_cons, List.lookup_cons]
    cases x == y with
    | true => rfl
    | false => exact lookup_er x r
theorem Inv.kin {C : Cx} {F : Fm} {σ : Hp} {ρ : Loc} {s : Shared} (i : Inv C F σ ρ s) (co : C.Ok) : C.K.In s.heap := by
  obtain ⟨m, fr, _⟩ := i.loc
  exact co.kin.keeps fr.keep
section
variable {C : Cx} {F : Fm} {A : Around} {σ : Hp} {ρ : Loc} {X : Value → Hp → Loc → Prop} {Q : Value → Hp → Loc → Prop}
  {name qual : Str} {params : Arguments} {body : List Stmt} {scope : Scope} {dV kV doc pm cdv ct oc : Value} {an od : Option Addr} {osl : Array (Option Value)} {f : Addr} {d : Nat}
theorem code_fn (co : C.Ok) (ok : F.Ok C) (ar : Ar F A (d + 1)) {vs : List Value} {kw : List (Str × Value)} {binds : List (Str × Value)}
    (ho : C.K.lookup f = some ⟨oc, od, .func (fnOf name qual params body scope dV kV doc pm an cdv ct), osl⟩) (hcd : codeIn C.K cdv qual = true)
    (hbind : ∃ bs : List (Str × Value), (∀ s : Shared, C.K.In s.heap → BindsTo s (fnOf name qual params body scope dV kV doc pm an cdv ct) ⟨vs, kw⟩ bs) ∧ bs.map (fun p => (p.1, er p.2)) = binds)
    (hloc : ∀ x ∈ binds, scope.names.lookup x.1 = some .local) (hcell : ∀ x ∈ scope.names, x.2 ≠ .cell) (hco : scope.isCoroutine = false) (hgen : scope.isGenerator = false) (hk : scope.kind = .function)
    (h : ∀ F' A', F'.Ok C → Ar F' A' d → F'.sc = scope → W C F' A' (execs body F'.env) σ (fun x => binds.reverse.lookup x) (fun fl σ' _ => Q (flv fl) σ' ρ) (fun c σ' _ => X c σ' ρ)) (s : Shared) (i : Inv C F σ ρ s)
    (R : Result → Shared → Prop) (r1 : ∀ v s' σ', Inv C F σ' ρ s' → Q (er v) σ' ρ → R (.ok (.ret v)) s') (r2 : ∀ ea cls s' σ', Exc C F σ' ρ ea cls s' → X cls σ' ρ → R (.error (.ref ea)) s') :
    codeN (model C.prog C.w) A (.call (.ref f) ⟨vs, kw⟩) R s := by
  obtain ⟨bs, hb, hbs⟩ := hbind
  have X₀ := i.kin co
  obtain ⟨m₀, fr, _⟩ := i.loc
  refine codeN_call_def (binds := bs) (by have := ar.depth; omega) (X₀ _ _ ho) rfl (co.top.nolimit.keeps fr.keep) (codeRec_of X₀ hcd) rfl (hb s X₀) hcell (fun x hx => ?_) (fun h₁ hns hk₁ => ?_) hco hgen hk
  · exact hloc (x.1, er x.2) (by rw [← hbs]; exact List.mem_map.mpr ⟨x, hx, rfl⟩)
  · have ok' : (below F σ s qual scope f cdv).Ok C := below_ok i ok hk hcell
    have i' : Inv C (below F σ s qual scope f cdv) σ (fun x => binds.reverse.lookup x) { s with heap := h₁, toks := s.toks + bs.length } :=
      below_inv i ok hns hk₁ (fun x _ => by rw [lookup_er, List.map_reverse, hbs]) _
    have ar' : Ar (below F σ s qual scope f cdv) (A.deeper (below F σ s qual scope f cdv).env) d :=
      ⟨by show Option.map _ A.frames = _; rw [ar.frames]; rfl, ar.guards, by have := ar.depth; show A.depth + 1 + d < _; omega, by have := ar.units; show A.units + 3 + 10 * d < _; omega, ar.handled⟩
    refine (h _ _ ok' ar' rfl).use i' (fun fl s' σ' ρ' i2 q => ?_) fun ea cls s' σ' ρ' y q => ?_
    · have i3 := inv_back i ok i2
      cases fl <;> exact r1 _ _ _ i3 q
    · exact wpAny.n (leave_exc i ok ok' (by show Option.map _ A.frames = _; rw [ar.frames]; rfl) y fun s'' y' => r2 _ _ _ _ y' q)
theorem call_fn (co : C.Ok) (ok : F.Ok C) (ar : Ar F A (d + 1)) {vs : List Value} {kw : List (Str × Value)} {binds : List (Str × Value)}
    (ho : C.K.lookup f = some ⟨oc, od, .func (fnOf name qual params body scope dV kV doc pm an cdv ct), osl⟩) (hcd : codeIn C.K cdv qual = true)
    (hbind : ∃ bs : List (Str × Value), (∀ s : Shared, C.K.In s.heap → BindsTo s (fnOf name qual params body scope dV kV doc pm an cdv ct) ⟨vs, kw⟩ bs) ∧ bs.map (fun p => (p.1, er p.2)) = binds)
    (hloc : ∀ x ∈ binds, scope.names.lookup x.1 = some .local) (hcell : ∀ x ∈ scope.names, x.2 ≠ .cell) (hco : scope.isCoroutine = false) (hgen : scope.isGenerator = false) (hk : scope.kind = .function)
    (h : ∀ F' A', F'.Ok C → Ar F' A' d → F'.sc = scope → W C F' A' (execs body F'.env) σ (fun x => binds.reverse.lookup x) (fun fl σ' _ => Q (flv fl) σ' ρ) (fun c σ' _ => X c σ' ρ)) :
    W C F A (call (.ref f) vs kw) σ ρ Q X := by
  intro s i
  exact wpN_call (code_fn (Q := Q) (X := X) co ok ar ho hcd hbind hloc hcell hco hgen hk h s i _ (fun v s' σ' i' q => ⟨σ', ρ, i', q⟩) fun ea cls s' σ' y q => ⟨ea, cls, σ', ρ, rfl, y, q⟩)
end
end Mine
end
/- part FbAttr -/
section
open PySem PySem.W PySem.Spec PySem.Calls PyProof.Rows
set_option Elab.async false
set_option maxRecDepth 100000
set_option linter.all false
namespace Mine

section
open Builtin Builtin.ObjectAttr Builtin.Getset_descriptor
variable {prog : Program} {w : World} {A : Around} {s : Shared} {K : Frag} {p x C : Addr} {R : Result → Shared → Prop}
def putSlot (i : Nat) (v : Value) (o : Obj) : Obj := { o with slots := (o.slots ++ Array.replicate (i + 1 - o.slots.size) none).setIfInBounds i (some v) }
theorem slot_put {ox : Obj} {od : Option Obj} {v : Value} {i : Nat} (X : K.In s.heap) (I : W.InstAt s.heap x ox C od) (hp : slotIn K p C = some i) (hi : i < 1000)
    (h : R (.ok (.ret .none)) { s with heap := s.heap.update x (putSlot i v) }) :
    codeAny (model prog w) A (.call (.builtin "member_descriptor.__set__") ⟨[.ref p, .ref x, v], []⟩) R s := by
  obtain ⟨n, tn, owner, behind, tb, d, sl, cd, ho, hc, hm, hb, rfl⟩ := slot_of X hp
  obtain ⟨hh, g, dr, t, os⟩ := s
  have L0 := I.type (M := model prog w)
  have L1 := looks_mroIn (M := model prog w) X hm
  have L2 : Looks (model prog w) hh (Slots.slotNamesOf (.ref C)) cd.slotNames := (looks_clsIn X hc).andThen .now
  have hx := I.at_
  dsimp only at ho hx L0 L1
  have f0 := looks_field (M := model prog w) ho 0 (v := .str n tn) rfl
  have f1 := looks_field (M := model prog w) ho 1 (v := owner) rfl
  have f3 := looks_field (M := model prog w) ho 3 (v := .builtin "proto.slot#set") rfl
  have f4 := looks_field (M := model prog w) ho 4 (v := .int behind tb) rfl
  refine codeAny_call_builtin KF.slot_mset.plain KF.entry_mset (KF.slot_mset.check _ _ _ _ _ _ _ _ ⟨_, ho, rfl⟩ (KF.args_mset _ _ _) ?_)
  unfold Builtin.«member_descriptor.__set__» descrSet descrStoreThrough descrCheckInstance descrNameAndClass isInstance
  have f5 : Looks (model prog w) hh (descrItself (.ref p)) [.ref p] := ((Looks.ld (part := none) ho).andThen .now).andThen (Looks.of_pure (by kernel_rfl))
  repeat lk
  refine ⟨Code.quiet_builtin _ (by decide +kernel), codeAny_builtin KF.entry_slotset ?_⟩
  unfold Builtin.«proto.slot#set» Slots.target
  repeat lk
  rw [if_neg hb]
  refine wpAny_pure (wpAny_bind ?_)
  unfold setSlotAt
  dsimp only
  rw [if_neg (by rw [sizeLine_eq]; omega)]
  exact wpAny_updatePart hx (wpAny_pure h)
end
def SetOk (K : Frag) (Cl : Addr) (x : Str) (i : Nat) : Prop := ∃ p, findIn K (.ref Cl) "__setattr__" = some (some (.builtin "object.__setattr__")) ∧ plainOver K Cl = true ∧ takerIn K Cl x = some (some (.ref p)) ∧
  typeIn K (.ref p) = some (.type "member_descriptor") ∧ slotIn K p Cl = some i ∧ i < 1000
theorem putSlot_get (i : Nat) (v : Value) (o : Obj) (j : Nat) : ((putSlot i v o).slots[j]?).join = if j = i then some v else (o.slots[j]?).join := by
  unfold putSlot
  dsimp only
  rw [Array.getElem?_setIfInBounds]
  have hz : (o.slots ++ Array.replicate (i + 1 - o.slots.size) none).size = max o.slots.size (i + 1) := by simp; omega
  by_cases h : i = j
  · subst h
    rw [if_pos rfl, if_pos (by rw [hz]; omega), if_pos rfl]; rfl
  · rw [if_neg h, if_neg (Ne.symm h), Array.getElem?_append]
    split
    · rfl
    · rename_i hlt
      rw [Array.getElem?_eq_none (by omega : o.slots.size ≤ j), Array.getElem?_replicate]
      split <;> rfl
theorem set_get (sl : List (Option Value)) (i : Nat) (v : Value) (h : i < sl.length) (j : Nat) : ((sl.set i (some v))[j]?).join = if j = i then some v else (sl[j]?).join := by
  rw [List.getElem?_set]
  by_cases e : i = j
  · subst e; rw [if_pos rfl, if_pos h, if_pos rfl]; rfl
  · rw [if_neg e, if_neg (Ne.symm e)]
section
variable {C : Cx} {S : St} {F : Fm} {A : Around} {σ : Hp} {ρ : Loc} {X : Value → Hp → Loc → Prop}
theorem W_setAttr (co : C.Ok) (ok : F.Ok C) {b Cl dx : Addr} {sl : List (Option Value)} {x : Str} {i : Nat} {v : Value} {Q : Unit → Hp → Loc → Prop} (e : σ b = some (.inst Cl dx sl)) (h : SetOk C.K Cl x i) (hi : i < sl.length)
    (q : Q () (σ.put b (.inst Cl dx (sl.set i (some (er v))))) ρ) : W C F A (setAttr (.ref b) x v) σ ρ Q X := by
  intro s iv
  obtain ⟨p, k1, k2, k3, k4, k5, k6⟩ := h
  obtain ⟨ox, I, hdx, hpl, hsz, hs⟩ := inst_of ok iv e
  have X₀ := iv.kin co
  have hdx' := (iv.own b _ e).2.2.1
  refine wpAny.n (set_plain X₀ I k1 (osa_descr (s := { s with toks := s.toks + 1 }) KF.slot_mset X₀ I k2 k3 k4 (slot_put (s := { s with toks := s.toks + 1 }) X₀ I k5 k6 ?_)))
  refine ⟨_, ρ, iv.put ok e (fun z => by cases z) (Heap.SameBut.update s.heap b (putSlot i v)) ?_ _, q⟩
  have hb : b ≠ dx := fun z => by rw [← z, e] at hdx'; cases hdx'
  have hget : (s.heap.update b (putSlot i v)).get? b = some (putSlot i v ox) := Heap.get?_update_self _ I.at_ (by unfold putSlot Obj.isFreed; rw [hpl])
  refine ⟨(Hp.put_ne _ _ (Ne.symm hb)).trans hdx', _, hget, I.cls, hdx, hpl, ?_, fun j => ?_⟩
  · rw [List.length_set]
    unfold putSlot
    simp only [Array.size_setIfInBounds, Array.size_append, Array.size_replicate]
    omega
  · rw [putSlot_get, set_get _ _ _ hi]
    by_cases z : j = i
    · rw [if_pos z, if_pos z]; rfl
    · rw [if_neg z, if_neg z]; exact hs j
/-- obj.x = e -/
theorem W_AssignAttr {o value : Expr} {x : Str} {p pos : Pos} {Q : Flow → Hp → Loc → Prop}
    (he : exec (.Assign [.Attribute o x p] value pos) F.env = (do standAt pos; let v ← eval value F.env; assign (.Attribute o x p) F.env v; pure .next))
    (h : W C F A (eval value F.env) σ ρ (fun v σ₁ ρ₁ => W C F A (eval o F.env) σ₁ ρ₁ (fun ov σ₂ ρ₂ => ∀ ov' v', er ov' = ov → er v' = v → W C F A (setAttr ov' x v') σ₂ ρ₂ (fun _ σ₃ ρ₃ => Q .next σ₃ ρ₃) X) X) X) :
    W C F A (exec (.Assign [.Attribute o x p] value pos) F.env) σ ρ Q X := by
  intro s i
  rw [he]
  refine wpN_bind (wpN_standAt (wpN_bind (h.use i (fun v s1 σ1 ρ1 i1 q1 => ?_) fun ea cls s' σ' ρ' y q => ⟨ea, cls, σ', ρ', rfl, y, q⟩)))
  rw [arm_assign_Attribute]
  refine wpN_bind (wpN_bind (wpN_holding (q1.use i1 (fun ov s2 σ2 ρ2 i2 q2 => ?_) fun ea cls s' σ' ρ' y q => ⟨ea, cls, σ', ρ', rfl, y, q⟩)))
  refine wpN_bind (wpN_standAt (wpN_bind (wpN_holding ((q2 ov v rfl rfl).use i2 (fun _ s3 σ3 ρ3 i3 q3 => nRelease (wpN_pure ⟨σ3, ρ3, i3, q3⟩)) fun ea cls s' σ' ρ' y q => ⟨ea, cls, σ', ρ', rfl, y, q⟩))))

/- argument lists -/
theorem W_args_nil {pos : Pos} {Q : List Value → Hp → Loc → Prop} (q : Q [] σ ρ) : W C F A (spliced (backTo pos (starEach [] F.env))) σ ρ Q X := fun s i => nSpliced_nil ⟨σ, ρ, i, q⟩
theorem W_args_cons {pos : Pos} {e : Expr} {rest : List Expr} {Q : List Value → Hp → Loc → Prop} (he : starEach (e :: rest) F.env = (false, eval e F.env) :: starEach rest F.env)
    (h : W C F A (eval e F.env) σ ρ (fun v σ₁ ρ₁ => W C F A (spliced (backTo pos (starEach rest F.env))) σ₁ ρ₁ (fun vs σ₂ ρ₂ => Q (v :: vs) σ₂ ρ₂) X) X) :
    W C F A (spliced (backTo pos (starEach (e :: rest) F.env))) σ ρ Q X := by
  intro s i
  refine nSpliced_cons (h.use i (fun v s1 σ1 ρ1 i1 q1 => q1.use i1 (fun vs s2 σ2 ρ2 i2 q2 => ⟨σ2, ρ2, i2, q2⟩) fun ea cls s' σ' ρ' y q => ⟨ea, cls, σ', ρ', rfl, y, q⟩) fun ea cls s' σ' ρ' y q => ⟨ea, cls, σ', ρ', rfl, y, q⟩) he
theorem star_pe {S : St} {sc : Scope} {e : Expr} {v : Value} {rest : List Expr} {env : Env} (h : pe S sc σ ρ e = some v) : starEach (e :: rest) env = (false, eval e env) :: starEach rest env := by
  cases e <;> first | rfl | (unfold pe at h; cases h)
theorem plain_pes {S : St} {sc : Scope} {env : Env} {pos : Pos} : ∀ {es : List Expr} {vs : List Value}, es.mapM (pe S sc σ ρ) = some vs → ((backTo pos (starEach es env)).any (·.1)) = false
  | [], _, _ => rfl
  | e :: es, vs, h => by
    rw [List.mapM_cons] at h
    obtain ⟨v, hv, h⟩ := Option.bind_eq_some_iff.mp h
    obtain ⟨vs', hvs, _⟩ := Option.bind_eq_some_iff.mp h
    rw [star_pe hv]
    show (false || _) = false
    exact plain_pes hvs
theorem W_args_pe (ok : F.Ok C) (co : C.Ok) (so : S.Ok C) {pos : Pos} : ∀ {es : List Expr} {vs : List Value} {Q : List Value → Hp → Loc → Prop}, es.mapM (pe S F.sc σ ρ) = some vs → Q vs σ ρ → W C F A (spliced (backTo pos (starEach es F.env))) σ ρ Q X
  | [], _, Q, h, q => by cases h; exact W_args_nil q
  | e :: es, vs, Q, h, q => by
    rw [List.mapM_cons] at h
    obtain ⟨v, hv, h⟩ := Option.bind_eq_some_iff.mp h
    obtain ⟨vs', hvs, h⟩ := Option.bind_eq_some_iff.mp h
    cases h
    exact W_args_cons (star_pe hv) (W_pe ok co so hv (W_args_pe ok co so hvs q))
/-- a call of a def or of a class, plain arguments -/
theorem W_callWith (co : C.Ok) {pos : Pos} {f : Value} {first : List Value} {e : Expr} {es : List Expr} {Q : Value → Hp → Loc → Prop} (hk : keepIn C.K f = true) (hplain : ((backTo pos (starEach (e :: es) F.env)).any (·.1)) = false)
    (hh : starEach (e :: es) F.env = (false, eval e F.env) :: starEach es F.env)
    (h : W C F A (spliced (backTo pos (starEach (e :: es) F.env))) σ ρ (fun args σ₁ ρ₁ => ∀ vs, vs.map er = args → W C F A (call f (first ++ vs) []) σ₁ ρ₁ Q X) X) : W C F A (callWith pos f first (backTo pos (starEach (e :: es) F.env)) []) σ ρ Q X := by
  intro s i
  refine nCallWith (P := C.K.In) hplain (keeps_K hk) ?_
  have h' : wpN (model C.prog C.w) A (spliced (backTo pos (starEach (e :: es) F.env))) (fun vs s' => C.K.In s'.heap ∧ wpN (model C.prog C.w) A (call f (first ++ vs) []) (fun a s' => ∃ σ' ρ', Inv C F σ' ρ' s' ∧ Q (Er.e a) σ' ρ') (fun e s' => ∃ ea cls σ' ρ', e = .ref ea ∧ Exc C F σ' ρ' ea cls s' ∧ X cls σ' ρ') s') (fun e s' => ∃ ea cls σ' ρ', e = .ref ea ∧ Exc C F σ' ρ' ea cls s' ∧ X cls σ' ρ') s :=
    h.use i (fun vs s1 σ1 ρ1 i1 q1 => ⟨i1.kin co, q1 vs rfl s1 i1⟩) fun ea cls s' σ' ρ' y q => ⟨ea, cls, σ', ρ', rfl, y, q⟩
  rw [hh] at h' ⊢
  exact nEvalArgs h'
theorem W_callWith0 (co : C.Ok) {pos : Pos} {f : Value} {first : List Value} {Q : Value → Hp → Loc → Prop} (hk : keepIn C.K f = true)
    (h : W C F A (call f (first ++ []) []) σ ρ Q X) : W C F A (callWith pos f first (backTo pos (starEach [] F.env)) []) σ ρ Q X := by
  intro s i
  exact nCallWith (P := C.K.In) rfl (keeps_K hk) (nEvalArgs_nil ⟨i.kin co, h s i⟩)
/-- f(es): f a name, the arguments pure -/
theorem W_CallName (ok : F.Ok C) (co : C.Ok) (so : S.Ok C) {x : Str} {np pos : Pos} {es : List Expr} {f : Addr} {args : List Value} {Q : Value → Hp → Loc → Prop} (hf : pe S F.sc σ ρ (.Name x np) = some (.ref f)) (hk : keepIn C.K (.ref f) = true)
    (ha : es.mapM (pe S F.sc σ ρ) = some args) (h : ∀ vs, vs.map er = args → W C F A (call (.ref f) vs []) σ ρ Q X)
    (he : eval (.Call (.Name x np) es [] pos) F.env = (do let f ← eval (.Name x np) F.env; callWith pos f [] (backTo pos (starEach es F.env)) [])) : W C F A (eval (.Call (.Name x np) es [] pos) F.env) σ ρ Q X := by
  intro s i
  rw [he]
  refine wpN_bind (wpAny.n (pe_ok ok co so _ hf s i _ _ fun g tk eg => ?_))
  have := er_ref_inv eg; subst this
  cases es with
  | nil => cases ha; exact W_callWith0 co hk (h [] rfl) _ (i.toks tk)
  | cons e es =>
    have hs : starEach (e :: es) F.env = (false, eval e F.env) :: starEach es F.env := by
      rw [List.mapM_cons] at ha
      obtain ⟨v, hv, _⟩ := Option.bind_eq_some_iff.mp ha
      exact star_pe hv
    exact W_callWith co hk (plain_pes ha) hs (W_args_pe ok co so ha fun vs hvs => h vs hvs) _ (i.toks tk)
def MethOk (K : Frag) (Cl : Addr) (x : Str) (f : Addr) : Prop := plainGet K Cl x = true ∧ findIn K (.ref Cl) x = some (some (.ref f)) ∧ isFn K (.ref f) = true
theorem meth_get (ok : F.Ok C) (co : C.Ok) {b Cl dx f : Addr} {sl : List (Option Value)} {x : Str} {pl : Sem Bool} {s : Shared} (e : σ b = some (.inst Cl dx sl)) (h : MethOk C.K Cl x f) (i : Inv C F σ ρ s) {Q : Value × List Value → Shared → Prop} {E : Value → Shared → Prop}
    (q : Q (.ref f, [.ref b]) s) : wpAny (model C.prog C.w) A (getMethod (.ref b) x pl) Q E s := by
  obtain ⟨ox, I, hdx, hpl, hsz, hs⟩ := inst_of ok i e
  obtain ⟨m, fr, _⟩ := i.loc
  exact method_inst fr co.kin I h.1 h.2.1 h.2.2 rfl q
/-- o.x(es): a method of an own object, the arguments pure -/
theorem W_CallMeth (ok : F.Ok C) (co : C.Ok) (so : S.Ok C) {o : Expr} {x : Str} {ap pos : Pos} {es : List Expr} {b Cl dx f : Addr} {sl : List (Option Value)} {args : List Value} {pl : Sem Bool} {Q : Value → Hp → Loc → Prop}
    (ho : pe S F.sc σ ρ o = some (.ref b)) (e : σ b = some (.inst Cl dx sl)) (hm : MethOk C.K Cl x f) (hk : keepIn C.K (.ref f) = true) (ha : es.mapM (pe S F.sc σ ρ) = some args)
    (h : ∀ vs, vs.map er = args → W C F A (call (.ref f) (.ref b :: vs) []) σ ρ Q X)
    (he : eval (.Call (.Attribute o x ap) es [] pos) F.env = (do let ov ← eval o F.env; standAt ap.atName; let fx ← holding [ov] (getMethod ov x pl); callWith pos fx.1 fx.2 (backTo pos (starEach es F.env)) [])) :
    W C F A (eval (.Call (.Attribute o x ap) es [] pos) F.env) σ ρ Q X := by
  intro s i
  rw [he]
  refine wpN_bind (wpAny.n (pe_ok ok co so _ ho s i _ _ fun g tk eg => ?_))
  have := er_ref_inv eg; subst this
  refine wpN_bind (wpN_standAt (wpN_bind (wpN_holding (wpAny.n (meth_get ok co e hm (i.toks tk) ?_)))))
  cases es with
  | nil => cases ha; exact W_callWith0 co hk (h [] rfl) _ (i.toks tk)
  | cons e es =>
    have hs : starEach (e :: es) F.env = (false, eval e F.env) :: starEach es F.env := by
      rw [List.mapM_cons] at ha
      obtain ⟨v, hv, _⟩ := Option.bind_eq_some_iff.mp ha
      exact star_pe hv
    exact W_callWith co hk (plain_pes ha) hs (W_args_pe ok co so ha fun vs hvs => h vs hvs) _ (i.toks tk)
end
end Mine
end
/- part FbStat -/
section
open PySem PySem.W PySem.Spec PySem.Calls PyProof.Rows
set_option Elab.async false
set_option maxRecDepth 100000
set_option linter.all false
namespace Mine
/-- tables by written names -/
def tab {α : Type} : List (String × α) → Str → Option α
  | [], _ => none
  | (n, v) :: r, x => if x = Str.ofString n then some v else tab r x
theorem tab_mem {α : Type} {x : Str} {v : α} : ∀ {l : List (String × α)}, tab l x = some v → ∃ n, x = Str.ofString n ∧ (n, v) ∈ l
  | (n, u) :: r, h => by
    unfold tab at h
    split at h
    · rename_i e; cases h; exact ⟨n, e, .head _⟩
    · obtain ⟨m, e, hm⟩ := tab_mem h; exact ⟨m, e, .tail _ hm⟩
theorem tab_cons {α : Type} (n m : String) (v : α) (r : List (String × α)) : tab ((n, v) :: r) (Str.ofString m) = if m = n then some v else tab r (Str.ofString m) := by
  show (if Str.ofString m = Str.ofString n then some v else tab r (Str.ofString m)) = _
  simp only [ofString_eq]
def gchk (K : Frag) (x : Str) (v : Value) : Bool := match nsIn K mainGlobals x with
  | some (some v') => decide (er v' = v)
  | _ => false
theorem gchk_ok {C : Cx} {x : Str} {v : Value} (h : gchk C.K x v = true) : GlobOk C x v := by
  unfold gchk at h
  split at h
  · rename_i v' e; exact ⟨v', of_decide_eq_true h, .inl e⟩
  · cases h
def slotChk (K : Frag) (Cl : Addr) (x : Str) (i : Nat) : Bool := match findIn K (.ref Cl) x with
  | some (some (.ref p)) => plainGet K Cl x && isClsIn K Cl && (specialIn K (.ref p) "__get__" == some (some (.builtin "member_descriptor.__get__"))) && (takesIn K (.ref p) == some true) && (slotIn K p Cl == some i) &&
    (findIn K (.ref Cl) "__setattr__" == some (some (.builtin "object.__setattr__"))) && plainOver K Cl && (takerIn K Cl x == some (some (.ref p))) && (typeIn K (.ref p) == some (.type "member_descriptor")) && decide (i < 1000)
  | _ => false
theorem slotChk_ok {K : Frag} {Cl : Addr} {x : Str} {i : Nat} (h : slotChk K Cl x i = true) : SlotOk K Cl x i ∧ SetOk K Cl x i := by
  unfold slotChk at h
  split at h
  · rename_i p e
    simp only [Bool.and_eq_true, beq_iff_eq, decide_eq_true_eq] at h
    obtain ⟨⟨⟨⟨⟨⟨⟨⟨⟨h1, h2⟩, h3⟩, h4⟩, h5⟩, h6⟩, h7⟩, h8⟩, h9⟩, h10⟩ := h
    exact ⟨⟨p, h1, h2, e, h3, h4, h5⟩, ⟨p, h6, h7, h8, h9, h5, h10⟩⟩
  · cases h
def satChk (K : Frag) (a : Addr) (x : Str) (v : Value) : Bool := match typeIn K (.ref a) with
  | some mc => readsIn K a mc && (match findCls K (.ref a) mc x with | some (.val v') => decide (er v' = v) && handedIn v' | _ => false)
  | none => false
theorem satChk_ok {K : Frag} {a : Addr} {x : Str} {v : Value} (h : satChk K a x v = true) : SatOk K a x v := by
  unfold satChk at h
  split at h
  · rename_i mc e
    rw [Bool.and_eq_true] at h
    obtain ⟨h1, h2⟩ := h
    split at h2
    · rename_i v' e'
      rw [Bool.and_eq_true] at h2
      exact ⟨mc, v', of_decide_eq_true h2.1, e, h1, e', h2.2⟩
    · cases h2
  · cases h
def methChk (K : Frag) (Cl : Addr) (x : Str) (f : Addr) : Bool := plainGet K Cl x && (findIn K (.ref Cl) x == some (some (.ref f))) && isFn K (.ref f) && keepIn K (.ref f)
theorem methChk_ok {K : Frag} {Cl : Addr} {x : Str} {f : Addr} (h : methChk K Cl x f = true) : MethOk K Cl x f ∧ keepIn K (.ref f) = true := by
  simp only [methChk, Bool.and_eq_true, beq_iff_eq] at h
  exact ⟨⟨h.1.1.1, h.1.1.2, h.1.2⟩, h.2⟩
end Mine
end
/- part FbLoop -/
section
open PySem PySem.W PySem.Spec PySem.Calls PyProof.Rows
set_option Elab.async false
set_option maxRecDepth 100000
set_option linter.all false
namespace Mine
/-- an exception noted in frame F -/
def Hel (C : Cx) (F : Fm) (σ : Hp) (ρ : Loc) (e : Addr) (cls : Value) (s : Shared) : Prop :=
  ∃ B a0, C.base.StaysIn B ∧ Heap.HeldW B (F.env :: F.outer) e cls a0 F.L s.heap ∧ Own F σ B ∧ Cels F σ ρ B ∧ (∀ b o, F.h₀.get? b = some o → b ∉ F.frs → B.get? b = some o) ∧ Kept F s.heap ∧
    (∃ m, s.heap.Ns F.L m ∧ Locs F ρ m) ∧ s.gens = #[] ∧ s.os = C.os
section
variable {C : Cx} {F : Fm} {A : Around} {σ : Hp} {ρ : Loc} {s : Shared} {e : Addr} {cls : Value}
theorem Hel.exc (h : Hel C F σ ρ e cls s) : Exc C F σ ρ e cls s := by
  obtain ⟨B, a0, st, f, own, cel, keep, kept, loc, g, o⟩ := h
  exact .held B a0 st f own cel keep kept loc g o
theorem kept_up (ok : F.Ok C) {h h' B : Heap} (k : Kept F h) (keep : ∀ b o, F.h₀.get? b = some o → b ∉ F.frs → B.get? b = some o) (st : B.StaysIn h') (up : h.UpToSlots h') : Kept F h' := fun b o q => by
  obtain ⟨sl, q₁, z⟩ := k b o q
  by_cases hb : b ∈ F.frs
  · obtain ⟨_, o', ho', hd'⟩ := ok.frames.mem hb
    rw [q] at ho'; cases ho'
    obtain ⟨sl', q₂⟩ := up b _ q₁ hd'
    exact ⟨sl', q₂, fun h => absurd hb h⟩
  · exact ⟨o.slots, st _ _ (keep b o q hb), fun _ => rfl⟩
theorem loc_up {h h' : Heap} (l : ∃ m, h.Ns F.L m ∧ Locs F ρ m) (up : h.UpToSlots h') : ∃ m, h'.Ns F.L m ∧ Locs F ρ m := by
  obtain ⟨m, n, l⟩ := l; exact ⟨m, up.ns n, l⟩
/-- the frame notes the exception -/
theorem note_exc (ok : F.Ok C) (hA : A.frames = some (F.env :: F.outer)) {M : Model} {Q : Unit → Shared → Prop} {E : Value → Shared → Prop} (x : Exc C F σ ρ e cls s) (q : ∀ s', Hel C F σ ρ e cls s' → Q () s') : wpAny M A (noteFrame (.ref e) F.env) Q E s := by
  cases x with
  | fresh s₀ i₀ x g o =>
    obtain ⟨f1, f2, f3, f4, f5, f6, f7, f8, f9⟩ := fresh_base i₀ ok x
    obtain ⟨ob, vs, a0, h1, h2, h3, h4, h5⟩ := x.there
    unfold noteFrame
    rw [F.env_frame]
    refine wpAny_bind (wpAny_field h1 h3 h4 ?_)
    rw [if_neg (by decide)]
    refine wpAny_entryW (base := hideAll s₀.heap ((F.env :: F.outer).filterMap (·.frame))) hA f2 F.env_frame h1 f3 f4 h3 (Array.getElem?_eq_some_iff.mp h4).1 h5 fun h' hN => ?_
    obtain ⟨k1, k2, k3, k4⟩ := hN
    rw [h2] at k3
    have up : s.heap.UpToSlots h' := k4
    exact q _ ⟨_, a0, f1, ⟨k1, f4, k2, k3⟩, f5, f6, f7, kept_up ok f8 f7 k1 up, loc_up f9 up, g, o⟩
  | fly B a0 st f own cel keep kept loc g o =>
    exact wpAny_looks_onW hA F.env_frame f fun h' hh up => q _ ⟨B, a0, st, hh, own, cel, keep, kept_up ok kept keep hh.1 up, loc_up loc up, g, o⟩
  | held B a0 st f own cel keep kept loc g o =>
    exact wpAny_noteFrame_againW F.env_frame f.2.2.2 (q _ ⟨B, a0, st, f, own, cel, keep, kept, loc, g, o⟩)
theorem setFlight_some {M : Model} {E : Value → Shared → Prop} {base : Heap} {l : List Env} {L : Addr} {a0 fl : Value} {Q : Unit → Shared → Prop} (hkb : base.StaysIn s.heap) (hen : base.get? e = none) (hl : s.heap.FunFrames base l) (R : s.heap.TracedAtW base e cls a0 fl)
    (h : ∀ h', Heap.HeldW base l e cls a0 L h' → s.heap.UpToSlots h' → Q () { s with heap := h' }) : wpAny M A (setFlight (.ref e) (some L)) Q E s := by
  obtain ⟨oe, vs, T, oT, ts, he, hcls, hd, h1, hnT, hTe, hT, hdT, h3⟩ := R
  have z3 : 3 < ts.size := (Array.getElem?_eq_some_iff.mp h3).1
  have ne : ∀ {b o}, s.heap.get? b = some o → (∀ vs, o.data ≠ .fields vs) → T ≠ b := fun hb hn q => by
    rw [← q, hT] at hb; cases hb; exact hn ts hdT
  have oth : ∀ {b}, T ≠ b → (s.heap.update T (Obj.mapFields (·.setIfInBounds 3 (rawInt L)))).get? b = s.heap.get? b := fun hb => Heap.get?_update_other _ _ hb
  unfold setFlight
  refine wpAny_bind (wpAny_field he hd h1 ?_)
  rw [if_pos (by simp)]
  refine wpAny_setField hT hdT z3 (h _ ⟨fun b o q => (oth fun z => by rw [← z, hnT] at q; cases q).trans (hkb b o q), hen, hl.of_keeps fun b o hb hn => ⟨o, (oth (ne hb hn)).trans hb, rfl⟩,
    oe, vs, T, _, _, (oth hTe).trans he, hcls, hd, h1, hnT, hTe, Heap.get?_update_self _ hT (Obj.isFreed_of_fields (Obj.data_mapFields hdT _)), Obj.data_mapFields hdT _, by simp [z3]⟩
    fun b o hb hn => ⟨o.slots, (oth (ne hb hn)).trans hb⟩)
theorem noteN_exc (ok : F.Ok C) (hA : A.frames = some (F.env :: F.outer)) {M : Model} {E : Value → Shared → Prop} (x : Exc C F σ ρ e cls s) (q : ∀ s', Hel C F σ ρ e cls s' → E (.ref e) s') : noteN M A F.env E (.ref e) s := by
  unfold noteN
  exact wpN_bind (wpAny.n (note_exc ok hA x fun s' h => wpAny.n (wpAny_theTreesLotGoes (q s' h))))
theorem backN_hel (ok : F.Ok C) {M : Model} {E : Value → Shared → Prop} (x : Hel C F σ ρ e cls s) (q : ∀ s', Hel C F σ ρ e cls s' → E (.ref e) s') : backN M A F.env E (.ref e) s := by
  obtain ⟨B, a0, st, f, own, cel, keep, kept, loc, g, o⟩ := x
  have f' := f
  obtain ⟨k1, k2, k3, oe, vs, T, oT, ts, he, hcls, hd, h1, r⟩ := f'
  unfold backN
  refine wpAny.n (wpAny_bind (wpAny_field he hd h1 ?_))
  rw [if_neg (by simp), F.env_frame]
  refine setFlight_some k1 k2 k3 f.2.2.2 fun h' hh up => q _ ⟨B, a0, st, hh, own, cel, keep, kept_up ok kept keep hh.1 up, loc_up loc up, g, o⟩
end
section
variable {C : Cx} {F : Fm} {A : Around} {σ : Hp} {ρ : Loc} {X : Value → Hp → Loc → Prop}
theorem W_While (ok : F.Ok C) (hA : A.frames = some (F.env :: F.outer)) {test : Expr} {body : List Stmt} {pos : Pos} {Q : Flow → Hp → Loc → Prop} (I : Nat → Hp → Loc → Prop)
    (turn : ∀ n σ ρ, I n σ ρ → W C F A (isTrue test F.env (eval test F.env)) σ ρ (fun b σ₁ ρ₁ => if b then W C F A (execs body F.env) σ₁ ρ₁ (fun f σ₂ ρ₂ => match f with
        | .next | .cont => ∃ m, m < n ∧ I m σ₂ ρ₂ | .brk => Q .next σ₂ ρ₂ | .ret v => Q (.ret v) σ₂ ρ₂) X else Q .next σ₁ ρ₁) X)
    (n : Nat) (h : I n σ ρ) : W C F A (exec (.While test body [] pos) F.env) σ ρ Q X := by
  intro s i
  refine nWhile (nWhileLoop (R := fun r s' => match r with
      | .ok f => ∃ σ' ρ', Inv C F σ' ρ' s' ∧ Q (Er.e f) σ' ρ'
      | .error e => backN (model C.prog C.w) A F.env (fun e s' => ∃ ea cls σ' ρ', e = .ref ea ∧ Exc C F σ' ρ' ea cls s' ∧ X cls σ' ρ') e s')
    (fun n s => ∃ σ ρ, Inv C F σ ρ s ∧ I n σ ρ) (fun n s ⟨σ, ρ, i, hI⟩ => ?_) n ⟨σ, ρ, i, h⟩)
  have hx : ∀ ea cls s' σ' ρ', Exc C F σ' ρ' ea cls s' → X cls σ' ρ' → noteN (model C.prog C.w) A F.env (fun e s' => backN (model C.prog C.w) A F.env (fun e s' => ∃ ea cls σ' ρ', e = .ref ea ∧ Exc C F σ' ρ' ea cls s' ∧ X cls σ' ρ') e s') (.ref ea) s' := fun ea cls s' σ' ρ' y q =>
    noteN_exc ok hA y fun s₁ h₁ => backN_hel ok h₁ fun s₂ h₂ => ⟨ea, cls, σ', ρ', rfl, h₂.exc, q⟩
  refine (turn n σ ρ hI).use i (fun b s₁ σ₁ ρ₁ i₁ q => ?_) hx
  cases b with
  | false => exact ⟨σ₁, ρ₁, i₁, q⟩
  | true =>
    rw [if_pos (show (Er.e true : Bool) = true from rfl)] at q
    refine q.use i₁ (fun f s₂ σ₂ ρ₂ i₂ q₂ => ?_) hx
    cases f with
    | next => obtain ⟨m, hm, hI⟩ := q₂; exact ⟨m, hm, σ₂, ρ₂, i₂, hI⟩
    | cont => obtain ⟨m, hm, hI⟩ := q₂; exact ⟨m, hm, σ₂, ρ₂, i₂, hI⟩
    | brk => exact ⟨σ₂, ρ₂, i₂, q₂⟩
    | ret v => exact ⟨σ₂, ρ₂, i₂, q₂⟩
end
end Mine
end
/- part FbSlice -/
section
open PySem PySem.W PySem.Spec PySem.Calls PyProof.Rows
set_option Elab.async false
set_option maxRecDepth 100000
set_option linter.all false
namespace Mine
namespace B
open Builtin Builtin.Bytes
theorem slot_ba_get : Slot "bytearray" "__getitem__" "bytearray.__getitem__" :=
  .of (owner := "bytearray") (n := "__getitem__") (by rw [typeLookup_type, builtinLookup_eq_fast]; kernel_rfl) (by decide +kernel) (by decide +kernel) (by decide +kernel)
    (by first | exact .inl (by decide +kernel) | exact .inr (by decide +kernel)) (by rw [isSubtype_type]; kernel_rfl)
theorem slot_ba_set : Slot "bytearray" "__setitem__" "bytearray.__setitem__" :=
  .of (owner := "bytearray") (n := "__setitem__") (by rw [typeLookup_type, builtinLookup_eq_fast]; kernel_rfl) (by decide +kernel) (by decide +kernel) (by decide +kernel)
    (by first | exact .inl (by decide +kernel) | exact .inr (by decide +kernel)) (by rw [isSubtype_type]; kernel_rfl)
theorem entry_ba_get : entryFor table "bytearray.__getitem__" = some Builtin.«bytearray.__getitem__» := entryFor_of_tree (by kernel_rfl)
theorem entry_ba_set : entryFor table "bytearray.__setitem__" = some Builtin.«bytearray.__setitem__» := entryFor_of_tree (by kernel_rfl)
theorem args_ba_get (a b : Value) : argsOk "bytearray.__getitem__" ⟨[a, b], []⟩ := by unfold argsOk; kernel_rfl
theorem args_ba_set (a b c : Value) : argsOk "bytearray.__setitem__" ⟨[a, b, c], []⟩ := by unfold argsOk; kernel_rfl
theorem sub_bytes_ba : isSubtype (.type "bytes") (.type "bytearray") = pure false := by rw [isSubtype_type]; kernel_rfl
theorem sub_bytes_complex : isSubtype (.type "bytes") (.type "complex") = pure false := by rw [isSubtype_type]; kernel_rfl
theorem no_bytes_index : typeLookup (.type "bytes") "__index__" = pure none := by rw [typeLookup_type, builtinLookup_eq_fast]; kernel_rfl
theorem no_bytes_int : typeLookup (.type "bytes") "__int__" = pure none := by rw [typeLookup_type, builtinLookup_eq_fast]; kernel_rfl
theorem no_bytes_float : typeLookup (.type "bytes") "__float__" = pure none := by rw [typeLookup_type, builtinLookup_eq_fast]; kernel_rfl
end B
section
variable {prog : Program} {w : World} {A : Around} {E : Value → Shared → Prop} {s : Shared}
open Builtin.Bytes
theorem ite_no' {c : Prop} [Decidable c] {α : Type} {M : Model} {a b : Sem α} {Q : α → Shared → Prop} (hc : ¬ c) (h : wpAny M A b Q E s) : wpAny M A (if c then a else b) Q E s := by rw [if_neg hc]; exact h
/-- a slice's parts, looked at -/
theorem parts_of {M : Model} {a : Addr} {l u : Value} {lo hi : Option Int} (hl : IsPart l lo) (hu : IsPart u hi) (hs : s.heap.IsSliceOf a l u .none) {Q : Value × Value × Value → Shared → Prop}
    (h : Q (rawPart lo, rawPart hi, rawPart none) s) : wpAny (model prog w) A (sliceParts (.ref a)) Q E s := by
  obtain ⟨o, ho, hc, hd⟩ := hs
  unfold sliceParts
  refine wpAny_bind (wpAny_field (x := .none) ho hd rfl ?_)
  kby_none
  refine ite_no' (show ¬ ((Value.none == rawInt 0) = true) from Bool.false_ne_true) ?_
  refine wpAny_bind (wpAny_field (x := l) ho hd rfl ?_)
  cases hl <;> cases hu <;> (first
    | (kby_none; (refine wpAny_bind (wpAny_field (x := .none) ho hd rfl ?_)); kby_none)
    | (kby_none; (refine wpAny_bind (wpAny_field (x := .int _ _) ho hd rfl ?_)); kby_int)
    | (kby_int; (refine wpAny_bind (wpAny_field (x := .none) ho hd rfl ?_)); kby_none)
    | (kby_int; (refine wpAny_bind (wpAny_field (x := .int _ _) ho hd rfl ?_)); kby_int)) <;> exact wpAny_pure h
theorem subscript_slice {a : Addr} (hT : s.TypeIs (.ref a) "slice") {Q : Option Int → Shared → Prop} (h : Q none s) : wpAny (model prog w) A (subscript? (.ref a)) Q E s := by
  unfold subscript?
  refine wpAny_bind (wpAny_specialOf hT slice_no_index ?_)
  exact wpAny_pure h
theorem indices_of {lo hi : Option Int} {n : Nat} {Q : Int × Int × Int → Shared → Prop} (h : Q (sliceBounds lo hi none n) s) : wpAny (model prog w) A (sliceIndices (rawPart lo) (rawPart hi) (rawPart none) n) Q E s :=
  wpAny_of_eq (sliceIndices_raw lo hi none n (fun e => nomatch e)) h
/-- b[lo:hi] of a bytearray -/
theorem ba_get {a i : Addr} {b : Array UInt8} {l u : Value} {lo hi : Option Int} (ho : s.heap.get? a = some (baObj b)) (hl : IsPart l lo) (hu : IsPart u hi) (hs : s.heap.IsSliceOf i l u .none) {Q : Value → Shared → Prop}
    (h : Q (.ref s.heap.objs.size) { s with heap := s.heap.push (baObj (sliced b (sliceBounds lo hi none b.size).1 (sliceBounds lo hi none b.size).2.1 (sliceBounds lo hi none b.size).2.2)) })
    (hz : (sliced b (sliceBounds lo hi none b.size).1 (sliceBounds lo hi none b.size).2.1 (sliceBounds lo hi none b.size).2.2).size ≤ sizeLine) :
    wpAny (model prog w) A (getItem (.ref a) (.ref i)) Q E s := by
  have hT : s.TypeIs (.ref a) "bytearray" := ⟨_, ho, rfl⟩
  have hT' : s.TypeIs (.ref i) "slice" := let ⟨o, h1, h2, _⟩ := hs; ⟨o, h1, h2⟩
  refine wpAny_getItem_slot hT (by decide) B.slot_ba_get (wpAny_call_entry B.slot_ba_get hT B.entry_ba_get ?_ (B.args_ba_get _ _))
  unfold Builtin.«bytearray.__getitem__»
  refine wpAny_bind (wpAny_of_eq (a := (Value.ref a, [Value.ref i])) rfl ?_)
  refine wpAny_bind (subscript_slice hT' ?_)
  refine wpAny_bind (wpAny_typeOf hT' ?_)
  refine wpAny_bind (parts_of (M := model prog w) hl hu hs ?_)
  unfold payload payload?
  refine wpAny_bind (wpAny_bind (wpAny_bind (wpAny_load ho (wpAny_pure (wpAny_pure ?_)))))
  refine wpAny_bind (indices_of ?_)
  unfold newBytearray
  refine wpAny_bind (wpAny_newObj_type (wpAny_pure ⟨_, rfl, h⟩) ?_)
  exact hz
/-- the call of a slot's own built-in -/
theorem nCallEntry {T : String} {name : Str} {id : String} {b : Builtin} {self : Value} {rest : List Value} {Q : Value → Shared → Prop} (h : Slot T name id) (hT : s.TypeIs self T) (hd : notDec (.builtin id ⟨self :: rest, []⟩) = true)
    (hb : entryFor table id = some b) (hc : wpN (model prog w) A.in1 (b ⟨self :: rest, []⟩) (fun fin s' => ∃ v, fin = .done (.ret v) ∧ Q v s') E s) (ha : argsOk id ⟨self :: rest, []⟩) : wpN (model prog w) A (call (.builtin id) (self :: rest)) Q E s := by
  refine wpN_call (codeN_call_builtin hd h.plain hb (h.check _ _ _ _ _ _ _ _ hT ha (wpN_mono hc (fun fin s' h' => ?_) fun _ _ h' => h')))
  obtain ⟨v, rfl, hv⟩ := h'; exact hv
theorem nSetItem {o i v : Value} {T id : String} {Q : Unit → Shared → Prop} (hT : s.TypeIs o T) (hn : seqItemTypes.contains T = false) (slot : Slot T "__setitem__" id)
    (hc : wpN (model prog w) A (call (.builtin id) [o, i, v]) (fun _ => Q ()) E s) : wpN (model prog w) A (setItem o i v) Q E s := by
  unfold setItem
  refine wpN_holding (nBind_any (wpAny_sequenceKey hT hn ?_))
  exact wpN_bind (nCallSpecial hT slot (wpN_mono hc (fun _ s' h' => wpN_pure h') fun _ _ e => e))
/-- the array behind the store of a slice as long -/
def spliced' (b : Array UInt8) (start stop : Int) (new : Array UInt8) : Array UInt8 := b.extract 0 start.toNat ++ new ++ b.extract (max start stop).toNat b.size
theorem ba_set_ba {a i c : Addr} {b n : Array UInt8} {l u : Value} {lo hi : Option Int} (ho : s.heap.get? a = some (baObj b)) (hc : s.heap.get? c = some (baObj n)) (hca : c ≠ a) (hl : IsPart l lo) (hu : IsPart u hi) (hs : s.heap.IsSliceOf i l u .none) {Q : Unit → Shared → Prop}
    (hn : (n.size : Int) = max (sliceBounds lo hi none b.size).1 (sliceBounds lo hi none b.size).2.1 - (sliceBounds lo hi none b.size).1)
    (hz : (spliced' b (sliceBounds lo hi none b.size).1 (sliceBounds lo hi none b.size).2.1 n).size ≤ sizeLine)
    (h : ∀ h', Heap.SameBut a s.heap h' → h'.get? a = some (baObj (spliced' b (sliceBounds lo hi none b.size).1 (sliceBounds lo hi none b.size).2.1 n)) → Q () { s with heap := h' }) :
    wpN (model prog w) A (setItem (.ref a) (.ref i) (.ref c)) Q E s := by
  have hT : s.TypeIs (.ref a) "bytearray" := ⟨_, ho, rfl⟩
  have hTc : s.TypeIs (.ref c) "bytearray" := ⟨_, hc, rfl⟩
  have hT' : s.TypeIs (.ref i) "slice" := let ⟨o, h1, h2, _⟩ := hs; ⟨o, h1, h2⟩
  refine nSetItem hT (by decide) B.slot_ba_set (nCallEntry B.slot_ba_set hT rfl B.entry_ba_set (wpAny.n ?_) (B.args_ba_set _ _ _))
  unfold Builtin.«bytearray.__setitem__»
  refine wpAny_bind (subscript_slice hT' ?_)
  refine wpAny_bind (wpAny_typeOf hT' ?_)
  refine wpAny_bind (parts_of (M := model prog w) hl hu hs ?_)
  repeat lk
  rw [if_neg (show ¬ (Builtin.Bytes.sameRef (.ref a) (.ref c) = true) from by simp [Builtin.Bytes.sameRef]; exact fun e => hca e.symm)]
  refine wpAny_bind (wpAny_isInstance hTc B.sub_ba ?_)
  simp only [Bool.not_true, Bool.false_eq_true, if_false]
  unfold payload payload?
  refine wpAny_bind (wpAny_bind (wpAny_bind (wpAny_load hc (wpAny_pure (wpAny_pure ?_)))))
  refine wpAny_bind (wpAny_bind (wpAny_bind (wpAny_load ho (wpAny_pure (wpAny_pure ?_)))))
  refine wpAny_bind (indices_of ?_)
  rw [if_pos (show ((sliceBounds lo hi none b.size).2.2 == 1) = true from rfl)]
  refine wpAny_bind (wpAny_rule ?_)
  rw [if_neg (show ¬ (((n.size : Int) != max (sliceBounds lo hi none b.size).1 (sliceBounds lo hi none b.size).2.1 - (sliceBounds lo hi none b.size).1) = true) from by
    rw [← hn]; simp)]
  refine wpAny_bind (write_ba ho hz fun h' hs' ho' => ?_)
  exact wpAny_pure ⟨_, rfl, h h' hs' ho'⟩
/-- bytearray(x) for bytes x -/
theorem ba_of_bytes {x : Array UInt8} {t : Tok} {Q : Value → Shared → Prop} (hx : x.size ≤ sizeLine) (hg : A.guards = some [])
    (hQ : ∀ a h', s.heap.objs.size ≤ a → s.heap.StaysIn h' → h'.get? a = some (baObj x) → Q (.ref a) { s with heap := h' }) :
    wpN (model prog w) A (call (.type "bytearray") [.bytes x t]) Q E s := by
  refine typeCallN (Q₁ := fun obj s₁ => obj = .ref s.heap.objs.size ∧ s₁ = { s with heap := s.heap.push (baObj #[]) }) B.called_ba (B.typeCall_ba _) B.entry_ba_init (fun _ => rfl)
    (code_ba_new _ ⟨rfl, rfl⟩) fun obj s₁ h₁ => ?_
  obtain ⟨rfl, rfl⟩ := h₁
  have ho : (s.heap.push (baObj #[])).get? s.heap.objs.size = some (baObj #[]) := Heap.get?_push_size _ rfl
  refine ⟨⟨_, ho, rfl⟩, B.args_ba_init _ _, ?_⟩
  have hT : ({ s with heap := s.heap.push (baObj #[]) } : Shared).TypeIs (.ref s.heap.objs.size) "bytearray" := ⟨_, ho, rfl⟩
  unfold Builtin.«bytearray.__init__»
  refine wpN_bind (wpAny.n (ownRelease_ba hT ?_))
  simp only [B.bindOpt_ba, Builtin.Bytes.checkCodecArg, Bool.false_eq_true, if_false, pure_bind]
  refine wpN_bind (orM_false (nExported hg ⟨rfl, wpAny.n ?_⟩))
  unfold Builtin.Bytes.exportsOf
  refine wpAny_bind (wpAny_bind (wpAny_load ho (wpAny_pure (wpAny_pure ?_))))
  refine wpAny.n ?_
  refine wpAny_bind (write_ba ho (Nat.zero_le _) fun h₁ hs₁ ho₁ => ?_)
  refine wpAny_bind (wpAny_of_eq (a := none) rfl ?_)
  simp only [Option.isSome_none, Bool.false_eq_true, if_false]
  refine wpAny_bind (wpAny_pure ?_)
  refine wpAny_bind (wpAny_specialOf (typeIs_bytes _ x t) B.no_bytes_index ?_)
  simp only [Option.isSome_none, Bool.false_eq_true, if_false]
  refine wpAny_bind (wpAny_of_eq KBy.buffer_eq ?_)
  refine wpAny_bind (wpAny_rule ?_)
  have st : ∀ {h' : Heap}, Heap.SameBut s.heap.objs.size (s.heap.push (baObj #[])) h' → s.heap.StaysIn h' := fun hs b o e => hs.extBut b o (Nat.ne_of_lt (Heap.lt_size e)) (Heap.get?_push_of_some _ e)
  refine wpAny_bind (write_ba ho₁ hx fun h₂ hs₂ ho₂ => ?_)
  exact wpAny_pure ⟨rfl, hQ _ _ (Nat.le_refl _) (st (hs₁.trans hs₂)) ho₂⟩
theorem ba_set_bytes {a i : Addr} {b x : Array UInt8} {t : Tok} {l u : Value} {lo hi : Option Int} (hg : A.guards = some []) (ho : s.heap.get? a = some (baObj b)) (hl : IsPart l lo) (hu : IsPart u hi) (hs : s.heap.IsSliceOf i l u .none) {Q : Unit → Shared → Prop}
    (hn : (x.size : Int) = max (sliceBounds lo hi none b.size).1 (sliceBounds lo hi none b.size).2.1 - (sliceBounds lo hi none b.size).1) (hx : x.size ≤ sizeLine)
    (hz : (spliced' b (sliceBounds lo hi none b.size).1 (sliceBounds lo hi none b.size).2.1 x).size ≤ sizeLine)
    (h : ∀ h₁ h', s.heap.StaysIn h₁ → Heap.SameBut a h₁ h' → h'.get? a = some (baObj (spliced' b (sliceBounds lo hi none b.size).1 (sliceBounds lo hi none b.size).2.1 x)) → Q () { s with heap := h' }) :
    wpN (model prog w) A (setItem (.ref a) (.ref i) (.bytes x t)) Q E s := by
  have hT : s.TypeIs (.ref a) "bytearray" := ⟨_, ho, rfl⟩
  have hT' : s.TypeIs (.ref i) "slice" := let ⟨o, h1, h2, _⟩ := hs; ⟨o, h1, h2⟩
  refine nSetItem hT (by decide) B.slot_ba_set (nCallEntry B.slot_ba_set hT rfl B.entry_ba_set ?_ (B.args_ba_set _ _ _))
  unfold Builtin.«bytearray.__setitem__»
  refine nBind_any (subscript_slice hT' ?_)
  refine nBind_any (wpAny_typeOf hT' ?_)
  refine nBind_any (parts_of (M := model prog w) hl hu hs ?_)
  rw [if_neg (show ¬ (Builtin.Bytes.sameRef (.ref a) (.bytes x t) = true) from by simp [Builtin.Bytes.sameRef])]
  refine nBind_any (wpAny_isInstance (typeIs_bytes _ x t) B.sub_bytes_ba ?_)
  simp only [Bool.not_false, if_true]
  have hb := fun (s : Shared) => typeIs_bytes s x t
  refine wpN_bind (orM_false (nBind_any (wpAny_specialOf (hb _) B.no_bytes_index (wpAny.n (wpAny_pure ⟨rfl, ?_⟩)))))
  refine orM_false (nBind_any (wpAny_specialOf (hb _) B.no_bytes_int (wpAny.n (wpAny_pure ⟨rfl, ?_⟩))))
  refine orM_false (nBind_any (wpAny_specialOf (hb _) B.no_bytes_float (wpAny.n (wpAny_pure ⟨rfl, ?_⟩))))
  refine wpAny.n (wpAny_isInstance (hb _) B.sub_bytes_complex ?_)
  refine nBind_any (wpAny_of_eq (a := none) rfl ?_)
  simp only [Option.isSome_none, Bool.or_self, Bool.false_eq_true, if_false]
  refine nBind_any (wpAny_rule ?_)
  refine wpN_bind (ba_of_bytes hx hg fun c h₁ hc hk hco => ?_)
  have ho₁ := hk _ _ ho
  have hs₁ : h₁.IsSliceOf i l u .none := let ⟨o, q1, q2, q3⟩ := hs; ⟨o, hk _ _ q1, q2, q3⟩
  refine wpN_bind (wpN_holding (wpAny.n (parts_of (M := model prog w) hl hu hs₁ ?_)))
  refine wpAny.n ?_
  unfold payload payload?
  refine wpAny_bind (wpAny_bind (wpAny_bind (wpAny_load hco (wpAny_pure (wpAny_pure ?_)))))
  refine wpAny_bind (wpAny_bind (wpAny_bind (wpAny_load ho₁ (wpAny_pure (wpAny_pure ?_)))))
  refine wpAny_bind (indices_of ?_)
  rw [if_pos (show ((sliceBounds lo hi none b.size).2.2 == 1) = true from rfl)]
  refine wpAny_bind (wpAny_rule ?_)
  rw [if_neg (show ¬ (((x.size : Int) != max (sliceBounds lo hi none b.size).1 (sliceBounds lo hi none b.size).2.1 - (sliceBounds lo hi none b.size).1) = true) from by
    rw [← hn]; simp)]
  refine wpAny_bind (write_ba ho₁ hz fun h' hs' ho' => ?_)
  exact wpAny_pure ⟨_, rfl, h h₁ h' hk hs' ho'⟩
end
end Mine
end
/- part FbSlW -/
section
open PySem PySem.W PySem.Spec PySem.Calls PyProof.Rows
set_option Elab.async false
set_option maxRecDepth 100000
set_option linter.all false
namespace Mine
/-- bounds of a slice as long as they lie well -/
theorem bounds_eq {lo hi : Option Int} {n l h : Nat} (hl : lo.getD 0 = l) (hh : hi.getD n = h) (h1 : l ≤ h) (h2 : h ≤ n) : sliceBounds lo hi none n = ((l : Int), (h : Int), 1) := by
  unfold sliceBounds
  have e1 : ((1 : Int) > 0) = True := eq_true (by decide)
  cases lo with
  | none =>
    cases hi with
    | none => simp at hl hh ⊢; omega
    | some j => simp at hl hh ⊢; subst hh; rw [if_neg (by omega)]; omega
  | some i =>
    cases hi with
    | none => simp at hl hh ⊢; subst hl; rw [if_neg (by omega)]; omega
    | some j => simp at hl hh ⊢; subst hl hh; rw [if_neg (by omega), if_neg (by omega)]; omega
theorem pick_eq (b : List UInt8) (l : Nat) : ∀ c, l + c ≤ b.length → ((List.range c).map fun k : Nat => ((l : Int) + 1 * (k : Int)).toNat).filterMap (b.toArray[·]?) = (b.drop l).take c
  | 0, _ => by simp
  | c + 1, h => by
    rw [List.range_succ, List.map_append, List.filterMap_append, pick_eq b l c (by omega), List.take_add_one]
    congr 1
    have : ((l : Int) + 1 * (c : Int)).toNat = l + c := by omega
    have hc : (b.drop l)[c]?.toList = [b[l + c]'(by omega)] := by
      rw [List.getElem?_drop, List.getElem?_eq_getElem (by omega)]; rfl
    rw [hc, List.map_cons, List.map_nil, this]
    show List.filterMap (fun x => b.toArray[x]?) [l + c] = _
    rw [List.filterMap_cons, List.getElem?_toArray, List.getElem?_eq_getElem (show l + c < b.length by omega)]
    rfl
theorem sliced_eq (b : List UInt8) {l h : Nat} (h1 : l ≤ h) (h2 : h ≤ b.length) : Builtin.Bytes.sliced b.toArray l h 1 = ((b.drop l).take (h - l)).toArray := by
  unfold Builtin.Bytes.sliced sliceRange
  rw [if_pos (by decide)]
  dsimp only
  have hc : (if (l : Int) < h then ((h : Int) - l + 1 - 1) / 1 else 0).toNat = h - l := by
    split <;> omega
  rw [hc, pick_eq b l (h - l) (by omega)]
theorem spliced_eq (b x : List UInt8) {l h : Nat} (h1 : l ≤ h) (h2 : h ≤ b.length) : spliced' b.toArray l h x.toArray = (b.take l ++ x ++ b.drop h).toArray := by
  unfold spliced'
  have e1 : (max (l : Int) (h : Int)).toNat = h := by omega
  rw [e1]
  simp [List.extract_eq_drop_take]
  rw [List.take_of_length_le (by simp)]
def Part (S : St) (sc : Scope) (σ : Hp) (ρ : Loc) (e : Option Expr) (i : Option Int) : Prop := match e with
  | none => i = none
  | some e => ∃ j, i = some j ∧ pe S sc σ ρ e = some (.int j 0)
section
variable {C : Cx} {S : St} {F : Fm} {A : Around} {σ : Hp} {ρ : Loc} {X : Value → Hp → Loc → Prop}
theorem part_ok (ok : F.Ok C) (co : C.Ok) (so : S.Ok C) {e : Option Expr} {i : Option Int} (h : Part S F.sc σ ρ e i) {s : Shared} (iv : Inv C F σ ρ s) {Q : Value → Shared → Prop} {E : Value → Shared → Prop}
    (q : ∀ v tk, IsPart v i → Q v { s with toks := tk }) : wpAny (model C.prog C.w) A (valueOrNone (evalOpt e F.env)) Q E s := by
  cases e with
  | none =>
    have : i = none := h
    subst this
    exact wpAny_pure (q .none s.toks .none)
  | some e =>
    obtain ⟨j, rfl, hp⟩ := h
    exact pe_ok ok co so e hp s iv _ _ fun w tk hw => by
      obtain ⟨t, rfl⟩ := er_int_inv hw
      exact q _ _ (.int j t)
theorem slice_ok (ok : F.Ok C) (co : C.Ok) (so : S.Ok C) {lo hi : Option Expr} {i j : Option Int} {sp : Pos} (hl : Part S F.sc σ ρ lo i) (hh : Part S F.sc σ ρ hi j) {s : Shared} (iv : Inv C F σ ρ s) {Q : Value → Shared → Prop} {E : Value → Shared → Prop}
    (q : ∀ a h' l u tk, IsPart l i → IsPart u j → h'.IsSliceOf a l u .none → s.heap.StaysIn h' → Inv C F σ ρ { s with heap := h', toks := tk } → Q (.ref a) { s with heap := h', toks := tk }) : wpAny (model C.prog C.w) A (eval (.Slice lo hi none sp) F.env) Q E s := by
  rw [arm_eval_Slice]
  refine wpAny_bind (part_ok ok co so hl iv fun l tk hl' => wpAny_bind (wpAny_holding (part_ok ok co so hh (iv.toks tk) fun u tk' hu' => wpAny_bind (wpAny_holding (wpAny_of_eq (a := Value.none) rfl ?_)))))
  refine wpAny_newObj_type ?_ (by show 3 ≤ sizeLine + 2; decide)
  exact q _ _ l u _ hl' hu' (Heap.IsSliceOf.new _ _ _ _) (fun b o e => Heap.get?_push_of_some _ e) ((iv.toks tk').ext (fun b o e => Heap.get?_push_of_some _ e) _)
/-- x[lo:hi] read from a bytearray -/
theorem W_SliceGet (ok : F.Ok C) (co : C.Ok) (so : S.Ok C) {value : Expr} {lo hi : Option Expr} {i j : Option Int} {sp pos : Pos} {a : Addr} {b : List UInt8} {l h : Nat} {Q : Value → Hp → Loc → Prop}
    (hv : pe S F.sc σ ρ value = some (.ref a)) (ha : σ a = some (.ba b)) (pl : Part S F.sc σ ρ lo i) (ph : Part S F.sc σ ρ hi j) (hl : i.getD 0 = l) (hh : j.getD b.length = h) (h1 : l ≤ h) (h2 : h ≤ b.length)
    (q : ∀ a', σ a' = none → Q (.ref a') (σ.put a' (.ba ((b.drop l).take (h - l)))) ρ) : W C F A (eval (.Subscript value (.Slice lo hi none sp) pos) F.env) σ ρ Q X := by
  intro s iv
  refine wpAny.n (Subscript_ (pe_ok ok co so value hv s iv _ _ fun a' tk ea => ?_))
  have := er_ref_inv ea; subst this
  refine slice_ok ok co so pl ph (iv.toks tk) fun c h' u v tk' hu hv' hs hk iv' => ?_
  obtain ⟨ho, hz⟩ := (iv'.own a _ ha).2.2
  have hb := bounds_eq (lo := i) (hi := j) (n := b.toArray.size) (by rw [hl]) (by simpa using hh) h1 (by simpa using h2)
  have hT : ({ s with heap := h', toks := tk' } : Shared).TypeIs (.ref a) "bytearray" := ⟨_, ho, rfl⟩
  refine tail_any hT B.slot_ba_get.lookup (ba_get (b := b.toArray) ho hu hv' hs ?_ ?_) rfl
  · rw [hb, sliced_eq b h1 h2]
    refine ⟨_, ρ, iv'.new (o' := .ba ((b.drop l).take (h - l))) (Nat.le_refl _) (fun b o e => Heap.get?_push_of_some _ e) ⟨Heap.get?_push_size _ rfl, by simp; omega⟩ _, ?_⟩
    exact q _ iv'.none_at
  · rw [hb, sliced_eq b h1 h2]; simp; omega
/-- x[lo:hi] = v, as long as what was there -/
theorem W_SliceSet (ok : F.Ok C) (co : C.Ok) (so : S.Ok C) (hg : A.guards = some []) {o value : Expr} {lo hi : Option Expr} {sp p pos : Pos} {Q : Flow → Hp → Loc → Prop}
    (hs : swapsWith value (some (.Subscript o (.Slice lo hi none sp) p)) pos.line F.env = pure false)
    (hval : W C F A (eval value F.env) σ ρ (fun v σ₁ ρ₁ => ∃ a b x i j l h, pe S F.sc σ₁ ρ₁ o = some (.ref a) ∧ σ₁ a = some (.ba b) ∧ Part S F.sc σ₁ ρ₁ lo i ∧ Part S F.sc σ₁ ρ₁ hi j ∧ i.getD 0 = (l : Nat) ∧ j.getD b.length = (h : Nat) ∧
      ((∃ c, v = .ref c ∧ σ₁ c = some (.ba x) ∧ c ≠ a) ∨ (∃ t, v = .bytes x.toArray t)) ∧ l + x.length = h ∧ h ≤ b.length ∧ Q .next (σ₁.put a (.ba (b.take l ++ x ++ b.drop h))) ρ₁) X) :
    W C F A (exec (.Assign [.Subscript o (.Slice lo hi none sp) p] value pos) F.env) σ ρ Q X := by
  intro s iv
  rw [exec_Assign_Subscript _ _ _ _ _ hs]
  refine wpN_bind (wpN_standAt (wpN_bind (hval.use iv (fun v s1 σ1 ρ1 i1 q1 => ?_) fun ea cls s' σ' ρ' y q => ⟨ea, cls, σ', ρ', rfl, y, q⟩)))
  obtain ⟨a, b, x, i, j, l, h, ho, ha, pl, ph, hl, hh, hsrc, hx, h2, q⟩ := q1
  rw [arm_assign_Subscript]
  refine wpN_bind (wpN_bind (wpN_holding (wpAny.n (pe_ok ok co so o ho s1 i1 _ _ fun a' tk ea => ?_))))
  have := er_ref_inv ea; subst this
  refine wpN_bind (wpN_holding (wpAny.n (slice_ok ok co so pl ph (i1.toks tk) fun c h' u v' tk' hu hv' hs hk iv' => ?_)))
  obtain ⟨hob, hz⟩ := (iv'.own a _ ha).2.2
  have h1 : l ≤ h := by omega
  have hb := bounds_eq (lo := i) (hi := j) (n := b.toArray.size) (by rw [hl]) (by simpa using hh) h1 (by simpa using h2)
  have hsp := spliced_eq b x h1 h2
  have hlen : (b.take l ++ x ++ b.drop h).length ≤ sizeLine := by simp; omega
  refine wpN_bind (wpN_standAt (wpN_bind (wpN_holding ?_)))
  rcases hsrc with ⟨d, hd, hdx, hda⟩ | ⟨t, hv⟩
  · have := er_ref_inv (show er v = .ref d from hd); subst this
    obtain ⟨hod, hzd⟩ := (iv'.own d _ hdx).2.2
    refine ba_set_ba (b := b.toArray) (n := x.toArray) hob hod hda hu hv' hs ?_ ?_ fun h'' hs'' ho'' => ?_
    · rw [hb]; simp; omega
    · rw [hb, hsp]; simpa using hlen
    · rw [hb, hsp] at ho''
      exact nRelease (wpN_pure ⟨_, ρ1, iv'.put (o' := .ba (b.take l ++ x ++ b.drop h)) ok ha (fun z => by cases z) hs'' ⟨ho'', hlen⟩ _, q⟩)
  · obtain ⟨t', rfl⟩ := er_bytes_inv' (show er v = .bytes x.toArray t from hv)
    refine ba_set_bytes (b := b.toArray) (x := x.toArray) hg hob hu hv' hs ?_ (by simp; omega) ?_ fun h₃ h'' hk₃ hs'' ho'' => ?_
    · rw [hb]; simp; omega
    · rw [hb, hsp]; simpa using hlen
    · rw [hb, hsp] at ho''
      exact nRelease (wpN_pure ⟨_, ρ1, (iv'.ext hk₃ tk').put (o' := .ba (b.take l ++ x ++ b.drop h)) ok ha (fun z => by cases z) hs'' ⟨ho'', hlen⟩ _, q⟩)
end
end Mine
end
/- part FbPack -/
section
open PySem PySem.W PySem.Spec PySem.Calls PyProof.Rows
set_option Elab.async false
set_option maxRecDepth 100000
set_option linter.all false
namespace Mine
open Builtin Builtin.Bytes Builtin.Struct
/-- a format of one number: sign and width -/
def fmt1 (c : Char) (k : Nat) : Format := ⟨false, false, [⟨c, 1, 0, k⟩], k, 1⟩
theorem parse_B : parse #[60, 66] = pure (fmt1 'B' 1) := by kernel_rfl
theorem parse_H : parse #[60, 72] = pure (fmt1 'H' 2) := by kernel_rfl
theorem parse_I : parse #[60, 73] = pure (fmt1 'I' 4) := by kernel_rfl
theorem parse_i : parse #[60, 105] = pure (fmt1 'i' 4) := by kernel_rfl
namespace B
theorem sub_st : isSubtype (.type "_struct.Struct") (.type "_struct.Struct") = pure true := by rw [isSubtype_type]; kernel_rfl
theorem slot_pack : Slot "_struct.Struct" "pack_into" "_struct.Struct.pack_into" :=
  .of (owner := "_struct.Struct") (n := "pack_into") (by rw [typeLookup_type, builtinLookup_eq_fast]; kernel_rfl) (by decide +kernel) (by decide +kernel) (by decide +kernel)
    (by first | exact .inl (by decide +kernel) | exact .inr (by decide +kernel)) sub_st
theorem slot_unpack : Slot "_struct.Struct" "unpack_from" "_struct.Struct.unpack_from" :=
  .of (owner := "_struct.Struct") (n := "unpack_from") (by rw [typeLookup_type, builtinLookup_eq_fast]; kernel_rfl) (by decide +kernel) (by decide +kernel) (by decide +kernel)
    (by first | exact .inl (by decide +kernel) | exact .inr (by decide +kernel)) sub_st
theorem entry_pack : entryFor table "_struct.Struct.pack_into" = some Builtin.«_struct.Struct.pack_into» := entryFor_of_tree (by kernel_rfl)
theorem entry_held : entryFor table "_struct.pack_into.held" = some Builtin.«_struct.pack_into.held» := entryFor_of_tree (by kernel_rfl)
theorem entry_unpack : entryFor table "_struct.Struct.unpack_from" = some Builtin.«_struct.Struct.unpack_from» := entryFor_of_tree (by kernel_rfl)
theorem args_pack (a b c d : Value) : argsOk "_struct.Struct.pack_into" ⟨[a, b, c, d], []⟩ := by unfold argsOk; kernel_rfl
theorem args_unpack (a b c : Value) : argsOk "_struct.Struct.unpack_from" ⟨[a, b, c], []⟩ := by unfold argsOk; kernel_rfl
theorem ty_pack : typeOf (.builtin "_struct.Struct.pack_into") = pure (.type "method_descriptor") := by kernel_rfl
theorem ty_unpack : typeOf (.builtin "_struct.Struct.unpack_from") = pure (.type "method_descriptor") := by kernel_rfl
theorem bind_unpack (a b : Value) : bindOptional "_struct.Struct.unpack_from" "unpack_from" ["buffer", "offset"] [a, b] [] = pure [some a, some b] := by kernel_rfl
end B

theorem plain_st : PlainAttrs "_struct.Struct" := ⟨⟨"_struct.Struct.__getattribute__", by rw [typeLookup_type, builtinLookup_eq_fast]; kernel_rfl, by decide +kernel⟩, by rw [typeLookup_type, builtinLookup_eq_fast]; kernel_rfl⟩
section
variable {prog : Program} {w : World} {A : Around} {E : Value → Shared → Prop} {s : Shared} {S a : Addr} {fmt : Array UInt8} {tk t u : Tok} {c : Char} {k : Nat} {b : Array UInt8}
theorem buffer_ba {id : String} {full : Bool} (ha : s.heap.get? a = some (baObj b)) {Q : Option (Array UInt8) → Shared → Prop} (h : Q (some b) s) : wpAny (model prog w) A (buffer? id (.ref a) full) Q E s := by
  have hT : s.TypeIs (.ref a) "bytearray" := ⟨_, ha, rfl⟩
  unfold buffer?
  refine wpAny_bind (wpAny_specialOf hT lookup_ba_buf ?_)
  refine wpAny_bind (slotIsOwn_buf hT ?_)
  rw [if_neg (by decide)]
  refine wpAny_bind (wpAny_specialOf hT lookup_ba_buf ?_)
  refine wpAny_bind (ownRelease_ba hT ?_)
  rw [if_neg (by decide)]
  unfold payload payload?
  exact wpAny_bind (wpAny_bind (wpAny_bind (wpAny_load ha (wpAny_pure (wpAny_pure (wpAny_pure h))))))
theorem bytesLike_ba {id : String} (ha : s.heap.get? a = some (baObj b)) {Q : Array UInt8 → Shared → Prop} (h : Q b s) : wpAny (model prog w) A (bytesLike id (.ref a)) Q E s := by
  unfold bytesLike
  exact wpAny_bind (buffer_ba ha (wpAny_pure h))
abbrev stObj (fmt : Array UInt8) (tk : Tok) : Obj := { cls := .type "_struct.Struct", data := .fields #[.bytes fmt tk] }
theorem fmt_of {M : Model} {F : Format} {Q : Array UInt8 × Format → Shared → Prop} (hS : s.heap.get? S = some (stObj fmt tk)) (hp : parse fmt = pure F) (h : Q (fmt, F) s) : wpAny M A (structFormat (.ref S)) Q E s := by
  unfold structFormat
  refine wpAny_bind (wpAny_field (x := .bytes fmt tk) hS rfl rfl ?_)
  rw [if_neg (by simp)]
  refine wpAny_bind (wpAny_of_eq (a := fmt) rfl ?_)
  rw [hp]
  exact wpAny_bind (wpAny_pure (wpAny_pure h))
theorem placeIn_ok {M : Model} {name verb nr : String} {F : Format} {len : Nat} {off : Int} {Q : Nat → Shared → Prop} (h0 : 0 ≤ off) (h1 : off + F.size ≤ len) (h : Q off.toNat s) : wpAny M A (placeIn name verb nr F len off) Q E s := by
  unfold placeIn
  rw [if_neg (by omega)]
  dsimp only
  rw [if_neg (by omega), if_neg (by omega)]
  exact wpAny_pure h
def IntC (c : Char) : Prop := c = 'B' ∨ c = 'H' ∨ c = 'I' ∨ c = 'i' ∨ c = 'b' ∨ c = 'h' ∨ c = 'q' ∨ c = 'Q'
def numOf (c : Char) (k : Nat) (raw : Array UInt8) : Int := if (c.isLower && decide (natOf false raw ≥ 2 ^ (8 * k - 1))) = true then (natOf false raw : Int) - 2 ^ (8 * k) else natOf false raw
theorem unpacked_eq (hc : IntC c) {id : String} {st : Nat} : Struct.unpacked id (fmt1 c k) b st = (do let v ← mkInt (numOf c k (b.extract (st + 0 + 0 * k) (st + 0 + (0 + 1) * k))); newTuple [v]) := by
  rcases hc with rfl | rfl | rfl | rfl | rfl | rfl | rfl | rfl <;> with_unfolding_all rfl
theorem unpack_ba {off : Int} {Q : Value → Shared → Prop} (hc : IntC c) (hS : s.heap.get? S = some (stObj fmt tk)) (hp : parse fmt = pure (fmt1 c k)) (ha : s.heap.get? a = some (baObj b)) (h0 : 0 ≤ off) (h1 : off + k ≤ b.size) (hz : b.size ≤ sizeLine)
    (h : ∀ x h' tk, s.heap.objs.size ≤ x → s.heap.StaysIn h' → h'.get? x = some { cls := .type "tuple", data := .seq #[.int (numOf c k (b.extract off.toNat (off.toNat + k))) tk] } → Q (.ref x) { s with heap := h', toks := s.toks + 1 }) : wpN (model prog w) A (call (.builtin "_struct.Struct.unpack_from") [.ref S, .ref a, .int off t]) Q E s := by
  have hT : s.TypeIs (.ref S) "_struct.Struct" := ⟨_, hS, rfl⟩
  have hl : (sizeLine : Nat) = 16777216 := rfl
  refine wpAny.n (wpAny_call_entry B.slot_unpack hT B.entry_unpack ?_ (B.args_unpack _ _ _))
  unfold Builtin.«_struct.Struct.unpack_from»
  simp only [B.bind_unpack, pure_bind]
  unfold unpackFrom
  refine wpAny_bind (bytesLike_ba ha ?_)
  refine wpAny_bind (wpAny_of_eq (a := off) rfl ?_)
  rw [if_neg (by simp only [fitsIndex, Bool.not_eq_true', Bool.and_eq_false_iff, decide_eq_false_iff_not]; omega)]
  refine wpAny_bind (wpAny_pure ?_)
  refine wpAny_bind (wpAny_bind (fmt_of hS hp (wpAny_pure ?_)))
  rw [if_pos (by rfl)]
  refine wpAny_bind (bytesLike_ba ha ?_)
  refine wpAny_bind (placeIn_ok h0 h1 ?_)
  rw [unpacked_eq hc]
  refine wpAny_bind (wpAny_bind (wpAny_mkInt ?_))
  refine wpAny_newObj_type ?_ (by show 1 ≤ sizeLine; decide)
  refine wpAny_pure ⟨_, rfl, h _ _ s.toks (Nat.le_refl _) (fun b o e => Heap.get?_push_of_some _ e) ?_⟩
  rw [Heap.get?_push_size _ rfl]; simp

def loOf (c : Char) (k : Nat) : Int := if c.isLower = true then -(2 ^ (8 * k - 1)) else 0
def hiOf (c : Char) (k : Nat) : Int := (if c.isLower = true then 2 ^ (8 * k - 1) else 2 ^ (8 * k)) - 1
/-- the array behind a store of some octets in its midst -/
def placed (b : Array UInt8) (p : Nat) (raw : Array UInt8) : Array UInt8 := raw.toList.zipIdx.foldl (fun out x => out.setIfInBounds (p + x.2) x.1) b
theorem placed_size (p : Nat) : ∀ (l : List (UInt8 × Nat)) (b : Array UInt8), (l.foldl (fun out x => out.setIfInBounds (p + x.2) x.1) b).size = b.size
  | [], _ => rfl
  | x :: r, b => by rw [List.foldl_cons, placed_size p r]; simp
theorem packHeld_ok {id : String} {off n : Int} {Q : Fin → Shared → Prop} (hc : IntC c) (ha : s.heap.get? a = some (baObj b)) (h0 : 0 ≤ off) (h1 : off + k ≤ b.size) (hz : b.size ≤ sizeLine) (hlo : loOf c k ≤ n) (hhi : n ≤ hiOf c k)
    (h : ∀ h', Heap.SameBut a s.heap h' → h'.get? a = some (baObj (placed (placed b off.toNat (Array.replicate k 0)) off.toNat (intBytes false k n))) → Q (.done (.ret .none)) { s with heap := h' }) :
    wpAny (model prog w) A (packHeld id (fmt1 c k) (.ref a) 0 b.size (.int off t) [.int n u]) Q E s := by
  have hl : (sizeLine : Nat) = 16777216 := rfl
  unfold packHeld
  refine wpAny_bind (wpAny_of_eq (a := off) rfl ?_)
  rw [if_neg (by simp only [fitsIndex, Bool.not_eq_true', Bool.and_eq_false_iff, decide_eq_false_iff_not]; omega)]
  refine wpAny_bind (placeIn_ok h0 h1 ?_)
  dsimp only
  refine wpAny_bind (write_ba (f := fun x => placed x (0 + off.toNat) (Array.replicate (fmt1 c k).size 0)) ha (by unfold placed; rw [placed_size]; exact hz) fun h₁ hs₁ ho₁ => ?_)
  rw [show 0 + off.toNat = off.toNat from Nat.zero_add _] at ho₁ ⊢
  unfold packEach fmt1
  have hcd : ∀ c : Char, loOf c k ≤ n → n ≤ hiOf c k → ¬ ((decide (n < if c.isLower = true then -2 ^ (8 * k - 1) else 0) || decide (n > (if c.isLower = true then 2 ^ (8 * k - 1) else 2 ^ (8 * k)) - 1)) = true) := fun c h2 h3 => by
    unfold loOf at h2; unfold hiOf at h3
    rw [Bool.or_eq_true, decide_eq_true_eq, decide_eq_true_eq]
    exact fun z => z.elim (fun z => absurd h2 (Int.not_le.mpr z)) fun z => absurd h3 (Int.not_le.mpr z)
  have hfin : wpAny (model prog w) A (write (.ref a) (fun x => placed x off.toNat (intBytes false k n)) >>= fun _ => ret .none) Q E { s with heap := h₁ } :=
    wpAny_bind (write_ba (f := fun x => placed x off.toNat (intBytes false k n)) ho₁ (by unfold placed; rw [placed_size, placed_size]; exact hz) fun h₂ hs₂ ho₂ => wpAny_pure (h h₂ (hs₁.trans hs₂) ho₂))
  rcases hc with rfl | rfl | rfl | rfl | rfl | rfl | rfl | rfl
  all_goals
    simp [Std.Legacy.Range.forIn_eq_forIn_range', Std.Legacy.Range.size]
    refine wpAny_bind (wpAny_bind ?_)
    repeat lk
    rw [if_neg (hcd _ hlo hhi)]
    exact wpAny_pure hfin
theorem held_quiet (args : Args) : (Code.builtin "_struct.pack_into.held" args).quiet = true := Code.quiet_builtin _ (by decide +kernel)
/-- n written at off, as the format says -/
theorem pack_ba {off n : Int} {Q : Value → Shared → Prop} (hc : IntC c) (hS : s.heap.get? S = some (stObj fmt tk)) (hp : parse fmt = pure (fmt1 c k)) (ha : s.heap.get? a = some (baObj b)) (h0 : 0 ≤ off) (h1 : off + k ≤ b.size) (hz : b.size ≤ sizeLine)
    (hlo : loOf c k ≤ n) (hhi : n ≤ hiOf c k)
    (h : ∀ h', Heap.SameBut a s.heap h' → h'.get? a = some (baObj (placed (placed b off.toNat (Array.replicate k 0)) off.toNat (intBytes false k n))) → Q .none { s with heap := h' }) :
    wpN (model prog w) A (call (.builtin "_struct.Struct.pack_into") [.ref S, .ref a, .int off t, .int n u]) Q E s := by
  have hT : s.TypeIs (.ref S) "_struct.Struct" := ⟨_, hS, rfl⟩
  have hTa : s.TypeIs (.ref a) "bytearray" := ⟨_, ha, rfl⟩
  refine wpN_call (codeN_call_builtin rfl B.slot_pack.plain B.entry_pack (B.slot_pack.check _ _ _ _ _ _ _ _ hT (B.args_pack _ _ _ _) (wpAny.n ?_)))
  unfold Builtin.«_struct.Struct.pack_into»
  refine wpAny_bind (wpAny_of_eq (a := ()) rfl ?_)
  refine wpAny_bind (fmt_of hS hp ?_)
  refine wpAny_bind (wpAny_field (x := .bytes fmt tk) hS rfl rfl ?_)
  unfold packInto
  rw [if_neg (by simp [fmt1])]
  dsimp only
  refine wpAny_bind (wpAny_specialOf hTa lookup_ba_buf ?_)
  unfold payload payload?
  refine wpAny_bind (wpAny_bind (wpAny_bind (wpAny_load ha (wpAny_pure (wpAny_pure ?_)))))
  refine wpAny_bind (wpAny_pure ?_)
  refine wpAny_pure ⟨held_quiet _, codeN_builtin rfl B.entry_held (wpAny.n ?_)⟩
  unfold Builtin.«_struct.pack_into.held»
  dsimp only
  refine wpAny_bind (wpAny_of_eq (a := fmt) rfl ?_)
  rw [hp]
  refine wpAny_bind (wpAny_pure ?_)
  exact packHeld_ok hc ha h0 h1 hz hlo hhi fun h' hs' ho' => h h' hs' ho'
end
end Mine
end
/- part FbLeaf -/
section
open PySem PySem.W PySem.Spec PySem.Calls PyProof.Rows
set_option Elab.async false
set_option maxRecDepth 100000
set_option linter.all false
namespace Mine
def Keeps (C : Cx) (f : Value) : Prop := ∀ (M : Model) h, C.K.In h → ∃ k, (k = Keeper.frame ∨ k = Keeper.machine ∨ k = Keeper.boundFrame) ∧ Looks M h (keeperOf f) k
theorem keeps_of {C : Cx} {f : Value} (h : keepIn C.K f = true) : Keeps C f := fun M g X => keeps_K h g X
theorem keeps_type {C : Cx} {n : String} : Keeps C (.type n) := fun M g X => ⟨.machine, .inr (.inl rfl), Looks.of_pure rfl⟩
theorem keeps_builtin {C : Cx} {n : String} : Keeps C (.builtin n) := fun M g X => ⟨.machine, .inr (.inl rfl), Looks.of_pure rfl⟩
def noStar : List Expr → Bool
  | [] => true
  | .Starred .. :: _ => false
  | _ :: r => noStar r
theorem star_of {env : Env} {e : Expr} {r : List Expr} (h : noStar (e :: r) = true) : starEach (e :: r) env = (false, eval e env) :: starEach r env ∧ noStar r = true := by
  cases e <;> first | exact ⟨rfl, h⟩ | cases h
theorem plain_of {env : Env} {pos : Pos} : ∀ {es : List Expr}, noStar es = true → ((backTo pos (starEach es env)).any (·.1)) = false
  | [], _ => rfl
  | e :: es, h => by
    obtain ⟨h1, h2⟩ := star_of (env := env) h
    rw [h1]
    show (false || _) = false
    exact plain_of h2
section
variable {C : Cx} {S : St} {F : Fm} {A : Around} {σ : Hp} {ρ : Loc} {X : Value → Hp → Loc → Prop}
theorem W_callWithG (co : C.Ok) {pos : Pos} {f : Value} {first : List Value} {es : List Expr} {Q : Value → Hp → Loc → Prop} (hk : Keeps C f) (hs : noStar es = true)
    (h : W C F A (spliced (backTo pos (starEach es F.env))) σ ρ (fun args σ₁ ρ₁ => ∀ vs, vs.map er = args → W C F A (call f (first ++ vs) []) σ₁ ρ₁ Q X) X) : W C F A (callWith pos f first (backTo pos (starEach es F.env)) []) σ ρ Q X := by
  intro s i
  refine nCallWith (P := C.K.In) (plain_of hs) (hk _) ?_
  have h' : wpN (model C.prog C.w) A (spliced (backTo pos (starEach es F.env))) (fun vs s' => C.K.In s'.heap ∧ wpN (model C.prog C.w) A (call f (first ++ vs) []) (fun a s' => ∃ σ' ρ', Inv C F σ' ρ' s' ∧ Q (Er.e a) σ' ρ') (fun e s' => ∃ ea cls σ' ρ', e = .ref ea ∧ Exc C F σ' ρ' ea cls s' ∧ X cls σ' ρ') s') (fun e s' => ∃ ea cls σ' ρ', e = .ref ea ∧ Exc C F σ' ρ' ea cls s' ∧ X cls σ' ρ') s :=
    h.use i (fun vs s1 σ1 ρ1 i1 q1 => ⟨i1.kin co, q1 vs rfl s1 i1⟩) fun ea cls s' σ' ρ' y q => ⟨ea, cls, σ', ρ', rfl, y, q⟩
  cases es with
  | nil =>
    rw [show evalArgs f true (backTo pos (starEach [] F.env)) [] = (spliced (backTo pos (starEach [] F.env)) >>= fun vs => pure ⟨vs, []⟩) from rfl]
    exact wpN_bind (wpN_mono h' (fun vs s' h' => wpN_pure h') fun _ _ x => x)
  | cons e es =>
    obtain ⟨hh, _⟩ := star_of (env := F.env) hs
    rw [hh] at h' ⊢
    exact nEvalArgs h'

theorem W_args1 {pos : Pos} {e : Expr} {Q : List Value → Hp → Loc → Prop} (hs : noStar [e] = true) (h : W C F A (eval e F.env) σ ρ (fun v σ₁ ρ₁ => Q [v] σ₁ ρ₁) X) : W C F A (spliced (backTo pos (starEach [e] F.env))) σ ρ Q X :=
  W_args_cons (star_of hs).1 (h.mono (fun v σ₁ ρ₁ q => W_args_nil q) fun _ _ _ x => x)
/-- f(es), f a name -/
theorem W_CallN (ok : F.Ok C) (co : C.Ok) (so : S.Ok C) {x : Str} {np pos : Pos} {es : List Expr} {f : Value} {Q : Value → Hp → Loc → Prop} (hf : pe S F.sc σ ρ (.Name x np) = some f) (hr : ∀ v, er v = f → v = f) (hk : Keeps C f) (hs : noStar es = true)
    (h : W C F A (spliced (backTo pos (starEach es F.env))) σ ρ (fun args σ₁ ρ₁ => ∀ vs, vs.map er = args → W C F A (call f vs []) σ₁ ρ₁ Q X) X)
    (he : eval (.Call (.Name x np) es [] pos) F.env = (do let f ← eval (.Name x np) F.env; callWith pos f [] (backTo pos (starEach es F.env)) [])) : W C F A (eval (.Call (.Name x np) es [] pos) F.env) σ ρ Q X := by
  intro s i
  rw [he]
  refine wpN_bind (wpAny.n (pe_ok ok co so _ hf s i _ _ fun g tk eg => ?_))
  have := hr g eg; subst this
  exact W_callWithG (first := []) co hk hs h _ (i.toks tk)
/-- how a method is found -/
def GM (C : Cx) (F : Fm) (A : Around) (σ : Hp) (ρ : Loc) (ov : Value) (x : Str) (f : Value) (fst : Bool) : Prop :=
  ∀ pl s, Inv C F σ ρ s → ∀ ov', er ov' = ov → ∀ (Q : Value × List Value → Shared → Prop) (E : Value → Shared → Prop), (∀ tk, Q (f, if fst then [ov'] else []) { s with toks := tk }) → wpAny (model C.prog C.w) A (getMethod ov' x pl) Q E s
/-- o.x(es), o pure -/
theorem W_CallA (ok : F.Ok C) (co : C.Ok) (so : S.Ok C) {o : Expr} {x : Str} {ap pos : Pos} {es : List Expr} {f ov : Value} {fst : Bool} {pl : Sem Bool} {Q : Value → Hp → Loc → Prop}
    (ho : pe S F.sc σ ρ o = some ov) (hm : GM C F A σ ρ ov x f fst) (hk : Keeps C f) (hs : noStar es = true)
    (h : ∀ ov', er ov' = ov → W C F A (spliced (backTo pos (starEach es F.env))) σ ρ (fun args σ₁ ρ₁ => ∀ vs, vs.map er = args → W C F A (call f ((if fst then [ov'] else []) ++ vs) []) σ₁ ρ₁ Q X) X)
    (he : eval (.Call (.Attribute o x ap) es [] pos) F.env = (do let ov ← eval o F.env; standAt ap.atName; let fx ← holding [ov] (getMethod ov x pl); callWith pos fx.1 fx.2 (backTo pos (starEach es F.env)) [])) :
    W C F A (eval (.Call (.Attribute o x ap) es [] pos) F.env) σ ρ Q X := by
  intro s i
  rw [he]
  refine wpN_bind (wpAny.n (pe_ok ok co so _ ho s i _ _ fun g tk eg => ?_))
  refine wpN_bind (wpN_standAt (wpN_bind (wpN_holding (wpAny.n (hm _ _ (i.toks tk) g eg _ _ fun tk' => ?_)))))
  exact W_callWithG co hk hs (h g eg) _ (i.toks tk')
theorem gm_inst (ok : F.Ok C) (co : C.Ok) {b Cl dx f : Addr} {sl : List (Option Value)} {x : Str} (e : σ b = some (.inst Cl dx sl)) (h : MethOk C.K Cl x f) : GM C F A σ ρ (.ref b) x (.ref f) true := by
  intro pl s i ov' hov Q E q
  have := er_ref_inv hov; subst this
  exact meth_get ok co e h i (q s.toks)
theorem gm_struct (co : C.Ok) {a : Addr} {fmt : Array UInt8} {tk : Tok} {x : Str} {id : String} (ha : C.K.lookup a = some (stObj fmt tk)) (slot : Slot "_struct.Struct" x id) (ty : typeOf (.builtin id) = pure (.type "method_descriptor")) : GM C F A σ ρ (.ref a) x (.builtin id) true := by
  intro pl s i ov' hov Q E q
  have := er_ref_inv hov; subst this
  have hT : s.heap.get? a = some (stObj fmt tk) := i.kin co _ _ ha
  exact getMethod_builtin ⟨_, hT, rfl⟩ plain_st slot ty (fun b e => by cases e; exact ⟨_, hT, rfl⟩) (q s.toks)
theorem gm_append {l : Addr} {xs : List Value} (e : σ l = some (.list xs)) : GM C F A σ ρ (.ref l) (Str.ofString "append") (.builtin "list.append") true := by
  intro pl s i ov' hov Q E q
  have := er_ref_inv hov; subst this
  obtain ⟨items, n, h1, _⟩ := (i.own l _ e).2.2
  exact getMethod_list_append h1 rfl rfl (q s.toks)

/- calls of built-ins -/
theorem W_int {n : Int} {vs : List Value} {Q : Value → Hp → Loc → Prop} (hv : vs.map er = [.int n 0]) (q : Q (.int n 0) σ ρ) : W C F A (call (.type "int") vs []) σ ρ Q X := by
  intro s i
  obtain ⟨v, rfl, hv2⟩ := List.map_eq_singleton_iff.mp hv
  obtain ⟨t, rfl⟩ := er_int_inv hv2
  exact wpAny.n (call_int_int ⟨σ, ρ, i, q⟩)
theorem two_of {vs : List Value} {x y : Value} (h : vs.map er = [x, y]) : ∃ a b, vs = [a, b] ∧ er a = x ∧ er b = y := by
  match vs, h with
  | [a, b], h => simp at h; exact ⟨a, b, rfl, h.1, h.2⟩
theorem three_of {vs : List Value} {x y z : Value} (h : vs.map er = [x, y, z]) : ∃ a b c, vs = [a, b, c] ∧ er a = x ∧ er b = y ∧ er c = z := by
  match vs, h with
  | [a, b, c], h => simp at h; exact ⟨a, b, c, rfl, h.1, h.2.1, h.2.2⟩
theorem W_min (ar : A.handled = none) {m n : Int} {vs : List Value} {Q : Value → Hp → Loc → Prop} (hv : vs.map er = [.int m 0, .int n 0]) (q : Q (.int (if n < m then n else m) 0) σ ρ) : W C F A (call (.builtin "min") vs []) σ ρ Q X := by
  intro s i
  obtain ⟨a, b, rfl, ha, hb⟩ := two_of hv
  obtain ⟨t, rfl⟩ := er_int_inv ha; obtain ⟨u, rfl⟩ := er_int_inv hb
  refine wpAny.n (min_two_ints ar fun h' tk hk => ⟨σ, ρ, i.ext hk tk, ?_⟩)
  by_cases z : n < m
  · rw [if_pos z]; rw [if_pos z] at q; exact q
  · rw [if_neg z]; rw [if_neg z] at q; exact q
theorem W_bytearray (hg : A.guards = some []) {n : Int} {vs : List Value} {Q : Value → Hp → Loc → Prop} (hv : vs.map er = [.int n 0]) (h0 : 0 ≤ n) (hn : n ≤ sizeLine) (q : ∀ a, σ a = none → Q (.ref a) (σ.put a (.ba (List.replicate n.toNat 0))) ρ) : W C F A (call (.type "bytearray") vs []) σ ρ Q X := by
  intro s i
  obtain ⟨v, rfl, hv2⟩ := List.map_eq_singleton_iff.mp hv
  obtain ⟨t, rfl⟩ := er_int_inv hv2
  refine ba_new h0 hn hg fun a h' tk ha hk ho => ?_
  have hn' : (List.replicate n.toNat (0 : UInt8)).length ≤ sizeLine := by simp; omega
  have na : σ a = none := by
    cases e : σ a with
    | none => rfl
    | some o => exact absurd (i.lt e) (Nat.not_lt.mpr ha)
  exact ⟨_, ρ, i.new (o' := .ba (List.replicate n.toNat 0)) ha hk ⟨by rw [ho]; simp, hn'⟩ tk, q a na⟩
end
end Mine
end
/- part FbLe -/
section
open PySem PySem.W PySem.Spec PySem.Calls PyProof.Rows
set_option Elab.async false
set_option maxRecDepth 100000
set_option linter.all false
namespace Mine
open Builtin Builtin.Bytes Builtin.Struct
/-- octets of a number, the lowest first -/
def le : Nat → Nat → List UInt8
  | 0, _ => []
  | k + 1, n => (n % 256).toUInt8 :: le k (n / 256)
def un : List UInt8 → Nat
  | [] => 0
  | c :: r => un r * 256 + c.toNat
theorem le_length : ∀ k n, (le k n).length = k
  | 0, _ => rfl
  | k + 1, n => by rw [le, List.length_cons, le_length k]
theorem le_range : ∀ k n, ((List.range k).map fun j => (n / 256 ^ j % 256).toUInt8) = le k n
  | 0, _ => rfl
  | k + 1, n => by
    rw [List.range_succ_eq_map, List.map_cons, List.map_map, le, ← le_range k (n / 256)]
    simp only [Nat.pow_zero, Nat.div_one]
    congr 1
    refine List.map_congr_left fun j _ => ?_
    simp only [Function.comp_apply, Nat.succ_eq_add_one, Nat.pow_succ]
    rw [Nat.div_div_eq_div_mul, Nat.mul_comm 256]
theorem toLE (k n : Nat) : Memoryview.toLittleEndian k n = (le k n).toArray := by
  unfold Memoryview.toLittleEndian; rw [le_range]
theorem byte_nat (n : Nat) : (n % 256).toUInt8.toNat = n % 256 := by
  simp [Nat.toUInt8]
theorem un_le : ∀ k n, un (le k n) = n % 256 ^ k
  | 0, n => by simp [le, un, Nat.mod_one]
  | k + 1, n => by
    rw [le, un, un_le k, byte_nat, Nat.pow_succ, Nat.mul_comm (256 ^ k) 256, Nat.mod_mul]
    omega
theorem natOf_eq (l : List UInt8) : natOf false l.toArray = un l := by
  unfold natOf Memoryview.littleEndian
  simp only [Bool.false_eq_true, if_false, List.foldr_toArray']
  induction l with
  | nil => rfl
  | cons c r ih => simp [un, ih]
/-- n as an unsigned number of k octets -/
def wrap (k : Nat) (n : Int) : Nat := (n % 2 ^ (8 * k)).toNat
theorem intBytes_eq (k : Nat) (n : Int) : intBytes false k n = (le k (wrap k n)).toArray := by
  unfold intBytes wrap
  simp only [Bool.false_eq_true, if_false]
  exact toLE _ _
theorem pow_8 (k : Nat) : (2 : Nat) ^ (8 * k) = 256 ^ k := by rw [Nat.pow_mul]
theorem wrap_lt (k : Nat) (n : Int) : wrap k n < 256 ^ k := by
  unfold wrap
  have h : (0 : Int) < 2 ^ (8 * k) := Int.pow_pos (by decide)
  have h1 := Int.emod_lt_of_pos n h
  have h2 := Int.emod_nonneg n (Int.ne_of_gt h)
  have h3 : ((2 : Int) ^ (8 * k)) = ((256 ^ k : Nat) : Int) := by rw [← pow_8]; simp
  rw [h3] at h1 h2 ⊢
  omega
theorem un_wrap (k : Nat) (n : Int) : un (le k (wrap k n)) = wrap k n := by rw [un_le, Nat.mod_eq_of_lt (wrap_lt k n)]
theorem num_pack {c : Char} {k : Nat} {n : Int} (hk : 1 ≤ k) (h1 : loOf c k ≤ n) (h2 : n ≤ hiOf c k) : numOf c k (le k (wrap k n)).toArray = n := by
  unfold numOf
  rw [natOf_eq, un_wrap]
  unfold loOf at h1; unfold hiOf at h2
  have e1 : (2 : Int) ^ (8 * k) = 2 * 2 ^ (8 * k - 1) := by
    conv => lhs; rw [show 8 * k = (8 * k - 1) + 1 by omega, Int.pow_succ]
    rw [Int.mul_comm]
  have hp : (0 : Int) < 2 ^ (8 * k - 1) := Int.pow_pos (by decide)
  have e2 : ((2 ^ (8 * k - 1) : Nat) : Int) = (2 : Int) ^ (8 * k - 1) := by simp
  have hw : ((wrap k n : Nat) : Int) = n % 2 ^ (8 * k) := by
    unfold wrap
    have := Int.emod_nonneg n (Int.ne_of_gt (show (0 : Int) < 2 ^ (8 * k) from Int.pow_pos (by decide)))
    omega
  cases hc : c.isLower with
  | false =>
    rw [hc] at h1 h2
    simp only [Bool.false_eq_true, if_false] at h1 h2
    simp only [Bool.false_and, Bool.false_eq_true, if_false]
    rw [hw, Int.emod_eq_of_lt h1 (by omega)]
  | true =>
    rw [hc] at h1 h2
    simp only [if_true] at h1 h2
    simp only [Bool.true_and, decide_eq_true_eq]
    by_cases hn : 0 ≤ n
    · have : n % 2 ^ (8 * k) = n := Int.emod_eq_of_lt hn (by omega)
      rw [this] at hw
      rw [if_neg (by omega), hw]
    · have : n % 2 ^ (8 * k) = n + 2 ^ (8 * k) := by
        have := Int.add_mul_emod_self_left n (2 ^ (8 * k)) 1
        rw [Int.mul_one] at this
        rw [← this, Int.emod_eq_of_lt (by omega) (by omega)]
      rw [this] at hw
      rw [if_pos (by omega), hw]
      omega
theorem placed_list (p : Nat) : ∀ (x : List UInt8) (j : Nat) (b : List UInt8), p + j + x.length ≤ b.length → ((x.zipIdx j).foldl (fun out y => out.setIfInBounds (p + y.2) y.1) b.toArray) = (b.take (p + j) ++ x ++ b.drop (p + j + x.length)).toArray
  | [], j, b, h => by simp
  | c :: r, j, b, h => by
    rw [List.zipIdx_cons, List.foldl_cons]
    rw [List.length_cons] at h
    have e : b.toArray.setIfInBounds (p + j) c = (b.set (p + j) c).toArray := by simp
    dsimp only
    rw [e, placed_list p r (j + 1) (b.set (p + j) c) (by simp; omega)]
    congr 1
    have h1 : (b.set (p + j) c).take (p + (j + 1)) = b.take (p + j) ++ [c] := by
      rw [show p + (j + 1) = p + j + 1 by omega, List.take_add_one, List.take_set_of_le (by omega), List.getElem?_set_self (by omega)]
      rfl
    have h2 : (b.set (p + j) c).drop (p + (j + 1) + r.length) = b.drop (p + j + (c :: r).length) := by
      rw [List.drop_set_of_lt (by omega), List.length_cons]
      congr 1; omega
    rw [h1, h2]; simp
theorem placed_eq (b x : List UInt8) {p : Nat} (h : p + x.length ≤ b.length) : placed b.toArray p x.toArray = (b.take p ++ x ++ b.drop (p + x.length)).toArray := by
  unfold placed
  have := placed_list p x 0 b (by simpa using h)
  simpa using this
theorem placed_twice (b x y : List UInt8) {p k : Nat} (hx : x.length = k) (hy : y.length = k) (h : p + k ≤ b.length) : placed (placed b.toArray p x.toArray) p y.toArray = (b.take p ++ y ++ b.drop (p + k)).toArray := by
  rw [placed_eq b x (by omega), placed_eq _ y (by simp; omega)]
  congr 1
  have e1 : (b.take p ++ x ++ b.drop (p + x.length)).take p = b.take p := by
    rw [List.append_assoc, List.take_append_of_le_length (by simp; omega), List.take_take, Nat.min_self]
  have e2 : (b.take p ++ x ++ b.drop (p + x.length)).drop (p + y.length) = b.drop (p + k) := by
    rw [List.drop_append, List.drop_of_length_le (by simp; omega)]
    simp only [List.nil_append, List.length_append, List.length_take, List.drop_drop]
    congr 1; omega
  rw [e1, e2]
end Mine
end
/- part FbOps -/
section
open PySem PySem.W PySem.Spec PySem.Calls PyProof.Rows
set_option Elab.async false
set_option maxRecDepth 100000
set_option linter.all false
namespace Mine
section
variable {C : Cx} {S : St} {F : Fm} {A : Around} {σ : Hp} {ρ : Loc} {X : Value → Hp → Loc → Prop}
/-- Struct.pack_into -/
theorem W_pack (co : C.Ok) (ok : F.Ok C) {st a : Addr} {fmt : Array UInt8} {tk : Tok} {c : Char} {k p : Nat} {n off : Int} {b : List UInt8} {ov : Value} {vs : List Value} {Q : Value → Hp → Loc → Prop} (hc : IntC c)
    (hS : C.K.lookup st = some (stObj fmt tk)) (hp : Builtin.Struct.parse fmt = pure (fmt1 c k)) (hov : er ov = .ref st) (hv : vs.map er = [.ref a, .int off 0, .int n 0]) (ha : σ a = some (.ba b)) (ho : off = p) (h1 : p + k ≤ b.length)
    (hlo : loOf c k ≤ n) (hhi : n ≤ hiOf c k) (q : Q .none (σ.put a (.ba (b.take p ++ le k (wrap k n) ++ b.drop (p + k)))) ρ) : W C F A (call (.builtin "_struct.Struct.pack_into") (ov :: vs) []) σ ρ Q X := by
  intro s i
  have := er_ref_inv hov; subst this
  obtain ⟨v1, v2, v3, rfl, e1, e2, e3⟩ := three_of hv
  have := er_ref_inv e1; subst this
  obtain ⟨t, rfl⟩ := er_int_inv e2; obtain ⟨u, rfl⟩ := er_int_inv e3
  obtain ⟨hb, hz⟩ := (i.own a _ ha).2.2
  subst ho
  refine pack_ba (b := b.toArray) hc (i.kin co _ _ hS) hp hb (by omega) (by simp; omega) (by simpa using hz) hlo hhi fun h' hs' ho' => ?_
  have e0 : (Int.toNat (p : Int)) = p := by omega
  rw [e0, intBytes_eq, show (Array.replicate k (0 : UInt8)) = (List.replicate k (0 : UInt8)).toArray by simp, placed_twice _ _ _ (by simp) (le_length _ _) h1] at ho'
  have hl : (b.take p ++ le k (wrap k n) ++ b.drop (p + k)).length ≤ sizeLine := by simp [le_length]; omega
  exact ⟨_, ρ, i.put (o' := .ba (b.take p ++ le k (wrap k n) ++ b.drop (p + k))) ok ha (fun z => by cases z) hs' ⟨ho', hl⟩ s.toks, q⟩
/-- Struct.unpack_from -/
theorem W_unpack (co : C.Ok) (ok : F.Ok C) {st a : Addr} {fmt : Array UInt8} {tk : Tok} {c : Char} {k p : Nat} {off : Int} {b : List UInt8} {ov : Value} {vs : List Value} {Q : Value → Hp → Loc → Prop} (hc : IntC c)
    (hS : C.K.lookup st = some (stObj fmt tk)) (hp : Builtin.Struct.parse fmt = pure (fmt1 c k)) (hov : er ov = .ref st) (hv : vs.map er = [.ref a, .int off 0]) (ha : σ a = some (.ba b)) (ho : off = p) (h1 : p + k ≤ b.length)
    (q : ∀ x, σ x = none → Q (.ref x) (σ.put x (.tup [.int (numOf c k ((b.drop p).take k).toArray) 0])) ρ) : W C F A (call (.builtin "_struct.Struct.unpack_from") (ov :: vs) []) σ ρ Q X := by
  intro s i
  have := er_ref_inv hov; subst this
  obtain ⟨v1, v2, rfl, e1, e2⟩ := two_of hv
  have := er_ref_inv e1; subst this
  obtain ⟨t, rfl⟩ := er_int_inv e2
  obtain ⟨hb, hz⟩ := (i.own a _ ha).2.2
  subst ho
  refine unpack_ba (b := b.toArray) hc (i.kin co _ _ hS) hp hb (by omega) (by simp; omega) (by simpa using hz) fun x h' tk' hx hk ht => ?_
  have e0 : (Int.toNat (p : Int)) = p := by omega
  have e1 : (b.toArray.extract p (p + k)) = ((b.drop p).take k).toArray := by simp [List.extract_eq_drop_take]
  rw [e0, e1] at ht
  have na : σ x = none := by
    cases e : σ x with
    | none => rfl
    | some o => exact absurd (i.lt e) (Nat.not_lt.mpr hx)
  exact ⟨_, ρ, i.new (o' := .tup [.int (numOf c k ((b.drop p).take k).toArray) 0]) hx hk ⟨_, _, ht, by simp, by simp [sizeLine]⟩ _, q x na⟩
theorem one_of {vs : List Value} {x : Value} (h : vs.map er = [x]) : ∃ a, vs = [a] ∧ er a = x := by
  match vs, h with
  | [a], h => simp at h; exact ⟨a, rfl, h⟩
/-- x[j] of what an expression with effects gives -/
theorem W_Item (co : C.Ok) (ok : F.Ok C) (so : S.Ok C) {value slice : Expr} {pos : Pos} {Q : Value → Hp → Loc → Prop} (hns : ∀ l j u, subscripted slice false (.ref l) (.int j u) = operate [.ref l, .int j u] (getItem (.ref l) (.int j u)))
    (h : W C F A (eval value F.env) σ ρ (fun o σ₁ ρ₁ => ∃ k v, pe S F.sc σ₁ ρ₁ slice = some k ∧ pitem σ₁ o k = some v ∧ Q v σ₁ ρ₁) X) : W C F A (eval (.Subscript value slice pos) F.env) σ ρ Q X := by
  intro s i
  rw [eval_Subscript]
  refine wpN_bind (h.use i (fun o s₁ σ₁ ρ₁ i₁ q => ?_) fun ea cls s' σ' ρ' y q => ⟨ea, cls, σ', ρ', rfl, y, q⟩)
  obtain ⟨k, v, hk, hv, q⟩ := q
  refine wpN_bind (wpN_holding (wpAny.n (pe_ok ok co so _ hk s₁ i₁ _ _ fun k' tk ek => ?_)))
  refine wpN_bind (wpN_standAt (wpAny.n ?_))
  exact item_ok value slice hv rfl ek hns _ (i₁.toks tk) _ _ fun w tk' ew => ⟨σ₁, ρ₁, i₁.toks tk', by show Q (er w) σ₁ ρ₁; rw [ew]; exact q⟩
end
/-- a class attribute that is itself a built-in type -/
def TypIn (K : Frag) (a : Addr) (x : Str) (T : String) : Prop := ∃ mc, typeIn K (.ref a) = some mc ∧ readsIn K a mc = true ∧ findIn K mc x = some none ∧ findIn K (.ref a) x = some (some (.type T)) ∧ Builtin.heldUnderItsOwnName x (.type T) = false ∧
  specialIn K (.ref a) "__getattribute__" = some (some (.builtin "type.__getattribute__"))
section
variable {prog : Program} {w : World} {A : Around} {E : Value → Shared → Prop} {s : Shared} {K : Frag} {name : Str}
theorem typ_get {a : Addr} {T : String} {expr : Bool} {Q : Value → Shared → Prop} (X : K.In s.heap) (h : TypIn K a name T) (ht : typeOf (.type T) = pure (.type "type")) (hg : specialOf (.type T) "__get__" = pure none) (hh : handedIn (.type T) = true)
    (q : Q (.type T) { s with toks := s.toks + 1 }) : wpAny (model prog w) A (getAttr (.ref a) name expr) Q E s := by
  obtain ⟨mc, h1, h2, h3, h4, h5, h6⟩ := h
  simp only [readsIn, Bool.and_eq_true, beq_iff_eq] at h2
  obtain ⟨⟨⟨⟨r1, r2⟩, r3⟩, r4⟩, r5⟩ := h2
  obtain ⟨hk, r4⟩ := Option.isSome_iff_exists.mp r4
  have hT := looks_typeIn (M := model prog w) X h1
  have ho := looks_opaque (M := model prog w) (C := a) X r1
  refine wpAny_bind (wpAny_mkText (wpAny_holding (wpAny_bind (hT _ _ _ _ (fun _ _ e => e) (wpAny_bind (looks_findIn X r3 _ _ _ _ (fun _ _ e => e) ?_))))))
  dsimp only
  rw [show (onTheHeap mc && Value.builtin "type.__getattribute__" == Value.builtin "object.__getattribute__") = false from by rw [show (Value.builtin "type.__getattribute__" == Value.builtin "object.__getattribute__") = false from by decide +kernel, Bool.and_false], if_neg (by decide)]
  refine wpAny_bind (looks_hook (M := model prog w) X r4 _ _ _ _ (fun _ _ e => e) (wpAny_bind (wpAny_attempt (wpAny_holding ?_))))
  unfold callGetattribute
  rw [show (expr && onTheHeap (Value.builtin "type.__getattribute__")) = false from Bool.and_false _, if_neg (by decide)]
  unfold boundAndCalled
  rw [KF.slot_tga.bind]
  refine wpAny_bind (wpAny_pure ?_)
  show wpAny _ _ (call (.builtin "type.__getattribute__") [.ref a, .str name s.toks]) _ _ _
  refine wpAny_call (codeAny_call_builtin KF.slot_tga.plain KF.entry_tga ?_)
  refine @check_slot (model prog w) _ _ { s with toks := s.toks + 1 } "type.__getattribute__" "type" "__getattribute__" (.ref a) [.str name s.toks] [] _ (by decide +kernel) (by decide +kernel) (hT.andThen (looks_subIn X r5)) (KF.args_tga _ _) ?_
  unfold Builtin.«type.__getattribute__»
  obtain ⟨hp, g, d, tk, os⟩ := s
  refine wpAny_bind (wpAny_pure (wpAny_bind (ho.at (wpAny_bind (hT.at (wpAny_bind ((looks_findIn X h3).at (wpAny_bind (wpAny_pure ?_)))))))))
  refine wpAny_bind ((looks_findIn X h4).at ?_)
  dsimp only
  rw [h5, if_neg (by decide), ht]
  refine wpAny_bind (wpAny_pure ?_)
  rw [if_neg (by decide), hg]
  refine wpAny_bind (wpAny_pure ?_)
  rw [handedOut_of hh]
  exact wpAny_bind (wpAny_pure (wpAny_pure (handed_on hh q)))
end
theorem ty_int : typeOf (.type "int") = pure (.type "type") := by kernel_rfl
theorem noget_int : specialOf (.type "int") "__get__" = pure none := by
  show (typeOf (.type "int") >>= fun t => typeLookup t "__get__") = _
  rw [ty_int]
  show typeLookup (.type "type") "__get__" = _
  rw [typeLookup_type, builtinLookup_eq_fast]; kernel_rfl
section
variable {C : Cx} {S : St} {F : Fm} {A : Around} {σ : Hp} {ρ : Loc} {X : Value → Hp → Loc → Prop}
theorem bytes_mul_one {M : Model} {s : Shared} {E : Value → Shared → Prop} {b : List UInt8} {t u : Tok} {Q : Value → Shared → Prop} {prog : Program} {w : World} (hs : b.length ≤ 16777216) (h : Q (.bytes b.toArray t) s) : wpAny (model prog w) A (binaryOp .Mult (.bytes b.toArray t) (.int 1 u)) Q E s := by
  have hf : Builtin.Bytes.fitsIndex 1 = true := by decide
  refine wpAny_binaryOp_repeat (T := "bytes") (U := "int") (by decide) (fun s' => typeIs_bytes s' _ t) (fun s' => typeIs_int s' 1 u) BMul.noFill F.fills_int_mul F.slot_int_rmul BMul.repeats F.slot_int_index.lookup
    (call_gives F.slot_int_rmul (typeIs_int s 1 u) F.entry_int_rmul (F.args_int_rmul_2 _ _) (BMul.int_declines 1 u _ t)
      ⟨rfl, wpAny_call_entry BMul.slot_mul (typeIs_bytes s _ t) BMul.entry_mul ?_ (BMul.args_mul _ _)⟩)
  show wpAny _ _ (Builtin.Bytes.repeatArgs .bytes "__mul__" ⟨[.bytes b.toArray t, .int 1 u], []⟩ >>= fun r => _) _ _ s
  refine wpAny_bind (wpAny_of_eq (BMul.args_eq hf) ?_)
  refine wpAny_bind (wpAny_of_eq (a := b.toArray) rfl ?_)
  show wpAny _ _ (if b.toArray.size * 1 ≥ 2 ^ 63 then _ else _) _ _ s
  rw [if_neg (by simp; omega)]
  refine bm_if_true (by simp) ?_
  refine wpAny_bind (wpAny_typeOf (typeIs_bytes s _ t) ?_)
  refine bm_if_true (by decide) ?_
  exact wpAny_bind (wpAny_rule (wpAny_pure ⟨_, rfl, h⟩))
theorem gm_int (co : C.Ok) {a : Addr} {x : Str} (h : TypIn C.K a x "int") : GM C F A σ ρ (.ref a) x (.type "int") false := by
  intro pl s i ov' hov Q E q
  have := er_ref_inv hov; subst this
  have X₀ := i.kin co
  refine method_cls X₀ h.choose_spec.2.2.2.2.2 ?_
  exact typ_get X₀ h ty_int noget_int rfl (q _)
/-- b'..' * n -/
theorem W_BytesMul {l r : Expr} {pos : Pos} {Q : Value → Hp → Loc → Prop} {b : List UInt8} {n : Int} (ok : F.Ok C) (co : C.Ok) (so : S.Ok C) (hl : pe S F.sc σ ρ l = some (.bytes b.toArray 0)) (hr : pe S F.sc σ ρ r = some (.int n 0)) (hb : b ≠ []) (h1 : 1 ≤ n) (h2 : n ≤ 1048576) (hs : b.length * n.toNat ≤ 16777216)
    (q : Q (.bytes ((List.replicate n.toNat b).flatten).toArray 0) σ ρ) : W C F A (eval (.BinOp l .Mult r pos) F.env) σ ρ Q X := by
  intro s i
  refine nBinOp (wpAny.n (pe_ok ok co so _ hl s i _ _ fun x tk ex => ?_))
  obtain ⟨t, rfl⟩ := er_bytes_inv' ex
  refine wpAny.n (pe_ok ok co so _ hr _ (i.toks tk) _ _ fun y tk' ey => ?_)
  obtain ⟨u, rfl⟩ := er_int_inv ey
  by_cases hn : n = 1
  · subst hn
    have e : (List.replicate (Int.toNat 1) b).flatten = b := by simp
    rw [e] at q
    exact wpAny.n (bytes_mul_one (M := model C.prog C.w) (by simpa using hs) ⟨σ, ρ, i.toks tk', q⟩)
  · exact wpAny.n (bytes_mul_K hb (by omega) h2 hs rfl fun t' k => ⟨σ, ρ, i.toks k, q⟩)
end
end Mine
end
/- part FbEv -/
section
open PySem PySem.W PySem.Spec PySem.Calls PyProof.Rows
set_option Elab.async false
set_option maxRecDepth 100000
set_option linter.all false
namespace Mine
theorem lk_cons {α : Type} (x y : String) (v : α) (r : List (Str × α)) : List.lookup (Str.ofString x) ((Str.ofString y, v) :: r) = if x = y then some v else List.lookup (Str.ofString x) r := by
  rw [List.lookup_cons]
  by_cases e : x = y
  · subst e; simp
  · rw [if_neg e]
    have : (Str.ofString x == Str.ofString y) = false := by
      rw [beq_eq_false_iff_ne]; intro z; rw [ofString_eq] at z; exact e z
    rw [this]
theorem put_at (ρ : Loc) (x y : String) (v : Value) : (ρ.put (Str.ofString x) v) (Str.ofString y) = if y = x then some v else ρ (Str.ofString y) := by
  unfold Loc.put
  simp only [ofString_eq]
theorem dbg (x : String) : ((Str.ofString x == ("__debug__" : Str)) = true) = (x = "__debug__") := by
  show ((Str.ofString x == Str.ofString "__debug__") = true) = _
  rw [beq_iff_eq, ofString_eq]
section
variable {S : St} {sc : Scope} {σ : Hp} {ρ : Loc} {x : String} {p : Pos} {v : Value}
theorem pe_loc (h1 : x ≠ "__debug__") (h2 : sc.names.lookup (Str.ofString x) = some .local) (h3 : ρ (Str.ofString x) = some v) : pe S sc σ ρ (.Name (Str.ofString x) p) = some v := by
  unfold pe
  rw [if_neg (by rw [dbg]; exact h1), h2]
  exact h3
theorem pe_cell (h1 : x ≠ "__debug__") (h2 : sc.names.lookup (Str.ofString x) = some .cell) (h3 : ρ (Str.ofString x) = some v) : pe S sc σ ρ (.Name (Str.ofString x) p) = some v := by
  unfold pe
  rw [if_neg (by rw [dbg]; exact h1), h2]
  exact h3
theorem pe_glob (h1 : x ≠ "__debug__") (h2 : sc.names.lookup (Str.ofString x) = some .globalImplicit) (h3 : S.G (Str.ofString x) = some v) : pe S sc σ ρ (.Name (Str.ofString x) p) = some v := by
  unfold pe
  rw [if_neg (by rw [dbg]; exact h1), h2]
  exact h3
theorem pe_con {c : Const} {k : Nat} (h : pcon c = some v) : pe S sc σ ρ (.Constant c k p) = some v := by unfold pe; exact h
theorem pe_attr {e : Expr} {x : Str} {a : Value} (h : plainBase e = true) (h1 : pe S sc σ ρ e = some a) (h2 : pattr S σ a x = some v) : pe S sc σ ρ (.Attribute e x p) = some v := by
  unfold pe; rw [if_pos h, h1]; exact h2
theorem pattr_slot {a Cl dx : Addr} {sl : List (Option Value)} {x : Str} {i : Nat} (h1 : σ a = some (.inst Cl dx sl)) (h2 : S.slot Cl x = some i) (h3 : (sl[i]?).join = some v) (h4 : handedIn v = true) : pattr S σ (.ref a) x = some v := by
  unfold pattr
  simp [h1, h2, h3, h4]
theorem pattr_sat {a : Addr} {x : Str} (h1 : σ a = none) (h2 : S.sat a x = some v) : pattr S σ (.ref a) x = some v := by
  unfold pattr
  simp [h1, h2]
theorem pe_bin {l r : Expr} {o : Operator} {a b : Value} (h1 : pe S sc σ ρ l = some a) (h2 : pe S sc σ ρ r = some b) (h3 : pbin o a b = some v) : pe S sc σ ρ (.BinOp l o r p) = some v := by
  unfold pe; rw [h1, h2]; exact h3
theorem pe_una {e : Expr} {o : UnaryOp} {a : Value} (h1 : pe S sc σ ρ e = some a) (h3 : puna o a = some v) : pe S sc σ ρ (.UnaryOp o e p) = some v := by
  unfold pe; rw [h1]; exact h3
theorem pe_cmp {l r : Expr} {o : CmpOp} {a b : Value} (h0 : behindInMarks o r = false) (h1 : pe S sc σ ρ l = some a) (h2 : pe S sc σ ρ r = some b) (h3 : pcmp o a b = some v) : pe S sc σ ρ (.Compare l [o] [r] p) = some v := by
  unfold pe; dsimp only; rw [if_pos h0, h1, h2]; exact h3
theorem pe_len {f e : Expr} {a : Value} (h0 : isName f = true) (h1 : pe S sc σ ρ f = some (.builtin "len")) (h2 : pe S sc σ ρ e = some a) (h3 : plen σ a = some v) : pe S sc σ ρ (.Call f [e] [] p) = some v := by
  unfold pe; dsimp only; rw [if_pos h0, h1, h2]; simp [h3]
theorem plen_ba {a : Addr} {b : List UInt8} (h : σ a = some (.ba b)) : plen σ (.ref a) = some (.int b.length 0) := by unfold plen; simp [h]
theorem plen_list {a : Addr} {b : List Value} (h : σ a = some (.list b)) : plen σ (.ref a) = some (.int b.length 0) := by unfold plen; simp [h]
theorem plen_bytes {b : Array UInt8} {t : Tok} (h : b.size ≤ 1099511627776) : plen σ (.bytes b t) = some (.int b.size 0) := by unfold plen; simp [h]
theorem pe_item {e i : Expr} {a k : Value} (h0 : noSlice i = true) (h1 : pe S sc σ ρ e = some a) (h2 : pe S sc σ ρ i = some k) (h3 : pitem σ a k = some v) : pe S sc σ ρ (.Subscript e i p) = some v := by
  unfold pe; rw [if_pos h0, h1, h2]; exact h3
theorem pitem_list {a : Addr} {xs : List Value} {k : Int} {t : Tok} (h : σ a = some (.list xs)) (h0 : 0 ≤ k) (h1 : k < 2 ^ 62) (h2 : xs[k.toNat]? = some v) : pitem σ (.ref a) (.int k t) = some v := by unfold pitem; simp [h, h0, h2]; omega
theorem pitem_tup {a : Addr} {xs : List Value} {k : Int} {t : Tok} (h : σ a = some (.tup xs)) (h0 : 0 ≤ k) (h1 : k < 2 ^ 62) (h2 : xs[k.toNat]? = some v) : pitem σ (.ref a) (.int k t) = some v := by unfold pitem; simp [h, h0, h2]; omega
variable {b : Bool}
theorem pt_cmp {l r : Expr} {o : CmpOp} (h : pe S sc σ ρ (.Compare l [o] [r] p) = some v) (h2 : ptru v = some b) : pt S sc σ ρ (.Compare l [o] [r] p) = some b := by
  unfold pt; dsimp only; rw [h]; exact h2
theorem pt_not {e : Expr} {c : Bool} (h : pt S sc σ ρ e = some c) (h2 : (!c) = b) : pt S sc σ ρ (.UnaryOp .Not e p) = some b := by
  unfold pt; dsimp only; rw [h]; simp [h2]
theorem pt_chain {l m r : Expr} {o₁ o₂ : CmpOp} {x y z : Value} {u w : Value} {c d : Bool} (h0 : lastMarks [o₁, o₂] [m, r] = false) (h1 : pe S sc σ ρ l = some x) (h2 : pe S sc σ ρ m = some y) (h3 : pe S sc σ ρ r = some z)
    (h4 : pcmp o₁ x y = some u) (h5 : ptru u = some c) (h6 : pcmp o₂ y z = some w) (h7 : ptru w = some d) (h8 : (c && d) = b) : pt S sc σ ρ (.Compare l [o₁, o₂] [m, r] p) = some b := by
  unfold pt; dsimp only; rw [if_pos h0, h1, h2, h3]; simp [h4, h5, h6, h7, h8]
theorem pt_and {l r : Expr} {c d : Bool} (h1 : pt S sc σ ρ l = some c) (h2 : pt S sc σ ρ r = some d) (h3 : (c && d) = b) : pt S sc σ ρ (.BoolOp .And [l, r] p) = some b := by
  unfold pt; dsimp only; rw [h1, h2]; simp [h3]
theorem pt_or {l r : Expr} {c d : Bool} (h1 : pt S sc σ ρ l = some c) (h2 : pt S sc σ ρ r = some d) (h3 : (c || d) = b) : pt S sc σ ρ (.BoolOp .Or [l, r] p) = some b := by
  unfold pt; dsimp only; rw [h1, h2]; simp [h3]
theorem pt_name {x : Str} (h : pe S sc σ ρ (.Name x p) = some v) (h2 : ptru v = some b) : pt S sc σ ρ (.Name x p) = some b := by
  unfold pt; rw [h]; exact h2
theorem pt_attr {e : Expr} {x : Str} (h : pe S sc σ ρ (.Attribute e x p) = some v) (h2 : ptru v = some b) : pt S sc σ ρ (.Attribute e x p) = some b := by
  unfold pt; rw [h]; exact h2
theorem pt_bin {l r : Expr} {o : Operator} (h : pe S sc σ ρ (.BinOp l o r p) = some v) (h2 : ptru v = some b) : pt S sc σ ρ (.BinOp l o r p) = some b := by
  unfold pt; rw [h]; exact h2
end
section
variable {C : Cx} {F : Fm} {A : Around} {α : Type} [Er α] {σ : Hp} {ρ : Loc} {t : Sem α} {Q : α → Hp → Loc → Prop} {X : Value → Hp → Loc → Prop}
theorem W_kn (ok : F.Ok C) (co : C.Ok) {as : List Addr} (has : ∀ a ∈ as, (C.K.lookup a).isSome = true) (h : (∀ a ∈ as, σ a = none) → W C F A t σ ρ Q X) : W C F A t σ ρ Q X := by
  intro s i
  refine h (fun a ha => ?_) s i
  obtain ⟨o, ho⟩ := Option.isSome_iff_exists.mp (has a ha)
  exact i.base_out ok (co.kin _ _ ho)
/-- what the standing says of the objects -/
theorem W_has {P : Prop} (hp : ∀ s, Inv C F σ ρ s → P) (h : P → W C F A t σ ρ Q X) : W C F A t σ ρ Q X := fun s i => h (hp s i) s i
end
end Mine
end
/- part FbList -/
section
open PySem PySem.W PySem.Spec PySem.Calls PyProof.Rows
set_option Elab.async false
set_option maxRecDepth 100000
set_option linter.all false
namespace Mine
section
variable {C : Cx} {S : St} {F : Fm} {A : Around} {σ : Hp} {ρ : Loc} {X : Value → Hp → Loc → Prop}
theorem Inv.fresh {s : Shared} (i : Inv C F σ ρ s) {x : Addr} (h : s.heap.objs.size ≤ x) : σ x = none := by
  cases e : σ x with
  | none => rfl
  | some o => exact absurd (i.lt e) (Nat.not_lt.mpr h)
/-- [es] -/
theorem W_List {es : List Expr} {pos : Pos} {Q : Value → Hp → Loc → Prop} (h : W C F A (spliced (backTo pos (starEach es F.env))) σ ρ (fun vs σ₁ ρ₁ => vs.length ≤ sizeLine ∧ ∀ x, σ₁ x = none → Q (.ref x) (σ₁.put x (.list vs)) ρ₁) X) : W C F A (eval (.List es pos) F.env) σ ρ Q X := by
  intro s i
  rw [arm_eval_List]
  refine wpN_bind (wpN_standAt (wpN_bind (h.use i (fun vs s₁ σ₁ ρ₁ i₁ q => wpAny.n ?_) fun ea cls s' σ' ρ' y q => ⟨ea, cls, σ', ρ', rfl, y, q⟩)))
  have hl : vs.length ≤ sizeLine := by have := q.1; rw [show (Er.e vs : List Value) = vs.map er from rfl, List.length_map] at this; exact this
  refine wpAny_newList ?_ hl
  exact ⟨_, ρ₁, i₁.new (o' := .list (vs.map er)) (Nat.le_refl _) (fun b o e => Heap.get?_push_of_some _ e) ⟨_, _, Heap.get?_push_size _ rfl, by simp, by simpa using hl⟩ _, q.2 _ (i₁.fresh (Nat.le_refl _))⟩
/-- (es) -/
theorem W_Tuple {es : List Expr} {c : Nat} {pos : Pos} {Q : Value → Hp → Loc → Prop} (h : W C F A (spliced (backTo pos (starEach es F.env))) σ ρ (fun vs σ₁ ρ₁ => vs.length ≤ sizeLine ∧ ∀ x, σ₁ x = none → Q (.ref x) (σ₁.put x (.tup vs)) ρ₁) X) : W C F A (eval (.Tuple es c pos) F.env) σ ρ Q X := by
  intro s i
  rw [arm_eval_Tuple]
  refine wpN_bind (wpN_standAt (wpN_bind (h.use i (fun vs s₁ σ₁ ρ₁ i₁ q => wpAny.n ?_) fun ea cls s' σ' ρ' y q => ⟨ea, cls, σ', ρ', rfl, y, q⟩)))
  have hl : vs.length ≤ sizeLine := by have := q.1; rw [show (Er.e vs : List Value) = vs.map er from rfl, List.length_map] at this; exact this
  refine wpAny_newObj_type ?_ (by show vs.toArray.size ≤ sizeLine; simpa using hl)
  exact ⟨_, ρ₁, i₁.new (o' := .tup (vs.map er)) (Nat.le_refl _) (fun b o e => Heap.get?_push_of_some _ e) ⟨_, _, Heap.get?_push_size _ rfl, by simp, by simpa using hl⟩ _, q.2 _ (i₁.fresh (Nat.le_refl _))⟩
theorem list_mul {prog : Program} {w : World} {E : Value → Shared → Prop} {s : Shared} {l : Addr} {items : Array Value} {k : Nat} {x : Int} {u : Tok} {Q : Value → Shared → Prop} (hl : s.heap.get? l = some (listOf items k)) (hne : items.isEmpty = false) (hlo : -(2 ^ 63 : Int) ≤ x) (hhi : x < 2 ^ 63) (hsz : items.size * x.toNat ≤ 2 ^ 24)
    (h : Q (.ref s.heap.objs.size) { s with heap := s.heap.push (listOf (List.replicate x.toNat items.toList).flatten.toArray 0) }) : wpAny (model prog w) A (binaryOp .Mult (.ref l) (.int x u)) Q E s :=
  wpAny_binaryOp_repeat_ref (T := "list") (U := "int") (by decide) ⟨_, hl, rfl⟩ (fun s' => typeIs_int s' x u) noFill_list_mul F.fills_int_mul F.slot_int_rmul repeat_list F.slot_int_index.lookup
    (call_meets F.slot_int_rmul (typeIs_int s x u) F.entry_int_rmul (F.args_int_rmul_2 _ _) (int___rmul___int_list x u l items k)
      ⟨hl, rfl, ⟨_, hl, rfl⟩, call_meets F.slot_list_mul ⟨_, hl, rfl⟩ F.entry_list_mul (F.args_list_mul_2 _ _)
        (AutoListH.list___mul___list_int_3 l items k x u (by simp [Builtin.List.listFitsIndex]; omega) (by omega) (by simp [Builtin.List.listTooLong, sizeLine]; omega))
        ⟨hl, by rw [hne, if_neg (by decide), listMul_foldl]; simpa using h⟩⟩)
/-- xs * n -/
theorem W_ListMul {l r : Expr} {pos : Pos} {Q : Value → Hp → Loc → Prop}
    (h : W C F A (eval l F.env) σ ρ (fun v σ₁ ρ₁ => W C F A (eval r F.env) σ₁ ρ₁ (fun w σ₂ ρ₂ => ∃ (a : Addr) (xs : List Value) (n : Nat), v = .ref a ∧ w = .int n 0 ∧ σ₂ a = some (.list xs) ∧ xs.length * n ≤ 16777216 ∧ n < 2 ^ 62 ∧ xs ≠ [] ∧ ∀ x, σ₂ x = none → Q (.ref x) (σ₂.put x (.list (List.replicate n xs).flatten)) ρ₂) X) X) : W C F A (eval (.BinOp l .Mult r pos) F.env) σ ρ Q X := by
  intro s i
  refine nBinOp (h.use i (fun v s' σ' ρ' i' q => ?_) fun ea cls s' σ' ρ' y q => ⟨ea, cls, σ', ρ', rfl, y, q⟩)
  refine q.use i' (fun w s2 σ2 ρ2 i2 q2 => wpAny.n ?_) fun ea cls s' σ' ρ' y q => ⟨ea, cls, σ', ρ', rfl, y, q⟩
  obtain ⟨a, xs, n, e1, e2, ha, hs, hn, hne, q3⟩ := q2
  have := er_ref_inv (show er v = .ref a from e1); subst this
  obtain ⟨u, rfl⟩ := er_int_inv (show er w = .int n 0 from e2)
  obtain ⟨items, k, g1, g2, g3⟩ := (i2.own a _ ha).2.2
  have hsz : items.size = xs.length := by rw [← g2]; simp
  have hpos : 0 < xs.length := List.length_pos_iff.mpr hne
  have e0 : (Int.toNat (n : Int)) = n := by omega
  have hlim : (sizeLine : Nat) = 16777216 := rfl
  refine list_mul g1 (by rw [Array.isEmpty_eq_false_iff, ← Array.size_pos_iff]; omega) (by omega) (by omega) (by rw [hsz, e0]; exact hs) ?_
  rw [e0]
  have hfl : ((List.replicate n items.toList).flatten).map er = (List.replicate n xs).flatten := by rw [List.map_flatten, List.map_replicate, g2]
  refine ⟨_, ρ2, i2.new (o' := .list (List.replicate n xs).flatten) (Nat.le_refl _) (fun b o e => Heap.get?_push_of_some _ e) ⟨_, _, Heap.get?_push_size _ rfl, by simpa using hfl, ?_⟩ _, q3 _ (i2.fresh (Nat.le_refl _))⟩
  simp; rw [Nat.mul_comm]; omega
theorem W_append {l : Addr} {xs : List Value} {vs : List Value} {ov v : Value} {Q : Value → Hp → Loc → Prop} (ok : F.Ok C) (hov : er ov = .ref l) (hv : vs.map er = [v]) (e : σ l = some (.list xs)) (hl : xs.length < sizeLine) (q : Q .none (σ.put l (.list (xs ++ [v]))) ρ) : W C F A (call (.builtin "list.append") (ov :: vs) []) σ ρ Q X := by
  intro s i
  have := er_ref_inv hov; subst this
  obtain ⟨w, rfl, ew⟩ := one_of hv
  obtain ⟨items, n, g1, g2, g3⟩ := (i.own l _ e).2.2
  have hsz : items.size = xs.length := by rw [← g2]; simp
  refine wpAny.n (append_at (n := n) (its := items) (hsz := by omega) g1 fun h' hs ho' => ?_)
  exact ⟨_, ρ, i.put (o' := .list (xs ++ [v])) ok e (fun z => by cases z) hs ⟨_, _, ho', by simp [g2, ew], by simp; omega⟩ _, q⟩
end
end Mine
end
/- part FbFor -/
section
open PySem PySem.W PySem.Spec PySem.Calls PyProof.Rows
set_option Elab.async false
set_option maxRecDepth 100000
set_option linter.all false
namespace Mine
section
variable {M : Model} {A : Around} {E : Value → Shared → Prop} {s : Shared}
theorem codeN_loop2 {c : Code} {R : Result → Shared → Prop} (hn : notDec c = true) (hq : c.quiet = true) (I : Nat → Shared → Prop)
    (turn : ∀ n s, I n s → wpN M (A.under c) (M.den c)
      (fun fin s' => match fin with | .done f => R (.ok f) s' | .again c' => (c' = c ∧ ∃ m, m < n ∧ I m s') ∨ (c'.quiet = true ∧ codeN M A c' R s')) (fun e s' => R (.error e) s') s)
    (n : Nat) (h : I n s) : codeN M A c R s := by
  induction n using Nat.strongRecOn generalizing s with
  | ind n ih =>
    refine codeN_of_tree hn (wpN_mono (turn n s h) (fun fin s' hf => ?_) fun _ _ h' => h')
    cases fin with
    | done f => exact hf
    | again c' =>
      rcases hf with ⟨rfl, m, hm, hI⟩ | hf
      · exact ⟨hq, ih m hm hI⟩
      · exact hf
theorem codeN_block_nil {prog : Program} {w : World} {env : Env} {R : Result → Shared → Prop} (h : R (.ok .next) s) : codeN (model prog w) A (.block [] env) R s := by
  refine codeN_of_tree rfl ?_
  have hu : A.under (.block [] env) = A := Around.under_of_weight rfl rfl
  rw [hu]
  show wpN _ A (do return Fin.done (← (execs [] env).onRaise (fun x => do noteFrame x env; theTreesLotGoes x))) _ _ s
  exact wpN_bind (wpN_onRaise (nExecs_nil (wpN_pure h)))
end
section
variable {prog : Program} {w : World} {A : Around} {s : Shared}
theorem nForLoop {env : Env} {tx : Str} {tp : Pos} {it : Value} {body : List Stmt} {R : Result → Shared → Prop} (I : Nat → Shared → Prop)
    (turn : ∀ n s, I n s → wpN (model prog w) A (pyNext it) (fun r s₁ => match r with
      | none => R (.ok .next) s₁
      | some v => wpN (model prog w) A (storeName env tx v) (fun _ s₂ => wpN (model prog w) A (execs body env) (fun f s₃ => match f with | .next | .cont => ∃ m, m < n ∧ I m s₃ | .brk => R (.ok .next) s₃ | .ret v => R (.ok (.ret v)) s₃)
          (noteN (model prog w) A env (fun e => R (.error e))) s₂) (noteN (model prog w) A env (fun e => R (.error e))) s₁) (noteN (model prog w) A env (fun e => R (.error e))) s)
    (n : Nat) (h : I n s) : codeN (model prog w) A (.forLoop (.Name tx tp) it body [] env) R s := by
  refine codeN_loop2 rfl rfl I (fun n s hi => ?_) n h
  have hu : A.under (.forLoop (.Name tx tp) it body [] env) = A := Around.under_of_weight rfl rfl
  rw [hu]
  show wpN _ A ((forTurn (.Name tx tp) it body [] env).onRaise (fun x => do noteFrame x env; theTreesLotGoes x)) _ _ s
  refine wpN_onRaise ?_
  unfold forTurn
  refine wpN_bind (wpN_standAt (wpN_bind (wpN_onRaise (wpN_mono (turn n s hi) (fun r s₁ h₁ => ?_) fun _ _ h' => wpN_standAt h'))))
  cases r with
  | none => exact wpN_pure (.inr ⟨rfl, codeN_block_nil h₁⟩)
  | some v =>
    refine wpN_bind (wpN_pure (wpN_bind ?_))
    rw [PySem.assign_Name]
    refine wpN_bind (wpN_standAt (nBind (wpN_mono h₁ (fun _ s₂ h₂ => wpN_bind (wpN_mono h₂ (fun f s₃ h₃ => ?_) fun _ _ h' => h')) fun _ _ h' => h')))
    cases f with
    | next => exact wpN_pure (.inl ⟨rfl, h₃⟩)
    | cont => exact wpN_pure (.inl ⟨rfl, h₃⟩)
    | brk => exact wpN_pure h₃
    | ret v => exact wpN_pure h₃
end
section
variable {C : Cx} {S : St} {F : Fm} {A : Around} {σ : Hp} {ρ : Loc} {X : Value → Hp → Loc → Prop}
/-- for tx in iter -/
theorem W_For (ok : F.Ok C) (hA : A.frames = some (F.env :: F.outer)) {tx : Str} {tp pos : Pos} {iter : Expr} {body : List Stmt} {Q : Flow → Hp → Loc → Prop} (hk : F.sc.names.lookup tx = some .local) (hf : ∀ v, foldedSetIterable iter F.env v = pure v) (I : Addr → Nat → Hp → Loc → Prop)
    (hit : W C F A (eval iter F.env) σ ρ (fun x σ₁ ρ₁ => ∀ v, er v = x → W C F A (pyIter v) σ₁ ρ₁ (fun it σ₂ ρ₂ => ∃ a, it = .ref a ∧ ∃ n, I a n σ₂ ρ₂) X) X)
    (turn : ∀ a n σ ρ, I a n σ ρ → W C F A (pyNext (.ref a)) σ ρ (fun r σ₁ ρ₁ => match r with
      | none => Q .next σ₁ ρ₁
      | some v => W C F A (execs body F.env) σ₁ (ρ₁.put tx v) (fun f σ₂ ρ₂ => match f with | .next | .cont => ∃ m, m < n ∧ I a m σ₂ ρ₂ | .brk => Q .next σ₂ ρ₂ | .ret v => Q (.ret v) σ₂ ρ₂) X) X) :
    W C F A (exec (.For (.Name tx tp) iter body [] pos) F.env) σ ρ Q X := by
  intro s i
  rw [arm_exec_For]
  refine wpN_bind (wpN_standAt (wpN_bind (hit.use i (fun x s₁ σ₁ ρ₁ i₁ q => ?_) fun ea cls s' σ' ρ' y q => ⟨ea, cls, σ', ρ', rfl, y, q⟩)))
  rw [hf]
  refine wpN_bind (wpN_pure (wpN_bind (wpN_standAt (wpN_bind (wpN_holding ((q x rfl).use i₁ (fun it s₂ σ₂ ρ₂ i₂ q₂ => ?_) fun ea cls s' σ' ρ' y q => ⟨ea, cls, σ', ρ', rfl, y, q⟩))))))
  obtain ⟨a, ha, n, hI⟩ := q₂
  have := er_ref_inv (show er it = .ref a from ha); subst this
  have hx : ∀ ea cls s' σ' ρ', Exc C F σ' ρ' ea cls s' → X cls σ' ρ' → noteN (model C.prog C.w) A F.env (fun e s' => backN (model C.prog C.w) A F.env (fun e s' => ∃ ea cls σ' ρ', e = .ref ea ∧ Exc C F σ' ρ' ea cls s' ∧ X cls σ' ρ') e s') (.ref ea) s' := fun ea cls s' σ' ρ' y q =>
    noteN_exc ok hA y fun s₁ h₁ => backN_hel ok h₁ fun s₂ h₂ => ⟨ea, cls, σ', ρ', rfl, h₂.exc, q⟩
  refine nRunOwn (nForLoop (R := fun r s' => match r with
      | .ok f => ∃ σ' ρ', Inv C F σ' ρ' s' ∧ Q (Er.e f) σ' ρ'
      | .error e => backN (model C.prog C.w) A F.env (fun e s' => ∃ ea cls σ' ρ', e = .ref ea ∧ Exc C F σ' ρ' ea cls s' ∧ X cls σ' ρ') e s')
    (fun n s => ∃ σ ρ, Inv C F σ ρ s ∧ I a n σ ρ) (fun n s ⟨σ, ρ, i, hI⟩ => ?_) n ⟨σ₂, ρ₂, i₂, hI⟩)
  refine (turn a n σ ρ hI).use i (fun r s₁ σ₁ ρ₁ i₁ q => ?_) hx
  cases r with
  | none => exact ⟨σ₁, ρ₁, i₁, q⟩
  | some v =>
    refine (W_store (Q := fun _ σ ρ => σ = σ₁ ∧ ρ = ρ₁.put tx (er v)) (X := X) ok hk ⟨rfl, rfl⟩).use i₁ (fun _ s₂ σ₂ ρ₂ i₂ q₂ => ?_) hx
    obtain ⟨rfl, rfl⟩ := q₂
    refine W.use (X := X) (show W C F A (execs body F.env) σ₂ (ρ₁.put tx (er v)) _ _ from q) i₂ (fun f s₃ σ₃ ρ₃ i₃ q₃ => ?_) hx
    cases f with
    | next => obtain ⟨m, hm, hI⟩ := q₃; exact ⟨m, hm, σ₃, ρ₃, i₃, hI⟩
    | cont => obtain ⟨m, hm, hI⟩ := q₃; exact ⟨m, hm, σ₃, ρ₃, i₃, hI⟩
    | brk => exact ⟨σ₃, ρ₃, i₃, q₃⟩
    | ret v => exact ⟨σ₃, ρ₃, i₃, q₃⟩
end
end Mine
end
/- part FbRev -/
section
open PySem PySem.W PySem.Spec PySem.Calls PyProof.Rows
set_option Elab.async false
set_option maxRecDepth 100000
set_option linter.all false
namespace Mine
section
variable {prog : Program} {w : World} {A : Around} {E : Value → Shared → Prop} {s : Shared}
theorem rev_item {it l : Addr} {i : Nat} {items : Array Value} {n : Nat} {x : Value} {Q : Option Value → Shared → Prop} (hit : s.heap.get? it = some (revObj l (i : Int))) (hl : s.heap.get? l = some (listOf items n)) (hx : items[i]? = some x)
    (hQ : ∀ h', h'.get? it = some (revObj l ((i : Int) - 1)) → Heap.SameBut it s.heap h' → Q (some x) { s with heap := h' }) : wpAny (model prog w) A (pyNext (.ref it)) Q E s := by
  have hT : s.TypeIs (.ref it) "list_reverseiterator" := ⟨_, hit, rfl⟩
  unfold pyNext
  refine wpAny_bind (wpAny_attempt (wpAny_callSpecial?_slot (name := Str.ofString "__next__") hT F.slot_lri_next (wpAny_call_entry F.slot_lri_next hT F.entry_lri_next ?_ (F.args_lri_next_1 _))))
  unfold Builtin.«list_reverseiterator.__next__»
  refine wpAny_bind (wpAny_of_eq (a := (Value.ref it, [])) rfl ?_)
  try dsimp only
  refine wpAny_bind (wpAny_field hit rfl (x := rawInt (i : Int)) rfl ?_)
  show wpAny _ _ (if (i : Int) < 0 then _ else _) _ _ s
  rw [if_neg (by omega)]
  show wpAny _ _ (field (.ref it) 0 >>= _) _ _ s
  refine wpAny_bind (wpAny_field hit rfl (x := .ref l) rfl ?_)
  show wpAny _ _ (seqItems? (.ref l) >>= _) _ _ s
  refine wpAny_bind (wpAny_seqItems hl rfl ?_)
  simp only [Int.toNat_natCast, hx]
  refine wpAny_bind (wpAny_setField hit rfl (by simp) ?_)
  have e : (s.heap.update it (Obj.mapFields (·.setIfInBounds 1 (rawInt ((i : Int) - 1))))).get? it = some (revObj l ((i : Int) - 1)) := Heap.get?_update_self _ hit rfl
  first
  | exact wpAny_pure ⟨x, rfl, wpAny_pure (hQ _ e (Heap.SameBut.update ..))⟩
  | exact wpAny_bind (wpAny_pure (wpAny_pure ⟨x, rfl, wpAny_pure (hQ _ e (Heap.SameBut.update ..))⟩))
theorem rev_end {it l : Addr} {Q : Option Value → Shared → Prop} (hh : A.handled = none) (hit : s.heap.get? it = some (revObj l (-1))) (hQ : ∀ h', s.heap.StaysIn h' → Q none { s with heap := h' }) : wpAny (model prog w) A (pyNext (.ref it)) Q E s := by
  have hT : s.TypeIs (.ref it) "list_reverseiterator" := ⟨_, hit, rfl⟩
  unfold pyNext
  refine wpAny_bind (wpAny_attempt (wpAny_callSpecial?_slot (name := Str.ofString "__next__") hT F.slot_lri_next (wpAny_call_entry F.slot_lri_next hT F.entry_lri_next ?_ (F.args_lri_next_1 _))))
  unfold Builtin.«list_reverseiterator.__next__»
  refine wpAny_bind (wpAny_of_eq (a := (Value.ref it, [])) rfl ?_)
  try dsimp only
  refine wpAny_bind (wpAny_field hit rfl (x := rawInt (-1)) rfl ?_)
  show wpAny _ _ (if (-1 : Int) < 0 then _ else _) _ _ s
  rw [if_pos (by decide)]
  refine wpAny_bind (wpAny_rule ?_)
  first
  | show wpAny _ _ (newExc (.type "StopIteration") [] >>= _) _ _ _
  | (refine wpAny_bind ?_; show wpAny _ _ (newExc (.type "StopIteration") [] >>= _) _ _ _)
  refine wpAny_bind ?_
  simp only [newExc, newTuple]
  refine wpAny_bind (wpAny_newObj_type ?_ (by size_fits))
  refine wpAny_bind (m := firstArgMember _ _) (wpAny_of_eq (a := Value.none) (by first | rfl | (simp only [firstArgMember]; rfl)) ?_)
  refine wpAny_newObj_type ?_ (by size_fits)
  simp only [raiseNew]
  refine wpAny_bind (wpAny_handled ?_)
  first | rw [show A.in1.handled = none from hh] | rw [hh]
  refine wpAny_bind (wpAny_pure (wpAny_throw ?_))
  refine wpAny_bind (wpAny_isInstance (T := "StopIteration") (b := true) ⟨_, Heap.get?_push_size _ rfl, rfl⟩ isSubtype_stop ?_)
  exact wpAny_pure (hQ _ fun b o e => Heap.get?_push_of_some _ (Heap.get?_push_of_some _ e))
end
section
variable {C : Cx} {S : St} {F : Fm} {A : Around} {σ : Hp} {ρ : Loc} {X : Value → Hp → Loc → Prop}
theorem W_reversed {l : Addr} {xs vs : List Value} {Q : Value → Hp → Loc → Prop} (hv : vs.map er = [.ref l]) (hl : σ l = some (.list xs)) (q : ∀ x, σ x = none → Q (.ref x) (σ.put x (.raw (revObj l ((xs.length : Int) - 1)))) ρ) : W C F A (call (.type "reversed") vs []) σ ρ Q X := by
  intro s i
  obtain ⟨v, rfl, e⟩ := one_of hv
  have := er_ref_inv e; subst this
  obtain ⟨items, n, g1, g2, g3⟩ := (i.own l _ hl).2.2
  have hsz : items.size = xs.length := by rw [← g2]; simp
  refine wpAny.n (call_reversed_list (items := items) ⟨_, g1, rfl, n, rfl⟩ ?_)
  rw [hsz]
  exact ⟨_, ρ, i.new (o' := .raw (revObj l ((xs.length : Int) - 1))) (Nat.le_refl _) (fun b o e => Heap.get?_push_of_some _ e) (Heap.get?_push_size _ rfl) _, q _ (i.fresh (Nat.le_refl _))⟩
theorem W_iter_rev {it l : Addr} {i : Int} {v : Value} {Q : Value → Hp → Loc → Prop} (hv : er v = .ref it) (h : σ it = some (.raw (revObj l i))) (q : Q (.ref it) σ ρ) : W C F A (pyIter v) σ ρ Q X := by
  intro s iv
  have := er_ref_inv hv; subst this
  exact wpAny.n (wpAny_pyIter_revIter (it := it) (l := l) (i := i) ⟨_, (iv.own it _ h).2.2, rfl, rfl⟩ ⟨σ, ρ, iv, q⟩)
theorem W_next_rev (ok : F.Ok C) {it l : Addr} {xs : List Value} {i : Nat} {x : Value} {Q : Option Value → Hp → Loc → Prop} (h : σ it = some (.raw (revObj l (i : Int)))) (hl : σ l = some (.list xs)) (hx : xs[i]? = some x) (q : Q (some x) (σ.put it (.raw (revObj l ((i : Int) - 1)))) ρ) : W C F A (pyNext (.ref it)) σ ρ Q X := by
  intro s iv
  obtain ⟨items, n, g1, g2, g3⟩ := (iv.own l _ hl).2.2
  rw [← g2, List.getElem?_map] at hx
  obtain ⟨w, hw, he⟩ := Option.map_eq_some_iff.mp hx
  refine wpAny.n (rev_item (items := items) (x := w) (iv.own it _ h).2.2 g1 (by simpa using hw) fun h' e hs => ?_)
  exact ⟨_, ρ, iv.put (o' := .raw (revObj l ((i : Int) - 1))) ok h (fun z => by cases z) hs e _, by show Q (some (er w)) _ _; rw [he]; exact q⟩
theorem W_next_rev_end (hh : A.handled = none) {it l : Addr} {Q : Option Value → Hp → Loc → Prop} (h : σ it = some (.raw (revObj l (-1)))) (q : Q none σ ρ) : W C F A (pyNext (.ref it)) σ ρ Q X := by
  intro s iv
  exact wpAny.n (rev_end hh (iv.own it _ h).2.2 fun h' hk => ⟨σ, ρ, iv.ext hk _, q⟩)
/-- tuple(l) -/
theorem W_tuple {l : Addr} {xs vs : List Value} {Q : Value → Hp → Loc → Prop} (hv : vs.map er = [.ref l]) (hl : σ l = some (.list xs)) (q : ∀ x, σ x = none → Q (.ref x) (σ.put x (.tup xs)) ρ) : W C F A (call (.type "tuple") vs []) σ ρ Q X := by
  intro s i
  obtain ⟨v, rfl, e⟩ := one_of hv
  have := er_ref_inv e; subst this
  obtain ⟨items, n, g1, g2, g3⟩ := (i.own l _ hl).2.2
  have hsz : items.size = xs.length := by rw [← g2]; simp
  refine wpAny.n (call_tuple_list (items := items) ⟨_, g1, rfl, n, rfl⟩ (fun h' hk => ?_) (by omega))
  have i' := i.ext hk s.toks
  exact ⟨_, ρ, i'.new (o' := .tup xs) (Nat.le_refl _) (fun b o e => Heap.get?_push_of_some _ e) ⟨items, _, Heap.get?_push_size _ rfl, g2, g3⟩ _, q _ (i'.fresh (Nat.le_refl _))⟩
end
end Mine
end
/- part FbIsi -/
section
open PySem PySem.W PySem.Spec PySem.Calls PyProof.Rows
set_option Elab.async false
set_option maxRecDepth 100000
set_option linter.all false
namespace Mine
theorem tyof_type {T : String} (h : typeOf (.type T) = pure (.type "type")) : typeOf (.type T) = pure (.type "type") := h
theorem ans_bytes_false {x : Array UInt8} {u : Tok} {T : String} (hne : (Value.type "bytes" == Value.type T) = false) (hty : typeOf (.type T) = pure (.type "type")) (hsub : isSubtype (.type "bytes") (.type T) = pure false) :
    Answers (fun s => s.TypeIs (.bytes x u) "bytes") (.bytes x u) (.type T) false :=
  fun _ _ _ _ _ _ s hs => by
    obtain ⟨h, g, d, t, os⟩ := s
    exact isinstance_nested_false_bytes hne hty hsub (hs.2 (t + 1))
namespace B
theorem ty_str : typeOf (.type "str") = pure (.type "type") := by kernel_rfl
theorem ty_bytes : typeOf (.type "bytes") = pure (.type "type") := by kernel_rfl
theorem ty_ba : typeOf (.type "bytearray") = pure (.type "type") := by kernel_rfl
theorem sub_bytes_str : isSubtype (.type "bytes") (.type "str") = pure false := by rw [isSubtype_type]; kernel_rfl
theorem sub_bytes_bytes : isSubtype (.type "bytes") (.type "bytes") = pure true := by rw [isSubtype_type]; kernel_rfl
end B
section
variable {C : Cx} {S : St} {F : Fm} {A : Around} {σ : Hp} {ρ : Loc} {X : Value → Hp → Loc → Prop}
/-- isinstance of bytes, asked of a tuple of types -/
theorem W_isi_bytes (co : C.Ok) {x : Array UInt8} {tp : Addr} {cs : List Value} {vb : List Bool} {b : Bool} {vs : List Value} {Q : Value → Hp → Loc → Prop} (hv : vs.map er = [.bytes x 0, .ref tp]) (ht : C.K.lookup tp = some { cls := .type "tuple", data := .seq cs.toArray })
    (ha : ∀ u, AnswersAll (fun s => s.TypeIs (.bytes x u) "bytes") (.bytes x u) cs vb) (hb : vb.any id = b) (q : Q (.bool b) σ ρ) : W C F A (call (.builtin "isinstance") vs []) σ ρ Q X := by
  intro s i
  obtain ⟨v1, v2, rfl, e1, e2⟩ := two_of hv
  obtain ⟨u, rfl⟩ := er_bytes_inv e1
  have := er_ref_inv e2; subst this
  exact wpAny.n (IsiPair.tupleOfB (ha u) (typeIs_bytes _ _ _) (i.kin co _ _ ht) hb fun tk => ⟨σ, ρ, i.toks tk, q⟩)
theorem ans_str (x : Array UInt8) (u : Tok) : AnswersAll (fun s => s.TypeIs (.bytes x u) "bytes") (.bytes x u) [.type "str"] [false] := .cons (ans_bytes_false (by decide) B.ty_str B.sub_bytes_str) .nil
theorem ans_bin (x : Array UInt8) (u : Tok) : AnswersAll (fun s => s.TypeIs (.bytes x u) "bytes") (.bytes x u) [.type "bytes", .type "bytearray"] [true, false] :=
  .cons (.of_true B.ty_bytes B.sub_bytes_bytes) (.cons (ans_bytes_false (by decide) B.ty_ba B.sub_bytes_ba) .nil)
end
end Mine
end
/- part FbMake -/
section
open PySem PySem.W PySem.Spec PySem.Calls PyProof.Rows
set_option Elab.async false
set_option maxRecDepth 100000
set_option maxHeartbeats 4000000
set_option linter.all false
namespace Mine
section
variable {prog : Program} {w : World} {A : Around} {Cl : Addr} {h : Heap} {g : Array GenState} {d : Drawn} {t : Nat} {os : OsState}
theorem nMake {rest : List Value} {fI : Addr} {Q : Value → Shared → Prop} {E : Value → Shared → Prop} (Y : Makes (model prog w) h Cl) (hi : Looks (model prog w) h (typeLookup (.ref Cl) "__init__") (some (.ref fI)))
    (hb : ∀ self, Looks (model prog w) h (bindSpecial (.ref fI) self) (.ref fI, [self]))
    (hq : wpN (model prog w) (A.under (.builtin "type.__call__" ⟨.ref Cl :: rest, []⟩)) (call (.ref fI) (.ref (h.objs.size + 1) :: rest) []) (fun v s' => v = .none ∧ Q (.ref (h.objs.size + 1)) s') E ⟨(h.push emptyDict).push (instObj Cl h.objs.size), g, d, t, os⟩) :
    wpN (model prog w) A (call (.ref Cl) rest []) Q E ⟨h, g, d, t, os⟩ := by
  have Y' := Y
  obtain ⟨⟨oc, od, cd, sl, hC, e1, e2, e4⟩, made, base, self, top, call', typ⟩ := Y
  refine wpN_call (codeN_of_tree rfl (wpAny.n ?_))
  show wpAny _ _ (callAny (.ref Cl) _) _ _ _
  refine nd_load hC ?_
  show wpAny _ _ (callAny.viaDunder (.ref Cl) _) _ _ _
  unfold callAny.viaDunder
  refine wpAny_bind (call'.at ?_)
  dsimp only
  rw [tc_bind]
  refine wpAny_bind (wpAny_pure (wpAny_bind (wpAny_pure ?_)))
  refine wpAny_pure (a := Fin.again (.call (.builtin "type.__call__") ⟨.ref Cl :: rest, []⟩)) (And.intro rfl ?_)
  refine codeN_of_tree rfl (wpAny.n ?_)
  show wpAny _ _ (do checkBuiltinCall "type.__call__" _; again (.builtin "type.__call__" _)) _ _ _
  refine wpAny_bind (check_slot tc_kind tc_split typ (tc_args _ _ _) (wpAny_pure (And.intro (Code.quiet_builtin _ (by decide +kernel)) (codeN_of_tree rfl ?_))))
  show wpN _ _ (match entryFor table "type.__call__" with | some b => b ⟨.ref Cl :: rest, []⟩ | none => unsupported ((withoutEnding? "type.__call__" "#data").getD "type.__call__")) _ _ _
  rw [entry_typeCall]
  show wpN _ _ (Builtin.«type.__call__» _) _ _ _
  unfold Builtin.«type.__call__»
  have hm : Looks (model prog w) h (mroOf (.ref Cl)) cd.mro := ((Looks.ld (part := none) hC).andThen .now).andThen .now
  dsimp only
  rw [if_neg (show ¬ (Value.ref Cl == Value.type "type") = true from fun z => by cases (beq_iff_eq.mp z))]
  refine wpN_bind (wpAny.n (hm.at ?_))
  rw [if_neg (by rw [e4]; decide)]
  refine wpN_bind (wpAny.n (made.at ?_))
  dsimp only
  refine wpN_bind (wpN_pure (wpN_bind ?_))
  refine wpN_holding (wpN_call (codeAny.n (new_K Y' hi (.inl rfl) ?_)))
  have k : ∀ b o, h.get? b = some o → ((h.push emptyDict).push (instObj Cl h.objs.size)).get? b = some o := fun b o e => Heap.get?_push_of_some _ (Heap.get?_push_of_some _ e)
  have hx : ((h.push emptyDict).push (instObj Cl h.objs.size)).get? (h.objs.size + 1) = some (instObj Cl h.objs.size) := by heap_get
  have t1 : Looks (model prog w) ((h.push emptyDict).push (instObj Cl h.objs.size)) (typeOf (.ref (h.objs.size + 1))) (.ref Cl) := (Looks.ld hx).andThen .now
  have s1 := self.keeps k
  have i1 := hi.keeps k
  have b1 := (hb (.ref (h.objs.size + 1))).keeps k
  dsimp only
  have i0 : Looks (model prog w) ((h.push emptyDict).push (instObj Cl h.objs.size)) (isInstance (.ref (h.objs.size + 1)) (.ref Cl)) true := t1.andThen s1
  refine wpN_bind (wpAny.n (i0.at ?_))
  rw [if_neg (by decide)]
  refine wpN_bind (wpN_holding ?_)
  unfold callSpecial?
  have i2 : Looks (model prog w) ((h.push emptyDict).push (instObj Cl h.objs.size)) (specialOf (.ref (h.objs.size + 1)) "__init__") (some (.ref fI)) := t1.andThen i1
  refine wpN_bind (wpAny.n (i2.at ?_))
  dsimp only
  refine wpN_holding (wpN_bind (wpAny.n (b1.at ?_)))
  dsimp only
  refine wpN_bind (wpN_mono hq (fun v s' h' => ?_) fun _ _ x => x)
  obtain ⟨rfl, h'⟩ := h'
  refine wpN_pure ?_
  dsimp only
  rw [if_neg (by decide)]
  exact wpN_pure h'
end
section
variable {C : Cx} {F : Fm} {A : Around} {σ : Hp} {ρ : Loc} {X : Value → Hp → Loc → Prop} {Q : Value → Hp → Loc → Prop}
def MakeOk (K : Frag) (Cl fI : Addr) : Prop := makesIn K Cl = true ∧ findIn K (.ref Cl) "__init__" = some (some (.ref fI)) ∧ typeIn K (.ref fI) = some (.type "function")
theorem W_make {d : Nat} (co : C.Ok) (ok : F.Ok C) (ar : Ar F A (d + 1)) {Cl fI : Addr} {vs : List Value} (sl : List (Option Value)) (hsl : ∀ i : Nat, (sl[i]?).join = none) (hm : MakeOk C.K Cl fI)
    (h : ∀ x dx A', σ x = none → σ dx = none → x ≠ dx → Ar F A' d → W C F A' (call (.ref fI) (.ref x :: vs) []) ((σ.put dx .hid).put x (.inst Cl dx sl)) ρ (fun v σ' ρ' => v = .none ∧ Q (.ref x) σ' ρ') X) :
    W C F A (call (.ref Cl) vs []) σ ρ Q X := by
  intro s i
  obtain ⟨h1, h2, h3⟩ := hm
  have X₀ := i.kin co
  have n0 := i.none_at
  obtain ⟨hh, g, dr, t, os⟩ := s
  have i1 := i.new (o' := .hid) (a := hh.objs.size) (Nat.le_refl _) (fun b o e => Heap.get?_push_of_some emptyDict e) (Heap.get?_push_size _ rfl) t
  have n1 := i1.none_at
  have hz : (hh.push emptyDict).objs.size = hh.objs.size + 1 := Heap.size_push ..
  have i2 := i1.new (o' := .inst Cl hh.objs.size sl) (a := hh.objs.size + 1) (Nat.le_of_eq hz) (fun b o e => Heap.get?_push_of_some (instObj Cl hh.objs.size) e) ⟨(Hp.put_ne _ _ (Nat.ne_of_lt (Nat.lt_succ_self _))).trans (Hp.put_self _ _ _), instObj Cl hh.objs.size, by heap_get, rfl, rfl, rfl, Nat.zero_le _, fun j => by rw [hsl]; rfl⟩ t
  have nx : σ (hh.objs.size + 1) = none := by
    cases e : σ (hh.objs.size + 1) with
    | none => rfl
    | some o => exact absurd (i.lt e) (Nat.not_lt.mpr (Nat.le_succ _))
  refine nMake (makes_of X₀ h1) (looks_findIn X₀ h2) (fun self => bind_fn X₀ self h3) ?_
  refine (h (hh.objs.size + 1) hh.objs.size (A.under (.builtin "type.__call__" ⟨.ref Cl :: vs, []⟩)) nx n0 (Ne.symm (Nat.ne_of_lt (Nat.lt_succ_self _))) ⟨ar.frames, ar.guards, by have := ar.depth; show A.depth + 1 + d < _; omega, ?_, ar.handled⟩).use i2 (fun v s' σ' ρ' i' q => ?_) fun ea cls s' σ' ρ' y q => ⟨ea, cls, σ', ρ', rfl, y, q⟩
  · have := ar.units; show A.units + (Code.builtin "type.__call__" ⟨.ref Cl :: vs, []⟩).cUnits + 10 * d < _; have e : (Code.builtin "type.__call__" ⟨.ref Cl :: vs, []⟩).cUnits = 1 := rfl; omega
  · obtain ⟨q1, q2⟩ := q
    have : v = .none := er_none_inv q1
    exact ⟨this, σ', ρ', i', q2⟩
end
end Mine
end
/- part FbKw -/
section
open PySem PySem.W PySem.Spec PySem.Calls PyProof.Rows
set_option Elab.async false
set_option maxRecDepth 100000
set_option maxHeartbeats 4000000
set_option linter.all false
namespace Mine
section
variable {M : Model} {A : Around} {E : Value → Shared → Prop} {s : Shared}
theorem nEvalArgsK {f : Value} {x : Sem Value} {rest : List (Bool × Sem Value)} {n : Str} {y : Sem Value} {pos : Pos} {Q : Args → Shared → Prop}
    (h : wpN M A (spliced ((false, x) :: rest)) (fun vs s' => wpN M A y (fun v s'' => Q ⟨vs, [(n, v)]⟩ s'') E s') E s) :
    wpN M A (evalArgs f true ((false, x) :: rest) [(some n, (do let v ← y; standAt pos; pure v))]) Q E s := by
  unfold evalArgs
  show wpN M A (spliced ((false, x) :: rest) >>= _) Q E s
  refine wpN_bind (wpN_mono h (fun vs s' h' => ?_) fun _ _ x => x)
  refine wpN_holding ?_
  refine wpN_bind (wpN_bind (wpN_bind (wpN_mono h' (fun v s'' h'' => ?_) fun _ _ x => x)))
  refine wpN_bind (wpN_standAt (wpN_pure ?_))
  refine wpN_bind (wpN_holding (wpN_pure (wpN_pure (wpN_pure ?_))))
  exact h''
theorem nCallWithK {pos : Pos} {f : Value} {first : List Value} {es : List (Bool × Sem Value)} {kw : List (Option Str × Sem Value)} {Q : Value → Shared → Prop} {P : Heap → Prop}
    (hplain : (es.any (·.1)) = false) (hkw : (kw.any (·.1.isNone)) = false)
    (hk : ∀ h, P h → ∃ k, (k = Keeper.frame ∨ k = Keeper.machine ∨ k = Keeper.boundFrame) ∧ Looks M h (keeperOf f) k)
    (h : wpN M A (evalArgs f true es kw) (fun a s₁ => P s₁.heap ∧ wpN M A (call f (first ++ a.pos) a.kw) Q E s₁) E s) : wpN M A (callWith pos f first es kw) Q E s := by
  unfold callWith
  refine wpN_bind (wpN_holding (wpN_mono h (fun a s₁ h₁ => wpN_bind (wpN_standAt ?_)) fun _ _ x => x))
  obtain ⟨k, hk', L⟩ := hk _ h₁.1
  simp only [hplain, hkw, Bool.or_false]
  refine wpN_bind (wpAny.n (L.here ?_))
  have tail : ∀ {t : Sem Value}, wpN M A t Q E s₁ → wpN M A (t >>= fun r => holding [r] point >>= fun _ => pure r) Q E s₁ :=
    fun ht => wpN_bind (wpN_mono ht (fun r s₂ hr => wpN_bind (wpN_holding (nPoint (wpN_pure hr)))) fun _ _ x => x)
  have marked (mk : Value) : wpN M A (callMarked mk f (first ++ a.pos) a.kw) Q E s₁ := by unfold callMarked; exact nKeep h₁.2
  rcases hk' with rfl | rfl | rfl <;> dsimp only <;> first | exact tail h₁.2 | (split <;> first | exact tail h₁.2 | exact tail (marked _))
theorem nCallWithS {pos : Pos} {f : Value} {first : List Value} {es : List (Bool × Sem Value)} {Q : Value → Shared → Prop} {P : Heap → Prop}
    (hst : (es.any (·.1)) = true)
    (hk : ∀ h, P h → ∃ k, (k = Keeper.frame ∨ k = Keeper.machine ∨ k = Keeper.boundFrame) ∧ Looks M h (keeperOf f) k)
    (h : wpN M A (evalArgs f true es []) (fun a s₁ => P s₁.heap ∧ wpN M A (call f (first ++ a.pos) a.kw) Q E s₁) E s) : wpN M A (callWith pos f first es []) Q E s := by
  unfold callWith
  refine wpN_bind (wpN_holding (wpN_mono h (fun a s₁ h₁ => wpN_bind (wpN_standAt ?_)) fun _ _ x => x))
  obtain ⟨k, hk', L⟩ := hk _ h₁.1
  simp only [hst, Bool.true_or]
  refine wpN_bind (wpAny.n (L.here ?_))
  have tail : ∀ {t : Sem Value}, wpN M A t Q E s₁ → wpN M A (t >>= fun r => holding [r] point >>= fun _ => pure r) Q E s₁ :=
    fun ht => wpN_bind (wpN_mono ht (fun r s₂ hr => wpN_bind (wpN_holding (nPoint (wpN_pure hr)))) fun _ _ x => x)
  have marked (mk : Value) : wpN M A (callMarked mk f (first ++ a.pos) a.kw) Q E s₁ := by unfold callMarked; exact nKeep h₁.2
  rcases hk' with rfl | rfl | rfl <;> dsimp only <;> first | exact tail (marked _) | exact tail (wpN_operate h₁.2)
theorem wp_peekT {α : Type} {K : Frag} {Q : α → Shared → Prop} {o : Obj} {r : Addr → α} (X : K.In s.heap) (q : Q (r s.heap.objs.size) { s with heap := s.heap.push o }) :
    ∀ (t : Sem α) (g : Addr → Option α), peek1 K ⟨M.prog, M.w.params⟩ t = some (o, g) → (∀ D, g D = some (r D)) → wpAny M A t Q E s := by
  intro t
  induction t with
  | rule _ k ih => intro g e hg Γ p hΓ; exact ih () g e hg Γ p hΓ
  | point _ k ih => intro g e hg Γ p hΓ; exact ih () g e hg Γ p hΓ
  | ask k ih => intro g e hg Γ p hΓ; exact ih _ g e hg Γ p hΓ
  | load a _ k ih =>
    intro g e hg Γ p hΓ
    simp only [peek1] at e
    split at e
    · rename_i ob ho; exact ⟨ob, X _ _ ho, ih ob g e hg Γ p hΓ⟩
    · cases e
  | alloc ob k _ =>
    intro g e hg
    have e : some (ob, fun D => peek K ⟨M.prog, M.w.params⟩ (k D)) = some (o, g) := e
    obtain ⟨e1, e2⟩ := Prod.mk.inj (Option.some.inj e)
    subst e1
    subst e2
    have X' : K.In (s.heap.push ob) := X.keeps fun b x hb => Heap.get?_push_of_some _ hb
    show wpAny M A (alloc ob >>= k) Q E s
    refine wpAny_bind (wpAny_alloc ?_)
    exact (Looks.of_peek (M := M) (h := s.heap.push ob) X' (hg s.heap.objs.size)).here (s := { s with heap := s.heap.push ob }) q
  | _ => intro g e; cases e
end
section
variable {C : Cx} {S : St} {F : Fm} {A : Around} {σ : Hp} {ρ : Loc} {X : Value → Hp → Loc → Prop}
/-- o.x(es, n=e), all pure -/
theorem W_CallAK (ok : F.Ok C) (co : C.Ok) (so : S.Ok C) {o : Expr} {x n : Str} {ap pos kp : Pos} {e0 : Expr} {es : List Expr} {ke : Expr} {f ov kv : Value} {fst : Bool} {args : List Value} {pl : Sem Bool} {Q : Value → Hp → Loc → Prop}
    (ho : pe S F.sc σ ρ o = some ov) (hm : GM C F A σ ρ ov x f fst) (hk : Keeps C f) (hs : noStar (e0 :: es) = true) (ha : (e0 :: es).mapM (pe S F.sc σ ρ) = some args) (hkv : pe S F.sc σ ρ ke = some kv)
    (h : ∀ ov' vs v, er ov' = ov → vs.map er = args → er v = kv → W C F A (call f ((if fst then [ov'] else []) ++ vs) [(n, v)]) σ ρ Q X)
    (he : eval (.Call (.Attribute o x ap) (e0 :: es) [⟨some n, ke, kp⟩] pos) F.env = (do let ov ← eval o F.env; standAt ap.atName; let fx ← holding [ov] (getMethod ov x pl); callWith pos fx.1 fx.2 (backTo pos (starEach (e0 :: es) F.env)) [(some n, (do let v ← eval ke F.env; standAt pos; pure v))])) :
    W C F A (eval (.Call (.Attribute o x ap) (e0 :: es) [⟨some n, ke, kp⟩] pos) F.env) σ ρ Q X := by
  intro s i
  rw [he]
  refine wpN_bind (wpAny.n (pe_ok ok co so _ ho s i _ _ fun g tk eg => ?_))
  refine wpN_bind (wpN_standAt (wpN_bind (wpN_holding (wpAny.n (hm _ _ (i.toks tk) g eg _ _ fun tk' => ?_)))))
  have hA := W_args_pe (A := A) (X := X) (pos := pos) (Q := fun vs σ' ρ' => σ' = σ ∧ ρ' = ρ ∧ vs = args) ok co so ha ⟨rfl, rfl, rfl⟩
  refine nCallWithK (P := C.K.In) (plain_of hs) rfl (hk _) ?_
  have hh := (star_of (env := F.env) hs).1
  rw [hh] at hA ⊢
  refine nEvalArgsK (hA.use (i.toks tk') (fun vs s1 σ1 ρ1 i1 q1 => ?_) fun ea cls s' σ' ρ' y q => ⟨ea, cls, σ', ρ', rfl, y, q⟩)
  obtain ⟨rfl, rfl, q1⟩ := q1
  refine wpAny.n (pe_ok ok co so _ hkv s1 i1 _ _ fun v tk2 ev => ?_)
  exact ⟨(i1.toks tk2).kin co, h g vs v eg q1 ev _ (i1.toks tk2)⟩
/-- f(e, *e2): the rest a tuple -/
theorem W_args_star {e : Expr} {p pos : Pos} {tp : Addr} {xs : List Value} {Q : List Value → Hp → Loc → Prop} (ok : F.Ok C) (co : C.Ok) (so : S.Ok C) (he : pe S F.sc σ ρ e = some (.ref tp)) (ht : σ tp = some (.tup xs)) (q : Q xs σ ρ) :
    W C F A (spliced (backTo pos (starEach [.Starred e p] F.env))) σ ρ Q X := by
  intro s i
  show wpN _ _ (spliced ((true, (do let v ← eval e F.env; standAt pos; pure v)) :: [])) _ _ _
  refine wpAny.n (ks_spliced (pe_ok ok co so _ he s i _ _ fun g tk eg => ?_))
  have := er_ref_inv eg; subst this
  have i' := i.toks tk
  obtain ⟨items, n, g1, g2, g3⟩ := (i'.own tp _ ht).2.2
  unfold StarOf notIterableAtAll
  have hT : ({ s with toks := tk } : Shared).TypeIs (.ref tp) "tuple" := ⟨_, g1, rfl⟩
  refine wpAny_bind (wpAny_specialOf hT PySem.F.slot_tuple_iter.lookup (wpAny_pure ⟨rfl, ?_⟩))
  refine wpAny_collect_seq tp (.inr rfl) g1 rfl rfl (fun h' hk => ?_) (by rw [show items.size = xs.length from by rw [← g2]; simp]; exact g3)
  refine wpAny_pure (a := ([] : List Value)) ⟨σ, ρ, i'.ext hk _, ?_⟩
  show Q ((items.toList ++ []).map er) σ ρ
  rw [List.append_nil, g2]; exact q
def stars : List Expr → Bool
  | [] => false
  | .Starred .. :: _ => true
  | _ :: r => stars r
theorem star_any {env : Env} {pos : Pos} : ∀ {es : List Expr}, stars es = true → ((backTo pos (starEach es env)).any (·.1)) = true
  | e :: es, h => by
    cases e <;> first | rfl | (show (false || (backTo pos (starEach es env)).any (·.1)) = true; exact star_any h)
/-- what a call does, as code -/
def CallN (C : Cx) (F : Fm) (A : Around) (f : Value) (vs : List Value) (kw : List (Str × Value)) (σ : Hp) (ρ : Loc) (Q : Value → Hp → Loc → Prop) (X : Value → Hp → Loc → Prop) : Prop :=
  ∀ s, Inv C F σ ρ s → ∀ (R : Result → Shared → Prop), (∀ v s' σ', Inv C F σ' ρ s' → Q (er v) σ' ρ → R (.ok (.ret v)) s') → (∀ ea cls s' σ', Exc C F σ' ρ ea cls s' → X cls σ' ρ → R (.error (.ref ea)) s') → codeN (model C.prog C.w) A (.call f ⟨vs, kw⟩) R s
theorem CallN.w {f : Value} {vs : List Value} {kw : List (Str × Value)} {Q : Value → Hp → Loc → Prop} (h : CallN C F A f vs kw σ ρ Q X) : W C F A (call f vs kw) σ ρ Q X := fun s i =>
  wpN_call (h s i _ (fun v s' σ' i' q => ⟨σ', ρ, i', q⟩) fun ea cls s' σ' y q => ⟨ea, cls, σ', ρ, rfl, y, q⟩)
def BoundOk (K : Frag) (Cl : Addr) (x : Str) (f : Addr) : Prop := plainGet K Cl x = true ∧ findObj K Cl (some (dictOf [] 0)) x = some (.bind (.builtin "function.__get__") (.ref f)) ∧ typeIn K (.ref f) = some (.type "function") ∧ fnIn K f = true
def boundChk (K : Frag) (Cl : Addr) (x : Str) (f : Addr) : Bool := plainGet K Cl x && (match findObj K Cl (some (dictOf [] 0)) x with | some (.bind (.builtin i) (.ref g)) => i == "function.__get__" && g == f | _ => false) && (typeIn K (.ref f) == some (.type "function")) && fnIn K f
theorem boundChk_ok {K : Frag} {Cl : Addr} {x : Str} {f : Addr} (h : boundChk K Cl x f = true) : BoundOk K Cl x f := by
  unfold boundChk at h
  simp only [Bool.and_eq_true, beq_iff_eq] at h
  obtain ⟨⟨⟨h1, h2⟩, h3⟩, h4⟩ := h
  split at h2
  · rename_i i g e
    simp only [Bool.and_eq_true, beq_iff_eq] at h2
    obtain ⟨rfl, rfl⟩ := h2
    exact ⟨h1, e, h3, h4⟩
  · cases h2
/-- o.x(e0, ..., *r), x a method of an instance: by a bound method -/
theorem W_CallBS (ok : F.Ok C) (co : C.Ok) (so : S.Ok C) {o : Expr} {x : Str} {ap pos : Pos} {e0 : Expr} {es : List Expr} {b f Cl dx : Addr} {sl : List (Option Value)} {Q : Value → Hp → Loc → Prop}
    (ho : pe S F.sc σ ρ o = some (.ref b)) (eb : σ b = some (.inst Cl dx sl)) (hm : BoundOk C.K Cl x f) (hs : stars es = true) (hh : ∀ env, starEach (e0 :: es) env = (false, eval e0 env) :: starEach es env)
    (h : ∀ q, σ q = none → W C F A (spliced (backTo pos (starEach (e0 :: es) F.env))) (σ.put q (.raw (methodObj (.ref f) (.ref b)))) ρ (fun args σ₁ ρ₁ => σ₁ q = some (.raw (methodObj (.ref f) (.ref b))) ∧ ∀ vs, vs.map er = args → CallN C F A (.ref f) (.ref b :: vs) [] σ₁ ρ₁ Q X) X)
    (he : eval (.Call (.Attribute o x ap) (e0 :: es) [] pos) F.env = (do let ov ← eval o F.env; standAt ap.atName; let fx ← holding [ov] (do let r ← getAttr ov x true; pure (r, ([] : List Value))); callWith pos fx.1 fx.2 (backTo pos (starEach (e0 :: es) F.env)) [])) :
    W C F A (eval (.Call (.Attribute o x ap) (e0 :: es) [] pos) F.env) σ ρ Q X := by
  intro s i
  rw [he]
  refine wpN_bind (wpAny.n (pe_ok ok co so _ ho s i _ _ fun g tk eg => ?_))
  have := er_ref_inv eg; subst this
  have i' := i.toks tk
  obtain ⟨ox, I, hdx, hpl, hsz, hsl⟩ := inst_of ok i' eb
  obtain ⟨h1, h2, h3, h4⟩ := hm
  have X₀ := i'.kin co
  refine wpN_bind (wpN_standAt (wpN_bind (wpN_holding (wpN_bind (wpAny.n ?_)))))
  refine get_bind X₀ I (plainGet_of h1).1 h2 (plainGet_of h1).2 (wpAny_call (fn_get (s := { s with toks := tk + 1 }) X₀ h3 (handed_on rfl ?_)))
  refine wpN_pure ?_
  have i2 := i'.new (o' := .raw (methodObj (.ref f) (.ref b))) (a := s.heap.objs.size) (Nat.le_refl _) (fun b' o e => Heap.get?_push_of_some (methodObj (.ref f) (.ref b)) e) (Heap.get?_push_size _ rfl) (tk + 1)
  have hA := h s.heap.objs.size i'.none_at
  have hs' : ((backTo pos (starEach (e0 :: es) F.env)).any (·.1)) = true := by rw [hh]; show (false || (backTo pos (starEach es F.env)).any (·.1)) = true; exact star_any hs
  refine nCallWithS (P := MethP C.K s.heap.objs.size f (.ref b)) hs' (keeps_M h4) ?_
  rw [hh] at hA ⊢
  refine nEvalArgs (hA.use i2 (fun vs s1 σ1 ρ1 i1 q1 => ⟨⟨(i1.own _ _ q1.1).2.2, i1.kin co⟩, ?_⟩) fun ea cls s' σ' ρ' y q => ⟨ea, cls, σ', ρ', rfl, y, q⟩)
  have hq : s1.heap.get? s.heap.objs.size = some (methodObj (.ref f) (.ref b)) := (i1.own _ _ q1.1).2.2
  refine wpN_call (codeN_of_tree rfl (wpAny.n ?_))
  obtain ⟨hh1, g1, dr1, t1, os1⟩ := s1
  show wpAny _ _ (callAny (.ref s.heap.objs.size) _) _ _ _
  dsimp only at hq
  refine nd_load hq ?_
  exact wpAny_pure (And.intro rfl (q1.2 vs rfl _ i1 _ (fun v s' σ' i' q => ⟨σ', ρ1, i', q⟩) fun ea cls s' σ' y q => ⟨ea, cls, σ', ρ1, rfl, y, q⟩))
end
section
variable {C : Cx} {F : Fm} {A : Around} {σ : Hp} {ρ : Loc} {X : Value → Hp → Loc → Prop} {Q : Value → Hp → Loc → Prop}
  {name qual : Str} {params : Arguments} {body : List Stmt} {scope : Scope} {dV kV doc pm cdv ct oc : Value} {an od : Option Addr} {osl : Array (Option Value)} {f : Addr} {d : Nat}
theorem call_fnC (co : C.Ok) (ok : F.Ok C) (ar : Ar F A (d + 1)) {vs : List Value} {kw : List (Str × Value)} {binds : List (Str × Value)}
    (ho : C.K.lookup f = some ⟨oc, od, .func (fnOf name qual params body scope dV kV doc pm an cdv ct), osl⟩) (hcd : codeIn C.K cdv qual = true)
    (hbind : ∃ bs : List (Str × Value), (∀ s : Shared, C.K.In s.heap → BindsTo s (fnOf name qual params body scope dV kV doc pm an cdv ct) ⟨vs, kw⟩ bs) ∧ bs.map (fun p => (p.1, er p.2)) = binds)
    (hloc : ∀ x ∈ binds, scope.names.lookup x.1 = some .local) (hcell : ∀ x ∈ scope.names, x.2 ≠ .cell) (hco : scope.isCoroutine = false) (hgen : scope.isGenerator = false) (hk : scope.kind = .function)
    (h : ∀ F' A', F'.Ok C → Ar F' A' d → F'.sc = scope → W C F' A' (execs body F'.env) σ (fun x => binds.reverse.lookup x) (fun fl σ' _ => Q (flv fl) σ' ρ) (fun c σ' _ => X c σ' ρ)) :
    CallN C F A (.ref f) vs kw σ ρ Q X := fun s i R r1 r2 => code_fn (Q := Q) (X := X) co ok ar ho hcd hbind hloc hcell hco hgen hk h s i R r1 r2
/-- a call of a def with *args -/
theorem call_fnV (co : C.Ok) (ok : F.Ok C) (ar : Ar F A (d + 1)) {vs rest : List Value} {g₁ : Addr → Option (List (Str × Value))} {bs : Addr → List (Str × Value)} {binds : Addr → List (Str × Value)}
    (ho : C.K.lookup f = some ⟨oc, od, .func (fnOf name qual params body scope dV kV doc pm an cdv ct), osl⟩) (hcd : codeIn C.K cdv qual = true)
    (hp : peek1 C.K ⟨C.prog, C.w.params⟩ (bindArgs (fnOf name qual params body scope dV kV doc pm an cdv ct) ⟨vs, []⟩) = some (({ cls := .type "tuple", data := .seq rest.toArray } : Obj), g₁))
    (hg : ∀ D, g₁ D = some (bs D)) (hbs : ∀ D, (bs D).map (fun p => (p.1, er p.2)) = binds D) (hz : rest.length ≤ sizeLine)
    (hloc : ∀ D, ∀ x ∈ binds D, scope.names.lookup x.1 = some .local) (hcell : ∀ x ∈ scope.names, x.2 ≠ .cell) (hco : scope.isCoroutine = false) (hgen : scope.isGenerator = false) (hk : scope.kind = .function)
    (h : ∀ D F' A', σ D = none → F'.Ok C → Ar F' A' d → F'.sc = scope → W C F' A' (execs body F'.env) (σ.put D (.tup (rest.map er))) (fun x => (binds D).reverse.lookup x) (fun fl σ' _ => Q (flv fl) σ' ρ) (fun c σ' _ => X c σ' ρ)) :
    W C F A (call (.ref f) vs []) σ ρ Q X := by
  intro s i
  have X₀ := i.kin co
  have n0 := i.none_at
  obtain ⟨m₀, fr, _⟩ := i.loc
  refine wpN_call (codeN_call_function (fd := fnOf name qual params body scope dV kV doc pm an cdv ct) (body := body) (by have := ar.depth; omega) (X₀ _ _ ho) rfl hco hgen rfl (codeRec_of X₀ hcd) ?_)
  refine wp_peekT (o := ({ cls := .type "tuple", data := .seq rest.toArray } : Obj)) X₀ (r := bs) ?_ _ g₁ hp hg
  have i1 := i.new (o' := .tup (rest.map er)) (a := s.heap.objs.size) (Nat.le_refl _) (fun b o e => Heap.get?_push_of_some ({ cls := .type "tuple", data := .seq rest.toArray } : Obj) e) ⟨rest.toArray, 0, Heap.get?_push_size _ rfl, by simp, by simpa using hz⟩ s.toks
  generalize s.heap.objs.size = D at *
  revert i1
  generalize hs1 : ({ s with heap := s.heap.push ({ cls := .type "tuple", data := .seq rest.toArray } : Obj) } : Shared) = s1
  intro i1
  clear hs1
  obtain ⟨m1, fr1, _⟩ := i1.loc
  have hlim : s1.heap.NoLimit := co.top.nolimit.keeps fr1.keep
  refine wpAny_newFunctionEnv hcell (fun x hx => hloc D (x.1, er x.2) (by rw [← hbs]; exact List.mem_map.mpr ⟨x, hx, rfl⟩)) (fun h₁ hns hsb₀ => ⟨hlim.fresh _ hsb₀, codeN_func ?_⟩) hk
  have hk₁ : ∀ b o, s1.heap.get? b = some o → h₁.get? b = some o := fun b o e => hsb₀.extBut b o (Nat.ne_of_lt (Heap.lt_size e)) (Heap.get?_push_of_some _ e)
  have ok' : (below F (σ.put D (.tup (rest.map er))) s1 qual scope f cdv).Ok C := below_ok i1 ok hk hcell
  have i' : Inv C (below F (σ.put D (.tup (rest.map er))) s1 qual scope f cdv) (σ.put D (.tup (rest.map er))) (fun x => (binds D).reverse.lookup x) { s1 with heap := h₁, toks := s1.toks + (bs D).length } :=
    below_inv i1 ok hns hk₁ (fun x _ => by rw [lookup_er, List.map_reverse, hbs]) _
  have ar' : Ar (below F (σ.put D (.tup (rest.map er))) s1 qual scope f cdv) (A.deeper (below F (σ.put D (.tup (rest.map er))) s1 qual scope f cdv).env) d :=
    ⟨by show Option.map _ A.frames = _; rw [ar.frames]; rfl, ar.guards, by have := ar.depth; show A.depth + 1 + d < _; omega, by have := ar.units; show A.units + 3 + 10 * d < _; omega, ar.handled⟩
  refine (h D _ _ n0 ok' ar' rfl).use i' (fun fl s' σ' ρ' i2 q => ?_) fun ea cls s' σ' ρ' y q => ?_
  · have i3 := inv_back i1 ok i2
    cases fl <;> exact ⟨σ', ρ, i3, q⟩
  · exact wpAny.n (leave_exc i1 ok ok' (by show Option.map _ A.frames = _; rw [ar.frames]; rfl) y fun s'' y' => ⟨ea, cls, σ', ρ, rfl, y', q⟩)
end
end Mine
end
/- part L02b -/
section
open PySem PySem.W PySem.Spec PySem.Calls PyProof.Rows
set_option Elab.async false
set_option maxRecDepth 100000
set_option maxHeartbeats 4000000
set_option linter.all false
namespace Mine
/-- what every lemma on law 02's program supposes -/
structure L2 (C : Cx) : Prop where
  ok : C.Ok
  k : C.K = hd.heap_39 C.w.params
def gL : List (String × Value) := [("uint8", .ref 50), ("uint16", .ref 51), ("uint32", .ref 52), ("int32", .ref 53), ("uoffset", .ref 52), ("soffset", .ref 53), ("Uint8Flags", .ref 63), ("Uint16Flags", .ref 77), ("Uint32Flags", .ref 91), ("Int32Flags", .ref 105),
  ("SOffsetTFlags", .ref 119), ("UOffsetTFlags", .ref 131), ("VOffsetTFlags", .ref 143), ("enforce_number", .ref 152), ("Get", .ref 159), ("Get_encode", .ref 159), ("Write", .ref 166), ("Table", .ref 248), ("VtableMetadataFields", .int 2 0), ("Builder", .ref 734), ("string_types", .ref 253), ("binary_types", .ref 254), ("_law_up4", .ref 754), ("_law_refused", .ref 761), ("_law_goes_on", .ref 768), ("_law_reads", .ref 775)]
theorem gL_ok (P : Params) : (gL.all fun p => gchk (hd.heap_39 P) (Str.ofString p.1) p.2) = true := by kernel_rfl
def bL : List (String × Value) := [("len", .builtin "len"), ("bytearray", .type "bytearray"), ("min", .builtin "min"), ("range", .type "range"), ("reversed", .type "reversed"), ("tuple", .type "tuple"), ("isinstance", .builtin "isinstance"), ("bytes", .type "bytes"), ("str", .type "str"), ("TypeError", .type "TypeError")]
theorem bL_ok (P : Params) : (bL.all fun p => nsIn (hd.heap_39 P) mainGlobals (Str.ofString p.1) == some none) = true := by kernel_rfl
theorem bL_boot : ∀ p ∈ bL, bootBuiltins (Str.ofString p.1) = some p.2 := by
  intro p hp
  simp only [bL, List.mem_cons, List.not_mem_nil, or_false] at hp
  rcases hp with rfl | rfl | rfl | rfl | rfl | rfl | rfl | rfl | rfl | rfl
  · exact PyProof.Rows.Boot.«len»
  · exact PyProof.Rows.Boot.«bytearray»
  · exact PyProof.Rows.Boot.«min»
  · exact PyProof.Rows.Boot.«range»
  · exact PyProof.Rows.Boot.«reversed»
  · exact PyProof.Rows.Boot.«tuple»
  · exact PyProof.Rows.Boot.«isinstance»
  · exact PyProof.Rows.Boot.«bytes»
  · exact PyProof.Rows.Boot.«str»
  · exact PyProof.Rows.Boot.«TypeError»
def slL : List (String × Nat) := [("Bytes", 0), ("current_vtable", 1), ("finished", 2), ("forceDefaults", 3), ("head", 4), ("minalign", 5), ("nested", 6), ("objectEnd", 7), ("sharedStrings", 8), ("vectorNumElems", 9), ("vtables", 10)]
theorem slL_ok (P : Params) : (slL.all fun p => slotChk (hd.heap_39 P) 734 (Str.ofString p.1) p.2) = true := by kernel_rfl
def tlL : List (String × Nat) := [("Bytes", 0), ("Pos", 1)]
theorem tlL_ok (P : Params) : (tlL.all fun p => slotChk (hd.heap_39 P) 248 (Str.ofString p.1) p.2) = true := by kernel_rfl
def saL : List (Addr × List (String × Value)) := [
  (63, [("bytewidth", .int 1 0), ("min_val", .int 0 0), ("max_val", .int 255 0), ("name", .str "uint8" 0), ("packer_type", .ref 50)]),
  (77, [("bytewidth", .int 2 0), ("min_val", .int 0 0), ("max_val", .int 65535 0), ("name", .str "uint16" 0), ("packer_type", .ref 51)]),
  (91, [("bytewidth", .int 4 0), ("min_val", .int 0 0), ("max_val", .int 4294967295 0), ("name", .str "uint32" 0), ("packer_type", .ref 52)]),
  (105, [("bytewidth", .int 4 0), ("min_val", .int (-2147483648) 0), ("max_val", .int 2147483647 0), ("name", .str "int32" 0), ("packer_type", .ref 53)]),
  (119, [("bytewidth", .int 4 0), ("min_val", .int (-2147483648) 0), ("max_val", .int 2147483647 0), ("name", .str "int32" 0), ("packer_type", .ref 53)]),
  (131, [("bytewidth", .int 4 0), ("min_val", .int 0 0), ("max_val", .int 4294967295 0), ("name", .str "uint32" 0), ("packer_type", .ref 52)]),
  (143, [("bytewidth", .int 2 0), ("min_val", .int 0 0), ("max_val", .int 65535 0), ("name", .str "uint16" 0), ("packer_type", .ref 51)]),
  (734, [("MAX_BUFFER_SIZE", .int 2147483648 0)])]
theorem saL_ok (P : Params) : (saL.all fun p => p.2.all fun q => satChk (hd.heap_39 P) p.1 (Str.ofString q.1) q.2) = true := by kernel_rfl
def meL : List (String × Addr) := [("__init__", 348), ("Output", 362), ("StartObject", 369), ("WriteVtable", 376), ("EndObject", 383), ("GrowByteBuffer", 390), ("Head", 397), ("Offset", 404), ("Pad", 411), ("Prep", 418), ("PrependSOffsetTRelative", 425), ("PrependUOffsetTRelative", 432),
  ("StartVector", 439), ("EndVector", 447), ("CreateString", 461), ("assertNested", 475), ("assertNotNested", 482), ("Slot", 496), ("_Builder__Finish", 504), ("Finish", 512), ("Prepend", 527), ("PrependSlot", 534), ("PrependUint8Slot", 555), ("PrependUOffsetTRelativeSlot", 611), ("PrependInt32", 681), ("PrependVOffsetT", 702), ("Place", 709), ("PlaceSOffsetT", 723), ("PlaceUOffsetT", 730)]
theorem meL_ok (P : Params) : (meL.all fun p => methChk (hd.heap_39 P) 734 (Str.ofString p.1) p.2) = true := by kernel_rfl
def fnL : List Addr := [152, 159, 166, 754, 761, 768, 775]
theorem fnL_ok (P : Params) : (fnL.all fun f => keepIn (hd.heap_39 P) (.ref f)) = true := by kernel_rfl
def S2 : St where
  G := fun x => match tab gL x with | some v => some v | none => tab bL x
  slot := fun a x => if a = 734 then tab slL x else if a = 248 then tab tlL x else none
  sat := fun a x => match saL.lookup a with | some l => tab l x | none => none
theorem S2_ok {C : Cx} (l : L2 C) : S2.Ok C := by
  refine ⟨fun x v h => ?_, fun a x i h => ?_, fun a x v h => ?_⟩
  · simp only [S2] at h
    split at h
    · rename_i w e; cases h
      obtain ⟨n, rfl, hm⟩ := tab_mem e
      have := List.all_eq_true.mp (gL_ok C.w.params) _ hm
      rw [← l.k] at this
      exact gchk_ok this
    · obtain ⟨n, rfl, hm⟩ := tab_mem h
      have h1 := List.all_eq_true.mp (bL_ok C.w.params) _ hm
      rw [← l.k] at h1
      have hb := bL_boot _ hm
      refine ⟨v, ?_, .inr ⟨beq_iff_eq.mp h1, hb, ?_⟩⟩
      · simp only [bL, List.mem_cons, List.not_mem_nil, or_false] at hm
        rcases hm with e | e | e | e | e | e | e | e | e | e <;> cases e <;> rfl
      · simp only [bL, List.mem_cons, List.not_mem_nil, or_false] at hm
        rcases hm with e | e | e | e | e | e | e | e | e | e <;> cases e <;> decide
  · simp only [S2] at h
    split at h
    · rename_i e; subst e
      obtain ⟨n, rfl, hm⟩ := tab_mem h
      have := List.all_eq_true.mp (slL_ok C.w.params) _ hm
      rw [← l.k] at this
      exact (slotChk_ok this).1
    · split at h
      · rename_i e; subst e
        obtain ⟨n, rfl, hm⟩ := tab_mem h
        have := List.all_eq_true.mp (tlL_ok C.w.params) _ hm
        rw [← l.k] at this
        exact (slotChk_ok this).1
      · cases h
  · simp only [S2] at h
    split at h
    · rename_i t e
      obtain ⟨n, rfl, hm⟩ := tab_mem h
      have h1 := List.all_eq_true.mp (List.all_eq_true.mp (saL_ok C.w.params) _ (lookup_mem e)) _ hm
      rw [← l.k] at h1
      exact satChk_ok h1
    · cases h
theorem meth2 {C : Cx} (l : L2 C) {n : String} {f : Addr} (h : (n, f) ∈ meL) : MethOk C.K 734 (Str.ofString n) f ∧ Keeps C (.ref f) := by
  have := List.all_eq_true.mp (meL_ok C.w.params) _ h
  rw [← l.k] at this
  exact ⟨(methChk_ok this).1, keeps_of (methChk_ok this).2⟩
theorem slot2 {C : Cx} (l : L2 C) {n : String} {i : Nat} (h : (n, i) ∈ slL) : SetOk C.K 734 (Str.ofString n) i := by
  have := List.all_eq_true.mp (slL_ok C.w.params) _ h
  rw [← l.k] at this
  exact (slotChk_ok this).2
theorem tslot2 {C : Cx} (l : L2 C) {n : String} {i : Nat} (h : (n, i) ∈ tlL) : SetOk C.K 248 (Str.ofString n) i := by
  have := List.all_eq_true.mp (tlL_ok C.w.params) _ h
  rw [← l.k] at this
  exact (slotChk_ok this).2
theorem fn2 {C : Cx} (l : L2 C) {f : Addr} (h : f ∈ fnL) : Keeps C (.ref f) := by
  have := List.all_eq_true.mp (fnL_ok C.w.params) _ h
  rw [← l.k] at this
  exact keeps_of this
end Mine
end
/- part L02c -/
section
open PySem PySem.W PySem.Spec PySem.Calls PyProof.Rows
set_option Elab.async false
set_option maxRecDepth 100000
set_option maxHeartbeats 4000000
set_option linter.all false
namespace Mine
theorem fill2 (w : World) (h : List.lookup 0 (hd.heap_39 w.params) = none) : PySem.Challenge.rw_ef5002_02 = PySem.Challenge.rw_ef5002_02 ∧ List.lookup 0 (hd.heap_39 w.params) = none := by
  k_fill
  exact ⟨rfl, h⟩
def asL : List Addr := [63, 77, 91, 105, 119, 131, 143, 734, 50, 51, 52, 53]
theorem asL_ok (P : Params) : (asL.all fun a => ((hd.heap_39 P).lookup a).isSome) = true := by kernel_rfl
theorem as2 {C : Cx} (l : L2 C) : ∀ a ∈ asL, (C.K.lookup a).isSome = true := by
  rw [l.k]; exact List.all_eq_true.mp (asL_ok _)
structure Bd where
  live : List UInt8
  ma : Int
  nest : Bool
  fin : Bool
  fd : Bool
  cv : Value
  oe : Value
  ss : Option Value
  vne : Option Value
  vt : Addr
  room : Nat
/-- the Builder's slots -/
def slots (B : Bd) (a : Addr) (cap : Nat) : List (Option Value) :=
  [some (.ref a), some B.cv, some (.bool B.fin), some (.bool B.fd), some (.int ((cap : Int) - B.live.length) 0), some (.int B.ma 0), some (.bool B.nest), some B.oe, B.ss, B.vne, some (.ref B.vt)]
structure BS (σ : Hp) (b a : Addr) (B : Bd) : Prop where
  here : ∃ dx bs, σ b = some (.inst 734 dx (slots B a bs.length)) ∧ σ a = some (.ba bs) ∧ B.live.length + B.room ≤ bs.length ∧ bs.drop (bs.length - B.live.length) = B.live ∧ bs.length ≤ 8388608
/-- what a Builder's method leaves alone -/
structure Keep (σ σ' : Hp) (b a a' : Addr) : Prop where
  old : ∀ x o, σ x = some o → x ≠ b → x ≠ a → σ' x = some o
  at_ : a' = a ∨ σ a' = none
theorem Keep.refl {σ : Hp} {b a : Addr} : Keep σ σ b a a := ⟨fun _ _ h _ _ => h, .inl rfl⟩
theorem Keep.trans {σ σ' σ'' : Hp} {b a a' a'' : Addr} (h : Keep σ σ' b a a') (g : Keep σ' σ'' b a' a'') (hb : (σ' b).isSome = true) (nb : a'' ≠ b) : Keep σ σ'' b a a'' := by
  refine ⟨fun x o e h1 h2 => ?_, ?_⟩
  · refine g.old x o (h.old x o e h1 h2) h1 fun z => ?_
    rcases h.at_ with q | q
    · exact h2 (z.trans q)
    · rw [z, q] at e; cases e
  · rcases g.at_ with q | q
    · rw [q]; exact h.at_
    · by_cases e : a'' = a
      · exact .inl e
      · right
        cases z : σ a'' with
        | none => rfl
        | some o => have := h.old _ _ z nb e; rw [q] at this; cases this

theorem call2 {C : Cx} {F : Fm} {A : Around} {σ : Hp} {ρ : Loc} {X : Value → Hp → Loc → Prop} {Q : Value → Hp → Loc → Prop} {name qual : Str} {params : Arguments} {body : List Stmt} {scope : Scope} {dV kV doc pm cdv ct oc : Value} {an od : Option Addr} {osl : Array (Option Value)} {f : Addr} {d : Nat}
    (binds : List (Str × Value)) (l : L2 C) (ok : F.Ok C) (ar : Ar F A (d + 1)) {vs : List Value} {kw : List (Str × Value)} 
    (ho : (hd.heap_39 C.w.params).lookup f = some ⟨oc, od, .func (fnOf name qual params body scope dV kV doc pm an cdv ct), osl⟩) (hcd : codeIn (hd.heap_39 C.w.params) cdv qual = true)
    (hbind : ∃ bs : List (Str × Value), (∀ s : Shared, C.K.In s.heap → BindsTo s (fnOf name qual params body scope dV kV doc pm an cdv ct) ⟨vs, kw⟩ bs) ∧ bs.map (fun p => (p.1, er p.2)) = binds)
    (hloc : ∀ x ∈ binds, scope.names.lookup x.1 = some .local) (hcell : ∀ x ∈ scope.names, x.2 ≠ .cell) (hco : scope.isCoroutine = false) (hgen : scope.isGenerator = false) (hk : scope.kind = .function)
    (h : ∀ F' A', F'.Ok C → Ar F' A' d → F'.sc = scope → W C F' A' (execs body F'.env) σ (fun x => binds.reverse.lookup x) (fun fl σ' _ => Q (flv fl) σ' ρ) (fun c σ' _ => X c σ' ρ)) :
    W C F A (call (.ref f) vs kw) σ ρ Q X := call_fn l.ok ok ar (by rw [l.k]; exact ho) (by rw [l.k]; exact hcd) hbind hloc hcell hco hgen hk h
local macro_rules | `(tactic| walk_at "fb_enter") => `(tactic| (
  (case ho => k_is)
  (case hcd => k_is)
  (case hcell => decide)
  (case hco => rfl)
  (case hgen => rfl)
  (case hk => rfl)
  (case hloc => simp [lk_cons])))
def KN (σ : Hp) : Prop := ∀ a ∈ asL, σ a = none
theorem KN.at {σ : Hp} (h : KN σ) {a : Addr} (ha : a ∈ asL) : σ a = none := h a ha
section
variable {C : Cx} {F : Fm} {A : Around} {α : Type} [Er α] {σ : Hp} {ρ : Loc} {t : Sem α} {Q : α → Hp → Loc → Prop} {X : Value → Hp → Loc → Prop}
theorem W_kn2 (l : L2 C) (ok : F.Ok C) (h : KN σ → W C F A t σ ρ Q X) : W C F A t σ ρ Q X := W_kn ok l.ok (as2 l) h
end
theorem W_pe' {C : Cx} {F : Fm} {A : Around} {σ : Hp} {ρ : Loc} {X : Value → Hp → Loc → Prop} {v v' : Value} {e : Expr} {Q : Value → Hp → Loc → Prop} (l : L2 C) (ok : F.Ok C) (h : KN σ → pe S2 F.sc σ ρ e = some v) (hv : v = v') (q : Q v' σ ρ) : W C F A (eval e F.env) σ ρ Q X :=
  W_kn2 l ok fun hn => W_pe ok l.ok (S2_ok l) (h hn) (hv ▸ q)
theorem W_If' {C : Cx} {F : Fm} {A : Around} {σ : Hp} {ρ : Loc} {X : Value → Hp → Loc → Prop} {test : Expr} {body orelse : List Stmt} {pos : Pos} {b b' : Bool} {Q : Flow → Hp → Loc → Prop} (l : L2 C) (ok : F.Ok C) (h : KN σ → pt S2 F.sc σ ρ test = some b) (hb : b = b')
    (h1 : b' = true → W C F A (execs body F.env) σ ρ Q X) (h2 : b' = false → W C F A (execs orelse F.env) σ ρ Q X) : W C F A (exec (.If test body orelse pos) F.env) σ ρ Q X :=
  W_kn2 l ok fun hn => W_If_pt ok l.ok (S2_ok l) (hb ▸ h hn) h1 h2
theorem W_Let {C : Cx} {F : Fm} {A : Around} {σ : Hp} {ρ : Loc} {X : Value → Hp → Loc → Prop} {x : Str} {p pos : Pos} {e : Expr} {v v' : Value} {Q : Flow → Hp → Loc → Prop} (l : L2 C) (ok : F.Ok C) (hk : F.sc.names.lookup x = some .local) (hs : ∀ env, swapsWith e (some (.Name x p)) pos.line env = pure false)
    (h : KN σ → pe S2 F.sc σ ρ e = some v) (hv : v = v') (q : Q .next σ (ρ.put x v')) : W C F A (exec (.Assign [.Name x p] e pos) F.env) σ ρ Q X :=
  W_Assign ok hk (hs _) (W_pe' l ok h hv q)
theorem W_Set {C : Cx} {F : Fm} {A : Around} {σ : Hp} {ρ : Loc} {X : Value → Hp → Loc → Prop} {x : String} {o value : Expr} {p pos : Pos} {b dx : Addr} {sl : List (Option Value)} {i : Nat} {Q : Flow → Hp → Loc → Prop} (l : L2 C) (ok : F.Ok C)
    (he : ∀ env, exec (.Assign [.Attribute o (Str.ofString x) p] value pos) env = (do standAt pos; let v ← eval value env; assign (.Attribute o (Str.ofString x) p) env v; pure .next))
    (h : W C F A (eval value F.env) σ ρ (fun v σ₁ ρ₁ => (KN σ₁ → pe S2 F.sc σ₁ ρ₁ o = some (.ref b)) ∧ σ₁ b = some (.inst 734 dx sl) ∧ (x, i) ∈ slL ∧ i < sl.length ∧ Q .next (σ₁.put b (.inst 734 dx (sl.set i (some v)))) ρ₁) X) :
    W C F A (exec (.Assign [.Attribute o (Str.ofString x) p] value pos) F.env) σ ρ Q X := by
  refine W_AssignAttr (he _) (h.mono (fun v σ₁ ρ₁ ⟨h1, h2, h3, h4, q⟩ => ?_) fun _ _ _ x => x)
  refine W_kn2 l ok fun hn => W_pe ok l.ok (S2_ok l) (h1 hn) fun ov' v' e1 e2 => ?_
  have := er_ref_inv e1; subst this
  refine W_setAttr l.ok ok h2 (slot2 l h3) h4 ?_
  rw [e2]; exact q
def PEs (S : St) (sc : Scope) (σ : Hp) (ρ : Loc) : List Expr → List Value → Prop
  | [], [] => True
  | e :: es, v :: vs => pe S sc σ ρ e = some v ∧ PEs S sc σ ρ es vs
  | _, _ => False
theorem pes_mapM {S : St} {sc : Scope} {σ : Hp} {ρ : Loc} : ∀ {es : List Expr} {vs : List Value}, PEs S sc σ ρ es vs → es.mapM (pe S sc σ ρ) = some vs
  | [], [], _ => rfl
  | e :: es, v :: vs, h => by rw [List.mapM_cons, h.1, pes_mapM h.2]; rfl
theorem W_argsP {C : Cx} {F : Fm} {A : Around} {σ : Hp} {ρ : Loc} {X : Value → Hp → Loc → Prop} {pos : Pos} {es : List Expr} {vs : List Value} {Q : List Value → Hp → Loc → Prop} (l : L2 C) (ok : F.Ok C) (h : KN σ → PEs S2 F.sc σ ρ es vs) (q : Q vs σ ρ) : W C F A (spliced (backTo pos (starEach es F.env))) σ ρ Q X :=
  W_kn2 l ok fun hn => W_args_pe ok l.ok (S2_ok l) (pes_mapM (h hn)) q
theorem W_LetW {C : Cx} {F : Fm} {A : Around} {σ : Hp} {ρ : Loc} {X : Value → Hp → Loc → Prop} {x : Str} {p pos : Pos} {e : Expr} {Q : Flow → Hp → Loc → Prop} (ok : F.Ok C) (hk : F.sc.names.lookup x = some .local) (hs : ∀ env, swapsWith e (some (.Name x p)) pos.line env = pure false)
    (h : W C F A (eval e F.env) σ ρ (fun v σ' ρ' => Q .next σ' (ρ'.put x v)) X) : W C F A (exec (.Assign [.Name x p] e pos) F.env) σ ρ Q X := W_Assign ok hk (hs _) h
/-- a call of a name, all arguments pure -/
theorem W_CallNP {C : Cx} {F : Fm} {A : Around} {σ : Hp} {ρ : Loc} {X : Value → Hp → Loc → Prop} {x : Str} {np pos : Pos} {es : List Expr} {f : Value} {args : List Value} {Q : Value → Hp → Loc → Prop} (l : L2 C) (ok : F.Ok C) (hf : KN σ → pe S2 F.sc σ ρ (.Name x np) = some f) (hr : ∀ v, er v = f → v = f) (hk : Keeps C f) (hs : noStar es = true)
    (he : ∀ env, eval (.Call (.Name x np) es [] pos) env = (do let f ← eval (.Name x np) env; callWith pos f [] (backTo pos (starEach es env)) [])) (ha : KN σ → PEs S2 F.sc σ ρ es args)
    (h : ∀ vs, vs.map er = args → W C F A (call f vs []) σ ρ Q X) : W C F A (eval (.Call (.Name x np) es [] pos) F.env) σ ρ Q X :=
  W_kn2 l ok fun hn => W_CallN ok l.ok (S2_ok l) (hf hn) hr hk hs (W_argsP l ok ha h) (he _)
/-- a call of a Builder's method, all arguments pure -/
theorem W_CallMP {C : Cx} {F : Fm} {A : Around} {σ : Hp} {ρ : Loc} {X : Value → Hp → Loc → Prop} {x : String} {o : Expr} {ap pos : Pos} {es : List Expr} {b f dx : Addr} {sl : List (Option Value)} {args : List Value} {pl : Env → Sem Bool} {Q : Value → Hp → Loc → Prop} (l : L2 C) (ok : F.Ok C) (ho : KN σ → pe S2 F.sc σ ρ o = some (.ref b)) (eb : σ b = some (.inst 734 dx sl)) (hm : (x, f) ∈ meL) (hs : noStar es = true)
    (he : ∀ env, eval (.Call (.Attribute o (Str.ofString x) ap) es [] pos) env = (do let ov ← eval o env; standAt ap.atName; let fx ← holding [ov] (getMethod ov (Str.ofString x) (pl env)); callWith pos fx.1 fx.2 (backTo pos (starEach es env)) [])) (ha : KN σ → PEs S2 F.sc σ ρ es args)
    (h : ∀ ov vs, er ov = .ref b → vs.map er = args → W C F A (call (.ref f) (ov :: vs) []) σ ρ Q X) : W C F A (eval (.Call (.Attribute o (Str.ofString x) ap) es [] pos) F.env) σ ρ Q X :=
  W_kn2 l ok fun hn => W_CallA ok l.ok (S2_ok l) (ho hn) (gm_inst ok l.ok eb (meth2 l hm).1) (meth2 l hm).2 hs (fun ov hov => W_argsP l ok ha fun vs hvs => h ov vs hov hvs) (he _)
theorem pbin_mulr {x y : Int} {t u : Tok} (h : y.natAbs < 2 ^ 62) : pbin .Mult (.int x t) (.int y u) = some (.int (x * y) 0) := by exact if_pos (Or.inr h)
theorem pbin_mull {x y : Int} {t u : Tok} (h : x.natAbs < 2 ^ 62) : pbin .Mult (.int x t) (.int y u) = some (.int (x * y) 0) := by exact if_pos (Or.inl h)
theorem W_test {C : Cx} {F : Fm} {A : Around} {σ : Hp} {ρ : Loc} {X : Value → Hp → Loc → Prop} {e : Expr} {v v' : Bool} {Q : Bool → Hp → Loc → Prop} (l : L2 C) (ok : F.Ok C) (h : KN σ → pt S2 F.sc σ ρ e = some v) (hv : v = v') (q : Q v' σ ρ) : W C F A (isTrue e F.env (eval e F.env)) σ ρ Q X :=
  W_kn2 l ok fun hn s i => wpAny.n (pt_ok ok l.ok (S2_ok l) e (h hn) s i _ _ fun tk => ⟨σ, ρ, i.toks tk, by subst hv; exact q⟩)
theorem W_Do {C : Cx} {F : Fm} {A : Around} {σ : Hp} {ρ : Loc} {X : Value → Hp → Loc → Prop} {e : Expr} {pos : Pos} {Q : Flow → Hp → Loc → Prop} (ok : F.Ok C) (hs : ∀ env, swapsWith e none pos.line env = pure false)
    (h : W C F A (eval e F.env) σ ρ (fun _ σ' ρ' => Q .next σ' ρ') X) : W C F A (exec (.Expr e pos) F.env) σ ρ Q X := W_Expr (by unfold interactive; rw [show F.env.scope = F.sc from rfl, ok.fn]; rfl) (hs _) h
theorem W_Aug {C : Cx} {F : Fm} {A : Around} {σ : Hp} {ρ : Loc} {X : Value → Hp → Loc → Prop} {x : Str} {p pos : Pos} {op : Operator} {e : Expr} {a b v v' : Value} {Q : Flow → Hp → Loc → Prop} (l : L2 C) (ok : F.Ok C) (hk : F.sc.names.lookup x = some .local) (ha : ρ x = some a)
    (hb : KN σ → pe S2 F.sc σ ρ e = some b) (hv : pinp op a b = some v) (hvv : v = v') (hve : er v' = v') (q : Q .next σ (ρ.put x v')) : W C F A (exec (.AugAssign (.Name x p) op e pos) F.env) σ ρ Q X :=
  W_kn2 l ok fun hn => W_AugAssign_pe ok l.ok (S2_ok l) hk ha (hb hn) hv (by rw [hvv]; exact hve) (by rw [hvv]; exact q)
local macro_rules | `(tactic| walk_at "op") => `(tactic| first | rfl | exact pbin_mulr (by decide) | exact pbin_mull (by decide))
local macro_rules | `(tactic| walk_at "sc") => `(tactic| first | (simp only [lk_cons, String.reduceEq, if_true, if_false, reduceCtorEq]; done) | rfl)
local macro_rules | `(tactic| walk_at "tab") => `(tactic| first | assumption | rfl | (simp [S2, gL, bL, slL, tlL, saL, tab_cons, tab, String.reduceEq, lk_cons, put_at]; done))
local macro_rules | `(tactic| walk_at "lo") => `(tactic| first | assumption | rfl | (rw [put_at, if_pos rfl]) | (rw [put_at, if_neg (by decide)]; walk_at "lo") | (simp [lk_cons, put_at]; done))
local macro_rules | `(tactic| walk_at "fd") => `(tactic| first | assumption | exact Hp.put_self _ _ _ | (refine (Hp.put_ne _ _ ?n).trans ?g; (case n => first | assumption | exact Ne.symm (by assumption)); (case g => walk_at "fd")))
local macro_rules | `(tactic| walk_at "at") => `(tactic| first
  | (refine' pattr_slot ?f ?g ?h ?k; (case f => walk_at "fd"); (case g => walk_at "tab"); (case h => first | assumption | rfl); (case k => rfl))
  | (refine' pattr_sat ?f ?g; (case f => exact KN.at (by assumption) (by decide)); (case g => walk_at "tab")))
local macro_rules | `(tactic| walk_at "le") => `(tactic| first | (refine' plen_ba ?f; (case f => walk_at "fd")) | (refine' plen_list ?f; (case f => walk_at "fd")) | (refine' plen_bytes ?f; (case f => simp; omega)))
local macro_rules | `(tactic| walk_at "ev") => `(tactic| first
  | (refine' pe_con ?g; (case g => rfl))
  | (refine' pe_loc ?n ?g ?h; (case n => decide); (case g => walk_at "sc"); (case h => walk_at "lo"))
  | (refine' pe_glob ?n ?g ?h; (case n => decide); (case g => walk_at "sc"); (case h => walk_at "tab"))
  | (refine' pe_attr ?n ?g ?h; (case n => rfl); (case g => walk_at "ev"); (case h => walk_at "at"))
  | (refine' pe_len ?n ?f ?g ?h; (case n => rfl); (case f => walk_at "ev"); (case g => walk_at "ev"); (case h => walk_at "le"))
  | (refine' pe_bin ?f ?g ?h; (case f => walk_at "ev"); (case g => walk_at "ev"); (case h => walk_at "op"))
  | (refine' pe_una ?f ?h; (case f => walk_at "ev"); (case h => rfl))
  | (refine' pe_cmp ?n ?f ?g ?h; (case n => rfl); (case f => walk_at "ev"); (case g => walk_at "ev"); (case h => rfl)))
local macro_rules | `(tactic| walk_at "te") => `(tactic| first
  | (refine' pt_cmp ?g ?h; (case g => walk_at "ev"); (case h => rfl))
  | (refine' pt_not ?g ?h; (case g => walk_at "te"); (case h => rfl))
  | (refine' pt_chain ?n ?f ?g ?h ?k1 ?k2 ?k3 ?k4 ?k5; (case n => rfl); (case f => walk_at "ev"); (case g => walk_at "ev"); (case h => walk_at "ev"); (case k1 => rfl); (case k2 => rfl); (case k3 => rfl); (case k4 => rfl); (case k5 => rfl))
  | (refine' pt_and ?f ?g ?h; (case f => walk_at "te"); (case g => walk_at "te"); (case h => rfl))
  | (refine' pt_or ?f ?g ?h; (case f => walk_at "te"); (case g => walk_at "te"); (case h => rfl))
  | (refine' pt_name ?g ?h; (case g => walk_at "ev"); (case h => rfl))
  | (refine' pt_attr ?g ?h; (case g => walk_at "ev"); (case h => rfl))
  | (refine' pt_bin ?g ?h; (case g => walk_at "ev"); (case h => rfl)))
local macro_rules | `(tactic| walk_at "EV") => `(tactic| (rw [‹Fm.sc _ = _›]; walk_at "ev"))
local macro_rules | `(tactic| walk_at "TE") => `(tactic| (rw [‹Fm.sc _ = _›]; walk_at "te"))
local macro_rules | `(tactic| walk_at "SC") => `(tactic| (rw [‹Fm.sc _ = _›]; walk_at "sc"))
local macro_rules | `(tactic| walk_at "SW") => `(tactic| (intro _; rfl))
local macro_rules | `(tactic| walk_at "let") => `(tactic| (refine' W_cons (W_Let (by assumption) (by assumption) ?k ?s (fun hn => ?h) rfl ?q); (case k => walk_at "SC"); (case s => walk_at "SW"); (case h => walk_at "EV"); dsimp only))
local macro_rules | `(tactic| walk_at "iv") => `(tactic| first | rfl | (congr 1; omega))

variable {C : Cx} {F : Fm} {A : Around} {σ : Hp} {ρ : Loc} {X : Value → Hp → Loc → Prop} {d : Nat} {Q : Value → Hp → Loc → Prop} {a b : Addr} {B : Bd} {ov : Value}
theorem w_Offset (l : L2 C) (ok : F.Ok C) (ar : Ar F A (d + 1)) (hov : er ov = .ref b) (h : BS σ b a B) (q : Q (.int B.live.length 0) σ ρ) : W C F A (call (.ref 404) [ov] []) σ ρ Q X := by
  obtain ⟨dx, bs, hb, ha, h1, h2, h3⟩ := h
  refine' call2 [("self", .ref b)] l ok ar ?ho ?hcd ?hbind ?hloc ?hcell ?hco ?hgen ?hk ?h
  walk_at "fb_enter"
  case hbind => exact ⟨[("self", ov)], fun s _ => BindsTo.of_eq rfl, by simp [hov]⟩
  intro F' A' ok' ar' hsc
  refine' W_cons (W_Return (W_pe' l ok' (fun hn => ?h1) ?h2 q))
  case h1 => (rw [hsc]; walk_at "ev")
  case h2 => walk_at "iv"
theorem w_Head (l : L2 C) (ok : F.Ok C) (ar : Ar F A (d + 1)) (hov : er ov = .ref b) (h : BS σ b a B) (q : ∀ n : Int, (∀ dx sl, σ b = some (.inst 734 dx sl) → (sl[4]?).join = some (.int n 0)) → Q (.int n 0) σ ρ) : W C F A (call (.ref 397) [ov] []) σ ρ Q X := by
  obtain ⟨dx, bs, hb, ha, h1, h2, h3⟩ := h
  refine' call2 [("self", .ref b)] l ok ar ?ho ?hcd ?hbind ?hloc ?hcell ?hco ?hgen ?hk ?h
  walk_at "fb_enter"
  case hbind => exact ⟨[("self", ov)], fun s _ => BindsTo.of_eq rfl, by simp [hov]⟩
  intro F' A' ok' ar' hsc
  refine' W_cons (W_Return (W_pe' l ok' (fun hn => ?h1) ?h2 (q ((bs.length : Int) - B.live.length) fun dx sl e => ?h3)))
  case h1 => (rw [hsc]; walk_at "ev")
  case h2 => walk_at "iv"
  case h3 => (rw [hb] at e; cases e; rfl)

theorem BS.ne {σ : Hp} (h : BS σ b a B) : a ≠ b := by
  obtain ⟨dx, bs, hb, ha, _⟩ := h
  intro e; subst e; rw [hb] at ha; cases ha
theorem bs_intro {σ : Hp} {dx : Addr} {sl : List (Option Value)} {bs : List UInt8} (h1 : σ b = some (.inst 734 dx sl)) (h2 : σ a = some (.ba bs)) (h3 : sl = slots B a bs.length) (h4 : B.live.length + B.room ≤ bs.length) (h5 : bs.drop (bs.length - B.live.length) = B.live) (h6 : bs.length ≤ 8388608) : BS σ b a B :=
  ⟨dx, bs, h3 ▸ h1, h2, h4, h5, h6⟩
theorem Keep.two {σ : Hp} {b a : Addr} {o o' : AObj} : Keep σ ((σ.put a o).put b o') b a a := ⟨fun x w e h1 h2 => by rw [Hp.put_ne _ _ h1, Hp.put_ne _ _ h2]; exact e, .inl rfl⟩
theorem Keep.one {σ : Hp} {b a : Addr} {o' : AObj} : Keep σ (σ.put b o') b a a := ⟨fun x w e h1 h2 => by rw [Hp.put_ne _ _ h1]; exact e, .inl rfl⟩
theorem cut_live {bs x live : List UInt8} (h : bs.drop (bs.length - live.length) = live) (hl : live.length ≤ bs.length) (hx : x.length + live.length ≤ bs.length) :
    (bs.take (bs.length - live.length - x.length) ++ x ++ bs.drop (bs.length - live.length)).drop (bs.length - (x.length + live.length)) = x ++ live := by
  rw [h, List.append_assoc]
  exact List.drop_left' (by simp; omega)
/-- Pad -/
theorem w_Pad (l : L2 C) (ok : F.Ok C) (ar : Ar F A (d + 1)) (hov : er ov = .ref b) {nv : Value} {n : Nat} (hnv : er nv = .int n 0) (h : BS σ b a B) (hn : n ≤ B.room) (hm : n ≤ 1048576)
    (q : ∀ σ', BS σ' b a { B with live := List.replicate n 0 ++ B.live, room := B.room - n } → Keep σ σ' b a a → Q .none σ' ρ) : W C F A (call (.ref 411) [ov, nv] []) σ ρ Q X := by
  have hne := h.ne
  have h₀ := h
  obtain ⟨dx, bs, hb, ha, h1, h2, h3⟩ := h
  refine' call2 [("self", .ref b), ("n", .int n 0)] l ok ar ?ho ?hcd ?hbind ?hloc ?hcell ?hco ?hgen ?hk ?h
  walk_at "fb_enter"
  case hbind => exact ⟨[("self", ov), ("n", nv)], fun s _ => BindsTo.of_eq rfl, by simp [hov, hnv]⟩
  intro F' A' ok' ar' hsc
  refine' W_cons (W_If' (b' := decide ((n : Int) ≤ 0)) l ok' (fun hn => ?t) ?u (fun z => ?y) (fun z => ?n))
  case t => (rw [hsc]; walk_at "te")
  case u => rfl
  case y =>
    refine W_cons (W_Return0 ?_)
    have : n = 0 := by simpa using z
    subst this
    refine q σ ?_ .refl
    simpa using h₀
  case n =>
    have hpos : 0 < n := by simp at z; omega
    refine W_nil ?_
    refine' W_cons (W_Let l ok' ?k ?s (fun hn => ?h1) ?h2 ?q)
    case k => (rw [hsc]; walk_at "sc")
    case s => (intro env; rfl)
    case h1 => (rw [hsc]; walk_at "ev")
    case h2 => rfl
    dsimp only
    refine W_cons (W_kn2 l ok' fun hn => W_SliceSet ok' l.ok (S2_ok l) ar'.guards rfl ?_)
    refine' W_BytesMul (b := [0]) (n := n) ok' l.ok (S2_ok l) ?l ?r (by simp) (by omega) (by omega) (by simp; omega) ?qq
    case l => (rw [hsc]; walk_at "ev")
    case r => (rw [hsc]; walk_at "ev")
    refine' ⟨a, bs, List.replicate n 0, some _, some _, bs.length - B.live.length - n, bs.length - B.live.length, ?o, ha, ⟨_, rfl, ?lo⟩, ⟨_, rfl, ?hi⟩, ?e1, ?e2, .inr ⟨0, ?src⟩, ?len, by omega, ?fin⟩
    case o => (rw [hsc]; walk_at "ev")
    case lo => (rw [hsc]; walk_at "ev")
    case hi => (rw [hsc]; walk_at "ev")
    case e1 => (simp; omega)
    case e2 => (simp; omega)
    case src => simp
    case len => (simp; omega)
    dsimp only
    refine' W_cons (W_Set (i := 4) l ok' ?he (W_pe' l ok' (fun hn => ?h1b) rfl ⟨fun hn => ?h2b, ?h3b, ?h4b, ?h5b, ?fin2⟩))
    case he => (intro env; rfl)
    case h1b => (rw [hsc]; walk_at "ev")
    case h2b => (rw [hsc]; walk_at "ev")
    case h3b => walk_at "fd"
    case h4b => decide
    case h5b => exact Nat.le_of_ble_eq_true rfl
    refine W_nil (q _ (bs_intro (Hp.put_self _ _ _) ((Hp.put_ne _ _ hne).trans (Hp.put_self _ _ _)) ?_ ?_ ?_ ?_) .two)
    · simp [slots]; omega
    · simp; omega
    · have := cut_live (x := List.replicate n 0) h2 (by omega) (by simp; omega)
      have e1 : (bs.take (bs.length - B.live.length - n) ++ List.replicate n 0 ++ bs.drop (bs.length - B.live.length)).length = bs.length := by simp; omega
      rw [List.length_replicate] at this
      rw [e1, List.length_append, List.length_replicate]
      exact this
    · simp; omega

def grown (bs : List UInt8) : List UInt8 := if bs.length = 0 then [0] else List.replicate bs.length 0 ++ bs
theorem put_put {σ : Hp} {a : Addr} {o o' : AObj} : (σ.put a o).put a o' = σ.put a o' := by
  funext x; unfold Hp.put; by_cases h : x = a <;> simp [h]
theorem w_Grow (l : L2 C) (ok : F.Ok C) (ar : Ar F A (d + 1)) (hov : er ov = .ref b) {dx : Addr} {sl : List (Option Value)} {bs : List UInt8} (hb : σ b = some (.inst 734 dx sl)) (h0 : (sl[0]?).join = some (.ref a)) (hl0 : 0 < sl.length) (ha : σ a = some (.ba bs)) (hm : bs.length ≤ 4194304)
    (q : ∀ a', σ a' = none → Q .none ((σ.put a' (.ba (grown bs))).put b (.inst 734 dx (sl.set 0 (some (.ref a'))))) ρ) : W C F A (call (.ref 390) [ov] []) σ ρ Q X := by
  refine' call2 [("self", .ref b)] l ok ar ?ho ?hcd ?hbind ?hloc ?hcell ?hco ?hgen ?hk ?h
  walk_at "fb_enter"
  case hbind => exact ⟨[("self", ov)], fun s _ => BindsTo.of_eq rfl, by simp [hov]⟩
  intro F' A' ok' ar' hsc
  refine' W_cons (W_If' (b' := false) l ok' (fun hn => ?t) ?u (fun z => ?zy) (fun z => ?zn))
  case t => (rw [hsc]; walk_at "te")
  case u => (simp; omega)
  case zy => cases z
  refine W_nil ?_
  refine' W_cons (W_LetW ok' ?k1 ?s1 (W_CallNP (args := [.int ((bs.length : Int) * 2) 0, .int 2147483648 0]) l ok' (fun hn => ?f1) ?r1 keeps_builtin rfl ?e1 (fun hn => ⟨?a1, ?a2, trivial⟩) fun vs hvs => W_min ar'.handled hvs ?q1))
  case k1 => (rw [hsc]; walk_at "sc")
  case s1 => (intro env; rfl)
  case f1 => (rw [hsc]; walk_at "ev")
  case r1 => (intro v hv; exact er_builtin_inv hv)
  case e1 => (intro env; rfl)
  case a1 => (rw [hsc]; walk_at "ev")
  case a2 => (rw [hsc]; walk_at "ev")
  rw [if_neg (by omega)]
  dsimp only
  refine' W_cons (W.mono (Q := fun fl σ₁ ρ₁ => fl = Flow.next ∧ σ₁ = σ ∧ ρ₁ (Str.ofString "newSize") = some (.int ((if bs.length = 0 then 1 else bs.length * 2 : Nat)) 0) ∧ ρ₁ (Str.ofString "self") = some (.ref b)) ?iff ?cont (fun _ _ _ x => x))
  case iff =>
    refine' W_If' (b' := decide (bs.length = 0)) l ok' (fun hn => ?t2) ?u2 (fun z => ?zy2) (fun z => ?zn2)
    case t2 => (rw [hsc]; walk_at "te")
    case u2 => (by_cases hz : bs.length = 0 <;> simp [hz] <;> omega)
    case zy2 =>
      have hz : bs.length = 0 := by simpa using z
      refine' W_cons (W_Let l ok' ?k3 ?s3 (fun hn => ?h3) rfl (W_nil ⟨rfl, rfl, ?e3, ?e4⟩))
      case k3 => (rw [hsc]; walk_at "sc")
      case s3 => (intro env; rfl)
      case h3 => (rw [hsc]; walk_at "ev")
      case e3 => (rw [put_at, if_pos rfl, if_pos hz]; rfl)
      case e4 => (simp [put_at, lk_cons])
    case zn2 =>
      have hz : ¬ bs.length = 0 := by simpa using z
      refine W_nil ⟨rfl, rfl, ?_, ?_⟩
      · rw [put_at, if_pos rfl, if_neg hz]; simp
      · simp [put_at, lk_cons]
  rintro fl σ₁ ρ₁ ⟨rfl, rfl, hN, hS⟩
  have hN1 : (if bs.length = 0 then 1 else bs.length * 2 : Nat) ≤ 8388608 := by split <;> omega
  have hN2 : (if bs.length = 0 then 1 else bs.length * 2 : Nat) = bs.length + (if bs.length = 0 then 1 else bs.length) := by split <;> omega
  revert hN1 hN2 hN
  generalize (if bs.length = 0 then 1 else bs.length * 2 : Nat) = N
  intro hN hN1 hN2
  refine' W_cons (W_LetW ok' ?k4 ?s4 (W_CallNP (args := [.int N 0]) l ok' (fun hn => ?f4) ?r4 keeps_type rfl ?e4 (fun hn => ⟨?a4, trivial⟩) fun vs hvs => W_bytearray ar'.guards hvs (by omega) (by simp [sizeLine]; omega) fun a' na => ?q4))
  case k4 => (rw [hsc]; walk_at "sc")
  case s4 => (intro env; rfl)
  case f4 => (rw [hsc]; walk_at "ev")
  case r4 => (intro v hv; exact er_type_inv hv)
  case e4 => (intro env; rfl)
  case a4 => (rw [hsc]; walk_at "ev")
  dsimp only
  have nab : b ≠ a' := fun e => by rw [e, na] at hb; cases hb
  have naa : a ≠ a' := fun e => by rw [e, na] at ha; cases ha
  have hx : N - bs.length = (if bs.length = 0 then 1 else bs.length) := by omega
  refine' W_cons (W_kn2 l ok' fun hn => W_SliceSet ok' l.ok (S2_ok l) ar'.guards rfl (W_pe' l ok' (fun hn => ?v5) rfl ⟨a', List.replicate (Int.toNat N) 0, bs, some _, none, N - bs.length, N, ?o5, Hp.put_self _ _ _, ⟨_, rfl, ?lo5⟩, rfl, ?e5, ?e6, .inl ⟨a, rfl, ?src5, naa⟩, ?len5, ?len6, ?fin5⟩))
  case v5 => (rw [hsc]; walk_at "ev")
  case o5 => (rw [hsc]; walk_at "ev")
  case lo5 => (rw [hsc]; walk_at "ev")
  case e5 => (simp; omega)
  case e6 => (simp)
  case src5 => walk_at "fd"
  case len5 => (split at hx <;> omega)
  case len6 => simp
  dsimp only
  refine' W_cons (W_Set (i := 0) l ok' ?he (W_pe' l ok' (fun hn => ?h1b) rfl ⟨fun hn => ?h2b, ?h3b, ?h4b, hl0, ?fin2⟩))
  case he => (intro env; rfl)
  case h1b => (rw [hsc]; walk_at "ev")
  case h2b => (rw [hsc]; walk_at "ev")
  case h3b => walk_at "fd"
  case h4b => decide
  refine W_nil ?_
  have := q a' na
  rw [put_put]
  have e : (List.replicate (Int.toNat (N : Int)) (0 : UInt8)).take (N - bs.length) ++ bs ++ (List.replicate (Int.toNat (N : Int)) (0 : UInt8)).drop N = grown bs := by
    unfold grown
    rw [List.drop_of_length_le (by simp), List.append_nil, List.take_replicate, Int.toNat_natCast, Nat.min_eq_left (by omega), hx]
    by_cases hz : bs.length = 0
    · have : bs = [] := List.length_eq_zero_iff.mp hz
      subst this; rfl
    · rw [if_neg hz, if_neg hz]
  rw [e]
  exact this

def PA (n : Nat) : Prop := n = 1 ∨ n = 2 ∨ n = 4 ∨ n = 8
def padOf (size x : Nat) : Nat := (size - x % size) % size
theorem pad_bits {s : Nat} (hs : PA s) (x : Nat) : Builtin.bitAnd (-(x : Int)) ((s : Int) - 1) = (padOf s x : Nat) := by
  have key : ∀ j : Nat, s = 2 ^ j → Builtin.bitAnd (-(x : Int)) ((s : Int) - 1) = if x = 0 then (0 : Int) else (s : Int) - 1 - (((x - 1) % s : Nat) : Int) := fun j hj => by
    have hs0 : 0 < s := by subst hj; exact Nat.two_pow_pos j
    by_cases hx : x = 0
    · subst hx
      rw [if_pos rfl]
      unfold Builtin.bitAnd
      rw [show decide (0 ≤ -((0 : Nat) : Int)) = true from by decide, show decide (0 ≤ (s : Int) - 1) = true from decide_eq_true (by omega)]
      simp
    · rw [if_neg hx]
      unfold Builtin.bitAnd
      have e1 : decide (0 ≤ -(x : Int)) = false := decide_eq_false (by omega)
      have e2 : decide (0 ≤ (s : Int) - 1) = true := decide_eq_true (by omega)
      rw [e1, e2]
      have e3 : (Builtin.bitNot (-(x : Int))).toNat = x - 1 := by unfold Builtin.bitNot; omega
      have e4 : ((s : Int) - 1).toNat = s - 1 := by omega
      show (s : Int) - 1 - ((((s : Int) - 1).toNat &&& (Builtin.bitNot (-(x : Int))).toNat : Nat) : Int) = _
      rw [e3, e4, Nat.and_comm, hj, Nat.and_two_pow_sub_one_eq_mod]
  unfold padOf
  rcases hs with rfl | rfl | rfl | rfl
  · rw [key 0 rfl]; split <;> omega
  · rw [key 1 rfl]; split <;> omega
  · rw [key 2 rfl]; split <;> omega
  · rw [key 3 rfl]; split <;> omega
def prepB (B : Bd) (size add : Nat) : Bd := { B with live := List.replicate (padOf size (B.live.length + add)) 0 ++ B.live, ma := if B.ma < size then size else B.ma, room := size + add }
end Mine
end
/- part FbDict -/
section
open PySem PySem.W PySem.Spec PySem.Calls PyProof.Rows
set_option Elab.async false
set_option maxRecDepth 100000
set_option maxHeartbeats 4000000
set_option linter.all false
namespace Mine
theorem er_items {prog : Program} {w : World} : ∀ {items : List Value} {ns : List Int}, items.map er = ns.map (fun i => Value.int i 0) → ItemsAre (intKind prog w) ns items
  | [], [], _ => .nil
  | v :: vs, n :: ns, h => by
    obtain ⟨h1, h2⟩ := List.cons.inj h
    obtain ⟨t, rfl⟩ := er_int_inv h1
    exact .cons (intKind_is prog w n t) (er_items h2)
theorem tup_key {prog : Program} {w : World} {C : Cx} {F : Fm} {σ : Hp} {ρ : Loc} {s : Shared} (i : Inv C F σ ρ s) {ka : Addr} {ns : List Int} (h : σ ka = some (.tup (ns.map fun i => Value.int i 0))) : (tupleKind (intKind prog w)).is s.heap ns ka := by
  obtain ⟨items, n, g1, g2, g3⟩ := (i.own ka _ h).2.2
  exact ⟨_, items, n, g1, rfl, rfl, er_items g2⟩
theorem empty_dict {prog : Program} {w : World} {C : Cx} {F : Fm} {σ : Hp} {ρ : Loc} {s : Shared} (i : Inv C F σ ρ s) {d : Addr} (h : σ d = some (.raw emptyDict)) : s.heap.DictOfH (tupleKind (intKind prog w)) d [] :=
  ⟨_, #[], 0, (i.own d _ h).2.2, ⟨rfl, rfl, rfl⟩, rfl, rfl, fun _ hx => by simp at hx, List.nodup_nil⟩
section
variable {C : Cx} {F : Fm} {A : Around} {σ : Hp} {ρ : Loc} {X : Value → Hp → Loc → Prop} {d : Nat}
theorem W_Dict0 (co : C.Ok) (ok : F.Ok C) {pos : Pos} {Q : Value → Hp → Loc → Prop} (q : ∀ x, σ x = none → (x == sysModules) = false → Q (.ref x) (σ.put x (.raw emptyDict)) ρ) : W C F A (eval (.Dict [] [] pos) F.env) σ ρ Q X := by
  intro s i
  have hlow : sysModules < C.base.objs.size := modules_low co.top.nolimit
  have hne : (s.heap.objs.size == sysModules) = false := by
    rw [beq_eq_false_iff_ne]
    exact Nat.ne_of_gt (Nat.lt_of_lt_of_le hlow (Nat.le_trans ok.above (Nat.le_of_lt i.ltL)))
  exact wpAny.n (wpAny_Dict_empty ⟨_, ρ, i.new (o' := .raw emptyDict) (Nat.le_refl _) (fun b o e => Heap.get?_push_of_some emptyDict e) (Heap.get?_push_size _ rfl) _, q _ i.none_at hne⟩)
theorem gm_dictget {x : Addr} (h : σ x = some (.raw emptyDict)) : GM C F A σ ρ (.ref x) (Str.ofString "get") (.builtin "dict.get") true := by
  intro pl s i ov' hov Q E q
  have := er_ref_inv hov; subst this
  have hg : s.heap.get? x = some emptyDict := (i.own x _ h).2.2
  have hT : s.TypeIs (.ref x) "dict" := ⟨_, hg, rfl⟩
  exact getMethod_builtin hT PySem.F.plainAttrs_dict PySem.F.slot_dict_get PySem.F.type_dict_get (fun b e => by cases e; exact ⟨_, hg, rfl⟩) (q s.toks)
theorem W_dictGet0 (ar : Ar F A (d + 1)) {x ka : Addr} {ns : List Int} {ov : Value} {vs : List Value} {Q : Value → Hp → Loc → Prop} (hov : er ov = .ref x) (hv : vs.map er = [.ref ka]) (hx : (x == sysModules) = false) (h : σ x = some (.raw emptyDict)) (hk : σ ka = some (.tup (ns.map fun i => Value.int i 0)))
    (q : Q .none σ ρ) : W C F A (call (.builtin "dict.get") (ov :: vs) []) σ ρ Q X := by
  intro s i
  have := er_ref_inv hov; subst this
  obtain ⟨v, rfl, e⟩ := one_of hv
  have := er_ref_inv e; subst this
  have hm := empty_dict (prog := C.prog) (w := C.w) i h
  refine wpAny.n (call_meetsIn PySem.F.slot_dict_get hm.typeIs PySem.F.entry_dict_get (PySem.F.args_dict_get_2 _ _) (meetsH_dict_get (tupleKind (intKind C.prog C.w)) x ka hx) ⟨?_, ns, [], tup_key i hk, hm, ?_⟩)
  · have := ar.units; show A.units + 1 < cLine; omega
  · exact ⟨σ, ρ, i.toks _, q⟩
/-- d[k] = v, d empty as yet, k a tuple of ints -/
theorem W_DictSet0 (l : L2 C) (ok : F.Ok C) (ar : Ar F A (d + 1)) {o k value : Expr} {p pos : Pos} {Q : Flow → Hp → Loc → Prop} (hs : ∀ env, swapsWith value (some (.Subscript o k p)) pos.line env = pure false)
    (h : W C F A (eval value F.env) σ ρ (fun v σ₁ ρ₁ => ∃ (x ka : Addr) (ns : List Int), (KN σ₁ → pe S2 F.sc σ₁ ρ₁ o = some (.ref x)) ∧ σ₁ x = some (.raw emptyDict) ∧ (KN σ₁ → pe S2 F.sc σ₁ ρ₁ k = some (.ref ka)) ∧ σ₁ ka = some (.tup (ns.map fun i => Value.int i 0)) ∧ ∀ o', Q .next (σ₁.put x (.raw o')) ρ₁) X) :
    W C F A (exec (.Assign [.Subscript o k p] value pos) F.env) σ ρ Q X := by
  intro s iv
  rw [exec_Assign_Subscript _ _ _ _ _ (hs _)]
  refine wpN_bind (wpN_standAt (wpN_bind (h.use iv (fun v s1 σ1 ρ1 i1 q1 => ?_) fun ea cls s' σ' ρ' y q => ⟨ea, cls, σ', ρ', rfl, y, q⟩)))
  obtain ⟨x, ka, ns, ho, hx, hk, hka, q⟩ := q1
  have kn : KN σ1 := fun x hx => by
    obtain ⟨o, ho⟩ := Option.isSome_iff_exists.mp (as2 l x hx)
    exact i1.base_out ok (l.ok.kin _ _ ho)
  rw [arm_assign_Subscript]
  refine wpN_bind (wpN_bind (wpN_holding (wpAny.n (pe_ok ok l.ok (S2_ok l) o (ho kn) s1 i1 _ _ fun a' tk ea => ?_))))
  have := er_ref_inv ea; subst this
  refine wpN_bind (wpN_holding (wpAny.n (pe_ok ok l.ok (S2_ok l) k (hk kn) _ (i1.toks tk) _ _ fun k' tk' ek => ?_)))
  have := er_ref_inv ek; subst this
  have i2 := (i1.toks tk).toks tk'
  refine wpN_bind (wpN_standAt (wpN_bind (wpN_holding (wpAny.n ?_))))
  refine wpAny_setItem_heap (knd := tupleKind (intKind C.prog C.w)) (k := ns) (xs := []) (by have := ar.units; show A.units + 1 < cLine; omega) (tup_key i2 hka) (empty_dict i2 hx) (fun h' hd hs => ?_)
  obtain ⟨o', es, ep, e1, _⟩ := hd
  exact nRelease (wpN_pure ⟨_, ρ1, i2.put (o' := .raw o') ok hx (fun z => by cases z) hs e1 _, q o'⟩)
end
end Mine
end
/- part FbRaise -/
section
open PySem PySem.W PySem.Spec PySem.Calls PyProof.Rows
set_option Elab.async false
set_option maxRecDepth 100000
set_option maxHeartbeats 4000000
set_option linter.all false
namespace Mine
section
variable {M : Model} {A : Around} {E : Value → Shared → Prop} {s : Shared} {env : Env}
theorem nRaise {cls : String} (G : ExcRaiseFacts cls) {x : Expr} {pos : Pos} {Q : Flow → Shared → Prop} (hh : A.handled = none)
    (h : wpN M A (eval x env) (fun v s₁ => ∃ e t, v = .ref e ∧ s₁.heap.get? e = some { cls := .type cls, data := .fields #[.ref t, .none, .none, .none, .bool false, .none] } ∧ E (.ref e) s₁) E s) :
    wpN M A (exec (.Raise (some x) none pos) env) Q E s := by
  have e : ∀ m : Sem Value, raiseStmt env (some m) none = m >>= fun v => raiseStmt env (some (pure v)) none := fun m => rfl
  show wpN M A (do standAt pos; raiseStmt env (some (do let v ← eval x env; standAt pos; pure v)) none) Q E s
  refine wpN_bind (wpN_standAt ?_)
  rw [e]
  refine wpN_bind (wpN_bind (wpN_mono h (fun v s₁ h₁ => wpN_bind (wpN_standAt (wpN_pure (wpAny.n (wpAny_raiseStmt_made G hh (wpAny_pure h₁)))))) fun _ _ x => x))
end
theorem keep_typeerror : True := trivial
section
variable {C : Cx} {S : St} {F : Fm} {A : Around} {σ : Hp} {ρ : Loc} {X : Value → Hp → Loc → Prop}
/-- raise T(es) -/
theorem W_RaiseCall (l : L2 C) (ok : F.Ok C) (hh : A.handled = none) {cls newId initId : String} (Fc : ExcCallFacts cls newId initId) (G : ExcRaiseFacts cls) {x : Str} {np cpos pos : Pos} {es : List Expr} {Q : Flow → Hp → Loc → Prop}
    (hf : KN σ → pe S2 F.sc σ ρ (.Name x np) = some (.type cls)) (hs : noStar es = true) (he : ∀ env, eval (.Call (.Name x np) es [] cpos) env = (do let f ← eval (.Name x np) env; callWith cpos f [] (backTo cpos (starEach es env)) []))
    (h : W C F A (spliced (backTo cpos (starEach es F.env))) σ ρ (fun args σ₁ ρ₁ => args.length ≤ sizeLine ∧ X (.type cls) σ₁ ρ₁) X) : W C F A (exec (.Raise (some (.Call (.Name x np) es [] cpos)) none pos) F.env) σ ρ Q X := by
  have kn : ∀ s, Inv C F σ ρ s → KN σ := fun s i x hx => by
    obtain ⟨o, ho⟩ := Option.isSome_iff_exists.mp (as2 l x hx)
    exact i.base_out ok (l.ok.kin _ _ ho)
  intro s i
  refine nRaise G hh ?_
  rw [he]
  refine wpN_bind (wpAny.n (pe_ok ok l.ok (S2_ok l) _ (hf (kn s i)) s i _ _ fun g tk eg => ?_))
  have := er_type_inv eg; subst this
  have i' := i.toks tk
  refine nCallWith (P := fun _ => True) (plain_of hs) (fun h _ => ⟨.machine, .inr (.inl rfl), Looks.of_pure rfl⟩) ?_
  have h' : wpN (model C.prog C.w) A (spliced (backTo cpos (starEach es F.env))) (fun vs s' => True ∧ wpN (model C.prog C.w) A (call (.type cls) ([] ++ vs) []) (fun v s₁ => ∃ e t, v = .ref e ∧ s₁.heap.get? e = some { cls := .type cls, data := .fields #[.ref t, .none, .none, .none, .bool false, .none] } ∧ ∃ ea cls σ' ρ', Value.ref e = .ref ea ∧ Exc C F σ' ρ' ea cls s₁ ∧ X cls σ' ρ') (fun e s' => ∃ ea cls σ' ρ', e = .ref ea ∧ Exc C F σ' ρ' ea cls s' ∧ X cls σ' ρ') s') (fun e s' => ∃ ea cls σ' ρ', e = .ref ea ∧ Exc C F σ' ρ' ea cls s' ∧ X cls σ' ρ') { s with toks := tk } :=
    h.use i' (fun vs s1 σ1 ρ1 i1 q1 => ⟨trivial, by
      have hz : vs.length ≤ sizeLine := by have := q1.1; rw [show (Er.e vs : List Value) = vs.map er from rfl, List.length_map] at this; exact this
      obtain ⟨hp, g, d, t, os⟩ := s1
      refine wpAny.n (wpAny_call_exc Fc (hrest := hz) fun h' e hm => ?_)
      obtain ⟨k1, k2, tt, k3, k4, k5⟩ := hm
      exact ⟨e, tt, rfl, k3, e, .type cls, σ1, ρ1, rfl, .fresh _ i1 ⟨k1, k2, _, _, .ref tt, k3, rfl, rfl, rfl, rfl⟩ i1.gens i1.os, q1.2⟩⟩) fun ea cls s' σ' ρ' y q => ⟨ea, cls, σ', ρ', rfl, y, q⟩
  cases es with
  | nil =>
    rw [show evalArgs (.type cls) true (backTo cpos (starEach [] F.env)) [] = (spliced (backTo cpos (starEach [] F.env)) >>= fun vs => pure ⟨vs, []⟩) from rfl]
    exact wpN_bind (wpN_mono h' (fun vs s' h' => wpN_pure h') fun _ _ x => x)
  | cons e es =>
    obtain ⟨hh, _⟩ := star_of (env := F.env) hs
    rw [hh] at h' ⊢
    exact nEvalArgs h'
theorem W_strInt {n : Int} {vs : List Value} {Q : Value → Hp → Loc → Prop} (hv : vs.map er = [.int n 0]) (h0 : 0 ≤ n) (h1 : n < 10 ^ 10) (q : ∀ x : Str, x.length ≤ 100000 → Q (.str x 0) σ ρ) : W C F A (call (.type "str") vs []) σ ρ Q X := by
  intro s i
  obtain ⟨v, rfl, e⟩ := one_of hv
  obtain ⟨t, rfl⟩ := er_int_inv e
  refine wpAny.n (P.str_of_int (shown (N := 2 ^ 1920) (by omega) (by omega) (Int.le_refl _)) ⟨σ, ρ, i.toks _, q _ ?_⟩)
  exact Nat.le_trans (toString_length_le h0 (by decide) h1) (by decide)
end
section
variable {C : Cx} {S : St} {F : Fm} {A : Around} {σ : Hp} {ρ : Loc} {X : Value → Hp → Loc → Prop} {Q : Value → Hp → Loc → Prop}
theorem W_join_nil {acc : Str} (h : acc.length ≤ sizeLine) (q : ∀ T, Q (.str T 0) σ ρ) : W C F A (joinParts acc []) σ ρ Q X := by
  intro s i
  show wpN _ A (mkStr acc) _ _ s
  exact wpAny.n (wpAny_mkStr ⟨σ, ρ, i.toks _, q _⟩ h)
theorem W_join_cons {acc : Str} {x : Sem Value} {rest : List (Sem Value)} (N : Nat) (hN : acc.length ≤ N) (h16 : N + 100000 ≤ 16777216) (h : W C F A x σ ρ (fun v σ₁ ρ₁ => ∃ y, v = .str y 0 ∧ y.length ≤ 100000 ∧ ∀ acc', acc'.length ≤ N + 100000 → W C F A (joinParts acc' rest) σ₁ ρ₁ Q X) X) : W C F A (joinParts acc (x :: rest)) σ ρ Q X := by
  intro s i
  rw [joinParts]
  refine wpN_bind (h.use i (fun v s1 σ1 ρ1 i1 q1 => ?_) fun ea cls s' σ' ρ' y q => ⟨ea, cls, σ', ρ', rfl, y, q⟩)
  obtain ⟨y, e, hz, k⟩ := q1
  obtain ⟨t, rfl⟩ := er_str_inv e
  have hz' : acc.length + y.length ≤ sizeLine := by rw [sizeLine_eq]; omega
  refine wpN_bind (wpN_pure ?_)
  show wpN _ A (if acc.length + y.length > sizeLine then _ else _) _ _ s1
  rw [if_neg (Nat.not_lt.mpr hz')]
  have hl : (acc ++ y).length ≤ N + 100000 := by rw [strLen_append]; omega
  first
    | exact k (acc ++ y) hl s1 i1
    | exact wpN_bind (wpN_pure (k (acc ++ y) hl s1 i1))
theorem W_Joined {v₁ v₂ : Expr} {rest : List Expr} {pos : Pos} (h : W C F A (joinParts Str.empty (evalEach (v₁ :: v₂ :: rest) F.env)) σ ρ Q X) : W C F A (eval (.JoinedStr (v₁ :: v₂ :: rest) pos) F.env) σ ρ Q X := h
theorem W_Fmt115 {value : Expr} {pos : Pos} (h : W C F A (eval value F.env) σ ρ (fun v σ₁ ρ₁ => ∃ y, v = .str y 0 ∧ y.length ≤ 100000 ∧ Q (.str y 0) σ₁ ρ₁) X) : W C F A (eval (.FormattedValue value 115 none pos) F.env) σ ρ Q X := by
  intro s i
  rw [arm_eval_FormattedValue]
  refine wpN_bind (h.use i (fun v s1 σ1 ρ1 i1 q1 => ?_) fun ea cls s' σ' ρ' y q => ⟨ea, cls, σ', ρ', rfl, y, q⟩)
  obtain ⟨y, e, hz, q⟩ := q1
  obtain ⟨t, rfl⟩ := er_str_inv e
  have hz' : y.length ≤ sizeLine := Nat.le_trans hz (by decide)
  refine wpN_bind (wpN_standAt ?_)
  show wpN _ _ (do let v' ← holding [.str y t] (habitSame "fstring-hands-on-the-str" (.str y t)); formatField v' Str.empty) _ _ s1
  refine wpN_bind (wpN_holding (wpAny.n (wpAny_habitSame_str (wpAny.n ?_) (wpAny.n ?_) hz')))
  · exact wpAny_formatField_str ⟨σ1, ρ1, i1, q⟩ ⟨σ1, ρ1, i1.toks _, q⟩ hz'
  · exact wpAny_formatField_str ⟨σ1, ρ1, i1.toks _, q⟩ ⟨σ1, ρ1, (i1.toks _).toks _, q⟩ hz'
end
end Mine
end
/- part FbTry -/
section
open PySem PySem.W PySem.Spec PySem.Calls PyProof.Rows
set_option Elab.async false
set_option maxRecDepth 100000
set_option maxHeartbeats 4000000
set_option linter.all false
namespace Mine
section
variable {M : Model} {A : Around} {E : Value → Shared → Prop} {s : Shared} {env : Env}
theorem wpN_attempt {α : Type} {m : Sem α} {Q : Except Value α → Shared → Prop} (h : wpN M A m (fun a => Q (.ok a)) (fun e => Q (.error e)) s) : wpN M A m.attempt Q E s := fun Γ p hΓ h1 h2 => by
  rw [Sem.wp_attempt]; exact h Γ p hΓ h1 h2
theorem nTryStmt {body orelse : Sem Flow} {h₀ : ExceptHandler} {hs : List ExceptHandler} {Q : Flow → Shared → Prop}
    (h : wpN M A body (fun f s₁ => match f with | .next => wpN M A orelse Q E s₁ | f => Q f s₁)
      (fun e s₁ => wpN M A (noteFrame e env) (fun _ s₂ => wpN M A (setFlight e none) (fun _ s₃ => wpN M A (handleBy e env (h₀ :: hs)) Q E s₃) E s₂) E s₁) s) :
    wpN M A (tryStmt false body (h₀ :: hs) orelse [] env) Q E s := by
  unfold tryStmt
  simp only [List.isEmpty_nil, if_true, List.isEmpty_cons, Bool.false_and, Bool.false_eq_true, if_false]
  refine wpN_bind (wpN_attempt (wpN_mono h (fun f s₁ h₁ => ?_) fun e s₁ h₁ => ?_))
  · cases f <;> first | exact h₁ | exact wpN_pure h₁
  · exact wpN_bind (wpN_mono h₁ (fun _ _ h₂ => wpN_bind h₂) fun _ _ x => x)
end
/-- the exception caught, in flight no more -/
def FlyS (C : Cx) (F : Fm) (σ : Hp) (ρ : Loc) (e : Addr) (cls : Value) (s : Shared) : Prop :=
  ∃ B a0, C.base.StaysIn B ∧ Heap.FlyingW B (F.env :: F.outer) e cls a0 s.heap ∧ Own F σ B ∧ Cels F σ ρ B ∧ (∀ b o, F.h₀.get? b = some o → b ∉ F.frs → B.get? b = some o) ∧ Kept F s.heap ∧
    (∃ m, s.heap.Ns F.L m ∧ Locs F ρ m) ∧ s.gens = #[] ∧ s.os = C.os
section
variable {C : Cx} {F : Fm} {A : Around} {σ : Hp} {ρ : Loc} {s : Shared} {e : Addr} {cls : Value}
theorem FlyS.inv (ok : F.Ok C) (h : FlyS C F σ ρ e cls s) : Inv C F σ ρ s := by
  obtain ⟨B, a0, st, f, own, cel, keep, kept, ⟨m, n, l⟩, g, o⟩ := h
  refine ⟨⟨m, ⟨n, fun b o q => f.1 _ _ (st _ _ q), ok.above⟩, l⟩, kept, fun x c hk hc => ?_, fun a o q => ?_, g, o⟩
  · obtain ⟨a1, a2, oc, v, a3, a4⟩ := cel x c hk hc; exact ⟨a1, a2, oc, v, f.1 _ _ a3, a4⟩
  · obtain ⟨a1, a2, a3⟩ := own a o q; exact ⟨a1, a2, a3.ext f.1⟩
theorem FlyS.toks (h : FlyS C F σ ρ e cls s) (t : Nat) : FlyS C F σ ρ e cls { s with toks := t } := h
theorem FlyS.lands (ok : F.Ok C) (h : FlyS C F σ ρ e cls s) {M : Model} {Q : Unit → Shared → Prop} {E : Value → Shared → Prop} (q : ∀ s', FlyS C F σ ρ e cls s' → Q () s') : wpAny M A (setFlight (.ref e) none) Q E s := by
  obtain ⟨B, a0, st, f, own, cel, keep, kept, loc, g, o⟩ := h
  exact lands_againW f fun h' hh up => q _ ⟨B, a0, st, hh, own, cel, keep, kept_up ok kept keep hh.1 up, loc_up loc up, g, o⟩
theorem Hel.lands (ok : F.Ok C) (h : Hel C F σ ρ e cls s) {M : Model} {Q : Unit → Shared → Prop} {E : Value → Shared → Prop} (q : ∀ s', FlyS C F σ ρ e cls s' → Q () s') : wpAny M A (setFlight (.ref e) none) Q E s := by
  obtain ⟨B, a0, st, f, own, cel, keep, kept, loc, g, o⟩ := h
  exact wpAny_landsW f fun h' hh up => q _ ⟨B, a0, st, hh, own, cel, keep, kept_up ok kept keep hh.1 up, loc_up loc up, g, o⟩
theorem FlyS.there (h : FlyS C F σ ρ e cls s) : ∃ ob, s.heap.get? e = some ob ∧ ob.cls = cls := by
  obtain ⟨B, a0, st, f, _⟩ := h
  obtain ⟨ob, h1, h2⟩ := f.there
  exact ⟨ob, h1, h2⟩
end
section
variable {C : Cx} {F : Fm} {A : Around} {σ : Hp} {ρ : Loc} {X : Value → Hp → Loc → Prop}
theorem backN_exc (ok : F.Ok C) {s : Shared} {e : Addr} {cls : Value} {M : Model} {E : Value → Shared → Prop} (x : Hel C F σ ρ e cls s) (q : ∀ s', Hel C F σ ρ e cls s' → E (.ref e) s') : backN M A F.env E (.ref e) s := backN_hel ok x q
/-- one clause, and it hits -/
theorem nHit (l : L2 C) (ok : F.Ok C) (hA : A.frames = some (F.env :: F.outer)) {e : Addr} {T X' : String} {t : Expr} {b₀ : Stmt} {suite : List Stmt} {hpos : Pos} {rest : List ExceptHandler} {Q : Flow → Hp → Loc → Prop} {s : Shared} (fl : FlyS C F σ ρ e (.type X') s)
    (ht : KN σ → pe S2 F.sc σ ρ t = some (.type T))
    (hexc : isSubtype (.type T) (.type "BaseException") = pure true) (hnt : isSubtype (.type ((Manifest.find? T).elim "type" fun x => x.metatype)) (.type "tuple") = pure false) (hsub : isSubtype (.type X') (.type T) = pure true)
    (h : W C F (A.mark (some (.ref e))) (execs (b₀ :: suite) F.env) σ ρ Q X) :
    wpN (model C.prog C.w) A (handleBy (.ref e) F.env (.ExceptHandler (some t) none (b₀ :: suite) hpos :: rest)) (fun f s' => ∃ σ' ρ', Inv C F σ' ρ' s' ∧ Q (Er.e f) σ' ρ') (fun e s' => ∃ ea cls σ' ρ', e = .ref ea ∧ Exc C F σ' ρ' ea cls s' ∧ X cls σ' ρ') s := by
  have kn : KN σ := fun x hx => by
    obtain ⟨o, ho⟩ := Option.isSome_iff_exists.mp (as2 l x hx)
    exact (fl.inv ok).base_out ok (l.ok.kin _ _ ho)
  have hA' : (A.mark (some (.ref e))).frames = some (F.env :: F.outer) := hA
  have hnb : (some (Value.ref e) : Option Value) ≠ some byPass := fun q => by cases q
  rw [handleBy]
  refine wpN_bind (wpN_holding (wpAny.n (wpAny_runOwn (h := some (.ref e)) (codeAny_handlers_test (pe_ok ok l.ok (S2_ok l) t (ht kn) s (fl.inv ok) _ _ fun c tk ec => ?_)) hnb)))
  have := er_type_inv ec; subst this
  obtain ⟨ob, hob, hoc⟩ := (fl.toks tk).there
  refine wpAny_excMatches_type (s := { s with toks := tk }) ⟨ob, hob, hoc⟩ hexc hnt hsub ?_
  show wpN _ _ (pure true >>= _) _ _ _
  refine wpN_bind (wpN_pure ?_)
  show wpN _ _ (if (!true) = true then _ else _) _ _ _
  rw [if_neg (by decide)]
  refine wpN_bind (wpN_holding ?_)
  unfold runOwn
  refine wpN_onRaise (wpN_run (h := some (.ref e)) (codeN_of_tree rfl ?_) hnb)
  have hu : (A.mark (some (.ref e))).under (.handlers (.ref e) [.ExceptHandler none none (b₀ :: suite) hpos] F.env) = A.mark (some (.ref e)) := Around.under_of_weight rfl rfl
  rw [hu]
  show wpN _ _ (do return Fin.done (← (handleWith (.ref e) F.env [.ExceptHandler none none (b₀ :: suite) hpos]).onRaise (fun x => do noteFrame x F.env; theTreesLotGoes x))) _ _ _
  refine wpN_bind (wpN_onRaise ?_)
  unfold handleWith
  refine wpN_bind (wpN_standAt (wpN_bind (wpAny.n ((fl.toks tk).lands ok fun s2 fl2 => ?_))))
  refine h.use (fl2.inv ok) (fun f s3 σ3 ρ3 i3 q3 => wpN_pure (wpN_pure ⟨σ3, ρ3, i3, q3⟩)) fun ea cls s' σ' ρ' y q => ?_
  show noteN (model C.prog C.w) (A.mark (some (.ref e))) F.env (backN (model C.prog C.w) A F.env (fun e s' => ∃ ea cls σ' ρ', e = .ref ea ∧ Exc C F σ' ρ' ea cls s' ∧ X cls σ' ρ')) (.ref ea) s'
  exact noteN_exc (A := A.mark (some (.ref e))) ok hA' y fun s₁ h₁ => backN_hel (A := A) ok h₁ fun s₂ h₂ => ⟨ea, cls, σ', ρ', rfl, h₂.exc, q⟩
/-- try: body, one clause for a built-in class -/
theorem W_Try1 (l : L2 C) (ok : F.Ok C) (hA : A.frames = some (F.env :: F.outer)) {body orelse : List Stmt} {t : Expr} {b₀ : Stmt} {suite : List Stmt} {hpos pos : Pos} {rest : List ExceptHandler} {Q : Flow → Hp → Loc → Prop}
    (h : W C F A (execs body F.env) σ ρ (fun f σ₁ ρ₁ => match f with | .next => W C F A (execs orelse F.env) σ₁ ρ₁ Q X | f => Q f σ₁ ρ₁)
      (fun cls σ₁ ρ₁ => ∃ T X', cls = .type X' ∧ (KN σ₁ → pe S2 F.sc σ₁ ρ₁ t = some (.type T)) ∧ isSubtype (.type T) (.type "BaseException") = pure true ∧ isSubtype (.type ((Manifest.find? T).elim "type" fun x => x.metatype)) (.type "tuple") = pure false ∧ isSubtype (.type X') (.type T) = pure true ∧
        ∀ e, W C F (A.mark (some (.ref e))) (execs (b₀ :: suite) F.env) σ₁ ρ₁ Q X)) :
    W C F A (exec (.Try body (.ExceptHandler (some t) none (b₀ :: suite) hpos :: rest) orelse [] pos) F.env) σ ρ Q X := by
  intro s i
  rw [arm_exec_Try]
  refine wpN_bind (wpN_standAt (nTryStmt (h.use i (fun f s1 σ1 ρ1 i1 q1 => ?_) fun ea cls s1 σ1 ρ1 y q => ?_)))
  · cases f <;> first | exact q1 s1 i1 | exact ⟨σ1, ρ1, i1, q1⟩
  · obtain ⟨T, X', rfl, ht, h1, h2, h3, h4⟩ := q
    refine wpAny.n (note_exc ok hA y fun s2 hel => wpAny.n (hel.lands ok fun s3 fl => ?_))
    exact nHit l ok hA fl ht h1 h2 h3 (h4 ea)
end
end Mine
end
/- part FbByt -/
section
open PySem PySem.W PySem.Spec PySem.Calls PyProof.Rows
set_option Elab.async false
set_option maxRecDepth 100000
set_option maxHeartbeats 4000000
set_option linter.all false
namespace Mine
namespace B
theorem no_bytes_ba : typeLookup (.type "bytearray") "__bytes__" = pure none := by rw [typeLookup_type, builtinLookup_eq_fast]; kernel_rfl
theorem no_index_ba : typeLookup (.type "bytearray") "__index__" = pure none := by rw [typeLookup_type, builtinLookup_eq_fast]; kernel_rfl
end B
section
variable {prog : Program} {w : World} {A : Around} {E : Value → Shared → Prop} {s : Shared}
theorem bnew_ba {l : Addr} {b : Array UInt8} {Q : Value → Shared → Prop} (hb : s.heap.get? l = some (baObj b)) (hz : b.size ≤ sizeLine)
    (hQ : ∀ t k, Q (.bytes b t) { s with toks := k }) : codeAny (model prog w) A (.call (.builtin "bytes.__new__") ⟨[.type "bytes", .ref l], []⟩) (wants Q E) s := by
  refine codeAny_of_tree ?_
  show wpAny _ A.in1 (do checkBuiltinCall "bytes.__new__" ⟨[.type "bytes", .ref l], []⟩; again (.builtin "bytes.__new__" ⟨[.type "bytes", .ref l], []⟩)) _ _ s
  refine wpAny_bind (wpAny_of_eq (F.bm_newCall _) (wpAny_pure ⟨plainId_quiet F.bm_plain _, codeAny_builtin F.bm_entry ?_⟩))
  rw [Around.under_plainId F.bm_plain _]
  have hT : s.TypeIs (.ref l) "bytearray" := ⟨_, hb, rfl⟩
  unfold Builtin.«bytes.__new__»
  refine wpAny_bind (wpAny_of_eq (a := true) rfl ?_)
  refine bm_if_false rfl ?_
  refine wpAny_bind (wpAny_of_eq F.bm_sub ?_)
  refine bm_if_false rfl ?_
  refine wpAny_bind (wpAny_of_eq (F.bm_bind _) ?_)
  refine wpAny_bind (wpAny_of_eq (a := ()) rfl ?_)
  refine wpAny_bind (wpAny_of_eq (a := ()) rfl ?_)
  refine bm_if_false rfl ?_
  refine wpAny_bind (wpAny_specialOf hT B.no_bytes_ba ?_)
  refine wpAny_bind (wpAny_bind ?_)
  show wpAny _ _ (load l >>= _) _ _ _
  refine wpAny_bind (wpAny_load hb ?_)
  refine wpAny_pure (wpAny_pure ?_)
  refine bm_if_false rfl ?_
  refine wpAny_bind (wpAny_specialOf hT B.no_index_ba ?_)
  refine bm_if_true rfl ?_
  first
    | show wpAny _ _ (Builtin.Bytes.buffer? "bytes.__new__" (.ref l) true >>= _) _ _ _
    | (refine wpAny_bind ?_; show wpAny _ _ (Builtin.Bytes.buffer? "bytes.__new__" (.ref l) true >>= _) _ _ _)
  refine wpAny_bind (buffer_ba hb ?_)
  dsimp only
  refine wpAny_bind (wpAny_rule ?_)
  refine wpAny_bind (wpAny_mkBytes ?_ hz)
  first
    | exact wpAny_pure (hQ _ _)
    | exact wpAny_pure ⟨_, rfl, hQ _ _⟩
    | trace_state
theorem call_bytes_ba {l : Addr} {b : Array UInt8} {Q : Value → Shared → Prop} (hb : s.heap.get? l = some (baObj b)) (hz : b.size ≤ sizeLine)
    (hQ : ∀ t k, Q (.bytes b t) { s with toks := k }) : wpAny (model prog w) A (call (.type "bytes") [.ref l]) Q E s := by
  refine callType_codes (Q₁ := fun obj s₁ => s₁.TypeIs obj "bytes" ∧ Q obj s₁) F.bm_called (F.bm_typeCall _) F.entry_object_init
    (bnew_ba hb hz fun t k => ⟨PySem.W.typeIs_bytes _ _ _, hQ t k⟩) fun obj s₁ h₁ => ?_
  exact ⟨h₁.1, F.args_object_init_2 obj _, object_init_meets F.bm_called.init.lookup F.bm_called.made (by decide) prog w A.in1 _ s₁ ⟨h₁.1, rfl, h₁.2⟩⟩
end
section
variable {C : Cx} {S : St} {F : Fm} {A : Around} {σ : Hp} {ρ : Loc} {X : Value → Hp → Loc → Prop}
theorem W_bytes_ba {l : Addr} {b : List UInt8} {vs : List Value} {Q : Value → Hp → Loc → Prop} (hv : vs.map er = [.ref l]) (hl : σ l = some (.ba b)) (q : Q (.bytes b.toArray 0) σ ρ) : W C F A (call (.type "bytes") vs []) σ ρ Q X := by
  intro s i
  obtain ⟨v, rfl, e⟩ := one_of hv
  have := er_ref_inv e; subst this
  obtain ⟨h1, h2⟩ := (i.own l _ hl).2.2
  exact wpAny.n (call_bytes_ba h1 (by simpa using h2) fun t k => ⟨σ, ρ, i.toks k, q⟩)
theorem ints_of : ∀ {items : List Value} {ns : List Int}, items.map er = ns.map (fun i => Value.int i 0) → IntsAre items ns
  | [], [], _ => .nil
  | v :: vs, n :: ns, h => by
    obtain ⟨h1, h2⟩ := List.cons.inj h
    obtain ⟨t, rfl⟩ := er_int_inv h1
    exact .cons _ _ (ints_of h2)
theorem W_bytes_list (hh : A.handled = none) {l : Addr} {ns : List Int} {vs : List Value} {Q : Value → Hp → Loc → Prop} (hv : vs.map er = [.ref l]) (hl : σ l = some (.list (ns.map fun i => Value.int i 0))) (hr : ∀ n ∈ ns, 0 ≤ n ∧ n < 256) (q : Q (.bytes (byteArr ns) 0) σ ρ) : W C F A (call (.type "bytes") vs []) σ ρ Q X := by
  intro s i
  obtain ⟨v, rfl, e⟩ := one_of hv
  have := er_ref_inv e; subst this
  obtain ⟨items, n, h1, h2, h3⟩ := (i.own l _ hl).2.2
  have hsz : items.toList.length ≤ sizeLine := by
    have : items.toList.length = (ns.map fun i => Value.int i 0).length := by rw [← h2]; simp
    omega
  refine wpAny.n (call_bytes_ints (vs := items.toList) (ns := ns) ⟨_, h1, rfl, n, by simp⟩ (ints_of h2) hr hsz hh fun h' t k hk => ⟨σ, ρ, i.ext hk k, q⟩)
/-- x op= e -/
theorem W_AugW (ok : F.Ok C) {x : Str} {p pos : Pos} {op : Operator} {e : Expr} {a : Value} {Q : Flow → Hp → Loc → Prop} (hk : F.sc.names.lookup x = some .local) (ha : ρ x = some a)
    (h : W C F A (eval e F.env) σ ρ (fun b σ₁ ρ₁ => ∃ v, pinp op a b = some v ∧ er v = v ∧ Q .next σ₁ (ρ₁.put x v)) X) : W C F A (exec (.AugAssign (.Name x p) op e pos) F.env) σ ρ Q X := by
  intro s i
  obtain ⟨m, f, l⟩ := i.loc
  have hm := l x hk
  rw [ha] at hm
  obtain ⟨w, hw, he⟩ := Option.map_eq_some_iff.mp hm
  refine nAugAssign (wpAny.n (wpAny_loadName_local (env := F.env) ok.fn hk f.ns hw ?_))
  refine h.use i (fun b s1 σ1 ρ1 i1 q1 => ?_) fun ea cls s' σ' ρ' y q => ⟨ea, cls, σ', ρ', rfl, y, q⟩
  obtain ⟨v, hv, hve, q⟩ := q1
  refine wpAny.n (pinp_ok hv he rfl _ i1 _ _ fun r tk' er' => ?_)
  refine (W_store (Q := fun _ σ ρ => Q .next σ ρ) (v := r) ok hk (by rw [er']; exact q)).use (i1.toks tk') (fun _ s2 σ2 ρ2 i2 q2 => ⟨σ2, ρ2, i2, q2⟩) fun ea cls s' σ' ρ' y q => ⟨ea, cls, σ', ρ', rfl, y, q⟩
end
end Mine
end
/- part FbCell -/
section
open PySem PySem.W PySem.Spec PySem.Calls PyProof.Rows
set_option Elab.async false
set_option maxRecDepth 100000
set_option maxHeartbeats 4000000
set_option linter.all false
namespace Mine
section
variable {C : Cx} {S : St} {F : Fm} {A : Around} {σ : Hp} {ρ : Loc} {X : Value → Hp → Loc → Prop}
/-- a list that stands in the base -/
def BaseList (C : Cx) (l : Addr) (ns : List Int) : Prop := ∃ vs : List Value, C.base.IsList l vs.toArray ∧ IntsAre vs ns ∧ ns.length ≤ 1000
theorem intsGet : ∀ {vs : List Value} {ns : List Int}, IntsAre vs ns → ∀ (j : Nat) (n : Int), ns[j]? = some n → ∃ t, vs[j]? = some (Value.int n t)
  | _, _, .nil, j, n, h => by simp at h
  | _, _, .cons m t r, 0, n, h => by simp at h; subst h; exact ⟨t, rfl⟩
  | _, _, .cons m t r, j + 1, n, h => by
    obtain ⟨u, hu⟩ := intsGet r j n (by simpa using h)
    exact ⟨u, by simpa using hu⟩
theorem BaseList.at {l : Addr} {ns : List Int} (b : BaseList C l ns) {s : Shared} (i : Inv C F σ ρ s) : ∃ vs : List Value, s.heap.IsList l vs.toArray ∧ IntsAre vs ns ∧ ns.length ≤ 1000 := by
  obtain ⟨vs, ⟨o, e, r⟩, h2, h3⟩ := b
  obtain ⟨m, f, _⟩ := i.loc
  exact ⟨vs, ⟨o, f.keep _ _ e, r⟩, h2, h3⟩
theorem W_BLen {l : Addr} {ns : List Int} (b : BaseList C l ns) {vs : List Value} {Q : Value → Hp → Loc → Prop} (hv : vs.map er = [.ref l]) (q : Q (.int ns.length 0) σ ρ) : W C F A (call (.builtin "len") vs []) σ ρ Q X := by
  intro s i
  obtain ⟨v, rfl, e⟩ := one_of hv
  have := er_ref_inv e; subst this
  obtain ⟨vs, h1, h2, h3⟩ := b.at i
  have hl := h2.length
  refine wpAny.n (len_list h1 (by simp; omega) ⟨σ, ρ, i.toks _, ?_⟩)
  simp only [List.size_toArray, hl]
  exact q
theorem W_BTrue (ok : F.Ok C) (co : C.Ok) (so : S.Ok C) {l : Addr} {ns : List Int} (b : BaseList C l ns) {x : Str} {p : Pos} {Q : Bool → Hp → Loc → Prop} (he : pe S F.sc σ ρ (.Name x p) = some (.ref l)) (q : Q (!ns.isEmpty) σ ρ) : W C F A (isTrue (.Name x p) F.env (eval (.Name x p) F.env)) σ ρ Q X := by
  intro s i
  refine nTrueValue (wpAny.n (pe_ok ok co so _ he s i _ _ fun v tk ev => ?_)) rfl
  have := er_ref_inv ev; subst this
  have i' := i.toks tk
  obtain ⟨vs, h1, h2, h3⟩ := b.at i'
  have hl := h2.length
  refine wpAny.n (wpAny_truthy_list (s := { s with toks := tk }) h1 (by simp; omega) ⟨σ, ρ, i.toks _, ?_⟩)
  have : (!vs.toArray.isEmpty) = !ns.isEmpty := by cases vs <;> cases ns <;> simp_all
  rw [this]; exact q
theorem W_BItem (ok : F.Ok C) (co : C.Ok) (so : S.Ok C) {l : Addr} {ns : List Int} (b : BaseList C l ns) {value slice : Expr} {pos : Pos} {j : Nat} {n : Int} {Q : Value → Hp → Loc → Prop} (hns : ∀ l j u, subscripted slice false (.ref l) (.int j u) = operate [.ref l, .int j u] (getItem (.ref l) (.int j u)))
    (he : pe S F.sc σ ρ value = some (.ref l)) (hk : pe S F.sc σ ρ slice = some (.int (j : Nat) 0)) (hj : ns[j]? = some n) (q : Q (.int n 0) σ ρ) : W C F A (eval (.Subscript value slice pos) F.env) σ ρ Q X := by
  intro s i
  rw [eval_Subscript]
  refine wpN_bind (wpAny.n (pe_ok ok co so _ he s i _ _ fun v tk ev => ?_))
  have := er_ref_inv ev; subst this
  refine wpN_bind (wpN_holding (wpAny.n (pe_ok ok co so _ hk _ (i.toks tk) _ _ fun k' tk' ek => ?_)))
  obtain ⟨u, rfl⟩ := er_int_inv ek
  have i' := (i.toks tk).toks tk'
  obtain ⟨vs, h1, h2, h3⟩ := b.at i'
  obtain ⟨t, ht⟩ := intsGet h2 j n hj
  have hjl : j < ns.length := by rw [List.getElem?_eq_some_iff] at hj; exact hj.1
  refine wpN_bind (wpN_standAt (wpAny.n (tail_any h1.typeIs slot_list_getitem.lookup (wpAny_getItem_list h1 (by omega) (by omega) (by simpa using ht) ⟨σ, ρ, i', q⟩) (hns _ _ _))))
theorem W_IfExp {test body orelse : Expr} {pos : Pos} {Q : Value → Hp → Loc → Prop} (h : W C F A (isTrue test F.env (eval test F.env)) σ ρ (fun b σ₁ ρ₁ => if b then W C F A (eval body F.env) σ₁ ρ₁ Q X else W C F A (eval orelse F.env) σ₁ ρ₁ Q X) X) : W C F A (eval (.IfExp test body orelse pos) F.env) σ ρ Q X := by
  intro s i
  refine nIfExp (h.use i (fun b s1 σ1 ρ1 i1 q1 => ?_) fun ea cls s' σ' ρ' y q => ⟨ea, cls, σ', ρ', rfl, y, q⟩)
  cases b
  · exact q1 s1 i1
  · exact q1 s1 i1
/-- storing a name that is a cell -/
theorem W_storeC (ok : F.Ok C) {x : Str} {v : Value} {c : Addr} {Q : Unit → Hp → Loc → Prop} (hk : F.env.kindOf x = some .cell) (hc : F.cl.lookup x = some c) (h0 : F.h₀.get? c = none) (q : Q () σ (ρ.put x (er v))) : W C F A (storeName F.env x v) σ ρ Q X := by
  intro s i
  obtain ⟨cL, cσ, oc, v0, g1, g2, g3⟩ := i.cel x c (by rw [hk]; decide) hc
  refine wpAny.n (wpAny_storeName_cell (env := F.env) ok.fn hk hc ⟨oc, g1, g2⟩ fun h' hcell hs => ⟨σ, ρ.put x (er v), ?_, q⟩)
  obtain ⟨⟨m, f, l⟩, kp, ce, ow, g, o⟩ := i
  obtain ⟨oc', e1, e2⟩ := hcell
  refine ⟨⟨m, ⟨f.ns.sameBut hs (Ne.symm cL), fun b ob e => (hs.2 b fun z => ?_).trans (f.keep b ob e), f.above⟩, fun y hy => ?_⟩, fun b ob e => ?_, fun y d hy hd => ?_, fun a ob e => ?_, g, o⟩
  · subst z; have := ok.stays _ _ e; rw [h0] at this; cases this
  · have : y ≠ x := fun z => by rw [z, hk] at hy; cases hy
    unfold Loc.put; rw [if_neg this]; exact l y hy
  · obtain ⟨sl, q1, z⟩ := kp b ob e
    exact ⟨sl, (hs.2 b fun z => by rw [z, h0] at e; cases e).trans q1, z⟩
  · by_cases hyx : y = x
    · subst hyx
      rw [hc] at hd; cases hd
      exact ⟨cL, cσ, oc', some v, e1, e2, by unfold Loc.put; rw [if_pos rfl]; rfl⟩
    · obtain ⟨a1, a2, od, v1, a3, a4, a5⟩ := ce y d hy hd
      have hdc : d ≠ c := fun z => hyx (ok.apart y x d hd (z ▸ hc))
      exact ⟨a1, a2, od, v1, (hs.2 d hdc).trans a3, a4, by unfold Loc.put; rw [if_neg hyx]; exact a5⟩
  · obtain ⟨a1, a2, a3⟩ := ow a ob e
    exact ⟨a1, a2, a3.same hs fun z => by rw [z, cσ] at e; cases e⟩
theorem W_AssignC (ok : F.Ok C) {x : Str} {p pos : Pos} {e : Expr} {c : Addr} {Q : Flow → Hp → Loc → Prop} (hk : F.env.kindOf x = some .cell) (hc : F.cl.lookup x = some c) (h0 : F.h₀.get? c = none) (hs : swapsWith e (some (.Name x p)) pos.line F.env = pure false)
    (h : W C F A (eval e F.env) σ ρ (fun v σ' ρ' => Q .next σ' (ρ'.put x v)) X) : W C F A (exec (.Assign [.Name x p] e pos) F.env) σ ρ Q X := by
  intro s i
  refine nAssign (h.use i (fun v s' σ' ρ' i' q => ?_) fun ea cls s' σ' ρ' y q => ⟨ea, cls, σ', ρ', rfl, y, q⟩) hs
  exact (W_storeC (Q := fun _ σ ρ => Q .next σ ρ) ok hk hc h0 q).use i' (fun _ s2 σ2 ρ2 i2 q2 => ⟨σ2, ρ2, i2, q2⟩) fun ea cls s' σ' ρ' y q => ⟨ea, cls, σ', ρ', rfl, y, q⟩
/-- all objects but the base's and the frame -/
noncomputable def allNews (base : Heap) (L : Addr) (h : Heap) : List (Addr × Obj) := (List.range h.objs.size).filterMap fun a => if a = L then none else if (base.get? a).isSome then none else (h.get? a).map fun o => (a, o)
theorem mem_allNews {base : Heap} {L : Addr} {h : Heap} {p : Addr × Obj} : p ∈ allNews base L h ↔ p.1 ≠ L ∧ base.get? p.1 = none ∧ h.get? p.1 = some p.2 := by
  unfold allNews
  rw [List.mem_filterMap]
  constructor
  · rintro ⟨a, ha, e⟩
    by_cases h1 : a = L
    · rw [if_pos h1] at e; cases e
    · rw [if_neg h1] at e
      by_cases h2 : (base.get? a).isSome = true
      · rw [if_pos h2] at e; cases e
      · rw [if_neg h2] at e
        obtain ⟨o, ho, rfl⟩ := Option.map_eq_some_iff.mp e
        exact ⟨h1, by simpa using h2, ho⟩
  · rintro ⟨h1, h2, h3⟩
    refine ⟨p.1, List.mem_range.mpr (Heap.lt_size h3), ?_⟩
    rw [if_neg h1, h2, h3]; rfl
theorem inv_news {s : Shared} (ok : F.Ok C) (i : Inv C F σ ρ s) {m : Str → Option Value} (l : Locs F ρ m) {h' : Heap} {tk : Nat} (f : Fr C.base F.L h' m) (fr0 : Fr C.base F.L s.heap m) (N : News C.base F.L h' (allNews C.base F.L s.heap)) :
    Inv C F σ ρ { s with heap := h', toks := tk } ∧ ∀ b o, s.heap.get? b = some o → b ≠ F.L → h'.get? b = some o := by
  have k : ∀ b o, s.heap.get? b = some o → b ≠ F.L → h'.get? b = some o := fun b o e hb => by
    cases q : C.base.get? b with
    | some o' =>
      have e1 := fr0.keep b o' q
      rw [e] at e1; cases e1
      exact f.keep _ _ q
    | none => exact (N (b, o) (mem_allNews.mpr ⟨hb, q, e⟩)).1
  refine ⟨⟨⟨m, f, l⟩, fun b o e => ?_, fun x c hk hc => ?_, fun a o e => ?_, i.gens, i.os⟩, k⟩
  · obtain ⟨sl, q, z⟩ := i.kept b o e
    exact ⟨sl, k _ _ q (fun z => by rw [z, ok.new] at e; cases e), z⟩
  · obtain ⟨a1, a2, oc, v, a3, a4⟩ := i.cel x c hk hc
    exact ⟨a1, a2, oc, v, k _ _ a3 a1, a4⟩
  · obtain ⟨a1, a2, a3⟩ := i.own a o e
    obtain ⟨ob, ho⟩ := a3.there
    exact ⟨a1, a2, a3.at ((k _ _ ho a1).trans ho.symm)⟩
theorem comp_rest {prog : Program} {w : World} {h₀ : Heap} {L : Addr} {m : Str → Option Value} {env : Env} {elt : Expr} {x : Str} {scope : Scope} {cl : List (Str × Addr)} {s : Shared} {news : List (Addr × Obj)} {n : Nat} {g : Nat → Int} {Fin : List Value → List (Addr × Obj) → Prop}
    (helt : ∀ (j : Nat) (u : Tok) (Cc : Addr) (oC : Obj) (m₂ : Str → Option Value) (s' : Shared) (Q : Value → Shared → Prop) (E : Value → Shared → Prop), j < n → News h₀ L s'.heap news → s'.heap.Ns Cc m₂ → m₂ x = some (.int (j : Int) u) → (∀ t k, Q (.int (g j) t) { s' with toks := k }) → wpAny (model prog w) A (eval elt (compEnvC scope cl Cc env)) Q E s')
    (hfin : ∀ ys, ys.map er = (List.range n).map (fun j => Value.int (g j) 0) → Fin ys news) :
    ∀ k i ys, i + k = n → ys.map er = (List.range i).map (fun j => Value.int (g j) 0) → LCg.CompRest prog w A h₀ L m env elt x scope cl s (fun _ => True) (fun i v => ∃ t, v = .int (0 + (i : Int)) t) Fin k i ys news
  | 0, i, ys, hi, hys => by
    have : i = n := by omega
    subst this
    exact LCg.CompRest.zero (hfin ys hys)
  | k + 1, i, ys, hi, hys => by
    refine LCg.CompRest.succ fun v I oI Cc oC D m₂ h tk E' hP hns hm₂ F N off hne => ?_
    obtain ⟨t, rfl⟩ := hP
    rw [Int.zero_add] at hm₂
    have N' : News h₀ L h news := fun p hp => N p (List.mem_cons_of_mem _ (List.mem_cons_of_mem _ (List.mem_cons_of_mem _ hp)))
    refine helt i t Cc oC m₂ { s with heap := h, toks := tk } _ _ (by omega) N' (hns.ns (N (Cc, oC) (List.mem_cons_of_mem _ List.mem_cons_self)).1) hm₂ fun t' k' => ?_
    refine LCg.CompEnd.intro (s₁ := { s with heap := h, toks := tk }) F N news (fun p hp => hp) off trivial ?_
    refine comp_rest helt hfin k (i + 1) _ (by omega) ?_
    rw [List.map_append, hys, List.range_succ, List.map_append]; rfl
end
end Mine
end
/- part FbComp -/
section
open PySem PySem.W PySem.Spec PySem.Calls PyProof.Rows
set_option Elab.async false
set_option maxRecDepth 100000
set_option maxHeartbeats 4000000
set_option linter.all false
namespace Mine
section
variable {C : Cx} {S : St} {F : Fm} {A : Around} {σ : Hp} {ρ : Loc} {X : Value → Hp → Loc → Prop}
theorem off1_mem {D : Addr} : ∀ {l : List (Addr × Obj)}, LCg.Off1 D l → ∀ p ∈ l, p.1 ≠ D
  | [], _, _, h => nomatch h
  | _ :: _, x, p, h => by
    rcases List.mem_cons.mp h with rfl | h
    · exact x.1
    · exact off1_mem x.2 p h
/-- an object that stands already becomes one of the law's -/
theorem Inv.adopt {s : Shared} (i : Inv C F σ ρ s) {D : Addr} {xs : List Value} (h1 : σ D = none) (h2 : D ≠ F.L) (h3 : F.h₀.get? D = none) {items : Array Value} {n : Nat} (h4 : s.heap.get? D = some { cls := .type "list", data := .seq items n }) (h5 : items.toList.map er = xs) (h6 : xs.length ≤ sizeLine) : Inv C F (σ.put D (.list xs)) ρ s := by
  obtain ⟨l, kp, ce, ow, g, os⟩ := i
  refine ⟨l, kp, fun x c hk hc => ?_, fun b ob q => ?_, g, os⟩
  · obtain ⟨a1, a2, oc, v, a3, a4, a5⟩ := ce x c hk hc
    refine ⟨a1, (Hp.put_ne _ _ fun z => ?_).trans a2, oc, v, a3, a4, a5⟩
    rw [z, h4] at a3; cases a3; cases a4
  · by_cases hb : b = D
    · subst hb; rw [Hp.put_self] at q; cases q
      exact ⟨h2, h3, items, n, h4, h5, h6⟩
    · rw [Hp.put_ne _ _ hb] at q
      obtain ⟨b1, b2, b3⟩ := ow b ob q
      exact ⟨b1, b2, b3.put (by rw [h1]; exact fun z => by cases z)⟩
/-- [elt for x in range(n)] -/
theorem W_CompRange (ok : F.Ok C) (co : C.Ok) (so : S.Ok C) (hh : A.handled = none) {elt ne : Expr} {x rx : Str} {px np cp pos : Pos} {scope : Scope} {cl : List (Str × Addr)} {n : Nat} {g : Nat → Int} {Q : Value → Hp → Loc → Prop}
    (hclos : closureFor scope F.env = pure cl) (hcell : ∀ y ∈ scope.names, y.2 ≠ .cell) (hkind : scope.kind = .function) (hnames : ∀ y ∈ scope.names, y.2 = .local → scope.names.lookup y.1 = some .local) (hx : scope.names.lookup x = some .local)
    (hr : pe S F.sc σ ρ (.Name rx np) = some (.type "range")) (hn : pe S F.sc σ ρ ne = some (.int (n : Nat) 0)) (hn1 : n ≤ 1000) (hs : noStar [ne] = true)
    (helt : ∀ s, Inv C F σ ρ s → ∀ (j : Nat) (u : Tok) (Cc : Addr) (m₂ : Str → Option Value) (s' : Shared) (Q : Value → Shared → Prop) (E : Value → Shared → Prop), j < n → (∀ b o, s.heap.get? b = some o → b ≠ F.L → C.base.get? b = none → s'.heap.get? b = some o) → s'.heap.Ns Cc m₂ → m₂ x = some (.int (j : Int) u) → (∀ t k, Q (.int (g j) t) { s' with toks := k }) → wpAny (model C.prog C.w) A (eval elt (compEnvC scope cl Cc F.env)) Q E s')
    (q : ∀ D, σ D = none → Q (.ref D) (σ.put D (.list ((List.range n).map fun j => Value.int (g j) 0))) ρ)
    (hf : ∀ x, foldedSetIterable (.Call (.Name rx np) [ne] [] cp) F.env x = pure x) : W C F A (eval (.ListComp elt [⟨.Name x px, .Call (.Name rx np) [ne] [] cp, [], 0⟩] scope pos) F.env) σ ρ Q X := by
  intro s i
  obtain ⟨m, fr, l⟩ := i.loc
  refine wpAny.n (LCg.ListComp_U (F₀ := fr) hclos hcell hkind hnames hx (wpAny_Call_ofName (pe_ok ok co so _ hr s i _ _ fun v tk ev => ?_)) hf)
  have := er_type_inv ev; subst this
  have hp : ((backTo cp (starEach [ne] F.env)).any (·.1)) = false := plain_of hs
  refine callWith_excType hp ?_
  have he := (star_of (env := F.env) hs).1
  rw [he]
  show wpAny _ _ (evalArgs _ true ((false, eval ne F.env) :: backTo cp (starEach [] F.env)) []) _ _ _
  refine evalArgs_plain ?_
  have hq : ∀ (Q' : List Value → Shared → Prop) (E' : Value → Shared → Prop) (s0 : Shared), wpAny (model C.prog C.w) A (eval ne F.env) (fun v s' => Q' [v] s') E' s0 → wpAny (model C.prog C.w) A (spliced ((false, eval ne F.env) :: backTo cp (starEach [] F.env))) Q' E' s0 := fun Q' E' s0 h => by
    show wpAny _ _ (do let v ← eval ne F.env; let here ← (pure [v] : Sem (List Value)); return here ++ (← holding here (spliced []))) _ _ _
    exact wpAny_bind (wpAny_mono h (fun v s' h' => wpAny_bind (wpAny_pure (wpAny_bind (wpAny_holding (wpAny_pure (a := ([] : List Value)) (wpAny_pure h')))))) fun _ _ x => x)
  refine hq _ _ _ (pe_ok ok co so _ hn _ (i.toks tk) _ _ fun w tk' ew => ?_)
  obtain ⟨u, rfl⟩ := er_int_inv ew
  show wpAny _ _ (call (.type "range") [.int (n : Int) u]) _ _ _
  refine call_range_1 ?_
  generalize hs1 : ({ s with heap := s.heap.push { cls := .type "range", data := .fields #[.int 0 tk', .int (n : Int) u, .int 1 (tk' + 1)] }, toks := tk' + 1 + 1 } : Shared) = s1
  have i1 : Inv C F σ ρ s1 := by rw [← hs1]; exact i.ext (fun b o e => Heap.get?_push_of_some _ e) _
  have hrange : IsRange s1.heap s.heap.objs.size 0 n 1 tk' u (tk' + 1) := by rw [← hs1]; exact IsRange.new _ _ _ _ _ _ _
  have fr1 : Fr C.base F.L s1.heap m := by
    obtain ⟨m', fr', l'⟩ := i1.loc
    refine ⟨?_, fr'.keep, fr'.above⟩
    rw [← hs1]; exact fr.ns.keeps fun b o e => Heap.get?_push_of_some _ e
  have N1 : News C.base F.L s1.heap (allNews C.base F.L s1.heap) := fun p hp => by
    obtain ⟨a1, a2, a3⟩ := mem_allNews.mp hp
    exact ⟨a3, a1, a2⟩
  refine LCg.CompSrc.range (t := tk') (u := u) (v := tk' + 1) (a := 0) (b := n) (n := n) hh fr1 N1 hrange ?_ ?_ (by rw [sizeLine_eq]; omega) fun gg => ?_
  · have hrs : Builtin.Range.rangeSize 0 (n : Int) 1 = n := by rw [rangeSize_one]; split <;> omega
    unfold Builtin.Range.small Builtin.Range.rangeFitsLong
    simp only [hrs, Bool.and_eq_true, decide_eq_true_eq]
    refine ⟨by omega, ?_⟩
    rw [if_pos (by decide)]
    simp only [Bool.or_eq_true, Bool.and_eq_true, decide_eq_true_eq]
    right; omega
  · rw [rangeSize_one]; split <;> omega
  · refine comp_rest (g := g) (n := n) (fun j u' Cc oC m₂ s' Q' E' hj N hns hm hq' => ?_) (fun ys hys => ?_) n 0 [] (by omega) rfl
    · exact helt s1 i1 j u' Cc m₂ s' Q' E' hj (fun b o e h1 h2 => (N (b, o) (mem_allNews.mpr ⟨h1, h2, e⟩)).1) hns hm hq'
    · intro D h tk2 fr2 N2 off
      have hD := N2 (D, LCg.lst ys) List.mem_cons_self
      obtain ⟨i2, k2⟩ := inv_news (tk := tk2) ok i1 l fr2 fr1 fun p hp => N2 p (List.mem_cons_of_mem _ hp)
      have fresh : s1.heap.get? D = none := by
        cases e : s1.heap.get? D with
        | none => rfl
        | some o => exact absurd rfl (off1_mem off (D, o) (mem_allNews.mpr ⟨hD.2.1, hD.2.2, e⟩))
      have nσ : σ D = none := by
        cases e : σ D with
        | none => rfl
        | some o => obtain ⟨_, _, r⟩ := i1.own D o e; obtain ⟨ob, ho⟩ := r.there; rw [fresh] at ho; cases ho
      have nh : F.h₀.get? D = none := by
        cases e : F.h₀.get? D with
        | none => rfl
        | some o => obtain ⟨sl, ho, _⟩ := i1.kept D o e; rw [fresh] at ho; cases ho
      have i3 := i2.adopt (xs := (List.range n).map fun j => Value.int (g j) 0) nσ hD.2.1 nh hD.1 (by simpa using hys) (by simp [sizeLine]; omega)
      exact ⟨_, ρ, i3, q D nσ⟩
end
end Mine
end
/- part FbTop -/
section
open PySem PySem.W PySem.Spec PySem.Calls PyProof.Rows
set_option Elab.async false
set_option maxRecDepth 100000
set_option maxHeartbeats 4000000
set_option linter.all false
namespace Mine
/-- the law's own frame -/
def topFm (h : Heap) (qual : Str) (sc : Scope) (fa : Addr) (cd : Value) : Fm := { outer := [], h₀ := h, qual, sc, L := h.objs.size, fa, cd, cl := cellsFrom (h.objs.size + 1) sc.names [] }
theorem W_top {C : Cx} (co : C.Ok) {s : Shared} (hb : C.base = s.heap) (hos : C.os = s.os) (hg : s.gens = #[]) {fa : Addr} {o : Obj} {fd : FuncData} {body : List Stmt} {p : Str} {v : Value} (ho : s.heap.get? fa = some o) (hd : o.data = .func fd) (hcd : s.heap.CodeRec fd.code fd.qualname)
    (hbody : fd.body = .stmts body) (hclo : fd.closure = []) (hgl : fd.globals = mainGlobals) (hbi : fd.builtins = builtinsNs) (hbind : BindsTo s fd ⟨[v], []⟩ [(p, v)]) (hp : fd.scope.names.lookup p = some .local)
    (hcells : ∀ n x, fd.scope.names.lookup x = some .cell → ∃ c, (cellsFrom n fd.scope.names []).lookup x = some c)
    (hco : fd.scope.isCoroutine = false) (hgen : fd.scope.isGenerator = false) (hk : fd.scope.kind = .function)
    (h : ∀ F', F'.sc = fd.scope → F'.cl = cellsFrom (s.heap.objs.size + 1) fd.scope.names [] → F'.h₀ = s.heap → F'.Ok C → ∀ A, Ar F' A 20 → (∀ x c, F'.cl.lookup x = some c → s.heap.get? c = none) →
      W C F' A (execs body F'.env) (fun _ => none) (fun x => if x = p then some (er v) else none) (fun fl _ _ => flv fl = .bool true) (fun _ _ _ => False)) :
    wpN (model C.prog C.w) callerA (call (.ref fa) [v] []) (fun r s' => r = .bool true ∧ C.base.StaysIn s'.heap ∧ s'.os = C.os ∧ s'.gens = #[]) (fun _ _ => False) s := by
  have hlim : s.heap.NoLimit := hb ▸ co.top.nolimit
  refine wpN_call (codeN_call_function (fd := fd) (body := body) (by decide) ho hd hco hgen hbody hcd (hbind _ _ _ _ ?_))
  rw [hclo]
  refine wpAny_newFunctionEnv_cells hk (fun x hx => ?_) fun env he s' x => ?_
  · rcases List.mem_singleton.mp hx with rfl; exact .inl hp
  subst he
  refine ⟨hlim.keeps x.toInCall.keep, codeN_func ?_⟩
  obtain ⟨h₁, tk, rfl, hkeep⟩ := x.done
  rw [hgl, hbi] at x ⊢
  have eenv : (newEnv fd.scope s.heap.objs.size mainGlobals (cellsFrom (s.heap.objs.size + 1) fd.scope.names []) (fd.qualname ++ ".<locals>.") (some fa) fd.code none builtinsNs) = (topFm s.heap fd.qualname fd.scope fa fd.code).env := rfl
  rw [eenv] at x ⊢
  have hfr : ∀ y c, (topFm s.heap fd.qualname fd.scope fa fd.code).cl.lookup y = some c → s.heap.get? c = none := fun y c hc => by
    have := x.above y c (mem_of_lookup hc)
    exact Heap.get?_none_of_le (Nat.le_of_lt this)
  have ok : (topFm s.heap fd.qualname fd.scope fa fd.code).Ok C := by
    refine ⟨fun b o e => hb ▸ e, trivial, hk, Heap.get?_none_of_le (Nat.le_refl _), by rw [hb]; exact Nat.le_refl _, fun y z c h1 h2 => ?_, fun y hy => hcells _ y hy, fun y c hc => by intro hm; cases hm⟩
    exact name_of_addr x.apart (mem_of_lookup h1) (mem_of_lookup h2)
  have ar : Ar (topFm s.heap fd.qualname fd.scope fa fd.code) (callerA.deeper (topFm s.heap fd.qualname fd.scope fa fd.code).env) 20 :=
    ⟨rfl, rfl, by show 1 + claimMargin + 1 + 20 < recursionLimit; decide, by show 4 + 3 + 10 * 20 < cLine; decide, rfl⟩
  have inv : Inv C (topFm s.heap fd.qualname fd.scope fa fd.code) (fun _ => none) (fun x => if x = p then some (er v) else none) { s with heap := h₁, toks := tk } := by
    have hpl : (topFm s.heap fd.qualname fd.scope fa fd.code).env.kindOf p = some .local := hp
    refine ⟨⟨_, ⟨x.toInCall.ns, fun b o e => hkeep b o (hb ▸ e), by rw [hb]; exact Nat.le_refl _⟩, fun y hy => ?_⟩, fun b o e => ⟨o.slots, hkeep b o e, fun _ => rfl⟩, fun y c hy hc => ?_, fun a o e => (by cases e), hg, hos.symm⟩
    · show (bindL _ [(p, v)] (fun _ => none) y).map er = _
      unfold bindL bindL
      rw [if_pos hpl]
      dsimp only
      by_cases e : y = p
      · rw [if_pos e, if_pos e]; rfl
      · rw [if_neg e, if_neg e]; rfl
    · obtain ⟨oc, e1, e2⟩ := x.cell y c hc
      refine ⟨Nat.ne_of_gt (x.above y c (mem_of_lookup hc)), rfl, oc, _, e1, e2, ?_⟩
      unfold bindC bindC
      rw [if_pos hpl]
      have : y ≠ p := fun z => by rw [z] at hy; exact hy hpl
      rw [if_neg this]; rfl
  refine (h (topFm s.heap fd.qualname fd.scope fa fd.code) rfl rfl rfl ok _ ar hfr).use inv (fun fl s' σ' ρ' i q => ?_) fun ea cls s' σ' ρ' y q => q.elim
  obtain ⟨m, f, _⟩ := i.loc
  have hr : ∀ r : Value, er r = .bool true → r = .bool true := fun r e => er_bool_inv e
  cases fl with
  | ret r => exact ⟨hr r q, f.keep, i.os, i.gens⟩
  | next => cases q
  | brk => cases q
  | cont => cases q
end Mine
end
/- part L02d -/
section
open PySem PySem.W PySem.Spec PySem.Calls PyProof.Rows
set_option Elab.async false
set_option maxRecDepth 100000
set_option maxHeartbeats 4000000
set_option linter.all false
namespace Mine
local macro_rules | `(tactic| walk_at "fb_enter") => `(tactic| (
  (case ho => k_is)
  (case hcd => k_is)
  (case hcell => decide)
  (case hco => rfl)
  (case hgen => rfl)
  (case hk => rfl)
  (case hloc => simp [lk_cons])))
local macro_rules | `(tactic| walk_at "op") => `(tactic| first | rfl | exact pbin_mulr (by decide) | exact pbin_mull (by decide))
local macro_rules | `(tactic| walk_at "sc") => `(tactic| first | (simp only [lk_cons, String.reduceEq, if_true, if_false, reduceCtorEq]; done) | rfl)
local macro_rules | `(tactic| walk_at "tab") => `(tactic| first | assumption | rfl | (simp [S2, gL, bL, slL, tlL, saL, tab_cons, tab, String.reduceEq, lk_cons, put_at]; done))
local macro_rules | `(tactic| walk_at "lo") => `(tactic| first | assumption | rfl | (rw [put_at, if_pos rfl]) | (rw [put_at, if_neg (by decide)]; walk_at "lo") | (simp [lk_cons, put_at]; done))
local macro_rules | `(tactic| walk_at "fd") => `(tactic| first | assumption | exact Hp.put_self _ _ _ | (refine (Hp.put_ne _ _ ?n).trans ?g; (case n => first | assumption | exact Ne.symm (by assumption)); (case g => walk_at "fd")))
local macro_rules | `(tactic| walk_at "at") => `(tactic| first
  | (refine' pattr_slot ?f ?g ?h ?k; (case f => walk_at "fd"); (case g => walk_at "tab"); (case h => first | assumption | rfl); (case k => rfl))
  | (refine' pattr_sat ?f ?g; (case f => exact KN.at (by assumption) (by decide)); (case g => walk_at "tab")))
local macro_rules | `(tactic| walk_at "le") => `(tactic| first | (refine' plen_ba ?f; (case f => walk_at "fd")) | (refine' plen_list ?f; (case f => walk_at "fd")) | (refine' plen_bytes ?f; (case f => simp; omega)))
local macro_rules | `(tactic| walk_at "ev") => `(tactic| first
  | (refine' pe_con ?g; (case g => rfl))
  | (refine' pe_loc ?n ?g ?h; (case n => decide); (case g => walk_at "sc"); (case h => walk_at "lo"))
  | (refine' pe_glob ?n ?g ?h; (case n => decide); (case g => walk_at "sc"); (case h => walk_at "tab"))
  | (refine' pe_attr ?n ?g ?h; (case n => rfl); (case g => walk_at "ev"); (case h => walk_at "at"))
  | (refine' pe_len ?n ?f ?g ?h; (case n => rfl); (case f => walk_at "ev"); (case g => walk_at "ev"); (case h => walk_at "le"))
  | (refine' pe_bin ?f ?g ?h; (case f => walk_at "ev"); (case g => walk_at "ev"); (case h => walk_at "op"))
  | (refine' pe_una ?f ?h; (case f => walk_at "ev"); (case h => rfl))
  | (refine' pe_cmp ?n ?f ?g ?h; (case n => rfl); (case f => walk_at "ev"); (case g => walk_at "ev"); (case h => rfl)))
local macro_rules | `(tactic| walk_at "te") => `(tactic| first
  | (refine' pt_cmp ?g ?h; (case g => walk_at "ev"); (case h => rfl))
  | (refine' pt_not ?g ?h; (case g => walk_at "te"); (case h => rfl))
  | (refine' pt_chain ?n ?f ?g ?h ?k1 ?k2 ?k3 ?k4 ?k5; (case n => rfl); (case f => walk_at "ev"); (case g => walk_at "ev"); (case h => walk_at "ev"); (case k1 => rfl); (case k2 => rfl); (case k3 => rfl); (case k4 => rfl); (case k5 => rfl))
  | (refine' pt_and ?f ?g ?h; (case f => walk_at "te"); (case g => walk_at "te"); (case h => rfl))
  | (refine' pt_or ?f ?g ?h; (case f => walk_at "te"); (case g => walk_at "te"); (case h => rfl))
  | (refine' pt_name ?g ?h; (case g => walk_at "ev"); (case h => rfl))
  | (refine' pt_attr ?g ?h; (case g => walk_at "ev"); (case h => rfl))
  | (refine' pt_bin ?g ?h; (case g => walk_at "ev"); (case h => rfl)))
local macro_rules | `(tactic| walk_at "EV") => `(tactic| (rw [‹Fm.sc _ = _›]; walk_at "ev"))
local macro_rules | `(tactic| walk_at "TE") => `(tactic| (rw [‹Fm.sc _ = _›]; walk_at "te"))
local macro_rules | `(tactic| walk_at "SC") => `(tactic| (rw [‹Fm.sc _ = _›]; walk_at "sc"))
local macro_rules | `(tactic| walk_at "SW") => `(tactic| (intro _; rfl))
local macro_rules | `(tactic| walk_at "let") => `(tactic| (refine' W_cons (W_Let (by assumption) (by assumption) ?k ?s (fun hn => ?h) rfl ?q); (case k => walk_at "SC"); (case s => walk_at "SW"); (case h => walk_at "EV"); dsimp only))
local macro_rules | `(tactic| walk_at "iv") => `(tactic| first | rfl | (congr 1; omega))
variable {C : Cx} {F : Fm} {A : Around} {σ : Hp} {ρ : Loc} {X : Value → Hp → Loc → Prop} {d : Nat} {Q : Value → Hp → Loc → Prop} {a b : Addr} {B : Bd} {ov : Value}
theorem grown_len (bs : List UInt8) : (grown bs).length = bs.length + (if bs.length = 0 then 1 else bs.length) := by
  unfold grown
  by_cases h : bs.length = 0
  · rw [if_pos h, if_pos h, h]; rfl
  · rw [if_neg h, if_neg h]; simp
theorem grown_drop {bs live : List UInt8} (h : live.length ≤ bs.length) (hd : bs.drop (bs.length - live.length) = live) : (grown bs).drop ((grown bs).length - live.length) = live := by
  rw [grown_len]
  unfold grown
  by_cases z : bs.length = 0
  · have : live = [] := List.length_eq_zero_iff.mp (by omega)
    subst this
    rw [if_pos z, if_pos z, z]; rfl
  · rw [if_neg z, if_neg z, List.drop_append, List.drop_of_length_le (by simp; omega), List.length_replicate, List.nil_append]
    rw [show bs.length + bs.length - live.length - bs.length = bs.length - live.length by omega]
    exact hd
/-- Prep -/
theorem w_Prep (l : L2 C) (ok : F.Ok C) (ar : Ar F A (d + 2)) (hov : er ov = .ref b) {zv nv : Value} {size add : Nat} (hzv : er zv = .int size 0) (hnv : er nv = .int add 0) (h : BS σ b a B) (hs : PA size) (hm : B.live.length + padOf size (B.live.length + add) + size + add ≤ 1048576)
    (q : ∀ σ' a', BS σ' b a' (prepB B size add) → Keep σ σ' b a a' → Q .none σ' ρ) : W C F A (call (.ref 418) [ov, zv, nv] []) σ ρ Q X := by
  refine' call2 [("self", .ref b), ("size", .int size 0), ("additionalBytes", .int add 0)] l ok ar ?ho ?hcd ?hbind ?hloc ?hcell ?hco ?hgen ?hk ?h
  walk_at "fb_enter"
  case hbind => exact ⟨[("self", ov), ("size", zv), ("additionalBytes", nv)], fun s _ => BindsTo.of_eq rfl, by simp [hov, hzv, hnv]⟩
  intro F' A' ok' ar' hsc
  have hne := h.ne
  have hz1 : 1 ≤ size := by rcases hs with rfl | rfl | rfl | rfl <;> decide
  have hz8 : size ≤ 8 := by rcases hs with rfl | rfl | rfl | rfl <;> decide
  -- minalign
  refine' W_cons (W.mono (Q := fun fl σ₁ ρ₁ => fl = Flow.next ∧ BS σ₁ b a { B with ma := if B.ma < size then size else B.ma } ∧ Keep σ σ₁ b a a ∧ ρ₁ (Str.ofString "self") = some (.ref b) ∧ ρ₁ (Str.ofString "size") = some (.int size 0) ∧ ρ₁ (Str.ofString "additionalBytes") = some (.int add 0)) ?iff ?cont (fun _ _ _ x => x))
  case iff =>
    have h₀ := h
    obtain ⟨dx, bs, hb, ha, h1, h2, h3⟩ := h
    refine' W_If' (b' := decide (B.ma < size)) l ok' (fun hn => ?t2) ?u2 (fun z => ?zy2) (fun z => ?zn2)
    case t2 => (rw [hsc]; walk_at "te")
    case u2 => rfl
    case zy2 =>
      have hz : B.ma < size := by simpa using z
      refine' W_cons (W_Set (i := 5) l ok' ?he (W_pe' l ok' (fun hn => ?h1b) rfl ⟨fun hn => ?h2b, ?h3b, ?h4b, ?h5b, W_nil ⟨rfl, bs_intro (Hp.put_self _ _ _) ((Hp.put_ne _ _ hne).trans ha) ?g1 h1 h2 h3, .one, ?g2, ?g3, ?g4⟩⟩))
      case he => (intro env; rfl)
      case h1b => (rw [hsc]; walk_at "ev")
      case h2b => (rw [hsc]; walk_at "ev")
      case h3b => walk_at "fd"
      case h4b => decide
      case h5b => exact Nat.le_of_ble_eq_true rfl
      case g1 => simp [slots, hz]
      case g2 => walk_at "lo"
      case g3 => walk_at "lo"
      case g4 => walk_at "lo"
    case zn2 =>
      have hz : ¬ B.ma < size := by simpa using z
      refine W_nil ⟨rfl, ?_, .refl, ?_, ?_, ?_⟩
      · rw [if_neg hz]; exact h₀
      · walk_at "lo"
      · walk_at "lo"
      · walk_at "lo"
  rintro fl σ₁ ρ₁ ⟨rfl, hB, hK, r1, r2, r3⟩
  clear h
  generalize hB1 : ({ B with ma := if B.ma < size then size else B.ma } : Bd) = B1 at hB
  have hlive : B1.live = B.live := by rw [← hB1]
  obtain ⟨dx, bs, hb, ha, h1, h2, h3⟩ := hB
  rw [hlive] at h1 h2
  dsimp only
  walk_at "let"
  walk_at "let"
  refine' W_cons (W_Let (v' := .int (-((B.live.length + add : Nat) : Int)) 0) l ok' ?p1k ?p1s (fun hn => ?p1h) ?p1v ?p1q)
  case p1k => walk_at "SC"
  case p1s => walk_at "SW"
  case p1h => walk_at "EV"
  case p1v => (congr 1; unfold Builtin.bitNot; rw [hlive]; omega)
  dsimp only
  refine' W_cons (W_Aug (v' := .int (padOf size (B.live.length + add) : Nat) 0) l ok' ?p2k ?p2a (fun hn => ?p2h) ?p2p ?p2v rfl ?p2q)
  case p2k => walk_at "SC"
  case p2a => walk_at "lo"
  case p2h => walk_at "EV"
  case p2p => rfl
  case p2v => (congr 1; exact pad_bits hs _)
  dsimp only
  generalize hal : padOf size (B.live.length + add) = al
  rw [hal] at hm
  refine' W_cons (W_Let (v' := .int ((al + size + add : Nat) : Int) 0) l ok' ?p3k ?p3s (fun hn => ?p3h) ?p3v ?p3q)
  case p3k => walk_at "SC"
  case p3s => walk_at "SW"
  case p3h => walk_at "EV"
  case p3v => (congr 1 <;> omega)
  dsimp only
  -- the loop
  let Inv0 : Nat → Hp → Loc → Prop := fun n σ₂ ρ₂ => ∃ a' bs', σ₂ b = some (.inst 734 dx ((slots B1 a bs.length).set 0 (some (.ref a')))) ∧ σ₂ a' = some (.ba bs') ∧ Keep σ₁ σ₂ b a a' ∧ B.live.length ≤ bs'.length ∧ bs'.length ≤ 8388608 ∧
    bs'.drop (bs'.length - B.live.length) = B.live ∧ n = 8388609 - bs'.length ∧ ρ₂ (Str.ofString "self") = some (.ref b) ∧ ρ₂ (Str.ofString "head") = some (.int ((bs'.length : Int) - B.live.length) 0) ∧ ρ₂ (Str.ofString "buf_len") = some (.int bs'.length 0) ∧
    ρ₂ (Str.ofString "needed") = some (.int ((al + size + add : Nat) : Int) 0) ∧ ρ₂ (Str.ofString "alignSize") = some (.int (al : Nat) 0)
  refine' W_cons (W.mono (Q := fun fl σ₂ ρ₂ => fl = Flow.next ∧ ∃ n, Inv0 n σ₂ ρ₂ ∧ ∀ h : Int, ρ₂ (Str.ofString "head") = some (.int h 0) → ((al + size + add : Nat) : Int) ≤ h) (W_While ok' ar'.frames Inv0 ?turn (8388609 - bs.length) ?start) ?behind (fun _ _ _ x => x))
  case start =>
    refine ⟨a, bs, ?_, ha, .refl, by omega, h3, h2, rfl, ?_, ?_, ?_, ?_, ?_⟩
    · exact hb
    · walk_at "lo"
    · rw [← hlive]; first | done | walk_at "lo"
    · walk_at "lo"
    · walk_at "lo"
    · walk_at "lo"
  case turn =>
    rintro n σ₂ ρ₂ ⟨a', bs', i1, i2, i3, i4, i5, i6, i7, j1, j2, j3, j4, j5⟩
    refine' W_test (v' := decide ((bs'.length : Int) - B.live.length < ((al + size + add : Nat) : Int))) l ok' (fun hn => ?t1) ?t2 ?t3
    case t1 => walk_at "TE"
    case t2 => rfl
    by_cases hlt : (bs'.length : Int) - B.live.length < ((al + size + add : Nat) : Int)
    · rw [if_pos (decide_eq_true hlt)]
      walk_at "let"
      refine' W_cons (W_Do ok' ?g0 (W_CallMP (x := "GrowByteBuffer") (f := 390) (args := []) l ok' (fun hn => ?g1) i1 (by decide) rfl ?g2 (fun hn => trivial) fun ov' vs e1 e2 => ?g3))
      case g0 => walk_at "SW"
      case g1 => walk_at "EV"
      case g2 => walk_at "SW"
      have := List.map_eq_nil_iff.mp e2; subst this
      refine w_Grow l ok' ar' e1 i1 rfl (Nat.le_of_ble_eq_true rfl) i2 (by omega) fun a2 na2 => ?_
      have n1 : a2 ≠ b := fun e => by rw [e, i1] at na2; cases na2
      have n2 : a2 ≠ a' := fun e => by rw [e, i2] at na2; cases na2
      dsimp only
      walk_at "let"
      refine' W_cons (W_Aug (v' := .int (((grown bs').length : Int) - B.live.length) 0) l ok' ?g4 ?g5 (fun hn => ?g6) ?g7 ?g8 rfl (W_nil ?g9))
      case g4 => walk_at "SC"
      case g5 => walk_at "lo"
      case g6 => walk_at "EV"
      case g7 => rfl
      case g8 => (congr 1; omega)
      have gl := grown_len bs'
      refine ⟨8388609 - (grown bs').length, ?_, a2, grown bs', ?_, ?_, ?_, ?_, ?_, grown_drop i4 i6, rfl, ?_, ?_, ?_, ?_, ?_⟩
      · split at gl <;> omega
      · rw [Hp.put_self, List.set_set]
      · walk_at "fd"
      · refine ⟨fun x o e z1 z2 => ?_, ?_⟩
        · have := i3.old x o e z1 z2
          rw [Hp.put_ne _ _ z1, Hp.put_ne _ _ (fun e => by rw [e, na2] at this; cases this)]
          exact this
        · by_cases z : a2 = a
          · exact .inl z
          · right
            cases z' : σ₁ a2 with
            | none => rfl
            | some o => have := i3.old _ _ z' n1 z; rw [na2] at this; cases this
      · split at gl <;> omega
      · split at gl <;> omega
      · walk_at "lo"
      · walk_at "lo"
      · walk_at "lo"
      · walk_at "lo"
      · walk_at "lo"
    · rw [if_neg (by simpa using hlt)]
      refine ⟨rfl, n, ⟨a', bs', i1, i2, i3, i4, i5, i6, i7, j1, j2, j3, j4, j5⟩, fun h e => ?_⟩
      rw [j2] at e; cases e; omega
  rintro fl σ₂ ρ₂ ⟨rfl, n, ⟨a', bs', i1, i2, i3, i4, i5, i6, i7, j1, j2, j3, j4, j5⟩, hge⟩
  have hge := hge _ j2
  dsimp only
  have hne2 : a' ≠ b := fun e => by rw [e, i1] at i2; cases i2
  refine' W_cons (W_Set (i := 4) l ok' ?s1 (W_pe' l ok' (fun hn => ?s2) rfl ⟨fun hn => ?s3, ?s4, ?s5, ?s6, ?s7⟩))
  case s1 => walk_at "SW"
  case s2 => walk_at "EV"
  case s3 => walk_at "EV"
  case s4 => walk_at "fd"
  case s5 => decide
  case s6 => exact Nat.le_of_ble_eq_true rfl
  dsimp only
  have hBS : BS (σ₂.put b (.inst 734 dx (((slots B1 a bs.length).set 0 (some (.ref a'))).set 4 (some (.int ((bs'.length : Int) - B.live.length) 0))))) b a' { B1 with room := al + size + add } := by
    refine bs_intro (Hp.put_self _ _ _) ((Hp.put_ne _ _ hne2).trans i2) ?_ ?_ ?_ i5
    · rw [← hlive]; rfl
    · show B1.live.length + (al + size + add) ≤ _
      rw [hlive]; omega
    · show bs'.drop (bs'.length - B1.live.length) = B1.live
      rw [hlive]; exact i6
  have hK2 : Keep σ (σ₂.put b (.inst 734 dx (((slots B1 a bs.length).set 0 (some (.ref a'))).set 4 (some (.int ((bs'.length : Int) - B.live.length) 0))))) b a a' :=
    (hK.trans i3 (by rw [hb]; rfl) hne2).trans .one (by rw [i1]; rfl) hne2
  have hbb := hBS
  obtain ⟨dx3, bs3, hb3, _⟩ := hbb
  refine' W_cons (W_Do ok' ?wg0 (W_CallMP (x := "Pad") (f := 411) (args := [.int (al : Nat) 0]) l ok' (fun hn => ?wg1) hb3 (by decide) rfl ?wg2 (fun hn => ⟨?wg4, trivial⟩) fun ov' vs e1 e2 => ?wg3))
  case wg0 => walk_at "SW"
  case wg1 => walk_at "EV"
  case wg2 => walk_at "SW"
  case wg4 => walk_at "EV"
  obtain ⟨v, rfl, e3⟩ := one_of e2
  refine w_Pad l ok' ar' e1 e3 hBS (by show al ≤ al + size + add; omega) (by omega) fun σ' hS hKp => ?_
  refine W_nil ?_
  refine q σ' a' ?_ (hK2.trans hKp (by rw [hb3]; rfl) hne2)
  have e : prepB B size add = { B1 with live := List.replicate al 0 ++ B1.live, room := al + size + add - al } := by
    rw [← hB1]
    unfold prepB
    rw [hal, show al + size + add - al = size + add by omega]
  rw [e]
  exact hS

end Mine
end
/- part L02e -/
section
open PySem PySem.W PySem.Spec PySem.Calls PyProof.Rows
set_option Elab.async false
set_option maxRecDepth 100000
set_option maxHeartbeats 4000000
set_option linter.all false
namespace Mine
local macro_rules | `(tactic| walk_at "fb_enter") => `(tactic| (
  (case ho => k_is)
  (case hcd => k_is)
  (case hcell => decide)
  (case hco => rfl)
  (case hgen => rfl)
  (case hk => rfl)
  (case hloc => simp [lk_cons])))
local macro_rules | `(tactic| walk_at "op") => `(tactic| first | rfl | exact pbin_mulr (by decide) | exact pbin_mull (by decide))
local macro_rules | `(tactic| walk_at "sc") => `(tactic| first | (simp only [lk_cons, String.reduceEq, if_true, if_false, reduceCtorEq]; done) | rfl)
local macro_rules | `(tactic| walk_at "tab") => `(tactic| first | assumption | rfl | (simp [S2, gL, bL, slL, tlL, saL, tab_cons, tab, String.reduceEq, lk_cons, put_at]; done))
local macro_rules | `(tactic| walk_at "lo") => `(tactic| first | assumption | rfl | (rw [put_at, if_pos rfl]) | (rw [put_at, if_neg (by decide)]; walk_at "lo") | (simp [lk_cons, put_at]; done))
local macro_rules | `(tactic| walk_at "fd") => `(tactic| first | assumption | exact Hp.put_self _ _ _ | (refine (Hp.put_ne _ _ ?n).trans ?g; (case n => first | assumption | exact Ne.symm (by assumption)); (case g => walk_at "fd")))
local macro_rules | `(tactic| walk_at "at") => `(tactic| first
  | (refine' pattr_slot ?f ?g ?h ?k; (case f => walk_at "fd"); (case g => walk_at "tab"); (case h => first | assumption | rfl); (case k => rfl))
  | (refine' pattr_sat ?f ?g; (case f => exact KN.at (by assumption) (by first | assumption | decide)); (case g => walk_at "tab")))
local macro_rules | `(tactic| walk_at "le") => `(tactic| first | (refine' plen_ba ?f; (case f => walk_at "fd")) | (refine' plen_list ?f; (case f => walk_at "fd")) | (refine' plen_bytes ?f; (case f => simp; omega)))
local macro_rules | `(tactic| walk_at "ev") => `(tactic| first
  | (refine' pe_con ?g; (case g => rfl))
  | (refine' pe_loc ?n ?g ?h; (case n => decide); (case g => walk_at "sc"); (case h => walk_at "lo"))
  | (refine' pe_glob ?n ?g ?h; (case n => decide); (case g => walk_at "sc"); (case h => walk_at "tab"))
  | (refine' pe_attr ?n ?g ?h; (case n => rfl); (case g => walk_at "ev"); (case h => walk_at "at"))
  | (refine' pe_len ?n ?f ?g ?h; (case n => rfl); (case f => walk_at "ev"); (case g => walk_at "ev"); (case h => walk_at "le"))
  | (refine' pe_bin ?f ?g ?h; (case f => walk_at "ev"); (case g => walk_at "ev"); (case h => walk_at "op"))
  | (refine' pe_una ?f ?h; (case f => walk_at "ev"); (case h => rfl))
  | (refine' pe_cmp ?n ?f ?g ?h; (case n => rfl); (case f => walk_at "ev"); (case g => walk_at "ev"); (case h => rfl)))
local macro_rules | `(tactic| walk_at "te") => `(tactic| first
  | (refine' pt_cmp ?g ?h; (case g => walk_at "ev"); (case h => rfl))
  | (refine' pt_not ?g ?h; (case g => walk_at "te"); (case h => rfl))
  | (refine' pt_chain ?n ?f ?g ?h ?k1 ?k2 ?k3 ?k4 ?k5; (case n => rfl); (case f => walk_at "ev"); (case g => walk_at "ev"); (case h => walk_at "ev"); (case k1 => rfl); (case k2 => rfl); (case k3 => rfl); (case k4 => rfl); (case k5 => rfl))
  | (refine' pt_and ?f ?g ?h; (case f => walk_at "te"); (case g => walk_at "te"); (case h => rfl))
  | (refine' pt_or ?f ?g ?h; (case f => walk_at "te"); (case g => walk_at "te"); (case h => rfl))
  | (refine' pt_name ?g ?h; (case g => walk_at "ev"); (case h => rfl))
  | (refine' pt_attr ?g ?h; (case g => walk_at "ev"); (case h => rfl))
  | (refine' pt_bin ?g ?h; (case g => walk_at "ev"); (case h => rfl)))
local macro_rules | `(tactic| walk_at "EV") => `(tactic| (rw [‹Fm.sc _ = _›]; walk_at "ev"))
local macro_rules | `(tactic| walk_at "TE") => `(tactic| (rw [‹Fm.sc _ = _›]; walk_at "te"))
local macro_rules | `(tactic| walk_at "SC") => `(tactic| (rw [‹Fm.sc _ = _›]; walk_at "sc"))
local macro_rules | `(tactic| walk_at "SW") => `(tactic| (intro _; rfl))
local macro_rules | `(tactic| walk_at "let") => `(tactic| (refine' W_cons (W_Let (by assumption) (by assumption) ?k ?s (fun hn => ?h) rfl ?q); (case k => walk_at "SC"); (case s => walk_at "SW"); (case h => walk_at "EV"); dsimp only))
local macro_rules | `(tactic| walk_at "iv") => `(tactic| first | rfl | (congr 1; omega))
variable {C : Cx} {F : Fm} {A : Around} {σ : Hp} {ρ : Loc} {X : Value → Hp → Loc → Prop} {d : Nat} {Q : Value → Hp → Loc → Prop} {a b : Addr} {B : Bd} {ov : Value}
/-- what a flags class tells -/
structure FL (C : Cx) (f : Addr) (c : Char) (k : Nat) (st : Addr) : Prop where
  mem : f ∈ asL
  min : S2.sat f (Str.ofString "min_val") = some (.int (loOf c k) 0)
  max : S2.sat f (Str.ofString "max_val") = some (.int (hiOf c k) 0)
  bw : S2.sat f (Str.ofString "bytewidth") = some (.int k 0)
  pk : S2.sat f (Str.ofString "packer_type") = some (.ref st)
structure ST (C : Cx) (st : Addr) (c : Char) (k : Nat) : Prop where
  ic : IntC c
  at_ : ∃ fmt tk, C.K.lookup st = some (stObj fmt tk) ∧ Builtin.Struct.parse fmt = pure (fmt1 c k)
  pos : 1 ≤ k
theorem four_of {vs : List Value} {x y z w : Value} (h : vs.map er = [x, y, z, w]) : ∃ a b c d, vs = [a, b, c, d] ∧ er a = x ∧ er b = y ∧ er c = z ∧ er d = w := by
  match vs, h with
  | [a, b, c, d], h => simp at h; exact ⟨a, b, c, d, rfl, h.1, h.2.1, h.2.2.1, h.2.2.2⟩
theorem st50 (l : L2 C) : ST C 50 'B' 1 := ⟨.inl rfl, by rw [l.k]; refine' ⟨_, _, ?x, ?y⟩; (case x => rfl); (case y => exact parse_B), by decide⟩
theorem st51 (l : L2 C) : ST C 51 'H' 2 := ⟨.inr (.inl rfl), by rw [l.k]; refine' ⟨_, _, ?x, ?y⟩; (case x => rfl); (case y => exact parse_H), by decide⟩
theorem st52 (l : L2 C) : ST C 52 'I' 4 := ⟨.inr (.inr (.inl rfl)), by rw [l.k]; refine' ⟨_, _, ?x, ?y⟩; (case x => rfl); (case y => exact parse_I), by decide⟩
theorem st53 (l : L2 C) : ST C 53 'i' 4 := ⟨.inr (.inr (.inr (.inl rfl))), by rw [l.k]; refine' ⟨_, _, ?x, ?y⟩; (case x => rfl); (case y => exact parse_i), by decide⟩
theorem fl63 : FL C 63 'B' 1 50 := ⟨by decide, rfl, rfl, rfl, rfl⟩
theorem fl77 : FL C 77 'H' 2 51 := ⟨by decide, rfl, rfl, rfl, rfl⟩
theorem fl91 : FL C 91 'I' 4 52 := ⟨by decide, rfl, rfl, rfl, rfl⟩
theorem fl105 : FL C 105 'i' 4 53 := ⟨by decide, rfl, rfl, rfl, rfl⟩
theorem fl119 : FL C 119 'i' 4 53 := ⟨by decide, rfl, rfl, rfl, rfl⟩
theorem fl131 : FL C 131 'I' 4 52 := ⟨by decide, rfl, rfl, rfl, rfl⟩
theorem fl143 : FL C 143 'H' 2 51 := ⟨by decide, rfl, rfl, rfl, rfl⟩
/-- enforce_number, within the bounds -/
theorem w_enf (l : L2 C) (ok : F.Ok C) (ar : Ar F A (d + 1)) {nv fv : Value} {n : Int} {f : Addr} {lo hi : Int} (hnv : er nv = .int n 0) (hfv : er fv = .ref f) (hf : f ∈ asL) (f1 : S2.sat f (Str.ofString "min_val") = some (.int lo 0)) (f2 : S2.sat f (Str.ofString "max_val") = some (.int hi 0))
    (h1 : lo ≤ n) (h2 : n ≤ hi) (q : Q .none σ ρ) : W C F A (call (.ref 152) [nv, fv] []) σ ρ Q X := by
  refine' call2 [("n", .int n 0), ("flags", .ref f)] l ok ar ?ho ?hcd ?hbind ?hloc ?hcell ?hco ?hgen ?hk ?h
  walk_at "fb_enter"
  case hbind => exact ⟨[("n", nv), ("flags", fv)], fun s _ => BindsTo.of_eq rfl, by simp [hnv, hfv]⟩
  intro F' A' ok' ar' hsc
  refine' W_cons (W_If' (b' := false) l ok' (fun hn => ?t) ?u (fun z => ?zy) (fun z => ?zn))
  case t => walk_at "TE"
  case u => rfl
  case zy => cases z
  refine W_nil ?_
  refine' W_cons (W_If' (b' := false) l ok' (fun hn => ?t2) ?u2 (fun z => ?zy2) (fun z => ?zn2))
  case t2 => walk_at "TE"
  case u2 => simp [h1, h2]
  case zy2 => cases z
  exact W_nil (W_nil q)
theorem gm_st (co : C.Ok) {st : Addr} {c : Char} {k : Nat} (h : ST C st c k) : GM C F A σ ρ (.ref st) (Str.ofString "pack_into") (.builtin "_struct.Struct.pack_into") true := by
  obtain ⟨fmt, tk, h1, _⟩ := h.at_
  exact gm_struct co h1 B.slot_pack B.ty_pack
theorem gm_su (co : C.Ok) {st : Addr} {c : Char} {k : Nat} (h : ST C st c k) : GM C F A σ ρ (.ref st) (Str.ofString "unpack_from") (.builtin "_struct.Struct.unpack_from") true := by
  obtain ⟨fmt, tk, h1, _⟩ := h.at_
  exact gm_struct co h1 B.slot_unpack B.ty_unpack
/-- Write -/
theorem w_Write (l : L2 C) (ok : F.Ok C) (ar : Ar F A (d + 1)) {pv bv hv nv : Value} {st : Addr} {c : Char} {k p : Nat} {off n : Int} {bs : List UInt8} (hS : ST C st c k) (e1 : er pv = .ref st) (e2 : er bv = .ref a) (e3 : er hv = .int off 0) (e4 : er nv = .int n 0)
    (ha : σ a = some (.ba bs)) (ho : off = p) (hp : p + k ≤ bs.length) (h1 : loOf c k ≤ n) (h2 : n ≤ hiOf c k) (q : Q .none (σ.put a (.ba (bs.take p ++ le k (wrap k n) ++ bs.drop (p + k)))) ρ) : W C F A (call (.ref 166) [pv, bv, hv, nv] []) σ ρ Q X := by
  refine' call2 [("packer_type", .ref st), ("buf", .ref a), ("head", .int off 0), ("n", .int n 0)] l ok ar ?ho ?hcd ?hbind ?hloc ?hcell ?hco ?hgen ?hk ?h
  walk_at "fb_enter"
  case hbind => exact ⟨[("packer_type", pv), ("buf", bv), ("head", hv), ("n", nv)], fun s _ => BindsTo.of_eq rfl, by simp [e1, e2, e3, e4]⟩
  intro F' A' ok' ar' hsc
  obtain ⟨fmt, tk, g1, g2⟩ := hS.at_
  refine' W_cons (W_Do ok' ?g0 (W_kn2 l ok' fun hn => W_CallA (ov := .ref st) ok' l.ok (S2_ok l) ?x1 (gm_st l.ok hS) keeps_builtin rfl (fun ov' hov => W_argsP (vs := [.ref a, .int off 0, .int n 0]) l ok' (fun hn => ⟨?x2, ?x3, ?x4, trivial⟩) fun vs hvs => ?x5) ?x6))
  case g0 => walk_at "SW"
  case x1 => walk_at "EV"
  case x2 => walk_at "EV"
  case x3 => walk_at "EV"
  case x4 => walk_at "EV"
  case x6 => rfl
  exact W_pack l.ok ok' hS.ic g1 g2 hov hvs ha ho hp h1 h2 (W_nil q)
def placeB (B : Bd) (k : Nat) (n : Int) : Bd := { B with live := le k (wrap k n) ++ B.live, room := B.room - k }
theorem place_end {dx : Addr} {bs : List UInt8} {k : Nat} {n : Int} (hne : a ≠ b) (hb : σ b = some (.inst 734 dx (slots B a bs.length))) (h1 : B.live.length + B.room ≤ bs.length) (h2 : bs.drop (bs.length - B.live.length) = B.live) (h3 : bs.length ≤ 8388608) (hk : k ≤ B.room) :
    BS ((σ.put b (.inst 734 dx ((slots B a bs.length).set 4 (some (.int ((bs.length : Int) - B.live.length - k) 0))))).put a (.ba (bs.take (bs.length - B.live.length - k) ++ le k (wrap k n) ++ bs.drop (bs.length - B.live.length - k + k)))) b a (placeB B k n) ∧
    Keep σ ((σ.put b (.inst 734 dx ((slots B a bs.length).set 4 (some (.int ((bs.length : Int) - B.live.length - k) 0))))).put a (.ba (bs.take (bs.length - B.live.length - k) ++ le k (wrap k n) ++ bs.drop (bs.length - B.live.length - k + k)))) b a a := by
  have hl := le_length k (wrap k n)
  have e0 : bs.length - B.live.length - k + k = bs.length - B.live.length := by omega
  have e1 : (bs.take (bs.length - B.live.length - k) ++ le k (wrap k n) ++ bs.drop (bs.length - B.live.length - k + k)).length = bs.length := by simp [hl]; omega
  refine ⟨bs_intro ((Hp.put_ne _ _ (Ne.symm hne)).trans (Hp.put_self _ _ _)) (Hp.put_self _ _ _) ?_ ?_ ?_ (by omega), ⟨fun x w e z1 z2 => by rw [Hp.put_ne _ _ z2, Hp.put_ne _ _ z1]; exact e, .inl rfl⟩⟩
  · rw [e1]; simp [slots, placeB, hl]; omega
  · rw [e1]; simp [placeB, hl]; omega
  · rw [e1, e0]
    have := cut_live (x := le k (wrap k n)) h2 (by omega) (by omega)
    rw [hl] at this
    show List.drop (bs.length - (le k (wrap k n) ++ B.live).length) _ = le k (wrap k n) ++ B.live
    rw [List.length_append, hl]
    exact this
/-- Place -/
theorem w_Place (l : L2 C) (ok : F.Ok C) (ar : Ar F A (d + 2)) (hov : er ov = .ref b) {xv fv : Value} {n : Int} {f st : Addr} {c : Char} {k : Nat} (hx : er xv = .int n 0) (hf : er fv = .ref f) (fl : FL C f c k st) (hS : ST C st c k) (h : BS σ b a B) (h1 : loOf c k ≤ n) (h2 : n ≤ hiOf c k) (hk : k ≤ B.room)
    (q : ∀ σ', BS σ' b a (placeB B k n) → Keep σ σ' b a a → Q .none σ' ρ) : W C F A (call (.ref 709) [ov, xv, fv] []) σ ρ Q X := by
  have hne := h.ne
  obtain ⟨dx, bs, hb, ha, g1, g2, g3⟩ := h
  obtain ⟨fm, fmin, fmax, fbw, fpk⟩ := fl
  refine' call2 [("self", .ref b), ("x", .int n 0), ("flags", .ref f)] l ok ar ?ho ?hcd ?hbind ?hloc ?hcell ?hco ?hgen ?hk ?h
  walk_at "fb_enter"
  case hbind => exact ⟨[("self", ov), ("x", xv), ("flags", fv)], fun s _ => BindsTo.of_eq rfl, by simp [hov, hx, hf]⟩
  intro F' A' ok' ar' hsc
  refine' W_cons (W_Do ok' ?x0 (W_CallNP (args := [.int n 0, .ref f]) l ok' (fun hn => ?x1) ?x2 (fn2 l (f := 152) (by decide)) rfl ?x3 (fun hn => ⟨?x4, ?x5, trivial⟩) fun vs hvs => ?x6))
  case x0 => walk_at "SW"
  case x1 => walk_at "EV"
  case x2 => (intro v hv; exact er_ref_inv hv)
  case x3 => walk_at "SW"
  case x4 => walk_at "EV"
  case x5 => walk_at "EV"
  obtain ⟨v1, v2, rfl, y1, y2⟩ := two_of hvs
  refine w_enf l ok' ar' y1 y2 fm fmin fmax h1 h2 ?_
  dsimp only
  walk_at "let"
  refine' W_cons (W_Set (i := 4) l ok' ?s1 (W_pe' l ok' (fun hn => ?s2) rfl ⟨fun hn => ?s3, ?s4, ?s5, ?s6, ?s7⟩))
  case s1 => walk_at "SW"
  case s2 => walk_at "EV"
  case s3 => walk_at "EV"
  case s4 => walk_at "fd"
  case s5 => decide
  case s6 => exact Nat.le_of_ble_eq_true rfl
  dsimp only
  refine' W_cons (W_Do ok' ?z0 (W_CallNP (args := [.ref st, .ref a, .int ((bs.length : Int) - B.live.length - k) 0, .int n 0]) l ok' (fun hn => ?z1) ?z2 (fn2 l (f := 166) (by decide)) rfl ?z3 (fun hn => ⟨?z4, ?z5, ?z6, ?z7, trivial⟩) fun vs hvs => ?z8))
  case z0 => walk_at "SW"
  case z1 => walk_at "EV"
  case z2 => (intro v hv; exact er_ref_inv hv)
  case z3 => walk_at "SW"
  case z4 => walk_at "EV"
  case z5 => walk_at "EV"
  case z6 => walk_at "EV"
  case z7 => walk_at "EV"
  obtain ⟨w1, w2, w3, w4, rfl, u1, u2, u3, u4⟩ := four_of hvs
  refine w_Write l ok' ar' (p := bs.length - B.live.length - k) hS u1 u2 u3 u4 ((Hp.put_ne _ _ hne).trans ha) (by omega) (by omega) h1 h2 (W_nil ?_)
  obtain ⟨r1, r2⟩ := place_end (n := n) hne hb g1 g2 g3 hk
  exact q _ r1 r2

end Mine
end
/- part L02f -/
section
open PySem PySem.W PySem.Spec PySem.Calls PyProof.Rows
set_option Elab.async false
set_option maxRecDepth 100000
set_option maxHeartbeats 4000000
set_option linter.all false
namespace Mine
local macro_rules | `(tactic| walk_at "fb_enter") => `(tactic| (
  (case ho => k_is)
  (case hcd => k_is)
  (case hcell => decide)
  (case hco => rfl)
  (case hgen => rfl)
  (case hk => rfl)
  (case hloc => simp [lk_cons])))
local macro_rules | `(tactic| walk_at "op") => `(tactic| first | rfl | exact pbin_mulr (by decide) | exact pbin_mull (by decide))
local macro_rules | `(tactic| walk_at "sc") => `(tactic| first | (simp only [lk_cons, String.reduceEq, if_true, if_false, reduceCtorEq]; done) | rfl)
local macro_rules | `(tactic| walk_at "tab") => `(tactic| first | assumption | rfl | (simp [S2, gL, bL, slL, tlL, saL, tab_cons, tab, String.reduceEq, lk_cons, put_at]; done))
local macro_rules | `(tactic| walk_at "lo") => `(tactic| first | assumption | rfl | (rw [put_at, if_pos rfl]) | (rw [put_at, if_neg (by decide)]; walk_at "lo") | (simp [lk_cons, put_at]; done))
local macro_rules | `(tactic| walk_at "fd") => `(tactic| first | assumption | exact Hp.put_self _ _ _ | (refine (Hp.put_ne _ _ ?n).trans ?g; (case n => first | assumption | exact Ne.symm (by assumption)); (case g => walk_at "fd")))
local macro_rules | `(tactic| walk_at "at") => `(tactic| first
  | (refine' pattr_slot ?f ?g ?h ?k; (case f => walk_at "fd"); (case g => walk_at "tab"); (case h => first | assumption | rfl); (case k => rfl))
  | (refine' pattr_sat ?f ?g; (case f => exact KN.at (by assumption) (by first | assumption | decide)); (case g => walk_at "tab")))
local macro_rules | `(tactic| walk_at "le") => `(tactic| first | (refine' plen_ba ?f; (case f => walk_at "fd")) | (refine' plen_list ?f; (case f => walk_at "fd")) | (refine' plen_bytes ?f; (case f => simp; omega)))
local macro_rules | `(tactic| walk_at "ev") => `(tactic| first
  | (refine' pe_con ?g; (case g => rfl))
  | (refine' pe_loc ?n ?g ?h; (case n => decide); (case g => walk_at "sc"); (case h => walk_at "lo"))
  | (refine' pe_glob ?n ?g ?h; (case n => decide); (case g => walk_at "sc"); (case h => walk_at "tab"))
  | (refine' pe_attr ?n ?g ?h; (case n => rfl); (case g => walk_at "ev"); (case h => walk_at "at"))
  | (refine' pe_len ?n ?f ?g ?h; (case n => rfl); (case f => walk_at "ev"); (case g => walk_at "ev"); (case h => walk_at "le"))
  | (refine' pe_bin ?f ?g ?h; (case f => walk_at "ev"); (case g => walk_at "ev"); (case h => walk_at "op"))
  | (refine' pe_una ?f ?h; (case f => walk_at "ev"); (case h => rfl))
  | (refine' pe_cmp ?n ?f ?g ?h; (case n => rfl); (case f => walk_at "ev"); (case g => walk_at "ev"); (case h => rfl)))
local macro_rules | `(tactic| walk_at "te") => `(tactic| first
  | (refine' pt_cmp ?g ?h; (case g => walk_at "ev"); (case h => rfl))
  | (refine' pt_not ?g ?h; (case g => walk_at "te"); (case h => rfl))
  | (refine' pt_chain ?n ?f ?g ?h ?k1 ?k2 ?k3 ?k4 ?k5; (case n => rfl); (case f => walk_at "ev"); (case g => walk_at "ev"); (case h => walk_at "ev"); (case k1 => rfl); (case k2 => rfl); (case k3 => rfl); (case k4 => rfl); (case k5 => rfl))
  | (refine' pt_and ?f ?g ?h; (case f => walk_at "te"); (case g => walk_at "te"); (case h => rfl))
  | (refine' pt_or ?f ?g ?h; (case f => walk_at "te"); (case g => walk_at "te"); (case h => rfl))
  | (refine' pt_name ?g ?h; (case g => walk_at "ev"); (case h => rfl))
  | (refine' pt_attr ?g ?h; (case g => walk_at "ev"); (case h => rfl))
  | (refine' pt_bin ?g ?h; (case g => walk_at "ev"); (case h => rfl)))
local macro_rules | `(tactic| walk_at "EV") => `(tactic| (rw [‹Fm.sc _ = _›]; walk_at "ev"))
local macro_rules | `(tactic| walk_at "TE") => `(tactic| (rw [‹Fm.sc _ = _›]; walk_at "te"))
local macro_rules | `(tactic| walk_at "SC") => `(tactic| (rw [‹Fm.sc _ = _›]; walk_at "sc"))
local macro_rules | `(tactic| walk_at "SW") => `(tactic| (intro _; rfl))
local macro_rules | `(tactic| walk_at "let") => `(tactic| (refine' W_cons (W_Let (by assumption) (by assumption) ?k ?s (fun hn => ?h) rfl ?q); (case k => walk_at "SC"); (case s => walk_at "SW"); (case h => walk_at "EV"); dsimp only))
local macro_rules | `(tactic| walk_at "iv") => `(tactic| first | rfl | (congr 1; omega))
variable {C : Cx} {F : Fm} {A : Around} {σ : Hp} {ρ : Loc} {X : Value → Hp → Loc → Prop} {d : Nat} {Q : Value → Hp → Loc → Prop} {a b : Addr} {B : Bd} {ov : Value}
theorem loB : loOf 'B' 1 = 0 := by decide
theorem hiB : hiOf 'B' 1 = 255 := by decide
theorem loH : loOf 'H' 2 = 0 := by decide
theorem hiH : hiOf 'H' 2 = 65535 := by decide
theorem loI : loOf 'I' 4 = 0 := by decide
theorem hiI : hiOf 'I' 4 = 4294967295 := by decide
theorem loi : loOf 'i' 4 = -2147483648 := by decide
theorem hii : hiOf 'i' 4 = 2147483647 := by decide
/-- PlaceSOffsetT -/
theorem w_PlaceSOffsetT (l : L2 C) (ok : F.Ok C) (ar : Ar F A (d + 2)) (hov : er ov = .ref b) {xv : Value} {n : Int} (hx : er xv = .int n 0) (h : BS σ b a B) (h1 : loOf 'i' 4 ≤ n) (h2 : n ≤ hiOf 'i' 4) (hk : 4 ≤ B.room)
    (q : ∀ σ', BS σ' b a (placeB B 4 n) → Keep σ σ' b a a → Q .none σ' ρ) : W C F A (call (.ref 723) [ov, xv] []) σ ρ Q X := by
  have hne := h.ne
  obtain ⟨dx, bs, hb, ha, g1, g2, g3⟩ := h
  obtain ⟨fm, fmin, fmax, fbw, fpk⟩ := (fl119 : FL C 119 'i' 4 53)
  refine' call2 [("self", .ref b), ("x", .int n 0)] l ok ar ?ho ?hcd ?hbind ?hloc ?hcell ?hco ?hgen ?hk ?h
  walk_at "fb_enter"
  case hbind => exact ⟨[("self", ov), ("x", xv)], fun s _ => BindsTo.of_eq rfl, by simp [hov, hx]⟩
  intro F' A' ok' ar' hsc
  refine' W_cons (W_Do ok' ?x0 (W_CallNP (args := [.int n 0, .ref 119]) l ok' (fun hn => ?x1) ?x2 (fn2 l (f := 152) (by decide)) rfl ?x3 (fun hn => ⟨?x4, ?x5, trivial⟩) fun vs hvs => ?x6))
  case x0 => walk_at "SW"
  case x1 => walk_at "EV"
  case x2 => (intro v hv; exact er_ref_inv hv)
  case x3 => walk_at "SW"
  case x4 => walk_at "EV"
  case x5 => walk_at "EV"
  obtain ⟨v1, v2, rfl, y1, y2⟩ := two_of hvs
  refine w_enf l ok' ar' y1 y2 fm fmin fmax h1 h2 ?_
  dsimp only
  walk_at "let"
  refine' W_cons (W_Set (i := 4) l ok' ?s1 (W_pe' l ok' (fun hn => ?s2) rfl ⟨fun hn => ?s3, ?s4, ?s5, ?s6, ?s7⟩))
  case s1 => walk_at "SW"
  case s2 => walk_at "EV"
  case s3 => walk_at "EV"
  case s4 => walk_at "fd"
  case s5 => decide
  case s6 => exact Nat.le_of_ble_eq_true rfl
  dsimp only
  refine' W_cons (W_Do ok' ?z0 (W_CallNP (args := [.ref 53, .ref a, .int ((bs.length : Int) - B.live.length - (4 : Nat)) 0, .int n 0]) l ok' (fun hn => ?z1) ?z2 (fn2 l (f := 166) (by decide)) rfl ?z3 (fun hn => ⟨?z4, ?z5, ?z6, ?z7, trivial⟩) fun vs hvs => ?z8))
  case z0 => walk_at "SW"
  case z1 => walk_at "EV"
  case z2 => (intro v hv; exact er_ref_inv hv)
  case z3 => walk_at "SW"
  case z4 => walk_at "EV"
  case z5 => walk_at "EV"
  case z6 => walk_at "EV"
  case z7 => walk_at "EV"
  obtain ⟨w1, w2, w3, w4, rfl, u1, u2, u3, u4⟩ := four_of hvs
  refine w_Write l ok' ar' (p := bs.length - B.live.length - 4) (st53 l) u1 u2 u3 u4 ((Hp.put_ne _ _ hne).trans ha) (by omega) (by omega) h1 h2 (W_nil ?_)
  obtain ⟨r1, r2⟩ := place_end (k := 4) (n := n) hne hb g1 g2 g3 hk
  exact q _ r1 r2

/-- PlaceUOffsetT -/
theorem w_PlaceUOffsetT (l : L2 C) (ok : F.Ok C) (ar : Ar F A (d + 2)) (hov : er ov = .ref b) {xv : Value} {n : Int} (hx : er xv = .int n 0) (h : BS σ b a B) (h1 : loOf 'I' 4 ≤ n) (h2 : n ≤ hiOf 'I' 4) (hk : 4 ≤ B.room)
    (q : ∀ σ', BS σ' b a (placeB B 4 n) → Keep σ σ' b a a → Q .none σ' ρ) : W C F A (call (.ref 730) [ov, xv] []) σ ρ Q X := by
  have hne := h.ne
  obtain ⟨dx, bs, hb, ha, g1, g2, g3⟩ := h
  obtain ⟨fm, fmin, fmax, fbw, fpk⟩ := (fl131 : FL C 131 'I' 4 52)
  refine' call2 [("self", .ref b), ("x", .int n 0)] l ok ar ?ho ?hcd ?hbind ?hloc ?hcell ?hco ?hgen ?hk ?h
  walk_at "fb_enter"
  case hbind => exact ⟨[("self", ov), ("x", xv)], fun s _ => BindsTo.of_eq rfl, by simp [hov, hx]⟩
  intro F' A' ok' ar' hsc
  refine' W_cons (W_Do ok' ?x0 (W_CallNP (args := [.int n 0, .ref 131]) l ok' (fun hn => ?x1) ?x2 (fn2 l (f := 152) (by decide)) rfl ?x3 (fun hn => ⟨?x4, ?x5, trivial⟩) fun vs hvs => ?x6))
  case x0 => walk_at "SW"
  case x1 => walk_at "EV"
  case x2 => (intro v hv; exact er_ref_inv hv)
  case x3 => walk_at "SW"
  case x4 => walk_at "EV"
  case x5 => walk_at "EV"
  obtain ⟨v1, v2, rfl, y1, y2⟩ := two_of hvs
  refine w_enf l ok' ar' y1 y2 fm fmin fmax h1 h2 ?_
  dsimp only
  walk_at "let"
  refine' W_cons (W_Set (i := 4) l ok' ?s1 (W_pe' l ok' (fun hn => ?s2) rfl ⟨fun hn => ?s3, ?s4, ?s5, ?s6, ?s7⟩))
  case s1 => walk_at "SW"
  case s2 => walk_at "EV"
  case s3 => walk_at "EV"
  case s4 => walk_at "fd"
  case s5 => decide
  case s6 => exact Nat.le_of_ble_eq_true rfl
  dsimp only
  refine' W_cons (W_Do ok' ?z0 (W_CallNP (args := [.ref 52, .ref a, .int ((bs.length : Int) - B.live.length - (4 : Nat)) 0, .int n 0]) l ok' (fun hn => ?z1) ?z2 (fn2 l (f := 166) (by decide)) rfl ?z3 (fun hn => ⟨?z4, ?z5, ?z6, ?z7, trivial⟩) fun vs hvs => ?z8))
  case z0 => walk_at "SW"
  case z1 => walk_at "EV"
  case z2 => (intro v hv; exact er_ref_inv hv)
  case z3 => walk_at "SW"
  case z4 => walk_at "EV"
  case z5 => walk_at "EV"
  case z6 => walk_at "EV"
  case z7 => walk_at "EV"
  obtain ⟨w1, w2, w3, w4, rfl, u1, u2, u3, u4⟩ := four_of hvs
  refine w_Write l ok' ar' (p := bs.length - B.live.length - 4) (st52 l) u1 u2 u3 u4 ((Hp.put_ne _ _ hne).trans ha) (by omega) (by omega) h1 h2 (W_nil ?_)
  obtain ⟨r1, r2⟩ := place_end (k := 4) (n := n) hne hb g1 g2 g3 hk
  exact q _ r1 r2

/-- Prepend -/
theorem w_Prepend (l : L2 C) (ok : F.Ok C) (ar : Ar F A (d + 3)) (hov : er ov = .ref b) {xv fv : Value} {n : Int} {f st : Addr} {c : Char} {k : Nat} (hx : er xv = .int n 0) (hf : er fv = .ref f) (fl : FL C f c k st) (hS : ST C st c k) (h : BS σ b a B) (hs : PA k) (hm : B.live.length + padOf k B.live.length + k ≤ 1048576)
    (h1 : loOf c k ≤ n) (h2 : n ≤ hiOf c k) (q : ∀ σ' a', BS σ' b a' (placeB (prepB B k 0) k n) → Keep σ σ' b a a' → Q .none σ' ρ) : W C F A (call (.ref 527) [ov, fv, xv] []) σ ρ Q X := by
  obtain ⟨fm, fmin, fmax, fbw, fpk⟩ := id fl
  have hbb := h
  obtain ⟨dx, bs, hb, ha, g1, g2, g3⟩ := hbb
  refine' call2 [("self", .ref b), ("flags", .ref f), ("off", .int n 0)] l ok ar ?ho ?hcd ?hbind ?hloc ?hcell ?hco ?hgen ?hk ?h
  walk_at "fb_enter"
  case hbind => exact ⟨[("self", ov), ("flags", fv), ("off", xv)], fun s _ => BindsTo.of_eq rfl, by simp [hov, hx, hf]⟩
  intro F' A' ok' ar' hsc
  refine' W_cons (W_Do ok' ?x0 (W_CallMP (x := "Prep") (f := 418) (args := [.int k 0, .int (0 : Nat) 0]) l ok' (fun hn => ?x1) hb (by decide) rfl ?x2 (fun hn => ⟨?x3, ?x4, trivial⟩) fun ov' vs e1 e2 => ?x5))
  case x0 => walk_at "SW"
  case x1 => walk_at "EV"
  case x2 => walk_at "SW"
  case x3 => walk_at "EV"
  case x4 => walk_at "EV"
  obtain ⟨v1, v2, rfl, y1, y2⟩ := two_of e2
  refine w_Prep l ok' ar' e1 y1 y2 h hs (by simpa using hm) fun σ₁ a₁ hB₁ hK₁ => ?_
  dsimp only
  have hne1 := hB₁.ne
  have hbb := hB₁
  obtain ⟨dx1, bs1, hb1, ha1, _⟩ := hbb
  refine' W_cons (W_Do ok' ?z0 (W_CallMP (x := "Place") (f := 709) (args := [.int n 0, .ref f]) l ok' (fun hn => ?z1) hb1 (by decide) rfl ?z2 (fun hn => ⟨?z3, ?z4, trivial⟩) fun ov' vs e1 e2 => ?z5))
  case z0 => walk_at "SW"
  case z1 => walk_at "EV"
  case z2 => walk_at "SW"
  case z3 => walk_at "EV"
  case z4 => walk_at "EV"
  obtain ⟨w1, w2, rfl, u1, u2⟩ := two_of e2
  refine w_Place l ok' (ar'.mono (d' := d + 2) (by omega)) e1 u1 u2 fl hS hB₁ h1 h2 (by show k ≤ k + 0; omega) fun σ₂ hB₂ hK₂ => W_nil ?_
  exact q σ₂ a₁ hB₂ (hK₁.trans hK₂ (by rw [hb1]; rfl) hne1)
/-- PrependVOffsetT -/
theorem w_PrependVOffsetT (l : L2 C) (ok : F.Ok C) (ar : Ar F A (d + 4)) (hov : er ov = .ref b) {xv : Value} {n : Int} (hx : er xv = .int n 0) (h : BS σ b a B) (hm : B.live.length + padOf 2 B.live.length + 2 ≤ 1048576)
    (h1 : 0 ≤ n) (h2 : n ≤ 65535) (q : ∀ σ' a', BS σ' b a' (placeB (prepB B 2 0) 2 n) → Keep σ σ' b a a' → Q .none σ' ρ) : W C F A (call (.ref 702) [ov, xv] []) σ ρ Q X := by
  have hbb := h
  obtain ⟨dx, bs, hb, ha, g1, g2, g3⟩ := hbb
  refine' call2 [("self", .ref b), ("x", .int n 0)] l ok ar ?ho ?hcd ?hbind ?hloc ?hcell ?hco ?hgen ?hk ?h
  walk_at "fb_enter"
  case hbind => exact ⟨[("self", ov), ("x", xv)], fun s _ => BindsTo.of_eq rfl, by simp [hov, hx]⟩
  intro F' A' ok' ar' hsc
  refine' W_cons (W_Do ok' ?x0 (W_CallMP (x := "Prepend") (f := 527) (args := [.ref 143, .int n 0]) l ok' (fun hn => ?x1) hb (by decide) rfl ?x2 (fun hn => ⟨?x3, ?x4, trivial⟩) fun ov' vs e1 e2 => ?x5))
  case x0 => walk_at "SW"
  case x1 => walk_at "EV"
  case x2 => walk_at "SW"
  case x3 => walk_at "EV"
  case x4 => walk_at "EV"
  obtain ⟨v1, v2, rfl, y1, y2⟩ := two_of e2
  exact w_Prepend l ok' ar' e1 y2 y1 fl143 (st51 l) h (.inr (.inl rfl)) hm (by rw [loH]; exact h1) (by rw [hiH]; exact h2) fun σ' a' hB hK => W_nil (q σ' a' hB hK)

end Mine
end
/- part L02g -/
section
open PySem PySem.W PySem.Spec PySem.Calls PyProof.Rows
set_option Elab.async false
set_option maxRecDepth 100000
set_option maxHeartbeats 4000000
set_option linter.all false
namespace Mine
local macro_rules | `(tactic| walk_at "fb_enter") => `(tactic| (
  (case ho => k_is)
  (case hcd => k_is)
  (case hcell => decide)
  (case hco => rfl)
  (case hgen => rfl)
  (case hk => rfl)
  (case hloc => simp [lk_cons])))
local macro_rules | `(tactic| walk_at "op") => `(tactic| first | rfl | exact pbin_mulr (by decide) | exact pbin_mull (by decide))
local macro_rules | `(tactic| walk_at "sc") => `(tactic| first | (simp only [lk_cons, String.reduceEq, if_true, if_false, reduceCtorEq]; done) | rfl)
local macro_rules | `(tactic| walk_at "tab") => `(tactic| first | assumption | rfl | (simp [S2, gL, bL, slL, tlL, saL, tab_cons, tab, String.reduceEq, lk_cons, put_at]; done))
local macro_rules | `(tactic| walk_at "lo") => `(tactic| first | assumption | rfl | (rw [put_at, if_pos rfl]) | (rw [put_at, if_neg (by decide)]; walk_at "lo") | (simp [lk_cons, put_at]; done))
local macro_rules | `(tactic| walk_at "fd") => `(tactic| first | assumption | exact Hp.put_self _ _ _ | (refine (Hp.put_ne _ _ ?n).trans ?g; (case n => first | assumption | exact Ne.symm (by assumption)); (case g => walk_at "fd")))
local macro_rules | `(tactic| walk_at "at") => `(tactic| first
  | (refine' pattr_slot ?f ?g ?h ?k; (case f => walk_at "fd"); (case g => walk_at "tab"); (case h => first | assumption | rfl); (case k => rfl))
  | (refine' pattr_sat ?f ?g; (case f => exact KN.at (by assumption) (by first | assumption | decide)); (case g => walk_at "tab")))
local macro_rules | `(tactic| walk_at "le") => `(tactic| first | (refine' plen_ba ?f; (case f => walk_at "fd")) | (refine' plen_list ?f; (case f => walk_at "fd")) | (refine' plen_bytes ?f; (case f => simp; omega)))
local macro_rules | `(tactic| walk_at "ev") => `(tactic| first
  | (refine' pe_con ?g; (case g => rfl))
  | (refine' pe_loc ?n ?g ?h; (case n => decide); (case g => walk_at "sc"); (case h => walk_at "lo"))
  | (refine' pe_glob ?n ?g ?h; (case n => decide); (case g => walk_at "sc"); (case h => walk_at "tab"))
  | (refine' pe_attr ?n ?g ?h; (case n => rfl); (case g => walk_at "ev"); (case h => walk_at "at"))
  | (refine' pe_len ?n ?f ?g ?h; (case n => rfl); (case f => walk_at "ev"); (case g => walk_at "ev"); (case h => walk_at "le"))
  | (refine' pe_bin ?f ?g ?h; (case f => walk_at "ev"); (case g => walk_at "ev"); (case h => walk_at "op"))
  | (refine' pe_una ?f ?h; (case f => walk_at "ev"); (case h => rfl))
  | (refine' pe_cmp ?n ?f ?g ?h; (case n => rfl); (case f => walk_at "ev"); (case g => walk_at "ev"); (case h => rfl)))
local macro_rules | `(tactic| walk_at "te") => `(tactic| first
  | (refine' pt_cmp ?g ?h; (case g => walk_at "ev"); (case h => rfl))
  | (refine' pt_not ?g ?h; (case g => walk_at "te"); (case h => rfl))
  | (refine' pt_chain ?n ?f ?g ?h ?k1 ?k2 ?k3 ?k4 ?k5; (case n => rfl); (case f => walk_at "ev"); (case g => walk_at "ev"); (case h => walk_at "ev"); (case k1 => rfl); (case k2 => rfl); (case k3 => rfl); (case k4 => rfl); (case k5 => rfl))
  | (refine' pt_and ?f ?g ?h; (case f => walk_at "te"); (case g => walk_at "te"); (case h => rfl))
  | (refine' pt_or ?f ?g ?h; (case f => walk_at "te"); (case g => walk_at "te"); (case h => rfl))
  | (refine' pt_name ?g ?h; (case g => walk_at "ev"); (case h => rfl))
  | (refine' pt_attr ?g ?h; (case g => walk_at "ev"); (case h => rfl))
  | (refine' pt_bin ?g ?h; (case g => walk_at "ev"); (case h => rfl)))
local macro_rules | `(tactic| walk_at "EV") => `(tactic| (rw [‹Fm.sc _ = _›]; walk_at "ev"))
local macro_rules | `(tactic| walk_at "TE") => `(tactic| (rw [‹Fm.sc _ = _›]; walk_at "te"))
local macro_rules | `(tactic| walk_at "SC") => `(tactic| (rw [‹Fm.sc _ = _›]; walk_at "sc"))
local macro_rules | `(tactic| walk_at "SW") => `(tactic| (intro _; rfl))
local macro_rules | `(tactic| walk_at "let") => `(tactic| (refine' W_cons (W_Let (by assumption) (by assumption) ?k ?s (fun hn => ?h) rfl ?q); (case k => walk_at "SC"); (case s => walk_at "SW"); (case h => walk_at "EV"); dsimp only))
local macro_rules | `(tactic| walk_at "iv") => `(tactic| first | rfl | (congr 1; omega))
variable {C : Cx} {F : Fm} {A : Around} {σ : Hp} {ρ : Loc} {X : Value → Hp → Loc → Prop} {d : Nat} {Q : Value → Hp → Loc → Prop} {a b : Addr} {B : Bd} {ov : Value}
theorem list_set {prog : Program} {w : World} {E : Value → Shared → Prop} {s : Shared} {l : Addr} {items : Array Value} {n : Nat} {k : Int} {t : Tok} {v : Value} {Q : Unit → Shared → Prop} (ho : s.heap.get? l = some (listOf items n)) (h0 : 0 ≤ k) (hfit : k < 2 ^ 63) (hj : k < items.size)
    (hQ : ∀ h' n', h'.get? l = some (listOf (items.setIfInBounds k.toNat v) n') → Heap.SameBut l s.heap h' → Q () { s with heap := h' }) : wpAny (model prog w) A (setItem (.ref l) (.int k t) v) Q E s := by
  have hT : s.TypeIs (.ref l) "list" := ⟨_, ho, rfl⟩
  unfold setItem
  refine wpAny_holding (wpAny_bind (wpAny_sequenceKey hT (by decide) ?_))
  refine wpAny_bind (wpAny_callSpecial?_slot (name := Str.ofString "__setitem__") hT slot_list_setitem (wpAny_call_entry slot_list_setitem hT entry_list_setitem ?_ (args_list_setitem _ _ _)))
  show wpAny _ _ (Builtin.List.listSubscript? (.int k t) >>= _) _ _ s
  refine wpAny_bind (wpAny_listSubscript_int (fitsIndex_of h0 hfit) ?_)
  clear hfit
  obtain ⟨j, rfl⟩ := Int.eq_ofNat_of_zero_le h0
  have hj : j < items.size := by omega
  have hx : items[j]? = some items[j] := Array.getElem?_eq_getElem hj
  show wpAny _ _ ((seqItemAt l j >>= fun r => pure (r.map (j, ·))) >>= _) _ _ s
  refine wpAny_bind (wpAny_bind (wpAny_seqItemAt ho rfl (wpAny_pure ?_)))
  rw [hx]
  show wpAny _ _ (setSeqItemAt l j v >>= _) _ _ s
  have hfin : ∃ n', (s.heap.update l (Obj.mapSeq (·.setIfInBounds j v))).get? l = some (listOf (items.setIfInBounds j v) n') := ⟨_, Heap.get?_update_self _ ho rfl⟩
  obtain ⟨n', hfin⟩ := hfin
  refine wpAny_bind (wpAny_setSeqItemAt ho rfl ?_)
  first
    | exact wpAny_bind (wpAny_pure (wpAny_pure ⟨.none, rfl, wpAny_pure (hQ _ n' hfin (Heap.SameBut.update ..))⟩))
    | exact wpAny_pure ⟨.none, rfl, wpAny_pure (hQ _ n' hfin (Heap.SameBut.update ..))⟩
theorem W_TrueNot {e : Expr} {pos : Pos} {whole : Sem Value} {Q : Bool → Hp → Loc → Prop} (h : W C F A (isTrue e F.env (eval e F.env)) σ ρ (fun v σ₁ ρ₁ => Q (!v) σ₁ ρ₁) X) : W C F A (isTrue (.UnaryOp .Not e pos) F.env whole) σ ρ Q X := by
  intro s i
  exact nTrueNot (h.use i (fun v s₁ σ₁ ρ₁ i₁ q => ⟨σ₁, ρ₁, i₁, q⟩) fun ea cls s' σ' ρ' y q => ⟨ea, cls, σ', ρ', rfl, y, q⟩)
/-- l[j] = v -/
theorem W_ItemSet (l : L2 C) (ok : F.Ok C) {o k value : Expr} {p pos : Pos} {Q : Flow → Hp → Loc → Prop} (hs : ∀ env, swapsWith value (some (.Subscript o k p)) pos.line env = pure false)
    (h : W C F A (eval value F.env) σ ρ (fun v σ₁ ρ₁ => ∃ a xs j, (KN σ₁ → pe S2 F.sc σ₁ ρ₁ o = some (.ref a)) ∧ σ₁ a = some (.list xs) ∧ (KN σ₁ → pe S2 F.sc σ₁ ρ₁ k = some (.int (j : Nat) 0)) ∧ j < xs.length ∧ Q .next (σ₁.put a (.list (xs.set j v))) ρ₁) X) :
    W C F A (exec (.Assign [.Subscript o k p] value pos) F.env) σ ρ Q X := by
  intro s iv
  rw [exec_Assign_Subscript _ _ _ _ _ (hs _)]
  refine wpN_bind (wpN_standAt (wpN_bind (h.use iv (fun v s1 σ1 ρ1 i1 q1 => ?_) fun ea cls s' σ' ρ' y q => ⟨ea, cls, σ', ρ', rfl, y, q⟩)))
  obtain ⟨a, xs, j, ho, ha, hk, hj, q⟩ := q1
  have kn : KN σ1 := fun x hx => by
    obtain ⟨o, ho⟩ := Option.isSome_iff_exists.mp (as2 l x hx)
    exact i1.base_out ok (l.ok.kin _ _ ho)
  rw [arm_assign_Subscript]
  refine wpN_bind (wpN_bind (wpN_holding (wpAny.n (pe_ok ok l.ok (S2_ok l) o (ho kn) s1 i1 _ _ fun a' tk ea => ?_))))
  have := er_ref_inv ea; subst this
  refine wpN_bind (wpN_holding (wpAny.n (pe_ok ok l.ok (S2_ok l) k (hk kn) _ (i1.toks tk) _ _ fun k' tk' ek => ?_)))
  obtain ⟨t, rfl⟩ := er_int_inv ek
  obtain ⟨items, n, g1, g2, g3⟩ := (i1.own a _ ha).2.2
  refine wpN_bind (wpN_standAt (wpN_bind (wpN_holding (wpAny.n ?_))))
  have hsz : items.size = xs.length := by rw [← g2]; simp
  have hlim : (sizeLine : Nat) = 16777216 := rfl
  refine list_set g1 (by omega) (by omega) (by omega) fun h' n' e1 e2 => ?_
  have hxs : (items.setIfInBounds (Int.toNat (j : Int)) v).toList.map er = xs.set j (er v) := by rw [← g2]; simp [List.map_set]
  exact nRelease (wpN_pure ⟨_, ρ1, ((i1.toks tk).toks tk').put (o' := .list (xs.set j (er v))) ok ha (fun z => by cases z) e2 ⟨_, n', e1, hxs, by simp; omega⟩ _, q⟩)

end Mine
end
/- part L02h -/
section
open PySem PySem.W PySem.Spec PySem.Calls PyProof.Rows
set_option Elab.async false
set_option maxRecDepth 100000
set_option maxHeartbeats 4000000
set_option linter.all false
namespace Mine
local macro_rules | `(tactic| walk_at "fb_enter") => `(tactic| (
  (case ho => k_is)
  (case hcd => k_is)
  (case hcell => decide)
  (case hco => rfl)
  (case hgen => rfl)
  (case hk => rfl)
  (case hloc => simp [lk_cons])))
local macro_rules | `(tactic| walk_at "op") => `(tactic| first | rfl | exact pbin_mulr (by decide) | exact pbin_mull (by decide))
local macro_rules | `(tactic| walk_at "sc") => `(tactic| first | (simp only [lk_cons, String.reduceEq, if_true, if_false, reduceCtorEq]; done) | rfl)
local macro_rules | `(tactic| walk_at "tab") => `(tactic| first | assumption | rfl | (simp [S2, gL, bL, slL, tlL, saL, tab_cons, tab, String.reduceEq, lk_cons, put_at]; done))
local macro_rules | `(tactic| walk_at "lo") => `(tactic| first | assumption | rfl | (rw [put_at, if_pos rfl]) | (rw [put_at, if_neg (by decide)]; walk_at "lo") | (simp [lk_cons, put_at]; done))
local macro_rules | `(tactic| walk_at "fd") => `(tactic| first | assumption | exact Hp.put_self _ _ _ | (refine (Hp.put_ne _ _ ?n).trans ?g; (case n => first | assumption | exact Ne.symm (by assumption)); (case g => walk_at "fd")))
local macro_rules | `(tactic| walk_at "at") => `(tactic| first
  | (refine' pattr_slot ?f ?g ?h ?k; (case f => walk_at "fd"); (case g => walk_at "tab"); (case h => first | assumption | rfl); (case k => rfl))
  | (refine' pattr_sat ?f ?g; (case f => exact KN.at (by assumption) (by first | assumption | decide)); (case g => walk_at "tab")))
local macro_rules | `(tactic| walk_at "le") => `(tactic| first | (refine' plen_ba ?f; (case f => walk_at "fd")) | (refine' plen_list ?f; (case f => walk_at "fd")) | (refine' plen_bytes ?f; (case f => simp; omega)))
local macro_rules | `(tactic| walk_at "ev") => `(tactic| first
  | (refine' pe_con ?g; (case g => rfl))
  | (refine' pe_loc ?n ?g ?h; (case n => decide); (case g => walk_at "sc"); (case h => walk_at "lo"))
  | (refine' pe_glob ?n ?g ?h; (case n => decide); (case g => walk_at "sc"); (case h => walk_at "tab"))
  | (refine' pe_attr ?n ?g ?h; (case n => rfl); (case g => walk_at "ev"); (case h => walk_at "at"))
  | (refine' pe_len ?n ?f ?g ?h; (case n => rfl); (case f => walk_at "ev"); (case g => walk_at "ev"); (case h => walk_at "le"))
  | (refine' pe_bin ?f ?g ?h; (case f => walk_at "ev"); (case g => walk_at "ev"); (case h => walk_at "op"))
  | (refine' pe_una ?f ?h; (case f => walk_at "ev"); (case h => rfl))
  | (refine' pe_cmp ?n ?f ?g ?h; (case n => rfl); (case f => walk_at "ev"); (case g => walk_at "ev"); (case h => rfl)))
local macro_rules | `(tactic| walk_at "te") => `(tactic| first
  | (refine' pt_cmp ?g ?h; (case g => walk_at "ev"); (case h => rfl))
  | (refine' pt_not ?g ?h; (case g => walk_at "te"); (case h => rfl))
  | (refine' pt_chain ?n ?f ?g ?h ?k1 ?k2 ?k3 ?k4 ?k5; (case n => rfl); (case f => walk_at "ev"); (case g => walk_at "ev"); (case h => walk_at "ev"); (case k1 => rfl); (case k2 => rfl); (case k3 => rfl); (case k4 => rfl); (case k5 => rfl))
  | (refine' pt_and ?f ?g ?h; (case f => walk_at "te"); (case g => walk_at "te"); (case h => rfl))
  | (refine' pt_or ?f ?g ?h; (case f => walk_at "te"); (case g => walk_at "te"); (case h => rfl))
  | (refine' pt_name ?g ?h; (case g => walk_at "ev"); (case h => rfl))
  | (refine' pt_attr ?g ?h; (case g => walk_at "ev"); (case h => rfl))
  | (refine' pt_bin ?g ?h; (case g => walk_at "ev"); (case h => rfl)))
local macro_rules | `(tactic| walk_at "EV") => `(tactic| (rw [‹Fm.sc _ = _›]; walk_at "ev"))
local macro_rules | `(tactic| walk_at "TE") => `(tactic| (rw [‹Fm.sc _ = _›]; walk_at "te"))
local macro_rules | `(tactic| walk_at "SC") => `(tactic| (rw [‹Fm.sc _ = _›]; walk_at "sc"))
local macro_rules | `(tactic| walk_at "SW") => `(tactic| (intro _; rfl))
local macro_rules | `(tactic| walk_at "let") => `(tactic| (refine' W_cons (W_Let (by assumption) (by assumption) ?k ?s (fun hn => ?h) rfl ?q); (case k => walk_at "SC"); (case s => walk_at "SW"); (case h => walk_at "EV"); dsimp only))
local macro_rules | `(tactic| walk_at "iv") => `(tactic| first | rfl | (congr 1; omega))
variable {C : Cx} {F : Fm} {A : Around} {σ : Hp} {ρ : Loc} {X : Value → Hp → Loc → Prop} {d : Nat} {Q : Value → Hp → Loc → Prop} {a b : Addr} {B : Bd} {ov : Value}
/-- PrependUOffsetTRelative -/
theorem w_PrependUOffsetTRelative (l : L2 C) (ok : F.Ok C) (ar : Ar F A (d + 3)) (hov : er ov = .ref b) {xv : Value} {n : Nat} (hx : er xv = .int n 0) (h : BS σ b a B) (hm : B.live.length + padOf 4 B.live.length + 4 ≤ 1048576) (hn : n ≤ B.live.length + padOf 4 B.live.length)
    (q : ∀ σ' a', BS σ' b a' (placeB (prepB B 4 0) 4 ((B.live.length + padOf 4 B.live.length - n + 4 : Nat) : Int)) → Keep σ σ' b a a' → Q .none σ' ρ) : W C F A (call (.ref 432) [ov, xv] []) σ ρ Q X := by
  have hbb := h
  obtain ⟨dx, bs, hb, ha, g1, g2, g3⟩ := hbb
  refine' call2 [("self", .ref b), ("off", .int n 0)] l ok ar ?ho ?hcd ?hbind ?hloc ?hcell ?hco ?hgen ?hk ?h
  walk_at "fb_enter"
  case hbind => exact ⟨[("self", ov), ("off", xv)], fun s _ => BindsTo.of_eq rfl, by simp [hov, hx]⟩
  intro F' A' ok' ar' hsc
  refine' W_cons (W_Do ok' ?x0 (W_CallMP (x := "Prep") (f := 418) (args := [.int (4 : Nat) 0, .int (0 : Nat) 0]) l ok' (fun hn => ?x1) hb (by decide) rfl ?x2 (fun hn => ⟨?x3, ?x4, trivial⟩) fun ov' vs e1 e2 => ?x5))
  case x0 => walk_at "SW"
  case x1 => walk_at "EV"
  case x2 => walk_at "SW"
  case x3 => walk_at "EV"
  case x4 => walk_at "EV"
  obtain ⟨v1, v2, rfl, y1, y2⟩ := two_of e2
  refine w_Prep l ok' ar' e1 y1 y2 h (.inr (.inr (.inl rfl))) (by simpa using hm) fun σ₁ a₁ hB₁ hK₁ => ?_
  have hne1 := hB₁.ne
  have hlen : (prepB B 4 0).live.length = B.live.length + padOf 4 B.live.length := by simp [prepB]; omega
  have hbb := hB₁
  obtain ⟨dx1, bs1, hb1, ha1, _⟩ := hbb
  dsimp only
  refine' W_cons (W_If (W_TrueNot (W_TrueCompare1 rfl (W_pe' (v' := .int n 0) l ok' (fun hn => ?y1) rfl (W_CallMP (x := "Offset") (f := 404) (args := []) l ok' (fun hn => ?y2) hb1 (by decide) rfl ?y3 (fun hn => trivial) fun ov' vs e1 e2 => ?y4)))))
  case y1 => walk_at "EV"
  case y2 => walk_at "EV"
  case y3 => walk_at "SW"
  have := List.map_eq_nil_iff.mp e2; subst this
  refine w_Offset l ok' (ar'.mono (d' := 1) (by omega)) e1 hB₁ ⟨_, _, rfl, rfl, ?_⟩
  rw [if_neg (by simp; omega)]
  refine W_nil ?_
  dsimp only
  refine' W_cons (W_LetW ok' ?z0 ?z1 (W_BinOp (W_BinOp (W_CallMP (x := "Offset") (f := 404) (args := []) l ok' (fun hn => ?z2) hb1 (by decide) rfl ?z3 (fun hn => trivial) fun ov' vs e1 e2 => ?z4))))
  case z0 => walk_at "SC"
  case z1 => walk_at "SW"
  case z2 => walk_at "EV"
  case z3 => walk_at "SW"
  have := List.map_eq_nil_iff.mp e2; subst this
  refine w_Offset l ok' (ar'.mono (d' := 1) (by omega)) e1 hB₁ ?_
  refine' W_pe' (v' := .int n 0) l ok' (fun hn => ?u1) rfl ⟨_, rfl, ?u2⟩
  case u1 => walk_at "EV"
  refine' W_pe' (v' := .int (4 : Nat) 0) l ok' (fun hn => ?u3) rfl ⟨.int ((B.live.length + padOf 4 B.live.length - n + 4 : Nat) : Int) 0, ?u4, ?u5⟩
  case u3 => walk_at "EV"
  case u4 => (rw [hlen]; show some _ = some _; congr 2; omega)
  dsimp only
  refine' W_cons (W_Do ok' ?w0 (W_CallMP (x := "PlaceUOffsetT") (f := 730) (args := [.int ((B.live.length + padOf 4 B.live.length - n + 4 : Nat) : Int) 0]) l ok' (fun hn => ?w1) hb1 (by decide) rfl ?w2 (fun hn => ⟨?w3, trivial⟩) fun ov' vs e1 e2 => ?w4))
  case w0 => walk_at "SW"
  case w1 => walk_at "EV"
  case w2 => walk_at "SW"
  case w3 => walk_at "EV"
  obtain ⟨v, rfl, e3⟩ := one_of e2
  refine w_PlaceUOffsetT l ok' (ar'.mono (d' := d + 2) (by omega)) e1 e3 hB₁ (by rw [loI]; omega) (by rw [hiI]; omega) (by show 4 ≤ 4 + 0; omega) fun σ₂ hB₂ hK₂ => W_nil ?_
  exact q σ₂ a₁ hB₂ (hK₁.trans hK₂ (by rw [hb1]; rfl) hne1)

/-- PrependSOffsetTRelative -/
theorem w_PrependSOffsetTRelative (l : L2 C) (ok : F.Ok C) (ar : Ar F A (d + 3)) (hov : er ov = .ref b) {xv : Value} {n : Nat} (hx : er xv = .int n 0) (h : BS σ b a B) (hm : B.live.length + padOf 4 B.live.length + 4 ≤ 1048576) (hn : n ≤ B.live.length + padOf 4 B.live.length)
    (q : ∀ σ' a', BS σ' b a' (placeB (prepB B 4 0) 4 ((B.live.length + padOf 4 B.live.length - n + 4 : Nat) : Int)) → Keep σ σ' b a a' → Q .none σ' ρ) : W C F A (call (.ref 425) [ov, xv] []) σ ρ Q X := by
  have hbb := h
  obtain ⟨dx, bs, hb, ha, g1, g2, g3⟩ := hbb
  refine' call2 [("self", .ref b), ("off", .int n 0)] l ok ar ?ho ?hcd ?hbind ?hloc ?hcell ?hco ?hgen ?hk ?h
  walk_at "fb_enter"
  case hbind => exact ⟨[("self", ov), ("off", xv)], fun s _ => BindsTo.of_eq rfl, by simp [hov, hx]⟩
  intro F' A' ok' ar' hsc
  refine' W_cons (W_Do ok' ?x0 (W_CallMP (x := "Prep") (f := 418) (args := [.int (4 : Nat) 0, .int (0 : Nat) 0]) l ok' (fun hn => ?x1) hb (by decide) rfl ?x2 (fun hn => ⟨?x3, ?x4, trivial⟩) fun ov' vs e1 e2 => ?x5))
  case x0 => walk_at "SW"
  case x1 => walk_at "EV"
  case x2 => walk_at "SW"
  case x3 => walk_at "EV"
  case x4 => walk_at "EV"
  obtain ⟨v1, v2, rfl, y1, y2⟩ := two_of e2
  refine w_Prep l ok' ar' e1 y1 y2 h (.inr (.inr (.inl rfl))) (by simpa using hm) fun σ₁ a₁ hB₁ hK₁ => ?_
  have hne1 := hB₁.ne
  have hlen : (prepB B 4 0).live.length = B.live.length + padOf 4 B.live.length := by simp [prepB]; omega
  have hbb := hB₁
  obtain ⟨dx1, bs1, hb1, ha1, _⟩ := hbb
  dsimp only
  refine' W_cons (W_If (W_TrueNot (W_TrueCompare1 rfl (W_pe' (v' := .int n 0) l ok' (fun hn => ?y1) rfl (W_CallMP (x := "Offset") (f := 404) (args := []) l ok' (fun hn => ?y2) hb1 (by decide) rfl ?y3 (fun hn => trivial) fun ov' vs e1 e2 => ?y4)))))
  case y1 => walk_at "EV"
  case y2 => walk_at "EV"
  case y3 => walk_at "SW"
  have := List.map_eq_nil_iff.mp e2; subst this
  refine w_Offset l ok' (ar'.mono (d' := 1) (by omega)) e1 hB₁ ⟨_, _, rfl, rfl, ?_⟩
  rw [if_neg (by simp; omega)]
  refine W_nil ?_
  dsimp only
  refine' W_cons (W_LetW ok' ?z0 ?z1 (W_BinOp (W_BinOp (W_CallMP (x := "Offset") (f := 404) (args := []) l ok' (fun hn => ?z2) hb1 (by decide) rfl ?z3 (fun hn => trivial) fun ov' vs e1 e2 => ?z4))))
  case z0 => walk_at "SC"
  case z1 => walk_at "SW"
  case z2 => walk_at "EV"
  case z3 => walk_at "SW"
  have := List.map_eq_nil_iff.mp e2; subst this
  refine w_Offset l ok' (ar'.mono (d' := 1) (by omega)) e1 hB₁ ?_
  refine' W_pe' (v' := .int n 0) l ok' (fun hn => ?u1) rfl ⟨_, rfl, ?u2⟩
  case u1 => walk_at "EV"
  refine' W_pe' (v' := .int (4 : Nat) 0) l ok' (fun hn => ?u3) rfl ⟨.int ((B.live.length + padOf 4 B.live.length - n + 4 : Nat) : Int) 0, ?u4, ?u5⟩
  case u3 => walk_at "EV"
  case u4 => (rw [hlen]; show some _ = some _; congr 2; omega)
  dsimp only
  refine' W_cons (W_Do ok' ?w0 (W_CallMP (x := "PlaceSOffsetT") (f := 723) (args := [.int ((B.live.length + padOf 4 B.live.length - n + 4 : Nat) : Int) 0]) l ok' (fun hn => ?w1) hb1 (by decide) rfl ?w2 (fun hn => ⟨?w3, trivial⟩) fun ov' vs e1 e2 => ?w4))
  case w0 => walk_at "SW"
  case w1 => walk_at "EV"
  case w2 => walk_at "SW"
  case w3 => walk_at "EV"
  obtain ⟨v, rfl, e3⟩ := one_of e2
  refine w_PlaceSOffsetT l ok' (ar'.mono (d' := d + 2) (by omega)) e1 e3 hB₁ (by rw [loi]; omega) (by rw [hii]; omega) (by show 4 ≤ 4 + 0; omega) fun σ₂ hB₂ hK₂ => W_nil ?_
  exact q σ₂ a₁ hB₂ (hK₁.trans hK₂ (by rw [hb1]; rfl) hne1)

/-- assertNested, silent -/
theorem w_assertNested (l : L2 C) (ok : F.Ok C) (ar : Ar F A (d + 1)) (hov : er ov = .ref b) (h : BS σ b a B) (hv : B.nest = true) (q : Q .none σ ρ) : W C F A (call (.ref 475) [ov] []) σ ρ Q X := by
  obtain ⟨dx, bs, hb, ha, g1, g2, g3⟩ := h
  refine' call2 [("self", .ref b)] l ok ar ?ho ?hcd ?hbind ?hloc ?hcell ?hco ?hgen ?hk ?h
  walk_at "fb_enter"
  case hbind => exact ⟨[("self", ov)], fun s _ => BindsTo.of_eq rfl, by simp [hov]⟩
  intro F' A' ok' ar' hsc
  refine' W_cons (W_If' (b' := false) l ok' (fun hn => ?t) ?u (fun z => ?zy) (fun z => ?zn))
  case t => walk_at "TE"
  case u => (rw [hv]; try rfl)
  case zy => cases z
  exact W_nil (W_nil q)

/-- assertNotNested, silent -/
theorem w_assertNotNested (l : L2 C) (ok : F.Ok C) (ar : Ar F A (d + 1)) (hov : er ov = .ref b) (h : BS σ b a B) (hv : B.nest = false) (q : Q .none σ ρ) : W C F A (call (.ref 482) [ov] []) σ ρ Q X := by
  obtain ⟨dx, bs, hb, ha, g1, g2, g3⟩ := h
  refine' call2 [("self", .ref b)] l ok ar ?ho ?hcd ?hbind ?hloc ?hcell ?hco ?hgen ?hk ?h
  walk_at "fb_enter"
  case hbind => exact ⟨[("self", ov)], fun s _ => BindsTo.of_eq rfl, by simp [hov]⟩
  intro F' A' ok' ar' hsc
  refine' W_cons (W_If' (b' := false) l ok' (fun hn => ?t) ?u (fun z => ?zy) (fun z => ?zn))
  case t => walk_at "TE"
  case u => (rw [hv]; try rfl)
  case zy => cases z
  exact W_nil (W_nil q)

/-- Slot -/
theorem w_Slot (l : L2 C) (ok : F.Ok C) (ar : Ar F A (d + 2)) (hov : er ov = .ref b) {xv : Value} {j : Nat} {cl : Addr} {xs : List Value} (hx : er xv = .int j 0) (h : BS σ b a B) (hv : B.nest = true) (hc : B.cv = .ref cl) (hcl : σ cl = some (.list xs)) (hj : j < xs.length)
    (q : Q .none (σ.put cl (.list (xs.set j (.int B.live.length 0)))) ρ) : W C F A (call (.ref 496) [ov, xv] []) σ ρ Q X := by
  have hbb := h
  obtain ⟨dx, bs, hb, ha, g1, g2, g3⟩ := hbb
  have h4 : ((slots B a bs.length)[1]?).join = some (.ref cl) := by rw [← hc]; rfl
  refine' call2 [("self", .ref b), ("slotnum", .int j 0)] l ok ar ?ho ?hcd ?hbind ?hloc ?hcell ?hco ?hgen ?hk ?h
  walk_at "fb_enter"
  case hbind => exact ⟨[("self", ov), ("slotnum", xv)], fun s _ => BindsTo.of_eq rfl, by simp [hov, hx]⟩
  intro F' A' ok' ar' hsc
  refine' W_cons (W_Do ok' ?w0 (W_CallMP (x := "assertNested") (f := 475) (args := []) l ok' (fun hn => ?w1) hb (by decide) rfl ?w2 (fun hn => trivial) fun ov' vs e1 e2 => ?w4))
  case w0 => walk_at "SW"
  case w1 => walk_at "EV"
  case w2 => walk_at "SW"
  have := List.map_eq_nil_iff.mp e2; subst this
  refine w_assertNested l ok' ar' e1 h hv ?_
  dsimp only
  refine' W_cons (W_ItemSet l ok' ?z0 (W_CallMP (x := "Offset") (f := 404) (args := []) l ok' (fun hn => ?z1) hb (by decide) rfl ?z2 (fun hn => trivial) fun ov' vs e1 e2 => ?z4))
  case z0 => walk_at "SW"
  case z1 => walk_at "EV"
  case z2 => walk_at "SW"
  have := List.map_eq_nil_iff.mp e2; subst this
  refine w_Offset l ok' ar' e1 h ⟨cl, xs, j, fun hn => ?_, hcl, fun hn => ?_, hj, W_nil q⟩
  · walk_at "EV"
  · walk_at "EV"

end Mine
end
/- part L02i -/
section
open PySem PySem.W PySem.Spec PySem.Calls PyProof.Rows
set_option Elab.async false
set_option maxRecDepth 100000
set_option maxHeartbeats 4000000
set_option linter.all false
namespace Mine
local macro_rules | `(tactic| walk_at "fb_enter") => `(tactic| (
  (case ho => k_is)
  (case hcd => k_is)
  (case hcell => decide)
  (case hco => rfl)
  (case hgen => rfl)
  (case hk => rfl)
  (case hloc => simp [lk_cons])))
local macro_rules | `(tactic| walk_at "op") => `(tactic| first | rfl | exact pbin_mulr (by decide) | exact pbin_mull (by decide))
local macro_rules | `(tactic| walk_at "sc") => `(tactic| first | (simp only [lk_cons, String.reduceEq, if_true, if_false, reduceCtorEq]; done) | rfl)
local macro_rules | `(tactic| walk_at "tab") => `(tactic| first | assumption | rfl | (simp [S2, gL, bL, slL, tlL, saL, tab_cons, tab, String.reduceEq, lk_cons, put_at]; done))
local macro_rules | `(tactic| walk_at "lo") => `(tactic| first | assumption | rfl | (rw [put_at, if_pos rfl]) | (rw [put_at, if_neg (by decide)]; walk_at "lo") | (simp [lk_cons, put_at]; done))
local macro_rules | `(tactic| walk_at "fd") => `(tactic| first | assumption | exact Hp.put_self _ _ _ | (refine (Hp.put_ne _ _ ?n).trans ?g; (case n => first | assumption | exact Ne.symm (by assumption)); (case g => walk_at "fd")))
local macro_rules | `(tactic| walk_at "at") => `(tactic| first
  | (refine' pattr_slot ?f ?g ?h ?k; (case f => walk_at "fd"); (case g => walk_at "tab"); (case h => first | assumption | rfl); (case k => rfl))
  | (refine' pattr_sat ?f ?g; (case f => exact KN.at (by assumption) (by first | assumption | decide)); (case g => walk_at "tab")))
local macro_rules | `(tactic| walk_at "le") => `(tactic| first | (refine' plen_ba ?f; (case f => walk_at "fd")) | (refine' plen_list ?f; (case f => walk_at "fd")) | (refine' plen_bytes ?f; (case f => simp; omega)))
local macro_rules | `(tactic| walk_at "ev") => `(tactic| first
  | (refine' pe_con ?g; (case g => rfl))
  | (refine' pe_loc ?n ?g ?h; (case n => decide); (case g => walk_at "sc"); (case h => walk_at "lo"))
  | (refine' pe_glob ?n ?g ?h; (case n => decide); (case g => walk_at "sc"); (case h => walk_at "tab"))
  | (refine' pe_attr ?n ?g ?h; (case n => rfl); (case g => walk_at "ev"); (case h => walk_at "at"))
  | (refine' pe_len ?n ?f ?g ?h; (case n => rfl); (case f => walk_at "ev"); (case g => walk_at "ev"); (case h => walk_at "le"))
  | (refine' pe_bin ?f ?g ?h; (case f => walk_at "ev"); (case g => walk_at "ev"); (case h => walk_at "op"))
  | (refine' pe_una ?f ?h; (case f => walk_at "ev"); (case h => rfl))
  | (refine' pe_cmp ?n ?f ?g ?h; (case n => rfl); (case f => walk_at "ev"); (case g => walk_at "ev"); (case h => rfl)))
local macro_rules | `(tactic| walk_at "te") => `(tactic| first
  | (refine' pt_cmp ?g ?h; (case g => walk_at "ev"); (case h => rfl))
  | (refine' pt_not ?g ?h; (case g => walk_at "te"); (case h => rfl))
  | (refine' pt_chain ?n ?f ?g ?h ?k1 ?k2 ?k3 ?k4 ?k5; (case n => rfl); (case f => walk_at "ev"); (case g => walk_at "ev"); (case h => walk_at "ev"); (case k1 => rfl); (case k2 => rfl); (case k3 => rfl); (case k4 => rfl); (case k5 => rfl))
  | (refine' pt_and ?f ?g ?h; (case f => walk_at "te"); (case g => walk_at "te"); (case h => rfl))
  | (refine' pt_or ?f ?g ?h; (case f => walk_at "te"); (case g => walk_at "te"); (case h => rfl))
  | (refine' pt_name ?g ?h; (case g => walk_at "ev"); (case h => rfl))
  | (refine' pt_attr ?g ?h; (case g => walk_at "ev"); (case h => rfl))
  | (refine' pt_bin ?g ?h; (case g => walk_at "ev"); (case h => rfl)))
local macro_rules | `(tactic| walk_at "EV") => `(tactic| (rw [‹Fm.sc _ = _›]; walk_at "ev"))
local macro_rules | `(tactic| walk_at "TE") => `(tactic| (rw [‹Fm.sc _ = _›]; walk_at "te"))
local macro_rules | `(tactic| walk_at "SC") => `(tactic| (rw [‹Fm.sc _ = _›]; walk_at "sc"))
local macro_rules | `(tactic| walk_at "SW") => `(tactic| (intro _; rfl))
local macro_rules | `(tactic| walk_at "let") => `(tactic| (refine' W_cons (W_Let (by assumption) (by assumption) ?k ?s (fun hn => ?h) rfl ?q); (case k => walk_at "SC"); (case s => walk_at "SW"); (case h => walk_at "EV"); dsimp only))
local macro_rules | `(tactic| walk_at "iv") => `(tactic| first | rfl | (congr 1; omega))
variable {C : Cx} {F : Fm} {A : Around} {σ : Hp} {ρ : Loc} {X : Value → Hp → Loc → Prop} {d : Nat} {Q : Value → Hp → Loc → Prop} {a b : Addr} {B : Bd} {ov : Value}
theorem flat_one (v : Value) : ∀ n : Nat, (List.replicate n [v]).flatten = List.replicate n v
  | 0 => rfl
  | n + 1 => by rw [List.replicate_succ, List.flatten_cons, flat_one v n]; rfl
/-- StartObject -/
theorem w_StartObject (l : L2 C) (ok : F.Ok C) (ar : Ar F A (d + 2)) (hov : er ov = .ref b) {xv : Value} {n : Nat} (hx : er xv = .int n 0) (h : BS σ b a B) (hv : B.nest = false) (hn : n ≤ 64)
    (q : ∀ σ' cl, BS σ' b a { B with cv := .ref cl, oe := .int B.live.length 0, nest := true } → Keep σ σ' b a a → σ cl = none → σ' cl = some (.list (List.replicate n (.int 0 0))) → Q .none σ' ρ) : W C F A (call (.ref 369) [ov, xv] []) σ ρ Q X := by
  have hne := h.ne
  have hbb := h
  obtain ⟨dx, bs, hb, ha, g1, g2, g3⟩ := hbb
  refine' call2 [("self", .ref b), ("numfields", .int n 0)] l ok ar ?ho ?hcd ?hbind ?hloc ?hcell ?hco ?hgen ?hk ?h
  walk_at "fb_enter"
  case hbind => exact ⟨[("self", ov), ("numfields", xv)], fun s _ => BindsTo.of_eq rfl, by simp [hov, hx]⟩
  intro F' A' ok' ar' hsc
  refine' W_cons (W_Do ok' ?w0 (W_CallMP (x := "assertNotNested") (f := 482) (args := []) l ok' (fun hn => ?w1) hb (by decide) rfl ?w2 (fun hn => trivial) fun ov' vs e1 e2 => ?w4))
  case w0 => walk_at "SW"
  case w1 => walk_at "EV"
  case w2 => walk_at "SW"
  have := List.map_eq_nil_iff.mp e2; subst this
  refine w_assertNotNested l ok' ar' e1 h hv ?_
  dsimp only
  refine' W_cons (W_Set (i := 1) (b := b) (dx := dx) (sl := slots B a bs.length) l ok' ?s1 (W_ListMul (W_List (W_argsP (vs := [.int 0 0]) l ok' (fun hn => ⟨?s2, trivial⟩) ?s3))))
  case s1 => walk_at "SW"
  case s2 => walk_at "EV"
  refine ⟨by decide, fun x1 n1 => ?_⟩
  have m1 : b ≠ x1 := fun e => by rw [← e, hb] at n1; cases n1
  have m2 : a ≠ x1 := fun e => by rw [← e, ha] at n1; cases n1
  refine' W_pe' (v' := .int n 0) l ok' (fun hn => ?s4) rfl ?s5
  case s4 => walk_at "EV"
  refine ⟨x1, [.int 0 0], n, rfl, rfl, Hp.put_self _ _ _, by simp; omega, by omega, by simp, fun x2 n2 => ?_⟩
  have m3 : b ≠ x2 := fun e => by rw [← e, Hp.put_ne _ _ m1, hb] at n2; cases n2
  have m4 : a ≠ x2 := fun e => by rw [← e, Hp.put_ne _ _ m2, ha] at n2; cases n2
  have m5 : x2 ≠ x1 := fun e => by rw [e, Hp.put_self] at n2; cases n2
  have hN : σ x2 = none := by rw [Hp.put_ne _ _ m5] at n2; exact n2
  rw [flat_one]
  refine' ⟨fun hn => ?r1, ?r2, ?r3, ?r4, ?r5⟩
  case r1 => walk_at "EV"
  case r2 => walk_at "fd"
  case r3 => decide
  case r4 => exact Nat.le_of_ble_eq_true rfl
  dsimp only
  generalize hσ2 : ((σ.put x1 (AObj.list [Value.int 0 0])).put x2 (AObj.list (List.replicate n (Value.int 0 0)))) = σ2
  have hb2 : σ2 b = some (.inst 734 dx (slots B a bs.length)) := by rw [← hσ2, Hp.put_ne _ _ m3, Hp.put_ne _ _ m1]; exact hb
  have ha2 : σ2 a = some (.ba bs) := by rw [← hσ2, Hp.put_ne _ _ m4, Hp.put_ne _ _ m2]; exact ha
  have hc2 : σ2 x2 = some (.list (List.replicate n (.int 0 0))) := by rw [← hσ2, Hp.put_self]
  have ho2 : ∀ x w, σ x = some w → σ2 x = some w := fun x w e => by
    rw [← hσ2, Hp.put_ne _ _ (fun z => by rw [z, hN] at e; cases e)]
    rw [Hp.put_ne _ _ (fun z => by rw [z, n1] at e; cases e)]
    exact e
  have hB2 : BS (σ2.put b (.inst 734 dx ((slots B a bs.length).set 1 (some (.ref x2))))) b a { B with cv := .ref x2 } := bs_intro (Hp.put_self _ _ _) ((Hp.put_ne _ _ hne).trans ha2) rfl g1 g2 g3
  refine' W_cons (W_Set (i := 7) (b := b) (dx := dx) (sl := (slots B a bs.length).set 1 (some (.ref x2))) l ok' ?u1 (W_CallMP (x := "Offset") (f := 404) (args := []) l ok' (fun hn => ?u2) (Hp.put_self _ _ _) (by decide) rfl ?u3 (fun hn => trivial) fun ov' vs e1 e2 => ?u4))
  case u1 => walk_at "SW"
  case u2 => walk_at "EV"
  case u3 => walk_at "SW"
  have := List.map_eq_nil_iff.mp e2; subst this
  refine w_Offset l ok' ar' e1 hB2 ?_
  refine' ⟨fun hn => ?v1, ?v2, ?v3, ?v4, ?v5⟩
  case v1 => walk_at "EV"
  case v2 => walk_at "fd"
  case v3 => decide
  case v4 => exact Nat.le_of_ble_eq_true rfl
  dsimp only
  rw [put_put]
  refine' W_cons (W_Set (i := 6) l ok' ?y1 (W_pe' l ok' (fun hn => ?y2) rfl ⟨fun hn => ?y3, ?y4, ?y5, ?y6, ?y7⟩))
  case y1 => walk_at "SW"
  case y2 => walk_at "EV"
  case y3 => walk_at "EV"
  case y4 => walk_at "fd"
  case y5 => decide
  case y6 => exact Nat.le_of_ble_eq_true rfl
  dsimp only
  rw [put_put]
  refine W_nil (q _ x2 (bs_intro (Hp.put_self _ _ _) ((Hp.put_ne _ _ hne).trans ha2) rfl g1 g2 g3) ⟨fun x w e z1 z2 => by rw [Hp.put_ne _ _ z1]; exact ho2 _ _ e, .inl rfl⟩ hN ((Hp.put_ne _ _ (Ne.symm m3)).trans hc2))

end Mine
end
/- part L02j -/
section
open PySem PySem.W PySem.Spec PySem.Calls PyProof.Rows
set_option Elab.async false
set_option maxRecDepth 100000
set_option maxHeartbeats 4000000
set_option linter.all false
namespace Mine
local macro_rules | `(tactic| walk_at "fb_enter") => `(tactic| (
  (case ho => k_is)
  (case hcd => k_is)
  (case hcell => decide)
  (case hco => rfl)
  (case hgen => rfl)
  (case hk => rfl)
  (case hloc => simp [lk_cons])))
local macro_rules | `(tactic| walk_at "op") => `(tactic| first | rfl | exact pbin_mulr (by decide) | exact pbin_mull (by decide))
local macro_rules | `(tactic| walk_at "sc") => `(tactic| first | (simp only [lk_cons, String.reduceEq, if_true, if_false, reduceCtorEq]; done) | rfl)
local macro_rules | `(tactic| walk_at "tab") => `(tactic| first | assumption | rfl | (simp [S2, gL, bL, slL, tlL, saL, tab_cons, tab, String.reduceEq, lk_cons, put_at]; done))
local macro_rules | `(tactic| walk_at "lo") => `(tactic| first | assumption | rfl | (rw [put_at, if_pos rfl]) | (rw [put_at, if_neg (by decide)]; walk_at "lo") | (simp [lk_cons, put_at]; done))
local macro_rules | `(tactic| walk_at "fd") => `(tactic| first | assumption | exact Hp.put_self _ _ _ | (refine (Hp.put_ne _ _ ?n).trans ?g; (case n => first | assumption | exact Ne.symm (by assumption)); (case g => walk_at "fd")))
local macro_rules | `(tactic| walk_at "at") => `(tactic| first
  | (refine' pattr_slot ?f ?g ?h ?k; (case f => walk_at "fd"); (case g => walk_at "tab"); (case h => first | assumption | rfl); (case k => rfl))
  | (refine' pattr_sat ?f ?g; (case f => exact KN.at (by assumption) (by first | assumption | decide)); (case g => walk_at "tab")))
local macro_rules | `(tactic| walk_at "le") => `(tactic| first | (refine' plen_ba ?f; (case f => walk_at "fd")) | (refine' plen_list ?f; (case f => walk_at "fd")) | (refine' plen_bytes ?f; (case f => simp; omega)))
local macro_rules | `(tactic| walk_at "ev") => `(tactic| first
  | (refine' pe_con ?g; (case g => rfl))
  | (refine' pe_loc ?n ?g ?h; (case n => decide); (case g => walk_at "sc"); (case h => walk_at "lo"))
  | (refine' pe_glob ?n ?g ?h; (case n => decide); (case g => walk_at "sc"); (case h => walk_at "tab"))
  | (refine' pe_attr ?n ?g ?h; (case n => rfl); (case g => walk_at "ev"); (case h => walk_at "at"))
  | (refine' pe_len ?n ?f ?g ?h; (case n => rfl); (case f => walk_at "ev"); (case g => walk_at "ev"); (case h => walk_at "le"))
  | (refine' pe_bin ?f ?g ?h; (case f => walk_at "ev"); (case g => walk_at "ev"); (case h => walk_at "op"))
  | (refine' pe_una ?f ?h; (case f => walk_at "ev"); (case h => rfl))
  | (refine' pe_cmp ?n ?f ?g ?h; (case n => rfl); (case f => walk_at "ev"); (case g => walk_at "ev"); (case h => rfl)))
local macro_rules | `(tactic| walk_at "te") => `(tactic| first
  | (refine' pt_cmp ?g ?h; (case g => walk_at "ev"); (case h => rfl))
  | (refine' pt_not ?g ?h; (case g => walk_at "te"); (case h => rfl))
  | (refine' pt_chain ?n ?f ?g ?h ?k1 ?k2 ?k3 ?k4 ?k5; (case n => rfl); (case f => walk_at "ev"); (case g => walk_at "ev"); (case h => walk_at "ev"); (case k1 => rfl); (case k2 => rfl); (case k3 => rfl); (case k4 => rfl); (case k5 => rfl))
  | (refine' pt_and ?f ?g ?h; (case f => walk_at "te"); (case g => walk_at "te"); (case h => rfl))
  | (refine' pt_or ?f ?g ?h; (case f => walk_at "te"); (case g => walk_at "te"); (case h => rfl))
  | (refine' pt_name ?g ?h; (case g => walk_at "ev"); (case h => rfl))
  | (refine' pt_attr ?g ?h; (case g => walk_at "ev"); (case h => rfl))
  | (refine' pt_bin ?g ?h; (case g => walk_at "ev"); (case h => rfl)))
local macro_rules | `(tactic| walk_at "EV") => `(tactic| (rw [‹Fm.sc _ = _›]; walk_at "ev"))
local macro_rules | `(tactic| walk_at "TE") => `(tactic| (rw [‹Fm.sc _ = _›]; walk_at "te"))
local macro_rules | `(tactic| walk_at "SC") => `(tactic| (rw [‹Fm.sc _ = _›]; walk_at "sc"))
local macro_rules | `(tactic| walk_at "SW") => `(tactic| (intro _; rfl))
local macro_rules | `(tactic| walk_at "let") => `(tactic| (refine' W_cons (W_Let (by assumption) (by assumption) ?k ?s (fun hn => ?h) rfl ?q); (case k => walk_at "SC"); (case s => walk_at "SW"); (case h => walk_at "EV"); dsimp only))
local macro_rules | `(tactic| walk_at "iv") => `(tactic| first | rfl | (congr 1; omega))
variable {C : Cx} {F : Fm} {A : Around} {σ : Hp} {ρ : Loc} {X : Value → Hp → Loc → Prop} {d : Nat} {Q : Value → Hp → Loc → Prop} {a b : Addr} {B : Bd} {ov : Value}
/-- Output -/
theorem w_Output (l : L2 C) (ok : F.Ok C) (ar : Ar F A (d + 1)) (hov : er ov = .ref b) (h : BS σ b a B) (hv : B.fin = true) (q : ∀ x, σ x = none → Q (.ref x) (σ.put x (.ba B.live)) ρ) : W C F A (call (.ref 362) [ov] []) σ ρ Q X := by
  obtain ⟨dx, bs, hb, ha, g1, g2, g3⟩ := h
  refine' call2 [("self", .ref b)] l ok ar ?ho ?hcd ?hbind ?hloc ?hcell ?hco ?hgen ?hk ?h
  walk_at "fb_enter"
  case hbind => exact ⟨[("self", ov)], fun s _ => BindsTo.of_eq rfl, by simp [hov]⟩
  intro F' A' ok' ar' hsc
  refine' W_cons (W_If' (b' := false) l ok' (fun hn => ?t) ?u (fun z => ?zy) (fun z => ?zn))
  case t => walk_at "TE"
  case u => (rw [hv]; try rfl)
  case zy => cases z
  refine W_nil ?_
  refine' W_cons (W_Return (W_kn2 l ok' fun hn => W_SliceGet (a := a) (b := bs) (i := some ((bs.length : Int) - B.live.length)) (j := none) (l := bs.length - B.live.length) (h := bs.length) ok' l.ok (S2_ok l) ?x1 ha ⟨_, rfl, ?x2⟩ rfl ?x3 ?x4 (by omega) (Nat.le_refl _) fun x nx => ?x5))
  case x1 => walk_at "EV"
  case x2 => walk_at "EV"
  case x3 => (simp; omega)
  case x4 => rfl
  have e : (bs.drop (bs.length - B.live.length)).take (bs.length - (bs.length - B.live.length)) = B.live := by
    rw [g2]; exact List.take_of_length_le (by omega)
  rw [e]
  exact q x nx
/-- EndVector, its argument left out -/
theorem w_EndVector (l : L2 C) (ok : F.Ok C) (ar : Ar F A (d + 3)) (hov : er ov = .ref b) {n : Nat} (h : BS σ b a B) (hv : B.nest = true) (hn : B.vne = some (.int n 0)) (h2 : n ≤ 4294967295) (hk : 4 ≤ B.room)
    (q : ∀ σ', BS σ' b a { placeB B 4 n with nest := false, vne := some .none } → Keep σ σ' b a a → Q (.int (B.live.length + 4 : Nat) 0) σ' ρ) : W C F A (call (.ref 447) [ov] []) σ ρ Q X := by
  have hne := h.ne
  have hbb := h
  obtain ⟨dx, bs, hb, ha, g1, g2, g3⟩ := hbb
  refine' call2 [("self", .ref b), ("numElems", .none)] l ok ar ?ho ?hcd ?hbind ?hloc ?hcell ?hco ?hgen ?hk ?h
  walk_at "fb_enter"
  case hbind => exact ⟨[("self", ov), ("numElems", .none)], fun s X => by rw [l.k] at X; exact binds_K X rfl (by k_is) rfl rfl rfl, by simp [hov]⟩
  intro F' A' ok' ar' hsc
  refine' W_cons (W_Do ok' ?w0 (W_CallMP (x := "assertNested") (f := 475) (args := []) l ok' (fun hn => ?w1) hb (by decide) rfl ?w2 (fun hn => trivial) fun ov' vs e1 e2 => ?w4))
  case w0 => walk_at "SW"
  case w1 => walk_at "EV"
  case w2 => walk_at "SW"
  have := List.map_eq_nil_iff.mp e2; subst this
  refine w_assertNested l ok' (ar'.mono (d' := 1) (by omega)) e1 h hv ?_
  dsimp only
  refine' W_cons (W_Set (i := 6) (b := b) (dx := dx) (sl := slots B a bs.length) l ok' ?y1 (W_pe' l ok' (fun hn => ?y2) rfl ⟨fun hn => ?y3, hb, ?y5, ?y6, ?y7⟩))
  case y1 => walk_at "SW"
  case y2 => walk_at "EV"
  case y3 => walk_at "EV"
  case y5 => decide
  case y6 => exact Nat.le_of_ble_eq_true rfl
  dsimp only
  have hB1 : BS (σ.put b (.inst 734 dx ((slots B a bs.length).set 6 (some (.bool false))))) b a { B with nest := false } := bs_intro (Hp.put_self _ _ _) ((Hp.put_ne _ _ hne).trans ha) rfl g1 g2 g3
  refine' W_cons (W_If' (b' := false) l ok' (fun hn => ?t) ?u (fun z => ?zy) (fun z => ?zn))
  case t => walk_at "TE"
  case u => rfl
  case zy => cases z
  refine W_nil ?_
  have h9 : (((slots B a bs.length).set 6 (some (.bool false)))[9]?).join = some (.int n 0) := hn
  refine' W_cons (W_Do ok' ?x0 (W_CallMP (x := "PlaceUOffsetT") (f := 730) (args := [.int n 0]) l ok' (fun hn => ?x1) (Hp.put_self _ _ _) (by decide) rfl ?x2 (fun hn => ⟨?x3, trivial⟩) fun ov' vs e1 e2 => ?x4))
  case x0 => walk_at "SW"
  case x1 => walk_at "EV"
  case x2 => walk_at "SW"
  case x3 => walk_at "EV"
  obtain ⟨v, rfl, e3⟩ := one_of e2
  refine w_PlaceUOffsetT l ok' (ar'.mono (d' := 2) (by omega)) e1 e3 hB1 (by rw [loI]; omega) (by rw [hiI]; omega) hk fun σ2 hB2 hK2 => ?_
  have hbb := hB2
  obtain ⟨dx2, bs2, hb2, ha2, k1, k2, k3⟩ := hbb
  dsimp only
  refine' W_cons (W_Set (i := 9) (b := b) (dx := dx2) (sl := slots _ a bs2.length) l ok' ?v1 (W_pe' l ok' (fun hn => ?v2) rfl ⟨fun hn => ?v3, hb2, ?v5, ?v6, ?v7⟩))
  case v1 => walk_at "SW"
  case v2 => walk_at "EV"
  case v3 => walk_at "EV"
  case v5 => decide
  case v6 => exact Nat.le_of_ble_eq_true rfl
  dsimp only
  have hB3 : BS (σ2.put b (.inst 734 dx2 ((slots (placeB { B with nest := false } 4 n) a bs2.length).set 9 (some .none)))) b a { placeB B 4 n with nest := false, vne := some .none } := bs_intro (Hp.put_self _ _ _) ((Hp.put_ne _ _ hne).trans ha2) rfl k1 k2 k3
  refine' W_cons (W_Return (W_CallMP (x := "Offset") (f := 404) (args := []) l ok' (fun hn => ?r1) (Hp.put_self _ _ _) (by decide) rfl ?r2 (fun hn => trivial) fun ov' vs e1 e2 => ?r3))
  case r1 => walk_at "EV"
  case r2 => walk_at "SW"
  have := List.map_eq_nil_iff.mp e2; subst this
  refine w_Offset l ok' (ar'.mono (d' := 1) (by omega)) e1 hB3 ?_
  have hb1 : ((σ.put b (.inst 734 dx ((slots B a bs.length).set 6 (some (.bool false))))) b).isSome = true := by rw [Hp.put_self]; rfl
  have := q _ hB3 (((Keep.one (o' := .inst 734 dx ((slots B a bs.length).set 6 (some (.bool false))))).trans hK2 hb1 hne).trans .one (by rw [hb2]; rfl) hne)
  have e4 : ((placeB B 4 n).live.length : Nat) = B.live.length + 4 := by simp [placeB, le_length]; omega
  show Q (.int (((placeB B 4 n).live.length : Nat) : Int) 0) _ ρ
  rw [e4]
  exact this

end Mine
end
/- part L02k -/
section
open PySem PySem.W PySem.Spec PySem.Calls PyProof.Rows
set_option Elab.async false
set_option maxRecDepth 100000
set_option maxHeartbeats 4000000
set_option linter.all false
namespace Mine
local macro_rules | `(tactic| walk_at "fb_enter") => `(tactic| (
  (case ho => k_is)
  (case hcd => k_is)
  (case hcell => decide)
  (case hco => rfl)
  (case hgen => rfl)
  (case hk => rfl)
  (case hloc => simp [lk_cons])))
local macro_rules | `(tactic| walk_at "op") => `(tactic| first | rfl | exact pbin_mulr (by decide) | exact pbin_mull (by decide))
local macro_rules | `(tactic| walk_at "sc") => `(tactic| first | (simp only [lk_cons, String.reduceEq, if_true, if_false, reduceCtorEq]; done) | rfl)
local macro_rules | `(tactic| walk_at "tab") => `(tactic| first | assumption | rfl | (simp [S2, gL, bL, slL, tlL, saL, tab_cons, tab, String.reduceEq, lk_cons, put_at]; done))
local macro_rules | `(tactic| walk_at "lo") => `(tactic| first | assumption | rfl | (rw [put_at, if_pos rfl]) | (rw [put_at, if_neg (by decide)]; walk_at "lo") | (simp [lk_cons, put_at]; done))
local macro_rules | `(tactic| walk_at "fd") => `(tactic| first | assumption | exact Hp.put_self _ _ _ | (refine (Hp.put_ne _ _ ?n).trans ?g; (case n => first | assumption | exact Ne.symm (by assumption)); (case g => walk_at "fd")))
local macro_rules | `(tactic| walk_at "at") => `(tactic| first
  | (refine' pattr_slot ?f ?g ?h ?k; (case f => walk_at "fd"); (case g => walk_at "tab"); (case h => first | assumption | rfl); (case k => rfl))
  | (refine' pattr_sat ?f ?g; (case f => exact KN.at (by assumption) (by first | assumption | decide)); (case g => walk_at "tab")))
local macro_rules | `(tactic| walk_at "le") => `(tactic| first | (refine' plen_ba ?f; (case f => walk_at "fd")) | (refine' plen_list ?f; (case f => walk_at "fd")) | (refine' plen_bytes ?f; (case f => simp; omega)))
local macro_rules | `(tactic| walk_at "ev") => `(tactic| first
  | (refine' pe_con ?g; (case g => rfl))
  | (refine' pe_loc ?n ?g ?h; (case n => decide); (case g => walk_at "sc"); (case h => walk_at "lo"))
  | (refine' pe_glob ?n ?g ?h; (case n => decide); (case g => walk_at "sc"); (case h => walk_at "tab"))
  | (refine' pe_attr ?n ?g ?h; (case n => rfl); (case g => walk_at "ev"); (case h => walk_at "at"))
  | (refine' pe_len ?n ?f ?g ?h; (case n => rfl); (case f => walk_at "ev"); (case g => walk_at "ev"); (case h => walk_at "le"))
  | (refine' pe_bin ?f ?g ?h; (case f => walk_at "ev"); (case g => walk_at "ev"); (case h => walk_at "op"))
  | (refine' pe_una ?f ?h; (case f => walk_at "ev"); (case h => rfl))
  | (refine' pe_cmp ?n ?f ?g ?h; (case n => rfl); (case f => walk_at "ev"); (case g => walk_at "ev"); (case h => rfl)))
local macro_rules | `(tactic| walk_at "te") => `(tactic| first
  | (refine' pt_cmp ?g ?h; (case g => walk_at "ev"); (case h => rfl))
  | (refine' pt_not ?g ?h; (case g => walk_at "te"); (case h => rfl))
  | (refine' pt_chain ?n ?f ?g ?h ?k1 ?k2 ?k3 ?k4 ?k5; (case n => rfl); (case f => walk_at "ev"); (case g => walk_at "ev"); (case h => walk_at "ev"); (case k1 => rfl); (case k2 => rfl); (case k3 => rfl); (case k4 => rfl); (case k5 => rfl))
  | (refine' pt_and ?f ?g ?h; (case f => walk_at "te"); (case g => walk_at "te"); (case h => rfl))
  | (refine' pt_or ?f ?g ?h; (case f => walk_at "te"); (case g => walk_at "te"); (case h => rfl))
  | (refine' pt_name ?g ?h; (case g => walk_at "ev"); (case h => rfl))
  | (refine' pt_attr ?g ?h; (case g => walk_at "ev"); (case h => rfl))
  | (refine' pt_bin ?g ?h; (case g => walk_at "ev"); (case h => rfl)))
local macro_rules | `(tactic| walk_at "EV") => `(tactic| (rw [‹Fm.sc _ = _›]; walk_at "ev"))
local macro_rules | `(tactic| walk_at "TE") => `(tactic| (rw [‹Fm.sc _ = _›]; walk_at "te"))
local macro_rules | `(tactic| walk_at "SC") => `(tactic| (rw [‹Fm.sc _ = _›]; walk_at "sc"))
local macro_rules | `(tactic| walk_at "SW") => `(tactic| (intro _; rfl))
local macro_rules | `(tactic| walk_at "let") => `(tactic| (refine' W_cons (W_Let (by assumption) (by assumption) ?k ?s (fun hn => ?h) rfl ?q); (case k => walk_at "SC"); (case s => walk_at "SW"); (case h => walk_at "EV"); dsimp only))
local macro_rules | `(tactic| walk_at "iv") => `(tactic| first | rfl | (congr 1; omega))
variable {C : Cx} {F : Fm} {A : Around} {σ : Hp} {ρ : Loc} {X : Value → Hp → Loc → Prop} {d : Nat} {Q : Value → Hp → Loc → Prop} {a b : Addr} {B : Bd} {ov : Value}
theorem W_TrueV {e : Expr} {whole : Sem Value} {Q : Bool → Hp → Loc → Prop} (he : isTrue e F.env whole = (do let v ← whole; standAt e.pos; holding [v] (truthy v))) (h : W C F A whole σ ρ (fun v σ₁ ρ₁ => ∃ t, ptru v = some t ∧ Q t σ₁ ρ₁) X) : W C F A (isTrue e F.env whole) σ ρ Q X := by
  intro s i
  refine nTrueValue (h.use i (fun v s1 σ1 ρ1 i1 q => ?_) fun ea cls s' σ' ρ' y q => ⟨ea, cls, σ', ρ', rfl, y, q⟩) he
  obtain ⟨t, ht, q⟩ := q
  exact wpAny.n (ptru_ok (C := C) (F := F) (σ := σ1) (ρ := ρ1) ht rfl s1 i1 _ _ fun tk => ⟨σ1, ρ1, i1.toks tk, q⟩)
theorem tp253 (l : L2 C) : C.K.lookup 253 = some { cls := .type "tuple", data := .seq [Value.type "str"].toArray } := by rw [l.k]; rfl
theorem tp254 (l : L2 C) : C.K.lookup 254 = some { cls := .type "tuple", data := .seq [Value.type "bytes", Value.type "bytearray"].toArray } := by rw [l.k]; rfl
def createB (B : Bd) (y : List UInt8) : Bd :=
  { placeB { placeB { prepB B 4 (y.length + 1) with nest := true } 1 0 with live := y ++ (placeB (prepB B 4 (y.length + 1)) 1 0).live, room := (placeB (prepB B 4 (y.length + 1)) 1 0).room - y.length, vne := some (.int (y.length : Nat) 0) } 4 (y.length : Nat) with nest := false, vne := some .none }
/-- CreateString of bytes -/
theorem w_CreateString (l : L2 C) (ok : F.Ok C) (ar : Ar F A (d + 4)) (hov : er ov = .ref b) {xv : Value} {y : List UInt8} (hx : er xv = .bytes y.toArray 0) (h : BS σ b a B) (hv : B.nest = false) (hy : y.length ≤ 1000) (hm : B.live.length + padOf 4 (B.live.length + (y.length + 1)) + 4 + (y.length + 1) ≤ 1048576)
    (q : ∀ σ' a', BS σ' b a' (createB B y) → Keep σ σ' b a a' → Q (.int ((createB B y).live.length : Nat) 0) σ' ρ) : W C F A (call (.ref 461) [ov, xv] []) σ ρ Q X := by
  have hne := h.ne
  have hbb := h
  obtain ⟨dx, bs, hb, ha, g1, g2, g3⟩ := hbb
  refine' call2 [("self", .ref b), ("s", .bytes y.toArray 0)] l ok ar ?ho ?hcd ?hbind ?hloc ?hcell ?hco ?hgen ?hk ?h
  walk_at "fb_enter"
  case hbind => exact ⟨[("self", ov), ("s", xv)], fun s _ => BindsTo.of_eq rfl, by simp [hov, hx]⟩
  intro F' A' ok' ar' hsc
  refine' W_cons (W_Do ok' ?w0 (W_CallMP (x := "assertNotNested") (f := 482) (args := []) l ok' (fun hn => ?w1) hb (by decide) rfl ?w2 (fun hn => trivial) fun ov' vs e1 e2 => ?w4))
  case w0 => walk_at "SW"
  case w1 => walk_at "EV"
  case w2 => walk_at "SW"
  have := List.map_eq_nil_iff.mp e2; subst this
  refine w_assertNotNested l ok' (ar'.mono (d' := 1) (by omega)) e1 h hv ?_
  dsimp only
  refine' W_cons (W_Set (i := 6) (b := b) (dx := dx) (sl := slots B a bs.length) l ok' ?y1 (W_pe' l ok' (fun hn => ?y2) rfl ⟨fun hn => ?y3, hb, ?y5, ?y6, ?y7⟩))
  case y1 => walk_at "SW"
  case y2 => walk_at "EV"
  case y3 => walk_at "EV"
  case y5 => decide
  case y6 => exact Nat.le_of_ble_eq_true rfl
  dsimp only
  have hB1 : BS (σ.put b (.inst 734 dx ((slots B a bs.length).set 6 (some (.bool true))))) b a { B with nest := true } := bs_intro (Hp.put_self _ _ _) ((Hp.put_ne _ _ hne).trans ha) rfl g1 g2 g3
  have hK1 : Keep σ (σ.put b (.inst 734 dx ((slots B a bs.length).set 6 (some (.bool true))))) b a a := .one
  generalize (σ.put b (.inst 734 dx ((slots B a bs.length).set 6 (some (.bool true))))) = σ1 at hB1 hK1
  refine' W_cons (W_If (W_TrueV rfl (W_CallNP (args := [.bytes y.toArray 0, .ref 253]) l ok' (fun hn => ?i1) ?i2 keeps_builtin rfl ?i3 (fun hn => ⟨?i4, ?i5, trivial⟩) fun vs hvs => W_isi_bytes l.ok hvs (tp253 l) (ans_str _) rfl ⟨_, rfl, ?i6⟩)))
  case i1 => walk_at "EV"
  case i2 => (intro v hv; exact er_builtin_inv hv)
  case i3 => walk_at "SW"
  case i4 => walk_at "EV"
  case i5 => walk_at "EV"
  rw [if_neg (by decide)]
  refine' W_cons (W.mono (Q := fun fl σ₁ ρ₁ => fl = Flow.next ∧ σ₁ = σ1 ∧ ρ₁ (Str.ofString "self") = some (.ref b) ∧ ρ₁ (Str.ofString "x") = some (.bytes y.toArray 0)) (W_If (W_TrueV rfl (W_CallNP (args := [.bytes y.toArray 0, .ref 254]) l ok' (fun hn => ?j1) ?j2 keeps_builtin rfl ?j3 (fun hn => ⟨?j4, ?j5, trivial⟩) fun vs hvs => W_isi_bytes l.ok hvs (tp254 l) (ans_bin _) rfl ⟨_, rfl, ?j6⟩))) ?cont (fun _ _ _ x => x))
  case j1 => walk_at "EV"
  case j2 => (intro v hv; exact er_builtin_inv hv)
  case j3 => walk_at "SW"
  case j4 => walk_at "EV"
  case j5 => walk_at "EV"
  case j6 =>
    rw [if_pos (by rfl)]
    walk_at "let"
    exact W_nil ⟨rfl, rfl, by walk_at "lo", by walk_at "lo"⟩
  rintro fl σ₁ ρ₁ ⟨rfl, rfl, r1, r2⟩
  have hbb := hB1
  obtain ⟨dx1, bs1, hb1, ha1, k1, k2, k3⟩ := hbb
  refine W_nil ?_
  dsimp only
  refine' W_cons (W_Let (v' := .int (y.length : Nat) 0) l ok' ?l1 ?l2 (fun hn => ?l3) ?l4 ?l5)
  case l1 => walk_at "SC"
  case l2 => walk_at "SW"
  case l3 => walk_at "EV"
  case l4 => simp
  dsimp only
  refine' W_cons (W_Do ok' ?m0 (W_CallMP (x := "Prep") (f := 418) (args := [.int (4 : Nat) 0, .int ((y.length : Int) + 1) 0]) l ok' (fun hn => ?m1) hb1 (by decide) rfl ?m2 (fun hn => ⟨?m3, ?m4, trivial⟩) fun ov' vs e1 e2 => ?m5))
  case m0 => walk_at "SW"
  case m1 => walk_at "EV"
  case m2 => walk_at "SW"
  case m3 => walk_at "EV"
  case m4 => (rw [show ((y.length : Int) + 1) = ((y.length : Int) + 1) * 1 by omega]; walk_at "EV")
  obtain ⟨v1, v2, rfl, y1, y2⟩ := two_of e2
  refine w_Prep l ok' (ar'.mono (d' := d + 2) (by omega)) e1 y1 (add := y.length + 1) (by rw [y2]; rfl) hB1 (.inr (.inr (.inl rfl))) (by show B.live.length + padOf 4 (B.live.length + (y.length + 1)) + 4 + (y.length + 1) ≤ 1048576; exact hm) fun σ2 a2 hB2 hK2 => ?_
  have hne2 := hB2.ne
  have hbb := hB2
  obtain ⟨dx2, bs2, hb2, ha2, p1, p2, p3⟩ := hbb
  dsimp only
  refine' W_cons (W_Do ok' ?n0 (W_CallMP (x := "Place") (f := 709) (args := [.int 0 0, .ref 63]) l ok' (fun hn => ?n1) hb2 (by decide) rfl ?n2 (fun hn => ⟨?n3, ?n4, trivial⟩) fun ov' vs e1 e2 => ?n5))
  case n0 => walk_at "SW"
  case n1 => walk_at "EV"
  case n2 => walk_at "SW"
  case n3 => walk_at "EV"
  case n4 => walk_at "EV"
  obtain ⟨v1, v2, rfl, y1, y2⟩ := two_of e2
  refine w_Place l ok' (ar'.mono (d' := d + 2) (by omega)) e1 y1 y2 fl63 (st50 l) hB2 (by rw [loB]; omega) (by rw [hiB]; omega) (by show 1 ≤ 4 + (y.length + 1); omega) fun σ3 hB3 hK3 => ?_
  have hbb := hB3
  obtain ⟨dx3, bs3, hb3, ha3, q1, q2, q3⟩ := hbb
  have hroom : (placeB (prepB { B with nest := true } 4 (y.length + 1)) 1 0).room = 4 + y.length := by show 4 + (y.length + 1) - 1 = _; omega
  generalize hB3e : placeB (prepB { B with nest := true } 4 (y.length + 1)) 1 0 = B3 at *
  dsimp only
  walk_at "let"
  refine' W_cons (W_Set (i := 4) (b := b) (dx := dx3) (sl := slots B3 a2 bs3.length) l ok' ?z1 (W_pe' l ok' (fun hn => ?z2) rfl ⟨fun hn => ?z3, hb3, ?z5, ?z6, ?z7⟩))
  case z1 => walk_at "SW"
  case z2 => walk_at "EV"
  case z3 => walk_at "EV"
  case z5 => decide
  case z6 => exact Nat.le_of_ble_eq_true rfl
  dsimp only
  have ha4 : (σ3.put b (.inst 734 dx3 ((slots B3 a2 bs3.length).set 4 (some (.int ((bs3.length : Int) - B3.live.length - y.length) 0))))) a2 = some (.ba bs3) := (Hp.put_ne _ _ hne2).trans ha3
  refine' W_cons (W_kn2 l ok' fun hn => W_SliceSet ok' l.ok (S2_ok l) ar'.guards rfl (W_pe' l ok' (fun hn => ?u1) rfl ⟨a2, bs3, y, some ((bs3.length : Int) - B3.live.length - y.length), some ((bs3.length : Int) - B3.live.length - y.length + y.length), bs3.length - B3.live.length - y.length, bs3.length - B3.live.length, ?u2, ha4, ⟨_, rfl, ?u3⟩, ⟨_, rfl, ?u4⟩, ?u5, ?u6, .inr ⟨0, rfl⟩, ?u7, ?u8, ?u9⟩))
  case u1 => walk_at "EV"
  case u2 => walk_at "EV"
  case u3 => walk_at "EV"
  case u4 => walk_at "EV"
  case u5 => (simp; omega)
  case u6 => (simp; omega)
  case u7 => omega
  case u8 => omega
  dsimp only
  have hbs : (bs3.take (bs3.length - B3.live.length - y.length) ++ y ++ bs3.drop (bs3.length - B3.live.length)).length = bs3.length := by simp; omega
  refine' W_cons (W_Set (i := 9) (b := b) (dx := dx3) (sl := (slots B3 a2 bs3.length).set 4 (some (.int ((bs3.length : Int) - B3.live.length - y.length) 0))) l ok' ?x1 (W_pe' l ok' (fun hn => ?x2) rfl ⟨fun hn => ?x3, ?x4, ?x5, ?x6, ?x7⟩))
  case x1 => walk_at "SW"
  case x2 => walk_at "EV"
  case x3 => walk_at "EV"
  case x4 => walk_at "fd"
  case x5 => decide
  case x6 => exact Nat.le_of_ble_eq_true rfl
  dsimp only
  generalize hσ5 : (((σ3.put b (.inst 734 dx3 ((slots B3 a2 bs3.length).set 4 (some (.int ((bs3.length : Int) - B3.live.length - y.length) 0))))).put a2 (.ba (bs3.take (bs3.length - B3.live.length - y.length) ++ y ++ bs3.drop (bs3.length - B3.live.length)))).put b (.inst 734 dx3 (((slots B3 a2 bs3.length).set 4 (some (.int ((bs3.length : Int) - B3.live.length - y.length) 0))).set 9 (some (.int (y.length : Nat) 0))))) = σ5
  have hb5 : σ5 b = some (.inst 734 dx3 (((slots B3 a2 bs3.length).set 4 (some (.int ((bs3.length : Int) - B3.live.length - y.length) 0))).set 9 (some (.int (y.length : Nat) 0)))) := by rw [← hσ5, Hp.put_self]
  have ha5 : σ5 a2 = some (.ba (bs3.take (bs3.length - B3.live.length - y.length) ++ y ++ bs3.drop (bs3.length - B3.live.length))) := by rw [← hσ5, Hp.put_ne _ _ hne2, Hp.put_self]
  have hB5 : BS σ5 b a2 { B3 with live := y ++ B3.live, room := B3.room - y.length, vne := some (.int (y.length : Nat) 0) } := by
    refine bs_intro hb5 ha5 ?_ ?_ ?_ (by rw [hbs]; exact q3)
    · rw [hbs]; simp [slots]; omega
    · rw [hbs]; simp; omega
    · rw [hbs]
      have := cut_live (x := y) q2 (by omega) (by omega)
      show List.drop (bs3.length - (y ++ B3.live).length) _ = y ++ B3.live
      rw [List.length_append]; exact this
  have hK5 : Keep σ3 σ5 b a2 a2 := ⟨fun x w e z1 z2 => by rw [← hσ5, Hp.put_ne _ _ z1, Hp.put_ne _ _ z2, Hp.put_ne _ _ z1]; exact e, .inl rfl⟩
  refine' W_cons (W_Return (W_CallMP (x := "EndVector") (f := 447) (args := []) l ok' (fun hn => ?c1) hb5 (by decide) rfl ?c2 (fun hn => trivial) fun ov' vs e1 e2 => ?c3))
  case c1 => walk_at "EV"
  case c2 => walk_at "SW"
  have := List.map_eq_nil_iff.mp e2; subst this
  refine w_EndVector (d := d) l ok' ar' e1 (n := y.length) hB5 (by rw [← hB3e]; rfl) rfl (by omega) (by show 4 ≤ B3.room - y.length; omega) fun σ6 hB6 hK6 => ?_
  have hKa : Keep σ σ6 b a a2 := (((hK1.trans hK2 (by rw [hb1]; rfl) hne2).trans hK3 (by rw [hb2]; rfl) hne2).trans hK5 (by rw [hb3]; rfl) hne2).trans hK6 (by rw [hb5]; rfl) hne2
  have := q σ6 a2 (by unfold createB; rw [← hB3e] at hB6; exact hB6) hKa
  have e4 : (createB B y).live.length = (y ++ B3.live).length + 4 := by
    rw [← hB3e]
    show (le 4 _ ++ (y ++ (placeB (prepB B 4 (y.length + 1)) 1 0).live)).length = _
    rw [List.length_append, le_length, Nat.add_comm]
    rfl
  rw [e4] at this
  exact this

end Mine
end
/- part L02l -/
section
open PySem PySem.W PySem.Spec PySem.Calls PyProof.Rows
set_option Elab.async false
set_option maxRecDepth 100000
set_option maxHeartbeats 4000000
set_option linter.all false
namespace Mine
local macro_rules | `(tactic| walk_at "fb_enter") => `(tactic| (
  (case ho => k_is)
  (case hcd => k_is)
  (case hcell => decide)
  (case hco => rfl)
  (case hgen => rfl)
  (case hk => rfl)
  (case hloc => simp [lk_cons])))
local macro_rules | `(tactic| walk_at "op") => `(tactic| first | rfl | exact pbin_mulr (by decide) | exact pbin_mull (by decide))
local macro_rules | `(tactic| walk_at "sc") => `(tactic| first | (simp only [lk_cons, String.reduceEq, if_true, if_false, reduceCtorEq]; done) | rfl)
local macro_rules | `(tactic| walk_at "tab") => `(tactic| first | assumption | rfl | (simp [S2, gL, bL, slL, tlL, saL, tab_cons, tab, String.reduceEq, lk_cons, put_at]; done))
local macro_rules | `(tactic| walk_at "lo") => `(tactic| first | assumption | rfl | (rw [put_at, if_pos rfl]) | (rw [put_at, if_neg (by decide)]; walk_at "lo") | (simp [lk_cons, put_at]; done))
local macro_rules | `(tactic| walk_at "fd") => `(tactic| first | assumption | exact Hp.put_self _ _ _ | (refine (Hp.put_ne _ _ ?n).trans ?g; (case n => first | assumption | exact Ne.symm (by assumption)); (case g => walk_at "fd")))
local macro_rules | `(tactic| walk_at "at") => `(tactic| first
  | (refine' pattr_slot ?f ?g ?h ?k; (case f => walk_at "fd"); (case g => walk_at "tab"); (case h => first | assumption | rfl); (case k => rfl))
  | (refine' pattr_sat ?f ?g; (case f => exact KN.at (by assumption) (by first | assumption | decide)); (case g => walk_at "tab")))
local macro_rules | `(tactic| walk_at "le") => `(tactic| first | (refine' plen_ba ?f; (case f => walk_at "fd")) | (refine' plen_list ?f; (case f => walk_at "fd")) | (refine' plen_bytes ?f; (case f => simp; omega)))
local macro_rules | `(tactic| walk_at "ev") => `(tactic| first
  | (refine' pe_con ?g; (case g => rfl))
  | (refine' pe_loc ?n ?g ?h; (case n => decide); (case g => walk_at "sc"); (case h => walk_at "lo"))
  | (refine' pe_glob ?n ?g ?h; (case n => decide); (case g => walk_at "sc"); (case h => walk_at "tab"))
  | (refine' pe_attr ?n ?g ?h; (case n => rfl); (case g => walk_at "ev"); (case h => walk_at "at"))
  | (refine' pe_len ?n ?f ?g ?h; (case n => rfl); (case f => walk_at "ev"); (case g => walk_at "ev"); (case h => walk_at "le"))
  | (refine' pe_bin ?f ?g ?h; (case f => walk_at "ev"); (case g => walk_at "ev"); (case h => walk_at "op"))
  | (refine' pe_una ?f ?h; (case f => walk_at "ev"); (case h => rfl))
  | (refine' pe_cmp ?n ?f ?g ?h; (case n => rfl); (case f => walk_at "ev"); (case g => walk_at "ev"); (case h => rfl)))
local macro_rules | `(tactic| walk_at "te") => `(tactic| first
  | (refine' pt_cmp ?g ?h; (case g => walk_at "ev"); (case h => rfl))
  | (refine' pt_not ?g ?h; (case g => walk_at "te"); (case h => rfl))
  | (refine' pt_chain ?n ?f ?g ?h ?k1 ?k2 ?k3 ?k4 ?k5; (case n => rfl); (case f => walk_at "ev"); (case g => walk_at "ev"); (case h => walk_at "ev"); (case k1 => rfl); (case k2 => rfl); (case k3 => rfl); (case k4 => rfl); (case k5 => rfl))
  | (refine' pt_and ?f ?g ?h; (case f => walk_at "te"); (case g => walk_at "te"); (case h => rfl))
  | (refine' pt_or ?f ?g ?h; (case f => walk_at "te"); (case g => walk_at "te"); (case h => rfl))
  | (refine' pt_name ?g ?h; (case g => walk_at "ev"); (case h => rfl))
  | (refine' pt_attr ?g ?h; (case g => walk_at "ev"); (case h => rfl))
  | (refine' pt_bin ?g ?h; (case g => walk_at "ev"); (case h => rfl)))
local macro_rules | `(tactic| walk_at "EV") => `(tactic| (rw [‹Fm.sc _ = _›]; walk_at "ev"))
local macro_rules | `(tactic| walk_at "TE") => `(tactic| (rw [‹Fm.sc _ = _›]; walk_at "te"))
local macro_rules | `(tactic| walk_at "SC") => `(tactic| (rw [‹Fm.sc _ = _›]; walk_at "sc"))
local macro_rules | `(tactic| walk_at "SW") => `(tactic| (intro _; rfl))
local macro_rules | `(tactic| walk_at "let") => `(tactic| (refine' W_cons (W_Let (by assumption) (by assumption) ?k ?s (fun hn => ?h) rfl ?q); (case k => walk_at "SC"); (case s => walk_at "SW"); (case h => walk_at "EV"); dsimp only))
local macro_rules | `(tactic| walk_at "iv") => `(tactic| first | rfl | (congr 1; omega))
variable {C : Cx} {F : Fm} {A : Around} {σ : Hp} {ρ : Loc} {X : Value → Hp → Loc → Prop} {d : Nat} {Q : Value → Hp → Loc → Prop} {a b : Addr} {B : Bd} {ov : Value}
theorem BS.other {o : AObj} {x : Addr} (h : BS σ b a B) (h1 : x ≠ b) (h2 : x ≠ a) : BS (σ.put x o) b a B := by
  obtain ⟨dx, bs, hb, ha, r⟩ := h
  exact ⟨dx, bs, (Hp.put_ne _ _ (Ne.symm h1)).trans hb, (Hp.put_ne _ _ (Ne.symm h2)).trans ha, r⟩
/-- PrependUOffsetTRelativeSlot, something other than the default -/
theorem w_PrependUOffsetTRelativeSlot (l : L2 C) (ok : F.Ok C) (ar : Ar F A (d + 4)) (hov : er ov = .ref b) {sv xv dv : Value} {j n : Nat} {cl : Addr} {xs : List Value} (hs : er sv = .int j 0) (hx : er xv = .int n 0) (hd : er dv = .int 0 0) (h0 : n ≠ 0) (h : BS σ b a B) (hm : B.live.length + padOf 4 B.live.length + 4 ≤ 1048576) (hn : n ≤ B.live.length + padOf 4 B.live.length)
    (hv : B.nest = true) (hc : B.cv = .ref cl) (hcl : σ cl = some (.list xs)) (hj : j < xs.length)
    (q : ∀ σ' a', BS σ' b a' (placeB (prepB B 4 0) 4 ((B.live.length + padOf 4 B.live.length - n + 4 : Nat) : Int)) → Keep σ σ' b a a' → Q .none (σ'.put cl (.list (xs.set j (.int (B.live.length + padOf 4 B.live.length + 4 : Nat) 0)))) ρ) : W C F A (call (.ref 611) [ov, sv, xv, dv] []) σ ρ Q X := by
  have hbb := h
  obtain ⟨dx, bs, hb, ha, g1, g2, g3⟩ := hbb
  have nb : cl ≠ b := fun e => by rw [e, hb] at hcl; cases hcl
  have na : cl ≠ a := fun e => by rw [e, ha] at hcl; cases hcl
  refine' call2 [("self", .ref b), ("o", .int j 0), ("x", .int n 0), ("d", .int 0 0)] l ok ar ?ho ?hcd ?hbind ?hloc ?hcell ?hco ?hgen ?hk ?h
  walk_at "fb_enter"
  case hbind => exact ⟨[("self", ov), ("o", sv), ("x", xv), ("d", dv)], fun s _ => BindsTo.of_eq rfl, by simp [hov, hs, hx, hd]⟩
  intro F' A' ok' ar' hsc
  refine' W_cons (W_If' (b' := true) l ok' (fun hn => ?t) ?u (fun z => ?zy) (fun z => ?zn))
  case t => walk_at "TE"
  case u => simp [h0]
  case zn => cases z
  refine' W_cons (W_Do ok' ?x0 (W_CallMP (x := "PrependUOffsetTRelative") (f := 432) (args := [.int n 0]) l ok' (fun hn => ?x1) hb (by decide) rfl ?x2 (fun hn => ⟨?x3, trivial⟩) fun ov' vs e1 e2 => ?x4))
  case x0 => walk_at "SW"
  case x1 => walk_at "EV"
  case x2 => walk_at "SW"
  case x3 => walk_at "EV"
  obtain ⟨v, rfl, e3⟩ := one_of e2
  refine w_PrependUOffsetTRelative l ok' ar' e1 e3 h hm hn fun σ1 a1 hB1 hK1 => ?_
  have hbb := hB1
  obtain ⟨dx1, bs1, hb1, ha1, _⟩ := hbb
  dsimp only
  refine' W_cons (W_Do ok' ?y0 (W_CallMP (x := "Slot") (f := 496) (args := [.int j 0]) l ok' (fun hn => ?y1) hb1 (by decide) rfl ?y2 (fun hn => ⟨?y3, trivial⟩) fun ov' vs e1 e2 => ?y4))
  case y0 => walk_at "SW"
  case y1 => walk_at "EV"
  case y2 => walk_at "SW"
  case y3 => walk_at "EV"
  obtain ⟨v, rfl, e3⟩ := one_of e2
  have el : (placeB (prepB B 4 0) 4 ((B.live.length + padOf 4 B.live.length - n + 4 : Nat) : Int)).live.length = B.live.length + padOf 4 B.live.length + 4 := by simp [placeB, prepB, le_length]; omega
  refine w_Slot l ok' (ar'.mono (d' := 2) (by omega)) e1 e3 hB1 hv hc (hK1.old _ _ hcl nb na) hj (W_nil (W_nil ?_))
  rw [el]
  exact q σ1 a1 hB1 hK1

end Mine
end
/- part L02m -/
section
open PySem PySem.W PySem.Spec PySem.Calls PyProof.Rows
set_option Elab.async false
set_option maxRecDepth 100000
set_option maxHeartbeats 4000000
set_option linter.all false
namespace Mine
local macro_rules | `(tactic| walk_at "fb_enter") => `(tactic| (
  (case ho => k_is)
  (case hcd => k_is)
  (case hcell => decide)
  (case hco => rfl)
  (case hgen => rfl)
  (case hk => rfl)
  (case hloc => simp [lk_cons])))
local macro_rules | `(tactic| walk_at "op") => `(tactic| first | rfl | exact pbin_mulr (by decide) | exact pbin_mull (by decide))
local macro_rules | `(tactic| walk_at "sc") => `(tactic| first | (simp only [lk_cons, String.reduceEq, if_true, if_false, reduceCtorEq]; done) | rfl)
local macro_rules | `(tactic| walk_at "tab") => `(tactic| first | assumption | rfl | (simp [S2, gL, bL, slL, tlL, saL, tab_cons, tab, String.reduceEq, lk_cons, put_at]; done))
local macro_rules | `(tactic| walk_at "lo") => `(tactic| first | assumption | rfl | (rw [put_at, if_pos rfl]) | (rw [put_at, if_neg (by decide)]; walk_at "lo") | (simp [lk_cons, put_at]; done))
local macro_rules | `(tactic| walk_at "fd") => `(tactic| first | assumption | exact Hp.put_self _ _ _ | (refine (Hp.put_ne _ _ ?n).trans ?g; (case n => first | assumption | exact Ne.symm (by assumption)); (case g => walk_at "fd")))
local macro_rules | `(tactic| walk_at "at") => `(tactic| first
  | (refine' pattr_slot ?f ?g ?h ?k; (case f => walk_at "fd"); (case g => walk_at "tab"); (case h => first | assumption | rfl); (case k => rfl))
  | (refine' pattr_sat ?f ?g; (case f => exact KN.at (by assumption) (by decide)); (case g => walk_at "tab")))
local macro_rules | `(tactic| walk_at "le") => `(tactic| first | (refine' plen_ba ?f; (case f => walk_at "fd")) | (refine' plen_list ?f; (case f => walk_at "fd")) | (refine' plen_bytes ?f; (case f => simp; omega)))
local macro_rules | `(tactic| walk_at "ev") => `(tactic| first
  | (refine' pe_con ?g; (case g => rfl))
  | (refine' pe_loc ?n ?g ?h; (case n => decide); (case g => walk_at "sc"); (case h => walk_at "lo"))
  | (refine' pe_glob ?n ?g ?h; (case n => decide); (case g => walk_at "sc"); (case h => walk_at "tab"))
  | (refine' pe_attr ?n ?g ?h; (case n => rfl); (case g => walk_at "ev"); (case h => walk_at "at"))
  | (refine' pe_len ?n ?f ?g ?h; (case n => rfl); (case f => walk_at "ev"); (case g => walk_at "ev"); (case h => walk_at "le"))
  | (refine' pe_bin ?f ?g ?h; (case f => walk_at "ev"); (case g => walk_at "ev"); (case h => walk_at "op"))
  | (refine' pe_una ?f ?h; (case f => walk_at "ev"); (case h => rfl))
  | (refine' pe_cmp ?n ?f ?g ?h; (case n => rfl); (case f => walk_at "ev"); (case g => walk_at "ev"); (case h => rfl)))
local macro_rules | `(tactic| walk_at "te") => `(tactic| first
  | (refine' pt_cmp ?g ?h; (case g => walk_at "ev"); (case h => rfl))
  | (refine' pt_not ?g ?h; (case g => walk_at "te"); (case h => rfl))
  | (refine' pt_chain ?n ?f ?g ?h ?k1 ?k2 ?k3 ?k4 ?k5; (case n => rfl); (case f => walk_at "ev"); (case g => walk_at "ev"); (case h => walk_at "ev"); (case k1 => rfl); (case k2 => rfl); (case k3 => rfl); (case k4 => rfl); (case k5 => rfl))
  | (refine' pt_and ?f ?g ?h; (case f => walk_at "te"); (case g => walk_at "te"); (case h => rfl))
  | (refine' pt_or ?f ?g ?h; (case f => walk_at "te"); (case g => walk_at "te"); (case h => rfl))
  | (refine' pt_name ?g ?h; (case g => walk_at "ev"); (case h => rfl))
  | (refine' pt_attr ?g ?h; (case g => walk_at "ev"); (case h => rfl))
  | (refine' pt_bin ?g ?h; (case g => walk_at "ev"); (case h => rfl)))
local macro_rules | `(tactic| walk_at "EV") => `(tactic| (rw [‹Fm.sc _ = _›]; walk_at "ev"))
local macro_rules | `(tactic| walk_at "TE") => `(tactic| (rw [‹Fm.sc _ = _›]; walk_at "te"))
local macro_rules | `(tactic| walk_at "SC") => `(tactic| (rw [‹Fm.sc _ = _›]; walk_at "sc"))
local macro_rules | `(tactic| walk_at "SW") => `(tactic| (intro _; rfl))
local macro_rules | `(tactic| walk_at "let") => `(tactic| (refine' W_cons (W_Let (by assumption) (by assumption) ?k ?s (fun hn => ?h) rfl ?q); (case k => walk_at "SC"); (case s => walk_at "SW"); (case h => walk_at "EV"); dsimp only))
local macro_rules | `(tactic| walk_at "iv") => `(tactic| first | rfl | (congr 1; omega))
variable {C : Cx} {F : Fm} {A : Around} {σ : Hp} {ρ : Loc} {X : Value → Hp → Loc → Prop} {d : Nat} {Q : Value → Hp → Loc → Prop} {a b : Addr} {B : Bd} {ov : Value}
/-- PrependSlot of a number that is not the default -/
theorem call2C {name qual : Str} {params : Arguments} {body : List Stmt} {scope : Scope} {dV kV doc pm cdv ct oc : Value} {an od : Option Addr} {osl : Array (Option Value)} {f : Addr}
    (binds : List (Str × Value)) (l : L2 C) (ok : F.Ok C) (ar : Ar F A (d + 1)) {vs : List Value} {kw : List (Str × Value)} 
    (ho : (hd.heap_39 C.w.params).lookup f = some ⟨oc, od, .func (fnOf name qual params body scope dV kV doc pm an cdv ct), osl⟩) (hcd : codeIn (hd.heap_39 C.w.params) cdv qual = true)
    (hbind : ∃ bs : List (Str × Value), (∀ s : Shared, C.K.In s.heap → BindsTo s (fnOf name qual params body scope dV kV doc pm an cdv ct) ⟨vs, kw⟩ bs) ∧ bs.map (fun p => (p.1, er p.2)) = binds)
    (hloc : ∀ x ∈ binds, scope.names.lookup x.1 = some .local) (hcell : ∀ x ∈ scope.names, x.2 ≠ .cell) (hco : scope.isCoroutine = false) (hgen : scope.isGenerator = false) (hk : scope.kind = .function)
    (h : ∀ F' A', F'.Ok C → Ar F' A' d → F'.sc = scope → W C F' A' (execs body F'.env) σ (fun x => binds.reverse.lookup x) (fun fl σ' _ => Q (flv fl) σ' ρ) (fun c σ' _ => X c σ' ρ)) :
    CallN C F A (.ref f) vs kw σ ρ Q X := call_fnC l.ok ok ar (by rw [l.k]; exact ho) (by rw [l.k]; exact hcd) hbind hloc hcell hco hgen hk h
theorem w_PrependSlot (l : L2 C) (ok : F.Ok C) (ar : Ar F A (d + 4)) (hov : er ov = .ref b) {fv sv xv dv : Value} {f st : Addr} {c : Char} {k j : Nat} {n m : Int} {cl : Addr} {xs : List Value} (hf : er fv = .ref f) (hs : er sv = .int j 0) (hx : er xv = .int n 0) (hd : er dv = .int m 0) (h0 : n ≠ m) (fl : FL C f c k st) (hS : ST C st c k) (h : BS σ b a B) (hp : PA k)
    (hm : B.live.length + padOf k B.live.length + k ≤ 1048576) (h1 : loOf c k ≤ n) (h2 : n ≤ hiOf c k) (h3 : loOf c k ≤ m) (h4 : m ≤ hiOf c k) (hv : B.nest = true) (hc : B.cv = .ref cl) (hcl : σ cl = some (.list xs)) (hj : j < xs.length)
    (q : ∀ σ' a', BS σ' b a' (placeB (prepB B k 0) k n) → Keep σ σ' b a a' → Q .none (σ'.put cl (.list (xs.set j (.int (B.live.length + padOf k B.live.length + k : Nat) 0)))) ρ) : CallN C F A (.ref 534) [ov, fv, sv, xv, dv] [] σ ρ Q X := by
  obtain ⟨fm, fmin, fmax, fbw, fpk⟩ := id fl
  have hbb := h
  obtain ⟨dx, bs, hb, ha, g1, g2, g3⟩ := hbb
  have nb : cl ≠ b := fun e => by rw [e, hb] at hcl; cases hcl
  have na : cl ≠ a := fun e => by rw [e, ha] at hcl; cases hcl
  refine' call2C [("self", .ref b), ("flags", .ref f), ("o", .int j 0), ("x", .int n 0), ("d", .int m 0)] l ok ar ?ho ?hcd ?hbind ?hloc ?hcell ?hco ?hgen ?hk ?h
  walk_at "fb_enter"
  case hbind => exact ⟨[("self", ov), ("flags", fv), ("o", sv), ("x", xv), ("d", dv)], fun s _ => BindsTo.of_eq rfl, by simp [hov, hf, hs, hx, hd]⟩
  intro F' A' ok' ar' hsc
  refine' W_cons (W_If' (b' := true) l ok' (fun hn => ?t1) rfl (fun z => ?zy1) (fun z => ?zn1))
  case t1 => walk_at "TE"
  case zn1 => cases z
  refine' W_cons (W_Do ok' ?x0 (W_CallNP (args := [.int n 0, .ref f]) l ok' (fun hn => ?x1) ?x2 (fn2 l (f := 152) (by decide)) rfl ?x3 (fun hn => ⟨?x4, ?x5, trivial⟩) fun vs hvs => ?x6))
  case x0 => walk_at "SW"
  case x1 => walk_at "EV"
  case x2 => (intro v hv; exact er_ref_inv hv)
  case x3 => walk_at "SW"
  case x4 => walk_at "EV"
  case x5 => walk_at "EV"
  obtain ⟨v1, v2, rfl, y1, y2⟩ := two_of hvs
  refine w_enf l ok' (ar'.mono (d' := 1) (by omega)) y1 y2 fm fmin fmax h1 h2 (W_nil ?_)
  dsimp only
  refine' W_cons (W_If' (b' := true) l ok' (fun hn => ?t2) rfl (fun z => ?zy2) (fun z => ?zn2))
  case t2 => walk_at "TE"
  case zn2 => cases z
  refine' W_cons (W_Do ok' ?u0 (W_CallNP (args := [.int m 0, .ref f]) l ok' (fun hn => ?u1) ?u2 (fn2 l (f := 152) (by decide)) rfl ?u3 (fun hn => ⟨?u4, ?u5, trivial⟩) fun vs hvs => ?u6))
  case u0 => walk_at "SW"
  case u1 => walk_at "EV"
  case u2 => (intro v hv; exact er_ref_inv hv)
  case u3 => walk_at "SW"
  case u4 => walk_at "EV"
  case u5 => walk_at "EV"
  obtain ⟨v1, v2, rfl, y1, y2⟩ := two_of hvs
  refine w_enf l ok' (ar'.mono (d' := 1) (by omega)) y1 y2 fm fmin fmax h3 h4 (W_nil ?_)
  dsimp only
  refine' W_cons (W_If' (b' := true) l ok' (fun hn => ?t3) ?t4 (fun z => ?zy3) (fun z => ?zn3))
  case t3 => walk_at "TE"
  case t4 => simp [h0]
  case zn3 => cases z
  refine' W_cons (W_Do ok' ?r0 (W_CallMP (x := "Prepend") (f := 527) (args := [.ref f, .int n 0]) l ok' (fun hn => ?r1) hb (by decide) rfl ?r2 (fun hn => ⟨?r3, ?r4, trivial⟩) fun ov' vs e1 e2 => ?r5))
  case r0 => walk_at "SW"
  case r1 => walk_at "EV"
  case r2 => walk_at "SW"
  case r3 => walk_at "EV"
  case r4 => walk_at "EV"
  obtain ⟨v1, v2, rfl, y1, y2⟩ := two_of e2
  refine w_Prepend l ok' ar' e1 y2 y1 fl hS h hp hm h1 h2 fun σ1 a1 hB1 hK1 => ?_
  have hbb := hB1
  obtain ⟨dx1, bs1, hb1, ha1, _⟩ := hbb
  dsimp only
  refine' W_cons (W_Do ok' ?y0 (W_CallMP (x := "Slot") (f := 496) (args := [.int j 0]) l ok' (fun hn => ?y1) hb1 (by decide) rfl ?y2 (fun hn => ⟨?y3, trivial⟩) fun ov' vs e1 e2 => ?y4))
  case y0 => walk_at "SW"
  case y1 => walk_at "EV"
  case y2 => walk_at "SW"
  case y3 => walk_at "EV"
  obtain ⟨v, rfl, e3⟩ := one_of e2
  have el : (placeB (prepB B k 0) k n).live.length = B.live.length + padOf k B.live.length + k := by simp [placeB, prepB, le_length]; omega
  refine w_Slot l ok' (ar'.mono (d' := 2) (by omega)) e1 e3 hB1 hv hc (hK1.old _ _ hcl nb na) hj (W_nil (W_nil ?_))
  rw [el]
  exact q σ1 a1 hB1 hK1

end Mine
end
/- part L02n -/
section
open PySem PySem.W PySem.Spec PySem.Calls PyProof.Rows
set_option Elab.async false
set_option maxRecDepth 100000
set_option maxHeartbeats 4000000
set_option linter.all false
namespace Mine
local macro_rules | `(tactic| walk_at "fb_enter") => `(tactic| (
  (case ho => k_is)
  (case hcd => k_is)
  (case hcell => decide)
  (case hco => rfl)
  (case hgen => rfl)
  (case hk => rfl)
  (case hloc => simp [lk_cons])))
local macro_rules | `(tactic| walk_at "op") => `(tactic| first | rfl | exact pbin_mulr (by decide) | exact pbin_mull (by decide))
local macro_rules | `(tactic| walk_at "sc") => `(tactic| first | (simp only [lk_cons, String.reduceEq, if_true, if_false, reduceCtorEq]; done) | rfl)
local macro_rules | `(tactic| walk_at "tab") => `(tactic| first | assumption | rfl | (simp [S2, gL, bL, slL, tlL, saL, tab_cons, tab, String.reduceEq, lk_cons, put_at]; done))
local macro_rules | `(tactic| walk_at "lo") => `(tactic| first | assumption | rfl | (rw [put_at, if_pos rfl]) | (rw [put_at, if_neg (by decide)]; walk_at "lo") | (simp [lk_cons, put_at]; done))
local macro_rules | `(tactic| walk_at "fd") => `(tactic| first | assumption | exact Hp.put_self _ _ _ | (refine (Hp.put_ne _ _ ?n).trans ?g; (case n => first | assumption | exact Ne.symm (by assumption)); (case g => walk_at "fd")))
local macro_rules | `(tactic| walk_at "at") => `(tactic| first
  | (refine' pattr_slot ?f ?g ?h ?k; (case f => walk_at "fd"); (case g => walk_at "tab"); (case h => first | assumption | rfl); (case k => rfl))
  | (refine' pattr_sat ?f ?g; (case f => exact KN.at (by assumption) (by decide)); (case g => walk_at "tab")))
local macro_rules | `(tactic| walk_at "le") => `(tactic| first | (refine' plen_ba ?f; (case f => walk_at "fd")) | (refine' plen_list ?f; (case f => walk_at "fd")) | (refine' plen_bytes ?f; (case f => simp; omega)))
local macro_rules | `(tactic| walk_at "ev") => `(tactic| first
  | (refine' pe_con ?g; (case g => rfl))
  | (refine' pe_loc ?n ?g ?h; (case n => decide); (case g => walk_at "sc"); (case h => walk_at "lo"))
  | (refine' pe_glob ?n ?g ?h; (case n => decide); (case g => walk_at "sc"); (case h => walk_at "tab"))
  | (refine' pe_attr ?n ?g ?h; (case n => rfl); (case g => walk_at "ev"); (case h => walk_at "at"))
  | (refine' pe_len ?n ?f ?g ?h; (case n => rfl); (case f => walk_at "ev"); (case g => walk_at "ev"); (case h => walk_at "le"))
  | (refine' pe_bin ?f ?g ?h; (case f => walk_at "ev"); (case g => walk_at "ev"); (case h => walk_at "op"))
  | (refine' pe_una ?f ?h; (case f => walk_at "ev"); (case h => rfl))
  | (refine' pe_cmp ?n ?f ?g ?h; (case n => rfl); (case f => walk_at "ev"); (case g => walk_at "ev"); (case h => rfl)))
local macro_rules | `(tactic| walk_at "te") => `(tactic| first
  | (refine' pt_cmp ?g ?h; (case g => walk_at "ev"); (case h => rfl))
  | (refine' pt_not ?g ?h; (case g => walk_at "te"); (case h => rfl))
  | (refine' pt_chain ?n ?f ?g ?h ?k1 ?k2 ?k3 ?k4 ?k5; (case n => rfl); (case f => walk_at "ev"); (case g => walk_at "ev"); (case h => walk_at "ev"); (case k1 => rfl); (case k2 => rfl); (case k3 => rfl); (case k4 => rfl); (case k5 => rfl))
  | (refine' pt_and ?f ?g ?h; (case f => walk_at "te"); (case g => walk_at "te"); (case h => rfl))
  | (refine' pt_or ?f ?g ?h; (case f => walk_at "te"); (case g => walk_at "te"); (case h => rfl))
  | (refine' pt_name ?g ?h; (case g => walk_at "ev"); (case h => rfl))
  | (refine' pt_attr ?g ?h; (case g => walk_at "ev"); (case h => rfl))
  | (refine' pt_bin ?g ?h; (case g => walk_at "ev"); (case h => rfl)))
local macro_rules | `(tactic| walk_at "EV") => `(tactic| (rw [‹Fm.sc _ = _›]; walk_at "ev"))
local macro_rules | `(tactic| walk_at "TE") => `(tactic| (rw [‹Fm.sc _ = _›]; walk_at "te"))
local macro_rules | `(tactic| walk_at "SC") => `(tactic| (rw [‹Fm.sc _ = _›]; walk_at "sc"))
local macro_rules | `(tactic| walk_at "SW") => `(tactic| (intro _; rfl))
local macro_rules | `(tactic| walk_at "let") => `(tactic| (refine' W_cons (W_Let (by assumption) (by assumption) ?k ?s (fun hn => ?h) rfl ?q); (case k => walk_at "SC"); (case s => walk_at "SW"); (case h => walk_at "EV"); dsimp only))
local macro_rules | `(tactic| walk_at "iv") => `(tactic| first | rfl | (congr 1; omega))
variable {C : Cx} {F : Fm} {A : Around} {σ : Hp} {ρ : Loc} {X : Value → Hp → Loc → Prop} {d : Nat} {Q : Value → Hp → Loc → Prop} {a b : Addr} {B : Bd} {ov : Value}
theorem call2V {name qual : Str} {params : Arguments} {body : List Stmt} {scope : Scope} {dV kV doc pm cdv ct oc : Value} {an od : Option Addr} {osl : Array (Option Value)} {f : Addr} (l : L2 C) (ok : F.Ok C) (ar : Ar F A (d + 1)) {vs : List Value} (rest : List Value) {g₁ : Addr → Option (List (Str × Value))} (bs binds : Addr → List (Str × Value))
    (ho : (hd.heap_39 C.w.params).lookup f = some ⟨oc, od, .func (fnOf name qual params body scope dV kV doc pm an cdv ct), osl⟩) (hcd : codeIn (hd.heap_39 C.w.params) cdv qual = true)
    (hp : peek1 C.K ⟨C.prog, C.w.params⟩ (bindArgs (fnOf name qual params body scope dV kV doc pm an cdv ct) ⟨vs, []⟩) = some (({ cls := .type "tuple", data := .seq rest.toArray } : Obj), g₁))
    (hg : ∀ D, g₁ D = some (bs D)) (hbs : ∀ D, (bs D).map (fun p => (p.1, er p.2)) = binds D) (hz : rest.length ≤ sizeLine)
    (hloc : ∀ D, ∀ x ∈ binds D, scope.names.lookup x.1 = some .local) (hcell : ∀ x ∈ scope.names, x.2 ≠ .cell) (hco : scope.isCoroutine = false) (hgen : scope.isGenerator = false) (hk : scope.kind = .function)
    (h : ∀ D F' A', σ D = none → F'.Ok C → Ar F' A' d → F'.sc = scope → W C F' A' (execs body F'.env) (σ.put D (.tup (rest.map er))) (fun x => (binds D).reverse.lookup x) (fun fl σ' _ => Q (flv fl) σ' ρ) (fun c σ' _ => X c σ' ρ)) :
    W C F A (call (.ref f) vs []) σ ρ Q X := call_fnV l.ok ok ar (by rw [l.k]; exact ho) (by rw [l.k]; exact hcd) hp hg hbs hz hloc hcell hco hgen hk h
theorem bd534 (P : Params) : boundChk (hd.heap_39 P) 734 "PrependSlot" 534 = true := by kernel_rfl
/-- a Builder's method with a starred argument -/
theorem W_CallMS {x : String} {o : Expr} {ap pos : Pos} {e0 : Expr} {es : List Expr} {f dx : Addr} {sl : List (Option Value)} (l : L2 C) (ok : F.Ok C) (ho : KN σ → pe S2 F.sc σ ρ o = some (.ref b)) (eb : σ b = some (.inst 734 dx sl)) (hm : boundChk (hd.heap_39 C.w.params) 734 (Str.ofString x) f = true) (hs : stars es = true) (hh : ∀ env, starEach (e0 :: es) env = (false, eval e0 env) :: starEach es env)
    (he : ∀ env, eval (.Call (.Attribute o (Str.ofString x) ap) (e0 :: es) [] pos) env = (do let ov ← eval o env; standAt ap.atName; let fx ← holding [ov] (do let r ← getAttr ov (Str.ofString x) true; pure (r, ([] : List Value))); callWith pos fx.1 fx.2 (backTo pos (starEach (e0 :: es) env)) []))
    (h : ∀ q, σ q = none → W C F A (spliced (backTo pos (starEach (e0 :: es) F.env))) (σ.put q (.raw (methodObj (.ref f) (.ref b)))) ρ (fun args σ₁ ρ₁ => σ₁ q = some (.raw (methodObj (.ref f) (.ref b))) ∧ ∀ vs, vs.map er = args → CallN C F A (.ref f) (.ref b :: vs) [] σ₁ ρ₁ Q X) X) : W C F A (eval (.Call (.Attribute o (Str.ofString x) ap) (e0 :: es) [] pos) F.env) σ ρ Q X :=
  W_kn2 l ok fun hn => W_CallBS ok l.ok (S2_ok l) (ho hn) eb (by rw [l.k]; exact boundChk_ok hm) hs hh h (he _)
/-- a Builder's method with a keyword argument -/
theorem W_CallMK {x : String} {n : Str} {o : Expr} {ap pos kp : Pos} {e0 : Expr} {es : List Expr} {ke : Expr} {kv : Value} {f dx : Addr} {sl : List (Option Value)} {args : List Value} {pl : Env → Sem Bool} (l : L2 C) (ok : F.Ok C) (ho : KN σ → pe S2 F.sc σ ρ o = some (.ref b)) (eb : σ b = some (.inst 734 dx sl)) (hm : (x, f) ∈ meL) (hs : noStar (e0 :: es) = true)
    (he : ∀ env, eval (.Call (.Attribute o (Str.ofString x) ap) (e0 :: es) [⟨some n, ke, kp⟩] pos) env = (do let ov ← eval o env; standAt ap.atName; let fx ← holding [ov] (getMethod ov (Str.ofString x) (pl env)); callWith pos fx.1 fx.2 (backTo pos (starEach (e0 :: es) env)) [(some n, (do let v ← eval ke env; standAt pos; pure v))]))
    (ha : KN σ → PEs S2 F.sc σ ρ (e0 :: es) args) (hkv : KN σ → pe S2 F.sc σ ρ ke = some kv)
    (h : ∀ ov vs v, er ov = .ref b → vs.map er = args → er v = kv → W C F A (call (.ref f) (ov :: vs) [(n, v)]) σ ρ Q X) : W C F A (eval (.Call (.Attribute o (Str.ofString x) ap) (e0 :: es) [⟨some n, ke, kp⟩] pos) F.env) σ ρ Q X :=
  W_kn2 l ok fun hn => W_CallAK ok l.ok (S2_ok l) (ho hn) (gm_inst ok l.ok eb (meth2 l hm).1) (meth2 l hm).2 hs (pes_mapM (ha hn)) (hkv hn) (fun ov vs v h1 h2 h3 => h ov vs v h1 h2 h3) (he _)

theorem Keep.put0 {σ σ' : Hp} {b a a' D : Addr} {o : AObj} (hD : σ D = none) (h : Keep (σ.put D o) σ' b a a') (nb : b ≠ D) (na : a ≠ D) : (∀ x o, σ x = some o → x ≠ b → x ≠ a → σ' x = some o) ∧ (a' = a ∨ σ a' = none) := by
  refine ⟨fun x w e h1 h2 => h.old x w ?_ h1 h2, ?_⟩
  · exact (Hp.put_ne _ _ (fun z => by rw [z, hD] at e; cases e)).trans e
  · rcases h.at_ with q | q
    · exact .inl q
    · right
      by_cases z : a' = D
      · rw [z] at q; rw [Hp.put_self] at q; cases q
      · rw [Hp.put_ne _ _ z] at q; exact q
theorem BS.put_new {σ : Hp} {D : Addr} {o : AObj} (h : BS σ b a B) (hD : σ D = none) : BS (σ.put D o) b a B := by
  obtain ⟨dx, bs, hb, ha, h1, h2, h3⟩ := h
  exact ⟨dx, bs, (Hp.put_ne _ _ (fun z => by rw [z, hD] at hb; cases hb)).trans hb, (Hp.put_ne _ _ (fun z => by rw [z, hD] at ha; cases ha)).trans ha, h1, h2, h3⟩
/-- PrependUint8Slot, not the default -/
theorem w_PrependUint8Slot (l : L2 C) (ok : F.Ok C) (ar : Ar F A (d + 5)) (hov : er ov = .ref b) {sv xv dv : Value} {j : Nat} {n m : Int} {cl : Addr} {xs : List Value} (hs : er sv = .int j 0) (hx : er xv = .int n 0) (hd : er dv = .int m 0) (h0 : n ≠ m) (h : BS σ b a B)
    (hm : B.live.length + padOf 1 B.live.length + 1 ≤ 1048576) (h1 : 0 ≤ n) (h2 : n ≤ 255) (h3 : 0 ≤ m) (h4 : m ≤ 255) (hv : B.nest = true) (hc : B.cv = .ref cl) (hcl : σ cl = some (.list xs)) (hj : j < xs.length)
    (q : ∀ σ' a', BS σ' b a' (placeB (prepB B 1 0) 1 n) → (∀ x o, σ x = some o → x ≠ b → x ≠ a → x ≠ cl → σ' x = some o) → σ' cl = some (.list (xs.set j (.int (B.live.length + padOf 1 B.live.length + 1 : Nat) 0))) → Q .none σ' ρ) : W C F A (call (.ref 555) [ov, sv, xv, dv] []) σ ρ Q X := by
  obtain ⟨dx, bs, hb, ha, g1, g2, g3⟩ := id h
  have nb : cl ≠ b := fun e => by rw [e, hb] at hcl; cases hcl
  have na : cl ≠ a := fun e => by rw [e, ha] at hcl; cases hcl
  refine' call2V l ok ar [sv, xv, dv] (fun D => [("self", ov), ("args", .ref D)]) (fun D => [("self", .ref b), ("args", .ref D)]) ?ho ?hcd ?hp ?hg ?hbs ?hz ?hloc ?hcell ?hco ?hgen ?hk ?h
  case ho => k_is
  case hcd => k_is
  case hp => exact rfl
  case hg => exact fun _ => rfl
  case hbs => exact fun D => by simp [hov]
  case hz => (show (3 : Nat) ≤ sizeLine; decide)
  case hloc => exact fun D => by simp [lk_cons]
  case hcell => decide
  case hco => rfl
  case hgen => rfl
  case hk => rfl
  intro D F' A' hD ok' ar' hsc
  have nbD : b ≠ D := fun z => by rw [z, hD] at hb; cases hb
  have naD : a ≠ D := fun z => by rw [z, hD] at ha; cases ha
  have nclD : cl ≠ D := fun z => by rw [z, hD] at hcl; cases hcl
  have hb' : (σ.put D (.tup ([sv, xv, dv].map er))) b = some (.inst 734 dx (slots B a bs.length)) := (Hp.put_ne _ _ nbD).trans hb
  have hD' : (σ.put D (.tup ([sv, xv, dv].map er))) D = some (.tup ([sv, xv, dv].map er)) := Hp.put_self _ _ _
  have hcl' : (σ.put D (.tup ([sv, xv, dv].map er))) cl = some (.list xs) := (Hp.put_ne _ _ nclD).trans hcl
  have hB' := h.put_new (o := .tup ([sv, xv, dv].map er)) hD
  refine' W_cons (W_Do ok' ?x0 (W_CallMS (x := "PrependSlot") (f := 534) l ok' (fun hn => ?x1) hb' (bd534 _) rfl ?x2 ?x3 fun D2 hD2 => W_args_cons ?x4 (W_pe' (v := .ref 63) l ok' (fun hn => ?x5) rfl (W_kn2 l ok' fun hn => W_args_star (tp := D) ok' l.ok (S2_ok l) ?x6 ?x8 ?x7))))
  case x0 => walk_at "SW"
  case x1 => walk_at "EV"
  case x2 => walk_at "SW"
  case x3 => walk_at "SW"
  case x4 => rfl
  case x5 => walk_at "EV"
  case x6 => walk_at "EV"
  case x8 => exact (Hp.put_ne _ _ (fun z => by rw [← z, hD'] at hD2; cases hD2)).trans hD'
  have nb2 : b ≠ D2 := fun z => by rw [← z, hb'] at hD2; cases hD2
  have na2 : a ≠ D2 := fun z => by
    rw [← z, (Hp.put_ne _ _ naD).trans ha] at hD2; cases hD2
  have ncl2 : cl ≠ D2 := fun z => by rw [← z, hcl'] at hD2; cases hD2
  have hB2 := hB'.put_new (o := .raw (methodObj (.ref 534) (.ref b))) hD2
  refine ⟨Hp.put_self _ _ _, fun vs e2 => ?_⟩
  have e2 : vs.map er = [.ref 63, er sv, er xv, er dv] := e2
  obtain ⟨v1, v2, v3, v4, rfl, y1, y2, y3, y4⟩ := four_of e2
  refine w_PrependSlot l ok' ar' (er_ref b) y1 (y2.trans hs) (y3.trans hx) (y4.trans hd) h0 fl63 (st50 l) hB2 (.inl rfl) hm h1 h2 h3 h4 hv hc ((Hp.put_ne _ _ ncl2).trans hcl') hj fun σ1 a1 hB1 hK1 => W_nil ?_
  have k2 := Keep.put0 hD2 hK1 nb2 na2
  have k : ∀ x o, σ x = some o → x ≠ b → x ≠ a → σ1 x = some o := fun x o e h1 h2 => k2.1 x o ((Hp.put_ne _ _ (fun z => by rw [z, hD] at e; cases e)).trans e) h1 h2
  have hcl1 : σ1 cl = some (.list xs) := k _ _ hcl nb na
  refine q _ a1 (hB1.other nb fun z => ?_) (fun x o e h1 h2 h3 => (Hp.put_ne _ _ h3).trans (k x o e h1 h2)) (Hp.put_self _ _ _)
  obtain ⟨_, bs1, _, ha1, _⟩ := hB1
  rw [z, ha1] at hcl1; cases hcl1

def finB (B : Bd) (m n : Nat) : Bd := { placeB (prepB (prepB B m 4) 4 0) 4 (((prepB B m 4).live.length + padOf 4 (prepB B m 4).live.length - n + 4 : Nat) : Int) with fin := true }
theorem Keep.sl {σ : Hp} {b a : Addr} {o : AObj} : Keep σ (σ.put b o) b a a := .one
/-- __Finish, no size ahead, no identifier -/
theorem w_Finish_ (l : L2 C) (ok : F.Ok C) (ar : Ar F A (d + 4)) (hov : er ov = .ref b) {rv sv iv : Value} {n m : Nat} (hr : er rv = .int n 0) (hs : er sv = .bool false) (hi : er iv = .none) (h : BS σ b a B) (hma : B.ma = m) (hpa : PA m)
    (hm : B.live.length + padOf m (B.live.length + 4) + m + 16 ≤ 1048576) (hn : n ≤ B.live.length) (hn2 : n ≤ 4294967295)
    (q : ∀ k σ' a', BS σ' b a' (finB B m n) → Keep σ σ' b a a' → Q (.int k 0) σ' ρ) : W C F A (call (.ref 504) [ov, rv, sv] [(Str.ofString "file_identifier", iv)]) σ ρ Q X := by
  obtain ⟨dx, bs, hb, ha, g1, g2, g3⟩ := id h
  refine' call2 [("self", .ref b), ("rootTable", .int n 0), ("sizePrefix", .bool false), ("file_identifier", .none)] l ok ar ?ho ?hcd ?hbind ?hloc ?hcell ?hco ?hgen ?hk ?h
  walk_at "fb_enter"
  case hbind => exact ⟨[("self", ov), ("rootTable", rv), ("sizePrefix", sv), ("file_identifier", iv)], fun s X => by rw [l.k] at X; exact kp_binds X fun _ => rfl, by simp [hov, hr, hs, hi]⟩
  intro F' A' ok' ar' hsc
  refine' W_cons (W_Do ok' ?e1s (W_CallNP (args := [.int n 0, .ref 131]) l ok' (fun hn => ?e1o) ?e1r (fn2 l (f := 152) (by decide)) rfl ?e1e (fun hn => ⟨?e1a0, ?e1a1, trivial⟩) fun vs e2 => ?e1z))
  case e1s => walk_at "SW"
  case e1o => walk_at "EV"
  case e1r => (intro v hv; exact er_ref_inv hv)
  case e1e => walk_at "SW"
  case e1a0 => walk_at "EV"
  case e1a1 => walk_at "EV"
  obtain ⟨v1, v2, rfl, y1, y2⟩ := two_of e2
  refine w_enf l ok' (ar'.mono (d' := 1) (by omega)) y1 y2 (fl131 (C := C)).mem (fl131 (C := C)).min (fl131 (C := C)).max (by show (0 : Int) ≤ (n : Int); omega) (by show (n : Int) ≤ (4294967295 : Int); omega) ?_
  dsimp only
  walk_at "let"
  refine' W_cons (W_If' (b' := false) l ok' (fun hn => ?f1t) rfl (fun z => ?f1y) (fun z => ?f1n))
  case f1t => walk_at "TE"
  case f1y => cases z
  case f1n =>
  refine W_nil ?_
  refine' W_cons (W_If' (b' := false) l ok' (fun hn => ?f2t) rfl (fun z => ?f2y) (fun z => ?f2n))
  case f2t => walk_at "TE"
  case f2y => cases z
  case f2n =>
  refine W_nil ?_
  refine' W_cons (W_Do ok' ?p1s (W_CallMP (x := "Prep") (f := 418) (args := [.int B.ma 0, .int 4 0]) l ok' (fun hn => ?p1o) hb (by decide) rfl ?p1e (fun hn => ⟨?p1a0, ?p1a1, trivial⟩) fun ov' vs e1 e2 => ?p1z))
  case p1s => walk_at "SW"
  case p1o => walk_at "EV"
  case p1e => walk_at "SW"
  case p1a0 => walk_at "EV"
  case p1a1 => walk_at "EV"
  obtain ⟨v1, v2, rfl, y1, y2⟩ := two_of e2
  refine w_Prep l ok' (ar'.mono (d' := 2) (by omega)) e1 (size := m) (add := 4) (by rw [y1, hma]) y2 h hpa (by omega) fun σ1 a1 hB1 hK1 => ?_
  dsimp only
  refine' W_cons (W_If' (b' := false) l ok' (fun hn => ?f3t) rfl (fun z => ?f3y) (fun z => ?f3n))
  case f3t => walk_at "TE"
  case f3y => cases z
  case f3n =>
  refine W_nil ?_
  obtain ⟨dx1, bs1, hb1, ha1, _⟩ := id hB1
  refine' W_cons (W_Do ok' ?p2s (W_CallMP (x := "PrependUOffsetTRelative") (f := 432) (args := [.int n 0]) l ok' (fun hn => ?p2o) hb1 (by decide) rfl ?p2e (fun hn => ⟨?p2a0, trivial⟩) fun ov' vs e1 e2 => ?p2z))
  case p2s => walk_at "SW"
  case p2o => walk_at "EV"
  case p2e => walk_at "SW"
  case p2a0 => walk_at "EV"
  obtain ⟨v1, rfl, y1⟩ := one_of e2
  have el : (prepB B m 4).live.length = B.live.length + padOf m (B.live.length + 4) := by simp [prepB]; omega
  have p4 : padOf 4 (prepB B m 4).live.length < 4 := by unfold padOf; omega
  refine w_PrependUOffsetTRelative l ok' ar' e1 y1 hB1 (by omega) (by omega) fun σ2 a2 hB2 hK2 => ?_
  dsimp only
  refine' W_cons (W_If' (b' := false) l ok' (fun hn => ?f4t) rfl (fun z => ?f4y) (fun z => ?f4n))
  case f4t => walk_at "TE"
  case f4y => cases z
  case f4n =>
  refine W_nil ?_
  obtain ⟨dx2, bs2, hb2, ha2, r1, r2, r3⟩ := id hB2
  refine' W_cons (W_Set (i := 2) l ok' ?s1he (W_pe' l ok' (fun hn => ?s1h1) rfl ⟨fun hn => ?s1h2, ?s1h3, ?s1h4, ?s1h5, ?s1z⟩))
  case s1he => walk_at "SW"
  case s1h1 => walk_at "EV"
  case s1h2 => walk_at "EV"
  case s1h3 => walk_at "fd"
  case s1h4 => decide
  case s1h5 => exact Nat.le_of_ble_eq_true rfl
  dsimp only
  have hne := hB2.ne
  refine' W_cons (W_Return (W_pe' l ok' (fun hn => ?r1) rfl ?r2))
  case r1 => walk_at "EV"
  refine q _ _ a2 (bs_intro (Hp.put_self _ _ _) ((Hp.put_ne _ _ hne).trans ha2) ?_ r1 r2 r3) ((hK1.trans hK2 ?_ hne).trans .one ?_ hne)
  · simp [slots, finB]
  · rw [hb1]; rfl
  · rw [hb2]; rfl
/-- Finish -/
theorem w_Finish (l : L2 C) (ok : F.Ok C) (ar : Ar F A (d + 5)) (hov : er ov = .ref b) {rv : Value} {n m : Nat} (hr : er rv = .int n 0) (h : BS σ b a B) (hma : B.ma = m) (hpa : PA m)
    (hm : B.live.length + padOf m (B.live.length + 4) + m + 16 ≤ 1048576) (hn : n ≤ B.live.length) (hn2 : n ≤ 4294967295)
    (q : ∀ k σ' a', BS σ' b a' (finB B m n) → Keep σ σ' b a a' → Q (.int k 0) σ' ρ) : W C F A (call (.ref 512) [ov, rv] []) σ ρ Q X := by
  obtain ⟨dx, bs, hb, ha, g1, g2, g3⟩ := id h
  refine' call2 [("self", .ref b), ("rootTable", .int n 0), ("file_identifier", .none)] l ok ar ?ho ?hcd ?hbind ?hloc ?hcell ?hco ?hgen ?hk ?h
  walk_at "fb_enter"
  case hbind => exact ⟨[("self", ov), ("rootTable", rv), ("file_identifier", .none)], fun s X => by rw [l.k] at X; exact kp_binds X fun _ => rfl, by simp [hov, hr]⟩
  intro F' A' ok' ar' hsc
  refine' W_cons (W_Return (W_CallMK (x := "_Builder__Finish") (f := 504) (args := [.int n 0, .bool false]) (kv := .none) l ok' (fun hn => ?x1) hb (by decide) rfl ?x2 (fun hn => ⟨?x3, ?x4, trivial⟩) (fun hn => ?x5) fun ov' vs v e1 e2 e3 => ?x6))
  case x1 => walk_at "EV"
  case x2 => walk_at "SW"
  case x3 => walk_at "EV"
  case x4 => walk_at "EV"
  case x5 => walk_at "EV"
  obtain ⟨v1, v2, rfl, y1, y2⟩ := two_of e2
  exact w_Finish_ l ok' ar' e1 y1 y2 e3 h hma hpa hm hn hn2 q

end Mine
end
/- part L02o -/
section
open PySem PySem.W PySem.Spec PySem.Calls PyProof.Rows
set_option Elab.async false
set_option maxRecDepth 100000
set_option maxHeartbeats 4000000
set_option linter.all false
namespace Mine
local macro_rules | `(tactic| walk_at "fb_enter") => `(tactic| (
  (case ho => k_is)
  (case hcd => k_is)
  (case hcell => decide)
  (case hco => rfl)
  (case hgen => rfl)
  (case hk => rfl)
  (case hloc => simp [lk_cons])))
local macro_rules | `(tactic| walk_at "op") => `(tactic| first | rfl | exact pbin_mulr (by decide) | exact pbin_mull (by decide))
local macro_rules | `(tactic| walk_at "sc") => `(tactic| first | (simp only [lk_cons, String.reduceEq, if_true, if_false, reduceCtorEq]; done) | rfl)
local macro_rules | `(tactic| walk_at "tab") => `(tactic| first | assumption | rfl | (simp [S2, gL, bL, slL, tlL, saL, tab_cons, tab, String.reduceEq, lk_cons, put_at]; done))
local macro_rules | `(tactic| walk_at "lo") => `(tactic| first | assumption | rfl | (rw [put_at, if_pos rfl]) | (rw [put_at, if_neg (by decide)]; walk_at "lo") | (simp [lk_cons, put_at]; done))
local macro_rules | `(tactic| walk_at "fd") => `(tactic| first | assumption | exact Hp.put_self _ _ _ | (refine (Hp.put_ne _ _ ?n).trans ?g; (case n => first | assumption | exact Ne.symm (by assumption)); (case g => walk_at "fd")))
local macro_rules | `(tactic| walk_at "at") => `(tactic| first
  | (refine' pattr_slot ?f ?g ?h ?k; (case f => walk_at "fd"); (case g => walk_at "tab"); (case h => first | assumption | rfl); (case k => rfl))
  | (refine' pattr_sat ?f ?g; (case f => exact KN.at (by assumption) (by first | assumption | decide)); (case g => walk_at "tab")))
local macro_rules | `(tactic| walk_at "le") => `(tactic| first | (refine' plen_ba ?f; (case f => walk_at "fd")) | (refine' plen_list ?f; (case f => walk_at "fd")) | (refine' plen_bytes ?f; (case f => simp; omega)))
local macro_rules | `(tactic| walk_at "ev") => `(tactic| first
  | (refine' pe_con ?g; (case g => rfl))
  | (refine' pe_loc ?n ?g ?h; (case n => decide); (case g => walk_at "sc"); (case h => walk_at "lo"))
  | (refine' pe_glob ?n ?g ?h; (case n => decide); (case g => walk_at "sc"); (case h => walk_at "tab"))
  | (refine' pe_attr ?n ?g ?h; (case n => rfl); (case g => walk_at "ev"); (case h => walk_at "at"))
  | (refine' pe_len ?n ?f ?g ?h; (case n => rfl); (case f => walk_at "ev"); (case g => walk_at "ev"); (case h => walk_at "le"))
  | (refine' pe_bin ?f ?g ?h; (case f => walk_at "ev"); (case g => walk_at "ev"); (case h => walk_at "op"))
  | (refine' pe_una ?f ?h; (case f => walk_at "ev"); (case h => rfl))
  | (refine' pe_cmp ?n ?f ?g ?h; (case n => rfl); (case f => walk_at "ev"); (case g => walk_at "ev"); (case h => rfl)))
local macro_rules | `(tactic| walk_at "te") => `(tactic| first
  | (refine' pt_cmp ?g ?h; (case g => walk_at "ev"); (case h => rfl))
  | (refine' pt_not ?g ?h; (case g => walk_at "te"); (case h => rfl))
  | (refine' pt_chain ?n ?f ?g ?h ?k1 ?k2 ?k3 ?k4 ?k5; (case n => rfl); (case f => walk_at "ev"); (case g => walk_at "ev"); (case h => walk_at "ev"); (case k1 => rfl); (case k2 => rfl); (case k3 => rfl); (case k4 => rfl); (case k5 => rfl))
  | (refine' pt_and ?f ?g ?h; (case f => walk_at "te"); (case g => walk_at "te"); (case h => rfl))
  | (refine' pt_or ?f ?g ?h; (case f => walk_at "te"); (case g => walk_at "te"); (case h => rfl))
  | (refine' pt_name ?g ?h; (case g => walk_at "ev"); (case h => rfl))
  | (refine' pt_attr ?g ?h; (case g => walk_at "ev"); (case h => rfl))
  | (refine' pt_bin ?g ?h; (case g => walk_at "ev"); (case h => rfl)))
local macro_rules | `(tactic| walk_at "EV") => `(tactic| (rw [‹Fm.sc _ = _›]; walk_at "ev"))
local macro_rules | `(tactic| walk_at "TE") => `(tactic| (rw [‹Fm.sc _ = _›]; walk_at "te"))
local macro_rules | `(tactic| walk_at "SC") => `(tactic| (rw [‹Fm.sc _ = _›]; walk_at "sc"))
local macro_rules | `(tactic| walk_at "SW") => `(tactic| (intro _; rfl))
local macro_rules | `(tactic| walk_at "let") => `(tactic| (refine' W_cons (W_Let (by assumption) (by assumption) ?k ?s (fun hn => ?h) rfl ?q); (case k => walk_at "SC"); (case s => walk_at "SW"); (case h => walk_at "EV"); dsimp only))
local macro_rules | `(tactic| walk_at "iv") => `(tactic| first | rfl | (congr 1; omega))
variable {C : Cx} {F : Fm} {A : Around} {σ : Hp} {ρ : Loc} {X : Value → Hp → Loc → Prop} {d : Nat} {Q : Value → Hp → Loc → Prop} {a b : Addr} {B : Bd} {ov : Value}
/-- enforce_number, beyond the greatest -/
theorem w_enf_x (l : L2 C) (ok : F.Ok C) (ar : Ar F A (d + 1)) {nv fv : Value} {n : Int} {f : Addr} {lo hi : Int} {nm : Str} (hnv : er nv = .int n 0) (hfv : er fv = .ref f) (hf : f ∈ asL) (f1 : S2.sat f (Str.ofString "min_val") = some (.int lo 0)) (f2 : S2.sat f (Str.ofString "max_val") = some (.int hi 0)) (f3 : S2.sat f (Str.ofString "name") = some (.str nm 0)) (f4 : nm.length ≤ 100000)
    (h0 : 0 ≤ n) (h1 : n < 10 ^ 10) (h2 : hi < n) (q : X (.type "TypeError") σ ρ) : W C F A (call (.ref 152) [nv, fv] []) σ ρ Q X := by
  refine' call2 [("n", .int n 0), ("flags", .ref f)] l ok ar ?ho ?hcd ?hbind ?hloc ?hcell ?hco ?hgen ?hk ?h
  walk_at "fb_enter"
  case hbind => exact ⟨[("n", nv), ("flags", fv)], fun s _ => BindsTo.of_eq rfl, by simp [hnv, hfv]⟩
  intro F' A' ok' ar' hsc
  refine' W_cons (W_If' (b' := false) l ok' (fun hn => ?f1t) rfl (fun z => ?f1y) (fun z => ?f1n))
  case f1t => walk_at "TE"
  case f1y => cases z
  case f1n =>
  refine W_nil ?_
  refine' W_cons (W_If' (b' := true) l ok' (fun hn => ?f2t) ?f2u (fun z => ?f2y) (fun z => ?f2n))
  case f2t => walk_at "TE"
  case f2u => (have : ¬ n ≤ hi := by omega); simp [this]
  case f2n => cases z
  refine' W_cons (W_RaiseCall l ok' ar'.handled PySem.F.excCall_TypeError PySem.F.excRaise_TypeError (fun hn => ?x1) rfl ?x2 (W_args_cons rfl (W_Joined ?x3)))
  case x1 => walk_at "EV"
  case x2 => walk_at "SW"
  refine' W_join_cons 0 (by decide) (by decide) (W_pe' (v := .str (Str.ofString "bad number ") 0) l ok' (fun hn => ?x4) rfl ⟨_, rfl, by decide +kernel, fun a1 l1 => ?x5⟩)
  case x4 => walk_at "EV"
  refine' W_join_cons _ l1 (by decide) (W_Fmt115 (W_CallNP (args := [.int n 0]) l ok' (fun hn => ?y1) ?y2 keeps_type rfl ?y3 (fun hn => ⟨?y4, trivial⟩) fun vs hvs => W_strInt hvs h0 h1 fun x hx => ⟨x, rfl, hx, x, rfl, hx, fun a2 l2 => ?y6⟩))
  case y1 => walk_at "EV"
  case y2 => (intro v hv; exact er_type_inv hv)
  case y3 => walk_at "SW"
  case y4 => walk_at "EV"
  refine' W_join_cons _ l2 (by decide) (W_pe' (v := .str (Str.ofString " for type ") 0) l ok' (fun hn => ?z4) rfl ⟨_, rfl, by decide +kernel, fun a3 l3 => ?z6⟩)
  case z4 => walk_at "EV"
  refine' W_join_cons _ l3 (by decide) (W_Fmt115 (W_pe' (v := .str nm 0) l ok' (fun hn => ?w4) rfl ⟨_, rfl, f4, _, rfl, f4, fun a4 l4 => W_join_nil ?w6 fun T => W_args_nil ⟨Nat.le_of_ble_eq_true rfl, q⟩⟩))
  case w4 => walk_at "EV"
  case w6 => (rw [sizeLine_eq]; omega)
theorem st_name (l : L2 C) : S2.sat 143 (Str.ofString "name") = some (.str (Str.ofString "uint16") 0) := rfl
/-- Place of a number too great -/
theorem w_Place_x (l : L2 C) (ok : F.Ok C) (ar : Ar F A (d + 2)) (hov : er ov = .ref b) {xv fv : Value} {n : Int} (hx : er xv = .int n 0) (hf : er fv = .ref 143) (h : BS σ b a B) (h0 : 0 ≤ n) (h1 : n < 10 ^ 10) (h2 : 65535 < n)
    (q : X (.type "TypeError") σ ρ) : W C F A (call (.ref 709) [ov, xv, fv] []) σ ρ Q X := by
  obtain ⟨dx, bs, hb, ha, g1, g2, g3⟩ := h
  refine' call2 [("self", .ref b), ("x", .int n 0), ("flags", .ref 143)] l ok ar ?ho ?hcd ?hbind ?hloc ?hcell ?hco ?hgen ?hk ?h
  walk_at "fb_enter"
  case hbind => exact ⟨[("self", ov), ("x", xv), ("flags", fv)], fun s _ => BindsTo.of_eq rfl, by simp [hov, hx, hf]⟩
  intro F' A' ok' ar' hsc
  refine' W_cons (W_Do ok' ?e1s (W_CallNP (args := [.int n 0, .ref 143]) l ok' (fun hn => ?e1o) ?e1r (fn2 l (f := 152) (by decide)) rfl ?e1e (fun hn => ⟨?e1a0, ?e1a1, trivial⟩) fun vs e2 => ?e1z))
  case e1s => walk_at "SW"
  case e1o => walk_at "EV"
  case e1r => (intro v hv; exact er_ref_inv hv)
  case e1e => walk_at "SW"
  case e1a0 => walk_at "EV"
  case e1a1 => walk_at "EV"
  obtain ⟨v1, v2, rfl, y1, y2⟩ := two_of e2
  exact w_enf_x l ok' ar' y1 y2 (fl143 (C := C)).mem (fl143 (C := C)).min (fl143 (C := C)).max (st_name l) (by decide +kernel) h0 h1 h2 q
theorem w_Prepend_x (l : L2 C) (ok : F.Ok C) (ar : Ar F A (d + 3)) (hov : er ov = .ref b) {xv fv : Value} {n : Int} (hx : er xv = .int n 0) (hf : er fv = .ref 143) (h : BS σ b a B) (hm : B.live.length + padOf 2 B.live.length + 2 ≤ 1048576)
    (h0 : 0 ≤ n) (h1 : n < 10 ^ 10) (h2 : 65535 < n) (q : ∀ σ' a', BS σ' b a' (prepB B 2 0) → Keep σ σ' b a a' → X (.type "TypeError") σ' ρ) : W C F A (call (.ref 527) [ov, fv, xv] []) σ ρ Q X := by
  obtain ⟨dx, bs, hb, ha, g1, g2, g3⟩ := id h
  refine' call2 [("self", .ref b), ("flags", .ref 143), ("off", .int n 0)] l ok ar ?ho ?hcd ?hbind ?hloc ?hcell ?hco ?hgen ?hk ?h
  walk_at "fb_enter"
  case hbind => exact ⟨[("self", ov), ("flags", fv), ("off", xv)], fun s _ => BindsTo.of_eq rfl, by simp [hov, hx, hf]⟩
  intro F' A' ok' ar' hsc
  refine' W_cons (W_Do ok' ?p1s (W_CallMP (x := "Prep") (f := 418) (args := [.int (2 : Nat) 0, .int (0 : Nat) 0]) l ok' (fun hn => ?p1o) hb (by decide) rfl ?p1e (fun hn => ⟨?p1a0, ?p1a1, trivial⟩) fun ov' vs e1 e2 => ?p1z))
  case p1s => walk_at "SW"
  case p1o => walk_at "EV"
  case p1e => walk_at "SW"
  case p1a0 => walk_at "EV"
  case p1a1 => walk_at "EV"
  obtain ⟨v1, v2, rfl, y1, y2⟩ := two_of e2
  refine w_Prep l ok' ar' e1 y1 y2 h (.inr (.inl rfl)) (by simpa using hm) fun σ₁ a₁ hB₁ hK₁ => ?_
  dsimp only
  obtain ⟨dx1, bs1, hb1, ha1, _⟩ := id hB₁
  refine' W_cons (W_Do ok' ?p2s (W_CallMP (x := "Place") (f := 709) (args := [.int n 0, .ref 143]) l ok' (fun hn => ?p2o) hb1 (by decide) rfl ?p2e (fun hn => ⟨?p2a0, ?p2a1, trivial⟩) fun ov' vs e1 e2 => ?p2z))
  case p2s => walk_at "SW"
  case p2o => walk_at "EV"
  case p2e => walk_at "SW"
  case p2a0 => walk_at "EV"
  case p2a1 => walk_at "EV"
  obtain ⟨v1, v2, rfl, y1, y2⟩ := two_of e2
  exact w_Place_x l ok' (ar'.mono (d' := d + 2) (by omega)) e1 y1 y2 hB₁ h0 h1 h2 (q σ₁ a₁ hB₁ hK₁)
/-- PrependVOffsetT of a number too great -/
theorem w_PrependVOffsetT_x (l : L2 C) (ok : F.Ok C) (ar : Ar F A (d + 4)) (hov : er ov = .ref b) {xv : Value} {n : Int} (hx : er xv = .int n 0) (h : BS σ b a B) (hm : B.live.length + padOf 2 B.live.length + 2 ≤ 1048576)
    (h0 : 0 ≤ n) (h1 : n < 10 ^ 10) (h2 : 65535 < n) (q : ∀ σ' a', BS σ' b a' (prepB B 2 0) → Keep σ σ' b a a' → X (.type "TypeError") σ' ρ) : W C F A (call (.ref 702) [ov, xv] []) σ ρ Q X := by
  obtain ⟨dx, bs, hb, ha, g1, g2, g3⟩ := id h
  refine' call2 [("self", .ref b), ("x", .int n 0)] l ok ar ?ho ?hcd ?hbind ?hloc ?hcell ?hco ?hgen ?hk ?h
  walk_at "fb_enter"
  case hbind => exact ⟨[("self", ov), ("x", xv)], fun s _ => BindsTo.of_eq rfl, by simp [hov, hx]⟩
  intro F' A' ok' ar' hsc
  refine' W_cons (W_Do ok' ?p1s (W_CallMP (x := "Prepend") (f := 527) (args := [.ref 143, .int n 0]) l ok' (fun hn => ?p1o) hb (by decide) rfl ?p1e (fun hn => ⟨?p1a0, ?p1a1, trivial⟩) fun ov' vs e1 e2 => ?p1z))
  case p1s => walk_at "SW"
  case p1o => walk_at "EV"
  case p1e => walk_at "SW"
  case p1a0 => walk_at "EV"
  case p1a1 => walk_at "EV"
  obtain ⟨v1, v2, rfl, y1, y2⟩ := two_of e2
  exact w_Prepend_x l ok' ar' e1 y2 y1 h hm h0 h1 h2 q

end Mine
end
/- part L02p -/
section
open PySem PySem.W PySem.Spec PySem.Calls PyProof.Rows
set_option Elab.async false
set_option maxRecDepth 100000
set_option maxHeartbeats 4000000
set_option linter.all false
namespace Mine
local macro_rules | `(tactic| walk_at "fb_enter") => `(tactic| (
  (case ho => k_is)
  (case hcd => k_is)
  (case hcell => decide)
  (case hco => rfl)
  (case hgen => rfl)
  (case hk => rfl)
  (case hloc => simp [lk_cons])))
local macro_rules | `(tactic| walk_at "op") => `(tactic| first | rfl | exact pbin_mulr (by decide) | exact pbin_mull (by decide))
local macro_rules | `(tactic| walk_at "sc") => `(tactic| first | (simp only [lk_cons, String.reduceEq, if_true, if_false, reduceCtorEq]; done) | rfl)
local macro_rules | `(tactic| walk_at "tab") => `(tactic| first | assumption | rfl | (simp [S2, gL, bL, slL, tlL, saL, tab_cons, tab, String.reduceEq, lk_cons, put_at]; done))
local macro_rules | `(tactic| walk_at "lo") => `(tactic| first | assumption | rfl | (rw [put_at, if_pos rfl]) | (rw [put_at, if_neg (by decide)]; walk_at "lo") | (simp [lk_cons, put_at]; done))
local macro_rules | `(tactic| walk_at "fd") => `(tactic| first | assumption | exact Hp.put_self _ _ _ | (refine (Hp.put_ne _ _ ?n).trans ?g; (case n => first | assumption | exact Ne.symm (by assumption)); (case g => walk_at "fd")))
local macro_rules | `(tactic| walk_at "at") => `(tactic| first
  | (refine' pattr_slot ?f ?g ?h ?k; (case f => walk_at "fd"); (case g => walk_at "tab"); (case h => first | assumption | rfl); (case k => rfl))
  | (refine' pattr_sat ?f ?g; (case f => exact KN.at (by assumption) (by first | assumption | decide)); (case g => walk_at "tab")))
local macro_rules | `(tactic| walk_at "le") => `(tactic| first | (refine' plen_ba ?f; (case f => walk_at "fd")) | (refine' plen_list ?f; (case f => walk_at "fd")) | (refine' plen_bytes ?f; (case f => simp; omega)))
local macro_rules | `(tactic| walk_at "ev") => `(tactic| first
  | (refine' pe_con ?g; (case g => rfl))
  | (refine' pe_loc ?n ?g ?h; (case n => decide); (case g => walk_at "sc"); (case h => walk_at "lo"))
  | (refine' pe_glob ?n ?g ?h; (case n => decide); (case g => walk_at "sc"); (case h => walk_at "tab"))
  | (refine' pe_attr ?n ?g ?h; (case n => rfl); (case g => walk_at "ev"); (case h => walk_at "at"))
  | (refine' pe_len ?n ?f ?g ?h; (case n => rfl); (case f => walk_at "ev"); (case g => walk_at "ev"); (case h => walk_at "le"))
  | (refine' pe_bin ?f ?g ?h; (case f => walk_at "ev"); (case g => walk_at "ev"); (case h => walk_at "op"))
  | (refine' pe_una ?f ?h; (case f => walk_at "ev"); (case h => rfl))
  | (refine' pe_cmp ?n ?f ?g ?h; (case n => rfl); (case f => walk_at "ev"); (case g => walk_at "ev"); (case h => rfl)))
local macro_rules | `(tactic| walk_at "te") => `(tactic| first
  | (refine' pt_cmp ?g ?h; (case g => walk_at "ev"); (case h => rfl))
  | (refine' pt_not ?g ?h; (case g => walk_at "te"); (case h => rfl))
  | (refine' pt_chain ?n ?f ?g ?h ?k1 ?k2 ?k3 ?k4 ?k5; (case n => rfl); (case f => walk_at "ev"); (case g => walk_at "ev"); (case h => walk_at "ev"); (case k1 => rfl); (case k2 => rfl); (case k3 => rfl); (case k4 => rfl); (case k5 => rfl))
  | (refine' pt_and ?f ?g ?h; (case f => walk_at "te"); (case g => walk_at "te"); (case h => rfl))
  | (refine' pt_or ?f ?g ?h; (case f => walk_at "te"); (case g => walk_at "te"); (case h => rfl))
  | (refine' pt_name ?g ?h; (case g => walk_at "ev"); (case h => rfl))
  | (refine' pt_attr ?g ?h; (case g => walk_at "ev"); (case h => rfl))
  | (refine' pt_bin ?g ?h; (case g => walk_at "ev"); (case h => rfl)))
local macro_rules | `(tactic| walk_at "EV") => `(tactic| (rw [‹Fm.sc _ = _›]; walk_at "ev"))
local macro_rules | `(tactic| walk_at "TE") => `(tactic| (rw [‹Fm.sc _ = _›]; walk_at "te"))
local macro_rules | `(tactic| walk_at "SC") => `(tactic| (rw [‹Fm.sc _ = _›]; walk_at "sc"))
local macro_rules | `(tactic| walk_at "SW") => `(tactic| (intro _; rfl))
local macro_rules | `(tactic| walk_at "let") => `(tactic| (refine' W_cons (W_Let (by assumption) (by assumption) ?k ?s (fun hn => ?h) rfl ?q); (case k => walk_at "SC"); (case s => walk_at "SW"); (case h => walk_at "EV"); dsimp only))
local macro_rules | `(tactic| walk_at "iv") => `(tactic| first | rfl | (congr 1; omega))
variable {C : Cx} {F : Fm} {A : Around} {σ : Hp} {ρ : Loc} {X : Value → Hp → Loc → Prop} {d : Nat} {Q : Value → Hp → Loc → Prop} {a b : Addr} {B : Bd} {ov : Value}
def typChk (K : Frag) (a : Addr) (x : Str) (T : String) : Bool := (typeIn K (.ref a) == some (.type "type")) && readsIn K a (.type "type") && (findIn K (.type "type") x == some none) && (findIn K (.ref a) x == some (some (.type T))) && (Builtin.heldUnderItsOwnName x (.type T) == false) &&
  (specialIn K (.ref a) "__getattribute__" == some (some (.builtin "type.__getattribute__")))
theorem typChk_ok {K : Frag} {a : Addr} {x : Str} {T : String} (h : typChk K a x T = true) : TypIn K a x T := by
  simp only [typChk, Bool.and_eq_true, beq_iff_eq] at h
  obtain ⟨⟨⟨⟨⟨h1, h2⟩, h3⟩, h4⟩, h5⟩, h6⟩ := h
  exact ⟨_, h1, h2, h3, h4, h5, h6⟩
def ptL : List Addr := [63, 77, 91, 105, 119, 131, 143]
theorem ptL_ok (P : Params) : (ptL.all fun a => typChk (hd.heap_39 P) a (Str.ofString "py_type") "int") = true := by kernel_rfl
/-- X.py_type(e) -/
theorem W_PyType (l : L2 C) (ok : F.Ok C) {o e : Expr} {ap pos : Pos} {a : Addr} {pl : Env → Sem Bool} (ho : KN σ → pe S2 F.sc σ ρ o = some (.ref a)) (ha : a ∈ ptL) (hs : noStar [e] = true)
    (he : ∀ env, eval (.Call (.Attribute o (Str.ofString "py_type") ap) [e] [] pos) env = (do let ov ← eval o env; standAt ap.atName; let fx ← holding [ov] (getMethod ov (Str.ofString "py_type") (pl env)); callWith pos fx.1 fx.2 (backTo pos (starEach [e] env)) []))
    (h : W C F A (eval e F.env) σ ρ (fun v σ₁ ρ₁ => ∃ n, v = .int n 0 ∧ Q (.int n 0) σ₁ ρ₁) X) : W C F A (eval (.Call (.Attribute o (Str.ofString "py_type") ap) [e] [] pos) F.env) σ ρ Q X := by
  have ht : TypIn C.K a (Str.ofString "py_type") "int" := by
    have := List.all_eq_true.mp (ptL_ok C.w.params) _ ha
    rw [l.k]; exact typChk_ok this
  refine W_kn2 l ok fun hn => W_CallA ok l.ok (S2_ok l) (ho hn) (gm_int l.ok ht) keeps_type hs (fun ov hov => W_args1 hs (h.mono (fun v σ₁ ρ₁ q vs hvs => ?_) fun _ _ _ x => x)) (he _)
  obtain ⟨n, rfl, q⟩ := q
  exact W_int (n := n) hvs q
def vput (B : Bd) (x : Int) : Bd := placeB (prepB B 2 0) 2 x
def voff (oo n : Nat) : Int := if n = 0 then 0 else (oo : Int) - n
def vtL (oo : Nat) : List Nat → Bool → Bd → Nat → Bd × Nat
  | [], _, B, t => (B, t)
  | n :: rs, trim, B, t => if n = 0 ∧ trim = true then vtL oo rs true B (t + 1) else vtL oo rs false (vput B (voff oo n)) t
def sB (B : Bd) : Bd := placeB (prepB B 4 0) 4 ((B.live.length + padOf 4 B.live.length - 0 + 4 : Nat) : Int)
def vints (ns : List Int) : List Value := ns.map fun i => Value.int i 0
def vnats (ns : List Nat) : List Value := ns.map fun i => Value.int (i : Nat) 0
/-- a Builder grown in front -/
structure Ext (B B' : Bd) (m : Nat) : Prop where
  live : ∃ pre : List UInt8, B'.live = pre ++ B.live ∧ pre.length ≤ m
  rest : B'.nest = B.nest ∧ B'.fin = B.fin ∧ B'.fd = B.fd ∧ B'.cv = B.cv ∧ B'.oe = B.oe ∧ B'.ss = B.ss ∧ B'.vne = B.vne ∧ B'.vt = B.vt
  ma : B'.ma = B.ma ∨ B'.ma = 2 ∧ B.ma < 2
theorem Ext.refl {m : Nat} : Ext B B m := ⟨⟨[], rfl, Nat.zero_le _⟩, ⟨rfl, rfl, rfl, rfl, rfl, rfl, rfl, rfl⟩, .inl rfl⟩
theorem Ext.len {B B' : Bd} {m : Nat} (h : Ext B B' m) : B.live.length ≤ B'.live.length ∧ B'.live.length ≤ B.live.length + m := by
  obtain ⟨pre, e, hp⟩ := h.live
  rw [e]; simp; omega
theorem prep_ext {B B' : Bd} {m : Nat} (h : Ext B B' m) : Ext B (prepB B' 2 0) (m + 1) := by
  obtain ⟨⟨pre, e, hp⟩, ⟨r1, r2, r3, r4, r5, r6, r7, r8⟩, hm⟩ := h
  refine ⟨⟨List.replicate (padOf 2 B'.live.length) 0 ++ pre, by simp [prepB, e], ?_⟩, ⟨r1, r2, r3, r4, r5, r6, r7, r8⟩, ?_⟩
  · have : padOf 2 B'.live.length ≤ 1 := by unfold padOf; omega
    simp; omega
  · show (if B'.ma < 2 then (2 : Int) else B'.ma) = B.ma ∨ (if B'.ma < 2 then (2 : Int) else B'.ma) = 2 ∧ B.ma < 2
    by_cases z : B'.ma < 2
    · rw [if_pos z]; right; refine ⟨rfl, ?_⟩; rcases hm with q | q <;> omega
    · rw [if_neg z]; exact hm
theorem vput_ext {B B' : Bd} {m : Nat} (h : Ext B B' m) (x : Int) : Ext B (vput B' x) (m + 3) := by
  obtain ⟨⟨pre, e, hp⟩, r, hm⟩ := prep_ext h
  refine ⟨⟨le 2 (wrap 2 x) ++ pre, ?_, ?_⟩, r, hm⟩
  · show le 2 (wrap 2 x) ++ (prepB B' 2 0).live = _
    rw [e, List.append_assoc]
  · simp [le_length]; omega
theorem rev_dict {l : Addr} {i : Int} : AObj.raw (revObj l i) ≠ .raw emptyDict := fun h => by
  have := congrArg (fun o => match o with | AObj.raw o => o.cls | _ => .none) h
  exact absurd (show Value.type "list_reverseiterator" = Value.type "dict" from this) (by decide)
def fitsV (oo : Nat) (ns : List Nat) (size : Int) : Prop := (∀ n ∈ ns, voff oo n ≤ 65535) ∧ size ≤ 65535
def patch (B : Bd) (oo : Nat) : Bd := { B with live := B.live.take (B.live.length - oo) ++ le 4 (wrap 4 ((B.live.length : Int) - oo)) ++ B.live.drop (B.live.length - oo + 4), cv := .none }
def wvB (B : Bd) (ns : List Nat) (o : Nat) : Bd :=
  let B1 := sB B
  let r := vtL B1.live.length ns.reverse true B1 0
  patch (vput (vput r.1 ((B1.live.length : Int) - o)) (((ns.length : Int) - (r.2 : Nat) + 2) * 2)) B1.live.length
theorem patch_list {bs live x : List UInt8} {oo : Nat} (h : bs.drop (bs.length - live.length) = live) (hl : live.length ≤ bs.length) (ho : oo ≤ live.length) (hx : x.length ≤ oo) :
    (bs.take (bs.length - oo) ++ x ++ bs.drop (bs.length - oo + x.length)).drop (bs.length - live.length) = live.take (live.length - oo) ++ x ++ live.drop (live.length - oo + x.length) := by
  obtain ⟨pr, hp, hpl⟩ : ∃ pr : List UInt8, bs = pr ++ live ∧ pr.length = bs.length - live.length := ⟨bs.take (bs.length - live.length), by conv => lhs; rw [← List.take_append_drop (bs.length - live.length) bs, h], by simp⟩
  have e1 : bs.length - oo = pr.length + (live.length - oo) := by omega
  rw [e1, ← hpl, hp, Nat.add_assoc, List.take_length_add_append, List.append_assoc, List.append_assoc, List.drop_left, List.drop_length_add_append, List.append_assoc]
theorem take_rev {ns : List Nat} {i : Nat} (h : i < ns.length) : (ns.take (i + 1)).reverse = ns[i] :: (ns.take i).reverse := by
  rw [List.take_succ_eq_append_getElem h, List.reverse_append]; rfl
/-- a Builder's method of one argument with effects -/
theorem W_CallM1 {x : String} {o e : Expr} {ap pos : Pos} {f dx : Addr} {sl : List (Option Value)} {pl : Env → Sem Bool} (l : L2 C) (ok : F.Ok C) (ho : KN σ → pe S2 F.sc σ ρ o = some (.ref b)) (eb : σ b = some (.inst 734 dx sl)) (hm : (x, f) ∈ meL) (hs : noStar [e] = true)
    (he : ∀ env, eval (.Call (.Attribute o (Str.ofString x) ap) [e] [] pos) env = (do let ov ← eval o env; standAt ap.atName; let fx ← holding [ov] (getMethod ov (Str.ofString x) (pl env)); callWith pos fx.1 fx.2 (backTo pos (starEach [e] env)) []))
    (h : ∀ ov, er ov = .ref b → W C F A (eval e F.env) σ ρ (fun v σ₁ ρ₁ => ∀ v', er v' = v → W C F A (call (.ref f) [ov, v'] []) σ₁ ρ₁ Q X) X) : W C F A (eval (.Call (.Attribute o (Str.ofString x) ap) [e] [] pos) F.env) σ ρ Q X :=
  W_kn2 l ok fun hn => W_CallA ok l.ok (S2_ok l) (ho hn) (gm_inst ok l.ok eb (meth2 l hm).1) (meth2 l hm).2 hs (fun ov hov => W_args1 hs ((h ov hov).mono (fun v σ₁ ρ₁ q vs hvs => by
    obtain ⟨v', rfl, e'⟩ := one_of hvs
    exact q v' e') fun _ _ _ x => x)) (he _)
theorem keep_step {σ σ₅ σ7 : Hp} {a5 a7 : Addr} (k5 : ∀ x o', σ x = some o' → x ≠ b → x ≠ a → σ₅ x = some o') (at5 : a5 = a ∨ σ a5 = none) (hK7 : Keep σ₅ σ7 b a5 a7) (n : a7 ≠ b) : (∀ x o', σ x = some o' → x ≠ b → x ≠ a → σ7 x = some o') ∧ (a7 = a ∨ σ a7 = none) := by
  refine ⟨fun x o' e h1 h2 => hK7.old x o' (k5 x o' e h1 h2) h1 fun z => ?_, ?_⟩
  · rcases at5 with q | q
    · exact h2 (z.trans q)
    · rw [z, q] at e; cases e
  · rcases hK7.at_ with q | q
    · rw [q]; exact at5
    · by_cases z : a7 = a
      · exact .inl z
      · right
        cases e : σ a7 with
        | none => rfl
        | some o => have := k5 _ _ e n z; rw [q] at this; cases this
theorem w_WriteVtable (l : L2 C) (ok : F.Ok C) (ar : Ar F A (d + 5)) (hov : er ov = .ref b) {ns : List Nat} {cl : Addr} {o : Nat} (h : BS σ b a B) (hc : B.cv = .ref cl) (hcl : σ cl = some (.list (vnats ns))) (hoe : B.oe = .int o 0)
    (hvt : σ B.vt = some (.raw emptyDict)) (hvs' : (B.vt == sysModules) = false) (hm : B.live.length + 3 * ns.length + 30 ≤ 1048576) (hin : ∀ n ∈ ns, n ≤ (sB B).live.length) (ho : o ≤ (sB B).live.length) (hns : ns.length ≤ 1000)
    (q : fitsV (sB B).live.length ns ((sB B).live.length - o) → ∀ σ' a', BS σ' b a' (wvB B ns o) → (∀ x o, σ x = some o → x ≠ b → x ≠ a → x ≠ B.vt → σ' x = some o) → Q (.int (sB B).live.length 0) σ' ρ)
    (qx : ¬ fitsV (sB B).live.length ns ((sB B).live.length - o) → ∀ σ' a' B', BS σ' b a' B' → Ext (sB B) B' (3 * ns.length + 9) → (∀ x o, σ x = some o → x ≠ b → x ≠ a → σ' x = some o) → X (.type "TypeError") σ' ρ) : W C F A (call (.ref 376) [ov] []) σ ρ Q X := by
  obtain ⟨dx, bs, hb, ha, g1, g2, g3⟩ := id h
  refine' call2 [("self", .ref b)] l ok ar ?ho ?hcd ?hbind ?hloc ?hcell ?hco ?hgen ?hk ?h
  walk_at "fb_enter"
  case hbind => exact ⟨[("self", ov)], fun s _ => BindsTo.of_eq rfl, by simp [hov]⟩
  intro F' A' ok' ar' hsc
  refine' W_cons (W_Do ok' ?p1s (W_CallMP (x := "PrependSOffsetTRelative") (f := 425) (args := [.int (0 : Nat) 0]) l ok' (fun hn => ?p1o) hb (by decide) rfl ?p1e (fun hn => ⟨?p1a0, trivial⟩) fun ov' vs e1 e2 => ?p1z))
  case p1s => walk_at "SW"
  case p1o => walk_at "EV"
  case p1e => walk_at "SW"
  case p1a0 => walk_at "EV"
  obtain ⟨v1, rfl, y1⟩ := one_of e2
  have p4 : padOf 4 B.live.length < 4 := by unfold padOf; omega
  refine w_PrependSOffsetTRelative l ok' (ar'.mono (d' := d + 3) (by omega)) e1 y1 h (by omega) (by omega) fun σ1 a1 hB1 hK1 => ?_
  dsimp only
  have hB1 : BS σ1 b a1 (sB B) := hB1
  have l1 : (sB B).live.length = B.live.length + padOf 4 B.live.length + 4 := by simp [sB, placeB, prepB, le_length]; omega
  have nclb : cl ≠ b := fun z => by rw [z, hb] at hcl; cases hcl
  have ncla : cl ≠ a := fun z => by rw [z, ha] at hcl; cases hcl
  have nvb : B.vt ≠ b := fun z => by rw [z, hb] at hvt; cases hvt
  have nva : B.vt ≠ a := fun z => by rw [z, ha] at hvt; cases hvt
  have hcl1 := hK1.old _ _ hcl nclb ncla
  have hvt1 := hK1.old _ _ hvt nvb nva
  obtain ⟨dx1, bs1, hb1, ha1, f1, f2, f3⟩ := id hB1
  refine' W_cons (W_LetW ok' ?p2k ?p2s (W_CallMP (x := "Offset") (f := 404) (args := []) l ok' (fun hn => ?p2o) hb1 (by decide) rfl ?p2e (fun hn => trivial) fun ov' vs e1 e2 => ?p2z))
  case p2k => walk_at "SC"
  case p2s => walk_at "SW"
  case p2o => walk_at "EV"
  case p2e => walk_at "SW"
  have := List.map_eq_nil_iff.mp e2; subst this
  refine w_Offset l ok' (ar'.mono (d' := 1) (by omega)) e1 hB1 ?_
  dsimp only
  refine' W_cons (W_LetW ok' ?k1 ?k2 (W_List (W_args_nil ⟨by decide, fun lk hlk => ?k3⟩)))
  case k1 => walk_at "SC"
  case k2 => walk_at "SW"
  dsimp only
  walk_at "let"
  have keep1 : ∀ x o, σ x = some o → x ≠ b → x ≠ a → σ1 x = some o := hK1.old
  have frl : ∀ x o, σ x = some o → x ≠ b → x ≠ a → x ≠ lk := fun x o e h1 h2 z => by have := keep1 x o e h1 h2; rw [z, hlk] at this; cases this
  have nlb : lk ≠ b := fun z => by rw [z, hb1] at hlk; cases hlk
  have nla : lk ≠ a1 := fun z => by rw [z, ha1] at hlk; cases hlk
  have nlc : lk ≠ cl := fun z => by rw [z, hcl1] at hlk; cases hlk
  have nlv : lk ≠ B.vt := fun z => by rw [z, hvt1] at hlk; cases hlk
  have hlen : (vnats ns).length = ns.length := by simp [vnats]
  refine' W_cons (W.mono (Q := fun fl σ₂ ρ₂ => fl = Flow.next ∧ BS σ₂ b a1 (sB B) ∧ (∀ x o, σ x = some o → x ≠ b → x ≠ a → σ₂ x = some o) ∧ (∃ ks : List Int, ks.length ≤ ns.length ∧ σ₂ lk = some (.list (vints ks))) ∧
    ρ₂ (Str.ofString "self") = some (.ref b) ∧ ρ₂ (Str.ofString "objectOffset") = some (.int (sB B).live.length 0) ∧ ρ₂ (Str.ofString "vtKey") = some (.ref lk)) ?fr ?cont (fun _ _ _ x => x))
  case fr =>
    refine' W_For (A := A') ok' ar'.frames ?f1 ?f2 (fun it k σ₂ ρ₂ => σ₂ it = some (.raw (revObj cl ((k : Int) - 1))) ∧ k ≤ ns.length ∧ BS σ₂ b a1 (sB B) ∧ (∀ x o, σ x = some o → x ≠ b → x ≠ a → σ₂ x = some o) ∧ σ₂ cl = some (.list (vnats ns)) ∧ (∃ ks : List Int, ks.length + k ≤ ns.length ∧ σ₂ lk = some (.list (vints ks))) ∧
      ρ₂ (Str.ofString "self") = some (.ref b) ∧ ρ₂ (Str.ofString "objectOffset") = some (.int (sB B).live.length 0) ∧ ρ₂ (Str.ofString "vtKey") = some (.ref lk) ∧ (∀ x o, σ x = some o → x ≠ b → x ≠ a → x ≠ it) ∧ ∃ t, ρ₂ (Str.ofString "trim") = some (.bool t)) ?hit ?turn
    case f1 => walk_at "SC"
    case f2 => (intro v; rfl)
    case hit =>
      have hb2 : (σ1.put lk (.list [])) b = some (.inst 734 dx1 (slots (sB B) a1 bs1.length)) := (Hp.put_ne _ _ (Ne.symm nlb)).trans hb1
      have hcl2 : (σ1.put lk (.list [])) cl = some (.list (vnats ns)) := (Hp.put_ne _ _ (Ne.symm nlc)).trans hcl1
      have hs1 : ((slots (sB B) a1 bs1.length)[1]?).join = some (.ref cl) := by show some B.cv = _; rw [hc]
      refine' W_CallNP (args := [.ref cl]) l ok' (fun hn => ?r1o) ?r1r keeps_type rfl ?r1e (fun hn => ⟨?r1a0, trivial⟩) fun vs e2 => ?r1z
      case r1o => walk_at "EV"
      case r1r => (intro v hv; exact er_type_inv hv)
      case r1e => walk_at "SW"
      case r1a0 => walk_at "EV"
      refine W_reversed e2 hcl2 fun it hit v hv => W_iter_rev hv (Hp.put_self _ _ _) ⟨it, rfl, ns.length, ?_⟩
      have nil : lk ≠ it := fun z => by rw [← z, Hp.put_self] at hit; cases hit
      have nic : cl ≠ it := fun z => by rw [← z, hcl2] at hit; cases hit
      refine ⟨by rw [hlen]; exact Hp.put_self _ _ _, Nat.le_refl _, (hB1.put_new hlk).put_new hit, fun x o e h1 h2 => ?_, (Hp.put_ne _ _ nic).trans hcl2, ⟨[], by simp, (Hp.put_ne _ _ nil).trans (Hp.put_self _ _ _)⟩, ?v1, ?v2, ?v3, fun x o e h1 h2 z => ?v5, true, ?v4⟩
      · have e1 := keep1 x o e h1 h2
        have e2 : (σ1.put lk (.list [])) x = some o := (Hp.put_ne _ _ fun z => by rw [z, hlk] at e1; cases e1).trans e1
        exact (Hp.put_ne _ _ fun z => by rw [z, hit] at e2; cases e2).trans e2
      case v1 => walk_at "lo"
      case v2 => walk_at "lo"
      case v3 => walk_at "lo"
      case v4 => walk_at "lo"
      case v5 =>
        have e1 := keep1 x o e h1 h2
        have e2 : (σ1.put lk (.list [])) x = some o := (Hp.put_ne _ _ (frl x o e h1 h2)).trans e1
        rw [z, hit] at e2; cases e2
    case turn =>
      rintro it k σ₂ ρ₂ ⟨hit, hk, hB2, keep2, hcl2, ⟨ks, hks, hlk2⟩, v1, v2, v3, fri, tr, v4⟩
      obtain ⟨dx2, bs2, hb2, ha2, _⟩ := id hB2
      have nib : it ≠ b := fun z => by rw [z, hb2] at hit; cases hit
      have nia : it ≠ a1 := fun z => by rw [z, ha2] at hit; cases hit
      have nic : it ≠ cl := fun z => by rw [z, hcl2] at hit; cases hit
      have nil : it ≠ lk := fun z => by rw [z, hlk2] at hit; cases hit
      cases k with
      | zero => exact W_next_rev_end ar'.handled hit ⟨rfl, hB2, keep2, ⟨ks, by omega, hlk2⟩, v1, v2, v3⟩
      | succ i =>
        have hx : (vnats ns)[i]? = some (.int (ns[i]'(by omega)) 0) := by simp [vnats, List.getElem?_eq_getElem (show i < ns.length by omega)]
        have hit' : σ₂ it = some (.raw (revObj cl (i : Int))) := by rw [hit]; congr 3; omega
        refine W_next_rev ok' hit' hcl2 hx ?_
        dsimp only
        have hB3 := hB2.other (o := .raw (revObj cl ((i : Int) - 1))) nib nia
        have hcl3 : (σ₂.put it (.raw (revObj cl ((i : Int) - 1)))) cl = some (.list (vnats ns)) := (Hp.put_ne _ _ (Ne.symm nic)).trans hcl2
        have hlk3 : (σ₂.put it (.raw (revObj cl ((i : Int) - 1)))) lk = some (.list (vints ks)) := (Hp.put_ne _ _ (Ne.symm nil)).trans hlk2
        have hit3 : (σ₂.put it (.raw (revObj cl ((i : Int) - 1)))) it = some (.raw (revObj cl ((i : Int) - 1))) := Hp.put_self _ _ _
        have keep3 : ∀ x o, σ x = some o → x ≠ b → x ≠ a → (σ₂.put it (.raw (revObj cl ((i : Int) - 1)))) x = some o := fun x o e h1 h2 => by
          have e1 := keep2 x o e h1 h2
          exact (Hp.put_ne _ _ (fri x o e h1 h2)).trans e1
        generalize σ₂.put it (.raw (revObj cl ((i : Int) - 1))) = σ₃ at *
        generalize hel : (ns[i]'(by omega)) = el
        refine' W_cons (W.mono (Q := fun fl σ₄ ρ₄ => σ₄ = σ₃ ∧ ρ₄ (Str.ofString "self") = some (.ref b) ∧ ρ₄ (Str.ofString "objectOffset") = some (.int (sB B).live.length 0) ∧ ρ₄ (Str.ofString "vtKey") = some (.ref lk) ∧ (∃ t, ρ₄ (Str.ofString "trim") = some (.bool t)) ∧ (fl = .cont ∨ fl = .next ∧ ∃ z : Int, ρ₄ (Str.ofString "elem") = some (.int z 0))) ?if1 ?if2 (fun _ _ _ x => x))
        case if1 =>
          refine' W_If' (b' := (decide (el = 0))) l ok' (fun hn => ?c1t) ?c1u (fun z => ?c1y) (fun z => ?c1n)
          case c1t => walk_at "TE"
          case c1u => (by_cases z : el = 0 <;> simp [z])
          case c1y =>
            refine' W_cons (W_If' (b' := tr) l ok' (fun hn => ?c2t) ?c2u (fun z => ?c2y) (fun z => ?c2n))
            case c2t => walk_at "TE"
            case c2u => rfl
            case c2y => exact W_cons (W_Continue ⟨rfl, by walk_at "lo", by walk_at "lo", by walk_at "lo", ⟨tr, by walk_at "lo"⟩, .inl rfl⟩)
            case c2n => exact W_nil (W_nil ⟨rfl, by walk_at "lo", by walk_at "lo", by walk_at "lo", ⟨tr, by walk_at "lo"⟩, .inr ⟨rfl, _, by walk_at "lo"⟩⟩)
          case c1n =>
            walk_at "let"
            walk_at "let"
            exact W_nil ⟨rfl, by walk_at "lo", by walk_at "lo", by walk_at "lo", ⟨false, by walk_at "lo"⟩, .inr ⟨rfl, _, by walk_at "lo"⟩⟩
        case if2 =>
          rintro fl σ₄ ρ₄ ⟨rfl, w1, w2, w3, ⟨t, w4⟩, w5⟩
          rcases w5 with rfl | ⟨rfl, z, w5⟩
          · exact ⟨i, Nat.lt_succ_self i, hit3, by omega, hB3, keep3, hcl3, ⟨ks, by omega, hlk3⟩, w1, w2, w3, fri, t, w4⟩
          · dsimp only
            refine' W_cons (W_Do ok' ?s1 (W_kn2 l ok' fun hn => W_CallA (ov := .ref lk) ok' l.ok (S2_ok l) ?s2 (gm_append hlk3) keeps_builtin rfl (fun ov' hov => W_argsP (vs := [.int z 0]) l ok' (fun hn => ⟨?s3, trivial⟩) fun vs hvs => ?s5) ?s6))
            case s1 => walk_at "SW"
            case s2 => walk_at "EV"
            case s3 => walk_at "EV"
            case s6 => rfl
            refine W_append ok' hov hvs hlk3 (by simp [vints, sizeLine]; omega) (W_nil ?_)
            dsimp only
            obtain ⟨dx4, bs4, hb4, ha4, _⟩ := id hB3
            have n1 : lk ≠ b := fun z => by rw [z, hb4] at hlk3; cases hlk3
            have n2 : lk ≠ a1 := fun z => by rw [z, ha4] at hlk3; cases hlk3
            refine ⟨i, Nat.lt_succ_self i, (Hp.put_ne _ _ nil).trans hit3, by omega, hB3.other n1 n2, fun x o e h1 h2 => ?_, (Hp.put_ne _ _ (Ne.symm nlc)).trans hcl3, ⟨ks ++ [z], by simp; omega, by rw [Hp.put_self]; simp [vints]⟩, w1, w2, w3, fri, t, w4⟩
            exact (Hp.put_ne _ _ (frl x o e h1 h2)).trans (keep3 x o e h1 h2)
  case cont =>
    rintro fl σ₂ ρ₂ ⟨rfl, hB2, keep2, ⟨ks, hks, hlk2⟩, v1, v2, v3⟩
    dsimp only
    obtain ⟨dx2, bs2, hb2, ha2, r1, r2, r3⟩ := id hB2
    have hs1 : ((slots (sB B) a1 bs2.length)[1]?).join = some (.ref cl) := by show some B.cv = _; rw [hc]
    have hs7 : ((slots (sB B) a1 bs2.length)[7]?).join = some (.int o 0) := by show some B.oe = _; rw [hoe]
    have hcl2 := keep2 _ _ hcl nclb ncla
    have hvt2 := keep2 _ _ hvt nvb nva
    refine' W_cons (W_LetW ok' ?a1 ?a2 (W_PyType (a := 131) l ok' (fun hn => ?a3) (by decide) rfl ?a4 (W_pe' (v := .int (((sB B).live.length : Int) - o) 0) l ok' (fun hn => ?a5) rfl ⟨_, rfl, ?a6⟩)))
    case a1 => walk_at "SC"
    case a2 => walk_at "SW"
    case a3 => walk_at "EV"
    case a4 => walk_at "SW"
    case a5 => walk_at "EV"
    dsimp only
    refine' W_cons (W_Do ok' ?b1 (W_kn2 l ok' fun hn => W_CallA (ov := .ref lk) ok' l.ok (S2_ok l) ?b2 (gm_append hlk2) keeps_builtin rfl (fun ov' hov => W_argsP (vs := [.int (((sB B).live.length : Int) - o) 0]) l ok' (fun hn => ⟨?b3, trivial⟩) fun vs hvs => ?b5) ?b6))
    case b1 => walk_at "SW"
    case b2 => walk_at "EV"
    case b3 => walk_at "EV"
    case b6 => rfl
    refine W_append ok' hov hvs hlk2 (by simp [vints, sizeLine]; omega) ?_
    dsimp only
    have nlb2 : lk ≠ b := fun z => by rw [z, hb2] at hlk2; cases hlk2
    have nla2 : lk ≠ a1 := fun z => by rw [z, ha2] at hlk2; cases hlk2
    have hB3 := hB2.other (o := .list (vints ks ++ [.int (((sB B).live.length : Int) - o) 0])) nlb2 nla2
    have hlk3 : (σ₂.put lk (.list (vints ks ++ [.int (((sB B).live.length : Int) - o) 0]))) lk = some (.list (vints (ks ++ [((sB B).live.length : Int) - o]))) := by rw [Hp.put_self]; simp [vints]
    have keep3 : ∀ x o', σ x = some o' → x ≠ b → x ≠ a → (σ₂.put lk (.list (vints ks ++ [.int (((sB B).live.length : Int) - o) 0]))) x = some o' := fun x o' e h1 h2 => (Hp.put_ne _ _ (frl x o' e h1 h2)).trans (keep2 x o' e h1 h2)
    generalize σ₂.put lk (.list (vints ks ++ [.int (((sB B).live.length : Int) - o) 0])) = σ₃ at *
    generalize ks ++ [((sB B).live.length : Int) - o] = ks3 at *
    refine' W_cons (W_LetW ok' ?t1k ?t1s (W_CallNP (args := [.ref lk]) l ok' (fun hn => ?t1o) ?t1r keeps_type rfl ?t1e (fun hn => ⟨?t1a0, trivial⟩) fun vs e2 => ?t1z))
    case t1k => walk_at "SC"
    case t1s => walk_at "SW"
    case t1o => walk_at "EV"
    case t1r => (intro v hv; exact er_type_inv hv)
    case t1e => walk_at "SW"
    case t1a0 => walk_at "EV"
    refine W_tuple e2 hlk3 fun tk htk => ?_
    dsimp only
    have keep4 : ∀ x o', σ x = some o' → x ≠ b → x ≠ a → (σ₃.put tk (.tup (vints ks3))) x = some o' := fun x o' e h1 h2 => (Hp.put_ne _ _ fun z => by have := keep3 x o' e h1 h2; rw [z, htk] at this; cases this).trans (keep3 x o' e h1 h2)
    have hB4 := hB3.put_new (o := .tup (vints ks3)) htk
    have htk4 : (σ₃.put tk (.tup (vints ks3))) tk = some (.tup (vints ks3)) := Hp.put_self _ _ _
    generalize σ₃.put tk (.tup (vints ks3)) = σ₄ at *
    have hcl4 := keep4 _ _ hcl nclb ncla
    have hvt4 := keep4 _ _ hvt nvb nva
    obtain ⟨dx4, bs4, hb4, ha4, q1, q2, q3⟩ := id hB4
    refine' W_cons (W_LetW ok' ?c1 ?c2 (W_kn2 l ok' fun hn => W_CallA (ov := .ref B.vt) ok' l.ok (S2_ok l) ?c3 (gm_dictget hvt4) keeps_builtin rfl (fun ov' hov => W_argsP (vs := [.ref tk]) l ok' (fun hn => ⟨?c4, trivial⟩) fun vs hvs => ?c5) ?c6))
    case c1 => walk_at "SC"
    case c2 => walk_at "SW"
    case c3 => walk_at "EV"
    case c4 => walk_at "EV"
    case c6 => rfl
    refine W_dictGet0 (ar'.mono (d' := 1) (by omega)) hov hvs hvs' hvt4 htk4 ?_
    dsimp only
    refine' W_cons (W.mono (Q := fun fl σ₅ ρ₅ => fl = Flow.next ∧ fitsV (sB B).live.length ns (((sB B).live.length : Int) - o) ∧ (∃ a', BS σ₅ b a' { wvB B ns o with cv := B.cv }) ∧ (∀ x o', σ x = some o' → x ≠ b → x ≠ a → x ≠ B.vt → σ₅ x = some o') ∧
      ρ₅ (Str.ofString "self") = some (.ref b) ∧ ρ₅ (Str.ofString "objectOffset") = some (.int (sB B).live.length 0)) ?big ?tail (fun _ _ _ x => x))
    case tail =>
      rintro fl σ₅ ρ₅ ⟨rfl, fits, ⟨a', hB5⟩, keep5, w1, w2⟩
      obtain ⟨dx6, bs6, hb6, ha6, s1, s2, s3⟩ := id hB5
      have hne := hB5.ne
      dsimp only
      refine' W_cons (W_Set (i := 1) (b := b) (dx := dx6) l ok' ?e1he (W_pe' l ok' (fun hn => ?e1h1) rfl ⟨fun hn => ?e1h2, ?e1h3, ?e1h4, ?e1h5, ?e1z⟩))
      case e1he => walk_at "SW"
      case e1h1 => walk_at "EV"
      case e1h2 => walk_at "EV"
      case e1h3 => walk_at "fd"
      case e1h4 => decide
      case e1h5 => exact Nat.le_of_ble_eq_true rfl
      dsimp only
      refine' W_cons (W_Return (W_pe' l ok' (fun hn => ?e2) rfl ?e3))
      case e2 => walk_at "EV"
      refine q fits _ a' (bs_intro (Hp.put_self _ _ _) ((Hp.put_ne _ _ hne).trans ha6) ?_ s1 s2 s3) fun x o' e h1 h2 h3 => (Hp.put_ne _ _ h1).trans (keep5 x o' e h1 h2 h3)
      rfl
    case big =>
    refine' W_If' (b' := true) l ok' (fun hn => ?d1t) rfl (fun z => ?d1y) (fun z => ?d1n)
    case d1t => walk_at "TE"
    case d1n => cases z
    case d1y =>
    have hs14 : ((slots (sB B) a1 bs4.length)[1]?).join = some (.ref cl) := by show some B.cv = _; rw [hc]
    walk_at "let"
    walk_at "let"
    walk_at "let"
    have hE4 : Ext (sB B) (sB B) (3 * (ns.length - ns.length)) := .refl
    refine' W_cons (W.mono (Q := fun fl σ₅ ρ₅ => fl = Flow.next ∧ (∀ n ∈ ns, voff (sB B).live.length n ≤ 65535) ∧ (∃ a' B' tr, (a' = a ∨ σ a' = none) ∧ BS σ₅ b a' B' ∧ Ext (sB B) B' (3 * ns.length) ∧ vtL (sB B).live.length ns.reverse true (sB B) 0 = (B', tr) ∧ tr ≤ ns.length ∧ ρ₅ (Str.ofString "trailing") = some (.int (tr : Nat) 0)) ∧ (∀ x o', σ x = some o' → x ≠ b → x ≠ a → σ₅ x = some o') ∧ σ₅ tk = some (.tup (vints ks3)) ∧
      ρ₅ (Str.ofString "self") = some (.ref b) ∧ ρ₅ (Str.ofString "objectOffset") = some (.int (sB B).live.length 0) ∧ ρ₅ (Str.ofString "vtKey") = some (.ref tk) ∧ ρ₅ (Str.ofString "objectSize") = some (.int (((sB B).live.length : Int) - o) 0)) ?wh ?whc (fun _ _ _ x => x))
    case wh =>
      refine' W_While (A := A') ok' ar'.frames (fun k σ₅ ρ₅ => k ≤ ns.length ∧ (∀ n ∈ ns.drop k, voff (sB B).live.length n ≤ 65535) ∧ (∃ a' B' tr t, (a' = a ∨ σ a' = none) ∧ BS σ₅ b a' B' ∧ Ext (sB B) B' (3 * (ns.length - k)) ∧ vtL (sB B).live.length (ns.take k).reverse t B' tr = vtL (sB B).live.length ns.reverse true (sB B) 0 ∧ tr + k ≤ ns.length ∧ ρ₅ (Str.ofString "trailing") = some (.int (tr : Nat) 0) ∧ ρ₅ (Str.ofString "trim") = some (.bool t)) ∧
        (∀ x o', σ x = some o' → x ≠ b → x ≠ a → σ₅ x = some o') ∧ σ₅ tk = some (.tup (vints ks3)) ∧
        ρ₅ (Str.ofString "self") = some (.ref b) ∧ ρ₅ (Str.ofString "objectOffset") = some (.int (sB B).live.length 0) ∧ ρ₅ (Str.ofString "vtKey") = some (.ref tk) ∧ ρ₅ (Str.ofString "objectSize") = some (.int (((sB B).live.length : Int) - o) 0) ∧ ρ₅ (Str.ofString "i") = some (.int ((k : Int) - 1) 0)) ?turn2 ns.length ?start2
      case start2 =>
        refine ⟨Nat.le_refl _, by simp, ⟨a1, sB B, 0, true, hK1.at_, hB4, hE4, by simp, by omega, ?i1, ?i2⟩, keep4, htk4, ?i3, ?i4, ?i5, ?i6, ?i7⟩
        case i1 => walk_at "lo"
        case i2 => walk_at "lo"
        case i3 => walk_at "lo"
        case i4 => walk_at "lo"
        case i5 => walk_at "lo"
        case i6 => walk_at "lo"
        case i7 => simp [put_at, hlen]
      case turn2 =>
        rintro k σ₅ ρ₅ ⟨hk, hdr, ⟨a5, B5, tr, t, at5, hB5, hE5, hv5, htr, w1, w2⟩, keep5, htk5, w3, w4, w5, w6, w7⟩
        refine' W_test l ok' (fun hn => ?j1) (v' := decide (0 < k)) ?j2 ?j3
        case j1 => walk_at "TE"
        case j2 => (by_cases z : 0 < k <;> simp [z] <;> omega)
        cases k with
        | zero => exact ⟨rfl, hdr, ⟨a5, B5, tr, at5, hB5, hE5, hv5.symm, htr, w1⟩, keep5, htk5, w3, w4, w5, w6⟩
        | succ i =>
          rw [if_pos (by simp)]
          have hi : i < ns.length := hk
          have hx : (vnats ns)[i]? = some (.int (ns[i]'hi) 0) := by simp [vnats, List.getElem?_eq_getElem hi]
          have hmem : (ns[i]'hi) ∈ ns := List.getElem_mem _
          have hle := hin _ hmem
          rw [take_rev hi] at hv5
          have hdr' : ∀ n ∈ ns.drop i, n = (ns[i]'hi) ∨ n ∈ ns.drop (i + 1) := fun n hm => by rw [List.drop_eq_getElem_cons hi] at hm; exact List.mem_cons.mp hm
          generalize (ns[i]'hi) = el at *
          have hcl5 := keep5 _ _ hcl nclb ncla
          have hvt5 := keep5 _ _ hvt nvb nva
          obtain ⟨dx5, bs5, hb5, ha5, q51, q52, q53⟩ := id hB5
          have hs15 : ((slots B5 a5 bs5.length)[1]?).join = some (.ref cl) := by show some B5.cv = _; rw [hE5.rest.2.2.2.1, show (sB B).cv = B.cv from rfl, hc]
          walk_at "let"
          refine' W_cons (W_Let l ok' ?m1 ?m2 (fun hn => ?m3) rfl ?m4)
          case m1 => walk_at "SC"
          case m2 => walk_at "SW"
          case m3 => (rw [hsc]; refine' pe_item rfl ?g1 ?g2 (pitem_list hcl5 ?g3 ?g4 ?g5); (case g1 => walk_at "ev"); (case g2 => walk_at "ev"); (case g3 => omega); (case g4 => omega); (case g5 => rw [show (((i + 1 : Nat) : Int) - 1).toNat = i by omega]; exact hx))
          dsimp only
          refine' W_cons (W_Aug (v' := .int (((i + 1 : Nat) : Int) - 1 - 1) 0) l ok' ?n1 ?n2 (fun hn => ?n3) ?n5 rfl rfl ?n4)
          case n1 => walk_at "SC"
          case n2 => walk_at "lo"
          case n3 => walk_at "EV"
          case n5 => rfl
          dsimp only
          refine' W_cons (W.mono (Q := fun fl σ₆ ρ₆ => σ₆ = σ₅ ∧ ρ₆ (Str.ofString "self") = some (.ref b) ∧ ρ₆ (Str.ofString "objectOffset") = some (.int (sB B).live.length 0) ∧ ρ₆ (Str.ofString "vtKey") = some (.ref tk) ∧ ρ₆ (Str.ofString "objectSize") = some (.int (((sB B).live.length : Int) - o) 0) ∧ ρ₆ (Str.ofString "i") = some (.int (((i + 1 : Nat) : Int) - 1 - 1) 0) ∧
            (fl = .cont ∧ el = 0 ∧ t = true ∧ ρ₆ (Str.ofString "trailing") = some (.int ((tr + 1 : Nat) : Int) 0) ∧ ρ₆ (Str.ofString "trim") = some (.bool true) ∨ fl = .next ∧ ¬ (el = 0 ∧ t = true) ∧ ρ₆ (Str.ofString "off") = some (.int (voff (sB B).live.length el) 0) ∧ ρ₆ (Str.ofString "trailing") = some (.int (tr : Nat) 0) ∧ ρ₆ (Str.ofString "trim") = some (.bool false))) ?if3 ?if4 (fun _ _ _ x => x))
          case if3 =>
            refine' W_If' (b' := (decide (el = 0))) l ok' (fun hn => ?u1t) ?u1u (fun z => ?u1y) (fun z => ?u1n)
            case u1t => walk_at "TE"
            case u1u => (by_cases z : el = 0 <;> simp [z])
            case u1y =>
              have el0 : el = 0 := by simpa using z
              refine' W_cons (W_If' (b' := t) l ok' (fun hn => ?u2t) ?u2u (fun z => ?u2y) (fun z => ?u2n))
              case u2t => walk_at "TE"
              case u2u => rfl
              case u2y =>
                refine' W_cons (W_Aug (v' := .int ((tr + 1 : Nat) : Int) 0) l ok' ?o1 ?o2 (fun hn => ?o3) ?o5 rfl rfl ?o4)
                case o1 => walk_at "SC"
                case o2 => walk_at "lo"
                case o3 => walk_at "EV"
                case o5 => rfl
                dsimp only
                exact W_cons (W_Continue ⟨rfl, by walk_at "lo", by walk_at "lo", by walk_at "lo", by walk_at "lo", by walk_at "lo", .inl ⟨rfl, el0, z, by walk_at "lo", by rw [← z]; walk_at "lo"⟩⟩)
              case u2n => exact W_nil (W_nil ⟨rfl, by walk_at "lo", by walk_at "lo", by walk_at "lo", by walk_at "lo", by walk_at "lo", .inr ⟨rfl, (fun y => by rw [y.2] at z; cases z), by rw [voff, if_pos el0]; walk_at "lo", by walk_at "lo", by rw [← z]; walk_at "lo"⟩⟩)
            case u1n =>
              have el0 : ¬ el = 0 := by simpa using z
              walk_at "let"
              walk_at "let"
              exact W_nil ⟨rfl, by walk_at "lo", by walk_at "lo", by walk_at "lo", by walk_at "lo", by walk_at "lo", .inr ⟨rfl, (fun y => el0 y.1), by rw [voff, if_neg el0]; walk_at "lo", by walk_at "lo", by walk_at "lo"⟩⟩
          case if4 =>
            rintro fl σ₆ ρ₆ ⟨rfl, x1, x2, x3, x4, x5, x6⟩
            have ei : ((i + 1 : Nat) : Int) - 1 - 1 = (i : Int) - 1 := by omega
            rw [ei] at x5
            rcases x6 with ⟨rfl, el0, rfl, x7, x8⟩ | ⟨rfl, hne, x7, x8, x9⟩
            · refine ⟨i, Nat.lt_succ_self i, by omega, fun n hm => ?_, ⟨a5, B5, tr + 1, true, at5, hB5, ?_, ?_, by omega, x7, x8⟩, keep5, htk5, x1, x2, x3, x4, x5⟩
              · rcases hdr' n hm with rfl | hm
                · rw [el0, voff, if_pos rfl]; decide
                · exact hdr n hm
              · obtain ⟨⟨pr, e1, e2⟩, r, m⟩ := hE5; exact ⟨⟨pr, e1, by omega⟩, r, m⟩
              · rw [← hv5, vtL, if_pos ⟨el0, rfl⟩]
            · dsimp only
              have hbd := hE5.len
              have hp2 : padOf 2 B5.live.length ≤ 1 := by unfold padOf; omega
              have hv0 : 0 ≤ voff (sB B).live.length el := by unfold voff; split <;> omega
              have hv1 : voff (sB B).live.length el ≤ (sB B).live.length := by unfold voff; split <;> omega
              refine' W_cons (W_Do ok' ?aas (W_CallMP (x := "PrependVOffsetT") (f := 702) (args := [.int (voff (sB B).live.length el) 0]) l ok' (fun hn => ?aao) hb5 (by decide) rfl ?aae (fun hn => ⟨?aaa0, trivial⟩) fun ov' vs e1 e2 => ?aaz))
              case aas => walk_at "SW"
              case aao => walk_at "EV"
              case aae => walk_at "SW"
              case aaa0 => walk_at "EV"
              obtain ⟨v1, rfl, y1⟩ := one_of e2
              by_cases hf : voff (sB B).live.length el ≤ 65535
              · refine w_PrependVOffsetT l ok' ar' e1 y1 hB5 (by omega) hv0 hf fun σ7 a7 hB7 hK7 => W_nil ?_
                dsimp only
                have ks7 := keep_step keep5 at5 hK7 (fun z => by rw [z] at hB7; exact hB7.ne rfl)
                have nk5 : tk ≠ b := fun z => by rw [z, hb5] at htk5; cases htk5
                have nka5 : tk ≠ a5 := fun z => by rw [z, ha5] at htk5; cases htk5
                refine ⟨i, Nat.lt_succ_self i, by omega, fun n hm => ?_, ⟨a7, vput B5 (voff (sB B).live.length el), tr, false, ks7.2, hB7, ?_, ?_, by omega, x8, x9⟩, ks7.1, hK7.old _ _ htk5 nk5 nka5, x1, x2, x3, x4, x5⟩
                · rcases hdr' n hm with rfl | hm
                  · exact hf
                  · exact hdr n hm
                · obtain ⟨⟨pr, e1, e2⟩, r, m⟩ := vput_ext hE5 (voff (sB B).live.length el); exact ⟨⟨pr, e1, by omega⟩, r, m⟩
                · rw [← hv5]; conv => rhs; rw [vtL, if_neg hne]
              · refine w_PrependVOffsetT_x l ok' ar' e1 y1 hB5 (by omega) hv0 (by omega) (by omega) fun σ7 a7 hB7 hK7 => ?_
                refine qx (fun f => hf (f.1 _ hmem)) σ7 a7 _ hB7 ?_ ?_
                · obtain ⟨⟨pr, e1, e2⟩, r, m⟩ := prep_ext hE5; exact ⟨⟨pr, e1, by omega⟩, r, m⟩
                · exact (keep_step keep5 at5 hK7 (fun z => by rw [z] at hB7; exact hB7.ne rfl)).1
    case whc =>
      rintro fl σ₅ ρ₅ ⟨rfl, hall, ⟨a5, B5, tr, at5, hB5, hE5, hv5, htr, w1⟩, keep5, htk5, w3, w4, w5, w6⟩
      dsimp only
      have hbd := hE5.len
      have hp5 : padOf 2 B5.live.length ≤ 1 := by unfold padOf; omega
      obtain ⟨dx5, bs5, hb5, ha5, q51, q52, q53⟩ := id hB5
      refine' W_cons (W_Do ok' ?wa0 (W_CallM1 (x := "PrependVOffsetT") (f := 702) l ok' (fun hn => ?wa1) hb5 (by decide) rfl ?wa2 fun ov' e1 => W_PyType (a := 143) l ok' (fun hn => ?wa3) (by decide) rfl ?wa4 (W_pe' (v := .int (((sB B).live.length : Int) - o) 0) l ok' (fun hn => ?wa5) rfl ⟨_, rfl, fun v' y1 => ?wa6⟩)))
      case wa0 => walk_at "SW"
      case wa1 => walk_at "EV"
      case wa2 => walk_at "SW"
      case wa3 => walk_at "EV"
      case wa4 => walk_at "SW"
      case wa5 => walk_at "EV"
      by_cases hsz : ((sB B).live.length : Int) - o ≤ 65535
      rotate_left
      · refine w_PrependVOffsetT_x l ok' ar' e1 y1 hB5 (by omega) (by omega) (by omega) (by omega) fun σ7 a7 hB7 hK7 => ?_
        refine qx (fun f => hsz f.2) σ7 a7 _ hB7 ?_ ?_
        · obtain ⟨⟨pr, e1, e2⟩, r, m⟩ := prep_ext hE5; exact ⟨⟨pr, e1, by omega⟩, r, m⟩
        · exact (keep_step keep5 at5 hK7 (fun z => by rw [z] at hB7; exact hB7.ne rfl)).1
      refine w_PrependVOffsetT l ok' ar' e1 y1 hB5 (by omega) (by omega) hsz fun σ6 a6 hB6 hK6 => ?_
      dsimp only
      have fits : fitsV (sB B).live.length ns (((sB B).live.length : Int) - o) := ⟨hall, hsz⟩
      have ks6 := keep_step keep5 at5 hK6 (fun z => by rw [z] at hB6; exact hB6.ne rfl)
      have nk5 : tk ≠ b := fun z => by rw [z, hb5] at htk5; cases htk5
      have nka5 : tk ≠ a5 := fun z => by rw [z, ha5] at htk5; cases htk5
      have htk6 := hK6.old _ _ htk5 nk5 nka5
      have hE6 := vput_ext hE5 (((sB B).live.length : Int) - o)
      have hB6 : BS σ6 b a6 (vput B5 (((sB B).live.length : Int) - o)) := hB6
      obtain ⟨keep6, at6⟩ := ks6
      have l6 : (vput B5 (((sB B).live.length : Int) - o)).live.length = B5.live.length + padOf 2 B5.live.length + 2 := by simp [vput, placeB, prepB, le_length]; omega
      have hwv : wvB B ns o = patch (vput (vput B5 (((sB B).live.length : Int) - o)) (((ns.length : Int) - (tr : Nat) + 2) * 2)) (sB B).live.length := by unfold wvB; dsimp only; rw [hv5]
      generalize hg6 : vput B5 (((sB B).live.length : Int) - o) = B6 at *
      have hcl6 := keep6 _ _ hcl nclb ncla
      have hvt6 := keep6 _ _ hvt nvb nva
      obtain ⟨dx6, bs6, hb6, ha6, q61, q62, q63⟩ := id hB6
      have hs16 : ((slots B6 a6 bs6.length)[1]?).join = some (.ref cl) := by show some B6.cv = _; rw [hE6.rest.2.2.2.1, show (sB B).cv = B.cv from rfl, hc]
      walk_at "let"
      refine' W_cons (W_Aug (v' := .int (((ns.length : Int) - (tr : Nat) + 2) * 2) 0) l ok' ?wb1 ?wb2 (fun hn => ?wb3) ?wb4 ?wb6 rfl ?wb5)
      case wb1 => walk_at "SC"
      case wb2 => walk_at "lo"
      case wb3 => walk_at "EV"
      case wb4 => exact if_pos (Or.inr (by decide))
      case wb6 => (rw [hlen])
      dsimp only
      have hp6 : padOf 2 B6.live.length ≤ 1 := by unfold padOf; omega
      refine' W_cons (W_Do ok' ?wc0 (W_CallM1 (x := "PrependVOffsetT") (f := 702) l ok' (fun hn => ?wc1) hb6 (by decide) rfl ?wc2 fun ov' e1 => W_PyType (a := 143) l ok' (fun hn => ?wc3) (by decide) rfl ?wc4 (W_pe' (v := .int (((ns.length : Int) - (tr : Nat) + 2) * 2) 0) l ok' (fun hn => ?wc5) rfl ⟨_, rfl, fun v' y1 => ?wc6⟩)))
      case wc0 => walk_at "SW"
      case wc1 => walk_at "EV"
      case wc2 => walk_at "SW"
      case wc3 => walk_at "EV"
      case wc4 => walk_at "SW"
      case wc5 => walk_at "EV"
      refine w_PrependVOffsetT l ok' ar' e1 y1 hB6 (by omega) (by omega) (by omega) fun σ7 a7 hB7 hK7 => ?_
      dsimp only
      obtain ⟨keep7, at7⟩ := keep_step keep6 at6 hK7 (fun z => by rw [z] at hB7; exact hB7.ne rfl)
      have nk6 : tk ≠ b := fun z => by rw [z, hb6] at htk6; cases htk6
      have nka6 : tk ≠ a6 := fun z => by rw [z, ha6] at htk6; cases htk6
      have htk7 := hK7.old _ _ htk6 nk6 nka6
      have hE7 := vput_ext hE6 (((ns.length : Int) - (tr : Nat) + 2) * 2)
      have hB7 : BS σ7 b a7 (vput B6 (((ns.length : Int) - (tr : Nat) + 2) * 2)) := hB7
      have l7 : (vput B6 (((ns.length : Int) - (tr : Nat) + 2) * 2)).live.length = B6.live.length + padOf 2 B6.live.length + 2 := by simp [vput, placeB, prepB, le_length]; omega
      have hbd7 := hE7.len
      generalize hg7 : vput B6 (((ns.length : Int) - (tr : Nat) + 2) * 2) = B7 at *
      have hvt7 := keep7 _ _ hvt nvb nva
      obtain ⟨dx7, bs7, hb7, ha7, q71, q72, q73⟩ := id hB7
      refine' W_cons (W_LetW ok' ?wd1 ?wd2 (W_PyType (a := 119) l ok' (fun hn => ?wd3) (by decide) rfl ?wd4 (W_pe' (v := .int ((bs7.length : Int) - (sB B).live.length) 0) l ok' (fun hn => ?wd5) rfl ⟨_, rfl, ?wd6⟩)))
      case wd1 => walk_at "SC"
      case wd2 => walk_at "SW"
      case wd3 => walk_at "EV"
      case wd4 => walk_at "SW"
      case wd5 => walk_at "EV"
      dsimp only
      refine' W_cons (W_Do ok' ?x0 (W_kn2 l ok' fun hn => W_CallN (f := .ref 166) ok' l.ok (S2_ok l) ?x1 (fun v hv => er_ref_inv hv) (fn2 l (f := 166) (by decide)) rfl
        (W_args_cons rfl (W_pe' (v := .ref 53) l ok' (fun hn => ?x2) rfl (W_args_cons rfl (W_pe' (v := .ref a7) l ok' (fun hn => ?x3) rfl (W_args_cons rfl (W_pe' (v := .int ((bs7.length : Int) - (sB B).live.length) 0) l ok' (fun hn => ?x4) rfl (W_args_cons rfl (W_PyType (a := 119) l ok' (fun hn => ?x5) (by decide) rfl ?x6
          (W_BinOp (W_CallMP (x := "Offset") (f := 404) (args := []) l ok' (fun hn => ?x7) hb7 (by decide) rfl ?x8 (fun hn => trivial) fun ov' vs e1 e2 => ?x9)))))))))) ?xa))
      case x0 => walk_at "SW"
      case x1 => walk_at "EV"
      case x2 => walk_at "EV"
      case x3 => walk_at "EV"
      case x4 => walk_at "EV"
      case x5 => walk_at "EV"
      case x6 => walk_at "SW"
      case x7 => walk_at "EV"
      case x8 => walk_at "SW"
      case xa => rfl
      have := List.map_eq_nil_iff.mp e2; subst this
      refine w_Offset l ok' (ar'.mono (d' := 1) (by omega)) e1 hB7 ?_
      refine' W_pe' (v := .int (sB B).live.length 0) l ok' (fun hn => ?ya) rfl ⟨_, rfl, ⟨_, rfl, W_args_nil fun vs hvs => ?yb⟩⟩
      case ya => walk_at "EV"
      obtain ⟨u1, u2, u3, u4, rfl, z1, z2, z3, z4⟩ := four_of hvs
      refine w_Write l ok' (ar'.mono (d' := 1) (by omega)) (p := bs7.length - (sB B).live.length) (st53 l) z1 z2 z3 z4 ha7 (by omega) (by omega) (by rw [loi]; omega) (by rw [hii]; omega) ?_
      dsimp only
      have hne7 := hB7.ne
      have hnvb : B.vt ≠ a7 := fun z => by rw [z, ha7] at hvt7; cases hvt7
      have hntb : tk ≠ a7 := fun z => by rw [z, ha7] at htk7; cases htk7
      have lle : (le 4 (wrap 4 ((B7.live.length : Int) - (sB B).live.length))).length = 4 := le_length _ _
      have hpl := patch_list (x := le 4 (wrap 4 ((B7.live.length : Int) - (sB B).live.length))) (oo := (sB B).live.length) q72 (by omega) (by omega) (by omega)
      rw [lle] at hpl
      have hlb : (bs7.take (bs7.length - (sB B).live.length) ++ le 4 (wrap 4 ((B7.live.length : Int) - (sB B).live.length)) ++ bs7.drop (bs7.length - (sB B).live.length + 4)).length = bs7.length := by simp [lle]; omega
      have hB8 : BS (σ7.put a7 (.ba (bs7.take (bs7.length - (sB B).live.length) ++ le 4 (wrap 4 ((B7.live.length : Int) - (sB B).live.length)) ++ bs7.drop (bs7.length - (sB B).live.length + 4)))) b a7 { patch B7 (sB B).live.length with cv := B.cv } := by
        have hll : (B7.live.take (B7.live.length - (sB B).live.length) ++ le 4 (wrap 4 ((B7.live.length : Int) - (sB B).live.length)) ++ B7.live.drop (B7.live.length - (sB B).live.length + 4)).length = B7.live.length := by simp [lle]; omega
        refine bs_intro ((Hp.put_ne _ _ (Ne.symm hne7)).trans hb7) (Hp.put_self _ _ _) ?_ ?_ ?_ ?_
        · rw [hlb]
          have hcv7 : B7.cv = B.cv := hE7.rest.2.2.2.1
          simp only [slots, patch]
          rw [hll, hcv7]
        · rw [hlb]; show (B7.live.take _ ++ _ ++ B7.live.drop _).length + B7.room ≤ _; rw [hll]; exact q71
        · rw [hlb]
          show List.drop (bs7.length - (B7.live.take _ ++ _ ++ B7.live.drop _).length) _ = (B7.live.take _ ++ _ ++ B7.live.drop _)
          rw [hll]; exact hpl
        · rw [hlb]; exact q73
      generalize hba8 : (bs7.take (bs7.length - (sB B).live.length) ++ le 4 (wrap 4 ((B7.live.length : Int) - (sB B).live.length)) ++ bs7.drop (bs7.length - (sB B).live.length + 4)) = ba8 at *
      have hvt8 : (σ7.put a7 (.ba ba8)) B.vt = some (.raw emptyDict) := (Hp.put_ne _ _ hnvb).trans hvt7
      have htk8 : (σ7.put a7 (.ba ba8)) tk = some (.tup (vints ks3)) := (Hp.put_ne _ _ hntb).trans htk7
      have keep8 : ∀ x o', σ x = some o' → x ≠ b → x ≠ a → (σ7.put a7 (.ba ba8)) x = some o' := fun x o' e h1 h2 => (Hp.put_ne _ _ fun z => by rcases at7 with q | q; exact h2 (z.trans q); rw [z, q] at e; cases e).trans (keep7 x o' e h1 h2)
      generalize σ7.put a7 (.ba ba8) = σ8 at *
      obtain ⟨dx8, bs8, hb8, ha8, _⟩ := id hB8
      have hsv8 : ((slots { patch B7 (sB B).live.length with cv := B.cv } a7 bs8.length)[10]?).join = some (.ref B.vt) := by show some (Value.ref B7.vt) = _; rw [hE7.rest.2.2.2.2.2.2.2]; rfl
      refine' W_cons (W_DictSet0 (d := 0) l ok' (ar'.mono (by omega)) ?r0 (W_CallMP (x := "Offset") (f := 404) (args := []) l ok' (fun hn => ?r1') hb8 (by decide) rfl ?r2' (fun hn => trivial) fun ov' vs e1 e2 => ?r3'))
      case r0 => walk_at "SW"
      case r1' => walk_at "EV"
      case r2' => walk_at "SW"
      have := List.map_eq_nil_iff.mp e2; subst this
      refine w_Offset l ok' (ar'.mono (d' := 1) (by omega)) e1 hB8 ⟨B.vt, tk, ks3, fun hn => ?r4, hvt8, fun hn => ?r5, htk8, fun o' => W_nil ⟨rfl, fits, ⟨a7, ?r6⟩, fun x o'' e h1 h2 h3 => (Hp.put_ne _ _ h3).trans (keep8 x o'' e h1 h2), ?r7, ?r8⟩⟩
      case r4 => walk_at "EV"
      case r5 => walk_at "EV"
      case r6 =>
        rw [hwv]
        exact hB8.other nvb (fun z => by rw [z, ha8] at hvt8; cases hvt8)
      case r7 => walk_at "lo"
      case r8 => walk_at "lo"

end Mine
end
/- part L02q -/
section
open PySem PySem.W PySem.Spec PySem.Calls PyProof.Rows
set_option Elab.async false
set_option maxRecDepth 100000
set_option maxHeartbeats 4000000
set_option linter.all false
namespace Mine
local macro_rules | `(tactic| walk_at "fb_enter") => `(tactic| (
  (case ho => k_is)
  (case hcd => k_is)
  (case hcell => decide)
  (case hco => rfl)
  (case hgen => rfl)
  (case hk => rfl)
  (case hloc => simp [lk_cons])))
local macro_rules | `(tactic| walk_at "op") => `(tactic| first | rfl | exact pbin_mulr (by decide) | exact pbin_mull (by decide))
local macro_rules | `(tactic| walk_at "sc") => `(tactic| first | (simp only [lk_cons, String.reduceEq, if_true, if_false, reduceCtorEq]; done) | rfl)
local macro_rules | `(tactic| walk_at "tab") => `(tactic| first | assumption | rfl | (simp [S2, gL, bL, slL, tlL, saL, tab_cons, tab, String.reduceEq, lk_cons, put_at]; done))
local macro_rules | `(tactic| walk_at "lo") => `(tactic| first | assumption | rfl | (rw [put_at, if_pos rfl]) | (rw [put_at, if_neg (by decide)]; walk_at "lo") | (simp [lk_cons, put_at]; done))
local macro_rules | `(tactic| walk_at "fd") => `(tactic| first | assumption | exact Hp.put_self _ _ _ | (refine (Hp.put_ne _ _ ?n).trans ?g; (case n => first | assumption | exact Ne.symm (by assumption)); (case g => walk_at "fd")))
local macro_rules | `(tactic| walk_at "at") => `(tactic| first
  | (refine' pattr_slot ?f ?g ?h ?k; (case f => walk_at "fd"); (case g => walk_at "tab"); (case h => first | assumption | rfl); (case k => rfl))
  | (refine' pattr_sat ?f ?g; (case f => exact KN.at (by assumption) (by first | assumption | decide)); (case g => walk_at "tab")))
local macro_rules | `(tactic| walk_at "le") => `(tactic| first | (refine' plen_ba ?f; (case f => walk_at "fd")) | (refine' plen_list ?f; (case f => walk_at "fd")) | (refine' plen_bytes ?f; (case f => simp; omega)))
local macro_rules | `(tactic| walk_at "ev") => `(tactic| first
  | (refine' pe_con ?g; (case g => rfl))
  | (refine' pe_loc ?n ?g ?h; (case n => decide); (case g => walk_at "sc"); (case h => walk_at "lo"))
  | (refine' pe_glob ?n ?g ?h; (case n => decide); (case g => walk_at "sc"); (case h => walk_at "tab"))
  | (refine' pe_attr ?n ?g ?h; (case n => rfl); (case g => walk_at "ev"); (case h => walk_at "at"))
  | (refine' pe_len ?n ?f ?g ?h; (case n => rfl); (case f => walk_at "ev"); (case g => walk_at "ev"); (case h => walk_at "le"))
  | (refine' pe_bin ?f ?g ?h; (case f => walk_at "ev"); (case g => walk_at "ev"); (case h => walk_at "op"))
  | (refine' pe_una ?f ?h; (case f => walk_at "ev"); (case h => rfl))
  | (refine' pe_cmp ?n ?f ?g ?h; (case n => rfl); (case f => walk_at "ev"); (case g => walk_at "ev"); (case h => rfl)))
local macro_rules | `(tactic| walk_at "te") => `(tactic| first
  | (refine' pt_cmp ?g ?h; (case g => walk_at "ev"); (case h => rfl))
  | (refine' pt_not ?g ?h; (case g => walk_at "te"); (case h => rfl))
  | (refine' pt_chain ?n ?f ?g ?h ?k1 ?k2 ?k3 ?k4 ?k5; (case n => rfl); (case f => walk_at "ev"); (case g => walk_at "ev"); (case h => walk_at "ev"); (case k1 => rfl); (case k2 => rfl); (case k3 => rfl); (case k4 => rfl); (case k5 => rfl))
  | (refine' pt_and ?f ?g ?h; (case f => walk_at "te"); (case g => walk_at "te"); (case h => rfl))
  | (refine' pt_or ?f ?g ?h; (case f => walk_at "te"); (case g => walk_at "te"); (case h => rfl))
  | (refine' pt_name ?g ?h; (case g => walk_at "ev"); (case h => rfl))
  | (refine' pt_attr ?g ?h; (case g => walk_at "ev"); (case h => rfl))
  | (refine' pt_bin ?g ?h; (case g => walk_at "ev"); (case h => rfl)))
local macro_rules | `(tactic| walk_at "EV") => `(tactic| (rw [‹Fm.sc _ = _›]; walk_at "ev"))
local macro_rules | `(tactic| walk_at "TE") => `(tactic| (rw [‹Fm.sc _ = _›]; walk_at "te"))
local macro_rules | `(tactic| walk_at "SC") => `(tactic| (rw [‹Fm.sc _ = _›]; walk_at "sc"))
local macro_rules | `(tactic| walk_at "SW") => `(tactic| (intro _; rfl))
local macro_rules | `(tactic| walk_at "let") => `(tactic| (refine' W_cons (W_Let (by assumption) (by assumption) ?k ?s (fun hn => ?h) rfl ?q); (case k => walk_at "SC"); (case s => walk_at "SW"); (case h => walk_at "EV"); dsimp only))
local macro_rules | `(tactic| walk_at "iv") => `(tactic| first | rfl | (congr 1; omega))
variable {C : Cx} {F : Fm} {A : Around} {σ : Hp} {ρ : Loc} {X : Value → Hp → Loc → Prop} {d : Nat} {Q : Value → Hp → Loc → Prop} {a b : Addr} {B : Bd} {ov : Value}
/-- EndObject -/
theorem w_EndObject (l : L2 C) (ok : F.Ok C) (ar : Ar F A (d + 6)) (hov : er ov = .ref b) {ns : List Nat} {cl : Addr} {o : Nat} (h : BS σ b a B) (hv : B.nest = true) (hc : B.cv = .ref cl) (hcl : σ cl = some (.list (vnats ns))) (hoe : B.oe = .int o 0)
    (hvt : σ B.vt = some (.raw emptyDict)) (hvs' : (B.vt == sysModules) = false) (hm : B.live.length + 3 * ns.length + 30 ≤ 1048576) (hin : ∀ n ∈ ns, n ≤ (sB B).live.length) (ho : o ≤ (sB B).live.length) (hns : ns.length ≤ 1000)
    (q : fitsV (sB B).live.length ns ((sB B).live.length - o) → ∀ σ' a', BS σ' b a' (wvB { B with nest := false } ns o) → (∀ x o, σ x = some o → x ≠ b → x ≠ a → x ≠ B.vt → σ' x = some o) → Q (.int (sB B).live.length 0) σ' ρ)
    (qx : ¬ fitsV (sB B).live.length ns ((sB B).live.length - o) → ∀ σ' a' B', BS σ' b a' B' → Ext (sB { B with nest := false }) B' (3 * ns.length + 9) → (∀ x o, σ x = some o → x ≠ b → x ≠ a → σ' x = some o) → X (.type "TypeError") σ' ρ) : W C F A (call (.ref 383) [ov] []) σ ρ Q X := by
  obtain ⟨dx, bs, hb, ha, g1, g2, g3⟩ := id h
  have hne := h.ne
  have nclb : cl ≠ b := fun z => by rw [z, hb] at hcl; cases hcl
  have nvb : B.vt ≠ b := fun z => by rw [z, hb] at hvt; cases hvt
  refine' call2 [("self", .ref b)] l ok ar ?ho ?hcd ?hbind ?hloc ?hcell ?hco ?hgen ?hk ?h
  walk_at "fb_enter"
  case hbind => exact ⟨[("self", ov)], fun s _ => BindsTo.of_eq rfl, by simp [hov]⟩
  intro F' A' ok' ar' hsc
  refine' W_cons (W_Do ok' ?p1s (W_CallMP (x := "assertNested") (f := 475) (args := []) l ok' (fun hn => ?p1o) hb (by decide) rfl ?p1e (fun hn => trivial) fun ov' vs e1 e2 => ?p1z))
  case p1s => walk_at "SW"
  case p1o => walk_at "EV"
  case p1e => walk_at "SW"
  have := List.map_eq_nil_iff.mp e2; subst this
  refine w_assertNested l ok' (ar'.mono (d' := 1) (by omega)) e1 h hv ?_
  dsimp only
  refine' W_cons (W_Set (i := 6) l ok' ?s1he (W_pe' l ok' (fun hn => ?s1h1) rfl ⟨fun hn => ?s1h2, ?s1h3, ?s1h4, ?s1h5, ?s1z⟩))
  case s1he => walk_at "SW"
  case s1h1 => walk_at "EV"
  case s1h2 => walk_at "EV"
  case s1h3 => walk_at "fd"
  case s1h4 => decide
  case s1h5 => exact Nat.le_of_ble_eq_true rfl
  dsimp only
  have hB' : BS (σ.put b (.inst 734 dx ((slots B a bs.length).set 6 (some (.bool false))))) b a { B with nest := false } :=
    bs_intro (Hp.put_self _ _ _) ((Hp.put_ne _ _ hne).trans ha) rfl g1 g2 g3
  have hcl' : (σ.put b (.inst 734 dx ((slots B a bs.length).set 6 (some (.bool false))))) cl = some (.list (vnats ns)) := (Hp.put_ne _ _ nclb).trans hcl
  have hvt' : (σ.put b (.inst 734 dx ((slots B a bs.length).set 6 (some (.bool false))))) B.vt = some (.raw emptyDict) := (Hp.put_ne _ _ nvb).trans hvt
  have keep' : ∀ x o, σ x = some o → x ≠ b → (σ.put b (.inst 734 dx ((slots B a bs.length).set 6 (some (.bool false))))) x = some o := fun x o e h1 => (Hp.put_ne _ _ h1).trans e
  generalize σ.put b (.inst 734 dx ((slots B a bs.length).set 6 (some (.bool false)))) = σ1 at *
  obtain ⟨dx1, bs1, hb1, ha1, _⟩ := id hB'
  refine' W_cons (W_Return (W_CallMP (x := "WriteVtable") (f := 376) (args := []) l ok' (fun hn => ?p2o) hb1 (by decide) rfl ?p2e (fun hn => trivial) fun ov' vs e1 e2 => ?p2z))
  case p2o => walk_at "EV"
  case p2e => walk_at "SW"
  have := List.map_eq_nil_iff.mp e2; subst this
  exact w_WriteVtable (B := { B with nest := false }) l ok' ar' e1 hB' hc hcl' hoe hvt' hvs' hm hin ho hns (fun f σ' a' k1 k2 => q f σ' a' k1 fun x o e h1 h2 h3 => k2 x o (keep' x o e h1) h1 h2 h3) fun f σ' a' B' k1 k2 k3 => qx f σ' a' B' k1 k2 fun x o e h1 h2 => k3 x o (keep' x o e h1) h1 h2
def makeChk (K : Frag) (Cl fI : Addr) : Bool := makesIn K Cl && (findIn K (.ref Cl) "__init__" == some (some (.ref fI))) && (typeIn K (.ref fI) == some (.type "function")) && keepIn K (.ref Cl)
theorem mk734 (P : Params) : makeChk (hd.heap_39 P) 734 348 = true := by kernel_rfl
theorem makeChk_ok {C : Cx} {Cl fI : Addr} (h : makeChk C.K Cl fI = true) : MakeOk C.K Cl fI ∧ Keeps C (.ref Cl) := by
  simp only [makeChk, Bool.and_eq_true, beq_iff_eq] at h
  obtain ⟨⟨⟨h1, h2⟩, h3⟩, h4⟩ := h
  exact ⟨⟨h1, h2, h3⟩, keeps_of h4⟩
def newB (D : Addr) : Bd := { live := [], ma := 1, nest := false, fin := false, fd := false, cv := .none, oe := .none, ss := some .none, vne := none, vt := D, room := 0 }
theorem rep_none (n i : Nat) : ((List.replicate n (none : Option Value))[i]?).join = none := by rw [List.getElem?_replicate]; split <;> rfl
/-- Builder(n) -/
theorem w_Builder (l : L2 C) (ok : F.Ok C) (ar : Ar F A (d + 2)) {vs : List Value} {n : Nat} (hv : vs.map er = [.int n 0]) (hn : n ≤ 1000)
    (q : ∀ σ' b a D, BS σ' b a (newB D) → σ' D = some (.raw emptyDict) → (D == sysModules) = false → (∀ x o, σ x = some o → σ' x = some o) → σ b = none → σ a = none → σ D = none → Q (.ref b) σ' ρ) : W C F A (call (.ref 734) vs []) σ ρ Q X := by
  have mk := makeChk_ok (C := C) (Cl := 734) (fI := 348) (by rw [l.k]; exact mk734 _)
  refine W_make (d := d + 1) l.ok ok ar (List.replicate 11 none) (rep_none 11) mk.1 fun x dx A' nx ndx hxd ar' => ?_
  obtain ⟨nv, rfl, hnv⟩ := one_of hv
  have hx0 : ((σ.put dx .hid).put x (.inst 734 dx (List.replicate 11 none))) x = some (.inst 734 dx (List.replicate 11 none)) := Hp.put_self _ _ _
  have keep0 : ∀ y o, σ y = some o → ((σ.put dx .hid).put x (.inst 734 dx (List.replicate 11 none))) y = some o := fun y o e => (Hp.put_ne _ _ (fun z => by rw [z, nx] at e; cases e)).trans ((Hp.put_ne _ _ (fun z => by rw [z, ndx] at e; cases e)).trans e)
  generalize (σ.put dx .hid).put x (.inst 734 dx (List.replicate 11 none)) = σ0 at *
  have ar := ar'
  refine' call2 [("self", .ref x), ("initialSize", .int n 0)] l ok ar ?ho ?hcd ?hbind ?hloc ?hcell ?hco ?hgen ?hk ?h
  walk_at "fb_enter"
  case hbind => exact ⟨[("self", .ref x), ("initialSize", nv)], fun s X => by rw [l.k] at X; exact kp_binds X fun _ => rfl, by simp [hnv]⟩
  intro F' A' ok' ar' hsc
  refine' W_cons (W_If' (b' := false) l ok' (fun hn => ?c1t) ?c1u (fun z => ?c1y) (fun z => ?c1n))
  case c1t => walk_at "TE"
  case c1u => (have : (n : Int) ≤ 2147483648 := by omega); simp [this]
  case c1y => cases z
  refine W_nil ?_
  refine' W_cons (W_Set (i := 0) (b := x) (dx := dx) (sl := List.replicate 11 none) l ok' ?d1 (W_CallNP (args := [.int n 0]) l ok' (fun hn => ?d2) (fun v hv => er_type_inv hv) keeps_type rfl ?d3 (fun hn => ⟨?d4, trivial⟩) fun vs hvs => W_bytearray ar'.guards hvs (by omega) (by simp [sizeLine]; omega) fun ba nba => ⟨fun hn => ?d5, ?d6, by decide, by decide, ?d7⟩))
  case d1 => walk_at "SW"
  case d2 => walk_at "EV"
  case d3 => walk_at "SW"
  case d4 => walk_at "EV"
  case d5 => walk_at "EV"
  case d6 => exact (Hp.put_ne _ _ (fun z => by rw [← z, hx0] at nba; cases nba)).trans hx0
  have nbx : ba ≠ x := fun z => by rw [z, hx0] at nba; cases nba
  dsimp only
  have hx1 : ((σ0.put ba (.ba (List.replicate (Int.toNat n) 0))).put x (.inst 734 dx ((List.replicate 11 none).set 0 (some (.ref ba))))) x = some (.inst 734 dx ((List.replicate 11 none).set 0 (some (.ref ba)))) := Hp.put_self _ _ _
  have hb1 : ((σ0.put ba (.ba (List.replicate (Int.toNat n) 0))).put x (.inst 734 dx ((List.replicate 11 none).set 0 (some (.ref ba))))) ba = some (.ba (List.replicate n 0)) := (Hp.put_ne _ _ nbx).trans (Hp.put_self _ _ _)
  have keep1 : ∀ y o, σ y = some o → ((σ0.put ba (.ba (List.replicate (Int.toNat n) 0))).put x (.inst 734 dx ((List.replicate 11 none).set 0 (some (.ref ba))))) y = some o := fun y o e => by
    have e0 := keep0 y o e
    exact (Hp.put_ne _ _ (fun z => by rw [z, nx] at e; cases e)).trans ((Hp.put_ne _ _ (fun z => by rw [z, nba] at e0; cases e0)).trans e0)
  have nba' : σ ba = none := by
    cases e : σ ba with
    | none => rfl
    | some o => have := keep0 _ _ e; rw [nba] at this; cases this
  generalize ((σ0.put ba (.ba (List.replicate (Int.toNat n) 0))).put x (.inst 734 dx ((List.replicate 11 none).set 0 (some (.ref ba))))) = σ1 at *
  refine' W_cons (W_Set (i := 1) (b := x) l ok' ?s1he (W_pe' l ok' (fun hn => ?s1h1) rfl ⟨fun hn => ?s1h2, ?s1h3, ?s1h4, ?s1h5, ?s1z⟩))
  case s1he => walk_at "SW"
  case s1h1 => walk_at "EV"
  case s1h2 => walk_at "EV"
  case s1h3 => walk_at "fd"
  case s1h4 => decide
  case s1h5 => exact Nat.le_of_ble_eq_true rfl
  dsimp only
  refine' W_cons (W_Set (i := 4) (b := x) l ok' ?e1 (W_PyType (a := 131) l ok' (fun hn => ?e2) (by decide) rfl ?e3 (W_pe' (v := .int n 0) l ok' (fun hn => ?e4) rfl ⟨_, rfl, ⟨fun hn => ?e5, ?e6, ?e7, ?e8, ?e9⟩⟩)))
  case e1 => walk_at "SW"
  case e2 => walk_at "EV"
  case e3 => walk_at "SW"
  case e4 => walk_at "EV"
  case e5 => walk_at "EV"
  case e6 => walk_at "fd"
  case e7 => decide
  case e8 => exact Nat.le_of_ble_eq_true rfl
  dsimp only
  refine' W_cons (W_Set (i := 5) (b := x) l ok' ?s2he (W_pe' l ok' (fun hn => ?s2h1) rfl ⟨fun hn => ?s2h2, ?s2h3, ?s2h4, ?s2h5, ?s2z⟩))
  case s2he => walk_at "SW"
  case s2h1 => walk_at "EV"
  case s2h2 => walk_at "EV"
  case s2h3 => walk_at "fd"
  case s2h4 => decide
  case s2h5 => exact Nat.le_of_ble_eq_true rfl
  dsimp only
  refine' W_cons (W_Set (i := 7) (b := x) l ok' ?s3he (W_pe' l ok' (fun hn => ?s3h1) rfl ⟨fun hn => ?s3h2, ?s3h3, ?s3h4, ?s3h5, ?s3z⟩))
  case s3he => walk_at "SW"
  case s3h1 => walk_at "EV"
  case s3h2 => walk_at "EV"
  case s3h3 => walk_at "fd"
  case s3h4 => decide
  case s3h5 => exact Nat.le_of_ble_eq_true rfl
  dsimp only
  refine' W_cons (W_Set (i := 10) (b := x) (dx := dx) l ok' ?f1 (W_Dict0 l.ok ok' fun D nD hD => ⟨fun hn => ?f2, ?f3, ?f4, ?f5, ?f6⟩))
  case f1 => walk_at "SW"
  case f2 => walk_at "EV"
  case f3 => (have nDx : x ≠ D := fun z => by rw [← z, Hp.put_self] at nD; cases nD); walk_at "fd"
  case f4 => decide
  case f5 => exact Nat.le_of_ble_eq_true rfl
  have nDx : x ≠ D := fun z => by rw [← z, Hp.put_self] at nD; cases nD
  dsimp only
  have nDb : ba ≠ D := fun z => by
    rw [← z] at nD
    simp only [Hp.put_ne _ _ nbx, hb1] at nD; cases nD
  refine' W_cons (W_Set (i := 6) (b := x) l ok' ?s4he (W_pe' l ok' (fun hn => ?s4h1) rfl ⟨fun hn => ?s4h2, ?s4h3, ?s4h4, ?s4h5, ?s4z⟩))
  case s4he => walk_at "SW"
  case s4h1 => walk_at "EV"
  case s4h2 => walk_at "EV"
  case s4h3 => walk_at "fd"
  case s4h4 => decide
  case s4h5 => exact Nat.le_of_ble_eq_true rfl
  dsimp only
  refine' W_cons (W_Set (i := 3) (b := x) l ok' ?s5he (W_pe' l ok' (fun hn => ?s5h1) rfl ⟨fun hn => ?s5h2, ?s5h3, ?s5h4, ?s5h5, ?s5z⟩))
  case s5he => walk_at "SW"
  case s5h1 => walk_at "EV"
  case s5h2 => walk_at "EV"
  case s5h3 => walk_at "fd"
  case s5h4 => decide
  case s5h5 => exact Nat.le_of_ble_eq_true rfl
  dsimp only
  refine' W_cons (W_Set (i := 8) (b := x) l ok' ?s6he (W_pe' l ok' (fun hn => ?s6h1) rfl ⟨fun hn => ?s6h2, ?s6h3, ?s6h4, ?s6h5, ?s6z⟩))
  case s6he => walk_at "SW"
  case s6h1 => walk_at "EV"
  case s6h2 => walk_at "EV"
  case s6h3 => walk_at "fd"
  case s6h4 => decide
  case s6h5 => exact Nat.le_of_ble_eq_true rfl
  dsimp only
  refine' W_cons (W_Set (i := 2) (b := x) l ok' ?s7he (W_pe' l ok' (fun hn => ?s7h1) rfl ⟨fun hn => ?s7h2, ?s7h3, ?s7h4, ?s7h5, ?s7z⟩))
  case s7he => walk_at "SW"
  case s7h1 => walk_at "EV"
  case s7h2 => walk_at "EV"
  case s7h3 => walk_at "fd"
  case s7h4 => decide
  case s7h5 => exact Nat.le_of_ble_eq_true rfl
  dsimp only
  refine W_nil ⟨rfl, q _ x ba D (bs_intro (dx := dx) (bs := List.replicate n 0) (Hp.put_self _ _ _) ?_ ?_ ?_ ?_ ?_) ?_ hD ?_ nx nba' ?_⟩
  · simp only [Hp.put_ne _ _ nbx, Hp.put_ne _ _ nDb, hb1]
  · simp [slots, newB, List.replicate]
  · simp [newB]
  · simp [newB]
  · simp; omega
  · simp only [Hp.put_ne _ _ (Ne.symm nDx), Hp.put_self]
  · intro y o e
    have e1 := keep1 y o e
    have n1 : y ≠ x := fun z => by rw [z, nx] at e; cases e
    have n2 : y ≠ D := fun z => by
      rw [← z] at nD
      simp only [Hp.put_ne _ _ n1, e1] at nD; cases nD
    simp only [Hp.put_ne _ _ n1, Hp.put_ne _ _ n2, e1]
  · cases e : σ D with
    | none => rfl
    | some o =>
      have e1 := keep1 _ _ e
      simp only [Hp.put_ne _ _ (Ne.symm nDx), e1] at nD; cases nD

end Mine
end
/- part L02r -/
section
open PySem PySem.W PySem.Spec PySem.Calls PyProof.Rows
set_option Elab.async false
set_option maxRecDepth 100000
set_option maxHeartbeats 4000000
set_option linter.all false
namespace Mine
local macro_rules | `(tactic| walk_at "fb_enter") => `(tactic| (
  (case ho => k_is)
  (case hcd => k_is)
  (case hcell => decide)
  (case hco => rfl)
  (case hgen => rfl)
  (case hk => rfl)
  (case hloc => simp [lk_cons])))
local macro_rules | `(tactic| walk_at "op") => `(tactic| first | rfl | exact pbin_mulr (by decide) | exact pbin_mull (by decide))
local macro_rules | `(tactic| walk_at "sc") => `(tactic| first | (simp only [lk_cons, String.reduceEq, if_true, if_false, reduceCtorEq]; done) | rfl)
local macro_rules | `(tactic| walk_at "tab") => `(tactic| first | assumption | rfl | (simp [S2, gL, bL, slL, tlL, saL, tab_cons, tab, String.reduceEq, lk_cons, put_at]; done))
local macro_rules | `(tactic| walk_at "lo") => `(tactic| first | assumption | rfl | (rw [put_at, if_pos rfl]) | (rw [put_at, if_neg (by decide)]; walk_at "lo") | (simp [lk_cons, put_at]; done))
local macro_rules | `(tactic| walk_at "fd") => `(tactic| first | assumption | exact Hp.put_self _ _ _ | (refine (Hp.put_ne _ _ ?n).trans ?g; (case n => first | assumption | exact Ne.symm (by assumption)); (case g => walk_at "fd")))
local macro_rules | `(tactic| walk_at "at") => `(tactic| first
  | (refine' pattr_slot ?f ?g ?h ?k; (case f => walk_at "fd"); (case g => walk_at "tab"); (case h => first | assumption | rfl); (case k => rfl))
  | (refine' pattr_sat ?f ?g; (case f => exact KN.at (by assumption) (by first | assumption | decide)); (case g => walk_at "tab")))
local macro_rules | `(tactic| walk_at "le") => `(tactic| first | (refine' plen_ba ?f; (case f => walk_at "fd")) | (refine' plen_list ?f; (case f => walk_at "fd")) | (refine' plen_bytes ?f; (case f => simp; omega)))
local macro_rules | `(tactic| walk_at "ev") => `(tactic| first
  | (refine' pe_con ?g; (case g => rfl))
  | (refine' pe_loc ?n ?g ?h; (case n => decide); (case g => walk_at "sc"); (case h => walk_at "lo"))
  | (refine' pe_glob ?n ?g ?h; (case n => decide); (case g => walk_at "sc"); (case h => walk_at "tab"))
  | (refine' pe_attr ?n ?g ?h; (case n => rfl); (case g => walk_at "ev"); (case h => walk_at "at"))
  | (refine' pe_len ?n ?f ?g ?h; (case n => rfl); (case f => walk_at "ev"); (case g => walk_at "ev"); (case h => walk_at "le"))
  | (refine' pe_bin ?f ?g ?h; (case f => walk_at "ev"); (case g => walk_at "ev"); (case h => walk_at "op"))
  | (refine' pe_una ?f ?h; (case f => walk_at "ev"); (case h => rfl))
  | (refine' pe_cmp ?n ?f ?g ?h; (case n => rfl); (case f => walk_at "ev"); (case g => walk_at "ev"); (case h => rfl)))
local macro_rules | `(tactic| walk_at "te") => `(tactic| first
  | (refine' pt_cmp ?g ?h; (case g => walk_at "ev"); (case h => rfl))
  | (refine' pt_not ?g ?h; (case g => walk_at "te"); (case h => rfl))
  | (refine' pt_chain ?n ?f ?g ?h ?k1 ?k2 ?k3 ?k4 ?k5; (case n => rfl); (case f => walk_at "ev"); (case g => walk_at "ev"); (case h => walk_at "ev"); (case k1 => rfl); (case k2 => rfl); (case k3 => rfl); (case k4 => rfl); (case k5 => rfl))
  | (refine' pt_and ?f ?g ?h; (case f => walk_at "te"); (case g => walk_at "te"); (case h => rfl))
  | (refine' pt_or ?f ?g ?h; (case f => walk_at "te"); (case g => walk_at "te"); (case h => rfl))
  | (refine' pt_name ?g ?h; (case g => walk_at "ev"); (case h => rfl))
  | (refine' pt_attr ?g ?h; (case g => walk_at "ev"); (case h => rfl))
  | (refine' pt_bin ?g ?h; (case g => walk_at "ev"); (case h => rfl)))
local macro_rules | `(tactic| walk_at "EV") => `(tactic| (rw [‹Fm.sc _ = _›]; walk_at "ev"))
local macro_rules | `(tactic| walk_at "TE") => `(tactic| (rw [‹Fm.sc _ = _›]; walk_at "te"))
local macro_rules | `(tactic| walk_at "SC") => `(tactic| (rw [‹Fm.sc _ = _›]; walk_at "sc"))
local macro_rules | `(tactic| walk_at "SW") => `(tactic| (intro _; rfl))
local macro_rules | `(tactic| walk_at "let") => `(tactic| (refine' W_cons (W_Let (by assumption) (by assumption) ?k ?s (fun hn => ?h) rfl ?q); (case k => walk_at "SC"); (case s => walk_at "SW"); (case h => walk_at "EV"); dsimp only))
local macro_rules | `(tactic| walk_at "iv") => `(tactic| first | rfl | (congr 1; omega))
variable {C : Cx} {F : Fm} {A : Around} {σ : Hp} {ρ : Loc} {X : Value → Hp → Loc → Prop} {d : Nat} {Q : Value → Hp → Loc → Prop} {a b : Addr} {B : Bd} {ov : Value}
def tmL : List (String × Addr) := [("__init__", 181), ("Offset", 188), ("Indirect", 195), ("String", 202), ("Get", 230), ("GetSlot", 237)]
theorem tmL_ok (P : Params) : (tmL.all fun p => methChk (hd.heap_39 P) 248 (Str.ofString p.1) p.2) = true := by kernel_rfl
theorem mk248 (P : Params) : makeChk (hd.heap_39 P) 248 181 = true := by kernel_rfl
theorem tmeth2 {C : Cx} (l : L2 C) {n : String} {f : Addr} (h : (n, f) ∈ tmL) : MethOk C.K 248 (Str.ofString n) f ∧ Keeps C (.ref f) := by
  have := List.all_eq_true.mp (tmL_ok C.w.params) _ h
  rw [← l.k] at this
  exact ⟨(methChk_ok this).1, keeps_of (methChk_ok this).2⟩
/-- a Table -/
structure TS (σ : Hp) (t m : Addr) (bs : List UInt8) (p : Nat) : Prop where
  here : ∃ dx, σ t = some (.inst 248 dx [some (.ref m), some (.int p 0)]) ∧ σ m = some (.ba bs)
def Up (σ σ' : Hp) : Prop := ∀ x o, σ x = some o → σ' x = some o
theorem Up.refl {σ : Hp} : Up σ σ := fun _ _ h => h
theorem Up.trans {σ σ' σ'' : Hp} (h : Up σ σ') (g : Up σ' σ'') : Up σ σ'' := fun x o e => g x o (h x o e)
theorem Up.new {σ : Hp} {x : Addr} {o : AObj} (h : σ x = none) : Up σ (σ.put x o) := fun y o' e => (Hp.put_ne _ _ (fun z => by rw [z, h] at e; cases e)).trans e
theorem TS.up {σ σ' : Hp} {t m : Addr} {bs : List UInt8} {p : Nat} (h : TS σ t m bs p) (u : Up σ σ') : TS σ' t m bs p := let ⟨dx, h1, h2⟩ := h.here; ⟨dx, u _ _ h1, u _ _ h2⟩
def rd (c : Char) (k : Nat) (bs : List UInt8) (p : Nat) : Int := numOf c k ((bs.drop p).take k).toArray
/-- a Table's method, all arguments pure -/
theorem W_CallTP {x : String} {o : Expr} {ap pos : Pos} {es : List Expr} {t f dx : Addr} {sl : List (Option Value)} {args : List Value} {pl : Env → Sem Bool} (l : L2 C) (ok : F.Ok C) (ho : KN σ → pe S2 F.sc σ ρ o = some (.ref t)) (eb : σ t = some (.inst 248 dx sl)) (hm : (x, f) ∈ tmL) (hs : noStar es = true)
    (he : ∀ env, eval (.Call (.Attribute o (Str.ofString x) ap) es [] pos) env = (do let ov ← eval o env; standAt ap.atName; let fx ← holding [ov] (getMethod ov (Str.ofString x) (pl env)); callWith pos fx.1 fx.2 (backTo pos (starEach es env)) [])) (ha : KN σ → PEs S2 F.sc σ ρ es args)
    (h : ∀ ov vs, er ov = .ref t → vs.map er = args → W C F A (call (.ref f) (ov :: vs) []) σ ρ Q X) : W C F A (eval (.Call (.Attribute o (Str.ofString x) ap) es [] pos) F.env) σ ρ Q X :=
  W_kn2 l ok fun hn => W_CallA ok l.ok (S2_ok l) (ho hn) (gm_inst ok l.ok eb (tmeth2 l hm).1) (tmeth2 l hm).2 hs (fun ov hov => W_argsP l ok ha fun vs hvs => h ov vs hov hvs) (he _)
theorem W_SetT {x : String} {o value : Expr} {p pos : Pos} {t dx : Addr} {sl : List (Option Value)} {i : Nat} {Q : Flow → Hp → Loc → Prop} (l : L2 C) (ok : F.Ok C)
    (he : ∀ env, exec (.Assign [.Attribute o (Str.ofString x) p] value pos) env = (do standAt pos; let v ← eval value env; assign (.Attribute o (Str.ofString x) p) env v; pure .next))
    (h : W C F A (eval value F.env) σ ρ (fun v σ₁ ρ₁ => (KN σ₁ → pe S2 F.sc σ₁ ρ₁ o = some (.ref t)) ∧ σ₁ t = some (.inst 248 dx sl) ∧ (x, i) ∈ tlL ∧ i < sl.length ∧ Q .next (σ₁.put t (.inst 248 dx (sl.set i (some v)))) ρ₁) X) :
    W C F A (exec (.Assign [.Attribute o (Str.ofString x) p] value pos) F.env) σ ρ Q X := by
  refine W_AssignAttr (he _) (h.mono (fun v σ₁ ρ₁ ⟨h1, h2, h3, h4, q⟩ => ?_) fun _ _ _ x => x)
  refine W_kn2 l ok fun hn => W_pe ok l.ok (S2_ok l) (h1 hn) fun ov' v' e1 e2 => ?_
  have := er_ref_inv e1; subst this
  refine W_setAttr l.ok ok h2 (tslot2 l h3) h4 ?_
  rw [e2]; exact q
/-- encode.Get -/
theorem w_Get0 (l : L2 C) (ok : F.Ok C) (ar : Ar F A (d + 1)) {pv bv hv : Value} {st m : Addr} {c : Char} {k p : Nat} {bs : List UInt8} (hS : ST C st c k) (e1 : er pv = .ref st) (e2 : er bv = .ref m) (e3 : er hv = .int p 0)
    (hm : σ m = some (.ba bs)) (hp : p + k ≤ bs.length) (q : ∀ σ', Up σ σ' → Q (.int (rd c k bs p) 0) σ' ρ) : W C F A (call (.ref 159) [pv, bv, hv] []) σ ρ Q X := by
  refine' call2 [("packer_type", .ref st), ("buf", .ref m), ("head", .int p 0)] l ok ar ?ho ?hcd ?hbind ?hloc ?hcell ?hco ?hgen ?hk ?h
  walk_at "fb_enter"
  case hbind => exact ⟨[("packer_type", pv), ("buf", bv), ("head", hv)], fun s _ => BindsTo.of_eq rfl, by simp [e1, e2, e3]⟩
  intro F' A' ok' ar' hsc
  obtain ⟨fmt, tk, g1, g2⟩ := hS.at_
  refine' W_cons (W_Return (W_Item l.ok ok' (S2_ok l) (fun _ _ _ => rfl) (W_kn2 l ok' fun hn => W_CallA (ov := .ref st) ok' l.ok (S2_ok l) ?x1 (gm_su l.ok hS) keeps_builtin rfl (fun ov' hov => W_argsP (vs := [.ref m, .int p 0]) l ok' (fun hn => ⟨?x2, ?x3, trivial⟩) fun vs hvs => ?x4) ?x5)))
  case x1 => walk_at "EV"
  case x2 => walk_at "EV"
  case x3 => walk_at "EV"
  case x5 => rfl
  refine W_unpack l.ok ok' hS.ic g1 g2 hov hvs hm rfl hp fun x nx => ⟨.int 0 0, _, by unfold pe; rfl, pitem_tup (Hp.put_self _ _ _) (by decide) (by decide) rfl, q _ (.new nx)⟩
/-- Table.Get -/
theorem w_TGet (l : L2 C) (ok : F.Ok C) (ar : Ar F A (d + 2)) (hov : er ov = .ref a) {fv hv : Value} {f st m : Addr} {c : Char} {k p p0 : Nat} {bs : List UInt8} (fl : FL C f c k st) (hf : f ∈ ptL) (hS : ST C st c k) (e1 : er fv = .ref f) (e3 : er hv = .int p 0)
    (ht : TS σ a m bs p0) (hp : p + k ≤ bs.length) (h32 : p ≤ 4294967295) (q : ∀ σ', Up σ σ' → Q (.int (rd c k bs p) 0) σ' ρ) : W C F A (call (.ref 230) [ov, fv, hv] []) σ ρ Q X := by
  obtain ⟨dx, h1, h2⟩ := id ht.here
  obtain ⟨fm, fmin, fmax, fbw, fpk⟩ := id fl
  refine' call2 [("self", .ref a), ("flags", .ref f), ("off", .int p 0)] l ok ar ?ho ?hcd ?hbind ?hloc ?hcell ?hco ?hgen ?hk ?h
  walk_at "fb_enter"
  case hbind => exact ⟨[("self", ov), ("flags", fv), ("off", hv)], fun s _ => BindsTo.of_eq rfl, by simp [hov, e1, e3]⟩
  intro F' A' ok' ar' hsc
  refine' W_cons (W_Do ok' ?e1s (W_CallNP (args := [.int p 0, .ref 131]) l ok' (fun hn => ?e1o) ?e1r (fn2 l (f := 152) (by decide)) rfl ?e1e (fun hn => ⟨?e1a0, ?e1a1, trivial⟩) fun vs e2 => ?e1z))
  case e1s => walk_at "SW"
  case e1o => walk_at "EV"
  case e1r => (intro v hv; exact er_ref_inv hv)
  case e1e => walk_at "SW"
  case e1a0 => walk_at "EV"
  case e1a1 => walk_at "EV"
  obtain ⟨v1, v2, rfl, y1, y2⟩ := two_of e2
  refine w_enf l ok' (ar'.mono (d' := 1) (by omega)) y1 y2 (fl131 (C := C)).mem (fl131 (C := C)).min (fl131 (C := C)).max (by show (0 : Int) ≤ (p : Int); omega) (by show (p : Int) ≤ (4294967295 : Int); omega) ?_
  dsimp only
  refine' W_cons (W_Return (W_PyType (a := f) l ok' (fun hn => ?x1) hf rfl ?x2 (W_CallNP (args := [.ref st, .ref m, .int p 0]) l ok' (fun hn => ?x3) (fun v hv => er_ref_inv hv) (fn2 l (f := 159) (by decide)) rfl ?x4 (fun hn => ⟨?x5, ?x6, ?x7, trivial⟩) fun vs e2 => ?x8)))
  case x1 => walk_at "EV"
  case x2 => walk_at "SW"
  case x3 => walk_at "EV"
  case x4 => walk_at "SW"
  case x5 => walk_at "EV"
  case x6 => walk_at "EV"
  case x7 => walk_at "EV"
  obtain ⟨v1, v2, v3, rfl, z1, z2, z3⟩ := three_of e2
  exact w_Get0 l ok' ar' hS z1 z2 z3 h2 hp fun σ' u => ⟨_, rfl, q σ' u⟩
/-- Table.Indirect -/
theorem w_Indirect (l : L2 C) (ok : F.Ok C) (ar : Ar F A (d + 2)) (hov : er ov = .ref a) {hv : Value} {m : Addr} {p p0 : Nat} {bs : List UInt8} (e3 : er hv = .int p 0)
    (ht : TS σ a m bs p0) (hp : p + 4 ≤ bs.length) (h32 : p ≤ 4294967295) (q : ∀ σ', Up σ σ' → Q (.int ((p : Int) + rd 'I' 4 bs p) 0) σ' ρ) : W C F A (call (.ref 195) [ov, hv] []) σ ρ Q X := by
  obtain ⟨dx, h1, h2⟩ := id ht.here
  refine' call2 [("self", .ref a), ("off", .int p 0)] l ok ar ?ho ?hcd ?hbind ?hloc ?hcell ?hco ?hgen ?hk ?h
  walk_at "fb_enter"
  case hbind => exact ⟨[("self", ov), ("off", hv)], fun s _ => BindsTo.of_eq rfl, by simp [hov, e3]⟩
  intro F' A' ok' ar' hsc
  refine' W_cons (W_Do ok' ?e1s (W_CallNP (args := [.int p 0, .ref 131]) l ok' (fun hn => ?e1o) ?e1r (fn2 l (f := 152) (by decide)) rfl ?e1e (fun hn => ⟨?e1a0, ?e1a1, trivial⟩) fun vs e2 => ?e1z))
  case e1s => walk_at "SW"
  case e1o => walk_at "EV"
  case e1r => (intro v hv; exact er_ref_inv hv)
  case e1e => walk_at "SW"
  case e1a0 => walk_at "EV"
  case e1a1 => walk_at "EV"
  obtain ⟨v1, v2, rfl, y1, y2⟩ := two_of e2
  refine w_enf l ok' (ar'.mono (d' := 1) (by omega)) y1 y2 (fl131 (C := C)).mem (fl131 (C := C)).min (fl131 (C := C)).max (by show (0 : Int) ≤ (p : Int); omega) (by show (p : Int) ≤ (4294967295 : Int); omega) ?_
  dsimp only
  refine' W_cons (W_Return (W_BinOp (W_pe' (v := .int p 0) l ok' (fun hn => ?x1) rfl (W_CallNP (args := [.ref 52, .ref m, .int p 0]) l ok' (fun hn => ?x3) (fun v hv => er_ref_inv hv) (fn2 l (f := 159) (by decide)) rfl ?x4 (fun hn => ⟨?x5, ?x6, ?x7, trivial⟩) fun vs e2 => ?x8))))
  case x1 => walk_at "EV"
  case x3 => walk_at "EV"
  case x4 => walk_at "SW"
  case x5 => walk_at "EV"
  case x6 => walk_at "EV"
  case x7 => walk_at "EV"
  obtain ⟨v1, v2, v3, rfl, z1, z2, z3⟩ := three_of e2
  exact w_Get0 l ok' ar' (st52 l) z1 z2 z3 h2 hp fun σ' u => ⟨_, rfl, q σ' u⟩

end Mine
end
/- part L02s -/
section
open PySem PySem.W PySem.Spec PySem.Calls PyProof.Rows
set_option Elab.async false
set_option maxRecDepth 100000
set_option maxHeartbeats 4000000
set_option linter.all false
namespace Mine
local macro_rules | `(tactic| walk_at "fb_enter") => `(tactic| (
  (case ho => k_is)
  (case hcd => k_is)
  (case hcell => decide)
  (case hco => rfl)
  (case hgen => rfl)
  (case hk => rfl)
  (case hloc => simp [lk_cons])))
local macro_rules | `(tactic| walk_at "op") => `(tactic| first | rfl | exact pbin_mulr (by decide) | exact pbin_mull (by decide))
local macro_rules | `(tactic| walk_at "sc") => `(tactic| first | (simp only [lk_cons, String.reduceEq, if_true, if_false, reduceCtorEq]; done) | rfl)
local macro_rules | `(tactic| walk_at "tab") => `(tactic| first | assumption | rfl | (simp [S2, gL, bL, slL, tlL, saL, tab_cons, tab, String.reduceEq, lk_cons, put_at]; done))
local macro_rules | `(tactic| walk_at "lo") => `(tactic| first | assumption | rfl | (rw [put_at, if_pos rfl]) | (rw [put_at, if_neg (by decide)]; walk_at "lo") | (simp [lk_cons, put_at]; done))
local macro_rules | `(tactic| walk_at "fd") => `(tactic| first | assumption | exact Hp.put_self _ _ _ | (refine (Hp.put_ne _ _ ?n).trans ?g; (case n => first | assumption | exact Ne.symm (by assumption)); (case g => walk_at "fd")))
local macro_rules | `(tactic| walk_at "at") => `(tactic| first
  | (refine' pattr_slot ?f ?g ?h ?k; (case f => walk_at "fd"); (case g => walk_at "tab"); (case h => first | assumption | rfl); (case k => rfl))
  | (refine' pattr_sat ?f ?g; (case f => exact KN.at (by assumption) (by first | assumption | decide)); (case g => walk_at "tab")))
local macro_rules | `(tactic| walk_at "le") => `(tactic| first | (refine' plen_ba ?f; (case f => walk_at "fd")) | (refine' plen_list ?f; (case f => walk_at "fd")) | (refine' plen_bytes ?f; (case f => simp; omega)))
local macro_rules | `(tactic| walk_at "ev") => `(tactic| first
  | (refine' pe_con ?g; (case g => rfl))
  | (refine' pe_loc ?n ?g ?h; (case n => decide); (case g => walk_at "sc"); (case h => walk_at "lo"))
  | (refine' pe_glob ?n ?g ?h; (case n => decide); (case g => walk_at "sc"); (case h => walk_at "tab"))
  | (refine' pe_attr ?n ?g ?h; (case n => rfl); (case g => walk_at "ev"); (case h => walk_at "at"))
  | (refine' pe_len ?n ?f ?g ?h; (case n => rfl); (case f => walk_at "ev"); (case g => walk_at "ev"); (case h => walk_at "le"))
  | (refine' pe_bin ?f ?g ?h; (case f => walk_at "ev"); (case g => walk_at "ev"); (case h => walk_at "op"))
  | (refine' pe_una ?f ?h; (case f => walk_at "ev"); (case h => rfl))
  | (refine' pe_cmp ?n ?f ?g ?h; (case n => rfl); (case f => walk_at "ev"); (case g => walk_at "ev"); (case h => rfl)))
local macro_rules | `(tactic| walk_at "te") => `(tactic| first
  | (refine' pt_cmp ?g ?h; (case g => walk_at "ev"); (case h => rfl))
  | (refine' pt_not ?g ?h; (case g => walk_at "te"); (case h => rfl))
  | (refine' pt_chain ?n ?f ?g ?h ?k1 ?k2 ?k3 ?k4 ?k5; (case n => rfl); (case f => walk_at "ev"); (case g => walk_at "ev"); (case h => walk_at "ev"); (case k1 => rfl); (case k2 => rfl); (case k3 => rfl); (case k4 => rfl); (case k5 => rfl))
  | (refine' pt_and ?f ?g ?h; (case f => walk_at "te"); (case g => walk_at "te"); (case h => rfl))
  | (refine' pt_or ?f ?g ?h; (case f => walk_at "te"); (case g => walk_at "te"); (case h => rfl))
  | (refine' pt_name ?g ?h; (case g => walk_at "ev"); (case h => rfl))
  | (refine' pt_attr ?g ?h; (case g => walk_at "ev"); (case h => rfl))
  | (refine' pt_bin ?g ?h; (case g => walk_at "ev"); (case h => rfl)))
local macro_rules | `(tactic| walk_at "EV") => `(tactic| (rw [‹Fm.sc _ = _›]; walk_at "ev"))
local macro_rules | `(tactic| walk_at "TE") => `(tactic| (rw [‹Fm.sc _ = _›]; walk_at "te"))
local macro_rules | `(tactic| walk_at "SC") => `(tactic| (rw [‹Fm.sc _ = _›]; walk_at "sc"))
local macro_rules | `(tactic| walk_at "SW") => `(tactic| (intro _; rfl))
local macro_rules | `(tactic| walk_at "let") => `(tactic| (refine' W_cons (W_Let (by assumption) (by assumption) ?k ?s (fun hn => ?h) rfl ?q); (case k => walk_at "SC"); (case s => walk_at "SW"); (case h => walk_at "EV"); dsimp only))
local macro_rules | `(tactic| walk_at "iv") => `(tactic| first | rfl | (congr 1; omega))
variable {C : Cx} {F : Fm} {A : Around} {σ : Hp} {ρ : Loc} {X : Value → Hp → Loc → Prop} {d : Nat} {Q : Value → Hp → Loc → Prop} {a b : Addr} {B : Bd} {ov : Value}
/-- what Table.Offset tells -/
def tOff (bs : List UInt8) (v vo : Nat) : Int := if (vo : Int) < rd 'H' 2 bs v then rd 'H' 2 bs (v + vo) else 0
/-- Table.Offset -/
theorem w_TOffset (l : L2 C) (ok : F.Ok C) (ar : Ar F A (d + 3)) (hov : er ov = .ref a) {hv : Value} {m : Addr} {p v vo : Nat} {bs : List UInt8} (e3 : er hv = .int vo 0)
    (ht : TS σ a m bs p) (hp : p + 4 ≤ bs.length) (hb : bs.length ≤ 1048600) (hvt : (v : Int) = p - rd 'i' 4 bs p) (hv2 : v + 2 ≤ bs.length) (hv3 : (vo : Int) < rd 'H' 2 bs v → v + vo + 2 ≤ bs.length)
    (q : ∀ σ', Up σ σ' → Q (.int (tOff bs v vo) 0) σ' ρ) : W C F A (call (.ref 188) [ov, hv] []) σ ρ Q X := by
  obtain ⟨dx, h1, h2⟩ := id ht.here
  refine' call2 [("self", .ref a), ("vtableOffset", .int vo 0)] l ok ar ?ho ?hcd ?hbind ?hloc ?hcell ?hco ?hgen ?hk ?h
  walk_at "fb_enter"
  case hbind => exact ⟨[("self", ov), ("vtableOffset", hv)], fun s _ => BindsTo.of_eq rfl, by simp [hov, e3]⟩
  intro F' A' ok' ar' hsc
  refine' W_cons (W_LetW ok' ?a1 ?a2 (W_BinOp (W_pe' (v := .int p 0) l ok' (fun hn => ?a3) rfl (W_CallTP (x := "Get") (f := 230) (args := [.ref 119, .int p 0]) l ok' (fun hn => ?a4) h1 (by decide) rfl ?a5 (fun hn => ⟨?a6, ?a7, trivial⟩) fun ov' vs e1 e2 => ?a8))))
  case a1 => walk_at "SC"
  case a2 => walk_at "SW"
  case a3 => walk_at "EV"
  case a4 => walk_at "EV"
  case a5 => walk_at "SW"
  case a6 => walk_at "EV"
  case a7 => walk_at "EV"
  obtain ⟨v1, v2, rfl, z1, z2⟩ := two_of e2
  refine w_TGet l ok' ar' e1 fl119 (by decide) (st53 l) z1 z2 ht hp (by omega) fun σ1 u1 => ⟨_, rfl, ?_⟩
  rw [← hvt]
  have ht1 := ht.up u1
  obtain ⟨dx1, k1, k2⟩ := id ht1.here
  dsimp only
  refine' W_cons (W_LetW ok' ?b1 ?b2 (W_CallTP (x := "Get") (f := 230) (args := [.ref 143, .int v 0]) l ok' (fun hn => ?b4) k1 (by decide) rfl ?b5 (fun hn => ⟨?b6, ?b7, trivial⟩) fun ov' vs e1 e2 => ?b8))
  case b1 => walk_at "SC"
  case b2 => walk_at "SW"
  case b4 => walk_at "EV"
  case b5 => walk_at "SW"
  case b6 => walk_at "EV"
  case b7 => walk_at "EV"
  obtain ⟨v1, v2, rfl, z1, z2⟩ := two_of e2
  refine w_TGet l ok' ar' e1 fl143 (by decide) (st51 l) z1 z2 ht1 hv2 (by omega) fun σ2 u2 => ?_
  have ht2 := ht1.up u2
  obtain ⟨dx2, m1, m2⟩ := id ht2.here
  dsimp only
  refine' W_cons (W_If' (b' := (decide ((vo : Int) < rd 'H' 2 bs v))) l ok' (fun hn => ?c1t) ?c1u (fun z => ?c1y) (fun z => ?c1n))
  case c1t => walk_at "TE"
  case c1u => rfl
  case c1y =>
    have hlt : (vo : Int) < rd 'H' 2 bs v := by simpa using z
    refine' W_cons (W_Return (W_CallTP (x := "Get") (f := 230) (args := [.ref 143, .int ((v : Int) + vo) 0]) l ok' (fun hn => ?d4) m1 (by decide) rfl ?d5 (fun hn => ⟨?d6, ?d7, trivial⟩) fun ov' vs e1 e2 => ?d8))
    case d4 => walk_at "EV"
    case d5 => walk_at "SW"
    case d6 => walk_at "EV"
    case d7 => walk_at "EV"
    obtain ⟨v1, v2, rfl, z1, z2⟩ := two_of e2
    refine w_TGet (p := v + vo) l ok' ar' e1 fl143 (by decide) (st51 l) z1 (by rw [z2]; congr 1) ht2 (by have := hv3 hlt; omega) (by have := hv3 hlt; omega) fun σ3 u3 => ?_
    have := q σ3 ((u1.trans u2).trans u3)
    unfold tOff at this
    rw [if_pos hlt] at this
    exact this
  case c1n =>
    have hlt : ¬ (vo : Int) < rd 'H' 2 bs v := by simpa using z
    refine W_nil ?_
    refine' W_cons (W_Return (W_pe' l ok' (fun hn => ?f1) rfl ?f2))
    case f1 => walk_at "EV"
    have := q σ2 (u1.trans u2)
    unfold tOff at this
    rw [if_neg hlt] at this
    exact this
/-- Table(made, p) -/
theorem w_Table (l : L2 C) (ok : F.Ok C) (ar : Ar F A (d + 3)) {vs : List Value} {m : Addr} {p : Nat} {bs : List UInt8} (hv : vs.map er = [.ref m, .int p 0]) (hm : σ m = some (.ba bs)) (hp : p ≤ 4294967295)
    (q : ∀ σ' t, TS σ' t m bs p → Up σ σ' → Q (.ref t) σ' ρ) : W C F A (call (.ref 248) vs []) σ ρ Q X := by
  have mk := makeChk_ok (C := C) (Cl := 248) (fI := 181) (by rw [l.k]; exact mk248 _)
  refine W_make (d := d + 2) l.ok ok ar (List.replicate 2 none) (rep_none 2) mk.1 fun x dx A' nx ndx hxd ar' => ?_
  obtain ⟨mv, pv, rfl, hmv, hpv⟩ := two_of hv
  have hx0 : ((σ.put dx .hid).put x (.inst 248 dx (List.replicate 2 none))) x = some (.inst 248 dx (List.replicate 2 none)) := Hp.put_self _ _ _
  have keep0 : ∀ y o, σ y = some o → ((σ.put dx .hid).put x (.inst 248 dx (List.replicate 2 none))) y = some o := fun y o e => (Hp.put_ne _ _ (fun z => by rw [z, nx] at e; cases e)).trans ((Hp.put_ne _ _ (fun z => by rw [z, ndx] at e; cases e)).trans e)
  generalize (σ.put dx .hid).put x (.inst 248 dx (List.replicate 2 none)) = σ0 at *
  have ar := ar'
  refine' call2 [("self", .ref x), ("buf", .ref m), ("pos", .int p 0)] l ok ar ?ho ?hcd ?hbind ?hloc ?hcell ?hco ?hgen ?hk ?h
  walk_at "fb_enter"
  case hbind => exact ⟨[("self", .ref x), ("buf", mv), ("pos", pv)], fun s _ => BindsTo.of_eq rfl, by simp [hmv, hpv]⟩
  intro F' A' ok' ar' hsc
  refine' W_cons (W_Do ok' ?e1s (W_CallNP (args := [.int p 0, .ref 131]) l ok' (fun hn => ?e1o) ?e1r (fn2 l (f := 152) (by decide)) rfl ?e1e (fun hn => ⟨?e1a0, ?e1a1, trivial⟩) fun vs e2 => ?e1z))
  case e1s => walk_at "SW"
  case e1o => walk_at "EV"
  case e1r => (intro v hv; exact er_ref_inv hv)
  case e1e => walk_at "SW"
  case e1a0 => walk_at "EV"
  case e1a1 => walk_at "EV"
  obtain ⟨v1, v2, rfl, y1, y2⟩ := two_of e2
  refine w_enf l ok' (ar'.mono (d' := 1) (by omega)) y1 y2 (fl131 (C := C)).mem (fl131 (C := C)).min (fl131 (C := C)).max (by show (0 : Int) ≤ (p : Int); omega) (by show (p : Int) ≤ (4294967295 : Int); omega) ?_
  dsimp only
  refine' W_cons (W_SetT (i := 0) (t := x) (dx := dx) (sl := List.replicate 2 none) l ok' ?g1 (W_pe' l ok' (fun hn => ?g2) rfl ⟨fun hn => ?g3, hx0, by decide, by decide, ?g4⟩))
  case g1 => walk_at "SW"
  case g2 => walk_at "EV"
  case g3 => walk_at "EV"
  dsimp only
  refine' W_cons (W_SetT (i := 1) (t := x) (dx := dx) l ok' ?k1 (W_pe' l ok' (fun hn => ?k2) rfl ⟨fun hn => ?k3, Hp.put_self _ _ _, by decide, Nat.le_of_ble_eq_true rfl, ?k4⟩))
  case k1 => walk_at "SW"
  case k2 => walk_at "EV"
  case k3 => walk_at "EV"
  have nmx : m ≠ x := fun z => by rw [← z, hm] at nx; cases nx
  refine W_nil ⟨rfl, q _ x ⟨dx, Hp.put_self _ _ _, (Hp.put_ne _ _ nmx).trans ((Hp.put_ne _ _ nmx).trans (keep0 _ _ hm))⟩ fun y o e => ?_⟩
  have nyx : y ≠ x := fun z => by rw [z, nx] at e; cases e
  exact (Hp.put_ne _ _ nyx).trans ((Hp.put_ne _ _ nyx).trans (keep0 _ _ e))

end Mine
end
/- part L02t -/
section
open PySem PySem.W PySem.Spec PySem.Calls PyProof.Rows
set_option Elab.async false
set_option maxRecDepth 100000
set_option maxHeartbeats 4000000
set_option linter.all false
namespace Mine
local macro_rules | `(tactic| walk_at "fb_enter") => `(tactic| (
  (case ho => k_is)
  (case hcd => k_is)
  (case hcell => decide)
  (case hco => rfl)
  (case hgen => rfl)
  (case hk => rfl)
  (case hloc => simp [lk_cons])))
local macro_rules | `(tactic| walk_at "op") => `(tactic| first | rfl | exact pbin_mulr (by decide) | exact pbin_mull (by decide))
local macro_rules | `(tactic| walk_at "sc") => `(tactic| first | (simp only [lk_cons, String.reduceEq, if_true, if_false, reduceCtorEq]; done) | rfl)
local macro_rules | `(tactic| walk_at "tab") => `(tactic| first | assumption | rfl | (simp [S2, gL, bL, slL, tlL, saL, tab_cons, tab, String.reduceEq, lk_cons, put_at]; done))
local macro_rules | `(tactic| walk_at "lo") => `(tactic| first | assumption | rfl | (rw [put_at, if_pos rfl]) | (rw [put_at, if_neg (by decide)]; walk_at "lo") | (simp [lk_cons, put_at]; done))
local macro_rules | `(tactic| walk_at "fd") => `(tactic| first | assumption | exact Hp.put_self _ _ _ | (refine (Hp.put_ne _ _ ?n).trans ?g; (case n => first | assumption | exact Ne.symm (by assumption)); (case g => walk_at "fd")))
local macro_rules | `(tactic| walk_at "at") => `(tactic| first
  | (refine' pattr_slot ?f ?g ?h ?k; (case f => walk_at "fd"); (case g => walk_at "tab"); (case h => first | assumption | rfl); (case k => rfl))
  | (refine' pattr_sat ?f ?g; (case f => exact KN.at (by assumption) (by first | assumption | decide)); (case g => walk_at "tab")))
local macro_rules | `(tactic| walk_at "le") => `(tactic| first | (refine' plen_ba ?f; (case f => walk_at "fd")) | (refine' plen_list ?f; (case f => walk_at "fd")) | (refine' plen_bytes ?f; (case f => simp; omega)))
local macro_rules | `(tactic| walk_at "ev") => `(tactic| first
  | (refine' pe_con ?g; (case g => rfl))
  | (refine' pe_loc ?n ?g ?h; (case n => decide); (case g => walk_at "sc"); (case h => walk_at "lo"))
  | (refine' pe_glob ?n ?g ?h; (case n => decide); (case g => walk_at "sc"); (case h => walk_at "tab"))
  | (refine' pe_attr ?n ?g ?h; (case n => rfl); (case g => walk_at "ev"); (case h => walk_at "at"))
  | (refine' pe_len ?n ?f ?g ?h; (case n => rfl); (case f => walk_at "ev"); (case g => walk_at "ev"); (case h => walk_at "le"))
  | (refine' pe_bin ?f ?g ?h; (case f => walk_at "ev"); (case g => walk_at "ev"); (case h => walk_at "op"))
  | (refine' pe_una ?f ?h; (case f => walk_at "ev"); (case h => rfl))
  | (refine' pe_cmp ?n ?f ?g ?h; (case n => rfl); (case f => walk_at "ev"); (case g => walk_at "ev"); (case h => rfl)))
local macro_rules | `(tactic| walk_at "te") => `(tactic| first
  | (refine' pt_cmp ?g ?h; (case g => walk_at "ev"); (case h => rfl))
  | (refine' pt_not ?g ?h; (case g => walk_at "te"); (case h => rfl))
  | (refine' pt_chain ?n ?f ?g ?h ?k1 ?k2 ?k3 ?k4 ?k5; (case n => rfl); (case f => walk_at "ev"); (case g => walk_at "ev"); (case h => walk_at "ev"); (case k1 => rfl); (case k2 => rfl); (case k3 => rfl); (case k4 => rfl); (case k5 => rfl))
  | (refine' pt_and ?f ?g ?h; (case f => walk_at "te"); (case g => walk_at "te"); (case h => rfl))
  | (refine' pt_or ?f ?g ?h; (case f => walk_at "te"); (case g => walk_at "te"); (case h => rfl))
  | (refine' pt_name ?g ?h; (case g => walk_at "ev"); (case h => rfl))
  | (refine' pt_attr ?g ?h; (case g => walk_at "ev"); (case h => rfl))
  | (refine' pt_bin ?g ?h; (case g => walk_at "ev"); (case h => rfl)))
local macro_rules | `(tactic| walk_at "EV") => `(tactic| (rw [‹Fm.sc _ = _›]; walk_at "ev"))
local macro_rules | `(tactic| walk_at "TE") => `(tactic| (rw [‹Fm.sc _ = _›]; walk_at "te"))
local macro_rules | `(tactic| walk_at "SC") => `(tactic| (rw [‹Fm.sc _ = _›]; walk_at "sc"))
local macro_rules | `(tactic| walk_at "SW") => `(tactic| (intro _; rfl))
local macro_rules | `(tactic| walk_at "let") => `(tactic| (refine' W_cons (W_Let (by assumption) (by assumption) ?k ?s (fun hn => ?h) rfl ?q); (case k => walk_at "SC"); (case s => walk_at "SW"); (case h => walk_at "EV"); dsimp only))
local macro_rules | `(tactic| walk_at "iv") => `(tactic| first | rfl | (congr 1; omega))
variable {C : Cx} {F : Fm} {A : Around} {σ : Hp} {ρ : Loc} {X : Value → Hp → Loc → Prop} {d : Nat} {Q : Value → Hp → Loc → Prop} {a b : Addr} {B : Bd} {ov : Value}
/-- Table.String -/
theorem w_String (l : L2 C) (ok : F.Ok C) (ar : Ar F A (d + 2)) (hov : er ov = .ref a) {hv : Value} {m : Addr} {p p0 so n : Nat} {bs : List UInt8} (e3 : er hv = .int p 0)
    (ht : TS σ a m bs p0) (hp : p + 4 ≤ bs.length) (hb : bs.length ≤ 1048600) (h1' : (so : Int) = p + rd 'I' 4 bs p) (h2' : so + 4 ≤ bs.length) (h3' : (n : Int) = rd 'I' 4 bs so) (h4' : so + 4 + n ≤ bs.length)
    (q : ∀ σ', Up σ σ' → Q (.bytes ((bs.drop (so + 4)).take n).toArray 0) σ' ρ) : W C F A (call (.ref 202) [ov, hv] []) σ ρ Q X := by
  obtain ⟨dx, h1, h2⟩ := id ht.here
  refine' call2 [("self", .ref a), ("off", .int p 0)] l ok ar ?ho ?hcd ?hbind ?hloc ?hcell ?hco ?hgen ?hk ?h
  walk_at "fb_enter"
  case hbind => exact ⟨[("self", ov), ("off", hv)], fun s _ => BindsTo.of_eq rfl, by simp [hov, e3]⟩
  intro F' A' ok' ar' hsc
  refine' W_cons (W_Do ok' ?e1s (W_CallNP (args := [.int p 0, .ref 131]) l ok' (fun hn => ?e1o) ?e1r (fn2 l (f := 152) (by decide)) rfl ?e1e (fun hn => ⟨?e1a0, ?e1a1, trivial⟩) fun vs e2 => ?e1z))
  case e1s => walk_at "SW"
  case e1o => walk_at "EV"
  case e1r => (intro v hv; exact er_ref_inv hv)
  case e1e => walk_at "SW"
  case e1a0 => walk_at "EV"
  case e1a1 => walk_at "EV"
  obtain ⟨v1, v2, rfl, y1, y2⟩ := two_of e2
  refine w_enf l ok' (ar'.mono (d' := 1) (by omega)) y1 y2 (fl131 (C := C)).mem (fl131 (C := C)).min (fl131 (C := C)).max (by show (0 : Int) ≤ (p : Int); omega) (by show (p : Int) ≤ (4294967295 : Int); omega) ?_
  dsimp only
  refine' W_cons (W_AugW ok' ?a1 ?a2 (W_CallNP (args := [.ref 52, .ref m, .int p 0]) l ok' (fun hn => ?x3) (fun v hv => er_ref_inv hv) (fn2 l (f := 159) (by decide)) rfl ?x4 (fun hn => ⟨?x5, ?x6, ?x7, trivial⟩) fun vs e2 => ?x8))
  case a1 => walk_at "SC"
  case a2 => walk_at "lo"
  case x3 => walk_at "EV"
  case x4 => walk_at "SW"
  case x5 => walk_at "EV"
  case x6 => walk_at "EV"
  case x7 => walk_at "EV"
  obtain ⟨v1, v2, v3, rfl, z1, z2, z3⟩ := three_of e2
  refine w_Get0 l ok' (ar'.mono (d' := 1) (by omega)) (st52 l) z1 z2 z3 h2 hp fun σ1 u1 => ⟨.int so 0, ?b1, rfl, ?b2⟩
  case b1 => rw [h1']; rfl
  have ht1 := ht.up u1
  obtain ⟨dx1, k1, k2⟩ := id ht1.here
  dsimp only
  walk_at "let"
  refine' W_cons (W_LetW ok' ?c1 ?c2 (W_CallNP (args := [.ref 52, .ref m, .int so 0]) l ok' (fun hn => ?c3) (fun v hv => er_ref_inv hv) (fn2 l (f := 159) (by decide)) rfl ?c4 (fun hn => ⟨?c5, ?c6, ?c7, trivial⟩) fun vs e2 => ?c8))
  case c1 => walk_at "SC"
  case c2 => walk_at "SW"
  case c3 => walk_at "EV"
  case c4 => walk_at "SW"
  case c5 => walk_at "EV"
  case c6 => walk_at "EV"
  case c7 => walk_at "EV"
  obtain ⟨v1, v2, v3, rfl, z1, z2, z3⟩ := three_of e2
  refine w_Get0 l ok' (ar'.mono (d' := 1) (by omega)) (st52 l) z1 z2 z3 k2 h2' fun σ2 u2 => ?_
  rw [← h3']
  have ht2 := ht1.up u2
  obtain ⟨dx2, m1, m2⟩ := id ht2.here
  dsimp only
  refine' W_cons (W_Return (W_kn2 l ok' fun hn => W_CallN (f := .type "bytes") ok' l.ok (S2_ok l) ?d1 (fun v hv => er_type_inv hv) keeps_type rfl (W_args1 rfl (W_SliceGet (a := m) (b := bs) (l := so + 4) (h := so + 4 + n) ok' l.ok (S2_ok l) ?d2 m2 ⟨_, rfl, ?d3⟩ ⟨_, rfl, ?d4⟩ ?d5 ?d6 (by omega) h4' fun a' na vs hvs => W_bytes_ba hvs (Hp.put_self _ _ _) ?d7)) ?d8))
  case d1 => walk_at "EV"
  case d2 => walk_at "EV"
  case d3 => walk_at "EV"
  case d4 => walk_at "EV"
  case d5 => rfl
  case d6 => rfl
  case d8 => rfl
  rw [show so + 4 + n - (so + 4) = n by omega]
  exact q _ ((u1.trans u2).trans (.new na))
/-- Table.GetSlot -/
theorem w_GetSlot (l : L2 C) (ok : F.Ok C) (ar : Ar F A (d + 4)) (hov : er ov = .ref a) {sv dv fv : Value} {f st m : Addr} {c : Char} {k p v vo : Nat} {df : Int} {bs : List UInt8} (fl : FL C f c k st) (hf : f ∈ ptL) (hS : ST C st c k) (e1 : er sv = .int vo 0) (e2 : er dv = .int df 0) (e3 : er fv = .ref f)
    (ht : TS σ a m bs p) (hp : p + 4 ≤ bs.length) (hb : bs.length ≤ 1048600) (hvt : (v : Int) = p - rd 'i' 4 bs p) (hv2 : v + 2 ≤ bs.length) (hv3 : (vo : Int) < rd 'H' 2 bs v → v + vo + 2 ≤ bs.length) (hvo : vo ≤ 65535) (hd1 : loOf c k ≤ df) (hd2 : df ≤ hiOf c k)
    {o : Nat} (ho : tOff bs v vo = o) (hoo : o ≠ 0 → p + o + k ≤ bs.length)
    (q : ∀ σ', Up σ σ' → Q (.int (if o = 0 then df else rd c k bs (p + o)) 0) σ' ρ) : W C F A (call (.ref 237) [ov, sv, dv, fv] []) σ ρ Q X := by
  obtain ⟨dx, h1, h2⟩ := id ht.here
  obtain ⟨fm, fmin, fmax, fbw, fpk⟩ := id fl
  refine' call2 [("self", .ref a), ("slot", .int vo 0), ("d", .int df 0), ("validator_flags", .ref f)] l ok ar ?ho ?hcd ?hbind ?hloc ?hcell ?hco ?hgen ?hk ?h
  walk_at "fb_enter"
  case hbind => exact ⟨[("self", ov), ("slot", sv), ("d", dv), ("validator_flags", fv)], fun s _ => BindsTo.of_eq rfl, by simp [hov, e1, e2, e3]⟩
  intro F' A' ok' ar' hsc
  refine' W_cons (W_Do ok' ?e1s (W_CallNP (args := [.int vo 0, .ref 143]) l ok' (fun hn => ?e1o) ?e1r (fn2 l (f := 152) (by decide)) rfl ?e1e (fun hn => ⟨?e1a0, ?e1a1, trivial⟩) fun vs e2 => ?e1z))
  case e1s => walk_at "SW"
  case e1o => walk_at "EV"
  case e1r => (intro v hv; exact er_ref_inv hv)
  case e1e => walk_at "SW"
  case e1a0 => walk_at "EV"
  case e1a1 => walk_at "EV"
  obtain ⟨v1, v2, rfl, y1, y2⟩ := two_of e2
  refine w_enf l ok' (ar'.mono (d' := 1) (by omega)) y1 y2 (fl143 (C := C)).mem (fl143 (C := C)).min (fl143 (C := C)).max (by show (0 : Int) ≤ (vo : Int); omega) (by show (vo : Int) ≤ (65535 : Int); omega) ?_
  dsimp only
  refine' W_cons (W_If' (b' := true) l ok' (fun hn => ?c1t) rfl (fun z => ?c1y) (fun z => ?c1n))
  case c1t => walk_at "TE"
  case c1n => cases z
  case c1y =>
  refine' W_cons (W_Do ok' ?e2s (W_CallNP (args := [.int df 0, .ref f]) l ok' (fun hn => ?e2o) ?e2r (fn2 l (f := 152) (by decide)) rfl ?e2e (fun hn => ⟨?e2a0, ?e2a1, trivial⟩) fun vs e2 => ?e2z))
  case e2s => walk_at "SW"
  case e2o => walk_at "EV"
  case e2r => (intro v hv; exact er_ref_inv hv)
  case e2e => walk_at "SW"
  case e2a0 => walk_at "EV"
  case e2a1 => walk_at "EV"
  obtain ⟨v1, v2, rfl, y1, y2⟩ := two_of e2
  refine w_enf l ok' (ar'.mono (d' := 1) (by omega)) y1 y2 fm fmin fmax hd1 hd2 (W_nil ?_)
  dsimp only
  refine' W_cons (W_LetW ok' ?a1 ?a2 (W_CallTP (x := "Offset") (f := 188) (args := [.int vo 0]) l ok' (fun hn => ?a4) h1 (by decide) rfl ?a5 (fun hn => ⟨?a6, trivial⟩) fun ov' vs e1 e2 => ?a8))
  case a1 => walk_at "SC"
  case a2 => walk_at "SW"
  case a4 => walk_at "EV"
  case a5 => walk_at "SW"
  case a6 => walk_at "EV"
  obtain ⟨v1, rfl, z1⟩ := one_of e2
  refine w_TOffset l ok' ar' e1 z1 ht hp hb hvt hv2 hv3 fun σ1 u1 => ?_
  rw [ho]
  have ht1 := ht.up u1
  obtain ⟨dx1, k1, k2⟩ := id ht1.here
  dsimp only
  refine' W_cons (W_If' (b' := (decide (o = 0))) l ok' (fun hn => ?c2t) ?c2u (fun z => ?c2y) (fun z => ?c2n))
  case c2t => walk_at "TE"
  case c2u => (by_cases z : o = 0 <;> simp [z])
  case c2y =>
    have o0 : o = 0 := by simpa using z
    refine' W_cons (W_Return (W_pe' l ok' (fun hn => ?f1) rfl ?f2))
    case f1 => walk_at "EV"
    have := q σ1 u1
    rw [if_pos o0] at this
    exact this
  case c2n =>
    have o0 : ¬ o = 0 := by simpa using z
    have hk := hoo o0
    refine W_nil ?_
    refine' W_cons (W_Return (W_CallTP (x := "Get") (f := 230) (args := [.ref f, .int ((p : Int) + o) 0]) l ok' (fun hn => ?d4) k1 (by decide) rfl ?d5 (fun hn => ⟨?d6, ?d7, trivial⟩) fun ov' vs e1 e2 => ?d8))
    case d4 => walk_at "EV"
    case d5 => walk_at "SW"
    case d6 => walk_at "EV"
    case d7 => walk_at "EV"
    obtain ⟨v1, v2, rfl, z1, z2⟩ := two_of e2
    refine w_TGet (p := p + o) l ok' (ar'.mono (d' := d + 2) (by omega)) e1 fl hf hS z1 (by rw [z2]; congr 1) ht1 hk (by omega) fun σ2 u2 => ?_
    have := q σ2 (u1.trans u2)
    rw [if_neg o0] at this
    exact this

end Mine
end
/- part L02u -/
section
open PySem PySem.W PySem.Spec PySem.Calls PyProof.Rows
set_option Elab.async false
set_option maxRecDepth 100000
set_option maxHeartbeats 4000000
set_option linter.all false
namespace Mine
local macro_rules | `(tactic| walk_at "fb_enter") => `(tactic| (
  (case ho => k_is)
  (case hcd => k_is)
  (case hcell => decide)
  (case hco => rfl)
  (case hgen => rfl)
  (case hk => rfl)
  (case hloc => simp [lk_cons])))
local macro_rules | `(tactic| walk_at "op") => `(tactic| first | rfl | exact pbin_mulr (by decide) | exact pbin_mull (by decide))
local macro_rules | `(tactic| walk_at "sc") => `(tactic| first | (simp only [lk_cons, String.reduceEq, if_true, if_false, reduceCtorEq]; done) | rfl)
local macro_rules | `(tactic| walk_at "tab") => `(tactic| first | assumption | rfl | (simp [S2, gL, bL, slL, tlL, saL, tab_cons, tab, String.reduceEq, lk_cons, put_at]; done))
local macro_rules | `(tactic| walk_at "lo") => `(tactic| first | assumption | rfl | (rw [put_at, if_pos rfl]) | (rw [put_at, if_neg (by decide)]; walk_at "lo") | (simp [lk_cons, put_at]; done))
local macro_rules | `(tactic| walk_at "fd") => `(tactic| first | assumption | exact Hp.put_self _ _ _ | (refine (Hp.put_ne _ _ ?n).trans ?g; (case n => first | assumption | exact Ne.symm (by assumption)); (case g => walk_at "fd")))
local macro_rules | `(tactic| walk_at "at") => `(tactic| first
  | (refine' pattr_slot ?f ?g ?h ?k; (case f => walk_at "fd"); (case g => walk_at "tab"); (case h => first | assumption | rfl); (case k => rfl))
  | (refine' pattr_sat ?f ?g; (case f => exact KN.at (by assumption) (by first | assumption | decide)); (case g => walk_at "tab")))
local macro_rules | `(tactic| walk_at "le") => `(tactic| first | (refine' plen_ba ?f; (case f => walk_at "fd")) | (refine' plen_list ?f; (case f => walk_at "fd")) | (refine' plen_bytes ?f; (case f => simp; omega)))
local macro_rules | `(tactic| walk_at "ev") => `(tactic| first
  | (refine' pe_con ?g; (case g => rfl))
  | (refine' pe_loc ?n ?g ?h; (case n => decide); (case g => walk_at "sc"); (case h => walk_at "lo"))
  | (refine' pe_glob ?n ?g ?h; (case n => decide); (case g => walk_at "sc"); (case h => walk_at "tab"))
  | (refine' pe_attr ?n ?g ?h; (case n => rfl); (case g => walk_at "ev"); (case h => walk_at "at"))
  | (refine' pe_len ?n ?f ?g ?h; (case n => rfl); (case f => walk_at "ev"); (case g => walk_at "ev"); (case h => walk_at "le"))
  | (refine' pe_bin ?f ?g ?h; (case f => walk_at "ev"); (case g => walk_at "ev"); (case h => walk_at "op"))
  | (refine' pe_una ?f ?h; (case f => walk_at "ev"); (case h => rfl))
  | (refine' pe_cmp ?n ?f ?g ?h; (case n => rfl); (case f => walk_at "ev"); (case g => walk_at "ev"); (case h => rfl)))
local macro_rules | `(tactic| walk_at "te") => `(tactic| first
  | (refine' pt_cmp ?g ?h; (case g => walk_at "ev"); (case h => rfl))
  | (refine' pt_not ?g ?h; (case g => walk_at "te"); (case h => rfl))
  | (refine' pt_chain ?n ?f ?g ?h ?k1 ?k2 ?k3 ?k4 ?k5; (case n => rfl); (case f => walk_at "ev"); (case g => walk_at "ev"); (case h => walk_at "ev"); (case k1 => rfl); (case k2 => rfl); (case k3 => rfl); (case k4 => rfl); (case k5 => rfl))
  | (refine' pt_and ?f ?g ?h; (case f => walk_at "te"); (case g => walk_at "te"); (case h => rfl))
  | (refine' pt_or ?f ?g ?h; (case f => walk_at "te"); (case g => walk_at "te"); (case h => rfl))
  | (refine' pt_name ?g ?h; (case g => walk_at "ev"); (case h => rfl))
  | (refine' pt_attr ?g ?h; (case g => walk_at "ev"); (case h => rfl))
  | (refine' pt_bin ?g ?h; (case g => walk_at "ev"); (case h => rfl)))
local macro_rules | `(tactic| walk_at "EV") => `(tactic| (rw [‹Fm.sc _ = _›]; walk_at "ev"))
local macro_rules | `(tactic| walk_at "TE") => `(tactic| (rw [‹Fm.sc _ = _›]; walk_at "te"))
local macro_rules | `(tactic| walk_at "SC") => `(tactic| (rw [‹Fm.sc _ = _›]; walk_at "sc"))
local macro_rules | `(tactic| walk_at "SW") => `(tactic| (intro _; rfl))
local macro_rules | `(tactic| walk_at "let") => `(tactic| (refine' W_cons (W_Let (by assumption) (by assumption) ?k ?s (fun hn => ?h) rfl ?q); (case k => walk_at "SC"); (case s => walk_at "SW"); (case h => walk_at "EV"); dsimp only))
local macro_rules | `(tactic| walk_at "iv") => `(tactic| first | rfl | (congr 1; omega))
variable {C : Cx} {F : Fm} {A : Around} {σ : Hp} {ρ : Loc} {X : Value → Hp → Loc → Prop} {d : Nat} {Q : Value → Hp → Loc → Prop} {a b : Addr} {B : Bd} {ov : Value}
theorem W_boOne {pos : Pos} {op : BoolOp} {e : Expr} (h : W C F A (eval e F.env) σ ρ Q X) : W C F A (boolOp pos op (evalEach [e] F.env)) σ ρ Q X := h
theorem W_boAnd {pos : Pos} {e e2 : Expr} {rest : List Expr} (h : W C F A (eval e F.env) σ ρ (fun v σ₁ ρ₁ => v = .bool true ∧ W C F A (boolOp pos .And (evalEach (e2 :: rest) F.env)) σ₁ ρ₁ Q X) X) : W C F A (boolOp pos .And (evalEach (e :: e2 :: rest) F.env)) σ ρ Q X := by
  intro s i
  show wpN _ _ (do let v ← eval e F.env; standAt pos; let t ← holding [v] (truthy v); match BoolOp.And, t with | .And, false | .Or, true => pure v | _, _ => boolOp pos .And (evalEach (e2 :: rest) F.env)) _ _ s
  refine wpN_bind (h.use i (fun v s1 σ1 ρ1 i1 q1 => ?_) fun ea cls s' σ' ρ' y q => ⟨ea, cls, σ', ρ', rfl, y, q⟩)
  obtain ⟨e1, q⟩ := q1
  have := er_bool_inv (show er v = .bool true from e1); subst this
  refine wpN_bind (wpN_standAt (wpN_bind (wpN_holding (wpAny.n (wpAny_truthy_bool ?_)))))
  exact q s1 i1
theorem W_And {pos : Pos} {vs : List Expr} (h : W C F A (boolOp pos .And (evalEach vs F.env)) σ ρ Q X) : W C F A (eval (.BoolOp .And vs pos) F.env) σ ρ Q X := h
theorem W_orNil {Q : Bool → Hp → Loc → Prop} (q : Q false σ ρ) : W C F A (allTrue .Or [] F.env) σ ρ Q X := fun s i => wpN_pure ⟨σ, ρ, i, q⟩
theorem W_orCons {e : Expr} {rest : List Expr} {Q : Bool → Hp → Loc → Prop} (h : W C F A (isTrue e F.env (eval e F.env)) σ ρ (fun v σ₁ ρ₁ => v = false ∧ W C F A (allTrue .Or rest F.env) σ₁ ρ₁ Q X) X) : W C F A (allTrue .Or (e :: rest) F.env) σ ρ Q X := by
  intro s i
  show wpN _ _ (do match BoolOp.Or, ← isTrue e F.env (eval e F.env) with | .And, false => pure false | .Or, true => pure true | _, _ => allTrue .Or rest F.env) _ _ s
  refine wpN_bind (h.use i (fun v s1 σ1 ρ1 i1 q1 => ?_) fun ea cls s' σ' ρ' y q => ⟨ea, cls, σ', ρ', rfl, y, q⟩)
  obtain ⟨e1, q⟩ := q1
  have : v = false := e1
  subst this
  exact q s1 i1
theorem W_TrueOr {pos : Pos} {vs : List Expr} {whole : Sem Value} {Q : Bool → Hp → Loc → Prop} (h : W C F A (allTrue .Or vs F.env) σ ρ Q X) : W C F A (isTrue (.BoolOp .Or vs pos) F.env whole) σ ρ Q X := h
/-- _law_up4 -/
theorem w_up4 (l : L2 C) (ok : F.Ok C) (ar : Ar F A (d + 1)) {xv : Value} {x : Nat} (hx : er xv = .int x 0) (q : Q (.int (x + padOf 4 x : Nat) 0) σ ρ) : W C F A (call (.ref 754) [xv] []) σ ρ Q X := by
  refine' call2 [("x", .int x 0)] l ok ar ?ho ?hcd ?hbind ?hloc ?hcell ?hco ?hgen ?hk ?h
  walk_at "fb_enter"
  case hbind => exact ⟨[("x", xv)], fun s _ => BindsTo.of_eq rfl, by simp [hx]⟩
  intro F' A' ok' ar' hsc
  refine' W_cons (W.mono (Q := fun fl σ₁ ρ₁ => fl = Flow.next ∧ σ₁ = σ ∧ ρ₁ (Str.ofString "x") = some (.int (x + padOf 4 x : Nat) 0)) ?wh ?ct (fun _ _ _ x => x))
  case wh =>
    refine' W_While (A := A') ok' ar'.frames (fun k σ₁ ρ₁ => σ₁ = σ ∧ ∃ y : Nat, y + k = x + padOf 4 x ∧ k < 4 ∧ ρ₁ (Str.ofString "x") = some (.int y 0)) ?turn (padOf 4 x) ⟨rfl, x, rfl, ?p4, ?lx⟩
    case p4 => (unfold padOf; omega)
    case lx => walk_at "lo"
    case turn =>
      rintro k σ₁ ρ₁ ⟨rfl, y, hk, hk4, hy⟩
      have hz : (x + padOf 4 x) % 4 = 0 := by unfold padOf; omega
      refine' W_test l ok' (fun hn => ?t1) (v' := decide (0 < k)) ?t2 ?t3
      case t1 => walk_at "TE"
      case t2 =>
        have e : ((y : Int).fmod 4) = ((y % 4 : Nat) : Int) := by rw [Int.fmod_eq_emod_of_nonneg _ (by decide)]; omega
        simp only [e]
        by_cases z : 0 < k <;> simp [z] <;> omega
      cases k with
      | zero => exact ⟨rfl, rfl, by rw [hy]; congr 2; omega⟩
      | succ j =>
        rw [if_pos (by simp)]
        refine' W_cons (W_Aug (v' := .int (y + 1 : Nat) 0) l ok' ?n1 ?n2 (fun hn => ?n3) ?n5 rfl rfl ?n4)
        case n1 => walk_at "SC"
        case n2 => walk_at "lo"
        case n3 => walk_at "EV"
        case n5 => rfl
        dsimp only
        exact W_nil ⟨j, Nat.lt_succ_self j, rfl, y + 1, by omega, by omega, by walk_at "lo"⟩
  case ct =>
    rintro fl σ₁ ρ₁ ⟨rfl, rfl, w1⟩
    dsimp only
    refine' W_cons (W_Return (W_pe' l ok' (fun hn => ?r1) rfl ?r2))
    case r1 => walk_at "EV"
    exact q
/-- _law_refused: the table is too great -/
theorem w_refused (l : L2 C) (ok : F.Ok C) (ar : Ar F A (d + 7)) {ov : Value} (hov : er ov = .ref b) {ns : List Nat} {cl : Addr} {o : Nat} (h : BS σ b a B) (hv : B.nest = true) (hc : B.cv = .ref cl) (hcl : σ cl = some (.list (vnats ns))) (hoe : B.oe = .int o 0)
    (hvt : σ B.vt = some (.raw emptyDict)) (hvs' : (B.vt == sysModules) = false) (hm : B.live.length + 3 * ns.length + 30 ≤ 1048576) (hin : ∀ n ∈ ns, n ≤ (sB B).live.length) (ho : o ≤ (sB B).live.length) (hns : ns.length ≤ 1000)
    (hx : ¬ fitsV (sB B).live.length ns ((sB B).live.length - o))
    (q : ∀ σ' a' B', BS σ' b a' B' → Ext (sB { B with nest := false }) B' (3 * ns.length + 9) → (∀ x o, σ x = some o → x ≠ b → x ≠ a → σ' x = some o) → Q (.bool true) σ' ρ) : W C F A (call (.ref 761) [ov] []) σ ρ Q X := by
  obtain ⟨dx, bs, hb, ha, g1, g2, g3⟩ := id h
  refine' call2 [("b", .ref b)] l ok ar ?ho ?hcd ?hbind ?hloc ?hcell ?hco ?hgen ?hk ?h
  walk_at "fb_enter"
  case hbind => exact ⟨[("b", ov)], fun s _ => BindsTo.of_eq rfl, by simp [hov]⟩
  intro F' A' ok' ar' hsc
  refine' W_cons (W_Try1 l ok' ar'.frames ?tr)
  refine' W_cons (W_Do ok' ?x0 (W_CallMP (x := "EndObject") (f := 383) (args := []) l ok' (fun hn => ?x1) hb (by decide) rfl ?x2 (fun hn => trivial) fun ov' vs e1 e2 => ?x3))
  case x0 => walk_at "SW"
  case x1 => walk_at "EV"
  case x2 => walk_at "SW"
  have := List.map_eq_nil_iff.mp e2; subst this
  refine w_EndObject (d := d) l ok' ar' e1 h hv hc hcl hoe hvt hvs' hm hin ho hns (fun f => absurd f hx) fun _ σ' a' B' k1 k2 k3 => ⟨"TypeError", "TypeError", rfl, fun hn => ?t1, PySem.F.isExc_TypeError, PySem.F.notTuple_TypeError, by rw [isSubtype_type]; kernel_rfl, fun e => W_cons (W_Return (W_pe' (v := .bool true) l ok' (fun hn => ?t2) rfl (q σ' a' B' k1 k2 k3)))⟩
  case t1 => walk_at "EV"
  case t2 => walk_at "EV"

end Mine
end
/- part L02k1 -/
section
open PySem PySem.W PySem.Spec PySem.Calls PyProof.Rows
set_option Elab.async false
set_option maxRecDepth 100000
set_option maxHeartbeats 4000000
set_option linter.all false
namespace Mine
theorem rd_at {c : Char} {k : Nat} {pre post ml : List UInt8} {n : Int} {p : Nat} (e : ml = pre ++ (le k (wrap k n) ++ post)) (hp : p = pre.length) (hk : 1 ≤ k) (h1 : loOf c k ≤ n) (h2 : n ≤ hiOf c k) : rd c k ml p = n := by
  unfold rd
  rw [e, hp, List.drop_left, List.take_left' (le_length _ _)]
  exact num_pack hk h1 h2
theorem pad_even {x : Nat} (h : x % 2 = 0) : padOf 2 x = 0 := by unfold padOf; omega
theorem pad_four {x : Nat} (h : x % 4 = 0) : padOf 4 x = 0 := by unfold padOf; omega
theorem vput_even {B : Bd} {x : Int} (h : B.live.length % 2 = 0) : (vput B x).live = le 2 (wrap 2 x) ++ B.live := by
  show le 2 (wrap 2 x) ++ (List.replicate (padOf 2 (B.live.length + 0)) 0 ++ B.live) = _
  rw [pad_even (by omega)]; rfl
theorem vput_len {B : Bd} {x : Int} (h : B.live.length % 2 = 0) : (vput B x).live.length = B.live.length + 2 := by rw [vput_even h]; simp [le_length]; omega
theorem vput_ma {B : Bd} {x : Int} (h : B.ma = 4) : (vput B x).ma = 4 := by show (if B.ma < (2 : Nat) then ((2 : Nat) : Int) else B.ma) = 4; rw [h]; rfl
theorem sB_ma {B : Bd} (h : B.ma = 4) : (sB B).ma = 4 := by show (if B.ma < (4 : Nat) then ((4 : Nat) : Int) else B.ma) = 4; rw [h]; rfl
theorem sB_live {B : Bd} : ∃ w : List UInt8, w.length = 4 ∧ (sB B).live = w ++ (List.replicate (padOf 4 B.live.length) 0 ++ B.live) := ⟨_, le_length _ _, rfl⟩
theorem sB_len {B : Bd} : (sB B).live.length = B.live.length + padOf 4 B.live.length + 4 := by simp [sB, placeB, prepB, le_length]; omega
theorem sB_four {B : Bd} : (sB B).live.length % 4 = 0 := by rw [sB_len]; unfold padOf; omega
theorem patch_live {B : Bd} {oo : Nat} {V w rest : List UInt8} (h : B.live = V ++ (w ++ rest)) (hw : w.length = 4) (ho : oo = (w ++ rest).length) : (patch B oo).live = V ++ (le 4 (wrap 4 (V.length : Int)) ++ rest) := by
  have e1 : B.live.length - oo = V.length := by rw [h, ho]; simp
  have e2 : (B.live.length : Int) - oo = V.length := by rw [h, ho]; simp
  show B.live.take (B.live.length - oo) ++ le 4 (wrap 4 ((B.live.length : Int) - oo)) ++ B.live.drop (B.live.length - oo + 4) = _
  rw [e1, e2, h, List.take_left, List.drop_length_add_append, ← hw, List.drop_left, List.append_assoc]
theorem finB_live {B : Bd} {n : Nat} (h4 : (B.live.length + padOf 4 (B.live.length + 4)) % 4 = 0) (hn : n ≤ B.live.length) : (finB B 4 n).live = le 4 (wrap 4 ((B.live.length + padOf 4 (B.live.length + 4) - n + 4 : Nat) : Int)) ++ (List.replicate (padOf 4 (B.live.length + 4)) 0 ++ B.live) := by
  have hl : (prepB B 4 4).live = List.replicate (padOf 4 (B.live.length + 4)) 0 ++ B.live := rfl
  have hll : (prepB B 4 4).live.length = B.live.length + padOf 4 (B.live.length + 4) := by rw [hl]; simp; omega
  show le 4 (wrap 4 (((prepB B 4 4).live.length + padOf 4 (prepB B 4 4).live.length - n + 4 : Nat) : Int)) ++ (List.replicate (padOf 4 ((prepB B 4 4).live.length + 0)) 0 ++ (prepB B 4 4).live) = _
  have hp0 : padOf 4 (B.live.length + padOf 4 (B.live.length + 4)) = 0 := pad_four h4
  rw [hll, Nat.add_zero (B.live.length + padOf 4 (B.live.length + 4)), hp0, hl]; rfl
/-- the table of one offset -/
theorem wv1 {B : Bd} {n o : Nat} (hn : n ≠ 0) (hma : B.ma = 4) : ∃ w rest : List UInt8, w.length = 4 ∧ (sB B).live = w ++ rest ∧ rest = List.replicate (padOf 4 B.live.length) 0 ++ B.live ∧
    (wvB B [n] o).live = (le 2 (wrap 2 6) ++ (le 2 (wrap 2 (((sB B).live.length : Int) - o)) ++ le 2 (wrap 2 (((sB B).live.length : Int) - n)))) ++ (le 4 (wrap 4 6) ++ rest) ∧ (wvB B [n] o).ma = 4 := by
  obtain ⟨w, hw, hs⟩ := sB_live (B := B)
  have h4 := sB_four (B := B)
  refine ⟨w, _, hw, hs, rfl, ?_⟩
  have e : vtL (sB B).live.length [n].reverse true (sB B) 0 = (vput (sB B) (((sB B).live.length : Int) - n), 0) := by
    show vtL _ [n] true _ _ = _
    rw [vtL, if_neg (fun z => hn z.1), vtL]
    unfold voff; rw [if_neg hn]
  have e1 : (vput (sB B) (((sB B).live.length : Int) - n)).live = le 2 (wrap 2 (((sB B).live.length : Int) - n)) ++ (sB B).live := vput_even (by omega)
  have l1 := vput_len (B := sB B) (x := ((sB B).live.length : Int) - n) (by omega)
  have m1 := vput_ma (x := ((sB B).live.length : Int) - n) (sB_ma hma)
  generalize hX1 : vput (sB B) (((sB B).live.length : Int) - n) = X1 at *
  have e2 : (vput X1 (((sB B).live.length : Int) - o)).live = le 2 (wrap 2 (((sB B).live.length : Int) - o)) ++ X1.live := vput_even (by omega)
  have l2 := vput_len (B := X1) (x := ((sB B).live.length : Int) - o) (by omega)
  have m2 := vput_ma (x := ((sB B).live.length : Int) - o) m1
  have hwv : wvB B [n] o = patch (vput (vput X1 (((sB B).live.length : Int) - o)) 6) (sB B).live.length := by
    unfold wvB; dsimp only; rw [e]; rfl
  generalize hX2 : vput X1 (((sB B).live.length : Int) - o) = X2 at *
  have e3 : (vput X2 6).live = le 2 (wrap 2 6) ++ X2.live := vput_even (by omega)
  have m3 := vput_ma (x := 6) m2
  rw [hwv]
  refine ⟨?_, m3⟩
  have := patch_live (B := vput X2 6) (oo := (sB B).live.length) (V := le 2 (wrap 2 6) ++ (le 2 (wrap 2 (((sB B).live.length : Int) - o)) ++ le 2 (wrap 2 (((sB B).live.length : Int) - n)))) (w := w) (rest := List.replicate (padOf 4 B.live.length) 0 ++ B.live) (by rw [e3, e2, e1, hs]; simp only [List.append_assoc]) hw (by rw [hs])
  rw [this]
  simp [le_length]
/-- the table of two numbers, the third slot left -/
theorem wv2 {B : Bd} {n m o : Nat} (hn : n ≠ 0) (hm : m ≠ 0) (hma : B.ma = 4) : ∃ w rest : List UInt8, w.length = 4 ∧ (sB B).live = w ++ rest ∧ rest = List.replicate (padOf 4 B.live.length) 0 ++ B.live ∧
    (wvB B [n, m, 0] o).live = (le 2 (wrap 2 8) ++ (le 2 (wrap 2 (((sB B).live.length : Int) - o)) ++ (le 2 (wrap 2 (((sB B).live.length : Int) - n)) ++ le 2 (wrap 2 (((sB B).live.length : Int) - m))))) ++ (le 4 (wrap 4 8) ++ rest) ∧ (wvB B [n, m, 0] o).ma = 4 := by
  obtain ⟨w, hw, hs⟩ := sB_live (B := B)
  have h4 := sB_four (B := B)
  refine ⟨w, _, hw, hs, rfl, ?_⟩
  have e : vtL (sB B).live.length [n, m, 0].reverse true (sB B) 0 = (vput (vput (sB B) (((sB B).live.length : Int) - m)) (((sB B).live.length : Int) - n), 1) := by
    show vtL _ [0, m, n] true _ _ = _
    rw [vtL, if_pos ⟨rfl, rfl⟩, vtL, if_neg (fun z => hm z.1), vtL, if_neg (fun z => hn z.1), vtL]
    unfold voff; rw [if_neg hn, if_neg hm]
  have e0 : (vput (sB B) (((sB B).live.length : Int) - m)).live = le 2 (wrap 2 (((sB B).live.length : Int) - m)) ++ (sB B).live := vput_even (by omega)
  have l0 := vput_len (B := sB B) (x := ((sB B).live.length : Int) - m) (by omega)
  have m0 := vput_ma (x := ((sB B).live.length : Int) - m) (sB_ma hma)
  generalize hX0 : vput (sB B) (((sB B).live.length : Int) - m) = X0 at *
  have e1 : (vput X0 (((sB B).live.length : Int) - n)).live = le 2 (wrap 2 (((sB B).live.length : Int) - n)) ++ X0.live := vput_even (by omega)
  have l1 := vput_len (B := X0) (x := ((sB B).live.length : Int) - n) (by omega)
  have m1 := vput_ma (x := ((sB B).live.length : Int) - n) m0
  generalize hX1 : vput X0 (((sB B).live.length : Int) - n) = X1 at *
  have e2 : (vput X1 (((sB B).live.length : Int) - o)).live = le 2 (wrap 2 (((sB B).live.length : Int) - o)) ++ X1.live := vput_even (by omega)
  have l2 := vput_len (B := X1) (x := ((sB B).live.length : Int) - o) (by omega)
  have m2 := vput_ma (x := ((sB B).live.length : Int) - o) m1
  have hwv : wvB B [n, m, 0] o = patch (vput (vput X1 (((sB B).live.length : Int) - o)) 8) (sB B).live.length := by
    unfold wvB; dsimp only; rw [e]; rfl
  generalize hX2 : vput X1 (((sB B).live.length : Int) - o) = X2 at *
  have e3 : (vput X2 8).live = le 2 (wrap 2 8) ++ X2.live := vput_even (by omega)
  have m3 := vput_ma (x := 8) m2
  rw [hwv]
  refine ⟨?_, m3⟩
  have := patch_live (B := vput X2 8) (oo := (sB B).live.length) (V := le 2 (wrap 2 8) ++ (le 2 (wrap 2 (((sB B).live.length : Int) - o)) ++ (le 2 (wrap 2 (((sB B).live.length : Int) - n)) ++ le 2 (wrap 2 (((sB B).live.length : Int) - m))))) (w := w) (rest := List.replicate (padOf 4 B.live.length) 0 ++ B.live) (by rw [e3, e2, e1, e0, hs]; simp only [List.append_assoc]) hw (by rw [hs])
  rw [this]
  simp [le_length]
end Mine
end
/- part L02v -/
section
open PySem PySem.W PySem.Spec PySem.Calls PyProof.Rows
set_option Elab.async false
set_option maxRecDepth 100000
set_option maxHeartbeats 4000000
set_option linter.all false
namespace Mine
local macro_rules | `(tactic| walk_at "fb_enter") => `(tactic| (
  (case ho => k_is)
  (case hcd => k_is)
  (case hcell => decide)
  (case hco => rfl)
  (case hgen => rfl)
  (case hk => rfl)
  (case hloc => simp [lk_cons])))
local macro_rules | `(tactic| walk_at "op") => `(tactic| first | rfl | exact pbin_mulr (by decide) | exact pbin_mull (by decide))
local macro_rules | `(tactic| walk_at "sc") => `(tactic| first | (simp only [lk_cons, String.reduceEq, if_true, if_false, reduceCtorEq]; done) | rfl)
local macro_rules | `(tactic| walk_at "tab") => `(tactic| first | assumption | rfl | (simp [S2, gL, bL, slL, tlL, saL, tab_cons, tab, String.reduceEq, lk_cons, put_at]; done))
local macro_rules | `(tactic| walk_at "lo") => `(tactic| first | assumption | rfl | (rw [put_at, if_pos rfl]) | (rw [put_at, if_neg (by decide)]; walk_at "lo") | (simp [lk_cons, put_at]; done))
local macro_rules | `(tactic| walk_at "fd") => `(tactic| first | assumption | exact Hp.put_self _ _ _ | (refine (Hp.put_ne _ _ ?n).trans ?g; (case n => first | assumption | exact Ne.symm (by assumption)); (case g => walk_at "fd")))
local macro_rules | `(tactic| walk_at "at") => `(tactic| first
  | (refine' pattr_slot ?f ?g ?h ?k; (case f => walk_at "fd"); (case g => walk_at "tab"); (case h => first | assumption | rfl); (case k => rfl))
  | (refine' pattr_sat ?f ?g; (case f => exact KN.at (by assumption) (by first | assumption | decide)); (case g => walk_at "tab")))
local macro_rules | `(tactic| walk_at "le") => `(tactic| first | (refine' plen_ba ?f; (case f => walk_at "fd")) | (refine' plen_list ?f; (case f => walk_at "fd")) | (refine' plen_bytes ?f; (case f => simp; omega)))
local macro_rules | `(tactic| walk_at "ev") => `(tactic| first
  | (refine' pe_con ?g; (case g => rfl))
  | (refine' pe_loc ?n ?g ?h; (case n => decide); (case g => walk_at "sc"); (case h => walk_at "lo"))
  | (refine' pe_glob ?n ?g ?h; (case n => decide); (case g => walk_at "sc"); (case h => walk_at "tab"))
  | (refine' pe_attr ?n ?g ?h; (case n => rfl); (case g => walk_at "ev"); (case h => walk_at "at"))
  | (refine' pe_len ?n ?f ?g ?h; (case n => rfl); (case f => walk_at "ev"); (case g => walk_at "ev"); (case h => walk_at "le"))
  | (refine' pe_bin ?f ?g ?h; (case f => walk_at "ev"); (case g => walk_at "ev"); (case h => walk_at "op"))
  | (refine' pe_una ?f ?h; (case f => walk_at "ev"); (case h => rfl))
  | (refine' pe_cmp ?n ?f ?g ?h; (case n => rfl); (case f => walk_at "ev"); (case g => walk_at "ev"); (case h => rfl)))
local macro_rules | `(tactic| walk_at "te") => `(tactic| first
  | (refine' pt_cmp ?g ?h; (case g => walk_at "ev"); (case h => rfl))
  | (refine' pt_not ?g ?h; (case g => walk_at "te"); (case h => rfl))
  | (refine' pt_chain ?n ?f ?g ?h ?k1 ?k2 ?k3 ?k4 ?k5; (case n => rfl); (case f => walk_at "ev"); (case g => walk_at "ev"); (case h => walk_at "ev"); (case k1 => rfl); (case k2 => rfl); (case k3 => rfl); (case k4 => rfl); (case k5 => rfl))
  | (refine' pt_and ?f ?g ?h; (case f => walk_at "te"); (case g => walk_at "te"); (case h => rfl))
  | (refine' pt_or ?f ?g ?h; (case f => walk_at "te"); (case g => walk_at "te"); (case h => rfl))
  | (refine' pt_name ?g ?h; (case g => walk_at "ev"); (case h => rfl))
  | (refine' pt_attr ?g ?h; (case g => walk_at "ev"); (case h => rfl))
  | (refine' pt_bin ?g ?h; (case g => walk_at "ev"); (case h => rfl)))
local macro_rules | `(tactic| walk_at "EV") => `(tactic| (rw [‹Fm.sc _ = _›]; walk_at "ev"))
local macro_rules | `(tactic| walk_at "TE") => `(tactic| (rw [‹Fm.sc _ = _›]; walk_at "te"))
local macro_rules | `(tactic| walk_at "SC") => `(tactic| (rw [‹Fm.sc _ = _›]; walk_at "sc"))
local macro_rules | `(tactic| walk_at "SW") => `(tactic| (intro _; rfl))
local macro_rules | `(tactic| walk_at "let") => `(tactic| (refine' W_cons (W_Let (by assumption) (by assumption) ?k ?s (fun hn => ?h) rfl ?q); (case k => walk_at "SC"); (case s => walk_at "SW"); (case h => walk_at "EV"); dsimp only))
local macro_rules | `(tactic| walk_at "iv") => `(tactic| first | rfl | (congr 1; omega))
variable {C : Cx} {F : Fm} {A : Around} {σ : Hp} {ρ : Loc} {X : Value → Hp → Loc → Prop} {d : Nat} {Q : Value → Hp → Loc → Prop} {a b : Addr} {B : Bd} {ov : Value}
def go1 (B : Bd) (cl : Addr) : Bd := { B with cv := .ref cl, oe := .int B.live.length 0, nest := true }
def go2 (B : Bd) (cl : Addr) (keep : Nat) : Bd := placeB (prepB (go1 B cl) 4 0) 4 ((B.live.length + padOf 4 B.live.length - keep + 4 : Nat) : Int)
def go3 (B : Bd) (cl : Addr) (keep : Nat) : Bd := wvB { go2 B cl keep with nest := false } [B.live.length + padOf 4 B.live.length + 4] B.live.length
def goRoot (B : Bd) : Nat := B.live.length + padOf 4 B.live.length + 8
def go4 (B : Bd) (cl : Addr) (keep : Nat) : Bd := finB (go3 B cl keep) 4 (goRoot B)
/-- what the second reading finds -/
structure GoFacts (B : Bd) (keep : Nat) (text : List UInt8) : Prop where
  ind : ∀ cl, rd 'I' 4 (go4 B cl keep).live 0 = 12
  len : ∀ cl, (go4 B cl keep).live.length = goRoot B + 12
  so : ∀ cl, rd 'i' 4 (go4 B cl keep).live 12 = 6
  ve : ∀ cl, rd 'H' 2 (go4 B cl keep).live 6 = 6
  o4 : ∀ cl, rd 'H' 2 (go4 B cl keep).live 10 = 4
  str : ∀ cl, ∃ so : Nat, (so : Int) = 16 + rd 'I' 4 (go4 B cl keep).live 16 ∧ so + 4 ≤ (go4 B cl keep).live.length ∧ (text.length : Int) = rd 'I' 4 (go4 B cl keep).live so ∧ so + 4 + text.length ≤ (go4 B cl keep).live.length ∧ ((go4 B cl keep).live.drop (so + 4)).take text.length = text
  l3 : ∀ cl, (go3 B cl keep).live.length = goRoot B + 6
theorem go2_len (B : Bd) (cl : Addr) (keep : Nat) : (go2 B cl keep).live.length = B.live.length + padOf 4 B.live.length + 4 := by simp [go2, go1, placeB, prepB, le_length]; omega
theorem go_root (B : Bd) (cl : Addr) (keep : Nat) : (sB (go2 B cl keep)).live.length = goRoot B := by
  have h := go2_len B cl keep
  have : padOf 4 (B.live.length + padOf 4 B.live.length + 4) = 0 := by unfold padOf; omega
  simp [sB, placeB, prepB, le_length, h, this, goRoot]; omega
theorem W_CallAW (co : C.Ok) {o : Expr} {x : Str} {ap pos : Pos} {es : List Expr} {pl : Sem Bool} (hs : noStar es = true)
    (h : W C F A (eval o F.env) σ ρ (fun ov σ₁ ρ₁ => ∃ f fst, GM C F A σ₁ ρ₁ ov x f fst ∧ Keeps C f ∧ ∀ ov', er ov' = ov → W C F A (spliced (backTo pos (starEach es F.env))) σ₁ ρ₁ (fun args σ₂ ρ₂ => ∀ vs, vs.map er = args → W C F A (call f ((if fst then [ov'] else []) ++ vs) []) σ₂ ρ₂ Q X) X) X)
    (he : eval (.Call (.Attribute o x ap) es [] pos) F.env = (do let ov ← eval o F.env; standAt ap.atName; let fx ← holding [ov] (getMethod ov x pl); callWith pos fx.1 fx.2 (backTo pos (starEach es F.env)) [])) :
    W C F A (eval (.Call (.Attribute o x ap) es [] pos) F.env) σ ρ Q X := by
  intro s i
  rw [he]
  refine wpN_bind (h.use i (fun ov s1 σ1 ρ1 i1 q1 => ?_) fun ea cls s' σ' ρ' y q => ⟨ea, cls, σ', ρ', rfl, y, q⟩)
  obtain ⟨f, fst, hm, hk, q⟩ := q1
  refine wpN_bind (wpN_standAt (wpN_bind (wpN_holding (wpAny.n (hm _ _ i1 ov rfl _ _ fun tk' => ?_)))))
  exact W_callWithG co hk hs (q ov rfl) _ (i1.toks tk')
/-- a Table's method of one argument with effects -/
theorem W_CallT1 {x : String} {o e : Expr} {ap pos : Pos} {t f dx : Addr} {sl : List (Option Value)} {pl : Env → Sem Bool} (l : L2 C) (ok : F.Ok C) (ho : KN σ → pe S2 F.sc σ ρ o = some (.ref t)) (eb : σ t = some (.inst 248 dx sl)) (hm : (x, f) ∈ tmL) (hs : noStar [e] = true)
    (he : ∀ env, eval (.Call (.Attribute o (Str.ofString x) ap) [e] [] pos) env = (do let ov ← eval o env; standAt ap.atName; let fx ← holding [ov] (getMethod ov (Str.ofString x) (pl env)); callWith pos fx.1 fx.2 (backTo pos (starEach [e] env)) []))
    (h : ∀ ov, er ov = .ref t → W C F A (eval e F.env) σ ρ (fun v σ₁ ρ₁ => ∀ v', er v' = v → W C F A (call (.ref f) [ov, v'] []) σ₁ ρ₁ Q X) X) : W C F A (eval (.Call (.Attribute o (Str.ofString x) ap) [e] [] pos) F.env) σ ρ Q X :=
  W_kn2 l ok fun hn => W_CallA ok l.ok (S2_ok l) (ho hn) (gm_inst ok l.ok eb (tmeth2 l hm).1) (tmeth2 l hm).2 hs (fun ov hov => W_args1 hs ((h ov hov).mono (fun v σ₁ ρ₁ q vs hvs => by
    obtain ⟨v', rfl, e'⟩ := one_of hvs
    exact q v' e') fun _ _ _ x => x)) (he _)
/-- Table(m, Table(m, 0).Indirect(0)) -/
theorem W_Root (l : L2 C) (ok : F.Ok C) (ar : Ar F A (d + 3)) {f1 f2 f3 f4 : Pos} {k1 k2 : Nat} {p1 p2 p3 p4 p5 p6 : Pos} {pl : Env → Sem Bool} {m : Addr} {ml : List UInt8} {p : Nat} (hm : σ m = some (.ba ml)) (hp : rd 'I' 4 ml 0 = p) (h4 : 4 ≤ ml.length) (hb : p ≤ 4294967295)
    (hT : ∀ σ, pe S2 F.sc σ ρ (.Name (Str.ofString "Table") f1) = some (.ref 248)) (hT2 : ∀ σ, pe S2 F.sc σ ρ (.Name (Str.ofString "Table") f2) = some (.ref 248)) (hM : ∀ σ, pe S2 F.sc σ ρ (.Name (Str.ofString "made") f3) = some (.ref m)) (hM2 : ∀ σ, pe S2 F.sc σ ρ (.Name (Str.ofString "made") f4) = some (.ref m))
    (q : ∀ σ' t, TS σ' t m ml p → Up σ σ' → Q (.ref t) σ' ρ)
    (e1 : ∀ env, eval (.Call (.Attribute (.Call (.Name (Str.ofString "Table") f2) [.Name (Str.ofString "made") f4, .Constant (.int 0) k1 p1] [] p2) (Str.ofString "Indirect") p3) [.Constant (.int 0) k2 p4] [] p5) env = (do let ov ← eval (.Call (.Name (Str.ofString "Table") f2) [.Name (Str.ofString "made") f4, .Constant (.int 0) k1 p1] [] p2) env; standAt p3.atName; let fx ← holding [ov] (getMethod ov (Str.ofString "Indirect") (pl env)); callWith p5 fx.1 fx.2 (backTo p5 (starEach [.Constant (.int 0) k2 p4] env)) [])) :
    W C F A (eval (.Call (.Name (Str.ofString "Table") f1) [.Name (Str.ofString "made") f3, .Call (.Attribute (.Call (.Name (Str.ofString "Table") f2) [.Name (Str.ofString "made") f4, .Constant (.int 0) k1 p1] [] p2) (Str.ofString "Indirect") p3) [.Constant (.int 0) k2 p4] [] p5] [] p6) F.env) σ ρ Q X := by
  have mk := (makeChk_ok (C := C) (Cl := 248) (fI := 181) (by rw [l.k]; exact mk248 _)).2
  have c0 : ∀ σ k p, pe S2 F.sc σ ρ (.Constant (.int 0) k p) = some (.int ((0 : Nat) : Int) 0) := fun σ k p => pe_con rfl
  refine W_kn2 l ok fun hn => W_CallN (f := .ref 248) ok l.ok (S2_ok l) (hT _) (fun v hv => er_ref_inv hv) mk rfl (W_args_cons rfl (W_pe' (v := .ref m) l ok (fun hn => hM _) rfl (W_args_cons rfl (W_CallAW l.ok rfl (W_CallNP (args := [.ref m, .int ((0 : Nat) : Int) 0]) l ok (fun hn => hT2 _) (fun v hv => er_ref_inv hv) mk rfl (fun env => rfl) (fun hn => ⟨hM2 _, c0 _ _ _, trivial⟩) fun vs e2 => w_Table (p := 0) l ok ar e2 hm (by omega) fun σ1 t1 ht1 u1 => ?_) (e1 _))))) rfl
  obtain ⟨dx1, h1, h2⟩ := id ht1.here
  refine ⟨.ref 195, true, gm_inst ok l.ok h1 (tmeth2 l (n := "Indirect") (by decide)).1, (tmeth2 l (n := "Indirect") (by decide)).2, fun ov' hov => W_argsP (vs := [.int ((0 : Nat) : Int) 0]) l ok (fun hn => ⟨c0 _ _ _, trivial⟩) fun vs hvs => ?_⟩
  obtain ⟨v, rfl, e3⟩ := one_of hvs
  refine w_Indirect l ok (ar.mono (d' := d + 2) (by omega)) hov e3 ht1 (by omega) (by omega) fun σ2 u2 => W_args_nil fun vs hvs => ?_
  rw [hp] at hvs
  refine w_Table (p := p) l ok ar (hvs.trans ?_) (u2 _ _ h2) hb fun σ3 t3 ht3 u3 => q σ3 t3 ht3 ((u1.trans u2).trans u3)
  simp
/-- _law_goes_on -/
theorem w_goes_on (l : L2 C) (ok : F.Ok C) (ar : Ar F A (d + 8)) (hov : er ov = .ref b) {kv tv : Value} {keep : Nat} {text : List UInt8} (hk : er kv = .int keep 0) (ht : er tv = .bytes text.toArray 0) (h : BS σ b a B) (hv : B.nest = false) (hma : B.ma = 4)
    (hvt : σ B.vt = some (.raw emptyDict)) (hvs' : (B.vt == sysModules) = false) (hm : B.live.length ≤ 900000) (hk1 : keep ≠ 0) (hk2 : keep ≤ B.live.length) (Fc : GoFacts B keep text) (htl : text.length ≤ 1000)
    (q : ∀ σ', Q (.bool true) σ' ρ) : W C F A (call (.ref 768) [ov, kv, tv] []) σ ρ Q X := by
  obtain ⟨dx, bs, hb, ha, g1, g2, g3⟩ := id h
  have p4 : padOf 4 B.live.length < 4 := by unfold padOf; omega
  refine' call2 [("b", .ref b), ("keep", .int keep 0), ("text", .bytes text.toArray 0)] l ok ar ?ho ?hcd ?hbind ?hloc ?hcell ?hco ?hgen ?hk ?h
  walk_at "fb_enter"
  case hbind => exact ⟨[("b", ov), ("keep", kv), ("text", tv)], fun s _ => BindsTo.of_eq rfl, by simp [hov, hk, ht]⟩
  intro F' A' ok' ar' hsc
  refine' W_cons (W_Do ok' ?s1s (W_CallMP (x := "StartObject") (f := 369) (args := [.int (1 : Nat) 0]) l ok' (fun hn => ?s1o) hb (by decide) rfl ?s1e (fun hn => ⟨?s1a0, trivial⟩) fun ov' vs e1 e2 => ?s1z))
  case s1s => walk_at "SW"
  case s1o => walk_at "EV"
  case s1e => walk_at "SW"
  case s1a0 => walk_at "EV"
  obtain ⟨v1, rfl, y1⟩ := one_of e2
  refine w_StartObject l ok' (ar'.mono (d' := d + 5) (by omega)) e1 y1 h hv (by decide) fun σ1 cl hB1 hK1 hncl hcl1 => ?_
  dsimp only
  have hB1 : BS σ1 b a (go1 B cl) := hB1
  obtain ⟨dx1, bs1, hb1, ha1, _⟩ := id hB1
  have nvb : B.vt ≠ b := fun z => by rw [z, hb] at hvt; cases hvt
  have nva : B.vt ≠ a := fun z => by rw [z, ha] at hvt; cases hvt
  have hvt1 := hK1.old _ _ hvt nvb nva
  refine' W_cons (W_Do ok' ?s2s (W_CallMP (x := "PrependUOffsetTRelativeSlot") (f := 611) (args := [.int (0 : Nat) 0, .int keep 0, .int 0 0]) l ok' (fun hn => ?s2o) hb1 (by decide) rfl ?s2e (fun hn => ⟨?s2a0, ?s2a1, ?s2a2, trivial⟩) fun ov' vs e1 e2 => ?s2z))
  case s2s => walk_at "SW"
  case s2o => walk_at "EV"
  case s2e => walk_at "SW"
  case s2a0 => walk_at "EV"
  case s2a1 => walk_at "EV"
  case s2a2 => walk_at "EV"
  obtain ⟨v1, v2, v3, rfl, y1, y2, y3⟩ := three_of e2
  refine w_PrependUOffsetTRelativeSlot l ok' (ar'.mono (d' := d + 4) (by omega)) e1 y1 y2 y3 hk1 hB1 (by show B.live.length + padOf 4 B.live.length + 4 ≤ _; omega) (by show keep ≤ B.live.length + _; omega) rfl rfl hcl1 (by decide) fun σ2 a2 hB2 hK2 => ?_
  dsimp only
  have hB2 : BS σ2 b a2 (go2 B cl keep) := hB2
  have nclb : cl ≠ b := fun z => by rw [z, hb1] at hcl1; cases hcl1
  have ncla : cl ≠ a := fun z => by rw [z, ha1] at hcl1; cases hcl1
  have hcl2 := hK2.old _ _ hcl1 nclb ncla
  have hvt2 := hK2.old _ _ hvt1 nvb nva
  have ncla2 : cl ≠ a2 := fun z => by obtain ⟨_, _, _, h2, _⟩ := id hB2; rw [z, h2] at hcl2; cases hcl2
  have nclv : B.vt ≠ cl := fun z => by rw [z, hcl2] at hvt2; cases hvt2
  have hB3 := hB2.other (o := .list ((List.replicate 1 (Value.int 0 0)).set 0 (.int (B.live.length + padOf 4 B.live.length + 4 : Nat) 0))) nclb ncla2
  have hcl3 : (σ2.put cl (.list ((List.replicate 1 (Value.int 0 0)).set 0 (.int (B.live.length + padOf 4 B.live.length + 4 : Nat) 0)))) cl = some (.list (vnats [B.live.length + padOf 4 B.live.length + 4])) := Hp.put_self _ _ _
  have hvt3 : (σ2.put cl (.list ((List.replicate 1 (Value.int 0 0)).set 0 (.int (B.live.length + padOf 4 B.live.length + 4 : Nat) 0)))) B.vt = some (.raw emptyDict) := (Hp.put_ne _ _ nclv).trans hvt2
  have e0 : (σ2.put cl (.list ((List.replicate 1 (Value.int 0 0)).set 0 (.int ((go1 B cl).live.length + padOf 4 (go1 B cl).live.length + 4 : Nat) 0)))) = (σ2.put cl (.list ((List.replicate 1 (Value.int 0 0)).set 0 (.int (B.live.length + padOf 4 B.live.length + 4 : Nat) 0)))) := rfl
  rw [e0]
  generalize (σ2.put cl (.list ((List.replicate 1 (Value.int 0 0)).set 0 (.int (B.live.length + padOf 4 B.live.length + 4 : Nat) 0)))) = σ3 at *
  have hgr := go_root B cl keep
  have hg2 := go2_len B cl keep
  obtain ⟨dx3, bs3, hb3, ha3, _⟩ := id hB3
  refine' W_cons (W_LetW ok' ?s3k ?s3s (W_CallMP (x := "EndObject") (f := 383) (args := []) l ok' (fun hn => ?s3o) hb3 (by decide) rfl ?s3e (fun hn => trivial) fun ov' vs e1 e2 => ?s3z))
  case s3k => walk_at "SC"
  case s3s => walk_at "SW"
  case s3o => walk_at "EV"
  case s3e => walk_at "SW"
  have := List.map_eq_nil_iff.mp e2; subst this
  refine w_EndObject (d := d + 1) (ns := [B.live.length + padOf 4 B.live.length + 4]) (o := B.live.length) l ok' (ar'.mono (by omega)) e1 hB3 rfl rfl hcl3 rfl hvt3 hvs' (by rw [hg2]; simp; omega) (by rw [hgr]; intro n hn; simp at hn; subst hn; unfold goRoot; omega) (by rw [hgr]; unfold goRoot; omega) (by simp) (fun _ σ4 a4 hB4 hK4 => ?en) (fun f => absurd ?fit f)
  case fit =>
    rw [hgr]
    refine ⟨fun n hn => ?_, by unfold goRoot; omega⟩
    simp at hn; subst hn
    unfold voff goRoot; split <;> omega
  rw [hgr]
  dsimp only
  have hB4 : BS σ4 b a4 (go3 B cl keep) := hB4
  obtain ⟨dx4, bs4, hb4, ha4, _⟩ := id hB4
  have hl3 := Fc.l3 cl
  have hma3 : (go3 B cl keep).ma = (4 : Nat) := by
    obtain ⟨_, _, _, _, _, _, h⟩ := wv1 (B := { go2 B cl keep with nest := false }) (n := B.live.length + padOf 4 B.live.length + 4) (o := B.live.length) (by omega) (by show (if B.ma < (4 : Nat) then ((4 : Nat) : Int) else B.ma) = 4; rw [hma]; rfl)
    exact h
  refine' W_cons (W_Do ok' ?s4s (W_CallMP (x := "Finish") (f := 512) (args := [.int (goRoot B) 0]) l ok' (fun hn => ?s4o) hb4 (by decide) rfl ?s4e (fun hn => ⟨?s4a0, trivial⟩) fun ov' vs e1 e2 => ?s4z))
  case s4s => walk_at "SW"
  case s4o => walk_at "EV"
  case s4e => walk_at "SW"
  case s4a0 => walk_at "EV"
  obtain ⟨v1, rfl, y1⟩ := one_of e2
  refine w_Finish l ok' (ar'.mono (d' := d + 5) (by omega)) e1 (n := goRoot B) (m := 4) y1 hB4 hma3 (.inr (.inr (.inl rfl))) (by rw [hl3]; have : padOf 4 (goRoot B + 6 + 4) < 4 := (by unfold padOf; omega); unfold goRoot at *; omega) (by rw [hl3]; omega) (by unfold goRoot; omega) fun _ σ5 a5 hB5 hK5 => ?_
  dsimp only
  have hB5 : BS σ5 b a5 (go4 B cl keep) := hB5
  obtain ⟨dx5, bs5, hb5, ha5, _⟩ := id hB5
  have f1 := Fc.ind cl
  have f2 := Fc.len cl
  have f3 := Fc.so cl
  have f4 := Fc.ve cl
  have f5 := Fc.o4 cl
  obtain ⟨so, f6, f7, f8, f9, f10⟩ := Fc.str cl
  have f20 : 20 ≤ (go4 B cl keep).live.length := by rw [f2]; unfold goRoot; omega
  have f21 : (go4 B cl keep).live.length ≤ 1000000 := by rw [f2]; unfold goRoot; omega
  refine' W_cons (W_LetW ok' ?s5k ?s5s (W_CallMP (x := "Output") (f := 362) (args := []) l ok' (fun hn => ?s5o) hb5 (by decide) rfl ?s5e (fun hn => trivial) fun ov' vs e1 e2 => ?s5z))
  case s5k => walk_at "SC"
  case s5s => walk_at "SW"
  case s5o => walk_at "EV"
  case s5e => walk_at "SW"
  have := List.map_eq_nil_iff.mp e2; subst this
  refine w_Output l ok' (ar'.mono (d' := d + 5) (by omega)) e1 hB5 rfl fun m nm => ?_
  dsimp only
  have hm5 : (σ5.put m (.ba (go4 B cl keep).live)) m = some (.ba (go4 B cl keep).live) := Hp.put_self _ _ _
  generalize σ5.put m (.ba (go4 B cl keep).live) = σ6 at *
  generalize (go4 B cl keep).live = ml at *
  refine' W_cons (W_LetW ok' ?k1 ?k2 (W_Root (p := 12) (m := m) (ml := ml) l ok' (ar'.mono (d' := d + 4) (by omega)) hm5 f1 (by omega) (by omega) (fun σ => ?k3) (fun σ => ?k4) (fun σ => ?k5) (fun σ => ?k6) (fun σ7 t ht7 u7 => ?k7) (fun env => rfl)))
  case k1 => walk_at "SC"
  case k2 => walk_at "SW"
  case k3 => walk_at "EV"
  case k4 => walk_at "EV"
  case k5 => walk_at "EV"
  case k6 => walk_at "EV"
  obtain ⟨dx7, h71, h72⟩ := id ht7.here
  dsimp only
  refine' W_cons (W_Return (W_And (W_boAnd (W_pe' (v := .bool ((12 : Int) == ((ml.length : Int) - goRoot B))) l ok' (fun hn => ?n1) rfl ⟨by rw [f2]; simp; omega, ?n2⟩))))
  case n1 => walk_at "EV"
  refine' W_boAnd (W_Compare1 rfl (W_CallTP (x := "Offset") (f := 188) (args := [.int (6 : Nat) 0]) l ok' (fun hn => ?o1) h71 (by decide) rfl ?o2 (fun hn => ⟨?o3, trivial⟩) fun ov' vs e1 e2 => ?o4))
  case o1 => walk_at "EV"
  case o2 => walk_at "SW"
  case o3 => walk_at "EV"
  obtain ⟨v, rfl, e3⟩ := one_of e2
  refine w_TOffset (v := 6) (vo := 6) l ok' (ar'.mono (d' := d + 4) (by omega)) e1 e3 ht7 (by omega) (by omega) (by rw [f3]; decide) (by omega) (by rw [f4]; intro h; exact absurd h (by decide)) fun σ8 u8 => ?_
  have ht8 := ht7.up u8
  obtain ⟨dx8, h81, h82⟩ := id ht8.here
  refine' W_pe' (v := .int 0 0) l ok' (fun hn => ?p1) rfl ⟨_, rfl, ?p2, ?p3⟩
  case p1 => walk_at "EV"
  case p2 => (unfold tOff; rw [f4, if_neg (by decide)]; rfl)
  refine' W_boOne (W_Compare1 rfl (W_CallT1 (x := "String") (f := 202) l ok' (fun hn => ?q1) h81 (by decide) rfl ?q2 fun ov' e1 => W_BinOp (W_pe' (v := .int (12 : Nat) 0) l ok' (fun hn => ?q3) rfl (W_CallTP (x := "Offset") (f := 188) (args := [.int (4 : Nat) 0]) l ok' (fun hn => ?q4) h81 (by decide) rfl ?q5 (fun hn => ⟨?q6, trivial⟩) fun ov2 vs e2 e3 => ?q7))))
  case q1 => walk_at "EV"
  case q2 => walk_at "SW"
  case q3 => walk_at "EV"
  case q4 => walk_at "EV"
  case q5 => walk_at "SW"
  case q6 => walk_at "EV"
  obtain ⟨v, rfl, e4⟩ := one_of e3
  have t4 : tOff ml 6 4 = 4 := by unfold tOff; rw [f4, if_pos (by decide)]; exact f5
  refine w_TOffset (v := 6) (vo := 4) l ok' (ar'.mono (d' := d + 4) (by omega)) e2 e4 ht8 (by omega) (by omega) (by rw [f3]; decide) (by omega) (by intro _; omega) fun σ9 u9 => ?_
  rw [t4]
  have ht9 := ht8.up u9
  refine ⟨.int 16 0, rfl, fun v' ev => ?_⟩
  refine w_String (p := 16) (so := so) (n := text.length) l ok' (ar'.mono (d' := d + 5) (by omega)) e1 ev ht9 (by omega) (by omega) (by rw [f6]; rfl) f7 f8 f9 fun σa ua => ?_
  rw [f10]
  refine' W_pe' (v := .bytes text.toArray 0) l ok' (fun hn => ?r1) rfl ⟨_, rfl, ?r2⟩
  case r1 => walk_at "EV"
  simp only [beq_self_eq_true]
  exact q _

end Mine
end
/- part L02w -/
section
open PySem PySem.W PySem.Spec PySem.Calls PyProof.Rows
set_option Elab.async false
set_option maxRecDepth 100000
set_option maxHeartbeats 4000000
set_option linter.all false
namespace Mine
local macro_rules | `(tactic| walk_at "fb_enter") => `(tactic| (
  (case ho => k_is)
  (case hcd => k_is)
  (case hcell => decide)
  (case hco => rfl)
  (case hgen => rfl)
  (case hk => rfl)
  (case hloc => simp [lk_cons])))
local macro_rules | `(tactic| walk_at "op") => `(tactic| first | rfl | exact pbin_mulr (by decide) | exact pbin_mull (by decide))
local macro_rules | `(tactic| walk_at "sc") => `(tactic| first | (simp only [lk_cons, String.reduceEq, if_true, if_false, reduceCtorEq]; done) | rfl)
local macro_rules | `(tactic| walk_at "tab") => `(tactic| first | assumption | rfl | (simp [S2, gL, bL, slL, tlL, saL, tab_cons, tab, String.reduceEq, lk_cons, put_at]; done))
local macro_rules | `(tactic| walk_at "lo") => `(tactic| first | assumption | rfl | (rw [put_at, if_pos rfl]) | (rw [put_at, if_neg (by decide)]; walk_at "lo") | (simp [lk_cons, put_at]; done))
local macro_rules | `(tactic| walk_at "fd") => `(tactic| first | assumption | exact Hp.put_self _ _ _ | (refine (Hp.put_ne _ _ ?n).trans ?g; (case n => first | assumption | exact Ne.symm (by assumption)); (case g => walk_at "fd")))
local macro_rules | `(tactic| walk_at "at") => `(tactic| first
  | (refine' pattr_slot ?f ?g ?h ?k; (case f => walk_at "fd"); (case g => walk_at "tab"); (case h => first | assumption | rfl); (case k => rfl))
  | (refine' pattr_sat ?f ?g; (case f => exact KN.at (by assumption) (by first | assumption | decide)); (case g => walk_at "tab")))
local macro_rules | `(tactic| walk_at "le") => `(tactic| first | (refine' plen_ba ?f; (case f => walk_at "fd")) | (refine' plen_list ?f; (case f => walk_at "fd")) | (refine' plen_bytes ?f; (case f => simp; omega)))
local macro_rules | `(tactic| walk_at "ev") => `(tactic| first
  | (refine' pe_con ?g; (case g => rfl))
  | (refine' pe_loc ?n ?g ?h; (case n => decide); (case g => walk_at "sc"); (case h => walk_at "lo"))
  | (refine' pe_glob ?n ?g ?h; (case n => decide); (case g => walk_at "sc"); (case h => walk_at "tab"))
  | (refine' pe_attr ?n ?g ?h; (case n => rfl); (case g => walk_at "ev"); (case h => walk_at "at"))
  | (refine' pe_len ?n ?f ?g ?h; (case n => rfl); (case f => walk_at "ev"); (case g => walk_at "ev"); (case h => walk_at "le"))
  | (refine' pe_bin ?f ?g ?h; (case f => walk_at "ev"); (case g => walk_at "ev"); (case h => walk_at "op"))
  | (refine' pe_una ?f ?h; (case f => walk_at "ev"); (case h => rfl))
  | (refine' pe_cmp ?n ?f ?g ?h; (case n => rfl); (case f => walk_at "ev"); (case g => walk_at "ev"); (case h => rfl)))
local macro_rules | `(tactic| walk_at "te") => `(tactic| first
  | (refine' pt_cmp ?g ?h; (case g => walk_at "ev"); (case h => rfl))
  | (refine' pt_not ?g ?h; (case g => walk_at "te"); (case h => rfl))
  | (refine' pt_chain ?n ?f ?g ?h ?k1 ?k2 ?k3 ?k4 ?k5; (case n => rfl); (case f => walk_at "ev"); (case g => walk_at "ev"); (case h => walk_at "ev"); (case k1 => rfl); (case k2 => rfl); (case k3 => rfl); (case k4 => rfl); (case k5 => rfl))
  | (refine' pt_and ?f ?g ?h; (case f => walk_at "te"); (case g => walk_at "te"); (case h => rfl))
  | (refine' pt_or ?f ?g ?h; (case f => walk_at "te"); (case g => walk_at "te"); (case h => rfl))
  | (refine' pt_name ?g ?h; (case g => walk_at "ev"); (case h => rfl))
  | (refine' pt_attr ?g ?h; (case g => walk_at "ev"); (case h => rfl))
  | (refine' pt_bin ?g ?h; (case g => walk_at "ev"); (case h => rfl)))
local macro_rules | `(tactic| walk_at "EV") => `(tactic| (rw [‹Fm.sc _ = _›]; walk_at "ev"))
local macro_rules | `(tactic| walk_at "TE") => `(tactic| (rw [‹Fm.sc _ = _›]; walk_at "te"))
local macro_rules | `(tactic| walk_at "SC") => `(tactic| (rw [‹Fm.sc _ = _›]; walk_at "sc"))
local macro_rules | `(tactic| walk_at "SW") => `(tactic| (intro _; rfl))
local macro_rules | `(tactic| walk_at "let") => `(tactic| (refine' W_cons (W_Let (by assumption) (by assumption) ?k ?s (fun hn => ?h) rfl ?q); (case k => walk_at "SC"); (case s => walk_at "SW"); (case h => walk_at "EV"); dsimp only))
local macro_rules | `(tactic| walk_at "iv") => `(tactic| first | rfl | (congr 1; omega))
variable {C : Cx} {F : Fm} {A : Around} {σ : Hp} {ρ : Loc} {X : Value → Hp → Loc → Prop} {d : Nat} {Q : Value → Hp → Loc → Prop} {a b : Addr} {B : Bd} {ov : Value}
/-- what the first reading finds -/
structure RdFacts (ml : List UInt8) (place size nat_ fat_ near far : Nat) : Prop where
  ind : rd 'I' 4 ml 0 = 12
  len : ml.length = place + 12
  pl : 12 ≤ place
  big : ml.length ≤ 1000000
  so : rd 'i' 4 ml 12 = 8
  ve : rd 'H' 2 ml 4 = 8
  sz : rd 'H' 2 ml 6 = size
  o1 : rd 'H' 2 ml 8 = ((place - nat_ : Nat) : Int)
  o2 : rd 'H' 2 ml 10 = ((place - fat_ : Nat) : Int)
  n1 : nat_ < place
  n2 : fat_ < place
  nz1 : 0 < nat_
  nz2 : 0 < fat_
  b1 : rd 'B' 1 ml (12 + (place - nat_)) = near
  b2 : rd 'B' 1 ml (12 + (place - fat_)) = far
theorem W_orPure (l : L2 C) (ok : F.Ok C) {e : Expr} {rest : List Expr} {v : Bool} {Q : Bool → Hp → Loc → Prop} (h : KN σ → pt S2 F.sc σ ρ e = some v) (hv : v = false) (q : W C F A (allTrue .Or rest F.env) σ ρ Q X) : W C F A (allTrue .Or (e :: rest) F.env) σ ρ Q X :=
  W_orCons (W_test l ok h hv ⟨rfl, q⟩)
theorem W_IfF {test : Expr} {body orelse : List Stmt} {pos : Pos} {Q : Flow → Hp → Loc → Prop} (h : W C F A (isTrue test F.env (eval test F.env)) σ ρ (fun b σ₁ ρ₁ => b = false ∧ W C F A (execs orelse F.env) σ₁ ρ₁ Q X) X) : W C F A (exec (.If test body orelse pos) F.env) σ ρ Q X :=
  W_If (h.mono (fun b σ₁ ρ₁ q => by obtain ⟨rfl, q⟩ := q; exact q) fun _ _ _ x => x)
/-- _law_reads -/
theorem w_reads (l : L2 C) (ok : F.Ok C) (ar : Ar F A (d + 8)) {mv pv sv nv fv xv yv : Value} {m : Addr} {ml : List UInt8} {place size nat_ fat_ near far : Nat} (e1 : er mv = .ref m) (e2 : er pv = .int place 0) (e3 : er sv = .int size 0) (e4 : er nv = .int nat_ 0) (e5 : er fv = .int fat_ 0) (e6 : er xv = .int near 0) (e7 : er yv = .int far 0)
    (hm : σ m = some (.ba ml)) (Fc : RdFacts ml place size nat_ fat_ near far) (q : ∀ σ', Q (.bool true) σ' ρ) : W C F A (call (.ref 775) [mv, pv, sv, nv, fv, xv, yv] []) σ ρ Q X := by
  obtain ⟨f1, f2, fpl, f2b, f3, f4, f5, f6, f7, f8, f9, f8', f9', f10, f11⟩ := Fc
  refine' call2 [("made", .ref m), ("place", .int place 0), ("size", .int size 0), ("near_at", .int nat_ 0), ("far_at", .int fat_ 0), ("near", .int near 0), ("far", .int far 0)] l ok ar ?ho ?hcd ?hbind ?hloc ?hcell ?hco ?hgen ?hk ?h
  walk_at "fb_enter"
  case hbind => exact ⟨[("made", mv), ("place", pv), ("size", sv), ("near_at", nv), ("far_at", fv), ("near", xv), ("far", yv)], fun s _ => BindsTo.of_eq rfl, by simp [e1, e2, e3, e4, e5, e6, e7]⟩
  intro F' A' ok' ar' hsc
  refine' W_cons (W_LetW ok' ?k1 ?k2 (W_Root (p := 12) (m := m) (ml := ml) l ok' (ar'.mono (d' := d + 4) (by omega)) hm f1 (by omega) (by omega) (fun σ => ?k3) (fun σ => ?k4) (fun σ => ?k5) (fun σ => ?k6) (fun σ7 t ht7 u7 => ?k7) (fun env => rfl)))
  case k1 => walk_at "SC"
  case k2 => walk_at "SW"
  case k3 => walk_at "EV"
  case k4 => walk_at "EV"
  case k5 => walk_at "EV"
  case k6 => walk_at "EV"
  have hm7 := u7 _ _ hm
  obtain ⟨dx7, h71, h72⟩ := id ht7.here
  dsimp only
  refine' W_cons (W_LetW ok' ?a1 ?a2 (W_BinOp (W_pe' (v := .int (12 : Nat) 0) l ok' (fun hn => ?a3) rfl (W_CallTP (x := "Get") (f := 230) (args := [.ref 119, .int (12 : Nat) 0]) l ok' (fun hn => ?a4) h71 (by decide) rfl ?a5 (fun hn => ⟨?a6, ?a7, trivial⟩) fun ov' vs e1 e2 => ?a8))))
  case a1 => walk_at "SC"
  case a2 => walk_at "SW"
  case a3 => walk_at "EV"
  case a4 => walk_at "EV"
  case a5 => walk_at "SW"
  case a6 => walk_at "EV"
  case a7 => walk_at "EV"
  obtain ⟨v1, v2, rfl, z1, z2⟩ := two_of e2
  refine w_TGet l ok' (ar'.mono (d' := d + 5) (by omega)) e1 fl119 (by decide) (st53 l) z1 z2 ht7 (by omega) (by omega) fun σ8 u8 => ⟨.int 4 0, by rw [f3]; rfl, ?_⟩
  have ht8 := ht7.up u8
  have hm8 := u8 _ _ hm7
  obtain ⟨dx8, h81, h82⟩ := id ht8.here
  dsimp only
  refine' W_cons (W_IfF (W_TrueOr (W_orPure l ok' (fun hn => ?b1) ?b2 (W_orPure l ok' (fun hn => ?b3) ?b4 (W_orPure l ok' (fun hn => ?b5) ?b6 (W_orNil ⟨rfl, W_nil ?b7⟩))))))
  case b1 => walk_at "TE"
  case b2 => (simp [f2])
  case b3 => walk_at "TE"
  case b4 => rfl
  case b5 => walk_at "TE"
  case b6 => rfl
  refine' W_cons (W_IfF (W_TrueOr (W_orCons (W_TrueCompare1 rfl (W_CallTP (x := "Get") (f := 230) (args := [.ref 143, .int (4 : Nat) 0]) l ok' (fun hn => ?c1) h81 (by decide) rfl ?c2 (fun hn => ⟨?c3, ?c4, trivial⟩) fun ov' vs e1 e2 => ?c5)))))
  case c1 => walk_at "EV"
  case c2 => walk_at "SW"
  case c3 => walk_at "EV"
  case c4 => walk_at "EV"
  obtain ⟨v1, v2, rfl, z1, z2⟩ := two_of e2
  refine w_TGet l ok' (ar'.mono (d' := d + 5) (by omega)) e1 fl143 (by decide) (st51 l) z1 z2 ht8 (by omega) (by omega) fun σ9 u9 => ?_
  have ht9 := ht8.up u9
  obtain ⟨dx9, h91, h92⟩ := id ht9.here
  refine' W_pe' (v := .int 8 0) l ok' (fun hn => ?d1) rfl ⟨_, _, rfl, rfl, by rw [f4]; rfl, ?d2⟩
  case d1 => walk_at "EV"
  refine' W_orCons (W_TrueCompare1 rfl (W_CallTP (x := "Get") (f := 230) (args := [.ref 143, .int (6 : Nat) 0]) l ok' (fun hn => ?g1) h91 (by decide) rfl ?g2 (fun hn => ⟨?g3, ?g4, trivial⟩) fun ov' vs e1 e2 => ?g5))
  case g1 => walk_at "EV"
  case g2 => walk_at "SW"
  case g3 => walk_at "EV"
  case g4 => walk_at "EV"
  obtain ⟨v1, v2, rfl, z1, z2⟩ := two_of e2
  refine w_TGet l ok' (ar'.mono (d' := d + 5) (by omega)) e1 fl143 (by decide) (st51 l) z1 z2 ht9 (by omega) (by omega) fun σa ua => ?_
  have hta := ht9.up ua
  obtain ⟨dxa, ha1, ha2⟩ := id hta.here
  refine' W_pe' (v := .int size 0) l ok' (fun hn => ?i1) rfl ⟨_, _, rfl, rfl, by rw [f5]; simp, W_orNil ⟨rfl, W_nil ?i2⟩⟩
  case i1 => walk_at "EV"
  have tO4 : tOff ml 4 4 = ((place - nat_ : Nat) : Int) := by unfold tOff; rw [f4, if_pos (by decide)]; exact f6
  have tO6 : tOff ml 4 6 = ((place - fat_ : Nat) : Int) := by unfold tOff; rw [f4, if_pos (by decide)]; exact f7
  have tO8 : tOff ml 4 8 = ((0 : Nat) : Int) := by unfold tOff; rw [f4, if_neg (by decide)]; rfl
  have hv4 : ((4 : Nat) : Int) = (12 : Nat) - rd 'i' 4 ml 12 := by rw [f3]; rfl
  have hb : ml.length ≤ 1048600 := by omega
  have k4 : ((4 : Nat) : Int) < rd 'H' 2 ml 4 → 4 + 4 + 2 ≤ ml.length := fun _ => by omega
  have k6 : ((6 : Nat) : Int) < rd 'H' 2 ml 4 → 4 + 6 + 2 ≤ ml.length := fun _ => by omega
  have k8 : ((8 : Nat) : Int) < rd 'H' 2 ml 4 → 4 + 8 + 2 ≤ ml.length := fun _ => by omega
  refine' W_cons (W_IfF (W_TrueOr (W_orCons (W_TrueCompare1 rfl (W_CallTP (x := "Offset") (f := 188) (args := [.int (4 : Nat) 0]) l ok' (fun hn => ?l1) ha1 (by decide) rfl ?l2 (fun hn => ⟨?l3, trivial⟩) fun ov' vs e1 e2 => ?l4)))))
  case l1 => walk_at "EV"
  case l2 => walk_at "SW"
  case l3 => walk_at "EV"
  obtain ⟨v1, rfl, z1⟩ := one_of e2
  refine w_TOffset (v := 4) l ok' (ar'.mono (d' := d + 4) (by omega)) e1 z1 hta (by omega) hb hv4 (by omega) k4 fun σb ub => ?_
  have htb := hta.up ub
  obtain ⟨dxb, hb1, hb2⟩ := id htb.here
  rw [tO4]
  refine' W_pe' (v := .int ((place : Int) - nat_) 0) l ok' (fun hn => ?m1) rfl ⟨_, _, rfl, rfl, by simp; omega, ?m2⟩
  case m1 => walk_at "EV"
  refine' W_orCons (W_TrueCompare1 rfl (W_CallTP (x := "Offset") (f := 188) (args := [.int (6 : Nat) 0]) l ok' (fun hn => ?o1) hb1 (by decide) rfl ?o2 (fun hn => ⟨?o3, trivial⟩) fun ov' vs e1 e2 => ?o4))
  case o1 => walk_at "EV"
  case o2 => walk_at "SW"
  case o3 => walk_at "EV"
  obtain ⟨v1, rfl, z1⟩ := one_of e2
  refine w_TOffset (v := 4) l ok' (ar'.mono (d' := d + 4) (by omega)) e1 z1 htb (by omega) hb hv4 (by omega) k6 fun σc uc => ?_
  have htc := htb.up uc
  obtain ⟨dxc, hc1, hc2⟩ := id htc.here
  rw [tO6]
  refine' W_pe' (v := .int ((place : Int) - fat_) 0) l ok' (fun hn => ?p1) rfl ⟨_, _, rfl, rfl, by simp; omega, ?p2⟩
  case p1 => walk_at "EV"
  refine' W_orCons (W_TrueCompare1 rfl (W_CallTP (x := "Offset") (f := 188) (args := [.int (8 : Nat) 0]) l ok' (fun hn => ?r1) hc1 (by decide) rfl ?r2 (fun hn => ⟨?r3, trivial⟩) fun ov' vs e1 e2 => ?r4))
  case r1 => walk_at "EV"
  case r2 => walk_at "SW"
  case r3 => walk_at "EV"
  obtain ⟨v1, rfl, z1⟩ := one_of e2
  refine w_TOffset (v := 4) l ok' (ar'.mono (d' := d + 4) (by omega)) e1 z1 htc (by omega) hb hv4 (by omega) k8 fun σd ud => ?_
  have htd := htc.up ud
  obtain ⟨dxd, hd1, hd2⟩ := id htd.here
  rw [tO8]
  refine' W_pe' (v := .int 0 0) l ok' (fun hn => ?s1) rfl ⟨_, _, rfl, rfl, rfl, W_orNil ⟨rfl, W_nil ?s2⟩⟩
  case s1 => walk_at "EV"
  refine' W_cons (W_Return (W_And (W_boAnd (W_Compare1 rfl (W_CallTP (x := "GetSlot") (f := 237) (args := [.int (4 : Nat) 0, .int 0 0, .ref 63]) l ok' (fun hn => ?t1) hd1 (by decide) rfl ?t2 (fun hn => ⟨?t3, ?t4, ?t5, trivial⟩) fun ov' vs e1 e2 => ?t6)))))
  case t1 => walk_at "EV"
  case t2 => walk_at "SW"
  case t3 => walk_at "EV"
  case t4 => walk_at "EV"
  case t5 => walk_at "EV"
  obtain ⟨v1, v2, v3, rfl, z1, z2, z3⟩ := three_of e2
  refine w_GetSlot (v := 4) (vo := 4) (o := place - nat_) l ok' (ar'.mono (d' := d + 4) (by omega)) e1 (fl := fl63) (by decide) (st50 l) z1 z2 z3 htd (by omega) hb hv4 (by omega) k4 (by decide) (by rw [loB]; decide) (by rw [hiB]; decide) tO4 (fun _ => by omega) fun σe ue => ?_
  rw [if_neg (by omega), f10]
  have hte := htd.up ue
  obtain ⟨dxe, he1, he2⟩ := id hte.here
  refine' W_pe' (v := .int near 0) l ok' (fun hn => ?u1) rfl ⟨_, rfl, by simp, ?u2⟩
  case u1 => walk_at "EV"
  refine' W_boAnd (W_Compare1 rfl (W_CallTP (x := "GetSlot") (f := 237) (args := [.int (6 : Nat) 0, .int 0 0, .ref 63]) l ok' (fun hn => ?v1) he1 (by decide) rfl ?v2 (fun hn => ⟨?v3, ?v4, ?v5, trivial⟩) fun ov' vs e1 e2 => ?v6))
  case v1 => walk_at "EV"
  case v2 => walk_at "SW"
  case v3 => walk_at "EV"
  case v4 => walk_at "EV"
  case v5 => walk_at "EV"
  obtain ⟨v1, v2, v3, rfl, z1, z2, z3⟩ := three_of e2
  refine w_GetSlot (v := 4) (vo := 6) (o := place - fat_) l ok' (ar'.mono (d' := d + 4) (by omega)) e1 (fl := fl63) (by decide) (st50 l) z1 z2 z3 hte (by omega) hb hv4 (by omega) k6 (by decide) (by rw [loB]; decide) (by rw [hiB]; decide) tO6 (fun _ => by omega) fun σf uf => ?_
  rw [if_neg (by omega), f11]
  have htf := hte.up uf
  obtain ⟨dxf, hf1, hf2⟩ := id htf.here
  refine' W_pe' (v := .int far 0) l ok' (fun hn => ?w1) rfl ⟨_, rfl, by simp, ?w2⟩
  case w1 => walk_at "EV"
  refine' W_boOne (W_Compare1 rfl (W_CallTP (x := "GetSlot") (f := 237) (args := [.int (8 : Nat) 0, .int 77 0, .ref 63]) l ok' (fun hn => ?x1) hf1 (by decide) rfl ?x2 (fun hn => ⟨?x3, ?x4, ?x5, trivial⟩) fun ov' vs e1 e2 => ?x6))
  case x1 => walk_at "EV"
  case x2 => walk_at "SW"
  case x3 => walk_at "EV"
  case x4 => walk_at "EV"
  case x5 => walk_at "EV"
  obtain ⟨v1, v2, v3, rfl, z1, z2, z3⟩ := three_of e2
  refine w_GetSlot (v := 4) (vo := 8) (o := 0) l ok' (ar'.mono (d' := d + 4) (by omega)) e1 (fl := fl63) (by decide) (st50 l) z1 z2 z3 htf (by omega) hb hv4 (by omega) k8 (by decide) (by rw [loB]; decide) (by rw [hiB]; decide) tO8 (fun h => absurd rfl h) fun σg ug => ?_
  rw [if_pos rfl]
  refine' W_pe' (v := .int 77 0) l ok' (fun hn => ?y1) rfl ⟨_, rfl, ?y2⟩
  case y1 => walk_at "EV"
  exact q _

end Mine
end
/- part L02k2 -/
section
open PySem PySem.W PySem.Spec PySem.Calls PyProof.Rows
set_option Elab.async false
set_option maxRecDepth 100000
set_option maxHeartbeats 4000000
set_option linter.all false
namespace Mine
theorem go_facts {B : Bd} {y tail pre : List UInt8} {keep : Nat} (h : B.live = pre ++ (le 4 (wrap 4 (y.length : Int)) ++ (y ++ tail))) (hk : keep = 4 + (y.length + tail.length)) (hb : B.live.length ≤ 900000) (hy : y.length ≤ 1000) (hma : B.ma = 4) : GoFacts B keep y := by
  have hL : B.live.length = pre.length + keep := by rw [h, hk]; simp [le_length]
  have hp : padOf 4 B.live.length < 4 := by unfold padOf; omega
  have hp4 : (B.live.length + padOf 4 B.live.length) % 4 = 0 := by unfold padOf; omega
  have g2 : ∀ cl, (go2 B cl keep).live = le 4 (wrap 4 ((B.live.length + padOf 4 B.live.length - keep + 4 : Nat) : Int)) ++ (List.replicate (padOf 4 B.live.length) 0 ++ B.live) := fun cl => rfl
  have gl := go2_len B
  have key : ∀ cl, (go3 B cl keep).live.length = goRoot B + 6 ∧ (go4 B cl keep).live = le 4 (wrap 4 12) ++ (List.replicate 2 0 ++ ((le 2 (wrap 2 6) ++ (le 2 (wrap 2 ((goRoot B : Int) - B.live.length)) ++ le 2 (wrap 2 4))) ++ (le 4 (wrap 4 6) ++ (go2 B cl keep).live))) := by
    intro cl
    obtain ⟨w, rest, hw, hs, hr, hlv, hm⟩ := wv1 (B := { go2 B cl keep with nest := false }) (n := B.live.length + padOf 4 B.live.length + 4) (o := B.live.length) (by omega) (by show (if B.ma < (4 : Nat) then ((4 : Nat) : Int) else B.ma) = 4; rw [hma]; rfl)
    have hsl : (sB { go2 B cl keep with nest := false }).live.length = goRoot B := go_root B cl keep
    have hg2 : ({ go2 B cl keep with nest := false } : Bd).live = (go2 B cl keep).live := rfl
    rw [hg2, pad_four (by rw [gl]; omega)] at hr
    have hr : rest = (go2 B cl keep).live := hr
    have hlv : (go3 B cl keep).live = (le 2 (wrap 2 6) ++ (le 2 (wrap 2 (((sB { go2 B cl keep with nest := false }).live.length : Int) - B.live.length)) ++ le 2 (wrap 2 (((sB { go2 B cl keep with nest := false }).live.length : Int) - (B.live.length + padOf 4 B.live.length + 4 : Nat))))) ++ (le 4 (wrap 4 6) ++ rest) := hlv
    rw [hsl, hr] at hlv
    have e4 : ((goRoot B : Nat) : Int) - ((B.live.length + padOf 4 B.live.length + 4 : Nat) : Int) = 4 := by unfold goRoot; omega
    rw [e4] at hlv
    have l3 : (go3 B cl keep).live.length = goRoot B + 6 := by rw [hlv]; simp [le_length, gl]; unfold goRoot; omega
    refine ⟨l3, ?_⟩
    have hp2 : padOf 4 ((go3 B cl keep).live.length + 4) = 2 := by rw [l3]; unfold goRoot padOf; omega
    have := finB_live (B := go3 B cl keep) (n := goRoot B) (by rw [hp2, l3]; unfold goRoot; omega) (by rw [l3]; omega)
    rw [hp2, l3] at this
    have e12 : ((goRoot B + 6 + 2 - goRoot B + 4 : Nat) : Int) = 12 := by omega
    rw [e12, hlv] at this
    exact this
  have lr : ∀ cl, (go4 B cl keep).live.length = goRoot B + 12 := fun cl => by rw [(key cl).2]; simp [le_length, gl]; unfold goRoot; omega
  have hr0 : goRoot B = B.live.length + padOf 4 B.live.length + 8 := rfl
  refine ⟨fun cl => ?_, lr, fun cl => ?_, fun cl => ?_, fun cl => ?_, fun cl => ?_, fun cl => (key cl).1⟩
  · exact rd_at (pre := []) (by rw [(key cl).2]; rfl) rfl (by decide) (by rw [loI]; decide) (by rw [hiI]; decide)
  · exact rd_at (pre := le 4 (wrap 4 12) ++ (List.replicate 2 0 ++ (le 2 (wrap 2 6) ++ (le 2 (wrap 2 ((goRoot B : Int) - B.live.length)) ++ le 2 (wrap 2 4))))) (post := (go2 B cl keep).live) (by rw [(key cl).2]; simp only [List.append_assoc]) (by simp [le_length]) (by decide) (by rw [loi]; decide) (by rw [hii]; decide)
  · exact rd_at (pre := le 4 (wrap 4 12) ++ List.replicate 2 0) (post := (le 2 (wrap 2 ((goRoot B : Int) - B.live.length)) ++ le 2 (wrap 2 4)) ++ (le 4 (wrap 4 6) ++ (go2 B cl keep).live)) (by rw [(key cl).2]; simp only [List.append_assoc]) (by simp [le_length]) (by decide) (by rw [loH]; decide) (by rw [hiH]; decide)
  · exact rd_at (pre := le 4 (wrap 4 12) ++ (List.replicate 2 0 ++ (le 2 (wrap 2 6) ++ le 2 (wrap 2 ((goRoot B : Int) - B.live.length))))) (post := le 4 (wrap 4 6) ++ (go2 B cl keep).live) (by rw [(key cl).2]; simp only [List.append_assoc]) (by simp [le_length]) (by decide) (by rw [loH]; decide) (by rw [hiH]; decide)
  · have hu : rd 'I' 4 (go4 B cl keep).live 16 = ((B.live.length + padOf 4 B.live.length - keep + 4 : Nat) : Int) :=
      rd_at (pre := le 4 (wrap 4 12) ++ (List.replicate 2 0 ++ (le 2 (wrap 2 6) ++ (le 2 (wrap 2 ((goRoot B : Int) - B.live.length)) ++ (le 2 (wrap 2 4) ++ le 4 (wrap 4 6)))))) (post := List.replicate (padOf 4 B.live.length) 0 ++ B.live) (by rw [(key cl).2, g2]; simp only [List.append_assoc]) (by simp [le_length]) (by decide) (by rw [loI]; omega) (by rw [hiI]; omega)
    have hfull : (go4 B cl keep).live = (le 4 (wrap 4 12) ++ (List.replicate 2 0 ++ (le 2 (wrap 2 6) ++ (le 2 (wrap 2 ((goRoot B : Int) - B.live.length)) ++ (le 2 (wrap 2 4) ++ (le 4 (wrap 4 6) ++ (le 4 (wrap 4 ((B.live.length + padOf 4 B.live.length - keep + 4 : Nat) : Int)) ++ (List.replicate (padOf 4 B.live.length) 0 ++ pre)))))))) ++ (le 4 (wrap 4 (y.length : Int)) ++ (y ++ tail)) := by
      rw [(key cl).2, g2]
      conv => lhs; rw [h]
      simp only [List.append_assoc, ← h]
    have hso : 16 + (B.live.length + padOf 4 B.live.length - keep + 4) = 20 + padOf 4 B.live.length + pre.length := by omega
    have hpl : (le 4 (wrap 4 12) ++ (List.replicate 2 0 ++ (le 2 (wrap 2 6) ++ (le 2 (wrap 2 ((goRoot B : Int) - B.live.length)) ++ (le 2 (wrap 2 4) ++ (le 4 (wrap 4 6) ++ (le 4 (wrap 4 ((B.live.length + padOf 4 B.live.length - keep + 4 : Nat) : Int)) ++ (List.replicate (padOf 4 B.live.length) (0 : UInt8) ++ pre)))))))).length = 20 + padOf 4 B.live.length + pre.length := by simp [le_length]; omega
    have hll := lr cl
    refine ⟨20 + padOf 4 B.live.length + pre.length, by rw [hu]; omega, by rw [hll, hr0]; omega, ?_, by rw [hll, hr0]; omega, ?_⟩
    · exact (rd_at hfull hpl.symm (by decide) (by rw [loI]; omega) (by rw [hiI]; omega)).symm
    · rw [hfull, ← hpl, List.drop_length_add_append, List.drop_left' (le_length _ _), List.take_left]
/-- the table of two numbers -/
structure Wv (B : Bd) (s nat_ : Nat) : Prop where
  len : (wvB B [nat_, s + 1, 0] s).live.length = (sB B).live.length + 8
  ma : (wvB B [nat_, s + 1, 0] s).ma = 4
theorem wv_facts {B : Bd} {s gap : Nat} (hma : B.ma = 4) : Wv B s (s + 2 + gap) := by
  obtain ⟨w, rest, hw, hs, hr, hlv, hm⟩ := wv2 (B := B) (n := s + 2 + gap) (m := s + 1) (o := s) (by omega) (by omega) hma
  refine ⟨?_, hm⟩
  rw [hlv, hs]
  simp [le_length, hw]; omega
theorem rd_facts {B : Bd} {s gap near far : Nat} {base : List UInt8} (hs : base.length = s) (h : B.live = le 1 (wrap 1 (near : Int)) ++ (List.replicate gap 0 ++ (le 1 (wrap 1 (far : Int)) ++ base))) (hma : B.ma = 4) (hsz : (sB B).live.length - s ≤ 65535) (hn : near ≤ 255) (hf : far ≤ 255) (hb : s ≤ 1000) (hg : gap ≤ 70000) (hg2 : 60000 ≤ gap) :
    RdFacts (finB (wvB B [s + 2 + gap, s + 1, 0] s) 4 (sB B).live.length).live (sB B).live.length ((sB B).live.length - s) (s + 2 + gap) (s + 1) near far := by
  obtain ⟨w, rest, hw, hsl, hr, hlv, hm⟩ := wv2 (B := B) (n := s + 2 + gap) (m := s + 1) (o := s) (by omega) (by omega) hma
  have wl := (wv_facts (gap := gap) (s := s) hma).len
  have h4 := sB_four (B := B)
  have hL : B.live.length = s + 2 + gap := by rw [h]; simp [le_length]; omega
  have hP := sB_len (B := B)
  have hp : padOf 4 B.live.length < 4 := by unfold padOf; omega
  obtain ⟨P, hPe⟩ : ∃ P : Nat, P = (sB B).live.length := ⟨_, rfl⟩
  rw [← hPe] at wl h4 hP hsz hlv ⊢
  have hp0 : padOf 4 ((wvB B [s + 2 + gap, s + 1, 0] s).live.length + 4) = 0 := pad_four (by omega)
  have hfin := finB_live (B := wvB B [s + 2 + gap, s + 1, 0] s) (n := P) (by rw [hp0]; omega) (by omega)
  rw [hp0, wl] at hfin
  have e12 : ((P + 8 + 0 - P + 4 : Nat) : Int) = 12 := by omega
  rw [e12, hlv, hr] at hfin
  generalize hpd : padOf 4 B.live.length = pd at *
  rw [h] at hfin
  have hfin : (finB (wvB B [s + 2 + gap, s + 1, 0] s) 4 P).live = le 4 (wrap 4 12) ++ (le 2 (wrap 2 8) ++ (le 2 (wrap 2 ((P : Int) - s)) ++ (le 2 (wrap 2 ((P : Int) - (s + 2 + gap : Nat))) ++ (le 2 (wrap 2 ((P : Int) - (s + 1 : Nat))) ++ (le 4 (wrap 4 8) ++ (List.replicate (pd) 0 ++ (le 1 (wrap 1 (near : Int)) ++ (List.replicate gap 0 ++ (le 1 (wrap 1 (far : Int)) ++ base))))))))) := by
    rw [hfin]
    simp only [List.append_assoc, List.replicate_zero, List.nil_append]
  have hlen : (finB (wvB B [s + 2 + gap, s + 1, 0] s) 4 P).live.length = P + 12 := by rw [hfin]; simp [le_length, hs]; omega
  generalize (finB (wvB B [s + 2 + gap, s + 1, 0] s) 4 P).live = ml at *
  refine ⟨?_, hlen, by omega, by omega, ?_, ?_, ?_, ?_, ?_, by omega, by omega, by omega, by omega, ?_, ?_⟩
  · exact rd_at (pre := []) (by rw [hfin]; rfl) rfl (by decide) (by rw [loI]; decide) (by rw [hiI]; decide)
  · exact rd_at (pre := le 4 (wrap 4 12) ++ (le 2 (wrap 2 8) ++ (le 2 (wrap 2 ((P : Int) - s)) ++ (le 2 (wrap 2 ((P : Int) - (s + 2 + gap : Nat))) ++ le 2 (wrap 2 ((P : Int) - (s + 1 : Nat))))))) (post := List.replicate (pd) 0 ++ (le 1 (wrap 1 (near : Int)) ++ (List.replicate gap 0 ++ (le 1 (wrap 1 (far : Int)) ++ base)))) (by simpa only [List.append_assoc] using hfin) (by simp [le_length]) (by decide) (by rw [loi]; decide) (by rw [hii]; decide)
  · exact rd_at (pre := le 4 (wrap 4 12)) hfin (by simp [le_length]) (by decide) (by rw [loH]; decide) (by rw [hiH]; decide)
  · have := rd_at (c := 'H') (p := 6) (pre := le 4 (wrap 4 12) ++ le 2 (wrap 2 8)) (n := (P : Int) - s) (post := (le 2 (wrap 2 ((P : Int) - (s + 2 + gap : Nat))) ++ (le 2 (wrap 2 ((P : Int) - (s + 1 : Nat))) ++ (le 4 (wrap 4 8) ++ (List.replicate (pd) 0 ++ (le 1 (wrap 1 (near : Int)) ++ (List.replicate gap 0 ++ (le 1 (wrap 1 (far : Int)) ++ base)))))))) (ml := ml) (by simpa only [List.append_assoc] using hfin) (by simp [le_length]) (by decide) (by rw [loH]; omega) (by rw [hiH]; omega)
    rw [this]; omega
  · have := rd_at (c := 'H') (p := 8) (pre := le 4 (wrap 4 12) ++ (le 2 (wrap 2 8) ++ le 2 (wrap 2 ((P : Int) - s)))) (n := (P : Int) - (s + 2 + gap : Nat)) (post := (le 2 (wrap 2 ((P : Int) - (s + 1 : Nat))) ++ (le 4 (wrap 4 8) ++ (List.replicate (pd) 0 ++ (le 1 (wrap 1 (near : Int)) ++ (List.replicate gap 0 ++ (le 1 (wrap 1 (far : Int)) ++ base))))))) (ml := ml) (by simpa only [List.append_assoc] using hfin) (by simp [le_length]) (by decide) (by rw [loH]; omega) (by rw [hiH]; omega)
    rw [this]; omega
  · have := rd_at (c := 'H') (p := 10) (pre := le 4 (wrap 4 12) ++ (le 2 (wrap 2 8) ++ (le 2 (wrap 2 ((P : Int) - s)) ++ le 2 (wrap 2 ((P : Int) - (s + 2 + gap : Nat)))))) (n := (P : Int) - (s + 1 : Nat)) (post := ((le 4 (wrap 4 8) ++ (List.replicate (pd) 0 ++ (le 1 (wrap 1 (near : Int)) ++ (List.replicate gap 0 ++ (le 1 (wrap 1 (far : Int)) ++ base))))))) (ml := ml) (by simpa only [List.append_assoc] using hfin) (by simp [le_length]) (by decide) (by rw [loH]; omega) (by rw [hiH]; omega)
    rw [this]; omega
  · exact rd_at (pre := le 4 (wrap 4 12) ++ (le 2 (wrap 2 8) ++ (le 2 (wrap 2 ((P : Int) - s)) ++ (le 2 (wrap 2 ((P : Int) - (s + 2 + gap : Nat))) ++ (le 2 (wrap 2 ((P : Int) - (s + 1 : Nat))) ++ (le 4 (wrap 4 8) ++ List.replicate (pd) 0)))))) (post := List.replicate gap 0 ++ (le 1 (wrap 1 (far : Int)) ++ base)) (by simpa only [List.append_assoc] using hfin) (by simp [le_length]; omega) (by decide) (by rw [loB]; omega) (by rw [hiB]; omega)
  · exact rd_at (pre := le 4 (wrap 4 12) ++ (le 2 (wrap 2 8) ++ (le 2 (wrap 2 ((P : Int) - s)) ++ (le 2 (wrap 2 ((P : Int) - (s + 2 + gap : Nat))) ++ (le 2 (wrap 2 ((P : Int) - (s + 1 : Nat))) ++ (le 4 (wrap 4 8) ++ (List.replicate (pd) 0 ++ (le 1 (wrap 1 (near : Int)) ++ List.replicate gap 0)))))))) (post := base) (by simpa only [List.append_assoc] using hfin) (by simp [le_length]; omega) (by decide) (by rw [loB]; omega) (by rw [hiB]; omega)
end Mine
end
/- part L02x -/
section
open PySem PySem.W PySem.Spec PySem.Calls PyProof.Rows
set_option Elab.async false
set_option maxRecDepth 100000
set_option maxHeartbeats 4000000
set_option linter.all false
namespace Mine
local macro_rules | `(tactic| walk_at "fb_enter") => `(tactic| (
  (case ho => k_is)
  (case hcd => k_is)
  (case hcell => decide)
  (case hco => rfl)
  (case hgen => rfl)
  (case hk => rfl)
  (case hloc => simp [lk_cons])))
local macro_rules | `(tactic| walk_at "op") => `(tactic| first | rfl | exact pbin_mulr (by decide) | exact pbin_mull (by decide))
local macro_rules | `(tactic| walk_at "sc") => `(tactic| first | (simp only [lk_cons, String.reduceEq, if_true, if_false, reduceCtorEq]; done) | rfl)
local macro_rules | `(tactic| walk_at "tab") => `(tactic| first | assumption | rfl | (simp [S2, gL, bL, slL, tlL, saL, tab_cons, tab, String.reduceEq, lk_cons, put_at]; done))
local macro_rules | `(tactic| walk_at "lo") => `(tactic| first | assumption | rfl | (rw [put_at, if_pos rfl]) | (rw [put_at, if_neg (by decide)]; walk_at "lo") | (simp [lk_cons, put_at]; done))
local macro_rules | `(tactic| walk_at "fd") => `(tactic| first | assumption | exact Hp.put_self _ _ _ | (refine (Hp.put_ne _ _ ?n).trans ?g; (case n => first | assumption | exact Ne.symm (by assumption)); (case g => walk_at "fd")))
local macro_rules | `(tactic| walk_at "at") => `(tactic| first
  | (refine' pattr_slot ?f ?g ?h ?k; (case f => walk_at "fd"); (case g => walk_at "tab"); (case h => first | assumption | rfl); (case k => rfl))
  | (refine' pattr_sat ?f ?g; (case f => exact KN.at (by assumption) (by first | assumption | decide)); (case g => walk_at "tab")))
local macro_rules | `(tactic| walk_at "le") => `(tactic| first | (refine' plen_ba ?f; (case f => walk_at "fd")) | (refine' plen_list ?f; (case f => walk_at "fd")) | (refine' plen_bytes ?f; (case f => simp; omega)))
local macro_rules | `(tactic| walk_at "ev") => `(tactic| first
  | (refine' pe_con ?g; (case g => rfl))
  | (refine' pe_loc ?n ?g ?h; (case n => decide); (case g => walk_at "sc"); (case h => walk_at "lo"))
  | (refine' pe_glob ?n ?g ?h; (case n => decide); (case g => walk_at "sc"); (case h => walk_at "tab"))
  | (refine' pe_attr ?n ?g ?h; (case n => rfl); (case g => walk_at "ev"); (case h => walk_at "at"))
  | (refine' pe_len ?n ?f ?g ?h; (case n => rfl); (case f => walk_at "ev"); (case g => walk_at "ev"); (case h => walk_at "le"))
  | (refine' pe_bin ?f ?g ?h; (case f => walk_at "ev"); (case g => walk_at "ev"); (case h => walk_at "op"))
  | (refine' pe_una ?f ?h; (case f => walk_at "ev"); (case h => rfl))
  | (refine' pe_cmp ?n ?f ?g ?h; (case n => rfl); (case f => walk_at "ev"); (case g => walk_at "ev"); (case h => rfl)))
local macro_rules | `(tactic| walk_at "te") => `(tactic| first
  | (refine' pt_cmp ?g ?h; (case g => walk_at "ev"); (case h => rfl))
  | (refine' pt_not ?g ?h; (case g => walk_at "te"); (case h => rfl))
  | (refine' pt_chain ?n ?f ?g ?h ?k1 ?k2 ?k3 ?k4 ?k5; (case n => rfl); (case f => walk_at "ev"); (case g => walk_at "ev"); (case h => walk_at "ev"); (case k1 => rfl); (case k2 => rfl); (case k3 => rfl); (case k4 => rfl); (case k5 => rfl))
  | (refine' pt_and ?f ?g ?h; (case f => walk_at "te"); (case g => walk_at "te"); (case h => rfl))
  | (refine' pt_or ?f ?g ?h; (case f => walk_at "te"); (case g => walk_at "te"); (case h => rfl))
  | (refine' pt_name ?g ?h; (case g => walk_at "ev"); (case h => rfl))
  | (refine' pt_attr ?g ?h; (case g => walk_at "ev"); (case h => rfl))
  | (refine' pt_bin ?g ?h; (case g => walk_at "ev"); (case h => rfl)))
local macro_rules | `(tactic| walk_at "EV") => `(tactic| (rw [‹Fm.sc _ = _›]; walk_at "ev"))
local macro_rules | `(tactic| walk_at "TE") => `(tactic| (rw [‹Fm.sc _ = _›]; walk_at "te"))
local macro_rules | `(tactic| walk_at "SC") => `(tactic| (rw [‹Fm.sc _ = _›]; walk_at "sc"))
local macro_rules | `(tactic| walk_at "SW") => `(tactic| (intro _; rfl))
local macro_rules | `(tactic| walk_at "let") => `(tactic| (refine' W_cons (W_Let (by assumption) (by assumption) ?k ?s (fun hn => ?h) rfl ?q); (case k => walk_at "SC"); (case s => walk_at "SW"); (case h => walk_at "EV"); dsimp only))
local macro_rules | `(tactic| walk_at "iv") => `(tactic| first | rfl | (congr 1; omega))
variable {C : Cx} {F : Fm} {A : Around} {σ : Hp} {ρ : Loc} {X : Value → Hp → Loc → Prop} {d : Nat} {Q : Value → Hp → Loc → Prop} {a b : Addr} {B : Bd} {ov : Value}
theorem fmod_nat (x : Int) (m : Nat) (hm : 0 < m) : ∃ n : Nat, x.fmod m = n ∧ n < m := by
  have h1 : 0 ≤ x.fmod m := by rw [Int.fmod_eq_emod_of_nonneg _ (by omega)]; exact Int.emod_nonneg _ (by omega)
  have h2 : x.fmod m < m := by rw [Int.fmod_eq_emod_of_nonneg _ (by omega)]; exact Int.emod_lt_of_pos _ (by omega)
  exact ⟨(x.fmod m).toNat, by omega, by omega⟩
/-- the letter of the text -/
def letter (av : Int) (j : Nat) : Int := 97 + (av + j).fmod 26
def textOf (av : Int) (n : Nat) : List UInt8 := (List.range n).map fun j => (letter av j).toNat.toUInt8
theorem textOf_len (av : Int) (n : Nat) : (textOf av n).length = n := by simp [textOf]
theorem textOf_arr (av : Int) (n : Nat) : byteArr ((List.range n).map (letter av)) = (textOf av n).toArray := by simp [byteArr, textOf]
theorem letter_ok (av : Int) (j : Nat) : 0 ≤ letter av j ∧ letter av j < 256 := by
  obtain ⟨n, h1, h2⟩ := fmod_nat (av + j) 26 (by decide)
  unfold letter
  have : (av + (j : Int)).fmod 26 = n := h1
  omega
theorem elt_ok (ok : F.Ok C) {c : Addr} {av : Int} {n : Nat} (hka : F.sc.names.lookup (Str.ofString "a") = some .cell) (hca : F.cl.lookup (Str.ofString "a") = some c) (hc0 : C.base.get? c = none) (ha : ρ (Str.ofString "a") = some (.int av 0)) {scope : Scope} (hsn : scope.names = [(Str.ofString ".0", .local), (Str.ofString "j", .local), (Str.ofString "a", .free)]) (hsk : scope.kind = .function) {k1 k2 : Nat} {p1 p2 p3 p4 p5 p6 p7 : Pos} :
    ∀ s, Inv C F σ ρ s → ∀ (j : Nat) (u : Tok) (Cc : Addr) (m₂ : Str → Option Value) (s' : Shared) (Q : Value → Shared → Prop) (E : Value → Shared → Prop), j < n → (∀ b o, s.heap.get? b = some o → b ≠ F.L → C.base.get? b = none → s'.heap.get? b = some o) → s'.heap.Ns Cc m₂ → m₂ (Str.ofString "j") = some (.int (j : Int) u) → (∀ t k, Q (.int (letter av j) t) { s' with toks := k }) →
      wpAny (model C.prog C.w) A (eval (.BinOp (.Constant (.int 97) k1 p1) .Add (.BinOp (.BinOp (.Name (Str.ofString "a") p2) .Add (.Name (Str.ofString "j") p3) p4) .Mod (.Constant (.int 26) k2 p5) p6) p7) (compEnvC scope [(Str.ofString "a", c)] Cc F.env)) Q E s' := by
  intro s i j u Cc m₂ s' Q E hj hk hns hm hq
  have hkc : F.env.kindOf (Str.ofString "a") = some .cell := hka
  obtain ⟨cL, cσ, oc, v0, g1, g2, g3⟩ := i.cel _ c (by rw [hkc]; decide) hca
  rw [ha] at g3
  obtain ⟨av', hav, he⟩ := Option.map_eq_some_iff.mp g3
  subst hav
  obtain ⟨t, rfl⟩ := er_int_inv he
  have hc' := hk c oc g1 cL hc0
  have hf : (compEnvC scope [(Str.ofString "a", c)] Cc F.env).scope.kind = .function := hsk
  have hrel : (compEnvC scope [(Str.ofString "a", c)] Cc F.env).scope.names = [(Str.ofString ".0", .local), (Str.ofString "j", .local), (Str.ofString "a", .cell)] := by
    show scope.names.map _ = _
    rw [hsn]
    have e1 : (F.env.scope.kind == ScopeKind.function) = true := by rw [show F.env.scope = F.sc from rfl, ok.fn]; rfl
    have e2 : (F.env.kindOf (Str.ofString "a") == some NameKind.cell) = true := by rw [hkc]; rfl
    simp [e1, e2]; exact hkc
  have ka : (compEnvC scope [(Str.ofString "a", c)] Cc F.env).kindOf (Str.ofString "a") = some .cell := by
    show List.lookup _ (compEnvC scope [(Str.ofString "a", c)] Cc F.env).scope.names = _
    rw [hrel]; simp [lk_cons]
  have kj : (compEnvC scope [(Str.ofString "a", c)] Cc F.env).kindOf (Str.ofString "j") = some .local := by
    show List.lookup _ (compEnvC scope [(Str.ofString "a", c)] Cc F.env).scope.names = _
    rw [hrel]; simp [lk_cons]
  refine wpAny_BinOp (wpAny_Constant_int (wpAny_BinOp (wpAny_BinOp (wpAny_Name (wpAny_loadName_cell hf ka (by simp [compEnvC, lk_cons]) ⟨oc, hc', g2⟩ ?_) (by decide)))))
  refine wpAny_Name (wpAny_loadName_local hf kj hns hm ?_) (by decide)
  refine add_int ?_
  refine wpAny_Constant_int (mod_int (by decide) (add_int ?_))
  exact hq _ _

end Mine
end
/- part L02z -/
section
open PySem PySem.W PySem.Spec PySem.Calls PyProof.Rows
set_option Elab.async false
set_option maxRecDepth 100000
set_option maxHeartbeats 4000000
set_option linter.all false
namespace Mine
local macro_rules | `(tactic| walk_at "fb_enter") => `(tactic| (
  (case ho => k_is)
  (case hcd => k_is)
  (case hcell => decide)
  (case hco => rfl)
  (case hgen => rfl)
  (case hk => rfl)
  (case hloc => simp [lk_cons])))
local macro_rules | `(tactic| walk_at "op") => `(tactic| first | rfl | exact pbin_mulr (by decide) | exact pbin_mull (by decide))
local macro_rules | `(tactic| walk_at "sc") => `(tactic| first | (simp only [lk_cons, String.reduceEq, if_true, if_false, reduceCtorEq]; done) | rfl)
local macro_rules | `(tactic| walk_at "tab") => `(tactic| first | assumption | rfl | (simp [S2, gL, bL, slL, tlL, saL, tab_cons, tab, String.reduceEq, lk_cons, put_at]; done))
local macro_rules | `(tactic| walk_at "lo") => `(tactic| first | assumption | rfl | (rw [put_at, if_pos rfl]) | (rw [put_at, if_neg (by decide)]; walk_at "lo") | (simp [lk_cons, put_at]; done))
local macro_rules | `(tactic| walk_at "fd") => `(tactic| first | assumption | exact Hp.put_self _ _ _ | (refine (Hp.put_ne _ _ ?n).trans ?g; (case n => first | assumption | exact Ne.symm (by assumption)); (case g => walk_at "fd")))
local macro_rules | `(tactic| walk_at "at") => `(tactic| first
  | (refine' pattr_slot ?f ?g ?h ?k; (case f => walk_at "fd"); (case g => walk_at "tab"); (case h => first | assumption | rfl); (case k => rfl))
  | (refine' pattr_sat ?f ?g; (case f => exact KN.at (by assumption) (by first | assumption | decide)); (case g => walk_at "tab")))
local macro_rules | `(tactic| walk_at "le") => `(tactic| first | (refine' plen_ba ?f; (case f => walk_at "fd")) | (refine' plen_list ?f; (case f => walk_at "fd")) | (refine' plen_bytes ?f; (case f => simp; omega)))
local macro_rules | `(tactic| walk_at "ev") => `(tactic| first
  | (refine' pe_con ?g; (case g => rfl))
  | (refine' pe_loc ?n ?g ?h; (case n => decide); (case g => walk_at "sc"); (case h => walk_at "lo"))
  | (refine' pe_glob ?n ?g ?h; (case n => decide); (case g => walk_at "sc"); (case h => walk_at "tab"))
  | (refine' pe_attr ?n ?g ?h; (case n => rfl); (case g => walk_at "ev"); (case h => walk_at "at"))
  | (refine' pe_len ?n ?f ?g ?h; (case n => rfl); (case f => walk_at "ev"); (case g => walk_at "ev"); (case h => walk_at "le"))
  | (refine' pe_bin ?f ?g ?h; (case f => walk_at "ev"); (case g => walk_at "ev"); (case h => walk_at "op"))
  | (refine' pe_una ?f ?h; (case f => walk_at "ev"); (case h => rfl))
  | (refine' pe_cmp ?n ?f ?g ?h; (case n => rfl); (case f => walk_at "ev"); (case g => walk_at "ev"); (case h => rfl)))
local macro_rules | `(tactic| walk_at "te") => `(tactic| first
  | (refine' pt_cmp ?g ?h; (case g => walk_at "ev"); (case h => rfl))
  | (refine' pt_not ?g ?h; (case g => walk_at "te"); (case h => rfl))
  | (refine' pt_chain ?n ?f ?g ?h ?k1 ?k2 ?k3 ?k4 ?k5; (case n => rfl); (case f => walk_at "ev"); (case g => walk_at "ev"); (case h => walk_at "ev"); (case k1 => rfl); (case k2 => rfl); (case k3 => rfl); (case k4 => rfl); (case k5 => rfl))
  | (refine' pt_and ?f ?g ?h; (case f => walk_at "te"); (case g => walk_at "te"); (case h => rfl))
  | (refine' pt_or ?f ?g ?h; (case f => walk_at "te"); (case g => walk_at "te"); (case h => rfl))
  | (refine' pt_name ?g ?h; (case g => walk_at "ev"); (case h => rfl))
  | (refine' pt_attr ?g ?h; (case g => walk_at "ev"); (case h => rfl))
  | (refine' pt_bin ?g ?h; (case g => walk_at "ev"); (case h => rfl)))
local macro_rules | `(tactic| walk_at "EV") => `(tactic| (rw [‹Fm.sc _ = _›]; walk_at "ev"))
local macro_rules | `(tactic| walk_at "TE") => `(tactic| (rw [‹Fm.sc _ = _›]; walk_at "te"))
local macro_rules | `(tactic| walk_at "SC") => `(tactic| (rw [‹Fm.sc _ = _›]; walk_at "sc"))
local macro_rules | `(tactic| walk_at "SW") => `(tactic| (intro _; rfl))
local macro_rules | `(tactic| walk_at "let") => `(tactic| (refine' W_cons (W_Let (by assumption) (by assumption) ?k ?s (fun hn => ?h) rfl ?q); (case k => walk_at "SC"); (case s => walk_at "SW"); (case h => walk_at "EV"); dsimp only))
local macro_rules | `(tactic| walk_at "iv") => `(tactic| first | rfl | (congr 1; omega))
variable {C : Cx} {F : Fm} {A : Around} {σ : Hp} {ρ : Loc} {X : Value → Hp → Loc → Prop} {d : Nat} {Q : Value → Hp → Loc → Prop} {a b : Addr} {B : Bd} {ov : Value}
def getI (ns : List Int) (k : Nat) : Int := (ns[k]?).getD 0
theorem W_get0 (l : L2 C) (ok : F.Ok C) {sl : Addr} {ns : List Int} (bl : BaseList C sl ns) {k1 k2 : Nat} {p1 p2 p3 p4 p5 p6 : Pos} (hS : ∀ p, pe S2 F.sc σ ρ (.Name (Str.ofString "script") p) = some (.ref sl)) (q : Q (.int (getI ns 0) 0) σ ρ) :
    W C F A (eval (.IfExp (.Name (Str.ofString "script") p1) (.Subscript (.Name (Str.ofString "script") p2) (.Constant (.int 0) k1 p3) p4) (.Constant (.int 0) k2 p5) p6) F.env) σ ρ Q X := by
  refine W_IfExp (W_BTrue ok l.ok (S2_ok l) bl (hS _) ?_)
  cases ns with
  | nil => exact W_pe ok l.ok (S2_ok l) (pe_con rfl) q
  | cons n r => exact W_BItem (j := 0) ok l.ok (S2_ok l) bl (fun _ _ _ => rfl) (hS _) (pe_con rfl) rfl q
theorem W_getk (l : L2 C) (ok : F.Ok C) {sl : Addr} {ns : List Int} (bl : BaseList C sl ns) (k : Nat) {k0 k1 k2 : Nat} {q1 q2 q3 q4 q5 p2 p3 p4 p5 p6 : Pos} (hS : ∀ p, pe S2 F.sc σ ρ (.Name (Str.ofString "script") p) = some (.ref sl)) (hL : ∀ p, pe S2 F.sc σ ρ (.Name (Str.ofString "len") p) = some (.builtin "len")) (q : Q (.int (getI ns k) 0) σ ρ) :
    W C F A (eval (.IfExp (.Compare (.Call (.Name (Str.ofString "len") q1) [.Name (Str.ofString "script") q2] [] q3) [.Gt] [.Constant (.int (k : Nat)) k0 q4] q5) (.Subscript (.Name (Str.ofString "script") p2) (.Constant (.int (k : Nat)) k1 p3) p4) (.Constant (.int 0) k2 p5) p6) F.env) σ ρ Q X := by
  refine W_IfExp (W_TrueCompare1 rfl (W_CallNP (args := [.ref sl]) l ok (fun hn => hL _) (fun v hv => er_builtin_inv hv) keeps_builtin rfl (fun env => rfl) (fun hn => ⟨hS _, trivial⟩) fun vs e2 => W_BLen bl e2 (W_pe (v := .int (k : Nat) 0) ok l.ok (S2_ok l) (pe_con rfl) ⟨_, decide ((k : Int) < ns.length), rfl, rfl, ?_⟩)))
  by_cases h : k < ns.length
  · rw [if_pos (by simp; exact h)]
    refine W_BItem (j := k) (n := ns[k]) ok l.ok (S2_ok l) bl (fun _ _ _ => rfl) (hS _) (pe_con rfl) (List.getElem?_eq_getElem h) ?_
    have : getI ns k = ns[k] := by unfold getI; rw [List.getElem?_eq_getElem h]; rfl
    rw [← this]; exact q
  · rw [if_neg (by simp; omega)]
    have : getI ns k = 0 := by unfold getI; rw [List.getElem?_eq_none (by omega)]; rfl
    rw [this] at q
    exact W_pe ok l.ok (S2_ok l) (pe_con rfl) q
theorem cells_any : ∀ (names : List (Str × NameKind)) (n : Nat) (acc : List (Str × Addr)) (x : Str), (names.lookup x = some .cell ∨ ∃ c, acc.lookup x = some c) → ∃ c, (cellsFrom n names acc).lookup x = some c
  | [], n, acc, x, h => by
    rcases h with h | h
    · cases h
    · exact h
  | (y, k) :: r, n, acc, x, h => by
    unfold cellsFrom
    by_cases hk : (k == NameKind.cell) = true
    · rw [if_pos hk]
      refine cells_any r (n + 1) _ x ?_
      by_cases e : (x == y) = true
      · right; exact ⟨n, by rw [List.lookup_cons]; simp only [e]⟩
      · rcases h with h | ⟨c, h⟩
        · left; rw [List.lookup_cons] at h; simp only [e] at h; exact h
        · right; exact ⟨c, by rw [List.lookup_cons]; simp only [e]; exact h⟩
    · rw [if_neg hk]
      refine cells_any r n acc x ?_
      rcases h with h | h
      · rw [List.lookup_cons] at h
        by_cases e : (x == y) = true
        · simp only [e] at h; cases h; exact absurd rfl hk
        · simp only [e] at h; exact .inl h
      · exact .inr h
theorem clos_a {scope : Scope} {c : Addr} (hs : scope.names = [(Str.ofString ".0", .local), (Str.ofString "j", .local), (Str.ofString "a", .free)]) (hca : F.cl.lookup (Str.ofString "a") = some c) : closureFor scope F.env = pure [(Str.ofString "a", c)] := by
  have hc : F.env.cells.lookup (Str.ofString "a") = some c := hca
  have e : cellOf F.env (Str.ofString "a") = pure c := by unfold cellOf; rw [hc]
  unfold closureFor
  rw [hs]
  simp only [List.forIn_cons, List.forIn_nil, e, pure_bind, show (NameKind.local == NameKind.free) = false from rfl, show (NameKind.free == NameKind.free) = true from rfl, if_true, if_false, Bool.false_eq_true]
theorem seven_of {vs : List Value} {a b c d e f g : Value} (h : vs.map er = [a, b, c, d, e, f, g]) : ∃ x1 x2 x3 x4 x5 x6 x7, vs = [x1, x2, x3, x4, x5, x6, x7] ∧ er x1 = a ∧ er x2 = b ∧ er x3 = c ∧ er x4 = d ∧ er x5 = e ∧ er x6 = f ∧ er x7 = g := by
  match vs, h with
  | [x1, x2, x3, x4, x5, x6, x7], h => simp at h; exact ⟨x1, x2, x3, x4, x5, x6, x7, rfl, h⟩

end Mine
end
/- part L02y -/
section
open PySem PySem.W PySem.Spec PySem.Calls PyProof.Rows
set_option Elab.async false
set_option maxRecDepth 100000
set_option maxHeartbeats 4000000
set_option linter.all false
namespace Mine
local macro_rules | `(tactic| walk_at "fb_enter") => `(tactic| (
  (case ho => k_is)
  (case hcd => k_is)
  (case hcell => decide)
  (case hco => rfl)
  (case hgen => rfl)
  (case hk => rfl)
  (case hloc => simp [lk_cons])))
local macro_rules | `(tactic| walk_at "op") => `(tactic| first | rfl | exact pbin_mulr (by decide) | exact pbin_mull (by decide))
local macro_rules | `(tactic| walk_at "sc") => `(tactic| first | (simp only [lk_cons, String.reduceEq, if_true, if_false, reduceCtorEq]; done) | rfl)
local macro_rules | `(tactic| walk_at "tab") => `(tactic| first | assumption | rfl | (simp [S2, gL, bL, slL, tlL, saL, tab_cons, tab, String.reduceEq, lk_cons, put_at]; done))
local macro_rules | `(tactic| walk_at "lo") => `(tactic| first | assumption | rfl | (rw [put_at, if_pos rfl]) | (rw [put_at, if_neg (by decide)]; walk_at "lo") | (simp [lk_cons, put_at]; done))
local macro_rules | `(tactic| walk_at "fd") => `(tactic| first | assumption | exact Hp.put_self _ _ _ | (refine (Hp.put_ne _ _ ?n).trans ?g; (case n => first | assumption | exact Ne.symm (by assumption)); (case g => walk_at "fd")))
local macro_rules | `(tactic| walk_at "at") => `(tactic| first
  | (refine' pattr_slot ?f ?g ?h ?k; (case f => walk_at "fd"); (case g => walk_at "tab"); (case h => first | assumption | rfl); (case k => rfl))
  | (refine' pattr_sat ?f ?g; (case f => exact KN.at (by assumption) (by first | assumption | decide)); (case g => walk_at "tab")))
local macro_rules | `(tactic| walk_at "le") => `(tactic| first | (refine' plen_ba ?f; (case f => walk_at "fd")) | (refine' plen_list ?f; (case f => walk_at "fd")) | (refine' plen_bytes ?f; (case f => simp; omega)))
local macro_rules | `(tactic| walk_at "ev") => `(tactic| first
  | (refine' pe_con ?g; (case g => rfl))
  | (refine' pe_loc ?n ?g ?h; (case n => decide); (case g => walk_at "sc"); (case h => walk_at "lo"))
  | (refine' pe_glob ?n ?g ?h; (case n => decide); (case g => walk_at "sc"); (case h => walk_at "tab"))
  | (refine' pe_attr ?n ?g ?h; (case n => rfl); (case g => walk_at "ev"); (case h => walk_at "at"))
  | (refine' pe_len ?n ?f ?g ?h; (case n => rfl); (case f => walk_at "ev"); (case g => walk_at "ev"); (case h => walk_at "le"))
  | (refine' pe_bin ?f ?g ?h; (case f => walk_at "ev"); (case g => walk_at "ev"); (case h => walk_at "op"))
  | (refine' pe_una ?f ?h; (case f => walk_at "ev"); (case h => rfl))
  | (refine' pe_cmp ?n ?f ?g ?h; (case n => rfl); (case f => walk_at "ev"); (case g => walk_at "ev"); (case h => rfl)))
local macro_rules | `(tactic| walk_at "te") => `(tactic| first
  | (refine' pt_cmp ?g ?h; (case g => walk_at "ev"); (case h => rfl))
  | (refine' pt_not ?g ?h; (case g => walk_at "te"); (case h => rfl))
  | (refine' pt_chain ?n ?f ?g ?h ?k1 ?k2 ?k3 ?k4 ?k5; (case n => rfl); (case f => walk_at "ev"); (case g => walk_at "ev"); (case h => walk_at "ev"); (case k1 => rfl); (case k2 => rfl); (case k3 => rfl); (case k4 => rfl); (case k5 => rfl))
  | (refine' pt_and ?f ?g ?h; (case f => walk_at "te"); (case g => walk_at "te"); (case h => rfl))
  | (refine' pt_or ?f ?g ?h; (case f => walk_at "te"); (case g => walk_at "te"); (case h => rfl))
  | (refine' pt_name ?g ?h; (case g => walk_at "ev"); (case h => rfl))
  | (refine' pt_attr ?g ?h; (case g => walk_at "ev"); (case h => rfl))
  | (refine' pt_bin ?g ?h; (case g => walk_at "ev"); (case h => rfl)))
local macro_rules | `(tactic| walk_at "EV") => `(tactic| (rw [‹Fm.sc _ = _›]; walk_at "ev"))
local macro_rules | `(tactic| walk_at "TE") => `(tactic| (rw [‹Fm.sc _ = _›]; walk_at "te"))
local macro_rules | `(tactic| walk_at "SC") => `(tactic| (rw [‹Fm.sc _ = _›]; walk_at "sc"))
local macro_rules | `(tactic| walk_at "SW") => `(tactic| (intro _; rfl))
local macro_rules | `(tactic| walk_at "let") => `(tactic| (refine' W_cons (W_Let (by assumption) (by assumption) ?k ?s (fun hn => ?h) rfl ?q); (case k => walk_at "SC"); (case s => walk_at "SW"); (case h => walk_at "EV"); dsimp only))
local macro_rules | `(tactic| walk_at "iv") => `(tactic| first | rfl | (congr 1; omega))
variable {C : Cx} {F : Fm} {A : Around} {σ : Hp} {ρ : Loc} {X : Value → Hp → Loc → Prop} {d : Nat} {Q : Value → Hp → Loc → Prop} {a b : Addr} {B : Bd} {ov : Value}
local macro_rules | `(tactic| walk_at "ev") => `(tactic| first | (refine' pe_cell ?n ?g ?h; (case n => decide); (case g => walk_at "sc"); (case h => walk_at "lo")) | fail "no cell")
theorem create_len (D : Addr) (y : List UInt8) : (createB (newB D) y).live.length = y.length + 1 + padOf 4 (y.length + 1) + 4 := by
  simp [createB, placeB, prepB, newB, le_length]; omega
def cxOf (prog : Program) (w : World) (K : Frag) {p : Program} {loose : List Str} {mean : ExcName → Option Value} {mg mb : Str → Option Value} {h : Heap} (_ : Top p loose mean mg mb h) (os : OsState) : Cx := ⟨prog, w, K, p, loose, mg, mb, os, h⟩
theorem law02 : PySem.Challenge.rw_ef5002_02.Holds := by
  refine Mine.hd ?_
  intro w s₀ s₁ mg mb G Y fa o pm cd doc dV kV ho hd hcd hD hmg hg args vals as hpre hlay hrd hwl hlo
  have KX := kIn_of Y
  refine Ground.open G ?_
  intro T _ _ _ _
  have hdV := Dflts.none hD rfl
  have hkV := Dflts.noKw hD
  subst hdV hkV
  clear hD hmg Y G
  wrow_args hpre hlay hrd hwl hlo
  all_goals (rename IntsAre _ _ => hI; rename Heap.IsList _ _ _ => hL; rename ¬ _ => hlen)
  rename_i ns i1 i2 i3 i4 i5 i6 i7 sl vs i8 i9 i10 i11 i12 i13
  clear i1 i2 i3 i4 i5 i8 i9 i10 i11 i12 i13
  have co : (cxOf PySem.Challenge.rw_ef5002_02.row.prog w (Mine.hd.heap_39 w.params) T s₁.os).Ok := ⟨KX, topRead_of T⟩
  have hCb : (cxOf PySem.Challenge.rw_ef5002_02.row.prog w (Mine.hd.heap_39 w.params) T s₁.os).base = s₁.heap := rfl
  have hCo : (cxOf PySem.Challenge.rw_ef5002_02.row.prog w (Mine.hd.heap_39 w.params) T s₁.os).os = s₁.os := rfl
  have hCp : (cxOf PySem.Challenge.rw_ef5002_02.row.prog w (Mine.hd.heap_39 w.params) T s₁.os).prog = PySem.Challenge.rw_ef5002_02.row.prog := rfl
  have hCw : (cxOf PySem.Challenge.rw_ef5002_02.row.prog w (Mine.hd.heap_39 w.params) T s₁.os).w = w := rfl
  have l : L2 (cxOf PySem.Challenge.rw_ef5002_02.row.prog w (Mine.hd.heap_39 w.params) T s₁.os) := ⟨co, rfl⟩
  generalize cxOf PySem.Challenge.rw_ef5002_02.row.prog w (Mine.hd.heap_39 w.params) T s₁.os = C at *
  have bl : BaseList C sl ns := ⟨vs, hCb ▸ hL, hI, by omega⟩
  rw [← hCp, ← hCw]
  refine wpN_mono (W_top (C := C) co hCb hCo hg ho hd hcd rfl rfl rfl rfl (p := Str.ofString "script") (BindsTo.of_eq rfl) rfl ?cells rfl rfl rfl ?walk) (fun v s' q => ?good) (fun _ _ x => x.elim)
  case cells =>
    exact fun n x hx => cells_any _ n [] x (.inl hx)
  case good =>
    obtain ⟨rfl, st, hos, hgn⟩ := q
    rw [hCb] at st
    exact ⟨.inl ⟨.bool true, ofPy (.bool true), [], rfl, fun _ => rfl, .bool true, by kernel_rfl, fun _ => ⟨List.nodup_nil, fun a ha => by cases ha⟩⟩, .of_keep st, hos.trans hCo, .of_eq hgn⟩
  case walk =>
    intro F' hsc hcl hh ok' A' ar' hfr
    dsimp only [docDef] at hsc
    show W C F' A' _ (fun _ => none) (Loc.put (fun _ => none) (Str.ofString "script") (.ref sl)) _ _
    have hca : F'.cl.lookup (Str.ofString "a") = some (s₁.heap.objs.size + 1) := by rw [hcl]; rfl
    have hc0 : s₁.heap.get? (s₁.heap.objs.size + 1) = none := hfr _ _ hca
    have hh0 : F'.h₀.get? (s₁.heap.objs.size + 1) = none := by rw [hh]; exact hc0
    have hka : F'.sc.names.lookup (Str.ofString "a") = some .cell := by rw [hsc]; rfl
    have hclos : ∀ scope : Scope, scope.names = [(Str.ofString ".0", .local), (Str.ofString "j", .local), (Str.ofString "a", .free)] → closureFor scope F'.env = pure [(Str.ofString "a", s₁.heap.objs.size + 1)] := by
      exact fun scope hs => clos_a hs hca
    have hcb : C.base.get? (s₁.heap.objs.size + 1) = none := by rw [hCb]; exact hc0
    clear hfr hh hc0 ho hcd hL hI T
    generalize s₁.heap.objs.size + 1 = cc at *
    generalize hav : getI ns 0 = av
    refine' W_cons (W_AssignC ok' hka hca hh0 ?w1 (W_get0 l ok' bl (fun p => ?w2) ?w3))
    case w1 => rfl
    case w2 => walk_at "EV"
    rw [hav]
    dsimp only
    generalize hcv : getI ns 1 = cv
    refine' W_cons (W_LetW ok' ?a1 ?a2 (W_getk l ok' bl 1 (fun p => ?a3) (fun p => ?a4) ?a5))
    case a1 => walk_at "SC"
    case a2 => walk_at "SW"
    case a3 => walk_at "EV"
    case a4 => walk_at "EV"
    rw [hcv]
    dsimp only
    generalize hdv : getI ns 2 = dv
    refine' W_cons (W_LetW ok' ?b1 ?b2 (W_getk l ok' bl 2 (fun p => ?b3) (fun p => ?b4) ?b5))
    case b1 => walk_at "SC"
    case b2 => walk_at "SW"
    case b3 => walk_at "EV"
    case b4 => walk_at "EV"
    rw [hdv]
    dsimp only
    obtain ⟨cap, hcap, hcap2⟩ := fmod_nat av 40 (by decide)
    obtain ⟨nt, hnt, hnt2⟩ := fmod_nat (av.fdiv 40) 9 (by decide)
    obtain ⟨lead, hlead, hlead2⟩ := fmod_nat (av.fdiv 360) 4 (by decide)
    have hcap : av.fmod 40 = cap := hcap
    have hnt : (av.fdiv 40).fmod 9 = nt := hnt
    have hlead : (av.fdiv 360).fmod 4 = lead := hlead
    refine' W_cons (W_LetW ok' ?d1 ?d2 (W_CallNP (args := [.int (av.fmod 40) 0]) l ok' (fun hn => ?d3) (fun v hv => er_ref_inv hv) (makeChk_ok (C := C) (Cl := 734) (fI := 348) (by rw [l.k]; exact mk734 _)).2 rfl ?d4 (fun hn => ⟨?d5, trivial⟩) fun vs e2 => ?d6))
    case d1 => walk_at "SC"
    case d2 => walk_at "SW"
    case d3 => walk_at "EV"
    case d4 => walk_at "SW"
    case d5 => walk_at "EV"
    rw [hcap] at e2
    refine w_Builder (d := 15) l ok' (ar'.mono (by omega)) e2 (by omega) fun σ1 b a D hB1 hD1 hDs _ _ _ _ => ?_
    dsimp only
    refine' W_cons (W_LetW ok' ?e1 ?e2 (W_kn2 l ok' fun hn => W_CallN (f := .type "bytes") ok' l.ok (S2_ok l) ?e3 (fun v hv => er_type_inv hv) keeps_type rfl (W_args1 rfl (W_CompRange (n := nt) (g := letter av) ok' l.ok (S2_ok l) ar'.handled (hclos _ rfl) (by decide) rfl (by decide) rfl ?e4 ?e5 (by omega) rfl (elt_ok ok' hka hca hcb ?e6 rfl rfl) (fun Dl nDl vs hvs => W_bytes_list (ns := (List.range nt).map (letter av)) ar'.handled hvs ?e7 ?e8 ?e9) (fun x => rfl))) rfl))
    case e1 => walk_at "SC"
    case e2 => walk_at "SW"
    case e3 => walk_at "EV"
    case e4 => walk_at "EV"
    case e5 => (rw [← hnt]; walk_at "EV")
    case e6 => walk_at "lo"
    case e7 => rw [Hp.put_self, List.map_map]; rfl
    case e8 =>
      intro n hn
      obtain ⟨j, _, rfl⟩ := List.mem_map.mp hn
      exact letter_ok av j
    rw [textOf_arr]
    dsimp only
    have hB1 := hB1.put_new (o := .list ((List.range nt).map fun j => Value.int (letter av j) 0)) nDl
    have hD1 : (σ1.put Dl (.list ((List.range nt).map fun j => Value.int (letter av j) 0))) D = some (.raw emptyDict) := (Hp.put_ne _ _ (fun z => by rw [z, nDl] at hD1; cases hD1)).trans hD1
    generalize σ1.put Dl (.list ((List.range nt).map fun j => Value.int (letter av j) 0)) = σ2 at *
    have hyl := textOf_len av nt
    generalize hy : textOf av nt = y at *
    obtain ⟨dx1, bs1, hb1, ha1, _⟩ := id hB1
    have nD : ∀ {σ : Hp} {a : Addr} {B : Bd}, BS σ b a B → σ D = some (.raw emptyDict) → D ≠ b ∧ D ≠ a := fun hB hD => by
      obtain ⟨_, _, k1, k2, _⟩ := hB
      exact ⟨(fun z => by rw [z, k1] at hD; cases hD), (fun z => by rw [z, k2] at hD; cases hD)⟩
    refine' W_cons (W_LetW ok' ?m1k ?m1s (W_CallMP (x := "CreateString") (f := 461) (args := [.bytes y.toArray 0]) l ok' (fun hn => ?m1o) hb1 (by decide) rfl ?m1e (fun hn => ⟨?m1a0, trivial⟩) fun ov' vs e1 e2 => ?m1z))
    case m1k => walk_at "SC"
    case m1s => walk_at "SW"
    case m1o => walk_at "EV"
    case m1e => walk_at "SW"
    case m1a0 => walk_at "EV"
    obtain ⟨v1, rfl, y1⟩ := one_of e2
    have hp4 : padOf 4 (y.length + 1) < 4 := by unfold padOf; omega
    refine w_CreateString l ok' (ar'.mono (d' := 16) (by omega)) e1 y1 hB1 rfl (by omega) (by show 0 + padOf 4 (0 + (y.length + 1)) + 4 + (y.length + 1) ≤ _; simp only [Nat.zero_add]; omega) fun σ3 a3 hB3 hK3 => ?_
    have hD3 := hK3.old _ _ hD1 (nD hB1 hD1).1 (nD hB1 hD1).2
    have hl1 := create_len D y
    obtain ⟨tail, htail⟩ : ∃ tail : List UInt8, (createB (newB D) y).live = le 4 (wrap 4 (y.length : Int)) ++ (y ++ tail) := ⟨_, rfl⟩
    dsimp only
    have hma1 : (createB (newB D) y).ma = 4 := rfl
    have hn1 : (createB (newB D) y).nest = false := rfl
    have hvt1 : (createB (newB D) y).vt = D := rfl
    have hfd1 : (createB (newB D) y).fd = false := rfl
    generalize hB1e : createB (newB D) y = B1 at *
    obtain ⟨dx3, bs3, hb3, ha3, _⟩ := id hB3
    refine' W_cons (W_Let (v' := .int lead 0) l ok' ?n1 ?n2 (fun hn => ?n3) ?n5 ?n4)
    case n1 => walk_at "SC"
    case n2 => walk_at "SW"
    case n3 => walk_at "EV"
    case n5 => (rw [hlead])
    dsimp only
    refine' W_cons (W_Do ok' ?m2s (W_CallMP (x := "Prep") (f := 418) (args := [.int (1 : Nat) 0, .int lead 0]) l ok' (fun hn => ?m2o) hb3 (by decide) rfl ?m2e (fun hn => ⟨?m2a0, ?m2a1, trivial⟩) fun ov' vs e1 e2 => ?m2z))
    case m2s => walk_at "SW"
    case m2o => walk_at "EV"
    case m2e => walk_at "SW"
    case m2a0 => walk_at "EV"
    case m2a1 => walk_at "EV"
    obtain ⟨v1, v2, rfl, y1, y2⟩ := two_of e2
    have p1 : ∀ x, padOf 1 x = 0 := fun x => by unfold padOf; omega
    refine w_Prep l ok' (ar'.mono (d' := 18) (by omega)) e1 (size := 1) (add := lead) y1 y2 hB3 (.inl rfl) (by rw [p1]; omega) fun σ4 a4 hB4 hK4 => ?_
    dsimp only
    have hD4 := hK4.old _ _ hD3 (nD hB3 hD3).1 (nD hB3 hD3).2
    obtain ⟨dx4, bs4, hb4, ha4, _⟩ := id hB4
    refine' W_cons (W_Do ok' ?m3s (W_CallMP (x := "Pad") (f := 411) (args := [.int lead 0]) l ok' (fun hn => ?m3o) hb4 (by decide) rfl ?m3e (fun hn => ⟨?m3a0, trivial⟩) fun ov' vs e1 e2 => ?m3z))
    case m3s => walk_at "SW"
    case m3o => walk_at "EV"
    case m3e => walk_at "SW"
    case m3a0 => walk_at "EV"
    obtain ⟨v1, rfl, y1⟩ := one_of e2
    refine w_Pad l ok' (ar'.mono (d' := 19) (by omega)) e1 y1 hB4 (by show lead ≤ 1 + lead; omega) (by omega) fun σ5 hB5 hK5 => ?_
    dsimp only
    have hD5 := hK5.old _ _ hD4 (nD hB4 hD4).1 (nD hB4 hD4).2
    have hlv : ({ prepB B1 1 lead with live := List.replicate lead 0 ++ (prepB B1 1 lead).live, room := (prepB B1 1 lead).room - lead } : Bd).live = List.replicate lead 0 ++ B1.live := by show List.replicate lead 0 ++ (List.replicate (padOf 1 _) 0 ++ B1.live) = _; rw [p1]; rfl
    have hma2 : ({ prepB B1 1 lead with live := List.replicate lead 0 ++ (prepB B1 1 lead).live, room := (prepB B1 1 lead).room - lead } : Bd).ma = 4 := by show (if B1.ma < (1 : Nat) then ((1 : Nat) : Int) else B1.ma) = 4; rw [hma1]; rfl
    have hn2 : ({ prepB B1 1 lead with live := List.replicate lead 0 ++ (prepB B1 1 lead).live, room := (prepB B1 1 lead).room - lead } : Bd).nest = false := hn1
    have hvt2 : ({ prepB B1 1 lead with live := List.replicate lead 0 ++ (prepB B1 1 lead).live, room := (prepB B1 1 lead).room - lead } : Bd).vt = D := hvt1
    generalize ({ prepB B1 1 lead with live := List.replicate lead 0 ++ (prepB B1 1 lead).live, room := (prepB B1 1 lead).room - lead } : Bd) = B2 at *
    have hl2 : B2.live.length = lead + B1.live.length := by rw [hlv]; simp
    obtain ⟨dx5, bs5, hb5, ha5, _⟩ := id hB5
    refine' W_cons (W_LetW ok' ?m4k ?m4s (W_CallMP (x := "Offset") (f := 404) (args := []) l ok' (fun hn => ?m4o) hb5 (by decide) rfl ?m4e (fun hn => trivial) fun ov' vs e1 e2 => ?m4z))
    case m4k => walk_at "SC"
    case m4s => walk_at "SW"
    case m4o => walk_at "EV"
    case m4e => walk_at "SW"
    have := List.map_eq_nil_iff.mp e2; subst this
    refine w_Offset l ok' (ar'.mono (d' := 19) (by omega)) e1 hB5 ?_
    dsimp only
    refine' W_cons (W_IfF (W_TrueOr (W_orCons (W_TrueCompare1 rfl (W_pe' (v := .int B1.live.length 0) l ok' (fun hn => ?o1) rfl (W_BinOp (W_CallNP (args := [.int ((y.toArray.size : Nat) + 1 : Int) 0]) l ok' (fun hn => ?o2) (fun v hv => er_ref_inv hv) (fn2 l (f := 754) (by decide)) rfl ?o3 (fun hn => ⟨?o4, trivial⟩) fun vs e2 => ?o5)))))))
    case o1 => walk_at "EV"
    case o2 => walk_at "EV"
    case o3 => walk_at "SW"
    case o4 => walk_at "EV"
    obtain ⟨v1, rfl, y1⟩ := one_of e2
    refine w_up4 (x := y.length + 1) l ok' (ar'.mono (d' := 19) (by omega)) (by rw [y1]; simp) (W_pe' (v := .int 4 0) l ok' (fun hn => ?q1) rfl ⟨_, rfl, ⟨_, _, rfl, rfl, ?q2, W_orPure (v := ((B2.live.length : Int) != ((B1.live.length : Int) + lead))) l ok' (fun hn => ?q3) ?q4 (W_orNil ⟨rfl, W_nil ?q5⟩)⟩⟩)
    case q1 => walk_at "EV"
    case q2 => (rw [hl1]; simp)
    case q3 => walk_at "TE"
    case q4 => (rw [hl2]; simp; omega)
    obtain ⟨cm, hcm, hcm2⟩ := fmod_nat cv 18 (by decide)
    obtain ⟨dm, hdm, hdm2⟩ := fmod_nat dv 255 (by decide)
    obtain ⟨em, hem, hem2⟩ := fmod_nat (dv.fdiv 255) 255 (by decide)
    have hcm : cv.fmod 18 = cm := hcm
    have hdm : dv.fmod 255 = dm := hdm
    have hem : (dv.fdiv 255).fmod 255 = em := hem
    obtain ⟨gap, hgap⟩ : ∃ gap : Nat, gap = 65519 + cm := ⟨_, rfl⟩
    refine' W_cons (W_Let (v' := .int gap 0) l ok' ?r1 ?r2 (fun hn => ?r3) ?r5 ?r4)
    case r1 => walk_at "SC"
    case r2 => walk_at "SW"
    case r3 => walk_at "EV"
    case r5 => (rw [hcm, hgap]; congr 1; omega)
    dsimp only
    refine' W_cons (W_Let (v' := .int (dm + 1 : Nat) 0) l ok' ?s1 ?s2 (fun hn => ?s3) ?s5 ?s4)
    case s1 => walk_at "SC"
    case s2 => walk_at "SW"
    case s3 => walk_at "EV"
    case s5 => (rw [hdm]; rfl)
    dsimp only
    refine' W_cons (W_Let (v' := .int (em + 1 : Nat) 0) l ok' ?t1 ?t2 (fun hn => ?t3) ?t5 ?t4)
    case t1 => walk_at "SC"
    case t2 => walk_at "SW"
    case t3 => walk_at "EV"
    case t5 => (rw [hem]; rfl)
    dsimp only
    have hD5' := hD5
    refine' W_cons (W_Do ok' ?m5s (W_CallMP (x := "StartObject") (f := 369) (args := [.int (3 : Nat) 0]) l ok' (fun hn => ?m5o) hb5 (by decide) rfl ?m5e (fun hn => ⟨?m5a0, trivial⟩) fun ov' vs e1 e2 => ?m5z))
    case m5s => walk_at "SW"
    case m5o => walk_at "EV"
    case m5e => walk_at "SW"
    case m5a0 => walk_at "EV"
    obtain ⟨v1, rfl, y1⟩ := one_of e2
    refine w_StartObject l ok' (ar'.mono (d' := 18) (by omega)) e1 y1 hB5 hn2 (by decide) fun σ6 cl hB6 hK6 _ hcl6 => ?_
    dsimp only
    have hD6 := hK6.old _ _ hD5 (nD hB5 hD5).1 (nD hB5 hD5).2
    have hB6 : BS σ6 b a4 (go1 B2 cl) := hB6
    obtain ⟨dx6, bs6, hb6, ha6, _⟩ := id hB6
    have ncb : cl ≠ b := fun z => by rw [z, hb6] at hcl6; cases hcl6
    have ncD : D ≠ cl := fun z => by rw [z, hcl6] at hD6; cases hD6
    refine' W_cons (W_Do ok' ?m6s (W_CallMP (x := "PrependUint8Slot") (f := 555) (args := [.int (1 : Nat) 0, .int (dm + 1 : Nat) 0, .int 0 0]) l ok' (fun hn => ?m6o) hb6 (by decide) rfl ?m6e (fun hn => ⟨?m6a0, ?m6a1, ?m6a2, trivial⟩) fun ov' vs e1 e2 => ?m6z))
    case m6s => walk_at "SW"
    case m6o => walk_at "EV"
    case m6e => walk_at "SW"
    case m6a0 => walk_at "EV"
    case m6a1 => walk_at "EV"
    case m6a2 => walk_at "EV"
    obtain ⟨v1, v2, v3, rfl, y1, y2, y3⟩ := three_of e2
    refine w_PrependUint8Slot (d := 15) l ok' (ar'.mono (by omega)) e1 y1 y2 y3 (by omega) hB6 (by rw [p1]; show B2.live.length + 0 + 1 ≤ _; omega) (by omega) (by omega) (by decide) (by decide) rfl rfl hcl6 (by decide) fun σ7 a7 hB7 hK7 hcl7 => ?_
    dsimp only
    have hD7 := hK7 _ _ hD6 (nD hB6 hD6).1 (nD hB6 hD6).2 ncD
    have e7 : (go1 B2 cl).live.length + padOf 1 (go1 B2 cl).live.length + 1 = B2.live.length + 1 := by rw [p1]; rfl
    rw [e7] at hcl7
    have l7 : (placeB (prepB (go1 B2 cl) 1 0) 1 ((dm + 1 : Nat) : Int)).live = le 1 (wrap 1 ((dm + 1 : Nat) : Int)) ++ B2.live := by show le 1 _ ++ (List.replicate (padOf 1 _) 0 ++ B2.live) = _; rw [p1]; rfl
    have ma7 : (placeB (prepB (go1 B2 cl) 1 0) 1 ((dm + 1 : Nat) : Int)).ma = 4 := by show (if B2.ma < (1 : Nat) then ((1 : Nat) : Int) else B2.ma) = 4; rw [hma2]; rfl
    have n7 : (placeB (prepB (go1 B2 cl) 1 0) 1 ((dm + 1 : Nat) : Int)).nest = true := rfl
    have c7 : (placeB (prepB (go1 B2 cl) 1 0) 1 ((dm + 1 : Nat) : Int)).cv = .ref cl := rfl
    have o7 : (placeB (prepB (go1 B2 cl) 1 0) 1 ((dm + 1 : Nat) : Int)).oe = .int B2.live.length 0 := rfl
    have v7 : (placeB (prepB (go1 B2 cl) 1 0) 1 ((dm + 1 : Nat) : Int)).vt = D := hvt2
    generalize placeB (prepB (go1 B2 cl) 1 0) 1 ((dm + 1 : Nat) : Int) = B7 at *
    have ll7 : B7.live.length = B2.live.length + 1 := by rw [l7]; simp [le_length]; omega
    obtain ⟨dx7, bs7, hb7, ha7, _⟩ := id hB7
    refine' W_cons (W_Do ok' ?m7s (W_CallMP (x := "Prep") (f := 418) (args := [.int (1 : Nat) 0, .int gap 0]) l ok' (fun hn => ?m7o) hb7 (by decide) rfl ?m7e (fun hn => ⟨?m7a0, ?m7a1, trivial⟩) fun ov' vs e1 e2 => ?m7z))
    case m7s => walk_at "SW"
    case m7o => walk_at "EV"
    case m7e => walk_at "SW"
    case m7a0 => walk_at "EV"
    case m7a1 => walk_at "EV"
    obtain ⟨v1, v2, rfl, y1, y2⟩ := two_of e2
    refine w_Prep l ok' (ar'.mono (d' := 18) (by omega)) e1 (size := 1) (add := gap) y1 y2 hB7 (.inl rfl) (by rw [p1]; omega) fun σ8 a8 hB8 hK8 => ?_
    dsimp only
    have hD8 := hK8.old _ _ hD7 (nD hB7 hD7).1 (nD hB7 hD7).2
    have nca7 : cl ≠ a7 := fun z => by rw [z, ha7] at hcl7; cases hcl7
    have hcl8 := hK8.old _ _ hcl7 ncb nca7
    obtain ⟨dx8, bs8, hb8, ha8, _⟩ := id hB8
    have nca8 : cl ≠ a8 := fun z => by rw [z, ha8] at hcl8; cases hcl8
    refine' W_cons (W_Do ok' ?m8s (W_CallMP (x := "Pad") (f := 411) (args := [.int gap 0]) l ok' (fun hn => ?m8o) hb8 (by decide) rfl ?m8e (fun hn => ⟨?m8a0, trivial⟩) fun ov' vs e1 e2 => ?m8z))
    case m8s => walk_at "SW"
    case m8o => walk_at "EV"
    case m8e => walk_at "SW"
    case m8a0 => walk_at "EV"
    obtain ⟨v1, rfl, y1⟩ := one_of e2
    refine w_Pad l ok' (ar'.mono (d' := 19) (by omega)) e1 y1 hB8 (by show gap ≤ 1 + gap; omega) (by omega) fun σ9 hB9 hK9 => ?_
    dsimp only
    have hD9 := hK9.old _ _ hD8 (nD hB8 hD8).1 (nD hB8 hD8).2
    have hcl9 := hK9.old _ _ hcl8 ncb nca8
    have l9 : ({ prepB B7 1 gap with live := List.replicate gap 0 ++ (prepB B7 1 gap).live, room := (prepB B7 1 gap).room - gap } : Bd).live = List.replicate gap 0 ++ B7.live := by show List.replicate gap 0 ++ (List.replicate (padOf 1 _) 0 ++ B7.live) = _; rw [p1]; rfl
    have ma9 : ({ prepB B7 1 gap with live := List.replicate gap 0 ++ (prepB B7 1 gap).live, room := (prepB B7 1 gap).room - gap } : Bd).ma = 4 := by show (if B7.ma < (1 : Nat) then ((1 : Nat) : Int) else B7.ma) = 4; rw [ma7]; rfl
    have n9 : ({ prepB B7 1 gap with live := List.replicate gap 0 ++ (prepB B7 1 gap).live, room := (prepB B7 1 gap).room - gap } : Bd).nest = true := n7
    have c9 : ({ prepB B7 1 gap with live := List.replicate gap 0 ++ (prepB B7 1 gap).live, room := (prepB B7 1 gap).room - gap } : Bd).cv = .ref cl := c7
    have o9 : ({ prepB B7 1 gap with live := List.replicate gap 0 ++ (prepB B7 1 gap).live, room := (prepB B7 1 gap).room - gap } : Bd).oe = .int B2.live.length 0 := o7
    have v9 : ({ prepB B7 1 gap with live := List.replicate gap 0 ++ (prepB B7 1 gap).live, room := (prepB B7 1 gap).room - gap } : Bd).vt = D := v7
    generalize ({ prepB B7 1 gap with live := List.replicate gap 0 ++ (prepB B7 1 gap).live, room := (prepB B7 1 gap).room - gap } : Bd) = B9 at *
    have ll9 : B9.live.length = gap + B7.live.length := by rw [l9]; simp
    obtain ⟨dx9, bs9, hb9, ha9, _⟩ := id hB9
    refine' W_cons (W_Do ok' ?m9s (W_CallMP (x := "PrependUint8Slot") (f := 555) (args := [.int (0 : Nat) 0, .int (em + 1 : Nat) 0, .int 0 0]) l ok' (fun hn => ?m9o) hb9 (by decide) rfl ?m9e (fun hn => ⟨?m9a0, ?m9a1, ?m9a2, trivial⟩) fun ov' vs e1 e2 => ?m9z))
    case m9s => walk_at "SW"
    case m9o => walk_at "EV"
    case m9e => walk_at "SW"
    case m9a0 => walk_at "EV"
    case m9a1 => walk_at "EV"
    case m9a2 => walk_at "EV"
    obtain ⟨v1, v2, v3, rfl, y1, y2, y3⟩ := three_of e2
    refine w_PrependUint8Slot (d := 15) l ok' (ar'.mono (by omega)) e1 y1 y2 y3 (by omega) hB9 (by rw [p1]; omega) (by omega) (by omega) (by decide) (by decide) n9 c9 hcl9 (by simp) fun σa aa hBa hKa hcla => ?_
    dsimp only
    have hDa := hKa _ _ hD9 (nD hB9 hD9).1 (nD hB9 hD9).2 ncD
    have ea : B9.live.length + padOf 1 B9.live.length + 1 = B9.live.length + 1 := by rw [p1]
    rw [ea] at hcla
    have la : (placeB (prepB B9 1 0) 1 ((em + 1 : Nat) : Int)).live = le 1 (wrap 1 ((em + 1 : Nat) : Int)) ++ B9.live := by show le 1 _ ++ (List.replicate (padOf 1 _) 0 ++ B9.live) = _; rw [p1]; rfl
    have maa : (placeB (prepB B9 1 0) 1 ((em + 1 : Nat) : Int)).ma = 4 := by show (if B9.ma < (1 : Nat) then ((1 : Nat) : Int) else B9.ma) = 4; rw [ma9]; rfl
    have na : (placeB (prepB B9 1 0) 1 ((em + 1 : Nat) : Int)).nest = true := n9
    have ca : (placeB (prepB B9 1 0) 1 ((em + 1 : Nat) : Int)).cv = .ref cl := c9
    have oa : (placeB (prepB B9 1 0) 1 ((em + 1 : Nat) : Int)).oe = .int B2.live.length 0 := o9
    have va : (placeB (prepB B9 1 0) 1 ((em + 1 : Nat) : Int)).vt = D := v9
    generalize placeB (prepB B9 1 0) 1 ((em + 1 : Nat) : Int) = Ba at *
    have lla : Ba.live.length = B9.live.length + 1 := by rw [la]; simp [le_length]; omega
    have hns : σa cl = some (.list (vnats [B2.live.length + 2 + gap, B2.live.length + 1, 0])) := by
      rw [hcla, show B9.live.length + 1 = B2.live.length + 2 + gap by omega]; rfl
    have hlive : Ba.live = le 1 (wrap 1 ((em + 1 : Nat) : Int)) ++ (List.replicate gap 0 ++ (le 1 (wrap 1 ((dm + 1 : Nat) : Int)) ++ B2.live)) := by rw [la, l9, l7]
    have hsB : (sB Ba).live.length = Ba.live.length + padOf 4 Ba.live.length + 4 := by simp [sB, placeB, prepB, le_length]; omega
    have hLa : Ba.live.length = B2.live.length + 2 + gap := by omega
    have hpa : padOf 4 Ba.live.length < 4 := by unfold padOf; omega
    obtain ⟨P, hP⟩ : ∃ P : Nat, P = (sB Ba).live.length := ⟨_, rfl⟩
    obtain ⟨dxa, bsa, hba, haa, _⟩ := id hBa
    refine' W_cons (W_Let (v' := .int (Ba.live.length : Nat) 0) l ok' ?aa1 ?aa2 (fun hn => ?aa3) ?aa5 ?aa4)
    case aa1 => walk_at "SC"
    case aa2 => walk_at "SW"
    case aa3 => walk_at "EV"
    case aa5 => (rw [hLa]; congr 1)
    dsimp only
    refine' W_cons (W_LetW ok' ?ab1 ?ab2 (W_BinOp (W_CallNP (args := [.int (Ba.live.length : Nat) 0]) l ok' (fun hn => ?ab3) (fun v hv => er_ref_inv hv) (fn2 l (f := 754) (by decide)) rfl ?ab4 (fun hn => ⟨?ab5, trivial⟩) fun vs e2 => ?ab6)))
    case ab1 => walk_at "SC"
    case ab2 => walk_at "SW"
    case ab3 => walk_at "EV"
    case ab4 => walk_at "SW"
    case ab5 => walk_at "EV"
    obtain ⟨v1, rfl, y1⟩ := one_of e2
    refine w_up4 (x := Ba.live.length) l ok' (ar'.mono (d' := 19) (by omega)) y1 (W_pe' (v := .int 4 0) l ok' (fun hn => ?ac1) rfl ⟨.int P 0, ?ac2, ?ac3⟩)
    case ac1 => walk_at "EV"
    case ac2 => (rw [hP, hsB]; rfl)
    dsimp only
    have hsz : ∃ sz : Nat, sz = P - B2.live.length := ⟨_, rfl⟩
    obtain ⟨sz, hsz⟩ := hsz
    refine' W_cons (W_Let (v' := .int sz 0) l ok' ?ad1 ?ad2 (fun hn => ?ad3) ?ad5 ?ad4)
    case ad1 => walk_at "SC"
    case ad2 => walk_at "SW"
    case ad3 => walk_at "EV"
    case ad5 => (rw [hsz]; congr 1; omega)
    dsimp only
    have hfit : ((P : Int) - B2.live.length) = (sz : Int) := by omega
    have hDn := nD hBa hDa
    have hvta : σa Ba.vt = some (.raw emptyDict) := by rw [va]; exact hDa
    have hvsa : (Ba.vt == sysModules) = false := by rw [va]; exact hDs
    have hina : ∀ n ∈ [B2.live.length + 2 + gap, B2.live.length + 1, 0], n ≤ (sB Ba).live.length := by
      intro n hn; simp at hn; omega
    refine' W_cons (W_If' (b' := (decide (65535 < sz))) l ok' (fun hn => ?aet) ?aeu (fun z => ?aey) (fun z => ?aen))
    case aet => walk_at "TE"
    case aeu => (by_cases z : 65535 < sz <;> simp [z] <;> omega)
    case aey =>
      have hbig : 65535 < sz := by simpa using z
      have hnf : ¬ fitsV (sB Ba).live.length [B2.live.length + 2 + gap, B2.live.length + 1, 0] ((sB Ba).live.length - B2.live.length) := fun f => by
        have := f.2
        rw [← hP] at this; omega
      refine' W_cons (W_Return (W_And (W_boAnd (W_CallNP (args := [.ref b]) l ok' (fun hn => ?af1) (fun v hv => er_ref_inv hv) (fn2 l (f := 761) (by decide)) rfl ?af2 (fun hn => ⟨?af3, trivial⟩) fun vs e2 => ?af4))))
      case af1 => walk_at "EV"
      case af2 => walk_at "SW"
      case af3 => walk_at "EV"
      obtain ⟨v1, rfl, y1⟩ := one_of e2
      refine w_refused (d := 13) l ok' (ar'.mono (by omega)) y1 hBa na ca hns oa hvta hvsa (by simp; omega) hina (by omega) (by simp) hnf fun σb ab Bb hBb hEb hkb => ⟨rfl, ?ag⟩
      have hDb := hkb _ _ hDa hDn.1 hDn.2
      obtain ⟨⟨pre, hpre, hprl⟩, hrest, hmab⟩ := hEb
      have hsm : (sB { Ba with nest := false }).ma = 4 := by show (if Ba.ma < (4 : Nat) then ((4 : Nat) : Int) else Ba.ma) = 4; rw [maa]; rfl
      have hmb : Bb.ma = 4 := by rcases hmab with q | q <;> omega
      have hnb : Bb.nest = false := hrest.1
      have hvb : Bb.vt = D := hrest.2.2.2.2.2.2.2.trans va
      have hsl : (sB { Ba with nest := false }).live = (sB Ba).live := rfl
      have hlb : Bb.live = (pre ++ (le 4 (wrap 4 ((Ba.live.length + padOf 4 Ba.live.length - 0 + 4 : Nat) : Int)) ++ (List.replicate (padOf 4 (Ba.live.length + 0)) 0 ++ (le 1 (wrap 1 ((em + 1 : Nat) : Int)) ++ (List.replicate gap 0 ++ (le 1 (wrap 1 ((dm + 1 : Nat) : Int)) ++ List.replicate lead 0)))))) ++ (le 4 (wrap 4 (y.length : Int)) ++ (y ++ tail)) := by
        rw [hpre, hsl, show (sB Ba).live = le 4 (wrap 4 ((Ba.live.length + padOf 4 Ba.live.length - 0 + 4 : Nat) : Int)) ++ (List.replicate (padOf 4 (Ba.live.length + 0)) 0 ++ Ba.live) from rfl, hlive, hlv, htail]
        simp only [List.append_assoc]
      have hlenb : Bb.live.length ≤ 900000 := by rw [hpre, hsl, List.length_append, ← hP]; simp at hprl; omega
      have hK : B1.live.length = 4 + (y.length + tail.length) := by rw [htail]; simp [le_length]
      have gf := go_facts (B := Bb) (y := y) (keep := B1.live.length) hlb hK hlenb (by omega) hmb
      refine' W_boOne (W_CallNP (args := [.ref b, .int B1.live.length 0, .bytes y.toArray 0]) l ok' (fun hn => ?ah1) (fun v hv => er_ref_inv hv) (fn2 l (f := 768) (by decide)) rfl ?ah2 (fun hn => ⟨?ah3, ?ah4, ?ah5, trivial⟩) fun vs e2 => ?ah6)
      case ah1 => walk_at "EV"
      case ah2 => walk_at "SW"
      case ah3 => walk_at "EV"
      case ah4 => walk_at "EV"
      case ah5 => walk_at "EV"
      obtain ⟨v1, v2, v3, rfl, y1, y2, y3⟩ := three_of e2
      exact w_goes_on (d := 12) l ok' (ar'.mono (by omega)) y1 y2 y3 hBb hnb hmb (by rw [hvb]; exact hDb) (by rw [hvb]; exact hDs) hlenb (by omega) (by rw [hlb, List.length_append, hK]; simp [le_length]) gf (by omega) fun _ => rfl
    case aen =>
      have hsmall : sz ≤ 65535 := by simpa using z
      have hft : fitsV (sB Ba).live.length [B2.live.length + 2 + gap, B2.live.length + 1, 0] ((sB Ba).live.length - B2.live.length) := by
        rw [← hP]
        refine ⟨fun n hn => ?_, by omega⟩
        simp at hn
        unfold voff
        split <;> omega
      refine W_nil ?_
      refine' W_cons (W_LetW ok' ?aik ?ais (W_CallMP (x := "EndObject") (f := 383) (args := []) l ok' (fun hn => ?aio) hba (by decide) rfl ?aie (fun hn => trivial) fun ov' vs e1 e2 => ?aiz))
      case aik => walk_at "SC"
      case ais => walk_at "SW"
      case aio => walk_at "EV"
      case aie => walk_at "SW"
      have := List.map_eq_nil_iff.mp e2; subst this
      refine w_EndObject (d := 13) l ok' (ar'.mono (by omega)) e1 hBa na ca hns oa hvta hvsa (by simp; omega) hina (by omega) (by simp) (fun _ σb ab hBb _ => ?aj) (fun f => absurd hft f)
      rw [← hP]
      dsimp only
      obtain ⟨dxb, bsb, hbb, hab, _⟩ := id hBb
      have wf := wv_facts (B := { Ba with nest := false }) (s := B2.live.length) (gap := gap) maa
      have rf := rd_facts (B := { Ba with nest := false }) (s := B2.live.length) (gap := gap) (near := em + 1) (far := dm + 1) (base := B2.live) rfl hlive maa (by show (sB Ba).live.length - _ ≤ _; omega) (by omega) (by omega) (by omega) (by omega) (by omega)
      have wl := wf.len
      have wm := wf.ma
      rw [show (sB { Ba with nest := false }).live.length = P from hP.symm] at wl rf
      generalize wvB { Ba with nest := false } [B2.live.length + 2 + gap, B2.live.length + 1, 0] B2.live.length = Bb at *
      refine' W_cons (W_Do ok' ?aks (W_CallMP (x := "Finish") (f := 512) (args := [.int P 0]) l ok' (fun hn => ?ako) hbb (by decide) rfl ?ake (fun hn => ⟨?aka0, trivial⟩) fun ov' vs e1 e2 => ?akz))
      case aks => walk_at "SW"
      case ako => walk_at "EV"
      case ake => walk_at "SW"
      case aka0 => walk_at "EV"
      obtain ⟨v1, rfl, y1⟩ := one_of e2
      refine w_Finish (d := 14) l ok' (ar'.mono (by omega)) e1 (n := P) (m := 4) y1 hBb wm (.inr (.inr (.inl rfl))) (by rw [wl]; have : padOf 4 (P + 8 + 4) < 4 := (by unfold padOf; omega); omega) (by omega) (by omega) fun _ σc ac hBc hKc => ?_
      dsimp only
      obtain ⟨dxc, bsc, hbc, hac, _⟩ := id hBc
      refine' W_cons (W_Return (W_And (W_boAnd (W_pe' (v := .bool ((P : Int) == (P : Int))) (v' := .bool true) l ok' (fun hn => ?al1) (by simp) ⟨rfl, ?al2⟩))))
      case al1 => walk_at "EV"
      refine' W_boOne (W_kn2 l ok' fun hn => W_CallN (f := .ref 775) ok' l.ok (S2_ok l) ?am1 (fun v hv => er_ref_inv hv) (fn2 l (f := 775) (by decide)) rfl
        (W_args_cons rfl (W_CallMP (x := "Output") (f := 362) (args := []) l ok' (fun hn => ?am2) hbc (by decide) rfl ?am3 (fun hn => trivial) fun ov' vs e1 e2 => ?am4)) rfl)
      case am1 => walk_at "EV"
      case am2 => walk_at "EV"
      case am3 => walk_at "SW"
      have := List.map_eq_nil_iff.mp e2; subst this
      refine w_Output l ok' (ar'.mono (d' := 19) (by omega)) e1 hBc rfl fun m nm => ?_
      refine' W_args_cons rfl (W_pe' (v := .int P 0) l ok' (fun hn => ?an1) rfl (W_args_cons rfl (W_pe' (v := .int sz 0) l ok' (fun hn => ?an2) rfl (W_args_cons rfl (W_pe' (v := .int (Ba.live.length : Nat) 0) l ok' (fun hn => ?an3) rfl (W_args_cons rfl (W_pe' (v := .int ((B2.live.length : Int) + 1) 0) l ok' (fun hn => ?an4) rfl (W_args_cons rfl (W_pe' (v := .int (em + 1 : Nat) 0) l ok' (fun hn => ?an5) rfl (W_args_cons rfl (W_pe' (v := .int (dm + 1 : Nat) 0) l ok' (fun hn => ?an6) rfl (W_args_nil fun vs hvs => ?an7))))))))))))
      case an1 => walk_at "EV"
      case an2 => walk_at "EV"
      case an3 => walk_at "EV"
      case an4 => walk_at "EV"
      case an5 => walk_at "EV"
      case an6 => walk_at "EV"
      obtain ⟨x1, x2, x3, x4, x5, x6, x7, rfl, z1, z2, z3, z4, z5, z6, z7⟩ := seven_of hvs
      have hszr : P - B2.live.length = sz := hsz.symm
      rw [hszr] at rf
      rw [hLa] at z4
      exact w_reads (d := 12) l ok' (ar'.mono (by omega)) z1 z2 z3 z4 (fat_ := B2.live.length + 1) (by rw [z5]; rfl) z6 z7 (Hp.put_self _ _ _) rf fun _ => rfl

end Mine
end
set_option Elab.async false
theorem PySem.Challenge.cw_ef5002_02_holds : PySem.Challenge.rw_ef5002_02.Holds := by
  exact Mine.law02
