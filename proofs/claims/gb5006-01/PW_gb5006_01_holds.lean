import PyProof.Rows.All
import Wide.All
import OpenK.AllK
import Wide.FinOn
import KE.BitLaws
import PySem.Challenge.RW_gb5006_01
set_option Elab.async false
set_option maxRecDepth 100000
set_option maxHeartbeats 8000000

section
namespace Mine
open PySem PySem.W PySem.Calls PyProof.Rows PySem.Builtin
open Sem (wp)

def exAny (self : Value) (st : List (Code × Pos)) : Bool := match Bytes.exported self with
  | .stack k => (match k st with | .pure b => b | _ => true)
  | _ => true
theorem exported_eq (self : Value) : Bytes.exported self = .stack fun st => .pure (exAny self st) := rfl
theorem exAny_nil (self : Value) : exAny self [] = false := rfl

def Harm (c : Code) : Prop := ∀ self p st, exAny self ((c, p) :: st) = exAny self st
theorem harm_func (b : List Stmt) (e : Env) : Harm (.func b e) := fun _ _ _ => rfl
theorem harm_call (f : Value) (a : Args) : Harm (.call f a) := fun _ _ _ => rfl
theorem harm_for (t : PySem.Expr) (it : Value) (b o : List Stmt) (e : Env) : Harm (.forLoop t it b o e) := fun _ _ _ => rfl

def CleanB (l : List (Code × Pos)) : Prop := ∀ self, exAny self l = false
def Clean (Γ : Ctx) : Prop := ∀ p, CleanB ((Γ.code, p) :: Γ.below)

def wpS {α : Type} (M : Model) (A : Around) (t : Sem α) (Q : α → Shared → Prop) (E : Value → Shared → Prop) (s : Shared) : Prop :=
  ∀ Γ p, Γ.In A → Clean Γ → wp M Γ t (fun a _ s' => Q a s') (fun e _ s' => E e s') p s
def codeS (M : Model) (A : Around) (c : Code) (R : Result → Shared → Prop) (s : Shared) : Prop :=
  ∀ Γ p, Γ.code = c → Γ.Below A → CleanB Γ.below → wpCode M Γ R p s

section
variable {α β : Type} {M : Model} {A : Around} {E : Value → Shared → Prop} {s : Shared} {env : Env}
theorem wpS_of {t : Sem α} {Q : α → Shared → Prop} (h : wpAny M A t Q E s) : wpS M A t Q E s := fun Γ p hΓ _ => h Γ p hΓ
theorem codeS_of {c : Code} {R : Result → Shared → Prop} (h : codeAny M A c R s) : codeS M A c R s := fun Γ p hc hΓ _ => h Γ p hc hΓ
theorem wpS_pure {a : α} {Q : α → Shared → Prop} (h : Q a s) : wpS M A (pure a) Q E s := fun _ _ _ _ => h
theorem wpS_mono {t : Sem α} {Q Q' : α → Shared → Prop} {E' : Value → Shared → Prop} (h : wpS M A t Q E s)
    (hQ : ∀ a s, Q a s → Q' a s) (hE : ∀ e s, E e s → E' e s) : wpS M A t Q' E' s :=
  fun Γ p hΓ hc => Sem.wp_mono M Γ t (fun a _ s => hQ a s) (fun e _ s => hE e s) p s (h Γ p hΓ hc)
theorem wpS_bind {m : Sem α} {f : α → Sem β} {Q : β → Shared → Prop} (h : wpS M A m (fun a s' => wpS M A (f a) Q E s') E s) :
    wpS M A (m >>= f) Q E s := fun Γ p hΓ hc => by
  rw [Sem.wp_bind']
  exact Sem.wp_mono M Γ m (fun a p' s' h' => h' Γ p' hΓ hc) (fun _ _ _ h' => h') p s (h Γ p hΓ hc)
/-- a leaf, then the rest -/
theorem wpS_lbind {m : Sem α} {f : α → Sem β} {Q : β → Shared → Prop} (h : wpAny M A m (fun a s' => wpS M A (f a) Q E s') E s) :
    wpS M A (m >>= f) Q E s := wpS_bind (wpS_of h)
theorem wpS_tryCatch {m : Sem α} {k : Value → Sem α} {Q : α → Shared → Prop} (h : wpS M A m Q (fun e s' => wpS M A (k e) Q E s') s) :
    wpS M A (tryCatch m k) Q E s := fun Γ p hΓ hc => by
  rw [Sem.wp_tryCatch']
  exact Sem.wp_mono M Γ m (fun _ _ _ h' => h') (fun e p' s' h' => h' Γ p' hΓ hc) p s (h Γ p hΓ hc)
theorem wpS_onRaise {m : Sem α} {k : Value → Sem Unit} {Q : α → Shared → Prop}
    (h : wpS M A m Q (fun e s' => wpS M A (k e) (fun _ s'' => E e s'') E s') s) : wpS M A (m.onRaise k) Q E s := fun Γ p hΓ hc => by
  rw [Sem.wp_onRaise]
  exact Sem.wp_mono M Γ m (fun _ _ _ h' => h') (fun e p' s' h' => h' Γ p' hΓ hc) p s (h Γ p hΓ hc)
theorem wpS_attempt {m : Sem α} {Q : Except Value α → Shared → Prop} (h : wpS M A m (fun a => Q (.ok a)) (fun e => Q (.error e)) s) :
    wpS M A m.attempt Q E s := fun Γ p hΓ hc => by rw [Sem.wp_attempt]; exact h Γ p hΓ hc
theorem wpS_holding {vs : List Value} {m : Sem α} {Q : α → Shared → Prop} (h : wpS M A m Q E s) : wpS M A (holding vs m) Q E s :=
  fun Γ p hΓ hc => by rw [Sem.wp_holding]; exact h Γ p hΓ hc
theorem wpS_keep {vs : List Value} {m : Sem α} {Q : α → Shared → Prop} (h : wpS M A m Q E s) : wpS M A (m.keep vs) Q E s :=
  fun Γ p hΓ hc => by rw [Sem.wp_keep]; exact h Γ p hΓ hc
theorem wpS_standAt {pos : Pos} {Q : Unit → Shared → Prop} (h : Q () s) : wpS M A (standAt pos) Q E s := wpS_of (wpAny_standAt h)
theorem wpS_exported {v : Value} {Q : Bool → Shared → Prop} (h : Q false s) : wpS M A (Bytes.exported v) Q E s := fun Γ p _ hc => by
  rw [exported_eq, Sem.wp_stack, hc p v]
  exact h

theorem wpS_run {c : Code} {h : Option Value} {Q : Flow → Shared → Prop}
    (hc : codeS M (A.mark h) c (fun r s' => match r with | .ok f => Q f s' | .error e => E e s') s) (hnb : h ≠ some byPass := by intro x; cases x) :
    wpS M A (run c h) Q E s :=
  fun Γ p hΓ hcl => by rw [Sem.wp_run]; exact hc _ p rfl (hΓ.enter c h p hnb) (hcl p)
theorem wpS_runValue {c : Code} {Q : Value → Shared → Prop}
    (hc : codeS M A c (fun r s' => match r with | .ok (.ret v) => Q v s' | .ok _ => False | .error e => E e s') s) :
    wpS M A (runValue c) Q E s := fun Γ p hΓ hcl => by rw [Sem.wp_runValue]; exact hc _ p rfl (hΓ.enter c none p (by intro x; cases x)) (hcl p)
theorem wpS_call {f : Value} {pos : List Value} {kw : List (Str × Value)} {Q : Value → Shared → Prop}
    (hc : codeS M A (.call f ⟨pos, kw⟩) (fun r s' => match r with | .ok (.ret v) => Q v s' | .ok _ => False | .error e => E e s') s) :
    wpS M A (call f pos kw) Q E s := wpS_runValue hc
theorem codeS_mono {c : Code} {R R' : Result → Shared → Prop} (h : codeS M A c R s) (hR : ∀ r s, R r s → R' r s) : codeS M A c R' s :=
  fun Γ p hc hΓ hcl => wpCode_mono hR (h Γ p hc hΓ hcl)
theorem codeS_of_tree {c : Code} {R : Result → Shared → Prop} (hh : Harm c)
    (h : wpS M (A.under c) (M.den c) (fun fin s' => match fin with | .done f => R (.ok f) s' | .again c' => c'.quiet = true ∧ codeS M A c' R s')
      (fun e s' => R (.error e) s') s) : codeS M A c R s := fun Γ p hc hΓ hcl => by
  rw [wpCode_iff_wp, hc]
  refine Sem.wp_mono M Γ _ (fun fin p' s' h' => ?_) (fun _ _ _ h' => h') p s (h Γ p (hc ▸ hΓ.in) (fun p' self => by rw [hc, hh]; exact hcl self))
  cases fin with
  | done f => exact h'
  | again c' => exact ⟨h'.1, h'.2 (Γ.goto c') p' rfl (hΓ.goto c') hcl⟩

-- statements
theorem execsS_cons {st : Stmt} {rest : List Stmt} {Q : Flow → Shared → Prop}
    (h : wpS M A (exec st env) (fun f s' => match f with | .next => wpS M A (execs rest env) Q E s' | f => Q f s') E s) :
    wpS M A (execs (st :: rest) env) Q E s := by
  rw [execs_cons]
  refine wpS_bind (wpS_mono h (fun f s' h' => ?_) fun _ _ x => x)
  cases f <;> first | exact h' | exact wpS_pure h'
theorem execsS_leaf {st : Stmt} {rest : List Stmt} {Q : Flow → Shared → Prop}
    (h : wpAny M A (exec st env) (fun f s' => match f with | .next => wpS M A (execs rest env) Q E s' | f => Q f s') E s) :
    wpS M A (execs (st :: rest) env) Q E s := execsS_cons (wpS_of h)
theorem execsS_nil {Q : Flow → Shared → Prop} (h : Q .next s) : wpS M A (execs [] env) Q E s := wpS_pure h
theorem assignS_Name {x : Str} {pos' pos : Pos} {value : PySem.Expr} {Q : Flow → Shared → Prop}
    (h : wpS M A (eval value env) (fun v s₁ => wpAny M A (storeName env x v) (fun _ => Q .next) E s₁) E s)
    (hs : swapsWith value (some (.Name x pos')) pos.line env = pure false := by rfl) :
    wpS M A (exec (.Assign [.Name x pos'] value pos) env) Q E s := by
  rw [exec_Assign_Name env x pos' value pos hs]
  refine wpS_lbind (wpAny_standAt (wpS_bind (wpS_mono h (fun v s₁ h₁ => ?_) fun _ _ x => x)))
  exact wpS_lbind (wpAny_standAt (wpS_lbind (wpAny_bindName (wpAny_mono h₁ (fun _ _ z => wpS_pure z) fun _ _ x => x))))
theorem augS_Name {x : Str} {pos' pos : Pos} {op : Operator} {value : PySem.Expr} {Q : Flow → Shared → Prop}
    (h : wpAny M A (loadName env x) (fun old s₁ => wpS M A (eval value env) (fun v s₂ => wpAny M A (inplaceOp op old v)
      (fun r s₃ => wpAny M A (storeName env x r) (fun _ => Q .next) E s₃) E s₂) E s₁) E s) :
    wpS M A (exec (.AugAssign (.Name x pos') op value pos) env) Q E s := by
  rw [exec_AugAssign_Name]
  refine wpS_lbind (wpAny_standAt (wpS_lbind (wpAny_mono h (fun old s₁ h₁ => ?_) fun _ _ x => x)))
  refine wpS_bind (wpS_holding (wpS_mono h₁ (fun v s₂ h₂ => ?_) fun _ _ x => x))
  refine wpS_lbind (wpAny_standAt (wpS_of ?_))
  have e : ∀ Γ p, Γ.In A → wp M Γ (operate [old, v] (inplaceOp op old v)) (fun r p' s' => wp M Γ (do standAt pos'; bindName env x r; pure Flow.next) (fun f _ s' => Q f s') (fun e _ s' => E e s') p' s') (fun e _ s' => E e s') p s₂ := by
    intro Γ p hΓ
    rw [Sem.wp_operate]
    refine Sem.wp_mono M Γ _ (fun r p' s' h' => ?_) (fun _ _ _ h' => h') p s₂ (h₂ Γ p hΓ)
    exact (wpAny_bind (wpAny_standAt (wpAny_bind (wpAny_bindName (wpAny_mono h' (fun _ _ z => wpAny_pure z) fun _ _ x => x))))) Γ p' hΓ
  intro Γ p hΓ
  rw [Sem.wp_bind']
  exact e Γ p hΓ
theorem exprS {e : PySem.Expr} {pos : Pos} {Q : Flow → Shared → Prop} (h : wpS M A (eval e env) (fun v s' => match v with | .ref _ => False | _ => Q .next s') E s)
    (hi : interactive env = false := by rfl) (hs : swapsWith e none pos.line env = pure false := by rfl) :
    wpS M A (exec (.Expr e pos) env) Q E s := by
  rw [exec_Expr env e pos hi hs]
  refine wpS_lbind (wpAny_standAt (wpS_bind (wpS_mono h (fun v s' h' => ?_) fun _ _ x => x)))
  have hv : ∀ a, v ≠ .ref a := fun a hva => by subst hva; exact h'
  rw [dropValue_plain hv]
  refine wpS_pure ?_
  cases v <;> first | exact h' | exact (hv _ rfl).elim
theorem ifS {test : PySem.Expr} {body orelse : List Stmt} {pos : Pos} {Q : Flow → Shared → Prop}
    (h : wpAny M A (isTrue test env (eval test env))
      (fun b s₂ => if b then wpS M A (execs body env) Q E s₂ else wpS M A (execs orelse env) Q E s₂) E s) :
    wpS M A (exec (.If test body orelse pos) env) Q E s := by
  rw [exec_If]
  refine wpS_lbind (wpAny_standAt (wpS_lbind (wpAny_mono h (fun b s₂ h₂ => ?_) fun _ _ x => x)))
  cases b <;> exact h₂
theorem returnS {e : PySem.Expr} {pos : Pos} {Q : Flow → Shared → Prop} (h : wpS M A (eval e env) (fun v => Q (.ret v)) E s) :
    wpS M A (exec (.Return (some e) pos) env) Q E s := by
  rw [exec_Return_some]
  exact wpS_lbind (wpAny_standAt (wpS_bind (wpS_mono h (fun _ _ z => wpS_pure z) fun _ _ x => x)))
theorem ifExpS {test body orelse : PySem.Expr} {pos : Pos} {Q : Value → Shared → Prop}
    (h : wpAny M A (isTrue test env (eval test env)) (fun b s₂ => if b then wpS M A (eval body env) Q E s₂ else wpS M A (eval orelse env) Q E s₂) E s) :
    wpS M A (eval (.IfExp test body orelse pos) env) Q E s := by
  show wpS M A (isTrue test env (eval test env) >>= fun b => if b then eval body env else eval orelse env) Q E s
  refine wpS_lbind (wpAny_mono h (fun b s₂ h₂ => ?_) fun _ _ x => x)
  cases b <;> exact h₂
theorem assignS_Attr {o : PySem.Expr} {attr : Str} {pos' pos : Pos} {value : PySem.Expr} {Q : Flow → Shared → Prop}
    (h : wpS M A (eval value env) (fun v s₁ => wpAny M A (eval o env) (fun ov s₂ => wpAny M A (setAttr ov attr v) (fun _ => Q .next) E s₂) E s₁) E s)
    (hs : swapsWith value (some (.Attribute o attr pos')) pos.line env = pure false := by rfl) :
    wpS M A (exec (.Assign [.Attribute o attr pos'] value pos) env) Q E s := fun Γ p hΓ hc => by
  simp only [plainObj_exec_Assign_Attribute o attr pos' value pos hs, assign_Attribute, Sem.wp_bind', Sem.wp_holding, Sem.wp_cmd_standAt, Sem.wp_release, Sem.wp_pure']
  exact Sem.wp_mono M Γ _ (fun v p₁ s₁ h₁ => Sem.wp_mono M Γ _ (fun ov _ s₂ h₂ => h₂ Γ _ hΓ) (fun _ _ _ h' => h') _ _ (h₁ Γ p₁ hΓ)) (fun _ _ _ h' => h') _ _ (h Γ _ hΓ hc)
theorem assignS_Sub {o i : PySem.Expr} {pos' pos : Pos} {value : PySem.Expr} {Q : Flow → Shared → Prop}
    (h : wpAny M A (eval value env) (fun v s₁ => wpAny M A (eval o env) (fun ov s₂ => wpAny M A (eval i env) (fun iv s₃ =>
      wpS M A (setItem ov iv v) (fun _ => Q .next) E s₃) E s₂) E s₁) E s)
    (hs : swapsWith value (some (.Subscript o i pos')) pos.line env = pure false := by rfl) :
    wpS M A (exec (.Assign [.Subscript o i pos'] value pos) env) Q E s := fun Γ p hΓ hc => by
  simp only [exec_Assign_Subscript o i pos' value pos hs, assign_Subscript, Sem.wp_bind', Sem.wp_holding, Sem.wp_cmd_standAt, Sem.wp_release, Sem.wp_pure']
  exact Sem.wp_mono M Γ _ (fun v p₁ s₁ h₁ => Sem.wp_mono M Γ _ (fun ov p₂ s₂ h₂ => Sem.wp_mono M Γ _ (fun iv _ s₃ h₃ => h₃ Γ _ hΓ hc)
    (fun _ _ _ h' => h') _ _ (h₂ Γ p₂ hΓ)) (fun _ _ _ h' => h') _ _ (h₁ Γ p₁ hΓ)) (fun _ _ _ h' => h') _ _ (h Γ _ hΓ)
theorem tryS {body orelse : List Stmt} {h₀ : ExceptHandler} {hs : List ExceptHandler} {pos : Pos} {Q : Flow → Shared → Prop}
    (h : wpS M A (execs body env) (fun f s₁ => match f with | .next => wpS M A (execs orelse env) Q E s₁ | f => Q f s₁)
      (fun e s₁ => wpAny M A (noteFrame e env) (fun _ s₂ => wpAny M A (setFlight e none) (fun _ s₃ => wpAny M A (handleBy e env (h₀ :: hs)) Q E s₃) E s₂) E s₁) s) :
    wpS M A (exec (.Try body (h₀ :: hs) orelse [] pos) env) Q E s := by
  rw [arm_exec_Try]
  refine wpS_lbind (wpAny_standAt ?_)
  unfold tryStmt
  simp only [List.isEmpty_nil, if_true, List.isEmpty_cons, Bool.false_and, Bool.false_eq_true, if_false]
  refine wpS_bind (wpS_attempt (wpS_mono h (fun f s₁ h₁ => ?_) fun e s₁ h₁ => ?_))
  · cases f <;> first | exact h₁ | exact wpS_pure h₁
  · exact wpS_of (wpAny_bind (wpAny_mono h₁ (fun _ _ h₂ => wpAny_bind h₂) fun _ _ x => x))
theorem andS2 {a b : PySem.Expr} {pos : Pos} {Q : Value → Shared → Prop}
    (h : wpAny M A (eval a env) (fun v s₁ => wpAny M A (truthy v) (fun t s₂ => if t then wpS M A (boolOp pos .And [eval b env]) Q E s₂ else Q v s₂) E s₁) E s) :
    wpS M A (boolOp pos .And [eval a env, eval b env]) Q E s := by
  show wpS M A (eval a env >>= fun v => standAt pos >>= fun _ => holding [v] (truthy v) >>= fun t => _) Q E s
  refine wpS_lbind (wpAny_mono h (fun v s₁ h₁ => wpS_lbind (wpAny_standAt (wpS_lbind (wpAny_holding (wpAny_mono h₁ (fun t s₂ h₂ => ?_) fun _ _ x => x))))) fun _ _ x => x)
  cases t
  · exact wpS_pure h₂
  · exact h₂
theorem andS {a : PySem.Expr} {x y : Sem Value} {rest : List (Sem Value)} {pos : Pos} {Q : Value → Shared → Prop}
    (h : wpAny M A x (fun v s₁ => wpAny M A (truthy v) (fun t s₂ => if t then wpS M A (boolOp pos .And (y :: rest)) Q E s₂ else Q v s₂) E s₁) E s) :
    wpS M A (boolOp pos .And (x :: y :: rest)) Q E s := by
  show wpS M A (x >>= fun v => standAt pos >>= fun _ => holding [v] (truthy v) >>= fun t => _) Q E s
  refine wpS_lbind (wpAny_mono h (fun v s₁ h₁ => wpS_lbind (wpAny_standAt (wpS_lbind (wpAny_holding (wpAny_mono h₁ (fun t s₂ h₂ => ?_) fun _ _ x => x))))) fun _ _ x => x)
  cases t
  · exact wpS_pure h₂
  · exact h₂
theorem andS_last {x : Sem Value} {pos : Pos} {Q : Value → Shared → Prop} (h : wpS M A x Q E s) : wpS M A (boolOp pos .And [x]) Q E s := h
theorem boolS {vs : List PySem.Expr} {op : BoolOp} {pos : Pos} {Q : Value → Shared → Prop} (h : wpS M A (boolOp pos op (evalEach vs env)) Q E s) : wpS M A (eval (.BoolOp op vs pos) env) Q E s := h
theorem compareS {l r : PySem.Expr} {op : CmpOp} {pos : Pos} {Q : Value → Shared → Prop}
    (h : wpS M A (eval l env) (fun a s₁ => wpAny M A (eval r env) (fun b s₂ => wpAny M A (compareOp op a b) Q E s₂) E s₁) E s)
    (hm : behindInMarks op r = false := by with_unfolding_all rfl) :
    wpS M A (eval (.Compare l [op] [r] pos) env) Q E s := fun Γ p hΓ hc => by
  simp only [eval_Compare1, markedBehindIn_of_false hm, Sem.wp_bind', Sem.wp_holding, Sem.wp_cmd_standAt, Sem.wp_operate]
  exact Sem.wp_mono M Γ _ (fun a p₁ s₁ h₁ => Sem.wp_mono M Γ _ (fun b _ s₂ h₂ => h₂ Γ _ hΓ) (fun _ _ _ h' => h') _ _ (h₁ Γ p₁ hΓ))
    (fun _ _ _ h' => h') _ _ (h Γ p hΓ hc)
end
end Mine
end

section
namespace Mine
open PySem PySem.W PySem.Calls PyProof.Rows
open Sem (wp)

theorem clean_caller : Clean ⟨.builtin "claim.caller" {}, none, none, [], none⟩ := fun _ _ => rfl

theorem endsS {prog : Program} {w : World} {t : Sem PySem.Fin} {s : Shared} {R : Result → Shared → Prop} (hreg : s.asleep)
    (h : wpS (model prog w) callerA t (fun fin s' => ∃ f, fin = .done f ∧ (R (.ok f) s' ∧ leftWithCleanup s'.gens = false)) (fun e s' => R (.error e) s' ∧ leftWithCleanup s'.gens = false) s) :
    ∃ n r s' s'', runN (denote table) prog w n s ⟨t, .builtin "claim.caller" {}, default, []⟩ = .halted (outcomeOf r) s' ∧
      schedN (denote table) prog w n (.single s ⟨t, .builtin "claim.caller" {}, default, []⟩) = .halted (outcomeOf r) s' ∧ s'.forget = s''.forget ∧ R r s'' := by
  have h1 : wp (model prog w) ⟨.builtin "claim.caller" {}, none, none, [], none⟩ t (Sem.finPost (model prog w) ⟨.builtin "claim.caller" {}, none, none, [], none⟩ fun r s' => R r s' ∧ leftWithCleanup s'.gens = false)
      (fun e _ s' => R (.error e) s' ∧ leftWithCleanup s'.gens = false) default s := by
    refine Sem.wp_mono _ _ t (fun fin p' s' h' => ?_) (fun _ _ _ h' => h') _ _ (h _ default caller_in clean_caller)
    obtain ⟨f, rfl, hf⟩ := h'
    exact hf
  obtain ⟨n, r, s₁, s₂, hs, hn, hfo, hR⟩ := wp_halts_full (M := model prog w) (R := R) hreg h1
  exact ⟨n, r, s₂, s₁, hn, hs, hfo, hR⟩

theorem callFromS {c : ClaimW} {tree : List Value → Sem PySem.Fin} {w : World} {s : Shared} {free : Addr → Prop} {gens : Prop} {kept : Heap → Prop} (hz : s.asleep) (hgens : s.gens = #[])
    (hspec : ∀ args, c.pre args = true → WData.layableAll args = true → ∀ ord : List DictEntry → List DictEntry, (∀ l, (ord l).Perm l) →
      ∃ vs s₁, layAllW c.records (classAt s.heap) w.params ord args s = some (vs, s₁) ∧
        wpS (model c.prog w) callerA (tree vs) (fun fin s' => ∃ f, fin = .done f ∧ (c.Ends s args vs s₁ (.ok f) s' ∧ s'.os = s.os ∧ AllBare s'.gens ∧ kept s'.heap))
          (fun e s' => c.Ends s args vs s₁ (.error e) s' ∧ s'.os = s.os ∧ AllBare s'.gens ∧ kept s'.heap) s₁) :
    c.CallFrom (fun vs => ⟨tree vs, .builtin "claim.caller" {}, default, []⟩) w free gens kept s := by
  intro args hpre hlay ord hord
  obtain ⟨vs, s₁, hlaid, hcode⟩ := hspec args hpre hlay ord hord
  have hal := layAllW_rest _ _ _ hlaid
  have hcode' := wpS_mono (Q' := fun fin s' => ∃ f, fin = .done f ∧ ((c.Ends s args vs s₁ (.ok f) s' ∧ s'.os = s.os ∧ kept s'.heap) ∧ leftWithCleanup s'.gens = false))
    (E' := fun e s' => (c.Ends s args vs s₁ (.error e) s' ∧ s'.os = s.os ∧ kept s'.heap) ∧ leftWithCleanup s'.gens = false) hcode
    (fun fin s' ⟨f, e, h1, h2, h3, h4⟩ => ⟨f, e, ⟨h1, h2, h4⟩, leftWithCleanup_false_of_bare h3⟩) (fun e s' ⟨h1, h2, h3, h4⟩ => ⟨⟨h1, h2, h4⟩, leftWithCleanup_false_of_bare h3⟩)
  obtain ⟨k, r, s', s'', hrun, hsched, hfo, hcase, hos, hkp⟩ := endsS (prog := c.prog) (w := w) (t := tree vs) (s := s₁) (R := fun r s' => c.Ends s args vs s₁ r s' ∧ s'.os = s.os ∧ kept s'.heap)
    (Shared.asleep_of_life hal.2.2.2 hz) hcode'
  obtain ⟨eh, _, _, eo, _⟩ := Shared.forget_eq hfo
  have hcase := hcase.congr eh
  rw [← eh] at hkp
  rw [← eo] at hos
  have hlife : s'.heap.life = s.heap.life := (runN_life _ _ _ hrun).trans hal.2.2.2
  refine ⟨vs, s₁, hlaid, k, _, s', hsched, ?_, (fun _ i x hx => by rw [hgens] at hx; simp at hx), hkp, by rw [hlife], Shared.rest_eq hos⟩
  rcases hcase with ⟨v, rfl, d1, d2, d3, d4, d5⟩ | ⟨e, ob, cls, rfl, d1, d2, d3, d4, d5⟩
  · exact .inl ⟨v, rfl, d1, d2, d3, fun b o y _ => d4 b o y, d5⟩
  · exact .inr ⟨e, ob, cls, rfl, d1, d2, d3, d4, fun b o y _ => d5 b o y⟩

/-- what is to be walked, of the clean stacks alone -/
abbrev WalkS (q : Program) (loose : List Str) (XP : (Str → Option Value) → Heap → Prop) (YP : World → Heap → Prop) (r : RowW) (d : DefRec) (kwd : List (Str × PySem.Expr)) : Prop :=
  ∀ (w : World) (s₀ s₁ : Shared) (mg mb : Str → Option Value), Ground q loose r.records XP w s₀ mg mb s₁.heap → YP w s₁.heap → ∀ (a : Addr) (o : Obj) (pm cd doc dV kV : Value), s₁.heap.get? a = some o →
    o.data = .func { docDef d.name d.params d.body d.scope pm cd doc with defaults := dV, kwdefaults := kV } → s₁.heap.CodeRec cd d.name → Dflts mg s₁.heap d.params kwd dV kV → mg d.name = some (.ref a) → s₁.gens = #[] →
    ∀ (args : List WData) (vals : List Value) (as : List Addr), r.claim.pre args = true → WData.layableAll args = true → ReadsAllW r.records (classAt s₀.heap) s₁.heap vals args as → WellAll w.params s₁.heap vals args → (∀ a ∈ as, (a == sysModules) = false) →
      wpS (model r.prog w) callerA (call (.ref a) vals) (fun v s' => GoodWG r.claim (classAt s₀.heap) (ExcName.means s₀.heap) args s₁ (.ok (.ret v)) s')
        (fun e s' => GoodWG r.claim (classAt s₀.heap) (ExcName.means s₀.heap) args s₁ (.error e) s') s₁

end Mine
namespace MineH
open PySem PySem.W PySem.Calls PyProof.Rows Mine
/-- the head of an open row in this logic: of the same name and the same arguments as the library's own, so that its tactic finds it from within this namespace -/
theorem PySem.W.holds_open {r : OpenRow} {q : Program} {loose : List Str} {Xt : Shared → Bool} {XP : (Str → Option Value) → Heap → Prop} {α : Type} {Yf : Shared → α} {Ya : World → α} {YP : World → Heap → Prop} {d : DefRec} {kwd : List (Str × PySem.Expr)} {N : Nat}
    (left : LeftO r.prog q loose Xt Yf Ya N) (hY : ∀ w s, Yf s = Ya w → YP w s.heap) (hYk : ∀ w h h', YP w h → (∀ b o, h.get? b = some o → h'.get? b = some o) → YP w h')
    (hX : ∀ s, Xt s = true → XP (s.heap.nsMap mainGlobals) s.heap) (hXk : ∀ mg h h', XP mg h → (∀ b o, h.get? b = some o → h'.get? b = some o) → XP mg h')
    (hdef : defOf q r.name = some (d, kwd)) (hp : r.prog.theDef r.name = some (d.params, d.body, d.scope)) (hk : kwWritten? d.params.kwonlyargs d.params.kw_defaults = some kwd) (hRf : ∀ s, Xt s = true → RecFacts r.records s.heap) (hwr : (!r.writes || r.records.isEmpty) = true)
    (k1 : r.wellSaid = true) (ok : (chainsOk q && opensWell r.prog && (frees r.toRowW && r.within.isEmpty)) = true) (hb : r.prog.bare) (hw : r.toRowW.promised)
    (walk : WalkS q loose XP YP r.toRowW d kwd) : r.Holds := by
  refine ⟨k1, hw, ?_⟩
  obtain ⟨ok, k5⟩ := Bool.and_eq_true_iff.mp ok
  obtain ⟨hch, o1⟩ := Bool.and_eq_true_iff.mp ok
  obtain ⟨k5, k6⟩ := Bool.and_eq_true_iff.mp k5
  obtain ⟨hsame, hu, ha, hap, hm⟩ := frees_parts k5
  refine ⟨⟨hb, o1, by show r.toRowW.makers.map _ = []; rw [hm]; rfl⟩, hw.witness, fun w => ⟨(left.behind hX hch w).1, fun s' hs' => ?_⟩⟩
  obtain ⟨s₀, hf, hg0, s, hT, hz, hgens, hg, G00, y⟩ := (left.behind (XP := fun mg h => XP mg h ∧ RecFacts r.toRowW.records h) (fun s hs => ⟨hX s hs, hRf s hs⟩) hch w).2 s' hs'
  have G0 : Ground q loose [] XP w s (s.heap.nsMap mainGlobals) (s.heap.nsMap builtinsNs) s.heap := ⟨G00.T, G00.B, G00.D, G00.TE, G00.TD, G00.W, G00.X.1, G00.cls, G00.has, G00.apart, G00.once, G00.K⟩
  have RF := G00.X.2
  have hT' := hT
  refine ⟨s₀, hf, hg0, s, hT, fun n hn => ?_, RF.1, RF.2.1, ?_⟩
  · obtain rfl : n = r.name := by split at hn <;> simp_all
    exact pinned_of_view hg G0 hdef hp hk
  have hgens : s.gens = #[] := Array.eq_empty_of_size_eq_zero (beq_iff_eq.mp hgens)
  have G : Ground q loose r.toRowW.records XP w s _ _ s.heap := RF.ground G0
  refine callFromS (c := r.toRowW.claim) (tree := fun vs => do match ← nsGet mainNs r.name with
      | some f => do ret (← PySem.call f vs)
      | none => unsupported "claim.caller:no-such-global") hz hgens fun args hpre hlay ord hord => ?_
  obtain ⟨⟨vs, s₁⟩, hlaid⟩ := Option.isSome_iff_exists.mp (layAllW_isSome (P := w.params) (ord := ord) G.has args r.args s (pre_splitW hpre).1)
  have keeps := layAllW_keeps _ _ _ hlaid
  have hal := layAllW_rest _ _ _ hlaid
  obtain ⟨as, hrd, hin, hold⟩ := reads_layAllW hord _ _ _ hlaid hlay s₁.heap (fun _ _ e => e)
  have L : Laid r.toRowW.records w s s₁ args vs as := ⟨⟨ord, hord, hlaid⟩, hrd, hin, hold, keeps, hal.1.trans hgens, hal.2.2.1⟩
  have G₁ := G.keeps hXk keeps
  obtain ⟨a, o, pm, cd, doc, dV, kV, h1, h2, h3, h4, h5⟩ := G₁.fn hdef
  have h := walk w s s₁ _ _ G₁ (hYk _ _ _ (hY w s y) keeps) a o pm cd doc dV kV h2 h3 h4 h5 (defOf_name hdef ▸ h1) L.gens args vs as hpre hlay L.reads L.well (L.low G.low)
  have hi := ident_freeW hu ha hap
  have hwi : r.toRowW.claim.within = [] := List.isEmpty_iff.mp k6
  refine ⟨vs, s₁, hlaid, wpS_lbind (wpAny_nsGet G₁.T.g ?_)⟩
  rw [h1]
  refine wpS_bind (wpS_mono h (fun v s' g => wpS_pure ⟨_, rfl, ?_⟩) fun e s' g => ?_)
  · have z := g.laid (c := r.toRowW.claim) hsame hwi hi L
    exact ⟨z.1, z.2.1, z.2.2, fun q => ⟨namesKept_of hT' hg _ keeps g.2.1.old, noTable hwr q⟩⟩
  · have z := g.laid (c := r.toRowW.claim) hsame hwi hi L
    exact ⟨z.1, z.2.1, z.2.2, fun q => ⟨namesKept_of hT' hg _ keeps g.2.1.old, noTable hwr q⟩⟩
end MineH
end

section
open PySem PySem.W PyProof.Rows
namespace MineH
theorem two {r : OpenRow} (_hw : r.toRowW.promised) (hc : r.Holds) : r.Holds := hc
section
local macro_rules | `(tactic| o_head $_) => `(tactic| refine MineH.two ?hw ?hc)
open_top hd for PySem.Challenge.rw_gb5006_01
end
end MineH
end

theorem MineH.top_off : True := by
  w_top off
  trivial

section
namespace Mine
open PySem PySem.W PySem.Calls PyProof.Rows PySem.Builtin
open Sem (wp)

section
variable {M : Model} {A : Around} {E : Value → Shared → Prop} {s : Shared} {env : Env} {pos : Pos} {f : Value} {first : List Value} {Q : Value → Shared → Prop} {name : Str}

-- arguments
theorem splicedS_nil {Q : List Value → Shared → Prop} (h : Q [] s) : wpS M A (spliced []) Q E s := wpS_pure h
theorem splicedS_cons {x : Sem Value} {rest : List (Bool × Sem Value)} {Q : List Value → Shared → Prop}
    (h : wpS M A x (fun v s₁ => wpS M A (spliced rest) (fun vs s₂ => Q (v :: vs) s₂) E s₁) E s) : wpS M A (spliced ((false, x) :: rest)) Q E s := by
  rw [spliced]
  refine wpS_bind (wpS_mono h (fun v s₁ h₁ => ?_) fun _ _ x => x)
  show wpS M A (pure [v] >>= fun here => holding here (spliced rest) >>= fun r => pure (here ++ r)) Q E s₁
  exact wpS_lbind (wpAny_pure (wpS_bind (wpS_holding (wpS_mono h₁ (fun vs s₂ h₂ => wpS_pure h₂) fun _ _ x => x))))
theorem evalArgsS_plain {x : Sem Value} {rest : List (Bool × Sem Value)} {Q : Args → Shared → Prop}
    (h : wpS M A (spliced ((false, x) :: rest)) (fun vs s' => Q ⟨vs, []⟩ s') E s) : wpS M A (evalArgs f true ((false, x) :: rest) []) Q E s := by
  unfold evalArgs
  show wpS M A (spliced ((false, x) :: rest) >>= _) Q E s
  refine wpS_bind (wpS_mono h (fun vs s' h' => ?_) fun _ _ x => x)
  refine wpS_holding ?_
  exact wpS_lbind (wpAny_pure (wpS_lbind (wpAny_pure (wpS_pure h'))))

theorem wpS_operating {vs : List Value} {m : Sem Value} (h : wpS M A m Q E s) : wpS M A (operate vs m) Q E s := fun Γ p hΓ hc => by
  rw [Sem.wp_operate]; exact h Γ p hΓ hc

theorem callWithS_of {P : Heap → Prop} {args : List (Bool × Sem Value)} {keywords : List (Option Str × Sem Value)} (hplain : (args.any (·.1) || keywords.any (·.1.isNone)) = false)
    (hk : ∀ h, P h → ∃ k, (k = Keeper.frame ∨ k = Keeper.machine ∨ k = Keeper.boundFrame) ∧ Looks M h (keeperOf f) k)
    (h : wpS M A (evalArgs f true args keywords) (fun a s₁ => P s₁.heap ∧ wpS M A (call f (first ++ a.pos) a.kw) Q E s₁) E s) : wpS M A (callWith pos f first args keywords) Q E s := by
  unfold callWith
  refine wpS_bind (wpS_holding (wpS_mono h (fun a s₁ h₁ => wpS_lbind (wpAny_standAt ?_)) fun _ _ x => x))
  obtain ⟨k, hk', L⟩ := hk _ h₁.1
  simp only [hplain]
  refine wpS_lbind (L.here ?_)
  have tail : ∀ {t : Sem Value}, wpS M A t Q E s₁ → wpS M A (t >>= fun r => holding [r] point >>= fun _ => pure r) Q E s₁ :=
    fun ht => wpS_bind (wpS_mono ht (fun r s₂ hr => wpS_lbind (wpAny_holding (wpAny_point (wpS_pure hr)))) fun _ _ x => x)
  have marked (mk : Value) : wpS M A (callMarked mk f (first ++ a.pos) a.kw) Q E s₁ := by unfold callMarked; exact wpS_keep h₁.2
  rcases hk' with rfl | rfl | rfl <;> dsimp only <;> first | exact tail h₁.2 | (split <;> first | exact tail h₁.2 | exact tail (marked _))
theorem callWithS_star {P : Heap → Prop} {args : List (Bool × Sem Value)} {keywords : List (Option Str × Sem Value)} (hst : (args.any (·.1) || keywords.any (·.1.isNone)) = true)
    (hk : ∀ h, P h → ∃ k, (k = Keeper.frame ∨ k = Keeper.machine ∨ k = Keeper.boundFrame) ∧ Looks M h (keeperOf f) k)
    (h : wpS M A (evalArgs f true args keywords) (fun a s₁ => P s₁.heap ∧ wpS M A (call f (first ++ a.pos) a.kw) Q E s₁) E s) : wpS M A (callWith pos f first args keywords) Q E s := by
  unfold callWith
  refine wpS_bind (wpS_holding (wpS_mono h (fun a s₁ h₁ => wpS_lbind (wpAny_standAt ?_)) fun _ _ x => x))
  obtain ⟨k, hk', L⟩ := hk _ h₁.1
  simp only [hst]
  refine wpS_lbind (L.here ?_)
  have tail : ∀ {t : Sem Value}, wpS M A t Q E s₁ → wpS M A (t >>= fun r => holding [r] point >>= fun _ => pure r) Q E s₁ :=
    fun ht => wpS_bind (wpS_mono ht (fun r s₂ hr => wpS_lbind (wpAny_holding (wpAny_point (wpS_pure hr)))) fun _ _ x => x)
  have marked (mk : Value) : wpS M A (callMarked mk f (first ++ a.pos) a.kw) Q E s₁ := by unfold callMarked; exact wpS_keep h₁.2
  rcases hk' with rfl | rfl | rfl <;> dsimp only <;> first | exact tail (marked _) | exact tail (wpS_operating h₁.2)

section
variable {K : Frag} {h₀ : Heap} {e : PySem.Expr} {rest : List PySem.Expr}
/-- a call whose arguments are leaves -/
theorem callWithS_K (hk : keepIn K f = true) (h : wpAny M A (spliced (backTo pos (starEach (e :: rest) env))) (fun vs s₁ => K.In s₁.heap ∧ wpS M A (call f (first ++ vs)) Q E s₁) E s)
    (he : starEach (e :: rest) env = (false, eval e env) :: starEach rest env := by rfl) (hplain : (backTo pos (starEach rest env)).any (·.1) = false := by rfl) :
    wpS M A (callWith pos f first (backTo pos (starEach (e :: rest) env)) []) Q E s := by
  rw [he] at h ⊢
  exact callWithS_of (by show ((false || (backTo pos (starEach rest env)).any (·.1)) || false) = false; rw [hplain]; rfl) (keeps_K hk) (wpS_of (evalArgs_plain h))
theorem callWithS_K0 (X : K.In s.heap) (hk : keepIn K f = true) (h : wpS M A (call f (first ++ [])) Q E s) : wpS M A (callWith pos f first (backTo pos (starEach [] env)) []) Q E s :=
  callWithS_of rfl (keeps_K hk) (wpS_of (evalArgs_nil3 ⟨X, h⟩))
/-- a call of one argument that is itself of this logic -/
theorem callWithS_1 (hk : keepIn K f = true) (h : wpS M A (eval e env) (fun v s₁ => K.In s₁.heap ∧ wpS M A (call f (first ++ [v])) Q E s₁) E s)
    (he : starEach [e] env = [(false, eval e env)] := by rfl) :
    wpS M A (callWith pos f first (backTo pos (starEach [e] env)) []) Q E s := by
  rw [he]
  exact callWithS_of rfl (keeps_K hk) (evalArgsS_plain (splicedS_cons (wpS_mono h (fun v s₁ h₁ => splicedS_nil h₁) fun _ _ x => x)))
end

/-- o.name(args): the object and its method are leaves -/
theorem methodS {o : PySem.Expr} {apos : Pos} {args : List PySem.Expr} {kws : List Keyword} {pl : Sem Bool}
    (h : wpAny M A (eval o env) (fun ov s₁ => wpAny M A (getMethod ov name pl) (fun fx s₂ => wpS M A (callWith pos fx.1 fx.2 (backTo pos (starEach args env)) (backToKw pos (keywordEach kws env))) Q E s₂) E s₁) E s)
    (he : eval (.Call (.Attribute o name apos) args kws pos) env = (do
      let ov ← eval o env
      standAt apos.atName
      let (f, first) ← holding [ov] (getMethod ov name pl)
      callWith pos f first (backTo pos (starEach args env)) (backToKw pos (keywordEach kws env))) := by rfl) :
    wpS M A (eval (.Call (.Attribute o name apos) args kws pos) env) Q E s := by
  rw [he]
  refine wpS_lbind (wpAny_mono h (fun ov s₁ h₁ => wpS_lbind (wpAny_standAt (wpS_lbind (wpAny_holding (wpAny_mono h₁ (fun fx s₂ h₂ => ?_) fun _ _ x => x))))) fun _ _ x => x)
  exact h₂
/-- name(args): the callee is a leaf -/
theorem callNameS {x : Str} {p : Pos} {args : List PySem.Expr} {kws : List Keyword}
    (h : wpAny M A (eval (.Name x p) env) (fun fv s₁ => wpS M A (callWith pos fv [] (backTo pos (starEach args env)) (backToKw pos (keywordEach kws env))) Q E s₁) E s) :
    wpS M A (eval (.Call (.Name x p) args kws pos) env) Q E s := by
  show wpS M A (eval (.Name x p) env >>= fun fv => callWith pos fv [] (backTo pos (starEach args env)) (backToKw pos (keywordEach kws env))) Q E s
  exact wpS_lbind h
end

def KeepR (g : Heap) (R : Result → Shared → Prop) (r : Result) (s' : Shared) : Prop := match r with
  | .ok (.ret v) => (∀ b o, g.get? b = some o → s'.heap.get? b = some o) → R (.ok (.ret v)) s'
  | r => R r s'
/-- what a callee's base heap holds: all of the heap at the call but the ledger -/
structure GK (h : Heap) (news : List (Addr × Obj)) (g : Heap) : Prop where
  keep : ∀ b o, b ∉ news.map (·.1) → h.get? b = some o → g.get? b = some o
  none : ∀ b, g.get? b = none → b ∈ news.map (·.1) ∨ h.get? b = none

theorem gk_hide {h : Heap} {news : List (Addr × Obj)} : GK h news (hideAll h (news.map (·.1))) where
  keep := fun b o nb e => hideAll_get _ e nb
  none := fun b e => by
    by_cases hb : b ∈ news.map (·.1)
    · exact .inl hb
    · refine .inr ?_
      cases q : h.get? b with
      | none => rfl
      | some o => rw [hideAll_get _ q hb] at e; cases e

section
variable {prog : Program} {w : World} {A₀ A : Around} {s : Shared} {base h₀ : Heap} {outer : List Env} {L : Addr} {m mg mb : Str → Option Value} {env : Env} {news : List (Addr × Obj)} {K : Frag} {p : Program} {loose : List Str} {mean : ExcName → Option Value}
  {R : Result → Shared → Prop} {name qual : Str} {params : Arguments} {body : List Stmt} {scope : Scope} {dV kV doc pm cdv ct oc : Value} {an od : Option Addr} {osl : Array (Option Value)} {f : Addr} {args : Args} {binds : List (Str × Value)} {cl : List (Str × Addr)}

theorem codeS_func {body : List Stmt} {env : Env}
    (h : wpS (model prog w) (A.deeper env) (execs body env) (fun f s' => R (.ok (.ret (match f with | .ret v => v | _ => .none))) s')
      (fun e s' => wpAny (model prog w) (A.deeper env) (leaving env e) (fun _ s'' => R (.error e) s'') (fun e' s'' => R (.error e') s'') s') s) :
    codeS (model prog w) A (.func body env) R s := by
  refine codeS_of_tree (harm_func _ _) ?_
  show wpS _ (A.deeper env) (do point; match ← (execs body env).onRaise (leaving env) with | .ret v => ret v | _ => ret .none) _ _ s
  refine wpS_lbind (wpAny_point (wpS_bind (wpS_onRaise (wpS_mono h (fun f s' h' => ?_) fun _ _ h' => wpS_of h'))))
  cases f <;> exact wpS_pure h'
theorem codeS_call_function {a : Addr} {args : Args} {o : Obj} {fd : FuncData} {body : List Stmt} (hroom : A.depth < recursionLimit)
    (ho : s.heap.get? a = some o)
    (hd' : o.data = .func fd) (hco : fd.scope.isCoroutine = false) (hgen : fd.scope.isGenerator = false) (hbody : fd.body = .stmts body) (hcd : s.heap.CodeRec fd.code fd.qualname)
    (h : wpAny (model prog w) A.in1 (bindArgs fd args) (fun binds s₁ =>
      wpAny (model prog w) A.in1 (newFunctionEnv fd.scope fd.globals fd.closure binds (fd.qualname ++ ".<locals>.") (some a) fd.code none fd.builtins)
        (fun env s₂ => s₂.heap.NoLimit ∧ codeS (model prog w) A (.func body env) R s₂) (fun e s' => R (.error e) s') s₁) (fun e s' => R (.error e) s') s) :
    codeS (model prog w) A (.call (.ref a) args) R s := by
  refine codeS_of_tree (harm_call _ _) ?_
  show wpS _ A.in1 (callAny (.ref a) args) _ _ s
  simp only [callAny]
  refine wpS_lbind (wpAny_load ho ?_)
  obtain ⟨c, oc, vs, tq, hc, hoc, hdc, hq⟩ := hcd
  simp only [hd', callFunction, hco, hgen, hbody, hc]
  rw [hc] at h
  refine wpS_lbind (m := field (.ref c) 1) (wpAny_field hoc hdc hq (wpS_lbind (wpAny_pure ?_)))
  exact wpS_lbind (wpAny_mono h (fun binds s₁ h₁ => wpS_lbind (wpAny_mono h₁ (fun env s₂ h₂ => wpS_lbind (wpAny_enterFrame h₂.1 hroom
    (wpS_pure (And.intro rfl h₂.2)))) fun _ _ h' => h')) fun _ _ h' => h')

theorem frameS {E : Value → Shared → Prop} (B : Below A₀ base outer h₀) (F : Fr h₀ L s.heap m) (N : News h₀ L s.heap news) (hlim : h₀.NoLimit) (hA : A.frames = some (env :: outer)) (hf : env.frame = some L) (hke : env.scope.kind = .function)
    (hloc : ∀ y ∈ binds, scope.names.lookup y.1 = some .local)
    (h : ∀ g L' h₁, GK s.heap news g → Fr h₀ L g m → Fr g L' h₁ (fun y => binds.reverse.lookup y) → News g L' h₁ news → Below A base (env :: outer) g → h₀.StaysIn g →
      wpS (model prog w) (A.deeper (envX qual scope L' f cdv cl)) (execs body (envX qual scope L' f cdv cl))
        (fun fl s' => LeaveK h₀ L m g (KeepR g R) (match fl with | .ret v => v | _ => .none) s')
        (fun e s' => wpAny (model prog w) (A.deeper (envX qual scope L' f cdv cl)) (leaving (envX qual scope L' f cdv cl) e) (fun _ s'' => R (.error e) s'') (fun e' s'' => R (.error e') s'') s')
        { s with heap := h₁, toks := s.toks + binds.length })
    (hcell : ∀ x ∈ scope.names, x.2 ≠ .cell) (hk : scope.kind = .function) :
    wpAny (model prog w) A.in1 (newFunctionEnv scope mainGlobals cl binds (qual ++ ".<locals>.") (some f) cdv none builtinsNs) (fun env' s₂ => s₂.heap.NoLimit ∧ codeS (model prog w) A (.func body env') R s₂) E s := by
  obtain ⟨FG, BG, st, _⟩ := groundX (R := R) B F N hA hf hke
  have lv := fun R' => (groundX (R := R') B F N hA hf hke).2.2.2
  refine wpAny_newFunctionEnv hcell hloc (fun h₁ hns hsb => ⟨(hlim.keeps F.keep).fresh _ hsb, codeS_func ?_⟩) hk
  have hk₁ : ∀ b o, s.heap.get? b = some o → h₁.get? b = some o := fun b o e => hsb.extBut b o (Nat.ne_of_lt (Heap.lt_size e)) (Heap.get?_push_of_some _ e)
  show wpS (model prog w) (A.deeper (envX qual scope s.heap.objs.size f cdv cl)) (execs body (envX qual scope s.heap.objs.size f cdv cl)) _ _ _
  refine wpS_mono (h _ s.heap.objs.size h₁ gk_hide FG ⟨hns, fun b o e => hk₁ b o (of_hideAll _ e), Nat.le_of_eq (hideAll_size _ _)⟩
    (fun p hp => ⟨hk₁ _ _ (N p hp).1, Nat.ne_of_lt (Heap.lt_size (N p hp).1), hideAll_none _ (List.mem_map_of_mem hp)⟩) BG st) (fun fl s' hl => ?_) fun _ _ y => y
  have z := lv (KeepR _ R) _ _ hl
  obtain ⟨L', m', news', F', N', k⟩ := hl
  exact z F'.keep

theorem code_defS (B : Below A₀ base outer h₀) (F : Fr h₀ L s.heap m) (X₀ : K.In h₀) (N : News h₀ L s.heap news) (T : Top p loose mean mg mb h₀) (hA : A.frames = some (env :: outer)) (hf : env.frame = some L) (hke : env.scope.kind = .function)
    (ho : K.lookup f = some ⟨oc, od, .func (fnOf name qual params body scope dV kV doc pm an cdv ct), osl⟩) (hcd : codeIn K cdv qual = true) (hroom : A.depth < recursionLimit)
    (hbind : BindsTo s (fnOf name qual params body scope dV kV doc pm an cdv ct) args binds) (hloc : ∀ y ∈ binds, scope.names.lookup y.1 = some .local)
    (h : ∀ g L' h₁, GK s.heap news g → Fr h₀ L g m → Fr g L' h₁ (fun y => binds.reverse.lookup y) → News g L' h₁ news → Below A base (env :: outer) g → K.In g → Top p loose mean mg mb g →
      wpS (model prog w) (A.deeper (envOf qual scope L' f cdv)) (execs body (envOf qual scope L' f cdv))
        (fun fl s' => LeaveK h₀ L m g (KeepR g R) (match fl with | .ret v => v | _ => .none) s')
        (fun e s' => wpAny (model prog w) (A.deeper (envOf qual scope L' f cdv)) (leaving (envOf qual scope L' f cdv) e) (fun _ s'' => R (.error e) s'') (fun e' s'' => R (.error e') s'') s')
        { s with heap := h₁, toks := s.toks + binds.length })
    (hco : scope.isCoroutine = false) (hgen : scope.isGenerator = false) (hk : scope.kind = .function)
    (hcell : ∀ x ∈ scope.names, x.2 ≠ .cell) : codeS (model prog w) A (.call (.ref f) args) R s :=
  codeS_call_function (fd := fnOf name qual params body scope dV kV doc pm an cdv ct) (body := body) hroom ((X₀.keeps F.keep) _ _ ho) rfl hco hgen rfl (codeRec_of (X₀.keeps F.keep) hcd)
    (hbind _ _ _ _ (frameS (cl := []) B F N T.nolimit hA hf hke hloc (fun g L' h₁ G FG FL NG BG st => h g L' h₁ G FG FL NG BG (X₀.keeps st) (T.keeps st)) hcell hk))

/-- the same for the library's own logic, with what the callee keeps -/
theorem code_defA (B : Below A₀ base outer h₀) (F : Fr h₀ L s.heap m) (X₀ : K.In h₀) (N : News h₀ L s.heap news) (T : Top p loose mean mg mb h₀) (hA : A.frames = some (env :: outer)) (hf : env.frame = some L) (hke : env.scope.kind = .function)
    (ho : K.lookup f = some ⟨oc, od, .func (fnOf name qual params body scope dV kV doc pm an cdv ct), osl⟩) (hcd : codeIn K cdv qual = true) (hroom : A.depth < recursionLimit)
    (hbind : BindsTo s (fnOf name qual params body scope dV kV doc pm an cdv ct) args binds) (hloc : ∀ y ∈ binds, scope.names.lookup y.1 = some .local)
    (h : ∀ g L' h₁, GK s.heap news g → Fr h₀ L g m → Fr g L' h₁ (fun y => binds.reverse.lookup y) → News g L' h₁ news → Below A base (env :: outer) g → K.In g → Top p loose mean mg mb g →
      wpAny (model prog w) (A.deeper (envOf qual scope L' f cdv)) (execs body (envOf qual scope L' f cdv))
        (fun fl s' => LeaveK h₀ L m g (KeepR g R) (match fl with | .ret v => v | _ => .none) s')
        (fun e s' => wpAny (model prog w) (A.deeper (envOf qual scope L' f cdv)) (leaving (envOf qual scope L' f cdv) e) (fun _ s'' => R (.error e) s'') (fun e' s'' => R (.error e') s'') s')
        { s with heap := h₁, toks := s.toks + binds.length })
    (hco : scope.isCoroutine = false) (hgen : scope.isGenerator = false) (hk : scope.kind = .function)
    (hcell : ∀ x ∈ scope.names, x.2 ≠ .cell) : codeAny (model prog w) A (.call (.ref f) args) R s := by
  obtain ⟨FG, BG, st, _⟩ := groundX (R := R) B F N hA hf hke
  have lv := fun R' => (groundX (R := R') B F N hA hf hke).2.2.2
  refine codeAny_call_def (fd := fnOf name qual params body scope dV kV doc pm an cdv ct) (body := body) (binds := binds) hroom ((X₀.keeps F.keep) _ _ ho) rfl (T.nolimit.keeps F.keep) (codeRec_of (X₀.keeps F.keep) hcd) rfl hbind hcell hloc (fun h₁ hns hk₁ => ?_) hco hgen hk
  refine wpAny_mono (h _ s.heap.objs.size h₁ gk_hide FG ⟨hns, fun b o e => hk₁ b o (of_hideAll _ e), Nat.le_of_eq (hideAll_size _ _)⟩
    (fun p hp => ⟨hk₁ _ _ (N p hp).1, Nat.ne_of_lt (Heap.lt_size (N p hp).1), hideAll_none _ (List.mem_map_of_mem hp)⟩) BG (X₀.keeps st) (T.keeps st)) (fun fl s' hl => ?_) fun _ _ y => y
  have z := lv (KeepR _ R) _ _ hl
  obtain ⟨L', m', news', F', N', k⟩ := hl
  exact z F'.keep
end
end Mine
end

section
namespace Mine
open PySem PySem.W PySem.Calls PyProof.Rows PySem.Builtin
open Sem (wp)

theorem gk_back {h h'' g : Heap} {C D : Addr} {o₁ o₂ : Obj} {news : List (Addr × Obj)} (G : GK h'' ((D, o₁) :: (C, o₂) :: news) g) (hk : ∀ b o, h.get? b = some o → h''.get? b = some o) (hC : h.get? C = none) (hD : h.get? D = none) : GK h news g where
  keep := fun b o nb e => G.keep b o (by
    simp only [List.map_cons, List.mem_cons, not_or]
    refine ⟨?_, ?_, nb⟩
    · rintro rfl; rw [hD] at e; cases e
    · rintro rfl; rw [hC] at e; cases e) (hk b o e)
  none := fun b e => by
    have back : h''.get? b = Option.none → h.get? b = Option.none := fun z => by
      cases q : h.get? b with
      | none => rfl
      | some o => rw [hk _ _ q] at z; cases z
    rcases G.none b e with q | q
    · simp only [List.map_cons, List.mem_cons] at q
      rcases q with rfl | rfl | q
      · exact .inr hD
      · exact .inr hC
      · exact .inl q
    · exact .inr (back q)

theorem gk_fresh {h h' g : Heap} {L' x : Addr} {o : Obj} {news news' : List (Addr × Obj)} (G : GK h news g) (N : News g L' h' news') (hm : (x, o) ∈ news') (hx : x ∉ news.map (·.1)) : h.get? x = none :=
  (G.none x (N _ hm).2.2).resolve_left hx

section
variable {prog : Program} {w : World} {A₀ A : Around} {s : Shared} {base h₀ : Heap} {outer : List Env} {L : Addr} {m mg mb : Str → Option Value} {env : Env} {news : List (Addr × Obj)} {K : Frag} {p : Program} {loose : List Str} {mean : ExcName → Option Value}
  {R : Result → Shared → Prop} {name qual : Str} {params : Arguments} {body : List Stmt} {scope : Scope} {dV kV doc pm cdv ct oc : Value} {an od : Option Addr} {osl : Array (Option Value)} {f : Addr} {args : Args} {cl : List (Str × Addr)}

theorem frameA {E : Value → Shared → Prop} {binds : List (Str × Value)} (B : Below A₀ base outer h₀) (F : Fr h₀ L s.heap m) (N : News h₀ L s.heap news) (hlim : h₀.NoLimit) (hA : A.frames = some (env :: outer)) (hf : env.frame = some L) (hke : env.scope.kind = .function)
    (hloc : ∀ y ∈ binds, scope.names.lookup y.1 = some .local)
    (h : ∀ g L' h₁, GK s.heap news g → Fr h₀ L g m → Fr g L' h₁ (fun y => binds.reverse.lookup y) → News g L' h₁ news → Below A base (env :: outer) g → h₀.StaysIn g →
      wpAny (model prog w) (A.deeper (envX qual scope L' f cdv cl)) (execs body (envX qual scope L' f cdv cl))
        (fun fl s' => LeaveK h₀ L m g (KeepR g R) (match fl with | .ret v => v | _ => .none) s')
        (fun e s' => wpAny (model prog w) (A.deeper (envX qual scope L' f cdv cl)) (leaving (envX qual scope L' f cdv cl) e) (fun _ s'' => R (.error e) s'') (fun e' s'' => R (.error e') s'') s')
        { s with heap := h₁, toks := s.toks + binds.length })
    (hcell : ∀ x ∈ scope.names, x.2 ≠ .cell) (hk : scope.kind = .function) :
    wpAny (model prog w) A.in1 (newFunctionEnv scope mainGlobals cl binds (qual ++ ".<locals>.") (some f) cdv none builtinsNs) (fun env' s₂ => s₂.heap.NoLimit ∧ codeAny (model prog w) A (.func body env') R s₂) E s := by
  obtain ⟨FG, BG, st, _⟩ := groundX (R := R) B F N hA hf hke
  have lv := fun R' => (groundX (R := R') B F N hA hf hke).2.2.2
  refine wpAny_newFunctionEnv hcell hloc (fun h₁ hns hsb => ⟨(hlim.keeps F.keep).fresh _ hsb, codeAny_func ?_⟩) hk
  have hk₁ : ∀ b o, s.heap.get? b = some o → h₁.get? b = some o := fun b o e => hsb.extBut b o (Nat.ne_of_lt (Heap.lt_size e)) (Heap.get?_push_of_some _ e)
  show wpAny (model prog w) (A.deeper (envX qual scope s.heap.objs.size f cdv cl)) (execs body (envX qual scope s.heap.objs.size f cdv cl)) _ _ _
  refine wpAny_mono (h _ s.heap.objs.size h₁ gk_hide FG ⟨hns, fun b o e => hk₁ b o (of_hideAll _ e), Nat.le_of_eq (hideAll_size _ _)⟩
    (fun p hp => ⟨hk₁ _ _ (N p hp).1, Nat.ne_of_lt (Heap.lt_size (N p hp).1), hideAll_none _ (List.mem_map_of_mem hp)⟩) BG st) (fun fl s' hl => ?_) fun _ _ y => y
  have z := lv (KeepR _ R) _ _ hl
  obtain ⟨L', m', news', F', N', k⟩ := hl
  exact z F'.keep

theorem peekB {α : Type} {K : Frag} {M : Model} {A : Around} {E : Value → Shared → Prop} {Q : α → Shared → Prop} {s : Shared} {o : Obj} (X : K.In s.heap) :
    ∀ (t : Sem α) (g : Addr → Sem α), peekA K ⟨M.prog, M.w.params⟩ t = some (o, g) → wpAny M A (g s.heap.objs.size) Q E { s with heap := s.heap.push o } → wpAny M A t Q E s := by
  intro t
  induction t with
  | rule _ k ih => intro g e q Γ p hΓ; exact ih () g e q Γ p hΓ
  | point _ k ih => intro g e q Γ p hΓ; exact ih () g e q Γ p hΓ
  | ask k ih => intro g e q Γ p hΓ; exact ih _ g e q Γ p hΓ
  | load a _ k ih =>
    intro g e q Γ p hΓ
    simp only [peekA] at e
    split at e
    · rename_i ob ho; exact ⟨ob, X _ _ ho, ih ob g e q Γ p hΓ⟩
    · cases e
  | alloc ob k _ =>
    intro g e q
    have e : some (ob, k) = some (o, g) := e
    obtain ⟨e1, e2⟩ := Prod.mk.inj (Option.some.inj e)
    subst e1
    subst e2
    show wpAny M A (alloc ob >>= k) Q E s
    exact wpAny_bind (wpAny_alloc q)
  | _ => intro g e; cases e

abbrev tupObj (vs : List Value) : Obj := { cls := .type "tuple", data := .seq vs.toArray }

theorem code_starA {vs : List Value} {g₁ : Addr → Sem (List (Str × Value))} {g₂ : Addr → Addr → Sem (List (Str × Value))} {binds : Addr → Addr → List (Str × Value)}
    (B : Below A₀ base outer h₀) (F : Fr h₀ L s.heap m) (X₀ : K.In h₀) (N : News h₀ L s.heap news) (T : Top p loose mean mg mb h₀) (hA : A.frames = some (env :: outer)) (hf : env.frame = some L) (hke : env.scope.kind = .function)
    (ho : K.lookup f = some ⟨oc, od, .func (fnOf name qual params body scope dV kV doc pm an cdv ct), osl⟩) (hcd : codeIn K cdv qual = true) (hroom : A.depth < recursionLimit)
    (hp : peekA K ⟨prog, w.params⟩ (bindArgs (fnOf name qual params body scope dV kV doc pm an cdv ct) args) = some (tupObj vs, g₁))
    (hp₂ : ∀ D, peekA K ⟨prog, w.params⟩ (g₁ D) = some (dictOf [] 0, g₂ D)) (hk₂ : ∀ C D, g₂ C D = pure (binds C D)) (hloc : ∀ C D, ∀ y ∈ binds C D, scope.names.lookup y.1 = some .local)
    (h : ∀ C D g L' h₁ tk, (∀ p ∈ news, p.1 < C) → C < D → (D == sysModules) = false → GK s.heap news g → Fr h₀ L g m → Fr g L' h₁ (fun y => (binds C D).reverse.lookup y) → News g L' h₁ ((D, dictOf [] 0) :: (C, tupObj vs) :: news) → Below A base (env :: outer) g → K.In g → Top p loose mean mg mb g →
      wpAny (model prog w) (A.deeper (envOf qual scope L' f cdv)) (execs body (envOf qual scope L' f cdv))
        (fun fl s' => LeaveK h₀ L m g (KeepR g R) (match fl with | .ret v => v | _ => .none) s')
        (fun e s' => wpAny (model prog w) (A.deeper (envOf qual scope L' f cdv)) (leaving (envOf qual scope L' f cdv) e) (fun _ s'' => R (.error e) s'') (fun e' s'' => R (.error e') s'') s')
        { s with heap := h₁, toks := tk })
    (hco : scope.isCoroutine = false) (hgen : scope.isGenerator = false) (hk : scope.kind = .function)
    (hcell : ∀ x ∈ scope.names, x.2 ≠ .cell) : codeAny (model prog w) A (.call (.ref f) args) R s := by
  refine codeAny_call_function (fd := fnOf name qual params body scope dV kV doc pm an cdv ct) (body := body) hroom ((X₀.keeps F.keep) _ _ ho) rfl hco hgen rfl (codeRec_of (X₀.keeps F.keep) hcd) ?_
  refine peekB (o := tupObj vs) (X₀.keeps F.keep) _ g₁ hp ?_
  have F' := F.push (tupObj vs)
  have N' := N.push F (tupObj vs)
  refine peekB (s := { s with heap := s.heap.push (tupObj vs) }) (o := dictOf [] 0) (X₀.keeps F'.keep) _ (g₂ s.heap.objs.size) (hp₂ _) ?_
  have F'' := F'.push (dictOf [] 0)
  have N'' := N'.push F' (dictOf [] 0)
  rw [hk₂]
  refine wpAny_pure ?_
  have lt1 : s.heap.objs.size < (s.heap.push (tupObj vs)).objs.size := by rw [Heap.size_push]; exact Nat.lt_succ_self _
  refine frameA (cl := []) (s := { s with heap := (s.heap.push (tupObj vs)).push (dictOf [] 0) }) B F'' N'' T.nolimit hA hf hke (hloc _ _) (fun g L' h₁ G FG FL NG BG st => h _ _ g L' h₁ _ (fun p hp => Heap.lt_size (N p hp).1) lt1 (F'.notModules (modules_low T.nolimit)) ?_ FG FL NG BG (X₀.keeps st) (T.keeps st)) hcell hk
  exact gk_back G (fun b o e => Heap.get?_push_of_some _ (Heap.get?_push_of_some _ e)) (Heap.get?_none_of_le (Nat.le_refl _)) (Heap.get?_none_of_le (Nat.le_of_lt lt1))

theorem code_starS {vs : List Value} {g₁ : Addr → Sem (List (Str × Value))} {g₂ : Addr → Addr → Sem (List (Str × Value))} {binds : Addr → Addr → List (Str × Value)}
    (B : Below A₀ base outer h₀) (F : Fr h₀ L s.heap m) (X₀ : K.In h₀) (N : News h₀ L s.heap news) (T : Top p loose mean mg mb h₀) (hA : A.frames = some (env :: outer)) (hf : env.frame = some L) (hke : env.scope.kind = .function)
    (ho : K.lookup f = some ⟨oc, od, .func (fnOf name qual params body scope dV kV doc pm an cdv ct), osl⟩) (hcd : codeIn K cdv qual = true) (hroom : A.depth < recursionLimit)
    (hp : peekA K ⟨prog, w.params⟩ (bindArgs (fnOf name qual params body scope dV kV doc pm an cdv ct) args) = some (tupObj vs, g₁))
    (hp₂ : ∀ D, peekA K ⟨prog, w.params⟩ (g₁ D) = some (dictOf [] 0, g₂ D)) (hk₂ : ∀ C D, g₂ C D = pure (binds C D)) (hloc : ∀ C D, ∀ y ∈ binds C D, scope.names.lookup y.1 = some .local)
    (h : ∀ C D g L' h₁ tk, (∀ p ∈ news, p.1 < C) → C < D → (D == sysModules) = false → GK s.heap news g → Fr h₀ L g m → Fr g L' h₁ (fun y => (binds C D).reverse.lookup y) → News g L' h₁ ((D, dictOf [] 0) :: (C, tupObj vs) :: news) → Below A base (env :: outer) g → K.In g → Top p loose mean mg mb g →
      wpS (model prog w) (A.deeper (envOf qual scope L' f cdv)) (execs body (envOf qual scope L' f cdv))
        (fun fl s' => LeaveK h₀ L m g (KeepR g R) (match fl with | .ret v => v | _ => .none) s')
        (fun e s' => wpAny (model prog w) (A.deeper (envOf qual scope L' f cdv)) (leaving (envOf qual scope L' f cdv) e) (fun _ s'' => R (.error e) s'') (fun e' s'' => R (.error e') s'') s')
        { s with heap := h₁, toks := tk })
    (hco : scope.isCoroutine = false) (hgen : scope.isGenerator = false) (hk : scope.kind = .function)
    (hcell : ∀ x ∈ scope.names, x.2 ≠ .cell) : codeS (model prog w) A (.call (.ref f) args) R s := by
  refine codeS_call_function (fd := fnOf name qual params body scope dV kV doc pm an cdv ct) (body := body) hroom ((X₀.keeps F.keep) _ _ ho) rfl hco hgen rfl (codeRec_of (X₀.keeps F.keep) hcd) ?_
  refine peekB (o := tupObj vs) (X₀.keeps F.keep) _ g₁ hp ?_
  have F' := F.push (tupObj vs)
  have N' := N.push F (tupObj vs)
  refine peekB (s := { s with heap := s.heap.push (tupObj vs) }) (o := dictOf [] 0) (X₀.keeps F'.keep) _ (g₂ s.heap.objs.size) (hp₂ _) ?_
  have F'' := F'.push (dictOf [] 0)
  have N'' := N'.push F' (dictOf [] 0)
  rw [hk₂]
  refine wpAny_pure ?_
  have lt1 : s.heap.objs.size < (s.heap.push (tupObj vs)).objs.size := by rw [Heap.size_push]; exact Nat.lt_succ_self _
  refine frameS (cl := []) (s := { s with heap := (s.heap.push (tupObj vs)).push (dictOf [] 0) }) B F'' N'' T.nolimit hA hf hke (hloc _ _) (fun g L' h₁ G FG FL NG BG st => h _ _ g L' h₁ _ (fun p hp => Heap.lt_size (N p hp).1) lt1 (F'.notModules (modules_low T.nolimit)) ?_ FG FL NG BG (X₀.keeps st) (T.keeps st)) hcell hk
  exact gk_back G (fun b o e => Heap.get?_push_of_some _ (Heap.get?_push_of_some _ e)) (Heap.get?_none_of_le (Nat.le_refl _)) (Heap.get?_none_of_le (Nat.le_of_lt lt1))
end
end Mine
end

section
namespace Mine
open PySem PySem.W PySem.Calls PyProof.Rows PySem.Builtin
open Sem (wp)

/-- what a callee with a try below the first def hands back besides: all of its base but the caller's frame -/
def KeepT (L : Addr) (g : Heap) (R : Result → Shared → Prop) (r : Result) (s' : Shared) : Prop := match r with
  | .ok (.ret v) => (∀ b o, g.get? b = some o → @Ne Nat b L → s'.heap.get? b = some o) → R (.ok (.ret v)) s'
  | r => R r s'

section
variable {prog : Program} {w : World} {A₀ A : Around} {s : Shared} {base h₀ : Heap} {L a : Addr} {m mg mb : Str → Option Value} {cn : Str} {cs : Scope} {ccd : Value} {news : List (Addr × Obj)} {K : Frag} {p : Program} {loose : List Str} {mean : ExcName → Option Value}
  {R : Result → Shared → Prop} {name qual : Str} {params : Arguments} {body : List Stmt} {scope : Scope} {dV kV doc pm cdv ct oc : Value} {an od : Option Addr} {osl : Array (Option Value)} {f : Addr} {args : Args} {binds : List (Str × Value)}

theorem t0_back {v : Value} {s' : Shared} {g : Heap} {oL : Obj} {sc : Scope} (F : Fr h₀ L s.heap m) (hLg : g.get? L = some oL) (hNs : ∀ (sl : Array (Option Value)) h', h'.get? L = some { oL with slots := sl } → Heap.Ns h' L m) (st : h₀.StaysIn g)
    (hl : LeaveS0 ([envOf cn sc L a ccd].filterMap (·.frame)) h₀ L m g (KeepT L g R) v s') : R (.ok (.ret v)) s' := by
  obtain ⟨g', L', m', news', T', F', N', k⟩ := hl
  have nL₀ : h₀.get? L = none := kts_self F
  obtain ⟨sl, hs⟩ := T'.up hLg
  have fsL : ∀ b, b ∈ [envOf cn sc L a ccd].filterMap (·.frame) → b = L := fun b q => by
    rcases kts_mem q with z | z
    · exact z
    · simp at z
  refine k ⟨hNs sl _ (F'.keep _ _ hs), fun b o e => F'.keep b o (T'.other b o (st b o e) (fun q => by
    rw [fsL b q, nL₀] at e
    cases e)), F.above⟩ (fun p hp => ⟨(N' p hp).1, fun q => ?_, ?_⟩) (fun b o e n => F'.keep b o (T'.other b o e fun q => n (fsL b q)))
  · have := (N' p hp).2.2; rw [q, hs] at this; cases this
  · cases q : h₀.get? p.1 with
    | none => rfl
    | some o =>
      obtain ⟨sl', hs'⟩ := T'.up (st _ _ q)
      have := (N' p hp).2.2
      rw [hs'] at this
      cases this

theorem code_T0A (B : Below A₀ base [] h₀) (F : Fr h₀ L s.heap m) (X₀ : K.In h₀) (N : News h₀ L s.heap news) (T : Top p loose mean mg mb h₀) (hA : A.frames = some [envOf cn cs L a ccd]) (hck : cs.kind = .function)
    (ho : K.lookup f = some ⟨oc, od, .func (fnOf name qual params body scope dV kV doc pm an cdv ct), osl⟩) (hcd : codeIn K cdv qual = true) (hroom : A.depth < recursionLimit)
    (hbind : BindsTo s (fnOf name qual params body scope dV kV doc pm an cdv ct) args binds) (hloc : ∀ y ∈ binds, scope.names.lookup y.1 = some .local)
    (h : ∀ g L' h₁, GK s.heap news g → Fr h₀ L g m → Fr g L' h₁ (fun y => binds.reverse.lookup y) → News g L' h₁ news → Below A base [envOf cn cs L a ccd] g → K.In g → Top p loose mean mg mb g → KtsDicts ([envOf cn cs L a ccd].filterMap (·.frame)) g →
      wpAny (model prog w) (A.deeper (envOf qual scope L' f cdv)) (execs body (envOf qual scope L' f cdv))
        (fun fl s' => LeaveS0 ([envOf cn cs L a ccd].filterMap (·.frame)) h₀ L m g (KeepT L g R) (match fl with | .ret v => v | _ => .none) s')
        (fun e s' => wpAny (model prog w) (A.deeper (envOf qual scope L' f cdv)) (leaving (envOf qual scope L' f cdv) e) (fun _ s'' => R (.error e) s'') (fun e' s'' => R (.error e') s'') s')
        { s with heap := h₁, toks := s.toks + binds.length })
    (hco : scope.isCoroutine = false) (hgen : scope.isGenerator = false) (hk : scope.kind = .function)
    (hcell : ∀ x ∈ scope.names, x.2 ≠ .cell) : codeAny (model prog w) A (.call (.ref f) args) R s := by
  have X := X₀.keeps F.keep
  refine codeAny_call_def (fd := fnOf name qual params body scope dV kV doc pm an cdv ct) (body := body) (binds := binds) hroom (X _ _ ho) rfl (T.nolimit.keeps F.keep) (codeRec_of X hcd) rfl hbind hcell hloc (fun h₁ hns hk₁ => ?_) hco hgen hk
  obtain ⟨oL, es, ep, hLg, hLd, hN, hNs, st, B₂⟩ := kts_enter B F N hA hck
  exact wpAny_mono (h _ s.heap.objs.size h₁ gk_hide ⟨hN _ hLg, st, F.above⟩ ⟨hns, fun b o e => hk₁ b o (of_hideAll _ e), Nat.le_of_eq (hideAll_size _ _)⟩
    (fun p hp => ⟨hk₁ _ _ (N p hp).1, Nat.ne_of_lt (Heap.lt_size (N p hp).1), hideAll_none _ (List.mem_map_of_mem hp)⟩) B₂ (X₀.keeps st) (T.keeps st) (fun b hb => by
      rcases kts_mem hb with rfl | z
      · exact ⟨oL, es, ep, hLg, hLd⟩
      · simp at z)) (fun fl s' hl => t0_back F hLg hNs st hl) fun _ _ y => y

theorem code_T0S (B : Below A₀ base [] h₀) (F : Fr h₀ L s.heap m) (X₀ : K.In h₀) (N : News h₀ L s.heap news) (T : Top p loose mean mg mb h₀) (hA : A.frames = some [envOf cn cs L a ccd]) (hck : cs.kind = .function)
    (ho : K.lookup f = some ⟨oc, od, .func (fnOf name qual params body scope dV kV doc pm an cdv ct), osl⟩) (hcd : codeIn K cdv qual = true) (hroom : A.depth < recursionLimit)
    (hbind : BindsTo s (fnOf name qual params body scope dV kV doc pm an cdv ct) args binds) (hloc : ∀ y ∈ binds, scope.names.lookup y.1 = some .local)
    (h : ∀ g L' h₁, GK s.heap news g → Fr h₀ L g m → Fr g L' h₁ (fun y => binds.reverse.lookup y) → News g L' h₁ news → Below A base [envOf cn cs L a ccd] g → K.In g → Top p loose mean mg mb g → KtsDicts ([envOf cn cs L a ccd].filterMap (·.frame)) g →
      wpS (model prog w) (A.deeper (envOf qual scope L' f cdv)) (execs body (envOf qual scope L' f cdv))
        (fun fl s' => LeaveS0 ([envOf cn cs L a ccd].filterMap (·.frame)) h₀ L m g (KeepT L g R) (match fl with | .ret v => v | _ => .none) s')
        (fun e s' => wpAny (model prog w) (A.deeper (envOf qual scope L' f cdv)) (leaving (envOf qual scope L' f cdv) e) (fun _ s'' => R (.error e) s'') (fun e' s'' => R (.error e') s'') s')
        { s with heap := h₁, toks := s.toks + binds.length })
    (hco : scope.isCoroutine = false) (hgen : scope.isGenerator = false) (hk : scope.kind = .function)
    (hcell : ∀ x ∈ scope.names, x.2 ≠ .cell) : codeS (model prog w) A (.call (.ref f) args) R s := by
  have X := X₀.keeps F.keep
  refine codeS_call_function (fd := fnOf name qual params body scope dV kV doc pm an cdv ct) (body := body) hroom (X _ _ ho) rfl hco hgen rfl (codeRec_of X hcd) (hbind _ _ _ _ ?_)
  refine wpAny_newFunctionEnv hcell hloc (fun h₁ hns hsb => ⟨(T.nolimit.keeps F.keep).fresh _ hsb, codeS_func ?_⟩) hk
  have hk₁ : ∀ b o, s.heap.get? b = some o → h₁.get? b = some o := fun b o e => hsb.extBut b o (Nat.ne_of_lt (Heap.lt_size e)) (Heap.get?_push_of_some _ e)
  show wpS (model prog w) (A.deeper (envOf qual scope s.heap.objs.size f cdv)) (execs body (envOf qual scope s.heap.objs.size f cdv)) _ _ _
  obtain ⟨oL, es, ep, hLg, hLd, hN, hNs, st, B₂⟩ := kts_enter B F N hA hck
  exact wpS_mono (h _ s.heap.objs.size h₁ gk_hide ⟨hN _ hLg, st, F.above⟩ ⟨hns, fun b o e => hk₁ b o (of_hideAll _ e), Nat.le_of_eq (hideAll_size _ _)⟩
    (fun p hp => ⟨hk₁ _ _ (N p hp).1, Nat.ne_of_lt (Heap.lt_size (N p hp).1), hideAll_none _ (List.mem_map_of_mem hp)⟩) B₂ (X₀.keeps st) (T.keeps st) (fun b hb => by
      rcases kts_mem hb with rfl | z
      · exact ⟨oL, es, ep, hLg, hLd⟩
      · simp at z)) (fun fl s' hl => t0_back F hLg hNs st hl) fun _ _ y => y
end
end Mine
end

section
namespace Mine
open PySem PySem.W PySem.Calls PyProof.Rows PySem.Builtin

abbrev baObj (b : Array UInt8) : Obj := { cls := .type "bytearray", data := .bytearray b }

theorem ba_slot_len : Slot "bytearray" "__len__" "bytearray.__len__" :=
  .of (owner := "bytearray") (n := "__len__") (by rw [typeLookup_type, builtinLookup_eq_fast]; kernel_rfl) (by decide +kernel) (by decide +kernel) (by decide +kernel)
    (by first | exact .inl (by decide +kernel) | exact .inr (by decide +kernel)) (by rw [isSubtype_type]; kernel_rfl)
theorem ba_slot_set : Slot "bytearray" "__setitem__" "bytearray.__setitem__" :=
  .of (owner := "bytearray") (n := "__setitem__") (by rw [typeLookup_type, builtinLookup_eq_fast]; kernel_rfl) (by decide +kernel) (by decide +kernel) (by decide +kernel)
    (by first | exact .inl (by decide +kernel) | exact .inr (by decide +kernel)) (by rw [isSubtype_type]; kernel_rfl)
theorem ba_slot_init : Slot "bytearray" "__init__" "bytearray.__init__" :=
  .of (owner := "bytearray") (n := "__init__") (by rw [typeLookup_type, builtinLookup_eq_fast]; kernel_rfl) (by decide +kernel) (by decide +kernel) (by decide +kernel)
    (by first | exact .inl (by decide +kernel) | exact .inr (by decide +kernel)) (by rw [isSubtype_type]; kernel_rfl)
theorem ba_entry_len : entryFor table "bytearray.__len__" = some Builtin.«bytearray.__len__» := by first | exact entryFor_of_fast (by kernel_rfl) | exact entryFor_of_tree (by kernel_rfl)
theorem ba_entry_set : entryFor table "bytearray.__setitem__" = some Builtin.«bytearray.__setitem__» := by first | exact entryFor_of_fast (by kernel_rfl) | exact entryFor_of_tree (by kernel_rfl)
theorem ba_entry_init : entryFor table "bytearray.__init__" = some Builtin.«bytearray.__init__» := by first | exact entryFor_of_fast (by kernel_rfl) | exact entryFor_of_tree (by kernel_rfl)
theorem ba_entry_new : entryFor table "bytearray.__new__" = some Builtin.«list.__new__» := entryFor_alias (id' := "list.__new__") (by kernel_rfl) rfl (by decide +kernel) (by kernel_rfl)
theorem ba_args_len (a : Value) : argsOk "bytearray.__len__" ⟨[a], []⟩ := by unfold argsOk; kernel_rfl
theorem ba_args_set (a b c : Value) : argsOk "bytearray.__setitem__" ⟨[a, b, c], []⟩ := by unfold argsOk; kernel_rfl
theorem ba_args_init0 (a : Value) : argsOk "bytearray.__init__" ⟨[a], []⟩ := by unfold argsOk; kernel_rfl
theorem ba_args_init1 (a b : Value) : argsOk "bytearray.__init__" ⟨[a, b], []⟩ := by unfold argsOk; kernel_rfl
theorem ba_mro : mroOf (.type "bytearray") = pure [.type "bytearray", .type "object"] := by rw [mroOf_type]; kernel_rfl
theorem ba_lookup_new : typeLookup (.type "bytearray") "__new__" = pure (some (.builtin "bytearray.__new__")) := by rw [typeLookup_type, builtinLookup_eq_fast]; kernel_rfl
theorem ba_called : TypeCalled "bytearray" "bytearray.__new__" "bytearray.__init__" :=
  ⟨by decide +kernel, by decide +kernel, ⟨_, _, ba_mro⟩, madeBy_type ba_mro ba_lookup_new (by decide +kernel), by decide +kernel, by rw [isSubtype_type]; kernel_rfl, ba_slot_init⟩
theorem ba_typeCall0 : checkTypeCall "bytearray" ⟨[], []⟩ = pure () := by kernel_rfl
theorem ba_typeCall1 (a : Value) : checkTypeCall "bytearray" ⟨[a], []⟩ = pure () := by kernel_rfl
theorem ba_newCall0 : checkBuiltinCall "bytearray.__new__" ⟨[.type "bytearray"], []⟩ = pure () := by kernel_rfl
theorem ba_newCall1 (a : Value) : checkBuiltinCall "bytearray.__new__" ⟨[.type "bytearray", a], []⟩ = pure () := by kernel_rfl
theorem ba_plain_new : plainId "bytearray.__new__" = true := by decide +kernel
theorem ba_owner_new : ("bytearray.__new__".splitOn ".__new__").headD "" = "bytearray" := by simp +decide [String.splitOn, String.splitOnAux]
theorem ba_sub_self : isSubtype (.type "bytearray") (.type "bytearray") = pure true := by rw [isSubtype_type]; kernel_rfl

theorem ba_typeIs {s : Shared} {a : Addr} {b : Array UInt8} (h : s.heap.get? a = some (baObj b)) : s.TypeIs (.ref a) "bytearray" := ⟨_, h, rfl⟩

section
variable {prog : Program} {w : World} {A : Around} {E : Value → Shared → Prop} {s : Shared} {a : Addr} {b : Array UInt8}
theorem ba_payload {M : Model} {Q : Array UInt8 → Shared → Prop} (h : s.heap.get? a = some (baObj b)) (q : Q b s) : wpAny M A (Bytes.payload (.ref a)) Q E s := by
  unfold Bytes.payload Bytes.payload?
  exact wpAny_bind (wpAny_bind (wpAny_load h (wpAny_pure (wpAny_pure q))))
theorem ba_len {Q : Value → Shared → Prop} (h : s.heap.get? a = some (baObj b)) (hfit : b.size ≤ 1099511627776)
    (q : Q (.int b.size (s.toks + 1)) { s with toks := s.toks + 1 + 1 }) : wpAny (model prog w) A (call (.builtin "len") [.ref a]) Q E s := by
  refine Calls.call_function_entry kind_len plain_len entry_len (args_len1 _) ?_
  unfold Builtin.«len»
  refine wpAny_bind (m := oneArg "len" _) (wpAny_pure ?_)
  refine wpAny_bind (m := callSpecial? (.ref a) (Str.ofString "__len__")) (wpAny_callSpecial?_slot (name := Str.ofString "__len__") (ba_typeIs h) ba_slot_len
    (wpAny_call_entry ba_slot_len (ba_typeIs h) ba_entry_len ?_ (ba_args_len _)))
  show wpAny _ _ (Bytes.payload (.ref a) >>= fun x => _) _ _ s
  refine wpAny_bind (ba_payload h ?_)
  refine wpAny_bind (wpAny_mkInt (wpAny_pure ⟨_, rfl, ?_⟩))
  refine wpAny_bind (wpAny_holding (wpAny_pure ?_))
  refine wpAny_bind (wpAny_letGo ?_)
  show wpAny _ _ (if ((b.size : Nat) : Int) < 0 then _ else _) _ _ _
  rw [if_neg (by omega)]
  show wpAny _ _ (if ((b.size : Nat) : Int) ≥ 2 ^ 63 then _ else _) _ _ _
  rw [if_neg (by omega)]
  exact wpAny_bind (wpAny_mkInt (wpAny_pure ⟨_, rfl, q⟩))

theorem ba_new_code {Q₁ : Value → Shared → Prop} (q : Q₁ (.ref s.heap.objs.size) { s with heap := s.heap.push (baObj #[]) }) :
    codeAny (model prog w) A (.call (.builtin "bytearray.__new__") ⟨[.type "bytearray"], []⟩) (wants Q₁ E) s := by
  refine codeAny_of_tree ?_
  show wpAny _ A.in1 (do checkBuiltinCall "bytearray.__new__" ⟨[.type "bytearray"], []⟩; again (.builtin "bytearray.__new__" ⟨[.type "bytearray"], []⟩)) _ _ s
  refine wpAny_bind (wpAny_of_eq ba_newCall0 (wpAny_pure ⟨plainId_quiet ba_plain_new _, codeAny_builtin_stack ba_entry_new rfl fun p st => ?_⟩))
  rw [Around.under_plainId ba_plain_new _]
  have hsub := ba_sub_self
  have hown := ba_owner_new
  obtain ⟨hp, g, d, tk, os⟩ := s
  simp only [hown]
  wp_walk
  exact q

theorem ba_specials : typeLookup (.type "bytearray") "__release_buffer__" = pure (some (.builtin "bytearray.__release_buffer__")) := by rw [typeLookup_type, builtinLookup_eq_fast]; kernel_rfl
theorem ba_ownRelease {M : Model} {Q : Bool → Shared → Prop} (h : s.heap.get? a = some (baObj b)) (q : Q false s) : wpAny M A (Bytes.ownRelease (.ref a)) Q E s := by
  unfold Bytes.ownRelease Bytes.slotIsOwn
  refine wpAny_bind (wpAny_bind (wpAny_specialOf (ba_typeIs h) ba_specials ?_))
  have e1 : (!("bytearray.__release_buffer__".endsWith ("." ++ "__release_buffer__"))) = false := by decide +kernel
  have e2 : ("bytearray.__release_buffer__".dropRight ("__release_buffer__".length + 1)) = "bytearray" := by decide +kernel
  dsimp only
  rw [e1]
  show wpAny _ _ (if false = true then _ else _) _ _ _
  rw [if_neg (by decide), e2]
  exact wpAny_isInstance (ba_typeIs h) ba_sub_self (wpAny_pure q)
end

-- builtins of this logic
theorem exAny_init (self v : Value) (rest : List Value) (p : Pos) (st : List (Code × Pos)) : exAny self ((.builtin "bytearray.__init__" ⟨v :: rest, []⟩, p) :: st) = ((Bytes.sameRef v self && Bytes.decodersThatHold.contains "bytearray.__init__") || exAny self st) := rfl
theorem exAny_set (self v : Value) (rest : List Value) (p : Pos) (st : List (Code × Pos)) : exAny self ((.builtin "bytearray.__setitem__" ⟨v :: rest, []⟩, p) :: st) = ((Bytes.sameRef v self && Bytes.decodersThatHold.contains "bytearray.__setitem__") || exAny self st) := rfl
theorem exAny_type (self v : Value) (rest : List Value) (p : Pos) (st : List (Code × Pos)) : exAny self ((.builtin "type.__call__" ⟨v :: rest, []⟩, p) :: st) = ((Bytes.sameRef v self && Bytes.decodersThatHold.contains "type.__call__") || exAny self st) := rfl
theorem harm_init (v : Value) (rest : List Value) : Harm (.builtin "bytearray.__init__" ⟨v :: rest, []⟩) := fun self p st => by
  rw [exAny_init, show Bytes.decodersThatHold.contains "bytearray.__init__" = false from by decide +kernel, Bool.and_false, Bool.false_or]
theorem harm_set (v : Value) (rest : List Value) : Harm (.builtin "bytearray.__setitem__" ⟨v :: rest, []⟩) := fun self p st => by
  rw [exAny_set, show Bytes.decodersThatHold.contains "bytearray.__setitem__" = false from by decide +kernel, Bool.and_false, Bool.false_or]
theorem harm_type (v : Value) (rest : List Value) : Harm (.builtin "type.__call__" ⟨v :: rest, []⟩) := fun self p st => by
  rw [exAny_type, show Bytes.decodersThatHold.contains "type.__call__" = false from by decide +kernel, Bool.and_false, Bool.false_or]

section
variable {prog : Program} {w : World} {A : Around} {E : Value → Shared → Prop} {s : Shared} {R : Result → Shared → Prop}
theorem codeS_builtin {id : String} {args : Args} {b : Builtin} (hb : entryFor table id = some b) (hh : Harm (.builtin id args))
    (h : wpS (model prog w) (A.under (.builtin id args)) (b args)
      (fun fin s' => match fin with | .done f => R (.ok f) s' | .again c' => c'.quiet = true ∧ codeS (model prog w) A c' R s') (fun e s' => R (.error e) s') s) :
    codeS (model prog w) A (.builtin id args) R s := by
  refine codeS_of_tree hh ?_
  show wpS _ _ (match entryFor table id with | some b => b args | none => unsupported ((withoutEnding? id "#data").getD id)) _ _ s
  rw [hb]; exact h
theorem codeS_call_builtin {id : String} {args : Args} {b : Builtin} (hq : plainId id = true) (hb : entryFor table id = some b) (hh : Harm (.builtin id args))
    (h : wpAny (model prog w) A.in1 (checkBuiltinCall id args) (fun _ s₁ => wpS (model prog w) A.in1 (b args)
      (fun fin s' => match fin with | .done f => R (.ok f) s' | .again c' => c'.quiet = true ∧ codeS (model prog w) A c' R s') (fun e s' => R (.error e) s') s₁)
      (fun e s' => R (.error e) s') s) : codeS (model prog w) A (.call (.builtin id) args) R s := by
  refine codeS_of_tree (harm_call _ _) ?_
  show wpS _ A.in1 (do checkBuiltinCall id args; again (.builtin id args)) _ _ s
  refine wpS_lbind (wpAny_mono h (fun _ s₁ h₁ => wpS_pure (And.intro (plainId_quiet hq args) (codeS_builtin hb hh ?_))) fun _ _ h' => h')
  rw [Around.under_plainId hq args]; exact h₁
theorem wpS_call_entry {T : String} {name : Str} {id : String} {b : Builtin} {self : Value} {rest : List Value} {Q : Value → Shared → Prop} (h : Slot T name id) (hT : s.TypeIs self T)
    (hb : entryFor table id = some b) (hh : Harm (.builtin id ⟨self :: rest, []⟩))
    (hc : wpS (model prog w) A.in1 (b ⟨self :: rest, []⟩) (fun fin s' => ∃ v, fin = .done (.ret v) ∧ Q v s') E s)
    (ha : argsOk id ⟨self :: rest, []⟩) :
    wpS (model prog w) A (call (.builtin id) (self :: rest)) Q E s := by
  refine wpS_call (codeS_call_builtin h.plain hb hh (h.check _ _ _ _ _ _ _ _ hT ha (wpS_mono hc (fun fin s' h' => ?_) fun _ _ h' => h')))
  obtain ⟨v, rfl, hv⟩ := h'; exact hv
theorem wpS_callSpecial {M : Model} {self : Value} {T : String} {name : Str} {id : String} {args : List Value} {Q : Option Value → Shared → Prop} (hT : s.TypeIs self T) (h : Slot T name id)
    (hc : wpS M A (call (.builtin id) (self :: args)) (fun v => Q (some v)) E s) : wpS M A (callSpecial? self name args) Q E s := by
  simp only [callSpecial?]
  refine wpS_lbind (wpAny_specialOf hT h.lookup ?_)
  simp only [h.bind]
  refine wpS_holding (wpS_lbind (wpAny_pure ?_))
  exact wpS_bind (wpS_mono hc (fun _ _ z => wpS_pure z) fun _ _ z => z)
end

section
variable {prog : Program} {w : World} {A : Around} {E : Value → Shared → Prop} {s : Shared} {a : Addr} {b : Array UInt8}
theorem ba_bind0 : Bytes.bindOptional "bytearray.__init__" "bytearray" ["source", "encoding", "errors"] [] [] = pure [none, none, none] := by kernel_rfl
theorem ba_bind1 (v : Value) : Bytes.bindOptional "bytearray.__init__" "bytearray" ["source", "encoding", "errors"] [v] [] = pure [some v, none, none] := by kernel_rfl
theorem ba_write {M : Model} {f : Array UInt8 → Array UInt8} {Q : Unit → Shared → Prop} (h : s.heap.get? a = some (baObj b)) (hz : (f b).size ≤ sizeLine)
    (q : ({ s with heap := s.heap.update a (Obj.mapBytearray f) } : Shared).heap.get? a = some (baObj (f b)) → Q () { s with heap := s.heap.update a (Obj.mapBytearray f) }) : wpAny M A (Bytes.write (.ref a) f) Q E s := by
  show wpAny _ _ (updateBytearray a f) _ _ _
  have e : ({ s with heap := s.heap.update a (Obj.mapBytearray f) } : Shared).heap.get? a = some (baObj (f b)) := Heap.get?_update_self (Obj.mapBytearray f) h rfl
  unfold updateBytearray
  refine wpAny_bind (wpAny_load h ?_)
  show wpAny _ _ (update a (Obj.mapBytearray f) >>= fun _ => lookBehind a) _ _ _
  refine wpAny_bind (wpAny_update h ?_)
  refine wpAny_lookBehind e ?_ (q e)
  show (if (f b).size > sizeLine then some "bytearray:memory" else none) = none
  rw [if_neg (by omega)]
theorem ba_notExported {M : Model} {Q : Bool → Shared → Prop} (h : s.heap.get? a = some (baObj b)) (q : Q false s) :
    wpS M A (Bytes.exported (.ref a) <||> do return (← Bytes.exportsOf (.ref a)) > 0) Q E s := by
  unfold orM
  refine wpS_bind (wpS_exported ?_)
  show wpS M A (Bytes.exportsOf (.ref a) >>= fun x => pure (decide (x > 0))) Q E s
  refine wpS_of ?_
  unfold Bytes.exportsOf
  refine wpAny_bind (wpAny_bind (wpAny_load h (wpAny_pure ?_)))
  exact wpAny_pure q
theorem ba_init0 {Q : PySem.Fin → Shared → Prop} (h : s.heap.get? a = some (baObj b)) (q : Q (.done (.ret .none)) { s with heap := s.heap.update a (Obj.mapBytearray fun _ => #[]) }) :
    wpS (model prog w) A (Builtin.«bytearray.__init__» ⟨[.ref a], []⟩) Q E s := by
  unfold Builtin.«bytearray.__init__»
  show wpS _ _ (Bytes.ownRelease (.ref a) >>= _) _ _ _
  refine wpS_lbind (ba_ownRelease h ?_)
  refine wpS_lbind (m := Bytes.bindOptional _ _ _ _ _) (wpAny_of_eq ba_bind0 ?_)
  refine wpS_lbind (m := Bytes.checkCodecArg _ _ _ none) (wpAny_of_eq (a := ()) rfl ?_)
  refine wpS_lbind (m := Bytes.checkCodecArg _ _ _ none) (wpAny_of_eq (a := ()) rfl ?_)
  refine wpS_bind (ba_notExported h ?_)
  refine wpS_lbind (m := Bytes.write _ _) (ba_write h (Nat.zero_le _) fun _ => ?_)
  exact wpS_pure q
end
end Mine
end

section
namespace Mine
open PySem PySem.W PySem.Calls PyProof.Rows PySem.Builtin

section
variable {prog : Program} {w : World} {A : Around} {E : Value → Shared → Prop} {s : Shared} {a : Addr} {b : Array UInt8}
theorem callTypeS {T newId initId : String} {Bi : Builtin} {args : List Value} {Q Q₁ : Value → Shared → Prop} (ft : TypeCalled T newId initId) (hct : checkTypeCall T ⟨args, []⟩ = pure ())
    (entryI : entryFor table initId = some Bi) (hharm : ∀ obj, Harm (.builtin initId ⟨obj :: args, []⟩))
    (hnew : codeAny (model prog w) A.in1 (.call (.builtin newId) ⟨.type T :: args, []⟩) (wants Q₁ E) s)
    (hnext : ∀ obj s₁, Q₁ obj s₁ → s₁.TypeIs obj T ∧ argsOk initId ⟨obj :: args, []⟩ ∧
      wpS (model prog w) A.in1.in1 (Bi ⟨obj :: args, []⟩) (fun fin s' => fin = .done (.ret .none) ∧ Q obj s') E s₁) :
    wpS (model prog w) A (call (.type T) args) Q E s := by
  obtain ⟨c, tl, hmro⟩ := ft.mro
  have h1 := ft.notType
  have h2 := ft.canCreate
  refine wpS_call (codeS_of_tree (harm_call _ _) ?_)
  show wpS _ _ (callAny (.type T) _) _ _ _
  refine wpS_pure ⟨Code.quiet_builtin _ (by decide +kernel), codeS_builtin PySem.F.entry_type_call (harm_type _ _) ?_⟩
  rw [Around.under_plain (weight_type_call_type T args []) rfl]
  unfold Builtin.«type.__call__»
  simp only [h1, h2, Bool.false_eq_true, if_false]
  refine wpS_lbind (m := checkTypeCall _ _) (wpAny_of_eq hct ?_)
  refine wpS_lbind (m := mroOf _) (wpAny_of_eq hmro ?_)
  rw [if_neg (by simp)]
  refine wpS_lbind (m := Bind.madeBy _) (wpAny_of_eq ft.made ?_)
  dsimp only
  refine wpS_lbind (m := pure _) (wpAny_pure ?_)
  refine wpS_lbind (m := holding _ _) (wpAny_holding (wpAny_call (codeAny_mono hnew fun r s₁ hr => ?_)))
  cases r with
  | error e => exact hr
  | ok fl =>
    cases fl with
    | ret obj =>
      obtain ⟨hT, hok, hsi⟩ := hnext _ _ hr
      refine wpS_lbind (m := isInstance _ _) (wpAny_isInstance hT ft.sub ?_)
      rw [if_neg (by decide)]
      refine wpS_bind (m := holding _ _) (wpS_holding (wpS_callSpecial hT ft.init (wpS_call_entry ft.init hT entryI (hharm obj) (wpS_mono hsi (fun fin s' h' => ?_) fun _ _ x => x) hok)))
      obtain ⟨rfl, hq⟩ := h'
      refine ⟨_, rfl, ?_⟩
      dsimp only
      rw [if_neg (by decide)]
      exact wpS_pure hq
    | _ => exact hr.elim

/-- bytearray() -/
theorem baS_new0 {Q : Value → Shared → Prop} (q : ∀ h', h'.get? s.heap.objs.size = some (baObj #[]) → (∀ x o, s.heap.get? x = some o → h'.get? x = some o) → Q (.ref s.heap.objs.size) { s with heap := h' }) :
    wpS (model prog w) A (call (.type "bytearray") []) Q E s := by
  refine callTypeS (Q₁ := fun obj s₁ => obj = .ref s.heap.objs.size ∧ s₁ = { s with heap := s.heap.push (baObj #[]) }) ba_called ba_typeCall0 ba_entry_init (fun obj => harm_init obj [])
    (ba_new_code ⟨rfl, rfl⟩) ?_
  rintro obj s₁ ⟨rfl, rfl⟩
  have hx : (s.heap.push (baObj #[])).get? s.heap.objs.size = some (baObj #[]) := Heap.get?_push_size _ rfl
  refine ⟨ba_typeIs (s := { s with heap := s.heap.push (baObj #[]) }) hx, ba_args_init0 _, ?_⟩
  refine ba_init0 (s := { s with heap := s.heap.push (baObj #[]) }) hx ⟨rfl, ?_⟩
  refine q _ (Heap.get?_update_self (Obj.mapBytearray fun _ => #[]) hx rfl) fun x o e => ?_
  have ne : s.heap.objs.size ≠ x := fun z => absurd (Heap.lt_size e) (by rw [z]; exact Nat.lt_irrefl _)
  have e' : (s.heap.push (baObj #[])).get? x = some o := Heap.get?_push_of_some _ e
  exact (Heap.get?_update_other _ _ ne).trans e'
end
end Mine
end

section
namespace Mine
open PySem PySem.W PySem.Calls PyProof.Rows PySem.Builtin

theorem by_no_index : typeLookup (.type "bytes") "__index__" = pure none := by rw [typeLookup_type, builtinLookup_eq_fast]; kernel_rfl
theorem by_no_int : typeLookup (.type "bytes") "__int__" = pure none := by rw [typeLookup_type, builtinLookup_eq_fast]; kernel_rfl
theorem by_no_float : typeLookup (.type "bytes") "__float__" = pure none := by rw [typeLookup_type, builtinLookup_eq_fast]; kernel_rfl
theorem by_no_release : typeLookup (.type "bytes") "__release_buffer__" = pure none := by rw [typeLookup_type, builtinLookup_eq_fast]; kernel_rfl
theorem by_buffer : typeLookup (.type "bytes") "__buffer__" = pure (some (.builtin "bytes.__buffer__")) := by rw [typeLookup_type, builtinLookup_eq_fast]; kernel_rfl
theorem by_sub_self : isSubtype (.type "bytes") (.type "bytes") = pure true := by rw [isSubtype_type]; kernel_rfl
theorem by_not_ba : isSubtype (.type "bytes") (.type "bytearray") = pure false := by rw [isSubtype_type]; kernel_rfl
theorem by_not_complex : isSubtype (.type "bytes") (.type "complex") = pure false := by rw [isSubtype_type]; kernel_rfl
theorem sl_no_index : typeLookup (.type "slice") "__index__" = pure none := by rw [typeLookup_type, builtinLookup_eq_fast]; kernel_rfl

section
variable {prog : Program} {w : World} {M : Model} {A : Around} {E : Value → Shared → Prop} {s : Shared} {a : Addr} {b c : Array UInt8} {t : Tok}
theorem by_ty (c : Array UInt8) (t : Tok) : s.TypeIs (.bytes c t) "bytes" := PySem.W.typeIs_bytes _ _ _
theorem by_asStr {Q : Option Str → Shared → Prop} (q : Q none s) : wpAny M A (asStr? (.bytes c t)) Q E s := wpAny_of_eq (a := none) rfl q
theorem by_buffer? {id : String} {Q : Option (Array UInt8) → Shared → Prop} (q : Q (some c) s) : wpAny M A (Bytes.buffer? id (.bytes c t) true) Q E s := by
  unfold Bytes.buffer?
  refine wpAny_bind (wpAny_specialOf (by_ty c t) by_buffer ?_)
  have own : wpAny M A (Bytes.slotIsOwn (.bytes c t) "__buffer__") (fun x s' => x = true ∧ s' = s) E s := by
    unfold Bytes.slotIsOwn
    refine wpAny_bind (wpAny_specialOf (by_ty c t) by_buffer ?_)
    have e1 : (!("bytes.__buffer__".endsWith ("." ++ "__buffer__"))) = false := by decide +kernel
    have e2 : ("bytes.__buffer__".dropRight ("__buffer__".length + 1)) = "bytes" := by decide +kernel
    dsimp only
    rw [e1]
    show wpAny _ _ (if false = true then _ else _) _ _ _
    rw [if_neg (by decide), e2]
    exact wpAny_isInstance (by_ty c t) by_sub_self ⟨rfl, rfl⟩
  refine wpAny_bind (m := Bytes.slotIsOwn _ _) (wpAny_mono own (fun x s' hx => ?_) fun _ _ x => x)
  obtain ⟨rfl, rfl⟩ := hx
  rw [if_neg (by decide)]
  refine wpAny_bind (wpAny_specialOf (by_ty c t) by_buffer ?_)
  dsimp only
  unfold Bytes.ownRelease Bytes.slotIsOwn
  refine wpAny_bind (wpAny_bind (wpAny_bind (wpAny_specialOf (by_ty c t) by_no_release (wpAny_pure (wpAny_pure ?_)))))
  rw [if_neg (by decide)]
  exact wpAny_bind (wpAny_of_eq (a := c) rfl (wpAny_pure q))

theorem ba_init1 {Q : PySem.Fin → Shared → Prop} (h : s.heap.get? a = some (baObj b)) (hz : c.size ≤ sizeLine)
    (q : ∀ h', h'.get? a = some (baObj c) → Heap.SameBut a s.heap h' → Q (.done (.ret .none)) { s with heap := h' }) :
    wpS (model prog w) A (Builtin.«bytearray.__init__» ⟨[.ref a, .bytes c t], []⟩) Q E s := by
  unfold Builtin.«bytearray.__init__»
  show wpS _ _ (Bytes.ownRelease (.ref a) >>= _) _ _ _
  refine wpS_lbind (ba_ownRelease h ?_)
  refine wpS_lbind (m := Bytes.bindOptional _ _ _ _ _) (wpAny_of_eq (ba_bind1 _) ?_)
  refine wpS_lbind (m := Bytes.checkCodecArg _ _ _ none) (wpAny_of_eq (a := ()) rfl ?_)
  refine wpS_lbind (m := Bytes.checkCodecArg _ _ _ none) (wpAny_of_eq (a := ()) rfl ?_)
  refine wpS_bind (ba_notExported h ?_)
  refine wpS_lbind (m := Bytes.write _ _) (ba_write h (Nat.zero_le _) fun h2 => ?_)
  refine wpS_lbind (m := asStr? _) (by_asStr ?_)
  refine wpS_lbind (m := pure ()) (wpAny_pure ?_)
  refine wpS_lbind (m := specialOf _ _) (wpAny_specialOf (by_ty c t) by_no_index ?_)
  refine wpS_lbind (m := Bytes.buffer? _ _ _) (by_buffer? ?_)
  refine wpS_lbind (m := rule _) (wpAny_rule ?_)
  refine wpS_lbind (m := Bytes.write _ _) (ba_write h2 hz fun h3 => ?_)
  exact wpS_pure (q _ h3 ⟨by rw [Heap.size_update, Heap.size_update], fun x hx => by rw [Heap.get?_update_other _ _ (Ne.symm hx), Heap.get?_update_other _ _ (Ne.symm hx)]⟩)

theorem ba_new_code1 {Q₁ : Value → Shared → Prop} (v : Value) (q : Q₁ (.ref s.heap.objs.size) { s with heap := s.heap.push (baObj #[]) }) :
    codeAny (model prog w) A (.call (.builtin "bytearray.__new__") ⟨[.type "bytearray", v], []⟩) (wants Q₁ E) s := by
  refine codeAny_of_tree ?_
  show wpAny _ A.in1 (do checkBuiltinCall "bytearray.__new__" ⟨[.type "bytearray", v], []⟩; again (.builtin "bytearray.__new__" ⟨[.type "bytearray", v], []⟩)) _ _ s
  refine wpAny_bind (wpAny_of_eq (ba_newCall1 v) (wpAny_pure ⟨plainId_quiet ba_plain_new _, codeAny_builtin_stack ba_entry_new rfl fun p st => ?_⟩))
  rw [Around.under_plainId ba_plain_new _]
  have hsub := ba_sub_self
  have hown := ba_owner_new
  obtain ⟨hp, g, d, tk, os⟩ := s
  simp only [hown]
  wp_walk
  exact q

/-- bytearray(b'..') -/
theorem baS_new1 {Q : Value → Shared → Prop} (hz : c.size ≤ sizeLine) (q : ∀ h', h'.get? s.heap.objs.size = some (baObj c) → (∀ x o, s.heap.get? x = some o → h'.get? x = some o) → Q (.ref s.heap.objs.size) { s with heap := h' }) :
    wpS (model prog w) A (call (.type "bytearray") [.bytes c t]) Q E s := by
  refine callTypeS (Q₁ := fun obj s₁ => obj = .ref s.heap.objs.size ∧ s₁ = { s with heap := s.heap.push (baObj #[]) }) ba_called (ba_typeCall1 _) ba_entry_init (fun obj => harm_init obj [.bytes c t])
    (ba_new_code1 _ ⟨rfl, rfl⟩) ?_
  rintro obj s₁ ⟨rfl, rfl⟩
  have hx : (s.heap.push (baObj #[])).get? s.heap.objs.size = some (baObj #[]) := Heap.get?_push_size _ rfl
  refine ⟨ba_typeIs (s := { s with heap := s.heap.push (baObj #[]) }) hx, ba_args_init1 _ _, ?_⟩
  refine ba_init1 (s := { s with heap := s.heap.push (baObj #[]) }) hx hz fun h' h1 hs => ⟨rfl, ?_⟩
  refine q _ h1 fun x o e => ?_
  have ne : x ≠ s.heap.objs.size := fun z => absurd (Heap.lt_size e) (by rw [z]; exact Nat.lt_irrefl _)
  have e' : (s.heap.push (baObj #[])).get? x = some o := Heap.get?_push_of_some _ e
  exact (hs.2 x ne).trans e'
end
end Mine
end

section
namespace Mine
open PySem PySem.W PySem.Calls PyProof.Rows PySem.Builtin

theorem ba_no_bytes : typeLookup (.type "bytearray") "__bytes__" = pure none := by rw [typeLookup_type, builtinLookup_eq_fast]; kernel_rfl
theorem ba_no_index : typeLookup (.type "bytearray") "__index__" = pure none := by rw [typeLookup_type, builtinLookup_eq_fast]; kernel_rfl
theorem ba_buffer : typeLookup (.type "bytearray") "__buffer__" = pure (some (.builtin "bytearray.__buffer__")) := by rw [typeLookup_type, builtinLookup_eq_fast]; kernel_rfl

section
variable {prog : Program} {w : World} {M : Model} {A : Around} {E : Value → Shared → Prop} {s : Shared} {a sl : Addr} {b c : Array UInt8} {t ti tj : Tok} {i j : Int} {o : Obj}
theorem sl_parts {Q : Value × Value × Value → Shared → Prop} (h : s.heap.get? sl = some o) (hd : o.data = .fields #[.int i ti, .int j tj, .none]) (q : Q (rawInt i, rawInt j, .none) s) :
    wpAny M A (Bytes.sliceParts (.ref sl)) Q E s := by
  unfold Bytes.sliceParts
  have int (k : Int) (t : Tok) {Q : Value → Shared → Prop} (q : Q (rawInt k) s) : wpAny M A (if (Value.int k t == .none) = true then pure .none else do
      if (← specialOf (.int k t) "__index__").isNone then
        rule "bytes.slice.part-no-index"; raiseError "TypeError" "slice indices must be integers or None or have an __index__ method"
      return rawInt (← asIndex (.int k t))) Q E s := by
    rw [if_neg (show ¬ ((Value.int k t == .none) = true) from Bool.false_ne_true)]
    refine wpAny_bind (wpAny_specialOf (T := "int") (typeIs_int s k t) int_index ?_)
    rw [if_neg (by simp)]
    exact wpAny_bind (wpAny_of_eq (a := k) rfl (wpAny_pure q))
  refine wpAny_bind (wpAny_field h hd (x := .none) rfl ?_)
  refine wpAny_bind (m := if (Value.none == .none) = true then pure Value.none else _) ?_
  rw [if_pos (by decide)]
  refine wpAny_pure ?_
  rw [if_neg (show ¬ ((Value.none == rawInt 0) = true) from Bool.false_ne_true)]
  refine wpAny_bind (wpAny_field h hd (x := .int i ti) rfl ?_)
  refine wpAny_bind (int i ti ?_)
  refine wpAny_bind (wpAny_field h hd (x := .int j tj) rfl ?_)
  refine wpAny_bind (int j tj ?_)
  exact wpAny_pure q
theorem sl_indices {n : Nat} {Q : Int × Int × Int → Shared → Prop} (hi : i = (n : Int)) (hj : (n : Int) ≤ j) (q : Q ((n : Int), (n : Int), 1) s) : wpAny M A (sliceIndices (rawInt i) (rawInt j) .none n) Q E s := by
  subst hi
  unfold sliceIndices
  rw [if_pos (show (Value.none == .none) = true from by decide)]
  refine wpAny_bind (wpAny_pure ?_)
  dsimp only
  rw [if_neg (show ¬ (((1 : Int) == 0) = true) from by decide)]
  have int (k d : Int) {Q : Int → Shared → Prop} (q : Q (max 0 (min (if k < 0 then k + (n : Int) else k) (n : Int))) s) :
      wpAny M A (if (rawInt k == Value.none) = true then pure d else (do
        let i ← asIndex (rawInt k)
        let i : Int := if i < 0 then i + (n : Int) else i
        if (1 : Int) > 0 then pure (max 0 (min i (n : Int))) else pure (max (-1) (min i ((n : Int) - 1))))) Q E s := by
    rw [if_neg (show ¬ ((rawInt k == Value.none) = true) from Bool.false_ne_true)]
    refine wpAny_bind (wpAny_of_eq (a := k) rfl ?_)
    dsimp only
    rw [if_pos (by decide)]
    exact wpAny_pure q
  refine wpAny_bind (int _ _ ?_)
  refine wpAny_bind (int _ _ ?_)
  have e1 : max 0 (min (if (n : Int) < 0 then (n : Int) + n else n) (n : Int)) = (n : Int) := by rw [if_neg (by omega)]; omega
  have e2 : max 0 (min (if j < 0 then j + n else j) (n : Int)) = (n : Int) := by rw [if_neg (by omega)]; omega
  rw [e1, e2]
  exact wpAny_pure q

theorem ba_joined (b c : Array UInt8) : b.extract 0 ((b.size : Int)).toNat ++ c ++ b.extract (max ((b.size : Nat) : Int) (b.size : Int)).toNat b.size = b ++ c := by
  have e : (max ((b.size : Nat) : Int) (b.size : Int)).toNat = b.size := by omega
  rw [e, Int.toNat_natCast]
  simp

theorem ba_setitem {Q : PySem.Fin → Shared → Prop} (h : s.heap.get? a = some (baObj b)) (hs : s.heap.get? sl = some o) (hc : o.cls = .type "slice") (hd : o.data = .fields #[.int i ti, .int j tj, .none])
    (hi : i = (b.size : Int)) (hj : (b.size : Int) ≤ j) (hz : b.size + c.size ≤ sizeLine) (hp : 0 < c.size)
    (q : ∀ (h' : Heap) (f : Obj → Obj), (∀ x o, s.heap.get? x = some o → h'.get? x = some o) → h'.get? a = some (baObj b) → f (baObj b) = baObj (b ++ c) → Q (.done (.ret .none)) { s with heap := h'.update a f }) :
    wpS (model prog w) A (Builtin.«bytearray.__setitem__» ⟨[.ref a, .ref sl, .bytes c t], []⟩) Q E s := by
  unfold Builtin.«bytearray.__setitem__»
  show wpS _ _ (Bytes.subscript? (.ref sl) >>= _) _ _ _
  have hT : s.TypeIs (.ref sl) "slice" := ⟨o, hs, hc⟩
  have sub {Q : Option Int → Shared → Prop} (q : Q none s) : wpAny (model prog w) A (Bytes.subscript? (.ref sl)) Q E s := by
    unfold Bytes.subscript?
    refine wpAny_bind (wpAny_specialOf hT sl_no_index ?_)
    rw [if_pos (by rfl)]
    exact wpAny_pure q
  refine wpS_lbind (sub ?_)
  refine wpS_lbind (m := typeOf _) (wpAny_typeOf hT ?_)
  rw [if_neg (by decide)]
  refine wpS_lbind (m := Bytes.sliceParts _) (sl_parts hs hd ?_)
  dsimp only
  rw [if_neg (show ¬ (Bytes.sameRef (Value.ref a) (.bytes c t) = true) from Bool.false_ne_true)]
  refine wpS_lbind (m := isInstance _ _) (wpAny_isInstance (by_ty c t) by_not_ba ?_)
  rw [if_pos (by decide)]
  have no (n : Str) (hn : typeLookup (.type "bytes") n = pure none) {Q : Bool → Shared → Prop} (q : Q false s) : wpAny (model prog w) A (do return (← specialOf (.bytes c t) n).isSome) Q E s :=
    wpAny_bind (wpAny_specialOf (by_ty c t) hn (wpAny_pure q))
  unfold orM
  refine wpS_lbind (wpAny_bind (no _ by_no_index ?_))
  refine wpAny_bind (no _ by_no_int ?_)
  refine wpAny_bind (no _ by_no_float ?_)
  refine wpAny_isInstance (by_ty c t) by_not_complex ?_
  refine wpS_lbind (m := asStr? _) (by_asStr ?_)
  rw [if_neg (by decide)]
  refine wpS_lbind (m := rule _) (wpAny_rule ?_)
  refine wpS_bind (m := call _ _) (baS_new1 (by omega) fun h' hn hk => ?_)
  have ha' : h'.get? a = some (baObj b) := hk _ _ h
  refine wpS_lbind (m := holding _ _) (wpAny_holding (sl_parts (hk _ _ hs) hd ?_))
  refine wpS_lbind (m := Bytes.payload _) (ba_payload hn ?_)
  refine wpS_lbind (m := Bytes.payload _) (ba_payload ha' ?_)
  refine wpS_lbind (m := sliceIndices _ _ _ _) (sl_indices hi hj ?_)
  dsimp only
  rw [if_pos (by decide)]
  refine wpS_lbind (m := rule _) (wpAny_rule ?_)
  have e1 : max (b.size : Int) (b.size : Int) - (b.size : Int) = 0 := by omega
  have e2 : ((c.size : Int) != 0) = true := by rw [bne_iff_ne]; omega
  rw [e1, if_pos e2]
  have cr {Q : Unit → Shared → Prop} (q : Q () { s with heap := h' }) : wpS (model prog w) A (Bytes.checkResize (.ref a)) Q E { s with heap := h' } := by
    unfold Bytes.checkResize
    refine wpS_bind (ba_notExported (s := { s with heap := h' }) ha' ?_)
    rw [if_neg (by decide)]
    exact wpS_pure q
  refine wpS_bind (cr ?_)
  refine wpS_lbind (m := Bytes.write _ _) (ba_write (s := { s with heap := h' }) ha' ?_ fun h3 => ?_)
  · show (b.extract 0 ((b.size : Int)).toNat ++ c ++ b.extract (max ((b.size : Nat) : Int) (b.size : Int)).toNat b.size).size ≤ sizeLine
    rw [ba_joined, Array.size_append]
    exact hz
  refine wpS_pure (q h' _ hk ha' ?_)
  show Obj.mapBytearray (fun b => b.extract 0 _ ++ c ++ b.extract _ b.size) (baObj b) = _
  show baObj (b.extract 0 ((b.size : Int)).toNat ++ c ++ b.extract (max ((b.size : Nat) : Int) (b.size : Int)).toNat b.size) = _
  rw [ba_joined]

/-- b[len(b):j] = bytes, the ledger's way -/
theorem ba_setslice {h₀ : Heap} {L : Addr} {m : Str → Option Value} {news news' : List (Addr × Obj)} {Q : Unit → Shared → Prop} (F : Fr h₀ L s.heap m) (N : News h₀ L s.heap news)
    (U : Upd a (baObj b) (baObj (b ++ c)) news news') (hs : (sl, o) ∈ news) (hc : o.cls = .type "slice") (hd : o.data = .fields #[.int i ti, .int j tj, .none])
    (hi : i = (b.size : Int)) (hj : (b.size : Int) ≤ j) (hz : b.size + c.size ≤ sizeLine) (hp : 0 < c.size)
    (q : ∀ h', Fr h₀ L h' m → News h₀ L h' news' → Q () { s with heap := h' }) :
    wpS (model prog w) A (setItem (.ref a) (.ref sl) (.bytes c t)) Q E s := by
  obtain ⟨pre, post, rfl, rfl, h1, h2⟩ := U.split
  have ha : s.heap.get? a = some (baObj b) := (N (a, baObj b) (by simp)).1
  unfold setItem
  refine wpS_holding ?_
  refine wpS_lbind (wpAny_sequenceKey (ba_typeIs ha) (by decide) ?_)
  refine wpS_bind (wpS_callSpecial (name := Str.ofString "__setitem__") (ba_typeIs ha) ba_slot_set (wpS_call_entry ba_slot_set (ba_typeIs ha) ba_entry_set (harm_set _ _) ?_ (ba_args_set _ _ _)))
  refine ba_setitem ha (N _ hs).1 hc hd hi hj hz hp fun h' f hk ha' hf => ⟨_, rfl, ?_⟩
  refine wpS_pure ?_
  have F' := F.keptAll hk
  have N' := N.grown hk
  obtain ⟨U1, U2⟩ := news_upd F' N' h1 h2 hf rfl
  exact q _ U1 U2
end
end Mine
end

section
namespace Mine
open PySem PySem.W PySem.Calls PyProof.Rows PySem.Builtin

section
variable {prog : Program} {w : World} {M : Model} {A : Around} {E : Value → Shared → Prop} {s : Shared} {a : Addr} {b c : Array UInt8}
theorem ba_buffer? {id : String} {Q : Option (Array UInt8) → Shared → Prop} (h : s.heap.get? a = some (baObj b)) (q : Q (some b) s) : wpAny M A (Bytes.buffer? id (.ref a) true) Q E s := by
  unfold Bytes.buffer?
  refine wpAny_bind (wpAny_specialOf (ba_typeIs h) ba_buffer ?_)
  have own : wpAny M A (Bytes.slotIsOwn (.ref a) "__buffer__") (fun x s' => x = true ∧ s' = s) E s := by
    unfold Bytes.slotIsOwn
    refine wpAny_bind (wpAny_specialOf (ba_typeIs h) ba_buffer ?_)
    have e1 : (!("bytearray.__buffer__".endsWith ("." ++ "__buffer__"))) = false := by decide +kernel
    have e2 : ("bytearray.__buffer__".dropRight ("__buffer__".length + 1)) = "bytearray" := by decide +kernel
    dsimp only
    rw [e1]
    show wpAny _ _ (if false = true then _ else _) _ _ _
    rw [if_neg (by decide), e2]
    exact wpAny_isInstance (ba_typeIs h) ba_sub_self ⟨rfl, rfl⟩
  refine wpAny_bind (m := Bytes.slotIsOwn _ _) (wpAny_mono own (fun x s' hx => ?_) fun _ _ x => x)
  obtain ⟨rfl, rfl⟩ := hx
  rw [if_neg (by decide)]
  refine wpAny_bind (wpAny_specialOf (ba_typeIs h) ba_buffer ?_)
  dsimp only
  refine wpAny_bind (ba_ownRelease h ?_)
  rw [if_neg (by decide)]
  exact wpAny_bind (ba_payload h (wpAny_pure q))
theorem by_new_ba {Q : Value → Shared → Prop} (h : s.heap.get? a = some (baObj b)) (hz : b.size ≤ sizeLine) (q : ∀ t k, Q (.bytes b t) { s with toks := k }) :
    codeAny (model prog w) A (.call (.builtin "bytes.__new__") ⟨[.type "bytes", .ref a], []⟩) (wants Q E) s := by
  refine codeAny_of_tree ?_
  show wpAny _ A.in1 (do checkBuiltinCall "bytes.__new__" ⟨[.type "bytes", .ref a], []⟩; again (.builtin "bytes.__new__" ⟨[.type "bytes", .ref a], []⟩)) _ _ s
  refine wpAny_bind (wpAny_of_eq (PySem.F.bm_newCall _) (wpAny_pure ⟨plainId_quiet PySem.F.bm_plain _, codeAny_builtin PySem.F.bm_entry ?_⟩))
  rw [Around.under_plainId PySem.F.bm_plain _]
  have hT := ba_typeIs (s := s) h
  unfold Builtin.«bytes.__new__»
  refine wpAny_bind (wpAny_of_eq (a := true) rfl ?_)
  refine bm_if_false rfl ?_
  refine wpAny_bind (wpAny_of_eq PySem.F.bm_sub ?_)
  refine bm_if_false rfl ?_
  refine wpAny_bind (wpAny_of_eq (PySem.F.bm_bind _) ?_)
  refine wpAny_bind (wpAny_of_eq (a := ()) rfl ?_)
  refine wpAny_bind (wpAny_of_eq (a := ()) rfl ?_)
  refine bm_if_false rfl ?_
  refine wpAny_bind (wpAny_specialOf hT ba_no_bytes ?_)
  refine wpAny_bind (wpAny_bind ?_)
  show wpAny _ _ (load a >>= _) _ _ _
  refine wpAny_bind (wpAny_load h ?_)
  refine wpAny_pure (wpAny_pure ?_)
  refine bm_if_false rfl ?_
  refine wpAny_bind (wpAny_specialOf hT ba_no_index ?_)
  refine bm_if_true rfl ?_
  have fin : wpAny (model prog w) A.in1 (mkBytes b >>= fun v => pure (PySem.Fin.done (.ret v))) (fun fin s' => match fin with | .done f => wants Q E (.ok f) s' | .again c' => c'.quiet = true ∧ codeAny (model prog w) A c' (wants Q E) s') (fun e s' => wants Q E (.error e) s') s :=
    wpAny_bind (wpAny_mkBytes (wpAny_pure (q _ _)) hz)
  exact wpAny_bind (ba_buffer? h (wpAny_bind (wpAny_rule fin)))
/-- bytes(a bytearray) -/
theorem bytes_ba {Q : Value → Shared → Prop} (h : s.heap.get? a = some (baObj b)) (hz : b.size ≤ sizeLine) (q : ∀ t k, Q (.bytes b t) { s with toks := k }) :
    wpAny (model prog w) A (call (.type "bytes") [.ref a]) Q E s := by
  refine callType_codes (Q₁ := fun obj s₁ => s₁.TypeIs obj "bytes" ∧ Q obj s₁) PySem.F.bm_called (PySem.F.bm_typeCall _) PySem.F.entry_object_init
    (by_new_ba h hz fun t k => ⟨PySem.W.typeIs_bytes _ _ _, q t k⟩) fun obj s₁ h₁ => ?_
  exact ⟨h₁.1, PySem.F.args_object_init_2 obj _, object_init_meets PySem.F.bm_called.init.lookup PySem.F.bm_called.made (by decide) prog w A.in1 _ s₁ ⟨h₁.1, rfl, h₁.2⟩⟩
end
end Mine
end

section
namespace Mine
open PySem PySem.W PySem.Calls PyProof.Rows PySem.Builtin

theorem by_no_reversed : typeLookup (.type "bytes") "__reversed__" = pure none := by rw [typeLookup_type, builtinLookup_eq_fast]; kernel_rfl
theorem by_not_dict : isSubtype (.type "bytes") (.type "dict") = pure false := by rw [isSubtype_type]; kernel_rfl
theorem by_getitem : typeLookup (.type "bytes") "__getitem__" = pure (some (.builtin "bytes.__getitem__")) := by rw [typeLookup_type, builtinLookup_eq_fast]; kernel_rfl
theorem rv_slot_init : Slot "reversed" "__init__" "object.__init__" :=
  .of (owner := "object") (n := "__init__") (by rw [typeLookup_type, builtinLookup_eq_fast]; kernel_rfl) (by decide +kernel) (by decide +kernel) (by decide +kernel)
    (by first | exact .inl (by decide +kernel) | exact .inr (by decide +kernel)) (by rw [isSubtype_type]; kernel_rfl)
theorem rv_called : TypeCalled "reversed" "reversed.__new__" "object.__init__" :=
  ⟨by decide +kernel, by decide +kernel, ⟨_, _, PySem.F.mro_reversed⟩, PySem.F.made_reversed, by decide +kernel, PySem.F.sub_reversed_self, rv_slot_init⟩
theorem rv_slot_next : Slot "reversed" "__next__" "reversed.__next__" :=
  .of (owner := "reversed") (n := "__next__") (by rw [typeLookup_type, builtinLookup_eq_fast]; kernel_rfl) (by decide +kernel) (by decide +kernel) (by decide +kernel)
    (by first | exact .inl (by decide +kernel) | exact .inr (by decide +kernel)) (by rw [isSubtype_type]; kernel_rfl)
theorem rv_slot_self : Slot "reversed" "__iter__" "reversed.__iter__" :=
  .of (owner := "reversed") (n := "__iter__") (by rw [typeLookup_type, builtinLookup_eq_fast]; kernel_rfl) (by decide +kernel) (by decide +kernel) (by decide +kernel)
    (by first | exact .inl (by decide +kernel) | exact .inr (by decide +kernel)) (by rw [isSubtype_type]; kernel_rfl)
theorem rv_slot_hint : Slot "reversed" "__length_hint__" "reversed.__length_hint__" :=
  .of (owner := "reversed") (n := "__length_hint__") (by rw [typeLookup_type, builtinLookup_eq_fast]; kernel_rfl) (by decide +kernel) (by decide +kernel) (by decide +kernel)
    (by first | exact .inl (by decide +kernel) | exact .inr (by decide +kernel)) (by rw [isSubtype_type]; kernel_rfl)
theorem rv_entry_next : entryFor table "reversed.__next__" = some Builtin.«reversed.__next__» := entryFor_of_tree (by kernel_rfl)
theorem rv_entry_hint : entryFor table "reversed.__length_hint__" = some Builtin.«reversed.__length_hint__» := entryFor_of_tree (by kernel_rfl)
theorem rv_entry_self : entryFor table "reversed.__iter__" = some Builtin.«dict_keyiterator.__iter__» := entryFor_alias (id' := "dict_keyiterator.__iter__") (by kernel_rfl) rfl (by decide +kernel) (by kernel_rfl)
theorem rv_args_next (a : Value) : argsOk "reversed.__next__" ⟨[a], []⟩ := by unfold argsOk; kernel_rfl
theorem rv_args_self (a : Value) : argsOk "reversed.__iter__" ⟨[a], []⟩ := by unfold argsOk; kernel_rfl
theorem rv_args_hint (a : Value) : argsOk "reversed.__length_hint__" ⟨[a], []⟩ := by unfold argsOk; kernel_rfl
theorem rv_no_bytes : typeLookup (.type "reversed") "__bytes__" = pure none := by rw [typeLookup_type, builtinLookup_eq_fast]; kernel_rfl
theorem rv_no_index : typeLookup (.type "reversed") "__index__" = pure none := by rw [typeLookup_type, builtinLookup_eq_fast]; kernel_rfl
theorem rv_no_buffer : typeLookup (.type "reversed") "__buffer__" = pure none := by rw [typeLookup_type, builtinLookup_eq_fast]; kernel_rfl
theorem rv_no_len : typeLookup (.type "reversed") "__len__" = pure none := by rw [typeLookup_type, builtinLookup_eq_fast]; kernel_rfl
theorem rv_split_hint : splitId "reversed.__length_hint__" = some ("reversed", "__length_hint__") := by decide +kernel

abbrev rvObj (b : Array UInt8) (t : Tok) (i : Int) : Obj := { cls := .type "reversed", data := .fields #[.bytes b t, rawInt i] }

section
variable {prog : Program} {w : World} {M : Model} {A : Around} {E : Value → Shared → Prop} {s : Shared} {r : Addr} {b : Array UInt8} {t : Tok} {i : Int}
theorem rv_typeIs (h : s.heap.get? r = some (rvObj b t i)) : s.TypeIs (.ref r) "reversed" := ⟨_, h, rfl⟩
theorem rv_new {Q : Value → Shared → Prop} (hz : b.size ≤ 1099511627776) (q : ∀ tk, Q (.ref s.heap.objs.size) { s with heap := s.heap.push (rvObj b t ((b.size : Int) - 1)), toks := tk }) :
    codeAny (model prog w) A (.call (.builtin "reversed.__new__") ⟨[.type "reversed", .bytes b t], []⟩) (wants Q E) s := by
  refine codeAny_of_tree ?_
  show wpAny _ A.in1 (do checkBuiltinCall "reversed.__new__" ⟨[.type "reversed", .bytes b t], []⟩; again (.builtin "reversed.__new__" ⟨[.type "reversed", .bytes b t], []⟩)) _ _ s
  refine wpAny_bind (wpAny_of_eq (PySem.F.newCall_reversed_1 _) (wpAny_pure ⟨plainId_quiet PySem.F.plain_reversed_new _, codeAny_builtin PySem.F.entry_reversed_new ?_⟩))
  rw [Around.under_plainId PySem.F.plain_reversed_new _]
  unfold Builtin.«reversed.__new__»
  refine wpAny_bind (wpAny_of_eq (newClass_reversed _) ?_)
  refine wpAny_bind (wpAny_of_eq (a := ()) (by first | rfl | kernel_rfl) ?_)
  refine wpAny_bind (wpAny_of_eq (a := ()) (by first | rfl | kernel_rfl) ?_)
  dsimp only
  refine wpAny_bind (wpAny_specialOf (by_ty b t) by_no_reversed ?_)
  dsimp only
  refine wpAny_bind ?_
  k_delta "hasItemSlot"
  refine wpAny_bind (wpAny_isInstance (by_ty b t) by_not_dict ?_)
  rw [if_neg (by decide)]
  refine wpAny_bind (wpAny_specialOf (by_ty b t) by_getitem ?_)
  dsimp only
  rw [if_pos (by decide +kernel)]
  refine wpAny_pure ?_
  rw [if_neg (by decide)]
  refine wpAny_bind (len_bytes hz ?_)
  refine wpAny_bind (wpAny_of_eq (a := some (b.size : Int)) rfl ?_)
  dsimp only
  exact wpAny_bind (m := newObj (.type "reversed") (.fields #[.bytes b t, rawInt ((b.size : Int) - 1)])) (wpAny_newObj_type (wpAny_pure (q _)) (by show (2 : Nat) ≤ sizeLine + 2; omega))
/-- reversed(bytes) -/
theorem reversed_bytes {Q : Value → Shared → Prop} (hz : b.size ≤ 1099511627776) (q : ∀ tk, Q (.ref s.heap.objs.size) { s with heap := s.heap.push (rvObj b t ((b.size : Int) - 1)), toks := tk }) :
    wpAny (model prog w) A (call (.type "reversed") [.bytes b t]) Q E s := by
  refine callType_codes (Q₁ := fun obj s₁ => s₁.TypeIs obj "reversed" ∧ Q obj s₁) rv_called (PySem.F.typeCall_reversed_1 _) PySem.F.entry_object_init
    (rv_new hz fun tk => ⟨⟨_, Heap.get?_push_size _ rfl, rfl⟩, q tk⟩) fun obj s₁ h₁ => ?_
  exact ⟨h₁.1, PySem.F.args_object_init_2 obj _, object_init_meets rv_called.init.lookup rv_called.made (by decide) prog w A.in1 _ s₁ ⟨h₁.1, rfl, h₁.2⟩⟩

theorem rv_next_item {Q : Option Value → Shared → Prop} {c : UInt8} (hz : b.size ≤ 1099511627776) (h : s.heap.get? r = some (rvObj b t i)) (h0 : 0 ≤ i) (h1 : i < b.size) (hc : b.toList[i.toNat]? = some c)
    (q : ∀ h' u k, h'.get? r = some (rvObj b t (i - 1)) → Heap.SameBut r s.heap h' → Q (some (.int (c.toNat : Int) u)) { s with heap := h', toks := k }) : wpAny (model prog w) A (pyNext (.ref r)) Q E s := by
  unfold pyNext
  refine wpAny_bind (wpAny_attempt (wpAny_callSpecial?_slot (name := PySem.Str.ofString "__next__") (rv_typeIs h) rv_slot_next (wpAny_call_entry rv_slot_next (rv_typeIs h) rv_entry_next ?_ (rv_args_next _))))
  unfold Builtin.«reversed.__next__»
  refine wpAny_bind (wpAny_of_eq (a := (Value.ref r, [])) rfl ?_)
  dsimp only
  refine wpAny_bind (wpAny_field h rfl (x := .bytes b t) rfl ?_)
  refine wpAny_bind (wpAny_field h rfl (x := rawInt i) rfl ?_)
  show wpAny _ _ (if i < 0 then _ else _) _ _ s
  rw [if_neg (by omega)]
  refine wpAny_bind (wpAny_specialOf (by_ty b t) by_getitem ?_)
  rw [if_neg (by decide)]
  refine wpAny_bind (wpAny_mkInt ?_)
  have e : b.toList.toArray = b := Array.toArray_toList
  have g : ∀ {Q : Value → Shared → Prop} {E : Value → Shared → Prop}, Q (.int (c.toNat : Int) (s.toks + 1)) { s with toks := s.toks + 1 + 1 } → wpAny (model prog w) A.in1 (getItem (.bytes b t) (.int i s.toks)) Q E { s with toks := s.toks + 1 } := by
    intro Q E q
    have z := getItem_bytes (prog := prog) (w := w) (A := A.in1) (E := E) (s := { s with toks := s.toks + 1 }) (l := b.toList) (t := t) (i := i) (u := s.toks) (Q := Q) (by simpa using hz) h0 (by simpa using h1) (by
      rw [show b.toList.getD i.toNat 0 = c from by rw [List.getD_eq_getElem?_getD, hc]; rfl]; exact q)
    rw [e] at z
    exact z
  refine wpAny_bind (wpAny_attempt (g ?_))
  dsimp only
  refine wpAny_bind (wpAny_field (s := { s with toks := s.toks + 1 + 1 }) h rfl (x := rawInt i) rfl ?_)
  show wpAny _ _ (setField (.ref r) 1 (rawInt (i - 1)) >>= _) _ _ _
  refine wpAny_bind (wpAny_setField (s := { s with toks := s.toks + 1 + 1 }) h rfl (by simp) (wpAny_pure ⟨_, rfl, wpAny_pure (q _ _ _ ?_ (Heap.SameBut.update ..))⟩))
  exact Heap.get?_update_self _ h rfl

theorem rv_next_end {Q : Option Value → Shared → Prop} (hh : A.handled = none) (h : s.heap.get? r = some (rvObj b t (-1)))
    (q : ∀ h' k, Heap.ExtBut r s.heap h' → Q none { s with heap := h', toks := k }) : wpAny (model prog w) A (pyNext (.ref r)) Q E s := by
  unfold pyNext
  refine wpAny_bind (wpAny_attempt (wpAny_callSpecial?_slot (name := PySem.Str.ofString "__next__") (rv_typeIs h) rv_slot_next (wpAny_call_entry rv_slot_next (rv_typeIs h) rv_entry_next ?_ (rv_args_next _))))
  unfold Builtin.«reversed.__next__»
  refine wpAny_bind (wpAny_of_eq (a := (Value.ref r, [])) rfl ?_)
  dsimp only
  refine wpAny_bind (wpAny_field h rfl (x := .bytes b t) rfl ?_)
  refine wpAny_bind (wpAny_field h rfl (x := rawInt (-1)) rfl ?_)
  show wpAny _ _ (if (-1 : Int) < 0 then _ else _) _ _ s
  rw [if_pos (by decide)]
  refine wpAny_bind (wpAny_rule ?_)
  refine wpAny_bind ?_
  k_delta "reversedEnd"
  refine wpAny_bind (wpAny_setField h rfl (by simp) ?_)
  have h2 : (s.heap.update r (Obj.mapFields (·.setIfInBounds 1 (rawInt (-1))))).get? r = some (rvObj b t (-1)) := Heap.get?_update_self _ h rfl
  refine wpAny_setField (s := { s with heap := s.heap.update r (Obj.mapFields (·.setIfInBounds 1 (rawInt (-1)))) }) h2 rfl (by simp) ?_
  refine wpAny_bind ?_
  unfold Builtin.SmallTypes.stopIteration
  show wpAny _ _ (newExc (.type "StopIteration") [] >>= _) _ _ _
  refine wpAny_bind ?_
  simp only [newExc, newTuple]
  refine wpAny_bind (wpAny_newObj_type ?_ (by size_fits))
  refine wpAny_bind (m := firstArgMember _ _) (wpAny_of_eq (a := Value.none) (by first | rfl | (simp only [firstArgMember]; rfl)) ?_)
  refine wpAny_newObj_type ?_ (by size_fits)
  simp only [raiseNew]
  refine wpAny_bind (wpAny_handled ?_)
  rw [show A.in1.handled = none from hh]
  refine wpAny_bind (wpAny_pure (wpAny_throw ?_))
  refine wpAny_bind (wpAny_isInstance (T := "StopIteration") (b := true) ⟨_, Heap.get?_push_size _ rfl, rfl⟩ isSubtype_stop ?_)
  refine wpAny_pure (q _ _ ?_)
  exact (((Heap.SameBut.update ..).extBut.trans (Heap.SameBut.update ..).extBut).push _).push _
end
end Mine
end

section
namespace Mine
open PySem PySem.W PySem.Calls PyProof.Rows PySem.Builtin

def rvAt (b : Array UInt8) (k : Nat) : Array UInt8 := (b.toList.drop k).reverse.toArray
theorem rvAt_size (b : Array UInt8) (k : Nat) : (rvAt b k).size = b.size - k := by simp [rvAt]
theorem rvAt_all (b : Array UInt8) : rvAt b b.size = #[] := by
  unfold rvAt
  rw [List.drop_of_length_le (by simp)]
  rfl
theorem rvAt_push {b : Array UInt8} {k : Nat} {c : UInt8} (h : b.toList[k]? = some c) : (rvAt b (k + 1)).push ((c.toNat : Int).toNat.toUInt8) = rvAt b k := by
  have e : (c.toNat : Int).toNat.toUInt8 = c := by rw [Int.toNat_natCast]; simp
  rw [e]
  unfold rvAt
  have hk : k < b.toList.length := (List.getElem?_eq_some_iff.mp h).1
  have hc : b.toList[k] = c := (List.getElem?_eq_some_iff.mp h).2
  rw [List.drop_eq_getElem_cons hk, List.reverse_cons, hc]
  simp

section
variable {prog : Program} {w : World} {M : Model} {A : Around} {E : Value → Shared → Prop} {r S : Addr} {b : Array UInt8} {t : Tok} {i : Int}
theorem rv_loop {R : Result → Shared → Prop} (hh : A.handled = none) (hz : b.size ≤ sizeLine) (hrS : r ≠ S) :
    ∀ (k : Nat) (s : Shared), k ≤ b.size → s.heap.get? r = some (rvObj b t ((k : Int) - 1)) → s.heap.get? S = some (baObj (rvAt b k)) →
      (∀ h' u k', (∀ x o, x ≠ r → x ≠ S → s.heap.get? x = some o → h'.get? x = some o) → R (.ok (.ret (.bytes (rvAt b 0) u))) { s with heap := h', toks := k' }) →
      codeAny (model prog w) A (.builtin "bytes.__new__.loop" ⟨[.type "bytes", .ref r, .ref S], []⟩) R s := by
  intro k
  induction k with
  | zero =>
    intro s _ hr hS hR
    refine codeAny_builtin PySem.F.bm_entry_loop ?_
    rw [Around.under_plainId PySem.F.bm_plain_loop _]
    show wpAny _ A.in1 (pyNext (.ref r) >>= _) _ _ s
    refine wpAny_bind (rv_next_end hh hr fun h' k' he => ?_)
    have hS' : h'.get? S = some (baObj (rvAt b 0)) := he S _ (Ne.symm hrS) hS
    refine wpAny_bind (ba_payload (s := { s with heap := h', toks := k' }) hS' ?_)
    refine wpAny_bind (wpAny_mkBytes ?_ (by rw [rvAt_size]; omega))
    show wpAny _ _ (if (Value.type "bytes" == Value.type "bytes") = true then _ else _) _ _ _
    refine bm_if_true (by decide) ?_
    first
      | exact wpAny_pure (hR h' _ _ fun x o hx _ e => he x o hx e)
      | exact wpAny_bind (wpAny_pure (wpAny_pure (hR h' _ _ fun x o hx _ e => he x o hx e)))
  | succ k ih =>
    intro s hk hr hS hR
    have ei : ((k + 1 : Nat) : Int) - 1 = (k : Int) := by omega
    rw [ei] at hr
    obtain ⟨c, hc⟩ : ∃ c, b.toList[k]? = some c := ⟨_, List.getElem?_eq_getElem (by rw [Array.length_toList]; omega)⟩
    refine codeAny_builtin PySem.F.bm_entry_loop ?_
    rw [Around.under_plainId PySem.F.bm_plain_loop _]
    show wpAny _ A.in1 (pyNext (.ref r) >>= _) _ _ s
    refine wpAny_bind (rv_next_item (c := c) (Nat.le_trans hz (by rw [sizeLine_eq]; omega)) hr (by omega) (by omega) (by rw [Int.toNat_natCast]; exact hc) fun h' u k' hr' hs => ?_)
    have hS' : h'.get? S = some (baObj (rvAt b (k + 1))) := (hs.2 S (Ne.symm hrS)).trans hS
    refine wpAny_bind (wpAny_holding (wpAny_of_eq (rfl : asIndex (.int (c.toNat : Int) u) = pure (c.toNat : Int)) ?_))
    refine wpAny_bind (wpAny_letGo ?_)
    have hlt := c.toNat_lt
    refine bm_if_false (by simp only [Bool.or_eq_false_iff, decide_eq_false_iff_not]; omega) ?_
    refine wpAny_bind (m := Bytes.write _ _) (ba_write (s := { s with heap := h', toks := k' }) hS' ?_ fun hS₂ => ?_)
    · rw [rvAt_push hc, rvAt_size]; omega
    rw [rvAt_push hc] at hS₂
    refine wpAny_pure ⟨plainId_quiet PySem.F.bm_plain_loop _, ih _ (by omega) ?_ hS₂ fun h3 t' k3 hk3 => ?_⟩
    · exact (Heap.get?_update_other _ _ (Ne.symm hrS)).trans hr'
    · exact hR h3 t' k3 fun x o hx hxS e => hk3 x o hx hxS ((Heap.get?_update_other _ _ (Ne.symm hxS)).trans ((hs.2 x hx).trans e))

theorem rv_pyIter {s : Shared} {Q : Value → Shared → Prop} (h : s.heap.get? r = some (rvObj b t i)) (q : Q (.ref r) s) : wpAny (model prog w) A (pyIter (.ref r)) Q E s := by
  refine wpAny_pyIter_slot (rv_typeIs h) rv_slot_self (wpAny_call_entry rv_slot_self (rv_typeIs h) rv_entry_self ?_ (rv_args_self _))
  show wpAny _ _ (ret (.ref r)) _ _ s
  exact wpAny_pure ⟨_, rfl, "reversed", _, rv_typeIs h, rv_slot_next.lookup, q⟩

theorem rv_hint {s : Shared} {Q : Unit → Shared → Prop} (h : s.heap.get? r = some (rvObj b t ((b.size : Int) - 1))) (hz : b.size ≤ sizeLine) (q : ∀ tk, Q () { s with toks := tk }) :
    wpAny (model prog w) A (Bytes.lengthHint "bytes.__new__" (.ref r)) Q E s := by
  unfold Bytes.lengthHint
  refine wpAny_bind (wpAny_specialOf (rv_typeIs h) rv_no_len ?_)
  dsimp only
  refine bm_if_false (by decide +kernel) ?_
  refine bm_if_false rfl ?_
  refine wpAny_bind (wpAny_specialOf (rv_typeIs h) rv_slot_hint.lookup ?_)
  dsimp only
  rw [rv_split_hint]
  dsimp only
  refine wpAny_bind (wpAny_isInstance (rv_typeIs h) PySem.F.sub_reversed_self ?_)
  refine bm_if_false rfl ?_
  refine bm_if_false (by decide +kernel) ?_
  refine wpAny_bind (wpAny_rule ?_)
  rw [rv_slot_hint.bind]
  refine wpAny_bind (wpAny_pure ?_)
  dsimp only
  refine wpAny_bind (wpAny_attempt (wpAny_call_entry rv_slot_hint (rv_typeIs h) rv_entry_hint ?_ (rv_args_hint _)))
  unfold Builtin.«reversed.__length_hint__»
  refine wpAny_bind (wpAny_of_eq (a := Value.ref r) rfl ?_)
  refine wpAny_bind (wpAny_field h rfl (x := .bytes b t) rfl ?_)
  refine bm_if_false rfl ?_
  have hz' : b.size ≤ 1099511627776 := Nat.le_trans hz (by rw [sizeLine_eq]; omega)
  refine wpAny_bind (len_bytes hz' ?_)
  refine wpAny_bind (wpAny_of_eq (a := some (b.size : Int)) rfl ?_)
  dsimp only
  refine wpAny_bind (wpAny_field (s := { s with toks := s.toks + 1 + 1 }) h rfl (x := rawInt ((b.size : Int) - 1)) rfl ?_)
  show wpAny _ _ (if (b.size : Int) < (b.size : Int) - 1 + 1 then _ else _) _ _ _
  rw [if_neg (by omega)]
  refine wpAny_bind (wpAny_mkInt (wpAny_pure ⟨_, rfl, ?_⟩))
  dsimp only
  refine wpAny_bind (wpAny_of_eq (a := some ((b.size : Int) - 1 + 1)) rfl ?_)
  dsimp only
  have e1 : (!Bytes.fitsIndex ((b.size : Int) - 1 + 1)) = false := by
    have := hz'
    simp only [Bytes.fitsIndex, Bool.not_eq_false', Bool.and_eq_true, decide_eq_true_eq]; omega
  refine bm_if_false e1 ?_
  rw [if_neg (by omega)]
  have e2 : Bytes.tooLong ((b.size : Int) - 1 + 1).toNat = false := by
    unfold Bytes.tooLong
    simp only [decide_eq_false_iff_not]; omega
  refine bm_if_false e2 ?_
  exact wpAny_pure (q _)

theorem rv_bytes_new {s : Shared} {Q : Value → Shared → Prop} (hh : A.handled = none) (h : s.heap.get? r = some (rvObj b t ((b.size : Int) - 1))) (hz : b.size ≤ sizeLine)
    (q : ∀ h' u k, (∀ x o, x ≠ r → s.heap.get? x = some o → h'.get? x = some o) → Q (.bytes (rvAt b 0) u) { s with heap := h', toks := k }) :
    codeAny (model prog w) A (.call (.builtin "bytes.__new__") ⟨[.type "bytes", .ref r], []⟩) (wants Q E) s := by
  refine codeAny_of_tree ?_
  show wpAny _ A.in1 (do checkBuiltinCall "bytes.__new__" ⟨[.type "bytes", .ref r], []⟩; again (.builtin "bytes.__new__" ⟨[.type "bytes", .ref r], []⟩)) _ _ s
  refine wpAny_bind (wpAny_of_eq (PySem.F.bm_newCall _) (wpAny_pure ⟨plainId_quiet PySem.F.bm_plain _, codeAny_builtin PySem.F.bm_entry ?_⟩))
  rw [Around.under_plainId PySem.F.bm_plain _]
  have hT := rv_typeIs (s := s) h
  unfold Builtin.«bytes.__new__»
  refine wpAny_bind (wpAny_of_eq (a := true) rfl ?_)
  refine bm_if_false rfl ?_
  refine wpAny_bind (wpAny_of_eq PySem.F.bm_sub ?_)
  refine bm_if_false rfl ?_
  refine wpAny_bind (wpAny_of_eq (PySem.F.bm_bind _) ?_)
  refine wpAny_bind (wpAny_of_eq (a := ()) rfl ?_)
  refine wpAny_bind (wpAny_of_eq (a := ()) rfl ?_)
  refine bm_if_false rfl ?_
  refine wpAny_bind (wpAny_specialOf hT rv_no_bytes ?_)
  refine wpAny_bind (wpAny_bind ?_)
  show wpAny _ _ (load r >>= _) _ _ _
  refine wpAny_bind (wpAny_load h ?_)
  refine wpAny_pure (wpAny_pure ?_)
  refine bm_if_false rfl ?_
  refine wpAny_bind (wpAny_specialOf hT rv_no_index ?_)
  refine bm_if_true rfl ?_
  have nobuf : ∀ {Q : Option (Array UInt8) → Shared → Prop}, Q none s → wpAny (model prog w) A.in1 (Bytes.buffer? "bytes.__new__" (.ref r) true) Q (fun e s' => wants (fun obj s₁ => Q none s₁ ∧ False) E (.error e) s') s := by
    intro Q q
    unfold Bytes.buffer?
    refine wpAny_bind (wpAny_specialOf hT rv_no_buffer ?_)
    refine wpAny_bind (wpAny_specialOf hT rv_no_buffer ?_)
    exact wpAny_pure q
  have nb : ∀ {Q : Option (Array UInt8) → Shared → Prop} {E : Value → Shared → Prop}, Q none s → wpAny (model prog w) A.in1 (Bytes.buffer? "bytes.__new__" (.ref r) true) Q E s := by
    intro Q E q
    unfold Bytes.buffer?
    refine wpAny_bind (wpAny_specialOf hT rv_no_buffer ?_)
    refine wpAny_bind (wpAny_specialOf hT rv_no_buffer ?_)
    exact wpAny_pure q
  first
    | refine wpAny_bind (m := Bytes.buffer? _ _ _) (nb ?_)
    | refine wpAny_bind (wpAny_bind (nb ?_))
  refine wpAny_bind (wpAny_tryCatch (rv_pyIter h ?_))
  refine wpAny_bind (wpAny_holding (rv_hint h hz fun tk => ?_))
  refine wpAny_bind ?_
  unfold Builtin.Bytes.newBytearray
  refine wpAny_newObj_type ?_ (Nat.zero_le _)
  have hlt : r < s.heap.objs.size := Heap.lt_size h
  have main := rv_loop (prog := prog) (w := w) (A := A) (R := wants Q E) (r := r) (S := s.heap.objs.size) (b := b) (t := t) hh hz (Nat.ne_of_lt hlt) b.size
    { s with heap := s.heap.push (baObj #[]), toks := tk } (Nat.le_refl _) (Heap.get?_push_of_some _ h) (by rw [rvAt_all]; exact Heap.get?_push_size _ rfl)
    fun h' u k hk => q h' u k fun x o hx e => hk x o hx (Nat.ne_of_lt (Heap.lt_size e)) (Heap.get?_push_of_some _ e)
  first
    | exact wpAny_pure ⟨plainId_quiet PySem.F.bm_plain_loop _, main⟩
    | exact wpAny_pure (wpAny_pure ⟨plainId_quiet PySem.F.bm_plain_loop _, main⟩)
/-- bytes(reversed(b)) -/
theorem bytes_rv {s : Shared} {Q : Value → Shared → Prop} (hh : A.handled = none) (h : s.heap.get? r = some (rvObj b t ((b.size : Int) - 1))) (hz : b.size ≤ sizeLine)
    (q : ∀ h' u k, (∀ x o, x ≠ r → s.heap.get? x = some o → h'.get? x = some o) → Q (.bytes (rvAt b 0) u) { s with heap := h', toks := k }) :
    wpAny (model prog w) A (call (.type "bytes") [.ref r]) Q E s := by
  refine callType_codes (Q₁ := fun obj s₁ => s₁.TypeIs obj "bytes" ∧ Q obj s₁) PySem.F.bm_called (PySem.F.bm_typeCall _) PySem.F.entry_object_init
    (rv_bytes_new hh h hz fun h' u k hk => ⟨PySem.W.typeIs_bytes _ _ _, q h' u k hk⟩) fun obj s₁ h₁ => ?_
  exact ⟨h₁.1, PySem.F.args_object_init_2 obj _, object_init_meets PySem.F.bm_called.init.lookup PySem.F.bm_called.made (by decide) prog w A.in1 _ s₁ ⟨h₁.1, rfl, h₁.2⟩⟩
end
end Mine
end

section
namespace Mine
open PySem PySem.W PySem.Calls PyProof.Rows PySem.Builtin

abbrev PR : Program := PySem.Challenge.rw_gb5006_01.row.prog
abbrev ctxT := ktrTop

section
variable {prog : Program} {w : World} {M : Model} {A : Around} {E : Value → Shared → Prop} {s : Shared} {h₀ : Heap} {L a : Addr} {m : Str → Option Value} {news : List (Addr × Obj)} {b : Array UInt8}
theorem ba_len_N {Q : Value → Shared → Prop} (N : News h₀ L s.heap news) (hm : (a, baObj b) ∈ news) (hz : b.size ≤ 1099511627776) (q : Q (.int b.size (s.toks + 1)) { s with toks := s.toks + 1 + 1 }) :
    wpAny (model prog w) A (call (.builtin "len") [.ref a]) Q E s := ba_len (N _ hm).1 hz q
theorem bytes_ba_N {Q : Value → Shared → Prop} (N : News h₀ L s.heap news) (hm : (a, baObj b) ∈ news) (hz : b.size ≤ sizeLine) (q : ∀ t k, Q (.bytes b t) { s with toks := k }) :
    wpAny (model prog w) A (call (.type "bytes") [.ref a]) Q E s := bytes_ba (N _ hm).1 hz q
abbrev slObj (i j : Int) (ti tj : Tok) : Obj := { cls := .type "slice", data := .fields #[.int i ti, .int j tj, .none] }
theorem slice_E {env : Env} {lo hi : PySem.Expr} {pos : Pos} {Q : Value → Shared → Prop}
    (h : wpAny M A (eval lo env) (fun l s₁ => wpAny M A (eval hi env) (fun u s₂ => wpAny M A (newFields "slice" [l, u, .none]) Q E s₂) E s₁) E s) :
    wpAny M A (eval (.Slice (some lo) (some hi) none pos) env) Q E s := by
  show wpAny M A (valueOrNone (some (eval lo env)) >>= fun l => holding [l] (valueOrNone (some (eval hi env))) >>= fun u => holding [l, u] (valueOrNone none) >>= fun x => newFields "slice" [l, u, x]) Q E s
  refine wpAny_bind (wpAny_mono (Q := fun l s₁ => wpAny M A (eval hi env) (fun u s₂ => wpAny M A (newFields "slice" [l, u, .none]) Q E s₂) E s₁) (E := E) (by first | exact h | (unfold valueOrNone; exact h)) (fun l s₁ h₁ => ?_) fun _ _ x => x)
  refine wpAny_bind (wpAny_holding (wpAny_mono (Q := fun u s₂ => wpAny M A (newFields "slice" [l, u, .none]) Q E s₂) (E := E) (by first | exact h₁ | (unfold valueOrNone; exact h₁)) (fun u s₂ h₂ => ?_) fun _ _ x => x))
  exact wpAny_bind (wpAny_holding (wpAny_pure h₂))
theorem newSlice_N {i j : Int} {ti tj : Tok} {Q : Value → Shared → Prop} (F : Fr h₀ L s.heap m) (N : News h₀ L s.heap news)
    (h : ∀ q h', Fr h₀ L h' m → News h₀ L h' ((q, slObj i j ti tj) :: news) → (∀ p ∈ news, p.1 < q) → Q (.ref q) { s with heap := h' }) :
    wpAny M A (newFields "slice" [.int i ti, .int j tj, .none]) Q E s :=
  wpAny_newObj_type (h _ _ (F.push _) (N.push F _) fun p hp => Heap.lt_size (N p hp).1) (by show (3 : Nat) ≤ sizeLine + 2; rw [sizeLine_eq]; omega)
end
end Mine
end

section
namespace Mine
open PySem PySem.W PySem.Calls PyProof.Rows PySem.Builtin
section
variable {prog : Program} {w : World} {A : Around} {K : Frag} {C : Addr} {R : Result → Shared → Prop} {E : Value → Shared → Prop} {h : Heap} {g : Array GenState} {d : Drawn} {t : Nat} {os : OsState}
theorem objnew_K {oc : Value} {od : Option Addr} {cd : ClassData} {sl : Array (Option Value)} (X : K.In h) (hC : K.lookup C = some ⟨oc, od, .cls cd, sl⟩) (e1 : cd.abstract = false) (e2 : cd.hasDel = false)
    (e8 : instIn K (.ref C) (.type "type") = some true) {bv : Value} (e9 : ∀ S, peek K S (Bind.staticBase (.ref C)) = some bv) (e10 : ∀ S, peek K S (Bind.madeBy bv) = some (some "object.__new__")) (e11 : ∀ S, peek K S (isSubtype (.ref C) (.type "object")) = some true)
    (hq : R (.ok (.ret (.ref (h.objs.size + 1)))) ⟨(h.push emptyDict).push (instObj C h.objs.size), g, d, t, os⟩) :
    codeAny (model prog w) A (.call (.builtin "object.__new__") ⟨[.ref C], []⟩) R ⟨h, g, d, t, os⟩ := by
  have F := PySem.F.objNew
  have typ := looks_instIn (M := model prog w) X e8
  have base : Looks (model prog w) h (Bind.staticBase (.ref C)) bv := Looks.of_peek (M := model prog w) X (e9 _)
  have made : Looks (model prog w) h (Bind.madeBy bv) (some "object.__new__") := Looks.of_peek (M := model prog w) X (e10 _)
  have top : Looks (model prog w) h (isSubtype (.ref C) (.type "object")) true := Looks.of_peek (M := model prog w) X (e11 _)
  have here : Looks (model prog w) h (Bind.madeHere "object.__new__" (.ref C)) () := base.andThen (made.andThen (Looks.of_pure (by simp only [Option.map_some, bne_self_eq_false, Bool.false_eq_true, if_false])))
  have hC' := X _ _ hC
  refine codeAny_call_builtin_code (Code.quiet_builtin _ F.quiet) ?_
  simp only [checkBuiltinCall, F.kind, F.split, F.row]
  have args : Bind.checkArgs "object.__new__" ⟨.hand, "object.__new__", "__new__", .cls, []⟩ ⟨[.ref C], []⟩ = pure () := by kernel_rfl
  rw [args]
  repeat (first | simp only [bne_self_eq_false, Bool.false_eq_true, if_false] | lk)
  refine codeAny_builtin F.entry ?_
  unfold Builtin.«object.__new__»
  have fin : ∀ A', wpAny (model prog w) A' (do
      let d ← if typeHasDict (.ref C) then some <$> alloc { cls := .type "dict", data := .dict #[] } else pure none
      ret (← newObj (.ref C) .plain d)) (fun fin s' => match fin with | .done f => R (.ok f) s' | .again c' => c'.quiet = true ∧ codeAny (model prog w) A c' R s') (fun e s' => R (.error e) s') ⟨h, g, d, t, os⟩ := by
    intro A'
    show wpAny _ _ ((alloc emptyDict >>= fun x => pure (some x)) >>= _) _ _ _
    refine wpAny_bind (wpAny_bind (wpAny_alloc (wpAny_pure (wpAny_bind ?_))))
    show wpAny _ _ (newObjAsIs _ _ _) _ _ _
    unfold newObjAsIs classHasDel
    refine wpAny_bind (wpAny_alloc (wpAny_bind (wpAny_bind (wpAny_load (Heap.get?_push_of_some _ (Heap.get?_push_of_some _ hC')) (wpAny_pure ?_)))))
    rw [e2]
    refine wpAny_pure (wpAny_pure ?_)
    show R _ _
    rw [Heap.size_push]
    exact hq
  repeat (first | simp only [e1, Bool.false_eq_true, if_false] | exact fin _ | lk)
end
section
variable {prog : Program} {w : World} {A : Around} {K : Frag} {C L : Addr} {E : Value → Shared → Prop} {s : Shared} {h₀ : Heap} {m : Str → Option Value} {news : List (Addr × Obj)}
theorem objnew_N {Q : Value → Shared → Prop} {oc : Value} {od : Option Addr} {cd : ClassData} {sl : Array (Option Value)} (F : Fr h₀ L s.heap m) (X₀ : K.In h₀) (N : News h₀ L s.heap news) (hC : K.lookup C = some ⟨oc, od, .cls cd, sl⟩) (e1 : cd.abstract = false) (e2 : cd.hasDel = false)
    (e8 : instIn K (.ref C) (.type "type") = some true) {bv : Value} (e9 : ∀ S, peek K S (Bind.staticBase (.ref C)) = some bv) (e10 : ∀ S, peek K S (Bind.madeBy bv) = some (some "object.__new__")) (e11 : ∀ S, peek K S (isSubtype (.ref C) (.type "object")) = some true)
    (h : ∀ x dx h', Fr h₀ L h' m → News h₀ L h' ((x, instObj C dx) :: (dx, dictOf [] 0) :: news) → (∀ p ∈ news, p.1 < dx) → dx < x → Q (.ref x) { s with heap := h' }) :
    wpAny (model prog w) A (call (.builtin "object.__new__") [.ref C]) Q E s := by
  refine wpAny_call ?_
  have X := X₀.keeps F.keep
  obtain ⟨hh, g, d, t, os⟩ := s
  have N' := (N.push F (dictOf [] 0)).push (F.push _) (instObj C hh.objs.size)
  rw [Heap.size_push] at N'
  exact objnew_K X hC e1 e2 e8 e9 e10 e11 (h _ _ _ ((F.push _).push _) N' (fun p hp => Heap.lt_size (N p hp).1) (Nat.lt_succ_self _))
end
end Mine
end

section
namespace Mine
open PySem PySem.W PySem.Calls PyProof.Rows PySem.Builtin
section
variable {prog : Program} {w : World} {A : Around} {E : Value → Shared → Prop} {s : Shared} {h₀ : Heap} {L : Addr} {m : Str → Option Value} {news : List (Addr × Obj)}
theorem news_new {h h' : Heap} {a : Addr} {o : Obj} (F : Fr h₀ L h m) (N : News h₀ L h news) (ha : h'.get? a = some o) (hf : h.get? a = none) (hk : ∀ x o, h.get? x = some o → h'.get? x = some o) : News h₀ L h' ((a, o) :: news) := by
  intro p hp
  rcases List.mem_cons.mp hp with rfl | hp
  · refine ⟨ha, fun e => ?_, ?_⟩
    · obtain ⟨oL, _, _, hL, _⟩ := F.ns
      have e : a = L := e
      rw [← e, hf] at hL; cases hL
    · cases q : h₀.get? a with
      | none => rfl
      | some x => rw [F.keep _ _ q] at hf; cases hf
  · exact ⟨hk _ _ (N p hp).1, (N p hp).2⟩
theorem baS_new0_N {Q : Value → Shared → Prop} (F : Fr h₀ L s.heap m) (N : News h₀ L s.heap news) (h : ∀ a h', Fr h₀ L h' m → News h₀ L h' ((a, baObj #[]) :: news) → (∀ p ∈ news, p.1 < a) → Q (.ref a) { s with heap := h' }) :
    wpS (model prog w) A (call (.type "bytearray") []) Q E s :=
  baS_new0 fun h' ha hk => h _ h' (F.keptAll hk) (news_new F N ha (Heap.get?_none_of_le (Nat.le_refl _)) hk) fun p hp => Heap.lt_size (N p hp).1
theorem callWithS_T0 {M : Model} {T : String} {first : List Value} {env : Env} {pos : Pos} {Q : Value → Shared → Prop} (h : wpS M A (call (.type T) (first ++ [])) Q E s) : wpS M A (callWith pos (.type T) first (backTo pos (starEach [] env)) []) Q E s :=
  callWithS_of (P := fun _ => True) rfl (fun _ _ => ⟨.machine, .inr (.inl rfl), Looks.of_pure rfl⟩) (wpS_of (evalArgs_nil3 ⟨trivial, h⟩))
end
end Mine
end

section
namespace Mine
open PySem PySem.W PySem.Calls PyProof.Rows PySem.Builtin

theorem under_tc {dp un : Nat} {cn : Str} {cs : Scope} {L a C : Addr} {ccd : Value} {cl : List (Str × Addr)} {outer : List Env} :
    (ktrTop dp un (some []) cn cs L a ccd cl outer).under (.builtin "type.__call__" ⟨[.ref C], []⟩) = ktrTop (dp + 1) (un + 1) (some []) cn cs L a ccd cl outer := by
  have h1 : (Code.builtin "type.__call__" ⟨[.ref C], []⟩).isGuard = false := by show guardIds.contains "type.__call__" = false; decide +kernel
  have h2 : (Code.builtin "type.__call__" ⟨[.ref C], []⟩).isFrame = false := by rfl
  have h3 : (Code.builtin "type.__call__" ⟨[.ref C], []⟩).frames = 0 := by rfl
  have hw : (Code.builtin "type.__call__" ⟨[.ref C], []⟩).weight = 1 := by
    unfold Code.weight
    rw [h3, h1]
    rfl
  have hg : (Code.builtin "type.__call__" ⟨[.ref C], []⟩).guards = [] := by unfold Code.guards; rw [h1]; rfl
  have he : (Code.builtin "type.__call__" ⟨[.ref C], []⟩).envs = [] := by unfold Code.envs; rw [h2]; rfl
  have hu : (Code.builtin "type.__call__" ⟨[.ref C], []⟩).cUnits = 1 := by show 1 + 3 * _ = 1; rw [h3]
  unfold Around.under
  rw [hw, hg, he, hu]
  rfl

section
variable {prog : Program} {w : World} {A : Around} {E : Value → Shared → Prop} {s : Shared} {R : Result → Shared → Prop}
theorem codeS_call_builtin_at {id : String} {args : Args} {b : Builtin} (hq : (Code.builtin id args).quiet = true) (hb : entryFor table id = some b) (hh : Harm (.builtin id args))
    (h : wpAny (model prog w) A.in1 (checkBuiltinCall id args) (fun _ s₁ => wpS (model prog w) (A.under (.builtin id args)) (b args)
      (fun fin s' => match fin with | .done f => R (.ok f) s' | .again c' => c'.quiet = true ∧ codeS (model prog w) A c' R s') (fun e s' => R (.error e) s') s₁)
      (fun e s' => R (.error e) s') s) : codeS (model prog w) A (.call (.builtin id) args) R s := by
  refine codeS_of_tree (harm_call _ _) ?_
  show wpS _ A.in1 (do checkBuiltinCall id args; again (.builtin id args)) _ _ s
  exact wpS_lbind (wpAny_mono h (fun _ s₁ h₁ => wpS_pure (And.intro hq (codeS_builtin hb hh h₁))) fun _ _ h' => h')

theorem makeS_own {K : Frag} {C fN fI p : Addr} {oc : Value} {od : Option Addr} {cd : ClassData} {sl : Array (Option Value)} {mc : Value} {rest : List Value} {mro : List Value} {Q : Value → Shared → Prop} {h₀ : Heap} {L : Addr} {m : Str → Option Value}
    (F : Fr h₀ L s.heap m) (X₀ : K.In h₀) (hC : K.lookup C = some ⟨oc, od, .cls cd, sl⟩) (hcall : specialIn K (.ref C) "__call__" = some (some (.builtin "type.__call__"))) (htyp : instIn K (.ref C) (.type "type") = some true)
    (hmro : ∀ S, peek K S (mroOf (.ref C)) = some mro) (hne : mro.isEmpty = false) (hmade : ∀ S, peek K S (Bind.madeBy (.ref C)) = some none)
    (hm : typeIn K (.ref C) = some mc) (hr : readsIn K C mc = true) (e : findCls K (.ref C) mc "__new__" = some (.get (.builtin "staticmethod.__get__") (.ref p) .none (.ref C))) (hp : recIn K p "staticmethod" = some (.ref fN :: rest))
    (hself : ∀ S, peek K S (isSubtype (.ref C) (.ref C)) = some true) (hinit : findIn K (.ref C) "__init__" = some (some (.ref fI))) (hfn : typeIn K (.ref fI) = some (.type "function"))
    (hnew : ∀ tk, wpAny (model prog w) (A.under (.builtin "type.__call__" ⟨[.ref C], []⟩)) (call (.ref fN) [.ref C]) (fun v s₁ => ∃ x, v = .ref x ∧ K.In s₁.heap ∧ (∃ o, s₁.heap.get? x = some o ∧ o.cls = .ref C) ∧
      wpS (model prog w) (A.under (.builtin "type.__call__" ⟨[.ref C], []⟩)) (call (.ref fI) [.ref x]) (fun r s₂ => r = .none ∧ Q (.ref x) s₂) E s₁) E { s with toks := tk }) :
    wpS (model prog w) A (call (.ref C) []) Q E s := by
  have X := X₀.keeps F.keep
  refine wpS_call (codeS_of_tree (harm_call _ _) ?_)
  show wpS _ _ (callAny (.ref C) _) _ _ _
  simp only [callAny]
  refine wpS_lbind (wpAny_load (X _ _ hC) ?_)
  show wpS _ _ (callAny.viaDunder (.ref C) _) _ _ _
  unfold callAny.viaDunder
  refine wpS_lbind ((looks_specialIn (M := model prog w) X hcall).here ?_)
  dsimp only
  rw [tc_bind]
  refine wpS_lbind (wpAny_pure ?_)
  refine wpS_lbind (m := callAny.plainCallee _) (wpAny_of_eq (a := true) rfl ?_)
  rw [if_pos rfl]
  refine wpS_pure (a := PySem.Fin.again (.call (.builtin "type.__call__") ⟨[.ref C], []⟩)) ⟨rfl, ?_⟩
  refine codeS_call_builtin_at (Code.quiet_builtin _ (by decide +kernel)) entry_typeCall (harm_type _ _) (check_slot tc_kind tc_split (looks_instIn (M := model prog w) X htyp) (tc_args _ _ _) ?_)
  unfold Builtin.«type.__call__»
  have h1 : ((Value.ref C == Value.type "type") : Bool) = false := rfl
  simp only [h1, Bool.false_eq_true, if_false]
  refine wpS_lbind (m := mroOf _) ((Looks.of_peek (M := model prog w) X (hmro _)).here ?_)
  rw [hne, if_neg (by decide)]
  refine wpS_lbind (m := Bind.madeBy _) ((Looks.of_peek (M := model prog w) X (hmade _)).here ?_)
  dsimp only
  refine wpS_lbind (m := getAttr _ _) (cls_sm F X₀ hm hr e hp rfl ?_)
  refine wpS_lbind (m := holding _ _) (wpAny_holding (wpAny_mono (hnew _) (fun v s₁ hv => ?_) fun _ _ x => x))
  obtain ⟨x, rfl, X₁, ⟨o, ho, hc⟩, hi⟩ := hv
  have tx : Looks (model prog w) s₁.heap (typeOf (.ref x)) (.ref C) := by
    rw [← hc]
    exact (Looks.ld (part := none) ho).andThen .now
  have isx : Looks (model prog w) s₁.heap (isInstance (.ref x) (.ref C)) true := tx.andThen (Looks.of_peek (M := model prog w) X₁ (hself _))
  refine wpS_lbind (m := isInstance _ _) (isx.here ?_)
  rw [if_neg (by decide)]
  have sp : wpS (model prog w) (A.under (.builtin "type.__call__" ⟨[.ref C], []⟩)) (callSpecial? (.ref x) "__init__") (fun r s₂ => r = some .none ∧ Q (.ref x) s₂) E s₁ := by
    refine wpS_lbind (wpAny_bind (tx.here ((looks_findIn (M := model prog w) X₁ hinit).here ?_)))
    refine wpS_holding (wpS_lbind ((bind_fn (M := model prog w) X₁ _ hfn).here ?_))
    exact wpS_bind (wpS_mono hi (fun r s₂ hr => wpS_pure ⟨by rw [hr.1], hr.2⟩) fun _ _ z => z)
  refine wpS_bind (m := holding _ _) (wpS_holding (wpS_mono sp (fun r s₂ hr => ?_) fun _ _ x => x))
  obtain ⟨rfl, hq⟩ := hr
  dsimp only
  rw [if_neg (by decide)]
  exact wpS_pure hq
end
end Mine
end

section
namespace Mine
open PySem PySem.W PySem.Calls PyProof.Rows PySem.Builtin

theorem dict_sub_self : isSubtype (.type "dict") (.type "dict") = pure true := by rw [isSubtype_type]; kernel_rfl
theorem dict_iter : typeLookup (.type "dict") "__iter__" = pure (some (.builtin "dict.__iter__")) := by rw [typeLookup_type, builtinLookup_eq_fast]; kernel_rfl

section
variable {prog : Program} {w : World} {M : Model} {A : Around} {E : Value → Shared → Prop} {s : Shared} {h₀ : Heap} {L D d : Addr} {m : Str → Option Value} {news : List (Addr × Obj)} {f : Value} {n k : Nat}
theorem evalArgs_skw {x : Sem Value} {rest : List (Bool × Sem Value)} {kws : List (Option Str × Sem Value)} {Q : Args → Shared → Prop} (hkw : kws.all (·.1.isSome) = false)
    (h : wpAny M A (spliced ((false, x) :: rest)) (fun vs s₁ => wpAny M A (mergedKeywords f kws) (fun d s₂ => wpAny M A (keywordsIn f d) (fun kw s₃ => Q ⟨vs, kw⟩ s₃) E s₂) E s₁) E s) :
    wpAny M A (evalArgs f true ((false, x) :: rest) kws) Q E s := by
  unfold evalArgs
  show wpAny M A (spliced ((false, x) :: rest) >>= _) Q E s
  refine wpAny_bind (wpAny_mono h (fun vs s' h' => ?_) fun _ _ x => x)
  refine wpAny_bind (wpAny_pure ?_)
  dsimp only
  refine wpAny_holding ?_
  rw [hkw, if_neg (by decide)]
  refine wpAny_bind (wpAny_mono h' (fun d s₂ h₂ => ?_) fun _ _ x => x)
  refine wpAny_bind (m := pure vs) (wpAny_pure ?_)
  exact wpAny_bind (wpAny_holding (wpAny_mono h₂ (fun kw s₃ h₃ => wpAny_pure h₃) fun _ _ x => x))
theorem keywordsIn_nil {Q : List (Str × Value) → Shared → Prop} (h : s.heap.get? d = some (dictOf [] n)) (q : Q [] s) : wpAny M A (keywordsIn f d) Q E s := by
  unfold keywordsIn
  refine wpAny_bind (wpAny_dictEntries h rfl ?_)
  show wpAny M A (forIn (#[] : Array DictEntry) _ _ >>= _) Q E s
  exact wpAny_bind (wpAny_of_eq (by rfl) (wpAny_pure q))
theorem merge_nil {Q : Unit → Shared → Prop} (hd : s.heap.get? d = some (dictOf [] n)) (hD : s.heap.get? D = some (dictOf [] k)) (nm : (D == sysModules) = false) (q : Q () s) : wpAny M A (mergeMapping d (.ref D) true) Q E s := by
  have hT : s.TypeIs (.ref D) "dict" := ⟨_, hD, rfl⟩
  unfold mergeMapping
  refine wpAny_bind (wpAny_isInstance hT dict_sub_self ?_)
  rw [if_pos rfl]
  refine wpAny_bind (wpAny_specialOf hT dict_iter ?_)
  refine wpAny_bind (wpAny_pure ?_)
  dsimp only
  rw [show ((some (Value.builtin "dict.__iter__") == some (Value.builtin "dict.__iter__")) : Bool) = true from by decide +kernel]
  dsimp only
  rw [nm, if_neg (by decide)]
  refine wpAny_bind (wpAny_dictEntries hd rfl ?_)
  rw [if_pos (by rfl)]
  refine wpAny_bind (wpAny_dictEntries hD rfl ?_)
  refine wpAny_bind (wpAny_of_eq (a := PUnit.unit) (by rfl) ?_)
  refine wpAny_bind (wpAny_dictEntries hD rfl ?_)
  refine wpAny_bind (wpAny_dictEpoch hD rfl ?_)
  refine wpAny_bind (wpAny_of_eq (a := PUnit.unit) (by rfl) ?_)
  exact wpAny_pure q
theorem mergedK_N {t : Sem Value} {Q : Addr → Shared → Prop} (F : Fr h₀ L s.heap m) (N : News h₀ L s.heap news)
    (h : ∀ d h', Fr h₀ L h' m → News h₀ L h' ((d, dictOf [] 0) :: news) → (∀ p ∈ news, p.1 < d) →
      wpAny M A t (fun kv s₂ => ∃ D k n, kv = .ref D ∧ s₂.heap.get? D = some (dictOf [] k) ∧ s₂.heap.get? d = some (dictOf [] n) ∧ (D == sysModules) = false ∧ Q d s₂) E { s with heap := h' }) :
    wpAny M A (mergedKeywords f [(none, t)]) Q E s := by
  unfold mergedKeywords
  refine wpAny_bind (wpAny_alloc ?_)
  have z := h _ _ (F.push (dictOf [] 0)) (N.push F (dictOf [] 0)) (fun p hp => Heap.lt_size (N p hp).1)
  refine wpAny_bind (wpAny_holding ?_)
  dsimp only
  rw [List.forIn_cons]
  refine wpAny_bind ?_
  refine wpAny_bind ?_
  dsimp only
  refine wpAny_bind ?_
  rw [if_pos (by rfl)]
  refine wpAny_pure ?_
  refine wpAny_bind (wpAny_mono z (fun kv s₂ hkv => ?_) fun _ _ x => x)
  obtain ⟨D, k, n, rfl, hD, hd, nm, q⟩ := hkv
  refine wpAny_bind (wpAny_onRaise (wpAny_holding (wpAny_tryCatch (wpAny_onRaise (merge_nil hd hD nm ?_)))))
  refine wpAny_pure ?_
  dsimp only
  rw [List.forIn_nil]
  refine wpAny_pure ?_
  rw [if_pos (by rfl)]
  refine wpAny_pure ?_
  exact wpAny_pure q
end
end Mine
end

section
namespace Mine
open PySem PySem.W PySem.Calls PyProof.Rows PySem.Builtin
section
variable {w : World} {prog : Program} {A : Around} {E : Value → Shared → Prop} {s : Shared} {env : Env} {pos : Pos} {f : Value} {first : List Value} {Q : Value → Shared → Prop} {e : PySem.Expr} {rest : List PySem.Expr}
theorem cK (hk : keepIn (MineH.hd.heap_39 w.params) f = true) (h : wpAny (model prog w) A (spliced (backTo pos (starEach (e :: rest) env))) (fun vs s₁ => (MineH.hd.heap_39 w.params).In s₁.heap ∧ wpS (model prog w) A (call f (first ++ vs)) Q E s₁) E s)
    (he : starEach (e :: rest) env = (false, eval e env) :: starEach rest env := by rfl) (hplain : (backTo pos (starEach rest env)).any (·.1) = false := by rfl) :
    wpS (model prog w) A (callWith pos f first (backTo pos (starEach (e :: rest) env)) []) Q E s := callWithS_K hk h he hplain
theorem cK0 (X : (MineH.hd.heap_39 w.params).In s.heap) (hk : keepIn (MineH.hd.heap_39 w.params) f = true) (h : wpS (model prog w) A (call f (first ++ [])) Q E s) : wpS (model prog w) A (callWith pos f first (backTo pos (starEach [] env)) []) Q E s := callWithS_K0 X hk h
theorem cK1 (hk : keepIn (MineH.hd.heap_39 w.params) f = true) (h : wpS (model prog w) A (eval e env) (fun v s₁ => (MineH.hd.heap_39 w.params).In s₁.heap ∧ wpS (model prog w) A (call f (first ++ [v])) Q E s₁) E s)
    (he : starEach [e] env = [(false, eval e env)] := by rfl) :
    wpS (model prog w) A (callWith pos f first (backTo pos (starEach [e] env)) []) Q E s := callWithS_1 hk h he
end
end Mine
end

section
namespace Mine
open PySem PySem.W PySem.Calls PyProof.Rows PySem.Builtin
section
variable {w : World} {prog : Program} {M : Model} {A : Around} {E : Value → Shared → Prop} {R : Result → Shared → Prop} {s : Shared} {env : Env} {pos : Pos} {f : Value} {first : List Value} {Q : Value → Shared → Prop} {e : PySem.Expr} {rest : List PySem.Expr} {name : Str} {K : Frag}
/-- o.name(*args): the object and the bound method are leaves -/
theorem methodAttrS {o : PySem.Expr} {apos : Pos} {args : List PySem.Expr} {kws : List Keyword}
    (h : wpAny M A (eval o env) (fun ov s₁ => wpAny M A (getAttr ov name true) (fun f s₂ => wpS M A (callWith pos f [] (backTo pos (starEach args env)) (backToKw pos (keywordEach kws env))) Q E s₂) E s₁) E s)
    (he : eval (.Call (.Attribute o name apos) args kws pos) env = (do
      let ov ← eval o env
      standAt apos.atName
      let (f, first) ← holding [ov] (do pure (← getAttr ov name true, []))
      callWith pos f first (backTo pos (starEach args env)) (backToKw pos (keywordEach kws env))) := by rfl) :
    wpS M A (eval (.Call (.Attribute o name apos) args kws pos) env) Q E s := by
  rw [he]
  refine wpS_lbind (wpAny_mono h (fun ov s₁ h₁ => wpS_lbind (wpAny_standAt (wpS_lbind (wpAny_holding (wpAny_bind (wpAny_mono h₁ (fun fx s₂ h₂ => wpAny_pure ?_) fun _ _ x => x)))))) fun _ _ x => x)
  exact h₂
theorem codeS_method {q : Addr} {f self : Value} {pos : List Value} {kw : List (Str × Value)} (ho : s.heap.get? q = some (methodObj f self))
    (h : codeS (model prog w) A (.call f ⟨self :: pos, kw⟩) R s) : codeS (model prog w) A (.call (.ref q) ⟨pos, kw⟩) R s := by
  refine codeS_of_tree (harm_call _ _) ?_
  show wpS _ _ (callAny (.ref q) _) _ _ _
  simp only [callAny]
  refine wpS_lbind (wpAny_load ho ?_)
  cases f <;> exact wpS_pure ⟨rfl, h⟩
theorem cStarM {q g : Addr} {self : Value} {args : List (Bool × Sem Value)} {keywords : List (Option Str × Sem Value)} (hf : fnIn K g = true) (hst : (args.any (·.1) || keywords.any (·.1.isNone)) = true)
    (h : wpS M A (evalArgs (.ref q) true args keywords) (fun a s₁ => MethP K q g self s₁.heap ∧ wpS M A (call (.ref q) (first ++ a.pos) a.kw) Q E s₁) E s) : wpS M A (callWith pos (.ref q) first args keywords) Q E s :=
  callWithS_star hst (keeps_M hf) h
theorem nget {h₀ h : Heap} {L a : Addr} {o : Obj} {news : List (Addr × Obj)} (N : News h₀ L h news) (hm : (a, o) ∈ news) : h.get? a = some o := (N _ hm).1
theorem evalArgs_skwB {kws : List (Option Str × Sem Value)} {Q : Args → Shared → Prop} (hkw : kws.all (·.1.isSome) = false)
    (h : wpAny M A (spliced (backTo pos (starEach (e :: rest) env))) (fun vs s₁ => wpAny M A (mergedKeywords f kws) (fun d s₂ => wpAny M A (keywordsIn f d) (fun kw s₃ => Q ⟨vs, kw⟩ s₃) E s₂) E s₁) E s)
    (he : starEach (e :: rest) env = (false, eval e env) :: starEach rest env := by rfl) :
    wpAny M A (evalArgs f true (backTo pos (starEach (e :: rest) env)) kws) Q E s := by
  rw [he] at h ⊢
  exact evalArgs_skw hkw h
end
end Mine
end

section
namespace Mine
open PySem PySem.W PySem.Calls PyProof.Rows PySem.Builtin
def KV (n lo : Int) (any : Bool) : Prop := 0 ≤ lo ∧ lo ≤ 3 ∧ n = lo + (if any then 128 else 0)
def KBad (n : Int) : Prop := ¬(0 ≤ n ∧ n ≤ 3) ∧ ¬(128 ≤ n ∧ n ≤ 131)
end Mine
end

section
namespace Mine
open PySem PySem.W PySem.Calls PyProof.Rows PySem.Builtin
theorem nat_and128 (n : Nat) : n &&& 128 = 0 ∨ n &&& 128 = 128 := by
  have h : n &&& 128 = (n % 256) &&& 128 := by
    apply Nat.eq_of_testBit_eq
    intro i
    rw [Nat.testBit_and, Nat.testBit_and, show (256 : Nat) = 2 ^ 8 from rfl, Nat.testBit_mod_two_pow]
    by_cases hi : i < 8
    · simp [hi]
    · have : Nat.testBit 128 i = false := by
        apply Nat.testBit_lt_two_pow
        calc (128 : Nat) < 2 ^ 8 := by decide
          _ ≤ 2 ^ i := Nat.pow_le_pow_right (by decide) (by omega)
      simp [this]
  rw [h]
  have : ∀ k : Fin 256, k.val &&& 128 = 0 ∨ k.val &&& 128 = 128 := by decide +kernel
  exact this ⟨n % 256, Nat.mod_lt _ (by decide)⟩
theorem bitAnd_128 (n : Int) : bitAnd n 128 = 0 ∨ bitAnd n 128 = 128 := by
  unfold bitAnd
  by_cases h : 0 ≤ n
  · simp only [h, decide_true, show (0:Int) ≤ 128 from by decide]
    rcases nat_and128 n.toNat with e | e
    · left; show ((n.toNat &&& 128 : Nat) : Int) = 0; rw [e]; rfl
    · right; show ((n.toNat &&& 128 : Nat) : Int) = 128; rw [e]; rfl
  · simp only [h, decide_false, decide_true, show (0:Int) ≤ 128 from by decide]
    rcases nat_and128 (bitNot n).toNat with e | e
    · right; show 128 - ((128 &&& (bitNot n).toNat : Nat) : Int) = 128; rw [Nat.and_comm, e]; rfl
    · left; show 128 - ((128 &&& (bitNot n).toNat : Nat) : Int) = 0; rw [Nat.and_comm, e]; rfl
theorem and_low {n : Int} (h : 0 ≤ n ∧ n ≤ 3) : bitAnd n 128 = 0 := by
  have : n = 0 ∨ n = 1 ∨ n = 2 ∨ n = 3 := by omega
  rcases this with rfl | rfl | rfl | rfl <;> decide +kernel
theorem and_high {n : Int} (h : 128 ≤ n ∧ n ≤ 131) : bitAnd n 128 = 128 := by
  have : n = 128 ∨ n = 129 ∨ n = 130 ∨ n = 131 := by omega
  rcases this with rfl | rfl | rfl | rfl <;> decide +kernel
theorem xor_high {n : Int} (h : bitAnd n 128 ≠ 0) : bitXor n 128 = n - 128 := by
  have e := PyProof.Rows.bitXor_and n 128
  rcases bitAnd_128 n with z | z
  · exact (h z).elim
  · rw [e, z]; omega
theorem kv_high {n : Int} (h : bitAnd n 128 ≠ 0) (m : ([0, 1, 2, 3].any fun x => x == bitXor n 128) = true) : KV n (bitXor n 128) true := by
  rw [xor_high h] at m ⊢
  simp only [List.any_cons, List.any_nil, Bool.or_false, Bool.or_eq_true, beq_iff_eq] at m
  refine ⟨by omega, by omega, by simp⟩
theorem kv_low {n : Int} (m : ([0, 1, 2, 3].any fun x => x == n) = true) : KV n n false := by
  simp only [List.any_cons, List.any_nil, Bool.or_false, Bool.or_eq_true, beq_iff_eq] at m
  refine ⟨by omega, by omega, by simp⟩
theorem kbad_high {n : Int} (h : bitAnd n 128 ≠ 0) (m : ([0, 1, 2, 3].any fun x => x == bitXor n 128) = false) : KBad n := by
  rw [xor_high h] at m
  simp only [List.any_cons, List.any_nil, Bool.or_false, Bool.or_eq_false_iff, beq_eq_false_iff_ne] at m
  exact ⟨fun z => h (and_low z), by omega⟩
theorem kbad_low {n : Int} (h : bitAnd n 128 = 0) (m : ([0, 1, 2, 3].any fun x => x == n) = false) : KBad n := by
  simp only [List.any_cons, List.any_nil, Bool.or_false, Bool.or_eq_false_iff, beq_eq_false_iff_ne] at m
  exact ⟨by omega, fun z => by rw [and_high z] at h; cases h⟩
theorem kv_fun {n l1 l2 : Int} {a1 a2 : Bool} (x : KV n l1 a1) (y : KV n l2 a2) : l1 = l2 ∧ a1 = a2 := by
  obtain ⟨x1, x2, x3⟩ := x
  obtain ⟨y1, y2, y3⟩ := y
  cases a1 <;> cases a2 <;> simp at x3 y3 ⊢ <;> omega
theorem kv_bad {n l : Int} {a : Bool} (x : KV n l a) (y : KBad n) : False := by
  obtain ⟨x1, x2, x3⟩ := x
  obtain ⟨y1, y2⟩ := y
  cases a <;> simp at x3 <;> omega
theorem eq_high {n lo : Int} {any : Bool} (h : bitAnd n 128 ≠ 0) (m : ([0, 1, 2, 3].any fun x => x == bitXor n 128) = true) (kv : KV n lo any) : (bitXor n 128 == lo && true == any) = true := by
  obtain ⟨q1, q2⟩ := kv_fun (kv_high h m) kv
  rw [← q1, ← q2]; simp only [beq_self_eq_true, Bool.and_self]
theorem eq_low {n lo : Int} {any : Bool} (m : ([0, 1, 2, 3].any fun x => x == n) = true) (kv : KV n lo any) : (n == lo && false == any) = true := by
  obtain ⟨q1, q2⟩ := kv_fun (kv_low m) kv
  rw [← q1, ← q2]; simp only [beq_self_eq_true, Bool.and_self]
theorem sq_1 {any : Bool} {lo turn : Int} (h : any = true) : (0 : Int) = if any = true ∨ lo = 2 ∨ lo = 3 then 0 else turn := (if_pos (.inl h)).symm
theorem sq_2 {any : Bool} {lo turn : Int} (h : ([3, 2].any fun x => x == lo) = true) : (0 : Int) = if any = true ∨ lo = 2 ∨ lo = 3 then 0 else turn := by
  simp only [List.any_cons, List.any_nil, Bool.or_false, Bool.or_eq_true, beq_iff_eq] at h
  exact (if_pos (.inr (by omega))).symm
theorem sq_3 {any : Bool} {lo turn : Int} (h0 : any = false) (h : ([3, 2].any fun x => x == lo) = false) : turn = if any = true ∨ lo = 2 ∨ lo = 3 then 0 else turn := by
  simp only [List.any_cons, List.any_nil, Bool.or_false, Bool.or_eq_false_iff, beq_eq_false_iff_ne] at h
  refine (if_neg ?_).symm
  rintro (z | z)
  · rw [h0] at z; cases z
  · omega
end Mine
end

section
namespace Mine
open PySem PySem.W PySem.Calls PyProof.Rows PySem.Builtin
section
variable {prog : Program} {w : World} {M : Model} {A : Around} {E : Value → Shared → Prop} {s : Shared} {h₀ : Heap} {L r : Addr} {m : Str → Option Value} {news rest : List (Addr × Obj)} {b : Array UInt8} {t : Tok}
theorem fr_but {h h' : Heap} (F : Fr h₀ L h m) (hk : ∀ x o, x ≠ r → h.get? x = some o → h'.get? x = some o) (hL : r ≠ L) (h0 : h₀.get? r = none) : Fr h₀ L h' m := by
  obtain ⟨oL, es, ep, q, hd, hlk, hlf⟩ := F.ns
  exact ⟨⟨oL, es, ep, hk _ _ (Ne.symm hL) q, hd, hlk, hlf⟩, fun b o e => hk b o (fun z => by rw [z, h0] at e; cases e) (F.keep b o e), F.above⟩
theorem reversed_N {Q : Value → Shared → Prop} (F : Fr h₀ L s.heap m) (N : News h₀ L s.heap news) (hz : b.size ≤ 1099511627776)
    (q : ∀ r h' tk, Fr h₀ L h' m → News h₀ L h' ((r, rvObj b t ((b.size : Int) - 1)) :: news) → (∀ p ∈ news, p.1 < r) → Q (.ref r) { s with heap := h', toks := tk }) :
    wpAny (model prog w) A (call (.type "reversed") [.bytes b t]) Q E s :=
  reversed_bytes hz fun tk => q _ _ tk (F.push _) (N.push F _) fun p hp => Heap.lt_size (N p hp).1
theorem bytes_rv_N {Q : Value → Shared → Prop} (F : Fr h₀ L s.heap m) (N : News h₀ L s.heap news) (hm : (r, rvObj b t ((b.size : Int) - 1)) ∈ news) (hr : ∀ p ∈ rest, p ∈ news ∧ p.1 ≠ r) (hz : b.size ≤ sizeLine) (hh : A.handled = none)
    (q : ∀ h' u k, Fr h₀ L h' m → News h₀ L h' rest → Q (.bytes (rvAt b 0) u) { s with heap := h', toks := k }) :
    wpAny (model prog w) A (call (.type "bytes") [.ref r]) Q E s :=
  bytes_rv hh (N _ hm).1 hz fun h' u k hk => q h' u k (fr_but F hk (N _ hm).2.1 (N _ hm).2.2) fun p hp => ⟨hk _ _ (hr p hp).2 (N p (hr p hp).1).1, (N p (hr p hp).1).2⟩
end
end Mine
end

section
namespace Mine
open PySem PySem.W PySem.Calls PyProof.Rows PyProof.V PySem.Builtin
/-- b[::-1] -/
def backOf (b : Array UInt8) : Array UInt8 := Bytes.sliced b (sliceBounds none none (some (-1)) b.size).1 (sliceBounds none none (some (-1)) b.size).2.1 (sliceBounds none none (some (-1)) b.size).2.2
local macro_rules | `(tactic| walk_at "my none") => `(tactic| (refine wpAny_bind (wpAny_of_eq (a := Value.none) rfl ?_)))
local macro_rules | `(tactic| walk_at "my int") => `(tactic| ((refine wpAny_bind (wpAny_ite (KBy.ite_no (show ¬ ((Value.int _ _ == Value.none) = true) from Bool.false_ne_true) ?_))); (refine wpAny_bind (wpAny_specialOf (T := "int") (typeIs_int _ _ _) PySem.F.slot_int_index.lookup ?_)); (refine wpAny_ite (KBy.ite_no (show ¬ (Option.isNone (some _) = true) from Bool.false_ne_true) ?_)); (refine wpAny_bind (wpAny_of_eq rfl (wpAny_pure ?_)))))
theorem meets_back (b : Array UInt8) (t ts : Tok) (a : Addr) (hw : ((sliceBounds none none (some (-1)) b.size).1 == 0 && (sliceBounds none none (some (-1)) b.size).2.2 == 1 && (sliceBounds none none (some (-1)) b.size).2.1 == b.size && !b.isEmpty) = false) :
    Meets (Builtin.«bytes.__getitem__» ⟨[.bytes b t, .ref a], []⟩) (fun _ R s => s.heap.IsSliceOf a .none .none (.int (-1) ts) ∧ (backOf b).size ≤ sizeLine ∧ ∀ t' k, R (.ok (.ret (.bytes (backOf b) t'))) { s with toks := k }) := by
  refine .of_wp fun prog w A R s hS => ?_
  obtain ⟨⟨o, ho, hc, hd⟩, hsz, h⟩ := hS
  have hT : s.TypeIs (.ref a) "slice" := ⟨o, ho, hc⟩
  show wpAny _ _ (Bytes.payload (.bytes b t) >>= fun r => _) _ _ s
  refine wpAny_bind (wpAny_of_eq (a := b) rfl ?_)
  show wpAny _ _ (Bytes.subscript? (.ref a) >>= fun r => _) _ _ s
  refine wpAny_bind ?_
  unfold Bytes.subscript?
  refine wpAny_bind (wpAny_specialOf hT slice_no_index (wpAny_pure ?_))
  refine wpAny_bind (wpAny_typeOf hT ?_)
  show wpAny _ _ (Bytes.sliceParts (.ref a) >>= fun r => _) _ _ s
  refine wpAny_bind ?_
  unfold Bytes.sliceParts
  refine wpAny_bind (wpAny_field (x := .int (-1) ts) ho hd rfl ?_)
  walk_at "my int"
  refine wpAny_ite (KBy.ite_no (show ¬ ((rawInt (-1) == rawInt 0) = true) from by decide) ?_)
  refine wpAny_bind (wpAny_field (x := .none) ho hd rfl ?_)
  walk_at "my none"
  refine wpAny_bind (wpAny_field (x := .none) ho hd rfl ?_)
  walk_at "my none"
  refine wpAny_pure ?_
  have go : wpAny (model prog w) A.in1 (sliceIndices (rawPart none) (rawPart none) (rawPart (some (-1))) b.size) (fun r s' => r = sliceBounds none none (some (-1)) b.size ∧ s' = s) (fun _ _ => False) s :=
    wpAny_of_eq (sliceIndices_raw none none (some (-1)) b.size (by decide)) ⟨rfl, rfl⟩
  refine wpAny_bind (wpAny_mono go (fun r s' hr => ?_) fun _ _ e => e.elim)
  obtain ⟨hr1, hr2⟩ := hr
  subst hr1 hr2
  refine wpAny_ite (KBy.ite_no (ne_true_of_eq_false hw) ?_)
  exact wpAny_bind (wpAny_mkBytes (wpAny_pure ⟨_, rfl, h _ _⟩) hsz)
section
variable {prog : Program} {w : World} {A : Around} {E : Value → Shared → Prop} {s : Shared} {value slice : PySem.Expr} {b : Array UInt8} {t ts : Tok} {h₀ : Heap} {L : Addr} {m : PySem.Str → Option Value} {news : List (Addr × Obj)} {Q : Value → Shared → Prop} {ks : List Int}
theorem back_K (hF : Fr h₀ L s.heap m) (hN : News h₀ L s.heap news) (hw : ((sliceBounds none none (some (-1)) b.size).1 == 0 && (sliceBounds none none (some (-1)) b.size).2.2 == 1 && (sliceBounds none none (some (-1)) b.size).2.1 == b.size && !b.isEmpty) = false)
    (hz : (backOf b).size ≤ 16777216) (hk : KBw.bInts (backOf b) = ks)
    (h : ∀ h' b' t' k, KBw.bInts b' = ks → Fr h₀ L h' m → News h₀ L h' news → Q (.bytes b' t') { s with heap := h', toks := k })
    (hs : subscripted slice false (.bytes b t) (.ref s.heap.objs.size) = operate [.ref s.heap.objs.size, .bytes b t] (getItem (.bytes b t) (.ref s.heap.objs.size)) := by with_unfolding_all rfl)
    (ht : ∀ r, letTemporaryGo value (.bytes b t) r = pure () := by intro _; with_unfolding_all rfl) :
    wpAny (model prog w) A (subscriptTail value slice (.bytes b t) (.ref s.heap.objs.size)) Q E { s with heap := s.heap.push { cls := .type "slice", data := .fields #[.none, .none, .int (-1) ts] } } :=
  tail_of_ItemOn ⟨"bytes", _, PySem.W.FB.slot_bytes_getitem.lookup, typeIs_bytes _ _ _, getItem_meets (typeIs_bytes _ _ _) (by decide) PySem.W.FB.slot_bytes_getitem PySem.W.FB.entry_bytes_getitem (PySem.W.FB.args_bytes_getitem_2 _ _) (meets_back b t ts _ hw)
    ⟨Heap.IsSliceOf.new _ _ _ _, by rw [sizeLine_eq]; exact hz, fun t' k => h _ _ _ _ hk (hF.push _) (News.pushKeep hN _)⟩⟩ hs ht
end
end Mine
end

section
namespace Mine
open PySem PySem.W PySem.Calls PyProof.Rows PySem.Builtin
def SeqPost (g : Heap) (L : Addr) (m : Str → Option Value) (x : Str) (news : List (Addr × Obj)) (s : Shared) (P : Int → Prop) (f : Flow) (s' : Shared) : Prop :=
  f = .next ∧ ∃ q tq, P q ∧ Fr g L s'.heap (fun y => if y = x then some (.int q tq) else m y) ∧ News g L s'.heap news ∧ s' = { s with heap := s'.heap, toks := s'.toks }
/-- an if that only sets one name to an int: the paths join behind it -/
theorem seqIf {M : Model} {A : Around} {E : Value → Shared → Prop} {Q : Flow → Shared → Prop} {s : Shared} {env : Env} {st : Stmt} {rest : List Stmt} {g : Heap} {L : Addr} {m : Str → Option Value} {news : List (Addr × Obj)} (x : Str) (P : Int → Prop)
    (_F : Fr g L s.heap m) (_N : News g L s.heap news)
    (h1 : wpAny M A (exec st env) (SeqPost g L m x news s P) E s)
    (h2 : ∀ h' q tq tk, P q → Fr g L h' (fun y => if y = x then some (.int q tq) else m y) → News g L h' news → wpS M A (execs rest env) Q E { s with heap := h', toks := tk }) : wpS M A (execs (st :: rest) env) Q E s := by
  refine execsS_leaf (wpAny_mono h1 (fun f s' z => ?_) fun _ _ e => e)
  obtain ⟨rfl, q, tq, p, F, N, e⟩ := z
  have y := h2 s'.heap q tq s'.toks p F N
  rw [← e] at y
  exact y
def SeqPostB (g : Heap) (L : Addr) (m : Str → Option Value) (x : Str) (news : List (Addr × Obj)) (s : Shared) (P : Bool → Prop) (f : Flow) (s' : Shared) : Prop :=
  f = .next ∧ ∃ q, P q ∧ Fr g L s'.heap (fun y => if y = x then some (.bool q) else m y) ∧ News g L s'.heap news ∧ s' = { s with heap := s'.heap, toks := s'.toks }
/-- a statement that only sets one name to a bool: the paths join behind it -/
theorem seqB {M : Model} {A : Around} {E : Value → Shared → Prop} {Q : Flow → Shared → Prop} {s : Shared} {env : Env} {st : Stmt} {rest : List Stmt} {g : Heap} {L : Addr} {m : Str → Option Value} {news : List (Addr × Obj)} (x : Str) (P : Bool → Prop)
    (_F : Fr g L s.heap m) (_N : News g L s.heap news)
    (h1 : wpAny M A (exec st env) (SeqPostB g L m x news s P) E s)
    (h2 : ∀ h' q tk, P q → Fr g L h' (fun y => if y = x then some (.bool q) else m y) → News g L h' news → wpS M A (execs rest env) Q E { s with heap := h', toks := tk }) : wpS M A (execs (st :: rest) env) Q E s := by
  refine execsS_leaf (wpAny_mono h1 (fun f s' z => ?_) fun _ _ e => e)
  obtain ⟨rfl, q, p, F, N, e⟩ := z
  have y := h2 s'.heap q s'.toks p F N
  rw [← e] at y
  exact y
def SeqPostC (g : Heap) (L : Addr) (m : Str → Option Value) (x : Str) (news : List (Addr × Obj)) (s : Shared) (ds : List Int) (f : Flow) (s' : Shared) : Prop :=
  f = .next ∧ ∃ c tc, KBw.bInts c = ds ∧ Fr g L s'.heap (fun y => if y = x then some (.bytes c tc) else m y) ∧ News g L s'.heap news ∧ s' = { s with heap := s'.heap, toks := s'.toks }
/-- a statement that only sets one name to bytes: the paths join behind it -/
theorem seqC {M : Model} {A : Around} {E : Value → Shared → Prop} {Q : Flow → Shared → Prop} {s : Shared} {env : Env} {st : Stmt} {rest : List Stmt} {g : Heap} {L : Addr} {m : Str → Option Value} {news : List (Addr × Obj)} (x : Str) (ds : List Int)
    (_F : Fr g L s.heap m) (_N : News g L s.heap news)
    (h1 : wpAny M A (exec st env) (SeqPostC g L m x news s ds) E s)
    (h2 : ∀ h' c tc tk, KBw.bInts c = ds → Fr g L h' (fun y => if y = x then some (.bytes c tc) else m y) → News g L h' news → wpS M A (execs rest env) Q E { s with heap := h', toks := tk }) : wpS M A (execs (st :: rest) env) Q E s := by
  refine execsS_leaf (wpAny_mono h1 (fun f s' z => ?_) fun _ _ e => e)
  obtain ⟨rfl, c, tc, p, F, N, e⟩ := z
  have y := h2 s'.heap c tc s'.toks p F N
  rw [← e] at y
  exact y
theorem bInts_inj {b c : Array UInt8} (h : KBw.bInts b = KBw.bInts c) : b = c := by
  have h' : b.toList.map (fun c : UInt8 => ((c.toNat : Nat) : Int)) = c.toList.map (fun c : UInt8 => ((c.toNat : Nat) : Int)) := h
  have inj : ∀ (l r : List UInt8), l.map (fun c : UInt8 => ((c.toNat : Nat) : Int)) = r.map (fun c : UInt8 => ((c.toNat : Nat) : Int)) → l = r := by
    intro l
    induction l with
    | nil => intro r e; cases r with | nil => rfl | cons _ _ => cases e
    | cons a l ih =>
      intro r e
      cases r with
      | nil => cases e
      | cons d r =>
        rw [List.map_cons, List.map_cons] at e
        injection e with e1 e2
        rw [ih r e2, UInt8.toNat_inj.mp (Int.ofNat.inj e1)]
  exact Array.ext' (inj _ _ h')
theorem bytes_is {b : Array UInt8} {l : List UInt8} (h : KBw.bInts b = l.map (fun c : UInt8 => ((c.toNat : Nat) : Int))) : (b.toList == l) = true := by
  have e : b = l.toArray := bInts_inj h
  rw [e]; simp
theorem bytes_eqq {b c : Array UInt8} (h : KBw.bInts b = KBw.bInts c) : (b.toList == c.toList) = true := by rw [bInts_inj h]; simp
theorem qt_1 {sq turn lo : Int} {any : Bool} (e : sq = if any = true ∨ lo = 2 ∨ lo = 3 then 0 else turn) (h : any = true) : sq = if any = true then 0 else turn := by
  rw [e, if_pos (.inl h), if_pos h]
theorem qt_2 {sq turn lo : Int} {any : Bool} (e : sq = if any = true ∨ lo = 2 ∨ lo = 3 then 0 else turn) (_h : any = false) (h2 : lo = 2) : sq = if (lo == 2) = true then 0 else turn := by
  rw [e, if_pos (.inr (.inl h2)), if_pos (by rw [h2]; rfl)]
theorem qt_3 {sq turn lo : Int} {any : Bool} (e : sq = if any = true ∨ lo = 2 ∨ lo = 3 then 0 else turn) (h : any = false) (h2 : lo ≠ 2) : sq = if (lo == 3) = true then 0 else turn := by
  rw [e]
  by_cases z : lo = 3
  · rw [if_pos (.inr (.inr z)), if_pos (by rw [z]; rfl)]
  · rw [if_neg (by rintro (q | q | q); (· rw [h] at q; cases q); (· exact h2 q); (· exact z q)), if_neg (by simpa using z)]
theorem q_pos {sq turn : Int} {q : Bool} (e : sq = if q = true then 0 else turn) (h : q = true) : sq = 0 := by rw [e, if_pos h]
theorem q_neg {sq turn : Int} {q : Bool} (e : sq = if q = true then 0 else turn) (h : q = false) : sq = turn := by rw [e, h]; rfl
theorem row_eq {rs le ds sl : List Int} (h0 : ds.length = 2 ∨ ds.length = 3) :
    rs ++ le ++ List.map (fun c : UInt8 => ((c.toNat : Nat) : Int)) [((ds.length : Nat) : Int).toNat.toUInt8] ++ ds ++ sl = rs ++ (le ++ ((((ds.length : Nat) : Int) :: ds) ++ sl)) := by
  rcases h0 with h | h <;> simp [h]
theorem andT {M : Model} {A : Around} {E : Value → Shared → Prop} {s : Shared} {x y : Sem Value} {rest : List (Sem Value)} {pos : Pos} {Q : Value → Shared → Prop}
    (h : wpAny M A x (fun v s₁ => wpAny M A (truthy v) (fun t s₂ => if t then wpS M A (boolOp pos .And (y :: rest)) Q E s₂ else Q v s₂) E s₁) E s) :
    wpS M A (boolOp pos .And (x :: y :: rest)) Q E s := andS (a := .Name (Str.ofString "") ⟨0, 0, 0, 0⟩) h
end Mine
end

section
namespace Mine
open PySem PySem.W PySem.Calls PyProof.Rows PySem.Builtin
section
variable {α : Type} {M : Model} {prog : Program} {w : World} {A : Around} {E : Value → Shared → Prop} {R : Result → Shared → Prop} {s : Shared} {env : Env}
theorem wpS_noted {m : Sem α} {Q : α → Shared → Prop} (h : wpS M A m Q (notedBy M A env E) s) : wpS M A (m.onRaise fun x => do noteFrame x env; theTreesLotGoes x) Q E s :=
  wpS_onRaise (wpS_mono h (fun _ _ q => q) fun _ _ hx => wpS_of (wpAny_bind (wpAny_mono hx (fun _ _ e => wpAny_theTreesLotGoes e) fun _ _ e => e)))
/-- one turn of a for loop over an iterator -/
theorem codeS_for {target : PySem.Expr} {it : Value} {body orelse : List Stmt}
    (h : wpAny (model prog w) A (pyNext it) (fun r s₁ => match r with
      | none => wpAny (model prog w) A (execs orelse env) (fun f s₃ => R (.ok f) s₃) (notedBy (model prog w) A env fun e s' => R (.error e) s') s₁
      | some v => wpAny (model prog w) A (assign target env v) (fun _ s₂ => wpS (model prog w) A (execs body env) (fun f s₃ => match f with
          | .next | .cont => codeS (model prog w) A (.forLoop target it body orelse env) R s₃
          | .brk => R (.ok .next) s₃
          | .ret v => R (.ok (.ret v)) s₃) (notedBy (model prog w) A env fun e s' => R (.error e) s') s₂) (notedBy (model prog w) A env fun e s' => R (.error e) s') s₁) (notedBy (model prog w) A env fun e s' => R (.error e) s') s)
    (ht : ∀ v, letOwnedTupleGo target it v = pure () := by intro _; rfl) : codeS (model prog w) A (.forLoop target it body orelse env) R s := by
  refine codeS_of_tree (harm_for _ _ _ _ _) ?_
  show wpS _ A ((forTurn target it body orelse env).onRaise (fun x => do noteFrame x env; theTreesLotGoes x)) _ _ s
  refine wpS_noted ?_
  simp only [forTurn]
  refine wpS_lbind (wpAny_standAt (wpS_lbind (wpAny_onRaise (wpAny_mono h (fun r s₁ h₁ => ?_) fun _ _ h' => wpAny_standAt h'))))
  cases r with
  | none => exact wpS_pure ⟨rfl, codeS_of (codeAny_block h₁)⟩
  | some v =>
    refine wpS_lbind (wpAny_of_eq (ht v) ?_)
    refine wpS_lbind (wpAny_mono h₁ (fun _ s₂ h₂ => wpS_bind (wpS_mono h₂ (fun f s₃ h₃ => ?_) fun _ _ h' => h')) fun _ _ h' => h')
    cases f with
    | next => exact wpS_pure ⟨rfl, h₃⟩
    | cont => exact wpS_pure ⟨rfl, h₃⟩
    | brk => exact wpS_pure h₃
    | ret v => exact wpS_pure h₃
theorem forS {target iter : PySem.Expr} {body orelse : List Stmt} {pos : Pos} {Q : Flow → Shared → Prop}
    (h : wpAny M A (eval iter env) (fun x s₁ => wpAny M A (pyIter x) (fun it s₂ =>
      codeS M A (.forLoop target it body orelse env) (fun r s' => match r with | .ok f => Q f s' | .error e => cameBackBy M A env E e s') s₂) E s₁) E s)
    (hs : ∀ x, foldedSetIterable iter env x = pure x := by intro _; rfl) :
    wpS M A (exec (.For target iter body orelse pos) env) Q E s := by
  rw [exec_For]
  refine wpS_lbind (wpAny_standAt (wpS_lbind (wpAny_mono h (fun x s₁ h₁ => wpS_lbind (wpAny_of_eq (hs x) (wpS_lbind (wpAny_standAt (wpS_lbind (wpAny_holding
    (wpAny_mono h₁ (fun it s₂ h₂ => ?_) fun _ _ h' => h'))))))) fun _ _ h' => h')))
  unfold runOwn
  exact fun Γ p hΓ hc => by
    rw [Sem.wp_onRaise]
    exact Sem.wp_mono M Γ _ (fun _ _ _ z => z) (fun e p' s' z => z Γ p' hΓ) _ _ (wpS_run (M := M) (A := A) (h := none) (E := cameBackBy M A env E) h₂ (by intro x; cases x) Γ p hΓ hc)
end
end Mine
end

section
namespace Mine
open PySem PySem.W PySem.Calls PyProof.Rows PySem.Builtin
abbrev liObj (l : Addr) (i : Nat) : Obj := { cls := .type "list_iterator", data := .fields #[.ref l, .int (i : Int) 0] }
section
variable {prog : Program} {w : World} {A : Around} {E : Value → Shared → Prop} {s : Shared} {env : Env} {h₀ : Heap} {m : Str → Option Value} {news : List (Addr × Obj)}
theorem mapTwice {x : Str} {v v' : Value} {m : Str → Option Value} : (fun y => if y = x then some v' else (fun y => if y = x then some v else m y) y) = (fun y => if y = x then some v' else m y) := by
  funext y
  by_cases h : y = x <;> simp [h]
/-- the turns that are left of a loop over a ledger list -/
theorem turnsS {x : Str} {px : Pos} {body : List Stmt} {I l : Addr} {vs : List Value} {Q : Flow → Shared → Prop} (hh : A.handled = none) (hx : env.kindOf x = some .local)
    (hp : (env.scope.kind == .class || (env.scope.kind == .module && env.locals != env.globals)) = false)
    (hl : (l, listOf vs.toArray 0) ∈ news) (hI : ∀ p ∈ news, p.1 ≠ I) (hIL : I ≠ env.locals) (hI0 : h₀.get? I = none)
    (step : ∀ (i : Nat) v h tk oI, vs[i]? = some v → Fr h₀ env.locals h (fun y => if y = x then some v else m y) → News h₀ env.locals h ((I, oI) :: news) →
      wpS (model prog w) A (execs body env) (fun f s₃ => f = .next ∧ ∃ h' tk', s₃ = { s with heap := h', toks := tk' } ∧ Fr h₀ env.locals h' (fun y => if y = x then some v else m y) ∧ News h₀ env.locals h' ((I, oI) :: news))
        (notedBy (model prog w) A env fun e s' => cameBackBy (model prog w) A env E e s') { s with heap := h, toks := tk })
    (done : ∀ h tk v, vs.getLast? = some v → Fr h₀ env.locals h (fun y => if y = x then some v else m y) → News h₀ env.locals h news → Q .next { s with heap := h, toks := tk }) :
    ∀ (k i : Nat) v₀ h tk oI, vs.length = i + k → 0 < i → vs[i - 1]? = some v₀ → oI.cls = .type "list_iterator" → oI.data = .fields #[.ref l, .int (i : Int) 0] → Fr h₀ env.locals h (fun y => if y = x then some v₀ else m y) → News h₀ env.locals h ((I, oI) :: news) →
      codeS (model prog w) A (.forLoop (.Name x px) (.ref I) body [] env) (fun r s' => match r with | .ok f => Q f s' | .error e => cameBackBy (model prog w) A env E e s') { s with heap := h, toks := tk } := by
  intro k
  induction k with
  | zero =>
    intro i v₀ h tk oI hk hi hv hc hd F N
    refine codeS_for ?_
    have hit : h.IsListIter I l i := ⟨_, (N _ (.head _)).1, hc, hd⟩
    have hli : h.IsList l vs.toArray := News.isList N (.tail _ hl)
    refine wpAny_pyNext_list_end (s := { s with heap := h, toks := tk }) hh hit hli (by simp; omega) fun h' hs => ?_
    dsimp only
    refine wpAny_execs_nil (done h' tk v₀ (by rw [List.getLast?_eq_getElem?, show vs.length - 1 = i - 1 by omega]; exact hv) ?_ ?_)
    · obtain ⟨oL, a1, a2, hL, a3⟩ := F.ns
      exact ⟨⟨oL, a1, a2, hs _ _ (Ne.symm hIL) hL, a3⟩, fun b o e => hs b o (fun z => by rw [z, hI0] at e; cases e) (F.keep b o e), F.above⟩
    · exact fun p hp => ⟨hs _ _ (hI p hp) (N p (.tail _ hp)).1, (N p (.tail _ hp)).2⟩
  | succ k ih =>
    intro i v₀ h tk oI hk hi hv hc hd F N
    refine codeS_for ?_
    have hit : h.IsListIter I l i := ⟨_, (N _ (.head _)).1, hc, hd⟩
    have hli : h.IsList l vs.toArray := News.isList N (.tail _ hl)
    have hlt : i < vs.length := by omega
    refine wpAny_pyNext_list_item (s := { s with heap := h, toks := tk }) (x := vs[i]) hit hli (by simp [hlt]) fun h₁ hit₁ hs => ?_
    obtain ⟨oJ, hJ, hcJ, hdJ⟩ := hit₁
    have F₁ : Fr h₀ env.locals h₁ (fun y => if y = x then some v₀ else m y) := by
      obtain ⟨oL, a1, a2, hL, a3⟩ := F.ns
      exact ⟨⟨oL, a1, a2, (hs.2 _ (Ne.symm hIL)).trans hL, a3⟩, fun b o e => (hs.2 b (fun z => by rw [z, hI0] at e; cases e)).trans (F.keep b o e), F.above⟩
    have N₁ : News h₀ env.locals h₁ ((I, oJ) :: news) := fun p hp => by
      rcases List.mem_cons.mp hp with rfl | hp
      · exact ⟨hJ, hIL, hI0⟩
      · exact ⟨(hs.2 _ (hI p hp)).trans (N p (.tail _ hp)).1, (N p (.tail _ hp)).2⟩
    refine wpAny_assign_Name (wpAny_storeName_local hx F₁.ns (fun h₂ hn₂ hs₂ => ?_) hp)
    have F₂ := F₁.set hn₂ hs₂
    rw [mapTwice] at F₂
    have N₂ := N₁.set hs₂
    refine wpS_mono (step i vs[i] h₂ _ oJ (by simp [hlt]) F₂ N₂) (fun f s₃ z => ?_) fun _ _ z => z
    obtain ⟨rfl, h', tk', rfl, F₃, N₃⟩ := z
    exact ih (i + 1) vs[i] h' tk' oJ (by omega) (by omega) (by simp [hlt]) hcJ hdJ F₃ N₃
/-- a loop over a ledger list, from its start -/
theorem forL {x : Str} {px : Pos} {body : List Stmt} {l : Addr} {vs : List Value} {Q : Flow → Shared → Prop} (hh : A.handled = none) (hx : env.kindOf x = some .local)
    (hp : (env.scope.kind == .class || (env.scope.kind == .module && env.locals != env.globals)) = false)
    (F : Fr h₀ env.locals s.heap m) (N : News h₀ env.locals s.heap news) (hl : (l, listOf vs.toArray 0) ∈ news) (hne : 0 < vs.length)
    (step : ∀ (I : Addr) (i : Nat) v h tk oI, (∀ p ∈ news, p.1 < I) → vs[i]? = some v → Fr h₀ env.locals h (fun y => if y = x then some v else m y) → News h₀ env.locals h ((I, oI) :: news) →
      wpS (model prog w) A (execs body env) (fun f s₃ => f = .next ∧ ∃ h' tk', s₃ = { s with heap := h', toks := tk' } ∧ Fr h₀ env.locals h' (fun y => if y = x then some v else m y) ∧ News h₀ env.locals h' ((I, oI) :: news))
        (notedBy (model prog w) A env fun e s' => cameBackBy (model prog w) A env E e s') { s with heap := h, toks := tk })
    (done : ∀ h tk v, vs.getLast? = some v → Fr h₀ env.locals h (fun y => if y = x then some v else m y) → News h₀ env.locals h news → Q .next { s with heap := h, toks := tk }) :
    wpAny (model prog w) A (pyIter (.ref l)) (fun it s₂ => codeS (model prog w) A (.forLoop (.Name x px) it body [] env) (fun r s' => match r with | .ok f => Q f s' | .error e => cameBackBy (model prog w) A env E e s') s₂) E s := by
  have hli : s.heap.IsList l vs.toArray := News.isList N hl
  refine wpAny_pyIter_list hli ?_
  have lt : ∀ p ∈ news, p.1 < s.heap.objs.size := fun p hp => Heap.lt_size (N p hp).1
  have F0 := F.push { cls := .type "list_iterator", data := .fields #[.ref l, .int 0 0] }
  have N0 := N.push F { cls := .type "list_iterator", data := .fields #[.ref l, .int 0 0] }
  have hI : ∀ p ∈ news, p.1 ≠ s.heap.objs.size := fun p hp => Nat.ne_of_lt (lt p hp)
  have hIL := (N0 _ (.head _)).2.1
  have hI0 := (N0 _ (.head _)).2.2
  refine codeS_for ?_
  have hit : (s.heap.push { cls := .type "list_iterator", data := .fields #[.ref l, .int 0 0] }).IsListIter s.heap.objs.size l 0 := ⟨_, (N0 _ (.head _)).1, rfl, rfl⟩
  have hli0 : (s.heap.push { cls := .type "list_iterator", data := .fields #[.ref l, .int 0 0] }).IsList l vs.toArray := News.isList N0 (.tail _ hl)
  refine wpAny_pyNext_list_item (s := { s with heap := _ }) (x := vs[0]) hit hli0 (by simp [hne]) fun h₁ hit₁ hs => ?_
  obtain ⟨oJ, hJ, hcJ, hdJ⟩ := hit₁
  have F₁ : Fr h₀ env.locals h₁ m := by
    obtain ⟨oL, a1, a2, hL, a3⟩ := F0.ns
    exact ⟨⟨oL, a1, a2, (hs.2 _ (Ne.symm hIL)).trans hL, a3⟩, fun b o e => (hs.2 b (fun z => by rw [z, hI0] at e; cases e)).trans (F0.keep b o e), F0.above⟩
  have N₁ : News h₀ env.locals h₁ ((s.heap.objs.size, oJ) :: news) := fun p hp => by
    rcases List.mem_cons.mp hp with rfl | hp
    · exact ⟨hJ, hIL, hI0⟩
    · exact ⟨(hs.2 _ (hI p hp)).trans (N0 p (.tail _ hp)).1, (N0 p (.tail _ hp)).2⟩
  refine wpAny_assign_Name (wpAny_storeName_local hx F₁.ns (fun h₂ hn₂ hs₂ => ?_) hp)
  have F₂ := F₁.set hn₂ hs₂
  have N₂ := N₁.set hs₂
  refine wpS_mono (step _ 0 vs[0] h₂ _ oJ lt (by simp [hne]) F₂ N₂) (fun f s₃ z => ?_) fun _ _ z => z
  obtain ⟨rfl, h', tk', rfl, F₃, N₃⟩ := z
  exact turnsS hh hx hp hl hI hIL hI0 (fun i v h tk oI hv F N => step _ i v h tk oI lt hv F N) done (vs.length - 1) 1 vs[0] h' tk' oJ (by omega) (by omega) (by simp [hne]) hcJ hdJ F₃ N₃
end
end Mine
end

section
namespace Mine
open PySem PySem.W PySem.Calls PyProof.Rows PySem.Builtin
theorem call_fullS {prog : Program} {w : World} {A : Around} {R : Result → Shared → Prop} {s : Shared} {name : Str} {params : Arguments} {body : List Stmt} {scope : Scope}
    {dV kV pm cd doc : Value} {a : Addr} {o : Obj} {args : Args} {binds : List (Str × Value)}
    (hroom : A.depth < recursionLimit) (ho : s.heap.get? a = some o) (hdata : o.data = .func { docDef name params body scope pm cd doc with defaults := dV, kwdefaults := kV }) (hlim : s.heap.NoLimit) (hcd : s.heap.CodeRec cd name)
    (hbind : BindsTo s { docDef name params body scope pm cd doc with defaults := dV, kwdefaults := kV } args binds)
    (hloc : ∀ x ∈ binds, scope.names.lookup x.1 = some .local)
    (h : ∀ h₁, Fr s.heap s.heap.objs.size h₁ (fun x => binds.reverse.lookup x) →
      wpS (model prog w) (A.deeper (envOf name scope s.heap.objs.size a cd)) (execs body (envOf name scope s.heap.objs.size a cd))
        (fun f s' => R (.ok (.ret (match f with | .ret v => v | _ => .none))) s')
        (fun e s' => wpAny (model prog w) (A.deeper (envOf name scope s.heap.objs.size a cd)) (leaving (envOf name scope s.heap.objs.size a cd) e)
          (fun _ s'' => R (.error e) s'') (fun e' s'' => R (.error e') s'') s')
        { s with heap := h₁, toks := s.toks + binds.length })
    (hco : scope.isCoroutine = false := by rfl) (hgen : scope.isGenerator = false := by rfl) (hk : scope.kind = .function := by rfl)
    (hcell : ∀ x ∈ scope.names, x.2 ≠ .cell := by decide) :
    codeS (model prog w) A (.call (.ref a) args) R s := by
  refine codeS_call_function (fd := { docDef name params body scope pm cd doc with defaults := dV, kwdefaults := kV }) (body := body) hroom ho hdata hco hgen rfl hcd (hbind _ _ _ _ ?_)
  refine wpAny_newFunctionEnv hcell hloc (fun h₁ hns hsb => ⟨hlim.fresh _ hsb, codeS_func ?_⟩) hk
  have hk₁ : ∀ b o, s.heap.get? b = some o → h₁.get? b = some o := fun b o e => hsb.extBut b o (Nat.ne_of_lt (Heap.lt_size e)) (Heap.get?_push_of_some _ e)
  exact h h₁ ⟨hns, hk₁, Nat.le_refl _⟩
theorem enter_callS {M : Model} {A : Around} {s : Shared} {f : Value} {pos : List Value} {kw : List (Str × Value)} {c : ClaimW} {cl : Str → Option Addr} {mean : ExcName → Option Value} {args : List WData} {s₁ : Shared}
    (h : codeS M A (.call f ⟨pos, kw⟩) (GoodWG c cl mean args s₁) s) : wpS M A (PySem.call f pos kw) (fun v s' => GoodWG c cl mean args s₁ (.ok (.ret v)) s') (fun e s' => GoodWG c cl mean args s₁ (.error e) s') s :=
  wpS_call (codeS_mono h fun res s' g => by rcases g.1 with ⟨v, _, _, rfl, _⟩ | ⟨e, _, _, rfl, _⟩ <;> exact g)
end Mine
end

section
namespace Mine
open PySem PySem.W PySem.Calls PyProof.Rows PySem.Builtin
def SeqPostN (g : Heap) (L : Addr) (m : Str → Option Value) (news : List (Addr × Obj)) (s : Shared) (f : Flow) (s' : Shared) : Prop :=
  f = .next ∧ Fr g L s'.heap m ∧ News g L s'.heap news ∧ s' = { s with heap := s'.heap, toks := s'.toks }
/-- a statement that sets nothing -/
theorem seqN {M : Model} {A : Around} {E : Value → Shared → Prop} {Q : Flow → Shared → Prop} {s : Shared} {env : Env} {st : Stmt} {rest : List Stmt} {g : Heap} {L : Addr} {m : Str → Option Value} {news : List (Addr × Obj)}
    (_F : Fr g L s.heap m) (_N : News g L s.heap news)
    (h1 : wpAny M A (exec st env) (SeqPostN g L m news s) E s)
    (h2 : ∀ h' tk, Fr g L h' m → News g L h' news → wpS M A (execs rest env) Q E { s with heap := h', toks := tk }) : wpS M A (execs (st :: rest) env) Q E s := by
  refine execsS_leaf (wpAny_mono h1 (fun f s' z => ?_) fun _ _ e => e)
  obtain ⟨rfl, F, N, e⟩ := z
  have y := h2 s'.heap s'.toks F N
  rw [← e] at y
  exact y
def SeqPostV {α : Type} (g : Heap) (L : Addr) (m : Str → Option Value) (x : Str) (v : α → Value) (nw : α → List (Addr × Obj)) (s : Shared) (P : α → Prop) (f : Flow) (s' : Shared) : Prop :=
  f = .next ∧ ∃ a, P a ∧ Fr g L s'.heap (fun y => if y = x then some (v a) else m y) ∧ News g L s'.heap (nw a) ∧ s' = { s with heap := s'.heap, toks := s'.toks }
/-- a statement that sets one name: the paths join behind it -/
theorem seqV {α : Type} {M : Model} {A : Around} {E : Value → Shared → Prop} {Q : Flow → Shared → Prop} {s : Shared} {env : Env} {st : Stmt} {rest : List Stmt} {g : Heap} {L : Addr} {m : Str → Option Value} (x : Str) (v : α → Value) (nw : α → List (Addr × Obj)) (P : α → Prop)
    (_F : Fr g L s.heap m)
    (h1 : wpAny M A (exec st env) (SeqPostV g L m x v nw s P) E s)
    (h2 : ∀ h' a tk, P a → Fr g L h' (fun y => if y = x then some (v a) else m y) → News g L h' (nw a) → wpS M A (execs rest env) Q E { s with heap := h', toks := tk }) : wpS M A (execs (st :: rest) env) Q E s := by
  refine execsS_leaf (wpAny_mono h1 (fun f s' z => ?_) fun _ _ e => e)
  obtain ⟨rfl, a, p, F, N, e⟩ := z
  have y := h2 s'.heap a s'.toks p F N
  rw [← e] at y
  exact y
/-- the same, of a statement of this logic -/
theorem seqVS {α : Type} {M : Model} {A : Around} {E : Value → Shared → Prop} {Q : Flow → Shared → Prop} {s : Shared} {env : Env} {st : Stmt} {rest : List Stmt} {g : Heap} {L : Addr} {m : Str → Option Value} (x : Str) (v : α → Value) (nw : α → List (Addr × Obj)) (P : α → Prop)
    (_F : Fr g L s.heap m)
    (h1 : wpS M A (exec st env) (SeqPostV g L m x v nw s P) E s)
    (h2 : ∀ h' a tk, P a → Fr g L h' (fun y => if y = x then some (v a) else m y) → News g L h' (nw a) → wpS M A (execs rest env) Q E { s with heap := h', toks := tk }) : wpS M A (execs (st :: rest) env) Q E s := by
  refine execsS_cons (wpS_mono h1 (fun f s' z => ?_) fun _ _ e => e)
  obtain ⟨rfl, a, p, F, N, e⟩ := z
  have y := h2 s'.heap a s'.toks p F N
  rw [← e] at y
  exact y
def SeqPostVV {α : Type} (g : Heap) (L : Addr) (m : Str → Option Value) (x1 x2 : Str) (v1 v2 : α → Value) (nw : α → List (Addr × Obj)) (s : Shared) (P : α → Prop) (f : Flow) (s' : Shared) : Prop :=
  f = .next ∧ ∃ a, P a ∧ Fr g L s'.heap (fun y => if y = x2 then some (v2 a) else if y = x1 then some (v1 a) else m y) ∧ News g L s'.heap (nw a) ∧ s' = { s with heap := s'.heap, toks := s'.toks }
/-- a statement that sets two names -/
theorem seqVV {α : Type} {M : Model} {A : Around} {E : Value → Shared → Prop} {Q : Flow → Shared → Prop} {s : Shared} {env : Env} {st : Stmt} {rest : List Stmt} {g : Heap} {L : Addr} {m : Str → Option Value} (x1 x2 : Str) (v1 v2 : α → Value) (nw : α → List (Addr × Obj)) (P : α → Prop)
    (_F : Fr g L s.heap m)
    (h1 : wpAny M A (exec st env) (SeqPostVV g L m x1 x2 v1 v2 nw s P) E s)
    (h2 : ∀ h' a tk, P a → Fr g L h' (fun y => if y = x2 then some (v2 a) else if y = x1 then some (v1 a) else m y) → News g L h' (nw a) → wpS M A (execs rest env) Q E { s with heap := h', toks := tk }) : wpS M A (execs (st :: rest) env) Q E s := by
  refine execsS_leaf (wpAny_mono h1 (fun f s' z => ?_) fun _ _ e => e)
  obtain ⟨rfl, a, p, F, N, e⟩ := z
  have y := h2 s'.heap a s'.toks p F N
  rw [← e] at y
  exact y
/-- if not e -/
theorem ifNotS {M : Model} {A : Around} {E : Value → Shared → Prop} {Q : Flow → Shared → Prop} {s : Shared} {env : Env} {f : PySem.Expr} {args : List PySem.Expr} {kws : List Keyword} {cp p pos : Pos} {body orelse : List Stmt}
    (h : wpS M A (eval (.Call f args kws cp) env) (fun v s₁ => wpAny M A (truthy v) (fun b s₂ => if b then wpS M A (execs orelse env) Q E s₂ else wpS M A (execs body env) Q E s₂) E s₁) E s) :
    wpS M A (exec (.If (.UnaryOp .Not (.Call f args kws cp) p) body orelse pos) env) Q E s := by
  rw [exec_If]
  refine wpS_lbind (wpAny_standAt ?_)
  have e : isTrue (.UnaryOp .Not (.Call f args kws cp) p) env (eval (.UnaryOp .Not (.Call f args kws cp) p) env) = (do return !(← (do let v ← eval (.Call f args kws cp) env; standAt cp; holding [v] (truthy v)))) := rfl
  rw [e]
  refine wpS_bind (wpS_bind (wpS_bind (wpS_mono h (fun v s₁ h₁ => ?_) fun _ _ x => x)))
  refine wpS_lbind (wpAny_standAt (wpS_of (wpAny_holding (wpAny_mono h₁ (fun b s₂ h₂ => ?_) fun _ _ x => x))))
  refine wpS_pure ?_
  cases b <;> exact h₂
theorem fm_out {k n : Int} (h : 0 < n) (x : k.fmod n < -n ∨ n ≤ k.fmod n) : False := by
  have e := Int.fmod_eq_emod_of_nonneg k (Int.le_of_lt h)
  have a := Int.emod_nonneg k (Int.ne_of_gt h)
  have b := Int.emod_lt_of_pos k h
  omega
theorem fm_b (x : Int) : 0 ≤ x.fmod 4294967296 ∧ x.fmod 4294967296 < 4294967296 := by
  rw [Int.fmod_eq_emod_of_nonneg x (by decide)]
  omega
theorem fm_n (x : Int) {n : Int} (h : 0 < n) : 0 ≤ x.fmod n ∧ x.fmod n < n := by
  rw [Int.fmod_eq_emod_of_nonneg x (Int.le_of_lt h)]
  exact ⟨Int.emod_nonneg x (Int.ne_of_gt h), Int.emod_lt_of_pos x h⟩
theorem bi2 {a b : UInt8} {x y : Int} (h1 : ((a.toNat : Nat) : Int) = x) (h2 : ((b.toNat : Nat) : Int) = y) : KBw.bInts #[a, b] = [x, y] := by
  subst h1; subst h2; rfl
theorem bi3 {a b c : UInt8} {x y z : Int} (h1 : ((a.toNat : Nat) : Int) = x) (h2 : ((b.toNat : Nat) : Int) = y) (h3 : ((c.toNat : Nat) : Int) = z) : KBw.bInts #[a, b, c] = [x, y, z] := by
  subst h1; subst h2; subst h3; rfl
/-- the input and the script that is in play -/
structure One where
  (o od zx zd : Addr) (h3 k1 k2 k3 k4 k5 : Int) (t4 td v1 v2 v3 v4 v5 w1 w2 w4 : Tok) (sv wv hv : Value) (dat nm : Array UInt8)
abbrev One.news (place turn : Int) (a : One) : List (Addr × Obj) :=
  [(a.zx, instObj 775 a.zd), (a.zd, dictOf [⟨a.h3, .str (Str.ofString "data") a.t4, .bytes a.dat a.td⟩] 1),
    (a.o, instObj 902 a.od), (a.od, dictOf [⟨a.k1, .str (Str.ofString "txid") a.v1, .bytes a.nm a.w1⟩, ⟨a.k2, .str (Str.ofString "vout") a.v2, .int place a.w2⟩, ⟨a.k3, .str (Str.ofString "script_sig") a.v3, a.sv⟩, ⟨a.k4, .str (Str.ofString "sequence") a.v4, .int turn a.w4⟩, ⟨a.k5, .str (Str.ofString "witness") a.v5, a.wv⟩] 5)]
theorem one_news {g h : Heap} {L : Addr} {news : List (Addr × Obj)} {p1 p2 p3 p4 : Addr × Obj} (N : News g L h news) (m3 : p3 ∈ news) (m4 : p4 ∈ news) (m1 : p1 ∈ news) (m2 : p2 ∈ news) : News g L h [p1, p2, p3, p4] := by
  intro p hp
  simp only [List.mem_cons, List.not_mem_nil, or_false] at hp
  rcases hp with rfl | rfl | rfl | rfl
  · exact N _ m1
  · exact N _ m2
  · exact N _ m3
  · exact N _ m4
theorem news_ne {g h : Heap} {L a b : Addr} {x y : Obj} {news : List (Addr × Obj)} (N : News g L h news) (m1 : (a, x) ∈ news) (m2 : (b, y) ∈ news) (hne : x ≠ y) : @Ne Nat a b := by
  intro e
  have e1 := (N _ m1).1
  have e2 := (N _ m2).1
  have e : a = b := e
  rw [e] at e1
  exact hne (Option.some.inj (e1.symm.trans e2))
theorem inst_dict {C d : Addr} {es : List DictEntry} {n : Nat} : instObj C d ≠ dictOf es n := fun e => by cases congrArg Obj.cls e
theorem inst_inst {C D d e : Addr} (h : C ≠ D) : instObj C d ≠ instObj D e := fun z => h (Value.ref.inj (congrArg Obj.cls z))
theorem dict_dict {es fs : List DictEntry} {n k : Nat} (h : es.length ≠ fs.length) : dictOf es n ≠ dictOf fs k := fun z => by
  have y := congrArg Obj.data z
  unfold dictOf at y
  simp at y
  exact h (by rw [y.1])
theorem One.ne {g h : Heap} {L : Addr} {place turn : Int} {a : One} (N : News g L h (a.news place turn)) :
    @Ne Nat a.zx a.zd ∧ @Ne Nat a.o a.zx ∧ @Ne Nat a.o a.zd ∧ @Ne Nat a.od a.zx ∧ @Ne Nat a.od a.zd ∧ @Ne Nat a.o a.od :=
  ⟨news_ne N (.head _) (.tail _ (.head _)) inst_dict, news_ne N (.tail _ (.tail _ (.head _))) (.head _) (inst_inst (by decide)), news_ne N (.tail _ (.tail _ (.head _))) (.tail _ (.head _)) inst_dict,
    (news_ne N (.head _) (.tail _ (.tail _ (.tail _ (.head _)))) inst_dict).symm, news_ne N (.tail _ (.tail _ (.tail _ (.head _)))) (.tail _ (.head _)) (dict_dict (by simp)), news_ne N (.tail _ (.tail _ (.head _))) (.tail _ (.tail _ (.tail _ (.head _)))) inst_dict⟩
def isInt : Value → Bool
  | .int _ _ => true
  | _ => false
theorem isInt_ex {v : Value} (h : isInt v = true) : ∃ n t, v = .int n t := by
  cases v <;> first | exact ⟨_, _, rfl⟩ | cases h
/-- an item of a list of ints at an open place -/
theorem edge_item {prog : Program} {w : World} {A : Around} {E : Value → Shared → Prop} {s : Shared} {value slice : PySem.Expr} {l : Addr} {items : Array Value} {k : Int} {u : Tok} {Q : Value → Shared → Prop} (hl : s.heap.IsList l items) (h0 : 0 ≤ k ∧ k < 17) (hsz : items.size = 17)
    (hv : items.toList.all isInt = true) (h : ∀ n t, Q (.int n t) s)
    (hs : subscripted slice false (.ref l) (.int k u) = operate [.ref l, .int k u] (getItem (.ref l) (.int k u)) := by with_unfolding_all rfl) : wpAny (model prog w) A (subscriptTail value slice (.ref l) (.int k u)) Q E s := by
  have hlt : k.toNat < items.size := by omega
  have hi := List.all_eq_true.mp hv items[k.toNat] (by simp)
  obtain ⟨n, t, e⟩ := isInt_ex hi
  exact tail_any hl.typeIs slot_list_getitem.lookup (wpAny_getItem_list hl h0.1 (by omega) (x := items[k.toNat]) (by simp [hlt]) (by rw [e]; exact h n t)) hs
/-- a goal that no line of the walk looks into -/
def Stop (P : Prop) : Prop := P
theorem Stop.mk {P : Prop} (h : P) : Stop P := h
theorem forStop {target iter : PySem.Expr} {body orelse : List Stmt} {pos : Pos} {M : Model} {A : Around} {E : Value → Shared → Prop} {s : Shared} {env : Env} {Q : Flow → Shared → Prop}
    (h : wpAny M A (eval iter env) (fun x s₁ => Stop (wpAny M A (pyIter x) (fun it s₂ =>
      codeS M A (.forLoop target it body orelse env) (fun r s' => match r with | .ok f => Q f s' | .error e => cameBackBy M A env E e s') s₂) E s₁)) E s)
    (hs : ∀ x, foldedSetIterable iter env x = pure x := by intro _; rfl) :
    wpS M A (exec (.For target iter body orelse pos) env) Q E s := forS h hs
end Mine
end

open PySem PySem.W PySem.Calls PyProof.Rows PySem.Builtin
namespace Mine
local macro_rules | `(tactic| k_room) => `(tactic| ktr_room)
local macro_rules | `(tactic| walk_at "mine enterS") => `(tactic| (
  refine wpS_call ?_
  k_dflt (refine' code_defS ?k1 ?k2 ?k3 ?k4 ?k5 ?kA ?kF ?kK ?k6 ?k7 ?k8 ?k9 ?kB ?_ ?c2 ?c3 ?c4 ?c5; (case kA => exact rfl); (case kF => exact rfl); (case kK => assumption); (case k1 => k_asm); (case k2 => k_asm); (case k3 => k_asm); (case k4 => k_asm); (case k5 => k_asm); (case k6 => k_is); (case k7 => k_is); (case k8 => ktr_room); (case k9 => first | exact BindsTo.of_eq rfl | exact binds_K (by k_in) rfl (by k_is) rfl rfl rfl); (case c5 => decide); (case kB => exact locs rfl); (case c2 => exact rfl); (case c3 => exact rfl); (case c4 => exact rfl); k_whole; intro g' L' h' G' FG' F' N' B' X' T'; (try dsimp only); (try k_lift B'); (try k_fold))))
local macro_rules | `(tactic| walk_at "mine steps") => `(tactic| repeat' (first | walk1 | (dsimp only; walk1) | (leave1; try dsimp only)))
local macro_rules | `(tactic| walk_at "call builtin:len") => `(tactic| (k_here; (with_reducible show wpAny _ _ (call (Value.builtin "len") [Value.ref _]) _ _ _); k_dflt (refine' ba_len_N ?N ?m ?z ?_; (case N => k_asm); (case m => k_mem); (case z => omega); k_whole)))
local macro_rules | `(tactic| walk_at "eval Slice") => `(tactic| (k_here; with_reducible refine slice_E ?_))
local macro_rules | `(tactic| walk_at "newFields") => `(tactic| (k_here; k_dflt (refine' newSlice_N ?F ?N ?_; (case F => k_asm); (case N => k_asm); k_whole); intro q' h' F' N' l1; (try k_lt l1)))

local macro_rules | `(tactic| walk_at "call type:type") => `(tactic| (k_here; (with_reducible show wpAny _ _ (call (Value.type "type") [Value.bytes _ _]) _ _ _); refine call_type_of (by_ty _ _) (by decide +kernel) ?_))
local macro_rules | `(tactic| walk_at "compareOp IsNot") => `(tactic| (k_here; (with_reducible show wpAny _ _ (compareOp CmpOp.IsNot (Value.type _) (Value.type _)) _ _ _); first | refine wpAny_isNot_self (by rfl) ?_ | refine wpAny_isNot_other (by rfl) (by decide) ?_))

local macro_rules | `(tactic| walk_at "ite") => `(tactic| (k_here; k_openite; first | (refine ite_neg (by (simp only [beq_iff_eq, decide_eq_true_eq, Bool.not_eq_true, beq_eq_false_iff_ne, decide_eq_false_iff_not]; omega)) ?_; walk_say "PRUNED here") | (refine ite_pos (by (simp only [beq_iff_eq, decide_eq_true_eq]; omega)) ?_; walk_say "PRUNED here")))

local macro_rules | `(tactic| walk_at "mine enterA") => `(tactic| (
  refine wpAny_call ?_
  k_dflt (refine' code_defA ?k1 ?k2 ?k3 ?k4 ?k5 ?kA ?kF ?kK ?k6 ?k7 ?k8 ?k9 ?kB ?_ ?c2 ?c3 ?c4 ?c5; (case kA => exact rfl); (case kF => exact rfl); (case kK => assumption); (case k1 => k_asm); (case k2 => k_asm); (case k3 => k_asm); (case k4 => k_asm); (case k5 => k_asm); (case k6 => k_is); (case k7 => k_is); (case k8 => ktr_room); (case k9 => first | exact BindsTo.of_eq rfl | exact binds_K (by k_in) rfl (by k_is) rfl rfl rfl); (case c5 => decide); (case kB => exact locs rfl); (case c2 => exact rfl); (case c3 => exact rfl); (case c4 => exact rfl); k_whole; intro g' L' h' G' FG' F' N' B' X' T'; (try dsimp only); (try k_lift B'); (try k_fold))))
local macro_rules | `(tactic| walk_at "mine starA") => `(tactic| (
  refine wpAny_call ?_
  k_dflt (refine' code_starA ?k1 ?k2 ?k3 ?k4 ?k5 ?kA ?kF ?kK ?k6 ?k7 ?k8 ?k9 ?k10 ?k11 ?kB ?_ ?c2 ?c3 ?c4 ?c5; (case kA => exact rfl); (case kF => exact rfl); (case kK => assumption); (case k1 => k_asm); (case k2 => k_asm); (case k3 => k_asm); (case k4 => k_asm); (case k5 => k_asm); (case k6 => k_is); (case k7 => k_is); (case k8 => ktr_room); (case k9 => exact rfl); (case k10 => exact fun _ => rfl); (case k11 => exact fun _ _ => rfl); (case c5 => decide); (case kB => exact fun _ _ => locs rfl); (case c2 => exact rfl); (case c3 => exact rfl); (case c4 => exact rfl); k_whole; intro C' D' g' L' h' tk' l1 l2 nm' G' FG' F' N' B' X' T'; (try k_lt l1); (try k_lt2 l2); (try dsimp only); (try k_lift B'); (try k_fold))))
local macro_rules | `(tactic| walk_at "mine starS") => `(tactic| (
  refine wpS_call ?_
  k_dflt (refine' code_starS ?k1 ?k2 ?k3 ?k4 ?k5 ?kA ?kF ?kK ?k6 ?k7 ?k8 ?k9 ?k10 ?k11 ?kB ?_ ?c2 ?c3 ?c4 ?c5; (case kA => exact rfl); (case kF => exact rfl); (case kK => assumption); (case k1 => k_asm); (case k2 => k_asm); (case k3 => k_asm); (case k4 => k_asm); (case k5 => k_asm); (case k6 => k_is); (case k7 => k_is); (case k8 => ktr_room); (case k9 => exact rfl); (case k10 => exact fun _ => rfl); (case k11 => exact fun _ _ => rfl); (case c5 => decide); (case kB => exact fun _ _ => locs rfl); (case c2 => exact rfl); (case c3 => exact rfl); (case c4 => exact rfl); k_whole; intro C' D' g' L' h' tk' l1 l2 nm' G' FG' F' N' B' X' T'; (try k_lt l1); (try k_lt2 l2); (try dsimp only); (try k_lift B'); (try k_fold))))
local macro_rules | `(tactic| walk_at "call builtin:object.__new__") => `(tactic| (k_here; k_dflt (refine' objnew_N (bv := Value.type "object") ?F ?X ?N ?k ?e1 ?e2 ?e8 ?e9 ?e10 ?e11 ?_; (case F => k_asm); (case X => k_asm); (case N => k_asm); (case k => k_is); (case e1 => exact rfl); (case e2 => exact rfl); (case e8 => k_is); (case e9 => exact fun _ => by kernel_rfl); (case e10 => exact fun _ => by kernel_rfl); (case e11 => exact fun _ => by kernel_rfl); k_whole); intro x' d' h' F' N' l1 l2; (try k_lt l1); (try k_lt2 l2)))
local macro_rules | `(tactic| walk_at "mine room") => `(tactic| (first | assumption | ktr_room | ((try simp only [depth_under_make, depth_under_kw, depth_in1, depth_deeper, depth_caller] at *); (try dsimp only [ktrTop] at *); omega)))
local macro_rules | `(tactic| walk_at "mine units") => `(tactic| (first | assumption | ktr_units))
local macro_rules | `(tactic| walk_at "mine ne") => `(tactic| ((try dsimp only); first | assumption | exact Ne.symm (by assumption) | exact AllNe.at (by assumption) (by k_mem) | exact Ne.symm (AllNe.at (by assumption) (by k_mem)) | omega))
local macro_rules | `(tactic| walk_at "mine all") => `(tactic| (first | exact True.intro | (refine And.intro ?_ ?_; (· walk_at "mine ne"); (· walk_at "mine all"))))
local macro_rules | `(tactic| walk_at "mine del") => `(tactic| first | (refine' Del.head ?da; (case da => walk_at "mine all")) | (refine' Del.tail ?da ?db; (case da => walk_at "mine ne"); (case db => walk_at "mine del")))
local macro_rules | `(tactic| walk_at "mine args") => `(tactic| (walk_at "mine steps"; (try dsimp only); refine cK (by k_is) ?_; walk_at "mine steps"))
local macro_rules | `(tactic| walk_at "mine enterC") => `(tactic| (
  delta wants
  k_dflt (refine' code_defS ?k1 ?k2 ?k3 ?k4 ?k5 ?kA ?kF ?kK ?k6 ?k7 ?k8 ?k9 ?kB ?_ ?c2 ?c3 ?c4 ?c5; (case kA => exact rfl); (case kF => exact rfl); (case kK => assumption); (case k1 => k_asm); (case k2 => k_asm); (case k3 => k_asm); (case k4 => k_asm); (case k5 => k_asm); (case k6 => k_is); (case k7 => k_is); (case k8 => ktr_room); (case k9 => first | exact BindsTo.of_eq rfl | exact binds_K (by k_in) rfl (by k_is) rfl rfl rfl); (case c5 => decide); (case kB => exact locs rfl); (case c2 => exact rfl); (case c3 => exact rfl); (case c4 => exact rfl); k_whole; intro g' L' h' G' FG' F' N' B' X' T'; (try dsimp only); (try k_lift B'); (try k_fold))))
local macro_rules | `(tactic| walk_at "mine enterT") => `(tactic| (
  refine wpAny_call ?_
  k_dflt (refine' code_T0A ?k1 ?k2 ?k3 ?k4 ?k5 ?kA ?kK ?k6 ?k7 ?k8 ?k9 ?kB ?_ ?c2 ?c3 ?c4 ?c5; (case kA => exact rfl); (case kK => assumption); (case k1 => k_asm); (case k2 => k_asm); (case k3 => k_asm); (case k4 => k_asm); (case k5 => k_asm); (case k6 => k_is); (case k7 => k_is); (case k8 => ktr_room); (case k9 => first | exact BindsTo.of_eq rfl | exact binds_K (by k_in) rfl (by k_is) rfl rfl rfl); (case c5 => decide); (case kB => exact locs rfl); (case c2 => exact rfl); (case c3 => exact rfl); (case c4 => exact rfl); k_whole; intro g' L' h' G' FG' F' N' B' X' T' D'; (try dsimp only); (try k_lift B'); (try k_fold))))
local macro_rules | `(tactic| walk_at "mine enterTS") => `(tactic| (
  refine wpS_call ?_
  k_dflt (refine' code_T0S ?k1 ?k2 ?k3 ?k4 ?k5 ?kA ?kK ?k6 ?k7 ?k8 ?k9 ?kB ?_ ?c2 ?c3 ?c4 ?c5; (case kA => exact rfl); (case kK => assumption); (case k1 => k_asm); (case k2 => k_asm); (case k3 => k_asm); (case k4 => k_asm); (case k5 => k_asm); (case k6 => k_is); (case k7 => k_is); (case k8 => ktr_room); (case k9 => first | exact BindsTo.of_eq rfl | exact binds_K (by k_in) rfl (by k_is) rfl rfl rfl); (case c5 => decide); (case kB => exact locs rfl); (case c2 => exact rfl); (case c3 => exact rfl); (case c4 => exact rfl); k_whole; intro g' L' h' G' FG' F' N' B' X' T' D'; (try dsimp only); (try k_lift B'); (try k_fold))))
local macro_rules | `(tactic| walk_at "mine enterCA") => `(tactic| (
  delta wants
  k_dflt (refine' code_defA ?k1 ?k2 ?k3 ?k4 ?k5 ?kA ?kF ?kK ?k6 ?k7 ?k8 ?k9 ?kB ?_ ?c2 ?c3 ?c4 ?c5; (case kA => exact rfl); (case kF => exact rfl); (case kK => assumption); (case k1 => k_asm); (case k2 => k_asm); (case k3 => k_asm); (case k4 => k_asm); (case k5 => k_asm); (case k6 => k_is); (case k7 => k_is); (case k8 => ktr_room); (case k9 => first | exact BindsTo.of_eq rfl | exact binds_K (by k_in) rfl (by k_is) rfl rfl rfl); (case c5 => decide); (case kB => exact locs rfl); (case c2 => exact rfl); (case c3 => exact rfl); (case c4 => exact rfl); k_whole; intro g' L' h' G' FG' F' N' B' X' T'; (try dsimp only); (try k_lift B'); (try k_fold))))
section
theorem write_c {w : World} {dp un : Nat} {cn : Str} {cs : Scope} {a : Addr} {ccd : Value} {cl : List (Str × Addr)} {outer : List Env} {A₀ : Around} {base h₀ : Heap} {L : Addr} {m mg mb : Str → Option Value} {p : Program} {loose : List Str} {mean : ExcName → Option Value} {s : Shared} {Q E : Value → Shared → Prop}
    {x dx ab : Addr} {h1 h2 : Int} {t1 t2 t3 t : Tok} {b c : Array UInt8} {ks : List Int} {P : Int}
    (B : Below A₀ base outer h₀) (F : Fr h₀ L s.heap m)
    (N : News h₀ L s.heap [(x, instObj 340 dx), (dx, dictOf [⟨h1, .str (Str.ofString "_BytesIO__buf") t1, .ref ab⟩, ⟨h2, .str (Str.ofString "_BytesIO__pos") t2, .int P t3⟩] 2), (ab, baObj b)])
    (T : Top p loose mean mg mb h₀) (hk : cs.kind = .function) (hd : dp + 5 < recursionLimit) (hu : un + 40 < cLine)
    (n1 : @Ne Nat x dx) (n2 : @Ne Nat x ab) (n3 : @Ne Nat dx ab) (hP : P = (b.size : Int)) (hc : KBw.bInts c = ks) (h0 : 0 < ks.length) (hz : b.size ≤ 1000000) (hz2 : ks.length ≤ 1000000)
    (ret : ∀ h' t3' tr tk', Fr h₀ L h' m → News h₀ L h' [(x, instObj 340 dx), (dx, dictOf [⟨h1, .str (Str.ofString "_BytesIO__buf") t1, .ref ab⟩, ⟨h2, .str (Str.ofString "_BytesIO__pos") t2, .int (P + (ks.length : Nat)) t3'⟩] 2), (ab, baObj (b ++ c))] →
      (∀ y o, y ≠ x → y ≠ dx → y ≠ ab → s.heap.get? y = some o → h'.get? y = some o) → Q (.int ks.length tr) { s with heap := h', toks := tk' }) :
    (MineH.hd.heap_39 w.params).In h₀ → wpS (model PySem.Challenge.rw_gb5006_01.row.prog w) (ktrTop dp un (some []) cn cs L a ccd cl outer) (call (.ref 323) [.ref x, .bytes c t]) Q E s := by
  k_fill
  intro X
  have hcs : c.size = ks.length := by rw [← hc, KBw.ints_length]
  walk_at "mine enterS"
  iterate 7 (refine execsS_leaf ?_; walk_at "mine steps"; (try dsimp only))
  refine execsS_cons (assignS_Sub ?_ (by with_unfolding_all rfl))
  walk_at "mine steps"
  refine ba_setslice (by k_asm) (by k_asm) (by k_upd) (by k_mem) rfl rfl (by omega) (by omega) (by rw [sizeLine_eq]; omega) (by omega) ?_
  intro h2' F2' N2'
  (try dsimp only)
  iterate 2 (refine execsS_leaf ?_; walk_at "mine steps"; (try dsimp only))
  intro hkeep
  dsimp only
  (rename News _ _ _ _ => nE)
  refine ret _ _ _ _ (by assumption) (cb_drop nE (fun p hp => List.Mem.tail _ hp)) ?_
  intro y o m1 m2 m3 hy
  (rename GK _ _ _ => gk)
  exact hkeep _ _ (gk.keep y o (by simp only [List.map_cons, List.map_nil, List.mem_cons, List.not_mem_nil, or_false, not_or]; exact ⟨m1, m2, m3⟩) hy)
end

section
local macro_rules | `(tactic| walk_at "mine dummy") => `(tactic| skip)
theorem newfn_c {w : World} {dp un : Nat} {cn : Str} {cs : Scope} {a : Addr} {ccd : Value} {cl : List (Str × Addr)} {outer : List Env} {A₀ : Around} {base h₀ : Heap} {L : Addr} {m mg mb : Str → Option Value} {p : Program} {loose : List Str} {mean : ExcName → Option Value} {s : Shared} {Q E : Value → Shared → Prop}
    (B : Below A₀ base outer h₀) (F : Fr h₀ L s.heap m) (N : News h₀ L s.heap [])
    (T : Top p loose mean mg mb h₀) (hk : cs.kind = .function) (hd : dp + 5 < recursionLimit) (hu : un + 40 < cLine)
    (ret : ∀ x dx h' tk', Fr h₀ L h' m → News h₀ L h' [(x, instObj 340 dx), (dx, dictOf [] 0)] → @LT.lt Nat _ dx x → 
      (∀ y o, s.heap.get? y = some o → h'.get? y = some o) → s.heap.get? x = none → s.heap.get? dx = none → Q (.ref x) { s with heap := h', toks := tk' }) :
    (MineH.hd.heap_39 w.params).In h₀ → wpAny (model PySem.Challenge.rw_gb5006_01.row.prog w) (ktrTop dp un (some []) cn cs L a ccd cl outer) (call (.ref 80) [.ref 340]) Q E s := by
  k_fill
  intro X
  walk_at "mine starA"
  walk_at "mine steps"
  intro hkeep
  dsimp only
  (rename News _ _ _ _ => nE)
  (rename GK _ _ _ => gk)
  refine ret _ _ _ _ (by assumption) (cb_drop nE (by kcj_all)) (by omega) ?_ (gk_fresh gk (by assumption) (by k_mem) (by simp)) (gk_fresh gk (by assumption) (by k_mem) (by simp))
  intro y o hy
  exact hkeep _ _ (gk.keep y o (by simp) hy)
end

section
theorem init_c {w : World} {dp un : Nat} {cn : Str} {cs : Scope} {a : Addr} {ccd : Value} {cl : List (Str × Addr)} {outer : List Env} {A₀ : Around} {base h₀ : Heap} {L : Addr} {m mg mb : Str → Option Value} {p : Program} {loose : List Str} {mean : ExcName → Option Value} {s : Shared} {Q E : Value → Shared → Prop} {x dx : Addr}
    (B : Below A₀ base outer h₀) (F : Fr h₀ L s.heap m) (N : News h₀ L s.heap [(x, instObj 340 dx), (dx, dictOf [] 0)])
    (T : Top p loose mean mg mb h₀) (hk : cs.kind = .function) (hd : dp + 5 < recursionLimit) (hu : un + 40 < cLine) (n1 : @Ne Nat x dx)
    (ret : ∀ ab h' t1 t2 t3 tk', Fr h₀ L h' m → News h₀ L h' [(x, instObj 340 dx), (dx, dictOf [⟨PyData.keyHash w.params (Str.ofString "_BytesIO__buf"), .str (Str.ofString "_BytesIO__buf") t1, .ref ab⟩, ⟨PyData.keyHash w.params (Str.ofString "_BytesIO__pos"), .str (Str.ofString "_BytesIO__pos") t2, .int 0 t3⟩] 2), (ab, baObj #[])] →
      @Ne Nat ab x → @Ne Nat ab dx → (∀ y o, y ≠ x → y ≠ dx → s.heap.get? y = some o → h'.get? y = some o) → s.heap.get? ab = none → Q .none { s with heap := h', toks := tk' }) :
    (MineH.hd.heap_39 w.params).In h₀ → wpS (model PySem.Challenge.rw_gb5006_01.row.prog w) (ktrTop dp un (some []) cn cs L a ccd cl outer) (call (.ref 127) [.ref x]) Q E s := by
  k_fill
  intro X
  walk_at "mine enterS"
  refine execsS_leaf ?_
  walk_at "mine steps"
  (try dsimp only)
  refine execsS_cons (assignS_Attr (ifExpS ?_) (by with_unfolding_all rfl))
  walk_at "mine steps"
  refine callNameS ?_
  walk_at "mine steps"
  refine callWithS_T0 ?_
  refine baS_new0_N (by k_asm) (by k_asm) ?_
  intro ab h2' F2' N2' l2'
  (try k_lt l2')
  (try dsimp only)
  walk_at "mine steps"
  (try dsimp only)
  refine execsS_leaf ?_
  walk_at "mine steps"
  (try dsimp only)
  refine execsS_nil ?_
  (try dsimp only)
  walk_at "mine steps"
  intro hkeep
  dsimp only
  (rename News _ _ _ _ => nE)
  (rename GK _ _ _ => gk)
  refine ret _ _ _ _ _ _ (by assumption) (cb_drop nE (by kcj_all)) (by omega) (by omega) ?_ (gk_fresh gk (by assumption) (by k_mem) (by simp only [List.map_cons, List.map_nil, List.mem_cons, List.not_mem_nil, or_false, not_or]; exact ⟨neN (by omega), neN (by omega)⟩))
  intro y o m1 m2 hy
  exact hkeep _ _ (gk.keep y o (by simp only [List.map_cons, List.map_nil, List.mem_cons, List.not_mem_nil, or_false, not_or]; exact ⟨m1, m2⟩) hy)
end

section
local macro_rules | `(tactic| walk_at "mine dummy") => `(tactic| skip)
theorem newIO_c {w : World} {dp un : Nat} {cn : Str} {cs : Scope} {a : Addr} {ccd : Value} {cl : List (Str × Addr)} {outer : List Env} {A₀ : Around} {base h₀ : Heap} {L : Addr} {m mg mb : Str → Option Value} {p : Program} {loose : List Str} {mean : ExcName → Option Value} {s : Shared} {Q E : Value → Shared → Prop}
    (B : Below A₀ base outer h₀) (F : Fr h₀ L s.heap m) (T : Top p loose mean mg mb h₀) (hk : cs.kind = .function) (hd : dp + 7 < recursionLimit) (hu : un + 50 < cLine)
    (ret : ∀ x dx ab h' t1 t2 t3 tk', Fr h₀ L h' m → News h₀ L h' [(x, instObj 340 dx), (dx, dictOf [⟨PyData.keyHash w.params (Str.ofString "_BytesIO__buf"), .str (Str.ofString "_BytesIO__buf") t1, .ref ab⟩, ⟨PyData.keyHash w.params (Str.ofString "_BytesIO__pos"), .str (Str.ofString "_BytesIO__pos") t2, .int 0 t3⟩] 2), (ab, baObj #[])] →
      @Ne Nat x dx → @Ne Nat x ab → @Ne Nat dx ab → (∀ y o, s.heap.get? y = some o → h'.get? y = some o) → s.heap.get? x = none → s.heap.get? dx = none → s.heap.get? ab = none → Q (.ref x) { s with heap := h', toks := tk' }) :
    (MineH.hd.heap_39 w.params).In h₀ → wpS (model PySem.Challenge.rw_gb5006_01.row.prog w) (ktrTop dp un (some []) cn cs L a ccd cl outer) (call (.ref 340) []) Q E s := by
  k_fill
  intro X
  k_dflt (refine' makeS_own (mro := [.ref 340, .ref 98, .ref 83, .type "object"]) F X ?k1 ?k2 ?k3 ?k4 ?k5 ?k6 ?k7 ?k8 ?k9 ?k10 ?k11 ?k12 ?k13 ?_)
  (case k1 => k_is)
  (case k2 => k_is)
  (case k3 => k_is)
  (case k4 => exact fun _ => by kernel_rfl)
  (case k5 => exact rfl)
  (case k6 => exact fun _ => by kernel_rfl)
  (case k7 => k_is)
  (case k8 => k_is)
  (case k9 => k_is)
  (case k10 => k_is)
  (case k11 => exact fun _ => by kernel_rfl)
  (case k12 => k_is)
  (case k13 => k_is)
  intro tk
  rw [under_tc]
  refine newfn_c (s := { s with toks := tk }) B F (fun _ h => nomatch h) T hk (by omega) (by omega) ?_ X
  intro x dx h' tk' F' N' lt keep fx fdx
  refine ⟨x, rfl, X.keeps F'.keep, ⟨_, (N' (x, instObj 340 dx) (by k_mem)).1, rfl⟩, ?_⟩
  refine init_c (s := { s with heap := h', toks := tk' }) B F' N' T hk (by omega) (by omega) (by omega) ?_ X
  intro ab h2 t1 t2 t3 tk2 F2 N2 n1 n2 keep2 fab
  refine ⟨rfl, ret x dx ab h2 t1 t2 t3 tk2 F2 N2 (by omega) (Ne.symm n1) (Ne.symm n2) (fun y o e => keep2 y o ?_ ?_ (keep y o e)) fx fdx ?_⟩
  · rintro rfl; rw [show s.heap.get? y = none from fx] at e; cases e
  · rintro rfl; rw [show s.heap.get? y = none from fdx] at e; cases e
  · cases q : s.heap.get? ab with
    | none => rfl
    | some o => rw [keep _ _ q] at fab; cases fab
end

section
def AllNe (d : Nat) : List (Addr × Obj) → Prop
  | [] => True
  | p :: r => @Ne Nat p.1 d ∧ AllNe d r
theorem allNe_of {d : Addr} : ∀ {l : List (Addr × Obj)}, (∀ p ∈ l, p.1 ≠ d) → AllNe d l
  | [], _ => trivial
  | p :: _, h => ⟨h p (.head _), allNe_of fun q hq => h q (.tail _ hq)⟩
theorem AllNe.of {d : Addr} {l : List (Addr × Obj)} (h : AllNe d l) : ∀ p ∈ l, p.1 ≠ d := by
  induction l with
  | nil => intro p hp; cases hp
  | cons q r ih =>
    intro p hp
    rcases List.mem_cons.mp hp with e | hp
    · exact e ▸ h.1
    · exact ih h.2 p hp
theorem AllNe.at {d a : Addr} {o : Obj} {l : List (Addr × Obj)} (h : AllNe d l) (m : (a, o) ∈ l) : @Ne Nat a d := h.of _ m
theorem allNe_fresh {h₀ h : Heap} {L d : Addr} {news : List (Addr × Obj)} (N : News h₀ L h news) (hf : h.get? d = none) : AllNe d news :=
  allNe_of fun p hp e => by have z := (N p hp).1; rw [e, hf] at z; cases z
inductive Del (a : Addr) : List (Addr × Obj) → List (Addr × Obj) → Prop
  | head {o r} : AllNe a r → Del a ((a, o) :: r) r
  | tail {p : Addr × Obj} {r r'} : @Ne Nat p.1 a → Del a r r' → Del a (p :: r) (p :: r')
theorem Del.out {a : Addr} : ∀ {l l' : List (Addr × Obj)}, Del a l l' → ∀ p ∈ l', p ∈ l ∧ p.1 ≠ a
  | _, _, .head h, p, hp => ⟨.tail _ hp, h.of p hp⟩
  | _, _, .tail (p := q) h r, p, hp => by
    rcases List.mem_cons.mp hp with rfl | hp
    · exact ⟨.head _, h⟩
    · exact ⟨.tail _ (r.out p hp).1, (r.out p hp).2⟩
theorem write_u {w : World} {dp un : Nat} {cn : Str} {cs : Scope} {a : Addr} {ccd : Value} {cl : List (Str × Addr)} {outer : List Env} {A₀ : Around} {base h₀ : Heap} {L : Addr} {m mg mb : Str → Option Value} {p : Program} {loose : List Str} {mean : ExcName → Option Value} {s : Shared} {Q E : Value → Shared → Prop}
    {x dx ab : Addr} {h1 h2 : Int} {t1 t2 t3 t : Tok} {b c : Array UInt8} {bs ks : List Int} {P : Int} {news r1 r2 r3 : List (Addr × Obj)}
    (B : Below A₀ base outer h₀) (F : Fr h₀ L s.heap m) (X : (MineH.hd.heap_39 w.params).In h₀) (N : News h₀ L s.heap news) (T : Top p loose mean mg mb h₀) (hk : cs.kind = .function)
    (hx : (x, instObj 340 dx) ∈ news) (hdx : (dx, dictOf [⟨h1, .str (Str.ofString "_BytesIO__buf") t1, .ref ab⟩, ⟨h2, .str (Str.ofString "_BytesIO__pos") t2, .int P t3⟩] 2) ∈ news) (hab : (ab, baObj b) ∈ news)
    (D1 : Del x news r1) (D2 : Del dx r1 r2) (D3 : Del ab r2 r3)
    (hd : dp + 5 < recursionLimit) (hu : un + 40 < cLine)
    (n1 : @Ne Nat x dx) (n2 : @Ne Nat x ab) (n3 : @Ne Nat dx ab) (hb : KBw.bInts b = bs) (hP : P = (bs.length : Int)) (hc : KBw.bInts c = ks) (h0 : 0 < ks.length) (hz : bs.length ≤ 1000) (hz2 : ks.length ≤ 1000)
    (ret : ∀ b' h' t3' tr tk', KBw.bInts b' = bs ++ ks → Fr h₀ L h' m → News h₀ L h' ((x, instObj 340 dx) :: (dx, dictOf [⟨h1, .str (Str.ofString "_BytesIO__buf") t1, .ref ab⟩, ⟨h2, .str (Str.ofString "_BytesIO__pos") t2, .int (P + (ks.length : Nat)) t3'⟩] 2) :: (ab, baObj b') :: r3) →
      Q (.int ks.length tr) { s with heap := h', toks := tk' }) :
    wpS (model PySem.Challenge.rw_gb5006_01.row.prog w) (ktrTop dp un (some []) cn cs L a ccd cl outer) (call (.ref 323) [.ref x, .bytes c t]) Q E s := by
  have hbs : b.size = bs.length := by rw [← hb, KBw.ints_length]
  refine write_c (b := b) (P := P) (h1 := h1) (h2 := h2) (t1 := t1) (t2 := t2) (t3 := t3) (ab := ab) (dx := dx) B F (fun q hq => ?_) T hk hd hu n1 n2 n3 (by rw [hP, hbs]) hc h0 (by omega) (by omega) (fun h' t3' tr tk' F' N' keep => ?_) X
  · simp only [List.mem_cons, List.not_mem_nil, or_false] at hq
    rcases hq with rfl | rfl | rfl
    · exact N _ hx
    · exact N _ hdx
    · exact N _ hab
  · refine ret _ h' t3' tr tk' (KBw.ints_app hb hc) F' fun q hq => ?_
    have z : q = (x, instObj 340 dx) ∨ q = (dx, dictOf [⟨h1, .str (Str.ofString "_BytesIO__buf") t1, .ref ab⟩, ⟨h2, .str (Str.ofString "_BytesIO__pos") t2, .int (P + (ks.length : Nat)) t3'⟩] 2) ∨ q = (ab, baObj (b ++ c)) ∨ q ∈ r3 := by
      simpa only [List.mem_cons] using hq
    rcases z with rfl | rfl | rfl | hq
    · exact N' _ (by simp)
    · exact N' _ (by simp)
    · exact N' _ (by simp)
    · obtain ⟨q2, e3⟩ := D3.out q hq
      obtain ⟨q1, e2⟩ := D2.out q q2
      obtain ⟨q0, e1⟩ := D1.out q q1
      exact ⟨keep _ _ e1 e2 e3 (N _ q0).1, (N _ q0).2⟩

theorem newIO_u {w : World} {dp un : Nat} {cn : Str} {cs : Scope} {a : Addr} {ccd : Value} {cl : List (Str × Addr)} {outer : List Env} {A₀ : Around} {base h₀ : Heap} {L : Addr} {m mg mb : Str → Option Value} {p : Program} {loose : List Str} {mean : ExcName → Option Value} {s : Shared} {Q E : Value → Shared → Prop} {news : List (Addr × Obj)}
    (B : Below A₀ base outer h₀) (F : Fr h₀ L s.heap m) (X : (MineH.hd.heap_39 w.params).In h₀) (N : News h₀ L s.heap news) (T : Top p loose mean mg mb h₀) (hk : cs.kind = .function) (hd : dp + 7 < recursionLimit) (hu : un + 50 < cLine)
    (ret : ∀ x dx ab h' t1 t2 t3 tk', Fr h₀ L h' m → News h₀ L h' ((x, instObj 340 dx) :: (dx, dictOf [⟨PyData.keyHash w.params (Str.ofString "_BytesIO__buf"), .str (Str.ofString "_BytesIO__buf") t1, .ref ab⟩, ⟨PyData.keyHash w.params (Str.ofString "_BytesIO__pos"), .str (Str.ofString "_BytesIO__pos") t2, .int 0 t3⟩] 2) :: (ab, baObj #[]) :: news) →
      @Ne Nat x dx → @Ne Nat x ab → @Ne Nat dx ab → AllNe x news → AllNe dx news → AllNe ab news → Q (.ref x) { s with heap := h', toks := tk' }) :
    wpS (model PySem.Challenge.rw_gb5006_01.row.prog w) (ktrTop dp un (some []) cn cs L a ccd cl outer) (call (.ref 340) []) Q E s :=
  newIO_c B F T hk hd hu (fun x dx ab h' t1 t2 t3 tk' F' N' n1 n2 n3 keep f1 f2 f3 => ret x dx ab h' t1 t2 t3 tk' F' (fun q hq => by
    have z : q = (x, instObj 340 dx) ∨ q = (dx, dictOf [⟨PyData.keyHash w.params (Str.ofString "_BytesIO__buf"), .str (Str.ofString "_BytesIO__buf") t1, .ref ab⟩, ⟨PyData.keyHash w.params (Str.ofString "_BytesIO__pos"), .str (Str.ofString "_BytesIO__pos") t2, .int 0 t3⟩] 2) ∨ q = (ab, baObj #[]) ∨ q ∈ news := by
      simpa only [List.mem_cons] using hq
    rcases z with rfl | rfl | rfl | hq
    · exact N' _ (by simp)
    · exact N' _ (by simp)
    · exact N' _ (by simp)
    · exact ⟨keep _ _ (N _ hq).1, (N _ hq).2⟩) n1 n2 n3 (allNe_fresh N f1) (allNe_fresh N f2) (allNe_fresh N f3)) X
end

local macro_rules | `(tactic| k_room) => `(tactic| ktr_room)
local macro_rules | `(tactic| walk_at "mine enterS") => `(tactic| (
  refine wpS_call ?_
  k_dflt (refine' code_defS ?k1 ?k2 ?k3 ?k4 ?k5 ?kA ?kF ?kK ?k6 ?k7 ?k8 ?k9 ?kB ?_ ?c2 ?c3 ?c4 ?c5; (case kA => exact rfl); (case kF => exact rfl); (case kK => assumption); (case k1 => k_asm); (case k2 => k_asm); (case k3 => k_asm); (case k4 => k_asm); (case k5 => k_asm); (case k6 => k_is); (case k7 => k_is); (case k8 => ktr_room); (case k9 => first | exact BindsTo.of_eq rfl | exact binds_K (by k_in) rfl (by k_is) rfl rfl rfl); (case c5 => decide); (case kB => exact locs rfl); (case c2 => exact rfl); (case c3 => exact rfl); (case c4 => exact rfl); k_whole; intro g' L' h' G' FG' F' N' B' X' T'; (try dsimp only); (try k_lift B'); (try k_fold))))
local macro_rules | `(tactic| walk_at "mine steps") => `(tactic| repeat' (first | walk1 | (dsimp only; walk1) | (leave1; try dsimp only)))
local macro_rules | `(tactic| walk_at "call builtin:len") => `(tactic| (k_here; (with_reducible show wpAny _ _ (call (Value.builtin "len") [Value.ref _]) _ _ _); k_dflt (refine' ba_len_N ?N ?m ?z ?_; (case N => k_asm); (case m => k_mem); (case z => omega); k_whole)))
local macro_rules | `(tactic| walk_at "eval Slice") => `(tactic| (k_here; with_reducible refine slice_E ?_))
local macro_rules | `(tactic| walk_at "newFields") => `(tactic| (k_here; k_dflt (refine' newSlice_N ?F ?N ?_; (case F => k_asm); (case N => k_asm); k_whole); intro q' h' F' N' l1; (try k_lt l1)))

local macro_rules | `(tactic| walk_at "call type:type") => `(tactic| (k_here; (with_reducible show wpAny _ _ (call (Value.type "type") [Value.bytes _ _]) _ _ _); refine call_type_of (by_ty _ _) (by decide +kernel) ?_))
local macro_rules | `(tactic| walk_at "compareOp IsNot") => `(tactic| (k_here; (with_reducible show wpAny _ _ (compareOp CmpOp.IsNot (Value.type _) (Value.type _)) _ _ _); first | refine wpAny_isNot_self (by rfl) ?_ | refine wpAny_isNot_other (by rfl) (by decide) ?_))

local macro_rules | `(tactic| walk_at "ite") => `(tactic| (k_here; k_openite; first | (refine ite_neg (by (simp only [beq_iff_eq, decide_eq_true_eq, Bool.not_eq_true, beq_eq_false_iff_ne, decide_eq_false_iff_not]; omega)) ?_; walk_say "PRUNED here") | (refine ite_pos (by (simp only [beq_iff_eq, decide_eq_true_eq]; omega)) ?_; walk_say "PRUNED here")))

local macro_rules | `(tactic| walk_at "mine enterA") => `(tactic| (
  refine wpAny_call ?_
  k_dflt (refine' code_defA ?k1 ?k2 ?k3 ?k4 ?k5 ?kA ?kF ?kK ?k6 ?k7 ?k8 ?k9 ?kB ?_ ?c2 ?c3 ?c4 ?c5; (case kA => exact rfl); (case kF => exact rfl); (case kK => assumption); (case k1 => k_asm); (case k2 => k_asm); (case k3 => k_asm); (case k4 => k_asm); (case k5 => k_asm); (case k6 => k_is); (case k7 => k_is); (case k8 => ktr_room); (case k9 => first | exact BindsTo.of_eq rfl | exact binds_K (by k_in) rfl (by k_is) rfl rfl rfl); (case c5 => decide); (case kB => exact locs rfl); (case c2 => exact rfl); (case c3 => exact rfl); (case c4 => exact rfl); k_whole; intro g' L' h' G' FG' F' N' B' X' T'; (try dsimp only); (try k_lift B'); (try k_fold))))
local macro_rules | `(tactic| walk_at "mine starA") => `(tactic| (
  refine wpAny_call ?_
  k_dflt (refine' code_starA ?k1 ?k2 ?k3 ?k4 ?k5 ?kA ?kF ?kK ?k6 ?k7 ?k8 ?k9 ?k10 ?k11 ?kB ?_ ?c2 ?c3 ?c4 ?c5; (case kA => exact rfl); (case kF => exact rfl); (case kK => assumption); (case k1 => k_asm); (case k2 => k_asm); (case k3 => k_asm); (case k4 => k_asm); (case k5 => k_asm); (case k6 => k_is); (case k7 => k_is); (case k8 => ktr_room); (case k9 => exact rfl); (case k10 => exact fun _ => rfl); (case k11 => exact fun _ _ => rfl); (case c5 => decide); (case kB => exact fun _ _ => locs rfl); (case c2 => exact rfl); (case c3 => exact rfl); (case c4 => exact rfl); k_whole; intro C' D' g' L' h' tk' l1 l2 nm' G' FG' F' N' B' X' T'; (try k_lt l1); (try k_lt2 l2); (try dsimp only); (try k_lift B'); (try k_fold))))
local macro_rules | `(tactic| walk_at "mine starS") => `(tactic| (
  refine wpS_call ?_
  k_dflt (refine' code_starS ?k1 ?k2 ?k3 ?k4 ?k5 ?kA ?kF ?kK ?k6 ?k7 ?k8 ?k9 ?k10 ?k11 ?kB ?_ ?c2 ?c3 ?c4 ?c5; (case kA => exact rfl); (case kF => exact rfl); (case kK => assumption); (case k1 => k_asm); (case k2 => k_asm); (case k3 => k_asm); (case k4 => k_asm); (case k5 => k_asm); (case k6 => k_is); (case k7 => k_is); (case k8 => ktr_room); (case k9 => exact rfl); (case k10 => exact fun _ => rfl); (case k11 => exact fun _ _ => rfl); (case c5 => decide); (case kB => exact fun _ _ => locs rfl); (case c2 => exact rfl); (case c3 => exact rfl); (case c4 => exact rfl); k_whole; intro C' D' g' L' h' tk' l1 l2 nm' G' FG' F' N' B' X' T'; (try k_lt l1); (try k_lt2 l2); (try dsimp only); (try k_lift B'); (try k_fold))))
local macro_rules | `(tactic| walk_at "call builtin:object.__new__") => `(tactic| (k_here; k_dflt (refine' objnew_N (bv := Value.type "object") ?F ?X ?N ?k ?e1 ?e2 ?e8 ?e9 ?e10 ?e11 ?_; (case F => k_asm); (case X => k_asm); (case N => k_asm); (case k => k_is); (case e1 => exact rfl); (case e2 => exact rfl); (case e8 => k_is); (case e9 => exact fun _ => by kernel_rfl); (case e10 => exact fun _ => by kernel_rfl); (case e11 => exact fun _ => by kernel_rfl); k_whole); intro x' d' h' F' N' l1 l2; (try k_lt l1); (try k_lt2 l2)))
local macro_rules | `(tactic| walk_at "mine room") => `(tactic| (first | assumption | ktr_room | ((try simp only [depth_under_make, depth_under_kw, depth_in1, depth_deeper, depth_caller] at *); (try dsimp only [ktrTop] at *); omega)))
local macro_rules | `(tactic| walk_at "mine units") => `(tactic| (first | assumption | ktr_units))
local macro_rules | `(tactic| walk_at "mine ne") => `(tactic| ((try dsimp only); first | assumption | exact Ne.symm (by assumption) | exact AllNe.at (by assumption) (by k_mem) | exact Ne.symm (AllNe.at (by assumption) (by k_mem)) | omega))
local macro_rules | `(tactic| walk_at "mine all") => `(tactic| (first | exact True.intro | (refine And.intro ?_ ?_; (· walk_at "mine ne"); (· walk_at "mine all"))))
local macro_rules | `(tactic| walk_at "mine del") => `(tactic| first | (refine' Del.head ?da; (case da => walk_at "mine all")) | (refine' Del.tail ?da ?db; (case da => walk_at "mine ne"); (case db => walk_at "mine del")))
local macro_rules | `(tactic| walk_at "mine args") => `(tactic| (walk_at "mine steps"; (try dsimp only); refine cK (by k_is) ?_; walk_at "mine steps"))
local macro_rules | `(tactic| walk_at "mine enterC") => `(tactic| (
  delta wants
  k_dflt (refine' code_defS ?k1 ?k2 ?k3 ?k4 ?k5 ?kA ?kF ?kK ?k6 ?k7 ?k8 ?k9 ?kB ?_ ?c2 ?c3 ?c4 ?c5; (case kA => exact rfl); (case kF => exact rfl); (case kK => assumption); (case k1 => k_asm); (case k2 => k_asm); (case k3 => k_asm); (case k4 => k_asm); (case k5 => k_asm); (case k6 => k_is); (case k7 => k_is); (case k8 => ktr_room); (case k9 => first | exact BindsTo.of_eq rfl | exact binds_K (by k_in) rfl (by k_is) rfl rfl rfl); (case c5 => decide); (case kB => exact locs rfl); (case c2 => exact rfl); (case c3 => exact rfl); (case c4 => exact rfl); k_whole; intro g' L' h' G' FG' F' N' B' X' T'; (try dsimp only); (try k_lift B'); (try k_fold))))
local macro_rules | `(tactic| walk_at "mine enterT") => `(tactic| (
  refine wpAny_call ?_
  k_dflt (refine' code_T0A ?k1 ?k2 ?k3 ?k4 ?k5 ?kA ?kK ?k6 ?k7 ?k8 ?k9 ?kB ?_ ?c2 ?c3 ?c4 ?c5; (case kA => exact rfl); (case kK => assumption); (case k1 => k_asm); (case k2 => k_asm); (case k3 => k_asm); (case k4 => k_asm); (case k5 => k_asm); (case k6 => k_is); (case k7 => k_is); (case k8 => ktr_room); (case k9 => first | exact BindsTo.of_eq rfl | exact binds_K (by k_in) rfl (by k_is) rfl rfl rfl); (case c5 => decide); (case kB => exact locs rfl); (case c2 => exact rfl); (case c3 => exact rfl); (case c4 => exact rfl); k_whole; intro g' L' h' G' FG' F' N' B' X' T' D'; (try dsimp only); (try k_lift B'); (try k_fold))))
local macro_rules | `(tactic| walk_at "mine enterTS") => `(tactic| (
  refine wpS_call ?_
  k_dflt (refine' code_T0S ?k1 ?k2 ?k3 ?k4 ?k5 ?kA ?kK ?k6 ?k7 ?k8 ?k9 ?kB ?_ ?c2 ?c3 ?c4 ?c5; (case kA => exact rfl); (case kK => assumption); (case k1 => k_asm); (case k2 => k_asm); (case k3 => k_asm); (case k4 => k_asm); (case k5 => k_asm); (case k6 => k_is); (case k7 => k_is); (case k8 => ktr_room); (case k9 => first | exact BindsTo.of_eq rfl | exact binds_K (by k_in) rfl (by k_is) rfl rfl rfl); (case c5 => decide); (case kB => exact locs rfl); (case c2 => exact rfl); (case c3 => exact rfl); (case c4 => exact rfl); k_whole; intro g' L' h' G' FG' F' N' B' X' T' D'; (try dsimp only); (try k_lift B'); (try k_fold))))
local macro_rules | `(tactic| walk_at "mine enterCA") => `(tactic| (
  delta wants
  k_dflt (refine' code_defA ?k1 ?k2 ?k3 ?k4 ?k5 ?kA ?kF ?kK ?k6 ?k7 ?k8 ?k9 ?kB ?_ ?c2 ?c3 ?c4 ?c5; (case kA => exact rfl); (case kF => exact rfl); (case kK => assumption); (case k1 => k_asm); (case k2 => k_asm); (case k3 => k_asm); (case k4 => k_asm); (case k5 => k_asm); (case k6 => k_is); (case k7 => k_is); (case k8 => ktr_room); (case k9 => first | exact BindsTo.of_eq rfl | exact binds_K (by k_in) rfl (by k_is) rfl rfl rfl); (case c5 => decide); (case kB => exact locs rfl); (case c2 => exact rfl); (case c3 => exact rfl); (case c4 => exact rfl); k_whole; intro g' L' h' G' FG' F' N' B' X' T'; (try dsimp only); (try k_lift B'); (try k_fold))))
section
local macro_rules | `(tactic| walk_at "call type:bytes") => `(tactic| (k_here; (with_reducible show wpAny _ _ (call (Value.type "bytes") [Value.ref _]) _ _ _); k_dflt (refine' bytes_ba_N ?N ?m ?z ?_; (case N => k_asm); (case m => k_mem); (case z => (rw [sizeLine_eq]; omega)); k_whole); intro tb' tk'; (try dsimp only)))
theorem getv_c {w : World} {dp un : Nat} {cn : Str} {cs : Scope} {a : Addr} {ccd : Value} {cl : List (Str × Addr)} {outer : List Env} {A₀ : Around} {base h₀ : Heap} {L : Addr} {m mg mb : Str → Option Value} {p : Program} {loose : List Str} {mean : ExcName → Option Value} {s : Shared} {Q E : Value → Shared → Prop}
    {x dx ab : Addr} {h1 h2 : Int} {t1 t2 t3 : Tok} {b : Array UInt8} {P : Int}
    (B : Below A₀ base outer h₀) (F : Fr h₀ L s.heap m)
    (N : News h₀ L s.heap [(x, instObj 340 dx), (dx, dictOf [⟨h1, .str (Str.ofString "_BytesIO__buf") t1, .ref ab⟩, ⟨h2, .str (Str.ofString "_BytesIO__pos") t2, .int P t3⟩] 2), (ab, baObj b)])
    (T : Top p loose mean mg mb h₀) (hk : cs.kind = .function) (hd : dp + 5 < recursionLimit) (hu : un + 40 < cLine) (hz : b.size ≤ 1000000)
    (ret : ∀ h' tb tk', Fr h₀ L h' m → News h₀ L h' [(x, instObj 340 dx), (dx, dictOf [⟨h1, .str (Str.ofString "_BytesIO__buf") t1, .ref ab⟩, ⟨h2, .str (Str.ofString "_BytesIO__pos") t2, .int P t3⟩] 2), (ab, baObj b)] →
      (∀ y o, y ≠ x → y ≠ dx → y ≠ ab → s.heap.get? y = some o → h'.get? y = some o) → Q (.bytes b tb) { s with heap := h', toks := tk' }) :
    (MineH.hd.heap_39 w.params).In h₀ → wpAny (model PySem.Challenge.rw_gb5006_01.row.prog w) (ktrTop dp un (some []) cn cs L a ccd cl outer) (call (.ref 226) [.ref x]) Q E s := by
  k_fill
  intro X
  walk_at "mine enterA"
  walk_at "mine steps"
  intro hkeep
  dsimp only
  (rename News _ _ _ _ => nE)
  (rename GK _ _ _ => gk)
  refine ret _ _ _ (by assumption) (cb_drop nE (by kcj_all)) ?_
  intro y o m1 m2 m3 hy
  exact hkeep _ _ (gk.keep y o (by simp only [List.map_cons, List.map_nil, List.mem_cons, List.not_mem_nil, or_false, not_or]; exact ⟨m1, m2, m3⟩) hy)
theorem getv_u {w : World} {dp un : Nat} {cn : Str} {cs : Scope} {a : Addr} {ccd : Value} {cl : List (Str × Addr)} {outer : List Env} {A₀ : Around} {base h₀ : Heap} {L : Addr} {m mg mb : Str → Option Value} {p : Program} {loose : List Str} {mean : ExcName → Option Value} {s : Shared} {Q E : Value → Shared → Prop}
    {x dx ab : Addr} {h1 h2 : Int} {t1 t2 t3 : Tok} {b : Array UInt8} {P : Int} {bs : List Int} {news r1 r2 r3 : List (Addr × Obj)}
    (B : Below A₀ base outer h₀) (F : Fr h₀ L s.heap m) (X : (MineH.hd.heap_39 w.params).In h₀) (N : News h₀ L s.heap news) (T : Top p loose mean mg mb h₀) (hk : cs.kind = .function)
    (hx : (x, instObj 340 dx) ∈ news) (hdx : (dx, dictOf [⟨h1, .str (Str.ofString "_BytesIO__buf") t1, .ref ab⟩, ⟨h2, .str (Str.ofString "_BytesIO__pos") t2, .int P t3⟩] 2) ∈ news) (hab : (ab, baObj b) ∈ news)
    (D1 : Del x news r1) (D2 : Del dx r1 r2) (D3 : Del ab r2 r3)
    (hd : dp + 5 < recursionLimit) (hu : un + 40 < cLine) (hb : KBw.bInts b = bs) (hz : bs.length ≤ 1000)
    (ret : ∀ h' tb tk', Fr h₀ L h' m → News h₀ L h' ((x, instObj 340 dx) :: (dx, dictOf [⟨h1, .str (Str.ofString "_BytesIO__buf") t1, .ref ab⟩, ⟨h2, .str (Str.ofString "_BytesIO__pos") t2, .int P t3⟩] 2) :: (ab, baObj b) :: r3) →
       Q (.bytes b tb) { s with heap := h', toks := tk' }) :
    wpAny (model PySem.Challenge.rw_gb5006_01.row.prog w) (ktrTop dp un (some []) cn cs L a ccd cl outer) (call (.ref 226) [.ref x]) Q E s := by
  have hbs : b.size = bs.length := by rw [← hb, KBw.ints_length]
  refine getv_c (P := P) (h1 := h1) (h2 := h2) (t1 := t1) (t2 := t2) (t3 := t3) (ab := ab) (dx := dx) B F (fun q hq => ?_) T hk hd hu (by omega) (fun h' tb tk' F' N' keep => ret h' tb tk' F' fun q hq => ?_) X
  · simp only [List.mem_cons, List.not_mem_nil, or_false] at hq
    rcases hq with rfl | rfl | rfl
    · exact N _ hx
    · exact N _ hdx
    · exact N _ hab
  · have z : q = (x, instObj 340 dx) ∨ q = (dx, dictOf [⟨h1, .str (Str.ofString "_BytesIO__buf") t1, .ref ab⟩, ⟨h2, .str (Str.ofString "_BytesIO__pos") t2, .int P t3⟩] 2) ∨ q = (ab, baObj b) ∨ q ∈ r3 := by
      simpa only [List.mem_cons] using hq
    rcases z with rfl | rfl | rfl | hq
    · exact N' _ (by simp)
    · exact N' _ (by simp)
    · exact N' _ (by simp)
    · obtain ⟨q2, e3⟩ := D3.out q hq
      obtain ⟨q1, e2⟩ := D2.out q q2
      obtain ⟨q0, e1⟩ := D1.out q q1
      exact ⟨keep _ _ e1 e2 e3 (N _ q0).1, (N _ q0).2⟩
end

local macro_rules | `(tactic| walk_at "mine num") => `(tactic| (first | omega | ((simp only [List.length_append, List.length_cons, List.length_nil, *]); first | done | omega) | (simp; done) | (simp; omega)))
local macro_rules | `(tactic| walk_at "mine write") => `(tactic| (k_dflt (refine' write_u ?wB ?wF ?wX ?wN ?wT ?wK ?hx ?hdx ?hab ?D1 ?D2 ?D3 ?wd ?wu ?n1 ?n2 ?n3 ?hb ?hP ?hc ?h0 ?hz ?hz2 ?_; (case wB => k_asm); (case wF => k_asm); (case wX => k_asm); (case wN => k_asm); (case wT => k_asm); (case wK => first | exact rfl | assumption); (case hx => k_mem); (case hdx => k_mem); (case hab => k_mem); (case D1 => walk_at "mine del"); (case D2 => walk_at "mine del"); (case D3 => walk_at "mine del"); (case wd => walk_at "mine room"); (case wu => walk_at "mine units"); (case n1 => walk_at "mine ne"); (case n2 => walk_at "mine ne"); (case n3 => walk_at "mine ne"); (case hb => first | assumption | exact (by decide +kernel : KBw.bInts #[] = []) | exact rfl); (case hP => first | assumption | walk_at "mine num"); (case hc => first | assumption | exact (by decide +kernel : KBw.bInts #[(Int.toNat 2).toUInt8] = [2]) | exact (by decide +kernel : KBw.bInts #[(Int.toNat 3).toUInt8] = [3]) | exact (by decide +kernel : KBw.bInts #[7] = [7]) | exact rfl); (case h0 => first | assumption | walk_at "mine num"); (case hz => first | assumption | walk_at "mine num"); (case hz2 => first | assumption | walk_at "mine num"); k_whole)))
local macro_rules | `(tactic| walk_at "mine newIO") => `(tactic| (k_dflt (refine' newIO_u ?wB ?wF ?wX ?wN ?wT ?wK ?wd ?wu ?_; (case wB => k_asm); (case wF => k_asm); (case wX => k_asm); (case wN => k_asm); (case wT => k_asm); (case wK => first | exact rfl | assumption); (case wd => walk_at "mine room"); (case wu => walk_at "mine units"); k_whole)))
section
theorem len_two {prog : Program} {w : World} {A : Around} {E : Value → Shared → Prop} {s : Shared} {b : Array UInt8} {t : Tok} {d1 d2 : Int} {Q : Value → Shared → Prop} (hb : KBw.bInts b = [d1, d2]) (h : Q (.int 2 (s.toks + 1)) { s with toks := s.toks + 1 + 1 }) :
    wpAny (model prog w) A (call (.builtin "len") [.bytes b t]) Q E s := by
  have hs : b.size = 2 := by have := congrArg List.length hb; rw [KBw.ints_length] at this; exact this
  refine len_bytes (by omega) ?_
  rw [hs]; exact h
theorem len_three {prog : Program} {w : World} {A : Around} {E : Value → Shared → Prop} {s : Shared} {b : Array UInt8} {t : Tok} {d1 d2 d3 : Int} {Q : Value → Shared → Prop} (hb : KBw.bInts b = [d1, d2, d3]) (h : Q (.int 3 (s.toks + 1)) { s with toks := s.toks + 1 + 1 }) :
    wpAny (model prog w) A (call (.builtin "len") [.bytes b t]) Q E s := by
  have hs : b.size = 3 := by have := congrArg List.length hb; rw [KBw.ints_length] at this; exact this
  refine len_bytes (by omega) ?_
  rw [hs]; exact h
local macro_rules | `(tactic| walk_at "call builtin:len") => `(tactic| (k_here; (with_reducible show wpAny _ _ (call (Value.builtin "len") [Value.bytes _ _]) _ _ _); first | refine len_two (by assumption) ?_ | refine len_three (by assumption) ?_))
theorem sw_cc {w : World} {dp un : Nat} {cn : Str} {cs : Scope} {a : Addr} {ccd : Value} {cl : List (Str × Addr)} {outer : List Env} {A₀ : Around} {base h₀ : Heap} {L : Addr} {m mg mb : Str → Option Value} {p : Program} {loose : List Str} {mean : ExcName → Option Value} {s : Shared} {Q E : Value → Shared → Prop}
    {x dx ab sx sd : Addr} {h1 h2 h3 : Int} {t1 t2 t3 t4 td : Tok} {b dat : Array UInt8} {bs ds : List Int} {P : Int}
    (B : Below A₀ base outer h₀) (F : Fr h₀ L s.heap m)
    (N : News h₀ L s.heap [(x, instObj 340 dx), (dx, dictOf [⟨h1, .str (Str.ofString "_BytesIO__buf") t1, .ref ab⟩, ⟨h2, .str (Str.ofString "_BytesIO__pos") t2, .int P t3⟩] 2), (ab, baObj b), (sx, instObj 775 sd), (sd, dictOf [⟨h3, .str (Str.ofString "data") t4, .bytes dat td⟩] 1)])
    (T : Top p loose mean mg mb h₀) (hk : cs.kind = .function) (hd : dp + 10 < recursionLimit) (hu : un + 100 < cLine)
    (n1 : @Ne Nat x dx) (n2 : @Ne Nat x ab) (n3 : @Ne Nat dx ab) (m1 : @Ne Nat sx x) (m2 : @Ne Nat sx dx) (m3 : @Ne Nat sx ab) (m4 : @Ne Nat sd x) (m5 : @Ne Nat sd dx) (m6 : @Ne Nat sd ab) (m7 : @Ne Nat sx sd)
    (hb : KBw.bInts b = bs) (hP : P = (bs.length : Int)) (hc : KBw.bInts dat = ds) (h0 : ds.length = 2 ∨ ds.length = 3) (hz : bs.length ≤ 900)
    (ret : ∀ b' h' t3' tr tk', KBw.bInts b' = bs ++ ((ds.length : Nat) : Int) :: ds → Fr h₀ L h' m →
      News h₀ L h' [(x, instObj 340 dx), (dx, dictOf [⟨h1, .str (Str.ofString "_BytesIO__buf") t1, .ref ab⟩, ⟨h2, .str (Str.ofString "_BytesIO__pos") t2, .int (P + 1 + (ds.length : Nat)) t3'⟩] 2), (ab, baObj b'), (sx, instObj 775 sd), (sd, dictOf [⟨h3, .str (Str.ofString "data") t4, .bytes dat td⟩] 1)] →
      (∀ y o, y ≠ x → y ≠ dx → y ≠ ab → y ≠ sx → y ≠ sd → s.heap.get? y = some o → h'.get? y = some o) → Q (.int (1 + (ds.length : Nat)) tr) { s with heap := h', toks := tk' }) :
    (MineH.hd.heap_39 w.params).In h₀ → codeS (model PySem.Challenge.rw_gb5006_01.row.prog w) (ktrTop dp un (some []) cn cs L a ccd cl outer) (.call (.ref 731) ⟨[.ref sx, .ref x], []⟩) (wants Q E) s := by
  k_fill
  intro X
  have hcs : dat.size = ds.length := by rw [← hc, KBw.ints_length]
  have hds : (∃ a b, ds = [a, b]) ∨ (∃ a b c, ds = [a, b, c]) := by
    rcases h0 with h0 | h0
    · exact .inl (by match ds, h0 with | [a, b], _ => exact ⟨a, b, rfl⟩)
    · exact .inr (by match ds, h0 with | [a, b, c], _ => exact ⟨a, b, c, rfl⟩)
  rcases hds with ⟨d1, d2, rfl⟩ | ⟨d1, d2, d3, rfl⟩
  · walk_at "mine enterC"
    refine execsS_cons (assignS_Name (methodS ?_) (by with_unfolding_all rfl))
    walk_at "mine args"
    walk_at "mine write"
    intro b1 h1' t31 tr1 tk1 e1 F1 N1
    walk_at "mine steps"
    (try dsimp only)
    refine execsS_cons (augS_Name ?_)
    walk_at "mine steps"
    (try dsimp only)
    refine methodS ?_
    walk_at "mine args"
    walk_at "mine write"
    intro b2 h2' t32 tr2 tk2 e2 F2 N2
    walk_at "mine steps"
    (try dsimp only)
    walk_at "mine steps"
    refine execsS_leaf ?_
    walk_at "mine steps"
    intro hkeep
    dsimp only
    (rename News _ _ _ _ => nE)
    (rename GK _ _ _ => gk)
    refine ret _ _ _ _ _ ?_ (by assumption) (cb_drop nE (by kcj_all)) ?_
    · rw [e2]; simp
    · intro y o z1 z2 z3 z4 z5 hy
      exact hkeep _ _ (gk.keep y o (by simp only [List.map_cons, List.map_nil, List.mem_cons, List.not_mem_nil, or_false, not_or]; exact ⟨z1, z2, z3, z4, z5⟩) hy)
  · walk_at "mine enterC"
    refine execsS_cons (assignS_Name (methodS ?_) (by with_unfolding_all rfl))
    walk_at "mine args"
    walk_at "mine write"
    intro b1 h1' t31 tr1 tk1 e1 F1 N1
    walk_at "mine steps"
    (try dsimp only)
    refine execsS_cons (augS_Name ?_)
    walk_at "mine steps"
    (try dsimp only)
    refine methodS ?_
    walk_at "mine args"
    walk_at "mine write"
    intro b2 h2' t32 tr2 tk2 e2 F2 N2
    walk_at "mine steps"
    (try dsimp only)
    walk_at "mine steps"
    refine execsS_leaf ?_
    walk_at "mine steps"
    intro hkeep
    dsimp only
    (rename News _ _ _ _ => nE)
    (rename GK _ _ _ => gk)
    refine ret _ _ _ _ _ ?_ (by assumption) (cb_drop nE (by kcj_all)) ?_
    · rw [e2]; simp
    · intro y o z1 z2 z3 z4 z5 hy
      exact hkeep _ _ (gk.keep y o (by simp only [List.map_cons, List.map_nil, List.mem_cons, List.not_mem_nil, or_false, not_or]; exact ⟨z1, z2, z3, z4, z5⟩) hy)
theorem sw_u {w : World} {dp un : Nat} {cn : Str} {cs : Scope} {a : Addr} {ccd : Value} {cl : List (Str × Addr)} {outer : List Env} {A₀ : Around} {base h₀ : Heap} {L : Addr} {m mg mb : Str → Option Value} {p : Program} {loose : List Str} {mean : ExcName → Option Value} {s : Shared} {Q E : Value → Shared → Prop}
    {x dx ab sx sd : Addr} {h1 h2 h3 : Int} {t1 t2 t3 t4 td : Tok} {b dat : Array UInt8} {bs ds : List Int} {P : Int} {news r1 r2 r3 r4 r5 : List (Addr × Obj)}
    (B : Below A₀ base outer h₀) (F : Fr h₀ L s.heap m) (X : (MineH.hd.heap_39 w.params).In h₀) (N : News h₀ L s.heap news)
    (T : Top p loose mean mg mb h₀) (hk : cs.kind = .function)
    (hx : (x, instObj 340 dx) ∈ news) (hdx : (dx, dictOf [⟨h1, .str (Str.ofString "_BytesIO__buf") t1, .ref ab⟩, ⟨h2, .str (Str.ofString "_BytesIO__pos") t2, .int P t3⟩] 2) ∈ news) (hab : (ab, baObj b) ∈ news) (hsx : (sx, instObj 775 sd) ∈ news) (hsd : (sd, dictOf [⟨h3, .str (Str.ofString "data") t4, .bytes dat td⟩] 1) ∈ news)
    (D1 : Del x news r1) (D2 : Del dx r1 r2) (D3 : Del ab r2 r3) (D4 : Del sx r3 r4) (D5 : Del sd r4 r5)
    (hd : dp + 10 < recursionLimit) (hu : un + 100 < cLine)
    (n1 : @Ne Nat x dx) (n2 : @Ne Nat x ab) (n3 : @Ne Nat dx ab) (m1 : @Ne Nat sx x) (m2 : @Ne Nat sx dx) (m3 : @Ne Nat sx ab) (m4 : @Ne Nat sd x) (m5 : @Ne Nat sd dx) (m6 : @Ne Nat sd ab) (m7 : @Ne Nat sx sd)
    (hb : KBw.bInts b = bs) (hP : P = (bs.length : Int)) (hc : KBw.bInts dat = ds) (h0 : ds.length = 2 ∨ ds.length = 3) (hz : bs.length ≤ 900)
    (ret : ∀ b' h' t3' tr tk', KBw.bInts b' = bs ++ ((ds.length : Nat) : Int) :: ds → Fr h₀ L h' m →
      News h₀ L h' ((x, instObj 340 dx) :: (dx, dictOf [⟨h1, .str (Str.ofString "_BytesIO__buf") t1, .ref ab⟩, ⟨h2, .str (Str.ofString "_BytesIO__pos") t2, .int (P + 1 + (ds.length : Nat)) t3'⟩] 2) :: (ab, baObj b') :: (sx, instObj 775 sd) :: (sd, dictOf [⟨h3, .str (Str.ofString "data") t4, .bytes dat td⟩] 1) :: r5) →
      Q (.int (1 + (ds.length : Nat)) tr) { s with heap := h', toks := tk' }) :
    codeS (model PySem.Challenge.rw_gb5006_01.row.prog w) (ktrTop dp un (some []) cn cs L a ccd cl outer) (.call (.ref 731) ⟨[.ref sx, .ref x], []⟩) (wants Q E) s := by
  refine sw_cc (b := b) (dat := dat) (P := P) (h1 := h1) (h2 := h2) (h3 := h3) (t1 := t1) (t2 := t2) (t3 := t3) (t4 := t4) (td := td) (ab := ab) (dx := dx) (sd := sd) B F (fun q hq => ?_) T hk hd hu n1 n2 n3 m1 m2 m3 m4 m5 m6 m7 hb hP hc h0 hz (fun b' h' t3' tr tk' eb F' N' keep => ret b' h' t3' tr tk' eb F' fun q hq => ?_) X
  · simp only [List.mem_cons, List.not_mem_nil, or_false] at hq
    rcases hq with rfl | rfl | rfl | rfl | rfl
    · exact N _ hx
    · exact N _ hdx
    · exact N _ hab
    · exact N _ hsx
    · exact N _ hsd
  · by_cases hq' : q ∈ r5
    · obtain ⟨q4, e5⟩ := D5.out q hq'
      obtain ⟨q3, e4⟩ := D4.out q q4
      obtain ⟨q2, e3⟩ := D3.out q q3
      obtain ⟨q1, e2⟩ := D2.out q q2
      obtain ⟨q0, e1⟩ := D1.out q q1
      exact ⟨keep _ _ e1 e2 e3 e4 e5 (N _ q0).1, (N _ q0).2⟩
    · refine N' q ?_
      simp only [List.mem_cons] at hq ⊢
      rcases hq with h | h | h | h | h | h
      · exact .inl h
      · exact .inr (.inl h)
      · exact .inr (.inr (.inl h))
      · exact .inr (.inr (.inr (.inl h)))
      · exact .inr (.inr (.inr (.inr (.inl h))))
      · exact (hq' h).elim
end

local macro_rules | `(tactic| walk_at "mine sw") => `(tactic| (k_dflt (refine' sw_u ?wB ?wF ?wX ?wN ?wT ?wK ?hx ?hdx ?hab ?hsx ?hsd ?D1 ?D2 ?D3 ?D4 ?D5 ?wd ?wu ?n1 ?n2 ?n3 ?m1 ?m2 ?m3 ?m4 ?m5 ?m6 ?m7 ?hb ?hP ?hc ?h0 ?hz ?_; (case wB => k_asm); (case wF => k_asm); (case wX => k_asm); (case wN => k_asm); (case wT => k_asm); (case wK => first | exact rfl | assumption); (case hx => k_mem); (case hdx => k_mem); (case hab => k_mem); (case hsx => k_mem); (case hsd => k_mem); (case D1 => walk_at "mine del"); (case D2 => walk_at "mine del"); (case D3 => walk_at "mine del"); (case D4 => walk_at "mine del"); (case D5 => walk_at "mine del"); (case wd => walk_at "mine room"); (case wu => walk_at "mine units"); (case n1 => walk_at "mine ne"); (case n2 => walk_at "mine ne"); (case n3 => walk_at "mine ne"); (case m1 => walk_at "mine ne"); (case m2 => walk_at "mine ne"); (case m3 => walk_at "mine ne"); (case m4 => walk_at "mine ne"); (case m5 => walk_at "mine ne"); (case m6 => walk_at "mine ne"); (case m7 => walk_at "mine ne"); (case hb => first | assumption | exact (by decide +kernel : KBw.bInts #[] = []) | exact rfl); (case hP => first | assumption | walk_at "mine num"); (case hc => first | assumption | exact rfl); (case h0 => first | assumption | walk_at "mine num"); (case hz => first | assumption | walk_at "mine num"); k_whole)))
local macro_rules | `(tactic| walk_at "mine getv") => `(tactic| (k_dflt (refine' getv_u ?wB ?wF ?wX ?wN ?wT ?wK ?hx ?hdx ?hab ?D1 ?D2 ?D3 ?wd ?wu ?hb ?hz ?_; (case wB => k_asm); (case wF => k_asm); (case wX => k_asm); (case wN => k_asm); (case wT => k_asm); (case wK => first | exact rfl | assumption); (case hx => k_mem); (case hdx => k_mem); (case hab => k_mem); (case D1 => walk_at "mine del"); (case D2 => walk_at "mine del"); (case D3 => walk_at "mine del"); (case wd => walk_at "mine room"); (case wu => walk_at "mine units"); (case hb => first | assumption | exact (by decide +kernel : KBw.bInts #[] = []) | exact rfl); (case hz => first | assumption | walk_at "mine num"); k_whole)))
local macro_rules | `(tactic| walk_at "call ref") => `(tactic| ((with_reducible show wpAny _ _ (call (Value.ref 226) _) _ _ _); walk_at "mine getv"; intro hgv tgv kgv Fgv Ngv; (try dsimp only)))
section
theorem ser_c {w : World} {dp un : Nat} {cn : Str} {cs : Scope} {a : Addr} {ccd : Value} {cl : List (Str × Addr)} {outer : List Env} {A₀ : Around} {base h₀ : Heap} {L : Addr} {m mg mb : Str → Option Value} {p : Program} {loose : List Str} {mean : ExcName → Option Value} {s : Shared} {Q E : Value → Shared → Prop}
    {sx sd : Addr} {h3 : Int} {t4 td : Tok} {dat : Array UInt8} {ds : List Int}
    (B : Below A₀ base outer h₀) (F : Fr h₀ L s.heap m)
    (N : News h₀ L s.heap [(sx, instObj 775 sd), (sd, dictOf [⟨h3, .str (Str.ofString "data") t4, .bytes dat td⟩] 1)])
    (T : Top p loose mean mg mb h₀) (hk : cs.kind = .function) (hd : dp + 20 < recursionLimit) (hu : un + 200 < cLine)
    (m7 : @Ne Nat sx sd) (hc : KBw.bInts dat = ds) (h0 : ds.length = 2 ∨ ds.length = 3)
    (ret : ∀ b' h' tb tk', KBw.bInts b' = ((ds.length : Nat) : Int) :: ds → Fr h₀ L h' m →
      News h₀ L h' [(sx, instObj 775 sd), (sd, dictOf [⟨h3, .str (Str.ofString "data") t4, .bytes dat td⟩] 1)] →
      (∀ y o, y ≠ sx → y ≠ sd → s.heap.get? y = some o → h'.get? y = some o) → Q (.bytes b' tb) { s with heap := h', toks := tk' }) :
    (MineH.hd.heap_39 w.params).In h₀ → wpS (model PySem.Challenge.rw_gb5006_01.row.prog w) (ktrTop dp un (some []) cn cs L a ccd cl outer) (call (.ref 630) [.ref sx]) Q E s := by
  k_fill
  intro X
  walk_at "mine starS"
  refine execsS_cons (assignS_Name (callNameS ?_) (by with_unfolding_all rfl))
  walk_at "mine steps"
  (try dsimp only)
  refine cK0 (by k_in) (by k_is) ?_
  walk_at "mine newIO"
  intro x dx ab h1' t11 t12 t13 tk1 F1 N1 n1 n2 n3 a1 a2 a3
  walk_at "mine steps"
  (try dsimp only)
  refine execsS_cons (exprS (methodAttrS ?_))
  walk_at "mine steps"
  (try dsimp only)
  refine cStarM (K := MineH.hd.heap_39 w.params) (g := 731) (self := .ref sx) (by k_is) (by rfl) ?_
  refine wpS_of (evalArgs_skwB (by rfl) ?_)
  walk_at "mine steps"
  refine mergedK_N (by k_asm) (by k_asm) ?_
  intro d hd1 Fd Nd ltd
  (try k_lt ltd)
  refine wpAny_bind ?_
  walk_at "mine steps"
  refine wpAny_bind (wpAny_standAt (wpAny_pure ?_))
  (rename News _ _ _ _ => nE)
  refine ⟨_, _, _, rfl, (nget nE (by k_mem)), (nget nE (by k_mem)), by assumption, ?_⟩
  refine keywordsIn_nil (nget nE (by k_mem)) ?_
  refine ⟨methP nE (by k_mem) (by k_in), ?_⟩
  refine wpS_call (codeS_method (nget nE (by k_mem)) ?_)
  skip
  refine codeS_mono (R := wants _ _) ?_ (fun _ _ z => z)
  walk_at "mine sw"
  intro b1 h2' t31 tr1 tk2 e1 F2 N2
  (try dsimp only)
  refine execsS_leaf ?_
  walk_at "mine steps"
  intro hkeep
  dsimp only
  (rename News _ _ _ _ => nE)
  (rename GK _ _ _ => gk)
  refine ret _ _ _ _ ?_ (by assumption) (cb_drop nE (by kcj_all)) ?_
  · rw [e1]; simp
  · intro y o z1 z2 hy
    exact hkeep _ _ (gk.keep y o (by simp only [List.map_cons, List.map_nil, List.mem_cons, List.not_mem_nil, or_false, not_or]; exact ⟨z1, z2⟩) hy)
theorem ser_u {w : World} {dp un : Nat} {cn : Str} {cs : Scope} {a : Addr} {ccd : Value} {cl : List (Str × Addr)} {outer : List Env} {A₀ : Around} {base h₀ : Heap} {L : Addr} {m mg mb : Str → Option Value} {p : Program} {loose : List Str} {mean : ExcName → Option Value} {s : Shared} {Q E : Value → Shared → Prop}
    {sx sd : Addr} {h3 : Int} {t4 td : Tok} {dat : Array UInt8} {ds : List Int} {news r1 r2 : List (Addr × Obj)}
    (B : Below A₀ base outer h₀) (F : Fr h₀ L s.heap m) (X : (MineH.hd.heap_39 w.params).In h₀) (N : News h₀ L s.heap news)
    (T : Top p loose mean mg mb h₀) (hk : cs.kind = .function)
    (hsx : (sx, instObj 775 sd) ∈ news) (hsd : (sd, dictOf [⟨h3, .str (Str.ofString "data") t4, .bytes dat td⟩] 1) ∈ news) (D1 : Del sx news r1) (D2 : Del sd r1 r2)
    (hd : dp + 20 < recursionLimit) (hu : un + 200 < cLine)
    (m7 : @Ne Nat sx sd) (hc : KBw.bInts dat = ds) (h0 : ds.length = 2 ∨ ds.length = 3)
    (ret : ∀ b' h' tb tk', KBw.bInts b' = ((ds.length : Nat) : Int) :: ds → Fr h₀ L h' m →
      News h₀ L h' ((sx, instObj 775 sd) :: (sd, dictOf [⟨h3, .str (Str.ofString "data") t4, .bytes dat td⟩] 1) :: r2) → Q (.bytes b' tb) { s with heap := h', toks := tk' }) :
    wpS (model PySem.Challenge.rw_gb5006_01.row.prog w) (ktrTop dp un (some []) cn cs L a ccd cl outer) (call (.ref 630) [.ref sx]) Q E s := by
  refine ser_c (dat := dat) (h3 := h3) (t4 := t4) (td := td) (sd := sd) B F (fun q hq => ?_) T hk hd hu m7 hc h0 (fun b' h' tb tk' eb F' N' keep => ret b' h' tb tk' eb F' fun q hq => ?_) X
  · simp only [List.mem_cons, List.not_mem_nil, or_false] at hq
    rcases hq with rfl | rfl
    · exact N _ hsx
    · exact N _ hsd
  · by_cases hq' : q ∈ r2
    · obtain ⟨q1, e2⟩ := D2.out q hq'
      obtain ⟨q0, e1⟩ := D1.out q q1
      exact ⟨keep _ _ e1 e2 (N _ q0).1, (N _ q0).2⟩
    · refine N' q ?_
      simp only [List.mem_cons] at hq ⊢
      rcases hq with h | h | h
      · exact .inl h
      · exact .inr (.inl h)
      · exact (hq' h).elim
end

section
local macro_rules | `(tactic| walk_at "mine dummy") => `(tactic| skip)
theorem due_c {w : World} {dp un : Nat} {cn : Str} {cs : Scope} {a : Addr} {ccd : Value} {cl : List (Str × Addr)} {outer : List Env} {A₀ : Around} {base h₀ : Heap} {L : Addr} {m mg mb : Str → Option Value} {p : Program} {loose : List Str} {mean : ExcName → Option Value} {s : Shared} {Q E : Value → Shared → Prop}
    {n : Int} {t : Tok}
    (B : Below A₀ base outer h₀) (F : Fr h₀ L s.heap m)
    (N : News h₀ L s.heap [])
    (T : Top p loose mean mg mb h₀) (hk : cs.kind = .function) (hd : dp + 10 < recursionLimit) (hu : un + 100 < cLine)
    (retv : ∀ lo any tp tt h' tk', KV n lo any → Fr h₀ L h' m → News h₀ L h' [(tp, { cls := .type "tuple", data := .seq #[.int lo tt, .bool any] })] → s.heap.get? tp = none → (∀ y o, s.heap.get? y = some o → h'.get? y = some o) → Q (.ref tp) { s with heap := h', toks := tk' })
    (retb : ∀ h' tk', KBad n → Fr h₀ L h' m → (∀ y o, s.heap.get? y = some o → h'.get? y = some o) → Q .none { s with heap := h', toks := tk' }) :
    (MineH.hd.heap_39 w.params).In h₀ → wpAny (model PySem.Challenge.rw_gb5006_01.row.prog w) (ktrTop dp un (some []) cn cs L a ccd cl outer) (call (.ref 926) [.int n t]) Q E s := by
  k_fill
  intro X
  walk_at "mine enterA"
  walk_at "mine steps"
  all_goals (intro hkeep; dsimp only; (rename News _ _ _ _ => nE); (rename GK _ _ _ => gk))
  all_goals first
    | (refine retb _ _ ⟨by omega, by omega⟩ (by assumption) (fun y o hy => hkeep _ _ (gk.keep y o (by simp) hy)); done)
    | (refine retv _ _ _ _ _ _ ⟨?_, ?_, ?_⟩ (by assumption) (cb_drop nE (by kcj_all)) (gk_fresh gk (by assumption) (by k_mem) (by simp)) (fun y o hy => hkeep _ _ (gk.keep y o (by simp) hy)) <;> first | decide | (simp; omega))
theorem due_u {w : World} {dp un : Nat} {cn : Str} {cs : Scope} {a : Addr} {ccd : Value} {cl : List (Str × Addr)} {outer : List Env} {A₀ : Around} {base h₀ : Heap} {L : Addr} {m mg mb : Str → Option Value} {p : Program} {loose : List Str} {mean : ExcName → Option Value} {s : Shared} {Q E : Value → Shared → Prop}
    {n : Int} {t : Tok} {news : List (Addr × Obj)}
    (B : Below A₀ base outer h₀) (F : Fr h₀ L s.heap m) (X : (MineH.hd.heap_39 w.params).In h₀)
    (N : News h₀ L s.heap news)
    (T : Top p loose mean mg mb h₀) (hk : cs.kind = .function) (hd : dp + 10 < recursionLimit) (hu : un + 100 < cLine)
    (retv : ∀ lo any tp tt h' tk', KV n lo any → Fr h₀ L h' m → News h₀ L h' ((tp, { cls := .type "tuple", data := .seq #[.int lo tt, .bool any] }) :: news) → AllNe tp news → Q (.ref tp) { s with heap := h', toks := tk' })
    (retb : ∀ h' tk', KBad n → Fr h₀ L h' m → News h₀ L h' news → Q .none { s with heap := h', toks := tk' }) :
    wpAny (model PySem.Challenge.rw_gb5006_01.row.prog w) (ktrTop dp un (some []) cn cs L a ccd cl outer) (call (.ref 926) [.int n t]) Q E s :=
  due_c B F (fun _ h => nomatch h) T hk hd hu
    (fun lo any tp tt h' tk' v F' N' fr keep => retv lo any tp tt h' tk' v F' (fun q hq => by
      rcases List.mem_cons.mp hq with rfl | hq
      · exact N' _ (.head _)
      · exact ⟨keep _ _ (N q hq).1, (N q hq).2⟩) (allNe_fresh N fr))
    (fun h' tk' v F' keep => retb h' tk' v F' (fun q hq => ⟨keep _ _ (N q hq).1, (N q hq).2⟩)) X
end

local macro_rules | `(tactic| walk_at "mine due") => `(tactic| (k_dflt (refine' due_u ?wB ?wF ?wX ?wN ?wT ?wK ?wd ?wu ?rv ?rb; (case wB => k_asm); (case wF => k_asm); (case wX => k_asm); (case wN => k_asm); (case wT => k_asm); (case wK => first | exact rfl | assumption); (case wd => walk_at "mine room"); (case wu => walk_at "mine units"); k_whole)))
local macro_rules | `(tactic| walk_at "call ref") => `(tactic| ((with_reducible show wpAny _ _ (call (Value.ref 926) _) _ _ _); walk_at "mine due"; ((intro lo1 any1 tp1 tt1 hdu1 tkdu1 kv1 Fdu1 Ndu1 ane1); (rotate_left); (intro hdu2 tkdu2 kb2 Fdu2 Ndu2); rotate_left)))
section
theorem asked_c {w : World} {dp un : Nat} {cn : Str} {cs : Scope} {a : Addr} {ccd : Value} {A₀ : Around} {base h₀ : Heap} {L : Addr} {m mg mb : Str → Option Value} {p : Program} {loose : List Str} {mean : ExcName → Option Value} {s : Shared} {Q E : Value → Shared → Prop}
    {n : Int} {t : Tok}
    (B : Below A₀ base [] h₀) (F : Fr h₀ L s.heap m)
    (N : News h₀ L s.heap [])
    (T : Top p loose mean mg mb h₀) (XB : (MineH.hd.heap_39 w.params).In base) (TB : Top p loose mean mg mb base) (hk : cs.kind = .function) (hd : dp + 20 < recursionLimit) (hu : un + 200 < cLine)
    (ret : ∀ h' tk', Fr h₀ L h' m → (∀ y o, s.heap.get? y = some o → @Ne Nat y L → h'.get? y = some o) → Q (.bool true) { s with heap := h', toks := tk' }) :
    (MineH.hd.heap_39 w.params).In h₀ → wpAny (model PySem.Challenge.rw_gb5006_01.row.prog w) (ktrTop dp un (some []) cn cs L a ccd [] []) (call (.ref 933) [.int n t]) Q E s := by
  k_fill
  intro X
  have ret2 : ∀ b h' tk', b = true → Fr h₀ L h' m → (∀ y o, s.heap.get? y = some o → @Ne Nat y L → h'.get? y = some o) → Q (.bool b) { s with heap := h', toks := tk' } := by
    intro b h' tk' e; rw [e]; exact ret h' tk'
  walk_at "mine enterT"
  walk_at "mine steps"
  all_goals try first
    | exact (kv_bad (kv_high (by assumption) (by assumption)) (by assumption)).elim
    | exact (kv_bad (kv_low (by assumption)) (by assumption)).elim
    | exact (kv_bad (by assumption) (kbad_high (by assumption) (by assumption))).elim
    | exact (kv_bad (by assumption) (kbad_low (by assumption) (by assumption))).elim
  all_goals (intro hkeep; dsimp only; (rename GK _ _ _ => gk))
  all_goals first
    | exact ret _ _ (by assumption) (fun y o hy n => hkeep _ _ (gk.keep y o (by simp) hy) n)
    | ((rename KV _ _ _ => kv); exact ret2 _ _ _ (eq_high (by assumption) (by assumption) kv) (by assumption) (fun y o hy n => hkeep _ _ (gk.keep y o (by simp) hy) n))
    | ((rename KV _ _ _ => kv); exact ret2 _ _ _ (eq_low (by assumption) kv) (by assumption) (fun y o hy n => hkeep _ _ (gk.keep y o (by simp) hy) n))
end

section
local macro_rules | `(tactic| walk_at "mine dummy") => `(tactic| skip)
theorem le_c {w : World} {dp un : Nat} {cn : Str} {cs : Scope} {a : Addr} {ccd : Value} {cl : List (Str × Addr)} {outer : List Env} {A₀ : Around} {base h₀ : Heap} {L : Addr} {m mg mb : Str → Option Value} {p : Program} {loose : List Str} {mean : ExcName → Option Value} {s : Shared} {Q E : Value → Shared → Prop}
    {x : Int} {t t2 : Tok}
    (B : Below A₀ base outer h₀) (F : Fr h₀ L s.heap m)
    (N : News h₀ L s.heap [])
    (T : Top p loose mean mg mb h₀) (hk : cs.kind = .function) (hd : dp + 10 < recursionLimit) (hu : un + 100 < cLine) (h0 : 0 ≤ x) (h1 : x < 4294967296)
    (ret : ∀ b h' tb tk', KBw.bInts b = [x % 256, x / 256 % 256, x / 256 / 256 % 256, x / 256 / 256 / 256 % 256] → Fr h₀ L h' m → (∀ y o, s.heap.get? y = some o → h'.get? y = some o) → Q (.bytes b tb) { s with heap := h', toks := tk' }) :
    (MineH.hd.heap_39 w.params).In h₀ → wpAny (model PySem.Challenge.rw_gb5006_01.row.prog w) (ktrTop dp un (some []) cn cs L a ccd cl outer) (call (.ref 940) [.int x t, .int 4 t2]) Q E s := by
  k_fill
  intro X
  walk_at "mine enterA"
  walk_at "mine steps"
  (rename News _ _ _ _ => nE)
  simp only [Int.fmod_eq_emod_of_nonneg _ (by decide : (0 : Int) ≤ 256), Int.fdiv_eq_ediv_of_nonneg _ (by decide : (0 : Int) ≤ 256), List.push_toArray, List.nil_append, List.cons_append] at nE
  k_dflt (refine' KBa.make_K ?kbaF ?kbaN ?kbah ?kbal ?kbai ?kbar ?kban ?_; (case kbaF => k_asm); (case kbaN => k_asm); (case kbah => rfl); (case kbal => kba_isList); (case kbai => kba_listInts); (case kbar => (intro z hz; simp only [List.mem_cons, List.not_mem_nil, or_false] at hz; omega)); (case kban => kba_size))
  intro h' t' k' F' N' hin
  have hB := KBa.ints_make hin
  walk_at "mine steps"
  (try dsimp only)
  walk_at "mine steps"
  intro hkeep
  dsimp only
  (rename GK _ _ _ => gk)
  exact ret _ _ _ _ hB (by assumption) (fun y o hy => hkeep _ _ (gk.keep y o (by simp) hy))
theorem le_u {w : World} {dp un : Nat} {cn : Str} {cs : Scope} {a : Addr} {ccd : Value} {cl : List (Str × Addr)} {outer : List Env} {A₀ : Around} {base h₀ : Heap} {L : Addr} {m mg mb : Str → Option Value} {p : Program} {loose : List Str} {mean : ExcName → Option Value} {s : Shared} {Q E : Value → Shared → Prop}
    {x : Int} {t t2 : Tok} {news : List (Addr × Obj)}
    (B : Below A₀ base outer h₀) (F : Fr h₀ L s.heap m) (X : (MineH.hd.heap_39 w.params).In h₀)
    (N : News h₀ L s.heap news)
    (T : Top p loose mean mg mb h₀) (hk : cs.kind = .function) (hd : dp + 10 < recursionLimit) (hu : un + 100 < cLine) (h0 : 0 ≤ x) (h1 : x < 4294967296)
    (ret : ∀ b h' tb tk', KBw.bInts b = [x % 256, x / 256 % 256, x / 256 / 256 % 256, x / 256 / 256 / 256 % 256] → Fr h₀ L h' m → News h₀ L h' news → Q (.bytes b tb) { s with heap := h', toks := tk' }) :
    wpAny (model PySem.Challenge.rw_gb5006_01.row.prog w) (ktrTop dp un (some []) cn cs L a ccd cl outer) (call (.ref 940) [.int x t, .int 4 t2]) Q E s :=
  le_c B F (fun _ h => nomatch h) T hk hd hu h0 h1 (fun b h' tb tk' e F' keep => ret b h' tb tk' e F' (fun q hq => ⟨keep _ _ (N q hq).1, (N q hq).2⟩)) X
end

section
theorem chk_c {w : World} {dp un : Nat} {cn : Str} {cs : Scope} {a : Addr} {ccd : Value} {cl : List (Str × Addr)} {outer : List Env} {A₀ : Around} {base h₀ : Heap} {L : Addr} {m mg mb : Str → Option Value} {p : Program} {loose : List Str} {mean : ExcName → Option Value} {s : Shared} {Q E : Value → Shared → Prop}
    {n lo : Int} {any : Bool} {t : Tok}
    (B : Below A₀ base outer h₀) (F : Fr h₀ L s.heap m)
    (N : News h₀ L s.heap [])
    (T : Top p loose mean mg mb h₀) (hk : cs.kind = .function) (hd : dp + 5 < recursionLimit) (hu : un + 40 < cLine) (kv : KV n lo any)
    (ret : ∀ tp tt h' tk', Fr h₀ L h' m → News h₀ L h' [(tp, { cls := .type "tuple", data := .seq #[.int lo tt, .bool any] })] → s.heap.get? tp = none → (∀ y o, s.heap.get? y = some o → h'.get? y = some o) → Q (.ref tp) { s with heap := h', toks := tk' }) :
    (MineH.hd.heap_39 w.params).In h₀ → codeAny (model PySem.Challenge.rw_gb5006_01.row.prog w) (ktrTop dp un (some []) cn cs L a ccd cl outer) (.call (.ref 848) ⟨[.ref 854, .int n t], []⟩) (wants Q E) s := by
  k_fill
  intro X
  have ret2 : ∀ lo2 any2 tp tt h' tk', KV n lo2 any2 → Fr h₀ L h' m → News h₀ L h' [(tp, { cls := .type "tuple", data := .seq #[.int lo2 tt, .bool any2] })] → s.heap.get? tp = none → (∀ y o, s.heap.get? y = some o → h'.get? y = some o) → Q (.ref tp) { s with heap := h', toks := tk' } := by
    intro lo2 any2 tp tt h' tk' k2
    obtain ⟨q1, q2⟩ := kv_fun kv k2
    rw [← q1, ← q2]
    exact ret tp tt h' tk'
  walk_at "mine enterCA"
  walk_at "mine steps"
  all_goals try first
    | exact (kv_bad kv (kbad_high (by assumption) (by assumption))).elim
    | exact (kv_bad kv (kbad_low (by assumption) (by assumption))).elim
  all_goals (intro hkeep; dsimp only; (rename GK _ _ _ => gk); (rename News _ _ _ _ => nE))
  all_goals first
    | exact ret2 _ _ _ _ _ _ (kv_high (by assumption) (by assumption)) (by assumption) (cb_drop nE (by kcj_all)) (gk_fresh gk (by assumption) (by k_mem) (by simp)) (fun y o hy => hkeep _ _ (gk.keep y o (by simp) hy))
    | exact ret2 _ _ _ _ _ _ (kv_low (by assumption)) (by assumption) (cb_drop nE (by kcj_all)) (gk_fresh gk (by assumption) (by k_mem) (by simp)) (fun y o hy => hkeep _ _ (gk.keep y o (by simp) hy))
theorem chk_u {w : World} {dp un : Nat} {cn : Str} {cs : Scope} {a : Addr} {ccd : Value} {cl : List (Str × Addr)} {outer : List Env} {A₀ : Around} {base h₀ : Heap} {L : Addr} {m mg mb : Str → Option Value} {p : Program} {loose : List Str} {mean : ExcName → Option Value} {s : Shared} {Q E : Value → Shared → Prop}
    {n lo : Int} {any : Bool} {t : Tok} {news : List (Addr × Obj)}
    (B : Below A₀ base outer h₀) (F : Fr h₀ L s.heap m) (X : (MineH.hd.heap_39 w.params).In h₀)
    (N : News h₀ L s.heap news)
    (T : Top p loose mean mg mb h₀) (hk : cs.kind = .function) (hd : dp + 5 < recursionLimit) (hu : un + 40 < cLine) (kv : KV n lo any)
    (ret : ∀ tp tt h' tk', Fr h₀ L h' m → News h₀ L h' ((tp, { cls := .type "tuple", data := .seq #[.int lo tt, .bool any] }) :: news) → AllNe tp news → Q (.ref tp) { s with heap := h', toks := tk' }) :
    codeAny (model PySem.Challenge.rw_gb5006_01.row.prog w) (ktrTop dp un (some []) cn cs L a ccd cl outer) (.call (.ref 848) ⟨[.ref 854, .int n t], []⟩) (wants Q E) s :=
  chk_c B F (fun _ h => nomatch h) T hk hd hu kv
    (fun tp tt h' tk' F' N' fr keep => ret tp tt h' tk' F' (fun q hq => by
      rcases List.mem_cons.mp hq with rfl | hq
      · exact N' _ (.head _)
      · exact ⟨keep _ _ (N q hq).1, (N q hq).2⟩) (allNe_fresh N fr)) X
end

local macro_rules | `(tactic| walk_at "mine chk") => `(tactic| (k_dflt (refine' chk_u ?wB ?wF ?wX ?wN ?wT ?wK ?wd ?wu ?kv ?rv; (case wB => k_asm); (case wF => k_asm); (case wX => k_asm); (case wN => k_asm); (case wT => k_asm); (case wK => first | exact rfl | assumption); (case wd => walk_at "mine room"); (case wu => walk_at "mine units"); (case kv => first | assumption | exact (⟨by decide, by decide, by decide⟩ : KV 131 3 true) | exact (⟨by decide, by decide, by decide⟩ : KV 2 2 false)); k_whole)))
local macro_rules | `(tactic| walk_at "call ref") => `(tactic| ((with_reducible show wpAny _ _ (call (Value.ref _) [Value.int _ _]) _ _ _); refine wpAny_call ?_; k_dflt (refine' method_call (f := Value.ref 848) (self := Value.ref 854) ?hq ?_; (case hq => (refine' nget ?hqN ?hqm; (case hqN => k_asm); (case hqm => k_mem))); k_whole); refine codeAny_mono (R := wants _ _) ?_ (fun _ _ z => z); walk_at "mine chk"; (intro tp1 tt1 hck1 tkck1 Fck1 Nck1 ane1; (try dsimp only))))
local macro_rules | `(tactic| walk_at "mine ser") => `(tactic| (k_dflt (refine' ser_u ?wB ?wF ?wX ?wN ?wT ?wK ?hsx ?hsd ?D1 ?D2 ?wd ?wu ?m7 ?hc ?h0 ?_; (case wB => k_asm); (case wF => k_asm); (case wX => k_asm); (case wN => k_asm); (case wT => k_asm); (case wK => first | exact rfl | assumption); (case hsx => k_mem); (case hsd => k_mem); (case D1 => walk_at "mine del"); (case D2 => walk_at "mine del"); (case wd => walk_at "mine room"); (case wu => walk_at "mine units"); (case m7 => walk_at "mine ne"); (case hc => first | assumption | exact rfl); (case h0 => first | assumption | walk_at "mine num"); k_whole)))
section
local macro_rules | `(tactic| walk_at "call type:reversed") => `(tactic| (k_here; (with_reducible show wpAny _ _ (call (Value.type "reversed") [Value.bytes _ _]) _ _ _); k_dflt (refine' reversed_N ?F ?N ?z ?_; (case F => k_asm); (case N => k_asm); (case z => omega); k_whole); intro r' h' tk' F' N' l1; (try k_lt l1); (try dsimp only)))
local macro_rules | `(tactic| walk_at "call type:bytes") => `(tactic| (k_here; (with_reducible show wpAny _ _ (call (Value.type "bytes") [Value.ref _]) _ _ _); k_dflt (refine' bytes_rv_N ?F ?N ?m ?hr ?z ?hh ?_; (case F => k_asm); (case N => k_asm); (case m => k_mem); (case hr => (refine' Del.out ?hrd; (case hrd => walk_at "mine del"))); (case z => (rw [sizeLine_eq]; omega)); (case hh => exact rfl); k_whole); intro h' u' tk' F' N'; (try dsimp only)))
theorem wr_cc {w : World} {dp un : Nat} {cn : Str} {cs : Scope} {a : Addr} {ccd : Value} {cl : List (Str × Addr)} {outer : List Env} {A₀ : Around} {base h₀ : Heap} {L : Addr} {m mg mb : Str → Option Value} {p : Program} {loose : List Str} {mean : ExcName → Option Value} {s : Shared} {Q E : Value → Shared → Prop}
    {x dx ab o od zx zd : Addr} {h1 h2 h3 k1 k2 k3 k4 k5 : Int} {t1 t2 t3 t4 td v1 v2 v3 v4 v5 w1 w2 w4 tn : Tok} {b dat nm : Array UInt8} {bs ds rs : List Int} {P place turn n lo : Int} {any : Bool} {sv wv hv : Value}
    (B : Below A₀ base outer h₀) (F : Fr h₀ L s.heap m)
    (N : News h₀ L s.heap [(x, instObj 340 dx), (dx, dictOf [⟨h1, .str (Str.ofString "_BytesIO__buf") t1, .ref ab⟩, ⟨h2, .str (Str.ofString "_BytesIO__pos") t2, .int P t3⟩] 2), (ab, baObj b), (zx, instObj 775 zd), (zd, dictOf [⟨h3, .str (Str.ofString "data") t4, .bytes dat td⟩] 1),
      (o, instObj 902 od), (od, dictOf [⟨k1, .str (Str.ofString "txid") v1, .bytes nm w1⟩, ⟨k2, .str (Str.ofString "vout") v2, .int place w2⟩, ⟨k3, .str (Str.ofString "script_sig") v3, sv⟩, ⟨k4, .str (Str.ofString "sequence") v4, .int turn w4⟩, ⟨k5, .str (Str.ofString "witness") v5, wv⟩] 5)])
    (T : Top p loose mean mg mb h₀) (hk : cs.kind = .function) (hd : dp + 40 < recursionLimit) (hu : un + 400 < cLine)
    (n1 : @Ne Nat x dx) (n2 : @Ne Nat x ab) (n3 : @Ne Nat dx ab) (m1 : @Ne Nat zx x) (m2 : @Ne Nat zx dx) (m3 : @Ne Nat zx ab) (m4 : @Ne Nat zd x) (m5 : @Ne Nat zd dx) (m6 : @Ne Nat zd ab) (m7 : @Ne Nat zx zd)
    (o1 : @Ne Nat o x) (o2 : @Ne Nat o dx) (o3 : @Ne Nat o ab) (o4 : @Ne Nat o zx) (o5 : @Ne Nat o zd) (o6 : @Ne Nat od x) (o7 : @Ne Nat od dx) (o8 : @Ne Nat od ab) (o9 : @Ne Nat od zx) (o10 : @Ne Nat od zd) (o11 : @Ne Nat o od)
    (hb : KBw.bInts b = bs) (hP : P = (bs.length : Int)) (hc : KBw.bInts dat = ds) (h0 : ds.length = 2 ∨ ds.length = 3) (hz : bs.length ≤ 800) (hnm : nm.size = 32) (hrs : KBw.bInts (rvAt nm 0) = rs) (hrl : rs.length = 32)
    (kv : KV n lo any) (p0 : 0 ≤ place) (p1 : place < 4294967296) (u0 : 0 ≤ turn) (u1 : turn < 4294967296)
    (hv0 : (hv = .none ∧ sv = .ref zx) ∨ hv = .ref zx)
    (ret : ∀ sq b' h' t3' tr tk', sq = (if any = true ∨ lo = 2 ∨ lo = 3 then 0 else turn) →
      KBw.bInts b' = bs ++ (rs ++ ([place % 256, place / 256 % 256, place / 256 / 256 % 256, place / 256 / 256 / 256 % 256] ++ ((((ds.length : Nat) : Int) :: ds) ++ [sq % 256, sq / 256 % 256, sq / 256 / 256 % 256, sq / 256 / 256 / 256 % 256]))) → Fr h₀ L h' m →
      News h₀ L h' [(x, instObj 340 dx), (dx, dictOf [⟨h1, .str (Str.ofString "_BytesIO__buf") t1, .ref ab⟩, ⟨h2, .str (Str.ofString "_BytesIO__pos") t2, .int (P + 41 + (ds.length : Nat)) t3'⟩] 2), (ab, baObj b'), (zx, instObj 775 zd), (zd, dictOf [⟨h3, .str (Str.ofString "data") t4, .bytes dat td⟩] 1),
        (o, instObj 902 od), (od, dictOf [⟨k1, .str (Str.ofString "txid") v1, .bytes nm w1⟩, ⟨k2, .str (Str.ofString "vout") v2, .int place w2⟩, ⟨k3, .str (Str.ofString "script_sig") v3, sv⟩, ⟨k4, .str (Str.ofString "sequence") v4, .int turn w4⟩, ⟨k5, .str (Str.ofString "witness") v5, wv⟩] 5)] →
      (∀ y q, y ≠ x → y ≠ dx → y ≠ ab → y ≠ zx → y ≠ zd → y ≠ o → y ≠ od → s.heap.get? y = some q → h'.get? y = some q) → Q (.int (41 + (ds.length : Nat)) tr) { s with heap := h', toks := tk' }) :
    (MineH.hd.heap_39 w.params).In h₀ → codeS (model PySem.Challenge.rw_gb5006_01.row.prog w) (ktrTop dp un (some []) cn cs L a ccd cl outer) (.call (.ref 889) ⟨[.ref o, .ref x, hv, .int n tn], []⟩) (wants Q E) s := by
  k_fill
  intro X
  have ret2 : ∀ sq b' h' t3' tr tk' vI vP, vI = 41 + ((ds.length : Nat) : Int) → vP = P + 41 + ((ds.length : Nat) : Int) → sq = (if any = true ∨ lo = 2 ∨ lo = 3 then 0 else turn) →
      KBw.bInts b' = bs ++ (rs ++ ([place % 256, place / 256 % 256, place / 256 / 256 % 256, place / 256 / 256 / 256 % 256] ++ ((((ds.length : Nat) : Int) :: ds) ++ [sq % 256, sq / 256 % 256, sq / 256 / 256 % 256, sq / 256 / 256 / 256 % 256]))) → Fr h₀ L h' m →
      News h₀ L h' [(x, instObj 340 dx), (dx, dictOf [⟨h1, .str (Str.ofString "_BytesIO__buf") t1, .ref ab⟩, ⟨h2, .str (Str.ofString "_BytesIO__pos") t2, .int vP t3'⟩] 2), (ab, baObj b'), (zx, instObj 775 zd), (zd, dictOf [⟨h3, .str (Str.ofString "data") t4, .bytes dat td⟩] 1),
        (o, instObj 902 od), (od, dictOf [⟨k1, .str (Str.ofString "txid") v1, .bytes nm w1⟩, ⟨k2, .str (Str.ofString "vout") v2, .int place w2⟩, ⟨k3, .str (Str.ofString "script_sig") v3, sv⟩, ⟨k4, .str (Str.ofString "sequence") v4, .int turn w4⟩, ⟨k5, .str (Str.ofString "witness") v5, wv⟩] 5)] →
      (∀ y q, y ≠ x → y ≠ dx → y ≠ ab → y ≠ zx → y ≠ zd → y ≠ o → y ≠ od → s.heap.get? y = some q → h'.get? y = some q) → Q (.int vI tr) { s with heap := h', toks := tk' } := by
    intro sq b' h' t3' tr tk' vI vP e1 e2
    rw [e1, e2]
    exact ret sq b' h' t3' tr tk'
  walk_at "mine enterC"
  refine execsS_leaf ?_
  walk_at "mine steps"
  (try dsimp only)
  (rename Fr _ _ _ _ => FF)
  (rename News _ _ _ _ => nE)
  refine seqIf (Str.ofString "sequence") (fun q => q = (if any = true ∨ lo = 2 ∨ lo = 3 then 0 else turn)) FF nE ?_ ?_
  · walk_at "mine steps"
    all_goals (rename News _ _ _ _ => nF)
    all_goals first
      | exact ⟨rfl, _, _, sq_1 (by assumption), by assumption, cb_drop nF (by kcj_all), rfl⟩
      | exact ⟨rfl, _, _, sq_2 (by assumption), by assumption, cb_drop nF (by kcj_all), rfl⟩
      | exact ⟨rfl, _, _, sq_3 (by assumption) (by assumption), by assumption, cb_drop nF (by kcj_all), rfl⟩
  · intro h2' sq tq tk2 hq F2 N2
    (try dsimp only)
    refine execsS_cons (assignS_Name (methodS ?_) (by with_unfolding_all rfl))
    walk_at "mine args"
    walk_at "mine write"
    intro b1 h1' t31 tr1 tk1 e1 F1 N1
    walk_at "mine steps"
    (try dsimp only)
    refine execsS_cons (augS_Name ?_)
    walk_at "mine steps"
    (try dsimp only)
    refine methodS ?_
    walk_at "mine args"
    walk_at "mine write"
    intro b2 h2' t32 tr2 tk2 e2 F2 N2
    walk_at "mine steps"
    (try dsimp only)
    walk_at "mine steps"
    (try dsimp only)
    refine execsS_cons (ifS ?_)
    rcases hv0 with ⟨rfl, rfl⟩ | rfl
    all_goals
      walk_at "mine steps"
      (try dsimp only)
      refine execsS_cons (augS_Name ?_)
      walk_at "mine steps"
      (try dsimp only)
      refine methodS ?_
      walk_at "mine steps"
      (try dsimp only)
      refine cK1 (by k_is) ?_
      refine methodS ?_
      walk_at "mine steps"
      (try dsimp only)
      refine cK0 (by k_in) (by k_is) ?_
      walk_at "mine ser"
      intro bq hq' tb tkq eq Fq Nq
      refine ⟨by k_in, ?_⟩
      walk_at "mine write"
      intro b3 h3' t33 tr3 tk3 e3 F3 N3
      walk_at "mine steps"
      (try dsimp only)
      walk_at "mine steps"
      refine execsS_nil ?_
      (try dsimp only)
      have q0 : 0 ≤ sq := by rw [hq]; split <;> omega
      have q1 : sq < 4294967296 := by rw [hq]; split <;> omega
      refine execsS_cons (augS_Name ?_)
      walk_at "mine steps"
      (try dsimp only)
      refine methodS ?_
      walk_at "mine args"
      walk_at "mine write"
      intro b4 h4' t34 tr4 tk4 e4 F4 N4
      walk_at "mine steps"
      (try dsimp only)
      walk_at "mine steps"
      refine execsS_leaf ?_
      walk_at "mine steps"
      intro hkeep
      dsimp only
      (rename News _ _ _ _ => nE)
      (rename GK _ _ _ => gk)
      refine ret2 sq _ _ _ _ _ _ _ ?_ ?_ hq ?_ (by assumption) (cb_drop nE (by kcj_all)) ?_
      · simp only [List.length_cons, List.length_nil, hrl]; omega
      · simp only [List.length_cons, List.length_nil, hrl]; omega
      · rw [e4]; simp only [List.append_assoc, List.cons_append, List.nil_append]
      · intro y q z1 z2 z3 z4 z5 z6 z7 hy
        exact hkeep _ _ (gk.keep y q (by simp only [List.map_cons, List.map_nil, List.mem_cons, List.not_mem_nil, or_false, not_or]; exact ⟨z1, z2, z3, z4, z5, z6, z7⟩) hy)
theorem wr_u {w : World} {dp un : Nat} {cn : Str} {cs : Scope} {a : Addr} {ccd : Value} {cl : List (Str × Addr)} {outer : List Env} {A₀ : Around} {base h₀ : Heap} {L : Addr} {m mg mb : Str → Option Value} {p : Program} {loose : List Str} {mean : ExcName → Option Value} {s : Shared} {Q E : Value → Shared → Prop}
    {x dx ab o od zx zd : Addr} {h1 h2 h3 k1 k2 k3 k4 k5 : Int} {t1 t2 t3 t4 td v1 v2 v3 v4 v5 w1 w2 w4 tn : Tok} {b dat nm : Array UInt8} {bs ds rs : List Int} {P place turn n lo : Int} {any : Bool} {sv wv hv : Value} {news r1 r2 r3 r4 r5 r6 r7 : List (Addr × Obj)}
    (B : Below A₀ base outer h₀) (F : Fr h₀ L s.heap m)
    (X : (MineH.hd.heap_39 w.params).In h₀) (N : News h₀ L s.heap news)
    (hm1 : (x, instObj 340 dx) ∈ news)
    (hm2 : (dx, dictOf [⟨h1, .str (Str.ofString "_BytesIO__buf") t1, .ref ab⟩, ⟨h2, .str (Str.ofString "_BytesIO__pos") t2, .int P t3⟩] 2) ∈ news)
    (hm3 : (ab, baObj b) ∈ news)
    (hm4 : (zx, instObj 775 zd) ∈ news)
    (hm5 : (zd, dictOf [⟨h3, .str (Str.ofString "data") t4, .bytes dat td⟩] 1) ∈ news)
    (hm6 : (o, instObj 902 od) ∈ news)
    (hm7 : (od, dictOf [⟨k1, .str (Str.ofString "txid") v1, .bytes nm w1⟩, ⟨k2, .str (Str.ofString "vout") v2, .int place w2⟩, ⟨k3, .str (Str.ofString "script_sig") v3, sv⟩, ⟨k4, .str (Str.ofString "sequence") v4, .int turn w4⟩, ⟨k5, .str (Str.ofString "witness") v5, wv⟩] 5) ∈ news)
    (D1 : Del x news r1) (D2 : Del dx r1 r2) (D3 : Del ab r2 r3) (D4 : Del zx r3 r4) (D5 : Del zd r4 r5) (D6 : Del o r5 r6) (D7 : Del od r6 r7)
    (T : Top p loose mean mg mb h₀) (hk : cs.kind = .function) (hd : dp + 40 < recursionLimit) (hu : un + 400 < cLine)
    (n1 : @Ne Nat x dx) (n2 : @Ne Nat x ab) (n3 : @Ne Nat dx ab) (m1 : @Ne Nat zx x) (m2 : @Ne Nat zx dx) (m3 : @Ne Nat zx ab) (m4 : @Ne Nat zd x) (m5 : @Ne Nat zd dx) (m6 : @Ne Nat zd ab) (m7 : @Ne Nat zx zd)
    (o1 : @Ne Nat o x) (o2 : @Ne Nat o dx) (o3 : @Ne Nat o ab) (o4 : @Ne Nat o zx) (o5 : @Ne Nat o zd) (o6 : @Ne Nat od x) (o7 : @Ne Nat od dx) (o8 : @Ne Nat od ab) (o9 : @Ne Nat od zx) (o10 : @Ne Nat od zd) (o11 : @Ne Nat o od)
    (hb : KBw.bInts b = bs) (hP : P = (bs.length : Int)) (hc : KBw.bInts dat = ds) (h0 : ds.length = 2 ∨ ds.length = 3) (hz : bs.length ≤ 800) (hnm : nm.size = 32) (hrs : KBw.bInts (rvAt nm 0) = rs) (hrl : rs.length = 32)
    (kv : KV n lo any) (p0 : 0 ≤ place) (p1 : place < 4294967296) (u0 : 0 ≤ turn) (u1 : turn < 4294967296)
    (hv0 : (hv = .none ∧ sv = .ref zx) ∨ hv = .ref zx)
    (ret : ∀ sq b' h' t3' tr tk', sq = (if any = true ∨ lo = 2 ∨ lo = 3 then 0 else turn) →
      KBw.bInts b' = bs ++ (rs ++ ([place % 256, place / 256 % 256, place / 256 / 256 % 256, place / 256 / 256 / 256 % 256] ++ ((((ds.length : Nat) : Int) :: ds) ++ [sq % 256, sq / 256 % 256, sq / 256 / 256 % 256, sq / 256 / 256 / 256 % 256]))) → Fr h₀ L h' m →
      News h₀ L h' ((x, instObj 340 dx) :: (dx, dictOf [⟨h1, .str (Str.ofString "_BytesIO__buf") t1, .ref ab⟩, ⟨h2, .str (Str.ofString "_BytesIO__pos") t2, .int (P + 41 + (ds.length : Nat)) t3'⟩] 2) :: (ab, baObj b') :: (zx, instObj 775 zd) :: (zd, dictOf [⟨h3, .str (Str.ofString "data") t4, .bytes dat td⟩] 1) :: (o, instObj 902 od) :: (od, dictOf [⟨k1, .str (Str.ofString "txid") v1, .bytes nm w1⟩, ⟨k2, .str (Str.ofString "vout") v2, .int place w2⟩, ⟨k3, .str (Str.ofString "script_sig") v3, sv⟩, ⟨k4, .str (Str.ofString "sequence") v4, .int turn w4⟩, ⟨k5, .str (Str.ofString "witness") v5, wv⟩] 5) :: r7) → Q (.int (41 + (ds.length : Nat)) tr) { s with heap := h', toks := tk' }) :
    codeS (model PySem.Challenge.rw_gb5006_01.row.prog w) (ktrTop dp un (some []) cn cs L a ccd cl outer) (.call (.ref 889) ⟨[.ref o, .ref x, hv, .int n tn], []⟩) (wants Q E) s := by
  refine wr_cc (b := b) (dat := dat) (nm := nm) (P := P) (h1 := h1) (h2 := h2) (h3 := h3) (k1 := k1) (k2 := k2) (k3 := k3) (k4 := k4) (k5 := k5) (t1 := t1) (t2 := t2) (t3 := t3) (t4 := t4) (td := td) (v1 := v1) (v2 := v2) (v3 := v3) (v4 := v4) (v5 := v5) (w1 := w1) (w2 := w2) (w4 := w4) (ab := ab) (dx := dx) (zx := zx) (zd := zd) (od := od) (sv := sv) (wv := wv) (place := place) (turn := turn) (rs := rs)
    B F (fun q hq => ?_) T hk hd hu n1 n2 n3 m1 m2 m3 m4 m5 m6 m7 o1 o2 o3 o4 o5 o6 o7 o8 o9 o10 o11 hb hP hc h0 hz hnm hrs hrl kv p0 p1 u0 u1 hv0 (fun sq b' h' t3' tr tk' esq eb F' N' keep => ret sq b' h' t3' tr tk' esq eb F' fun q hq => ?_) X
  · simp only [List.mem_cons, List.not_mem_nil, or_false] at hq
    rcases hq with rfl | rfl | rfl | rfl | rfl | rfl | rfl
    · exact N _ hm1
    · exact N _ hm2
    · exact N _ hm3
    · exact N _ hm4
    · exact N _ hm5
    · exact N _ hm6
    · exact N _ hm7
  · by_cases hq' : q ∈ r7
    · obtain ⟨q6, e7⟩ := D7.out q hq'
      obtain ⟨q5, e6⟩ := D6.out q q6
      obtain ⟨q4, e5⟩ := D5.out q q5
      obtain ⟨q3, e4⟩ := D4.out q q4
      obtain ⟨q2, e3⟩ := D3.out q q3
      obtain ⟨q1, e2⟩ := D2.out q q2
      obtain ⟨q0, e1⟩ := D1.out q q1
      exact ⟨keep _ _ e1 e2 e3 e4 e5 e6 e7 (N _ q0).1, (N _ q0).2⟩
    · refine N' q ?_
      simp only [List.mem_cons] at hq ⊢
      rcases hq with h | h | h | h | h | h | h | h
      · exact .inl h
      · exact .inr (.inl h)
      · exact .inr (.inr (.inl h))
      · exact .inr (.inr (.inr (.inl h)))
      · exact .inr (.inr (.inr (.inr (.inl h))))
      · exact .inr (.inr (.inr (.inr (.inr (.inl h)))))
      · exact .inr (.inr (.inr (.inr (.inr (.inr (.inl h))))))
      · exact (hq' h).elim
end

local macro_rules | `(tactic| walk_at "mine wr") => `(tactic| (k_dflt (refine' wr_u ?wB ?wF ?wX ?wN ?hm1 ?hm2 ?hm3 ?hm4 ?hm5 ?hm6 ?hm7 ?D1 ?D2 ?D3 ?D4 ?D5 ?D6 ?D7 ?wT ?wK ?wd ?wu ?n1 ?n2 ?n3 ?m1 ?m2 ?m3 ?m4 ?m5 ?m6 ?m7 ?o1 ?o2 ?o3 ?o4 ?o5 ?o6 ?o7 ?o8 ?o9 ?o10 ?o11 ?hb ?hP ?hc ?h0 ?hz ?hnm ?hrs ?hrl ?kv ?p0 ?p1 ?u0 ?u1 ?hv0 ?_; (case wB => k_asm); (case wF => k_asm); (case wX => k_asm); (case wN => k_asm); (case hm1 => k_mem); (case hm2 => k_mem); (case hm3 => k_mem); (case hm4 => k_mem); (case hm5 => k_mem); (case hm6 => k_mem); (case hm7 => k_mem); (case D1 => walk_at "mine del"); (case D2 => walk_at "mine del"); (case D3 => walk_at "mine del"); (case D4 => walk_at "mine del"); (case D5 => walk_at "mine del"); (case D6 => walk_at "mine del"); (case D7 => walk_at "mine del"); (case wT => k_asm); (case wK => first | exact rfl | assumption); (case wd => walk_at "mine room"); (case wu => walk_at "mine units"); (case n1 => walk_at "mine ne"); (case n2 => walk_at "mine ne"); (case n3 => walk_at "mine ne"); (case m1 => walk_at "mine ne"); (case m2 => walk_at "mine ne"); (case m3 => walk_at "mine ne"); (case m4 => walk_at "mine ne"); (case m5 => walk_at "mine ne"); (case m6 => walk_at "mine ne"); (case m7 => walk_at "mine ne"); (case o1 => walk_at "mine ne"); (case o2 => walk_at "mine ne"); (case o3 => walk_at "mine ne"); (case o4 => walk_at "mine ne"); (case o5 => walk_at "mine ne"); (case o6 => walk_at "mine ne"); (case o7 => walk_at "mine ne"); (case o8 => walk_at "mine ne"); (case o9 => walk_at "mine ne"); (case o10 => walk_at "mine ne"); (case o11 => walk_at "mine ne"); (case hb => first | assumption | exact (by decide +kernel : KBw.bInts #[] = []) | exact rfl); (case hP => first | assumption | walk_at "mine num"); (case hc => first | assumption | exact rfl); (case h0 => first | assumption | walk_at "mine num"); (case hz => first | assumption | walk_at "mine num"); (case hnm => first | assumption | exact rfl); (case hrs => assumption); (case hrl => assumption); (case kv => assumption); (case p0 => assumption); (case p1 => assumption); (case u0 => assumption); (case u1 => assumption); (case hv0 => assumption); k_whole)))
section
theorem sert_c {w : World} {dp un : Nat} {cn : Str} {cs : Scope} {a : Addr} {ccd : Value} {cl : List (Str × Addr)} {outer : List Env} {A₀ : Around} {base h₀ : Heap} {L : Addr} {m mg mb : Str → Option Value} {p : Program} {loose : List Str} {mean : ExcName → Option Value} {s : Shared} {Q E : Value → Shared → Prop}
    {o od zx zd : Addr} {h3 k1 k2 k3 k4 k5 : Int} {t4 td v1 v2 v3 v4 v5 w1 w2 w4 tn : Tok} {dat nm : Array UInt8} {ds rs : List Int} {place turn n lo : Int} {any : Bool} {sv wv hv : Value}
    (B : Below A₀ base outer h₀) (F : Fr h₀ L s.heap m)
    (N : News h₀ L s.heap [(zx, instObj 775 zd), (zd, dictOf [⟨h3, .str (Str.ofString "data") t4, .bytes dat td⟩] 1),
      (o, instObj 902 od), (od, dictOf [⟨k1, .str (Str.ofString "txid") v1, .bytes nm w1⟩, ⟨k2, .str (Str.ofString "vout") v2, .int place w2⟩, ⟨k3, .str (Str.ofString "script_sig") v3, sv⟩, ⟨k4, .str (Str.ofString "sequence") v4, .int turn w4⟩, ⟨k5, .str (Str.ofString "witness") v5, wv⟩] 5)])
    (T : Top p loose mean mg mb h₀) (hk : cs.kind = .function) (hd : dp + 60 < recursionLimit) (hu : un + 600 < cLine)
    (m7 : @Ne Nat zx zd)
    (o4 : @Ne Nat o zx) (o5 : @Ne Nat o zd) (o9 : @Ne Nat od zx) (o10 : @Ne Nat od zd) (o11 : @Ne Nat o od)
    (hc : KBw.bInts dat = ds) (h0 : ds.length = 2 ∨ ds.length = 3) (hnm : nm.size = 32) (hrs : KBw.bInts (rvAt nm 0) = rs) (hrl : rs.length = 32)
    (kv : KV n lo any) (p0 : 0 ≤ place) (p1 : place < 4294967296) (u0 : 0 ≤ turn) (u1 : turn < 4294967296)
    (hv0 : (hv = .none ∧ sv = .ref zx) ∨ hv = .ref zx)
    (ret : ∀ sq b' h' tb tk', sq = (if any = true ∨ lo = 2 ∨ lo = 3 then 0 else turn) →
      KBw.bInts b' = (rs ++ ([place % 256, place / 256 % 256, place / 256 / 256 % 256, place / 256 / 256 / 256 % 256] ++ ((((ds.length : Nat) : Int) :: ds) ++ [sq % 256, sq / 256 % 256, sq / 256 / 256 % 256, sq / 256 / 256 / 256 % 256]))) → Fr h₀ L h' m →
      News h₀ L h' [(zx, instObj 775 zd), (zd, dictOf [⟨h3, .str (Str.ofString "data") t4, .bytes dat td⟩] 1),
        (o, instObj 902 od), (od, dictOf [⟨k1, .str (Str.ofString "txid") v1, .bytes nm w1⟩, ⟨k2, .str (Str.ofString "vout") v2, .int place w2⟩, ⟨k3, .str (Str.ofString "script_sig") v3, sv⟩, ⟨k4, .str (Str.ofString "sequence") v4, .int turn w4⟩, ⟨k5, .str (Str.ofString "witness") v5, wv⟩] 5)] →
      (∀ y q, y ≠ zx → y ≠ zd → y ≠ o → y ≠ od → s.heap.get? y = some q → h'.get? y = some q) → Q (.bytes b' tb) { s with heap := h', toks := tk' }) :
    (MineH.hd.heap_39 w.params).In h₀ → wpS (model PySem.Challenge.rw_gb5006_01.row.prog w) (ktrTop dp un (some []) cn cs L a ccd cl outer) (call (.ref 630) [.ref o, hv, .int n tn]) Q E s := by
  k_fill
  intro X
  walk_at "mine starS"
  refine execsS_cons (assignS_Name (callNameS ?_) (by with_unfolding_all rfl))
  walk_at "mine steps"
  (try dsimp only)
  refine cK0 (by k_in) (by k_is) ?_
  walk_at "mine newIO"
  intro x dx ab h1' t11 t12 t13 tk1 F1 N1 n1 n2 n3 a1 a2 a3
  walk_at "mine steps"
  (try dsimp only)
  refine execsS_cons (exprS (methodAttrS ?_))
  walk_at "mine steps"
  (try dsimp only)
  refine cStarM (K := MineH.hd.heap_39 w.params) (g := 889) (self := .ref o) (by k_is) (by rfl) ?_
  refine wpS_of (evalArgs_skwB (by rfl) ?_)
  walk_at "mine steps"
  refine mergedK_N (by k_asm) (by k_asm) ?_
  intro d hd1 Fd Nd ltd
  (try k_lt ltd)
  refine wpAny_bind ?_
  walk_at "mine steps"
  refine wpAny_bind (wpAny_standAt (wpAny_pure ?_))
  (rename News _ _ _ _ => nE)
  refine ⟨_, _, _, rfl, (nget nE (by k_mem)), (nget nE (by k_mem)), by assumption, ?_⟩
  refine keywordsIn_nil (nget nE (by k_mem)) ?_
  refine ⟨methP nE (by k_mem) (by k_in), ?_⟩
  refine wpS_call (codeS_method (nget nE (by k_mem)) ?_)
  refine codeS_mono (R := wants _ _) ?_ (fun _ _ z => z)
  walk_at "mine wr"
  intro sq b1 h2' t31 tr1 tk2 esq e1 F2 N2
  (try dsimp only)
  refine execsS_leaf ?_
  walk_at "mine steps"
  intro hkeep
  dsimp only
  (rename News _ _ _ _ => nE)
  (rename GK _ _ _ => gk)
  refine ret sq _ _ _ _ esq ?_ (by assumption) (cb_drop nE (by kcj_all)) ?_
  · rw [e1]; simp only [List.nil_append]
  · intro y q z1 z2 z3 z4 hy
    exact hkeep _ _ (gk.keep y q (by simp only [List.map_cons, List.map_nil, List.mem_cons, List.not_mem_nil, or_false, not_or]; exact ⟨z1, z2, z3, z4⟩) hy)
theorem sert_u {w : World} {dp un : Nat} {cn : Str} {cs : Scope} {a : Addr} {ccd : Value} {cl : List (Str × Addr)} {outer : List Env} {A₀ : Around} {base h₀ : Heap} {L : Addr} {m mg mb : Str → Option Value} {p : Program} {loose : List Str} {mean : ExcName → Option Value} {s : Shared} {Q E : Value → Shared → Prop}
    {o od zx zd : Addr} {h3 k1 k2 k3 k4 k5 : Int} {t4 td v1 v2 v3 v4 v5 w1 w2 w4 tn : Tok} {dat nm : Array UInt8} {ds rs : List Int} {place turn n lo : Int} {any : Bool} {sv wv hv : Value} {news r1 r2 r3 r4 : List (Addr × Obj)}
    (B : Below A₀ base outer h₀) (F : Fr h₀ L s.heap m)
    (X : (MineH.hd.heap_39 w.params).In h₀) (N : News h₀ L s.heap news)
    (hm1 : (zx, instObj 775 zd) ∈ news)
    (hm2 : (zd, dictOf [⟨h3, .str (Str.ofString "data") t4, .bytes dat td⟩] 1) ∈ news)
    (hm3 : (o, instObj 902 od) ∈ news)
    (hm4 : (od, dictOf [⟨k1, .str (Str.ofString "txid") v1, .bytes nm w1⟩, ⟨k2, .str (Str.ofString "vout") v2, .int place w2⟩, ⟨k3, .str (Str.ofString "script_sig") v3, sv⟩, ⟨k4, .str (Str.ofString "sequence") v4, .int turn w4⟩, ⟨k5, .str (Str.ofString "witness") v5, wv⟩] 5) ∈ news)
    (D1 : Del zx news r1) (D2 : Del zd r1 r2) (D3 : Del o r2 r3) (D4 : Del od r3 r4)
    (T : Top p loose mean mg mb h₀) (hk : cs.kind = .function) (hd : dp + 60 < recursionLimit) (hu : un + 600 < cLine)
    (m7 : @Ne Nat zx zd)
    (o4 : @Ne Nat o zx) (o5 : @Ne Nat o zd) (o9 : @Ne Nat od zx) (o10 : @Ne Nat od zd) (o11 : @Ne Nat o od)
    (hc : KBw.bInts dat = ds) (h0 : ds.length = 2 ∨ ds.length = 3) (hnm : nm.size = 32) (hrs : KBw.bInts (rvAt nm 0) = rs) (hrl : rs.length = 32)
    (kv : KV n lo any) (p0 : 0 ≤ place) (p1 : place < 4294967296) (u0 : 0 ≤ turn) (u1 : turn < 4294967296)
    (hv0 : (hv = .none ∧ sv = .ref zx) ∨ hv = .ref zx)
    (ret : ∀ sq b' h' tb tk', sq = (if any = true ∨ lo = 2 ∨ lo = 3 then 0 else turn) →
      KBw.bInts b' = (rs ++ ([place % 256, place / 256 % 256, place / 256 / 256 % 256, place / 256 / 256 / 256 % 256] ++ ((((ds.length : Nat) : Int) :: ds) ++ [sq % 256, sq / 256 % 256, sq / 256 / 256 % 256, sq / 256 / 256 / 256 % 256]))) → Fr h₀ L h' m →
      News h₀ L h' ((zx, instObj 775 zd) :: (zd, dictOf [⟨h3, .str (Str.ofString "data") t4, .bytes dat td⟩] 1) :: (o, instObj 902 od) :: (od, dictOf [⟨k1, .str (Str.ofString "txid") v1, .bytes nm w1⟩, ⟨k2, .str (Str.ofString "vout") v2, .int place w2⟩, ⟨k3, .str (Str.ofString "script_sig") v3, sv⟩, ⟨k4, .str (Str.ofString "sequence") v4, .int turn w4⟩, ⟨k5, .str (Str.ofString "witness") v5, wv⟩] 5) :: r4) → Q (.bytes b' tb) { s with heap := h', toks := tk' }) :
    wpS (model PySem.Challenge.rw_gb5006_01.row.prog w) (ktrTop dp un (some []) cn cs L a ccd cl outer) (call (.ref 630) [.ref o, hv, .int n tn]) Q E s := by
  refine sert_c (dat := dat) (nm := nm) (h3 := h3) (k1 := k1) (k2 := k2) (k3 := k3) (k4 := k4) (k5 := k5) (t4 := t4) (td := td) (v1 := v1) (v2 := v2) (v3 := v3) (v4 := v4) (v5 := v5) (w1 := w1) (w2 := w2) (w4 := w4) (zx := zx) (zd := zd) (od := od) (sv := sv) (wv := wv) (place := place) (turn := turn) (rs := rs)
    B F (fun q hq => ?_) T hk hd hu m7 o4 o5 o9 o10 o11 hc h0 hnm hrs hrl kv p0 p1 u0 u1 hv0 (fun sq b' h' tb tk' esq eb F' N' keep => ret sq b' h' tb tk' esq eb F' fun q hq => ?_) X
  · simp only [List.mem_cons, List.not_mem_nil, or_false] at hq
    rcases hq with rfl | rfl | rfl | rfl
    · exact N _ hm1
    · exact N _ hm2
    · exact N _ hm3
    · exact N _ hm4
  · by_cases hq' : q ∈ r4
    · obtain ⟨q3, e4⟩ := D4.out q hq'
      obtain ⟨q2, e3⟩ := D3.out q q3
      obtain ⟨q1, e2⟩ := D2.out q q2
      obtain ⟨q0, e1⟩ := D1.out q q1
      exact ⟨keep _ _ e1 e2 e3 e4 (N _ q0).1, (N _ q0).2⟩
    · refine N' q ?_
      simp only [List.mem_cons] at hq ⊢
      rcases hq with h | h | h | h | h
      · exact .inl h
      · exact .inr (.inl h)
      · exact .inr (.inr (.inl h))
      · exact .inr (.inr (.inr (.inl h)))
      · exact (hq' h).elim
end

local macro_rules | `(tactic| walk_at "mine le") => `(tactic| (k_dflt (refine' le_u ?wB ?wF ?wX ?wN ?wT ?wK ?wd ?wu ?h0 ?h1 ?rv; (case wB => k_asm); (case wF => k_asm); (case wX => k_asm); (case wN => k_asm); (case wT => k_asm); (case wK => first | exact rfl | assumption); (case wd => walk_at "mine room"); (case wu => walk_at "mine units"); (case h0 => first | assumption | omega); (case h1 => first | assumption | omega); k_whole)))
local macro_rules | `(tactic| walk_at "call ref") => `(tactic| ((with_reducible show wpAny _ _ (call (Value.ref 940) _) _ _ _); walk_at "mine le"; (intro b1 hle1 tb1 tkle1 ele1 Fle1 Nle1; (try dsimp only))))
local macro_rules | `(tactic| walk_at "mine srt") => `(tactic| (k_dflt (refine' sert_u ?wB ?wF ?wX ?wN ?hm1 ?hm2 ?hm3 ?hm4 ?D1 ?D2 ?D3 ?D4 ?wT ?wK ?wd ?wu ?m7 ?o4 ?o5 ?o9 ?o10 ?o11 ?hc ?h0 ?hnm ?hrs ?hrl ?kv ?p0 ?p1 ?u0 ?u1 ?hv0 ?_; (case wB => k_asm); (case wF => k_asm); (case wX => k_asm); (case wN => k_asm); (case hm1 => k_mem); (case hm2 => k_mem); (case hm3 => k_mem); (case hm4 => k_mem); (case D1 => walk_at "mine del"); (case D2 => walk_at "mine del"); (case D3 => walk_at "mine del"); (case D4 => walk_at "mine del"); (case wT => k_asm); (case wK => first | exact rfl | assumption); (case wd => walk_at "mine room"); (case wu => walk_at "mine units"); (case m7 => walk_at "mine ne"); (case o4 => walk_at "mine ne"); (case o5 => walk_at "mine ne"); (case o9 => walk_at "mine ne"); (case o10 => walk_at "mine ne"); (case o11 => walk_at "mine ne"); (case hc => first | assumption | exact rfl); (case h0 => first | assumption | walk_at "mine num"); (case hnm => first | assumption | exact rfl); (case hrs => assumption); (case hrl => assumption); (case kv => assumption); (case p0 => assumption); (case p1 => assumption); (case u0 => assumption); (case u1 => assumption); (case hv0 => assumption); k_whole)))
section
local macro_rules | `(tactic| walk_at "subscriptTail") => `(tactic| (k_here; (with_reducible show wpAny _ _ (subscriptTail _ (Expr.Slice none none (some _) _) (Value.bytes _ _) (Value.ref _)) _ _ _); (with_reducible rename Fr _ _ _ _ => F'); (with_reducible rename News _ _ _ _ => N'); (refine back_K (s := ⟨_, _, _, _, _⟩) (ks := [115, 121, 97, 112, 32, 101, 110, 111, 32, 116, 115, 114, 105, 102, 32, 101, 104, 116, 32, 116, 97, 104, 116, 32, 110, 105, 111, 99, 32, 101, 104, 116]) F' N' (by decide +kernel) (by decide +kernel) (by decide +kernel) ?_); intro _ _ _ _ hbk FF' NN'; (try dsimp only)))
local macro_rules | `(tactic| walk_at "execs cons") => `(tactic| first | exact (kv_bad (kv_high (by assumption) (by assumption)) (by assumption)).elim | exact (kv_bad (kv_low (by assumption)) (by assumption)).elim)
theorem inp_c {w : World} {dp un : Nat} {cn : Str} {cs : Scope} {a : Addr} {ccd : Value} {A₀ : Around} {base h₀ : Heap} {L : Addr} {m mg mb : Str → Option Value} {p : Program} {loose : List Str} {mean : ExcName → Option Value} {s : Shared} {Q E : Value → Shared → Prop}
    {o od zx zd : Addr} {h3 k1 k2 k3 k4 k5 : Int} {t4 td v1 v2 v3 v4 v5 w1 w2 w4 tn to tp tu : Tok} {dat nm ob : Array UInt8} {ds rs : List Int} {place turn n : Int} {sv wv hv : Value}
    (B : Below A₀ base [] h₀) (F : Fr h₀ L s.heap m)
    (N : News h₀ L s.heap [(zx, instObj 775 zd), (zd, dictOf [⟨h3, .str (Str.ofString "data") t4, .bytes dat td⟩] 1),
      (o, instObj 902 od), (od, dictOf [⟨k1, .str (Str.ofString "txid") v1, .bytes nm w1⟩, ⟨k2, .str (Str.ofString "vout") v2, .int place w2⟩, ⟨k3, .str (Str.ofString "script_sig") v3, sv⟩, ⟨k4, .str (Str.ofString "sequence") v4, .int turn w4⟩, ⟨k5, .str (Str.ofString "witness") v5, wv⟩] 5)])
    (T : Top p loose mean mg mb h₀) (XB : (MineH.hd.heap_39 w.params).In base) (TB : Top p loose mean mg mb base) (hk : cs.kind = .function) (hd : dp + 80 < recursionLimit) (hu : un + 800 < cLine)
    (m7 : @Ne Nat zx zd)
    (o4 : @Ne Nat o zx) (o5 : @Ne Nat o zd) (o9 : @Ne Nat od zx) (o10 : @Ne Nat od zd) (o11 : @Ne Nat o od)
    (hc : KBw.bInts dat = ds) (h0 : ds.length = 2 ∨ ds.length = 3) (hnm : nm.size = 32) (hrs : KBw.bInts (rvAt nm 0) = rs) (hrl : rs.length = 32) (hrs2 : rs = [115, 121, 97, 112, 32, 101, 110, 111, 32, 116, 115, 114, 105, 102, 32, 101, 104, 116, 32, 116, 97, 104, 116, 32, 110, 105, 111, 99, 32, 101, 104, 116])
    (p0 : 0 ≤ place) (p1 : place < 4294967296) (u0 : 0 ≤ turn) (u1 : turn < 4294967296)
    (hv0 : (hv = .none ∧ sv = .ref zx) ∨ hv = .ref zx) (hv1 : hv = .none → KBw.bInts ob = ds)
    (ret : ∀ h' tk', Fr h₀ L h' m →
      News h₀ L h' [(zx, instObj 775 zd), (zd, dictOf [⟨h3, .str (Str.ofString "data") t4, .bytes dat td⟩] 1),
      (o, instObj 902 od), (od, dictOf [⟨k1, .str (Str.ofString "txid") v1, .bytes nm w1⟩, ⟨k2, .str (Str.ofString "vout") v2, .int place w2⟩, ⟨k3, .str (Str.ofString "script_sig") v3, sv⟩, ⟨k4, .str (Str.ofString "sequence") v4, .int turn w4⟩, ⟨k5, .str (Str.ofString "witness") v5, wv⟩] 5)] →
      (∀ y q, y ≠ zx → y ≠ zd → y ≠ o → y ≠ od → @Ne Nat y L → s.heap.get? y = some q → h'.get? y = some q) → Q (.bool true) { s with heap := h', toks := tk' }) :
    (MineH.hd.heap_39 w.params).In h₀ → wpS (model PySem.Challenge.rw_gb5006_01.row.prog w) (ktrTop dp un (some []) cn cs L a ccd [] []) (call (.ref 947) [.ref o, .int n tn, hv, .bytes ob to, .int place tp, .int turn tu]) Q E s := by
  k_fill
  intro X
  have ret2 : ∀ vb h' tk', vb = true → Fr h₀ L h' m →
      News h₀ L h' [(zx, instObj 775 zd), (zd, dictOf [⟨h3, .str (Str.ofString "data") t4, .bytes dat td⟩] 1),
      (o, instObj 902 od), (od, dictOf [⟨k1, .str (Str.ofString "txid") v1, .bytes nm w1⟩, ⟨k2, .str (Str.ofString "vout") v2, .int place w2⟩, ⟨k3, .str (Str.ofString "script_sig") v3, sv⟩, ⟨k4, .str (Str.ofString "sequence") v4, .int turn w4⟩, ⟨k5, .str (Str.ofString "witness") v5, wv⟩] 5)] →
      (∀ y q, y ≠ zx → y ≠ zd → y ≠ o → y ≠ od → @Ne Nat y L → s.heap.get? y = some q → h'.get? y = some q) → Q (.bool vb) { s with heap := h', toks := tk' } := by
    intro vb h' tk' e
    rw [e]
    exact ret h' tk'
  walk_at "mine enterTS"
  refine execsS_leaf ?_
  walk_at "mine steps"
  all_goals (try dsimp only)
  all_goals
    refine execsS_cons (assignS_Name (callNameS ?_) (by with_unfolding_all rfl))
    walk_at "mine steps"
    (try dsimp only)
    refine cK0 (by k_in) (by k_is) ?_
    walk_at "mine newIO"
    intro x dx ab h1' t11 t12 t13 tk1 F1 N1 n1 n2 n3 a1 a2 a3
    walk_at "mine steps"
    (try dsimp only)
    refine execsS_cons (exprS (methodS ?_))
    walk_at "mine args"
    walk_at "mine write"
    intro b1 h2' t31 tr1 tk2 e1 F2 N2
    (try dsimp only)
    iterate 2 (refine execsS_leaf ?_; walk_at "mine steps"; (try dsimp only))
    refine execsS_cons (tryS ?_)
    refine execsS_cons (assignS_Name (methodS ?_) (by with_unfolding_all rfl))
    walk_at "mine args"
  · refine wpS_call (codeS_mono (R := wants _ _) ?_ (fun _ _ z => z))
    walk_at "mine wr"
    intro sq b2 h3' t32 tr2 tk3 esq e2 F3 N3
    walk_at "mine steps"
    (try dsimp only)
    refine execsS_nil ?_
    (try dsimp only)
    refine execsS_nil ?_
    (try dsimp only)
    refine execsS_leaf ?_
    walk_at "mine steps"
    (try dsimp only)
    (rename Fr _ _ _ _ => FF)
    (rename News _ _ _ _ => nE)
    refine seqC (Str.ofString "shown") ds FF nE ?_ ?_
    · rcases hv0 with ⟨rfl, rfl⟩ | rfl
      · have hob := hv1 rfl
        walk_at "mine steps"
        (rename News _ _ _ _ => nF)
        exact ⟨rfl, _, _, hob, by assumption, cb_drop nF (by kcj_all), rfl⟩
      · walk_at "mine steps"
        (rename News _ _ _ _ => nF)
        exact ⟨rfl, _, _, hc, by assumption, cb_drop nF (by kcj_all), rfl⟩
    · intro h4' sh tsh tk4 hsh F4 N4
      (try dsimp only)
      refine seqB (Str.ofString "quiet") (fun q => sq = if q then 0 else turn) F4 N4 ?_ ?_
      · walk_at "mine steps"
        all_goals (rename News _ _ _ _ => nF)
        all_goals first
          | exact ⟨rfl, _, qt_1 esq (by assumption), by assumption, cb_drop nF (by kcj_all), rfl⟩
          | exact ⟨rfl, _, qt_2 esq (by assumption) (by assumption), by assumption, cb_drop nF (by kcj_all), rfl⟩
          | exact ⟨rfl, _, qt_3 esq (by assumption) (by assumption), by assumption, cb_drop nF (by kcj_all), rfl⟩
      · intro h5' q5 tk5 hq5 F5 N5
        (try dsimp only)
        refine seqC (Str.ofString "row") (rs ++ ([place % 256, place / 256 % 256, place / 256 / 256 % 256, place / 256 / 256 / 256 % 256] ++ ((((ds.length : Nat) : Int) :: ds) ++ [sq % 256, sq / 256 % 256, sq / 256 / 256 % 256, sq / 256 / 256 / 256 % 256]))) F5 N5 ?_ ?_
        · walk_at "mine steps"
          all_goals (rename News _ _ _ _ => nF)
          all_goals
            refine ⟨rfl, _, _, ?_, by assumption, cb_drop nF (by kcj_all), rfl⟩
            refine Eq.trans (by assumption) ?_
            rw [hrs2, row_eq h0]
            first
              | (rw [q_pos hq5 (by assumption)]; rfl)
              | (rw [q_neg hq5 (by assumption)]; rfl)
        · intro h6' rw6 t6 tk6 hrw F6 N6
          (try dsimp only)
          refine execsS_cons (returnS (boolS ?_))
          refine andT ?_
          walk_at "mine steps"
          refine andT ?_
          walk_at "mine steps"
          rotate_left
          · intro hkeep
            dsimp only
            (rename GK _ _ _ => gk)
            (rename News _ _ _ _ => nE)
            refine ret2 _ _ _ (beq_iff_eq.mpr (by simp only [List.length_cons, List.length_nil, hrl]; omega)) (by assumption) (cb_drop nE (by kcj_all)) ?_
            intro y q z1 z2 z3 z4 z5 hy
            exact hkeep _ _ (gk.keep y q (by simp only [List.map_cons, List.map_nil, List.mem_cons, List.not_mem_nil, or_false, not_or]; exact ⟨z1, z2, z3, z4⟩) hy) z5
          refine andT ?_
          walk_at "mine steps"
          rotate_left
          · intro hkeep
            dsimp only
            (rename GK _ _ _ => gk)
            (rename News _ _ _ _ => nE)
            refine ret2 _ _ _ (bytes_eqq (e2.trans (KBw.ints_app (by decide +kernel : KBw.bInts #[7] = [7]) hrw).symm)) (by assumption) (cb_drop nE (by kcj_all)) ?_
            intro y q z1 z2 z3 z4 z5 hy
            exact hkeep _ _ (gk.keep y q (by simp only [List.map_cons, List.map_nil, List.mem_cons, List.not_mem_nil, or_false, not_or]; exact ⟨z1, z2, z3, z4⟩) hy) z5
          refine andS_last (compareS (methodS ?_))
          walk_at "mine args"
          walk_at "mine srt"
          intro sq2 b3 h7' tb7 tk7 esq2 eb7 F7 N7
          walk_at "mine steps"
          (try dsimp only)
          walk_at "mine steps"
          intro hkeep
          dsimp only
          have esq3 : sq2 = sq := esq2.trans esq.symm
          rw [esq3] at eb7
          (rename GK _ _ _ => gk)
          (rename News _ _ _ _ => nE)
          refine ret2 _ _ _ (bytes_eqq (eb7.trans hrw.symm)) (by assumption) (cb_drop nE (by kcj_all)) ?_
          intro y q z1 z2 z3 z4 z5 hy
          exact hkeep _ _ (gk.keep y q (by simp only [List.map_cons, List.map_nil, List.mem_cons, List.not_mem_nil, or_false, not_or]; exact ⟨z1, z2, z3, z4⟩) hy) z5
  · refine wpS_of ?_
    walk_at "mine steps"
    all_goals (try dsimp only)
    all_goals (refine execsS_leaf ?_; walk_at "mine steps")
    all_goals (intro hkeep; dsimp only; (rename GK _ _ _ => gk); (rename News _ _ _ _ => nE))
    all_goals
      refine ret2 _ _ _ (bytes_is (by rw [e1]; decide +kernel)) (by assumption) (cb_drop nE (by kcj_all)) ?_
      intro y q z1 z2 z3 z4 z5 hy
      exact hkeep _ _ (gk.keep y q (by simp only [List.map_cons, List.map_nil, List.mem_cons, List.not_mem_nil, or_false, not_or]; exact ⟨z1, z2, z3, z4⟩) hy) z5
end

section
theorem inp_u {w : World} {dp un : Nat} {cn : Str} {cs : Scope} {a : Addr} {ccd : Value} {A₀ : Around} {base h₀ : Heap} {L : Addr} {m mg mb : Str → Option Value} {p : Program} {loose : List Str} {mean : ExcName → Option Value} {s : Shared} {Q E : Value → Shared → Prop}
    {o od zx zd : Addr} {h3 k1 k2 k3 k4 k5 : Int} {t4 td v1 v2 v3 v4 v5 w1 w2 w4 : Tok} {tn to tp tu : Tok} {dat nm ob : Array UInt8} {place turn n : Int} {sv wv hv : Value} {news : List (Addr × Obj)}
    (B : Below A₀ base [] h₀) (F : Fr h₀ L s.heap m) (X : (MineH.hd.heap_39 w.params).In h₀)
    (N : News h₀ L s.heap news)
    (hm3 : (o, instObj 902 od) ∈ news)
    (hm4 : (od, dictOf [⟨k1, .str (Str.ofString "txid") v1, .bytes nm w1⟩, ⟨k2, .str (Str.ofString "vout") v2, .int place w2⟩, ⟨k3, .str (Str.ofString "script_sig") v3, sv⟩, ⟨k4, .str (Str.ofString "sequence") v4, .int turn w4⟩, ⟨k5, .str (Str.ofString "witness") v5, wv⟩] 5) ∈ news)
    (hm1 : (zx, instObj 775 zd) ∈ news)
    (hm2 : (zd, dictOf [⟨h3, .str (Str.ofString "data") t4, .bytes dat td⟩] 1) ∈ news)
    (T : Top p loose mean mg mb h₀) (XB : (MineH.hd.heap_39 w.params).In base) (TB : Top p loose mean mg mb base) (hk : cs.kind = .function) (hd : dp + 80 < recursionLimit) (hu : un + 800 < cLine)
    (h0 : (KBw.bInts dat).length = 2 ∨ (KBw.bInts dat).length = 3) (hnm : nm.size = 32)
    (hrs : KBw.bInts (rvAt nm 0) = [115, 121, 97, 112, 32, 101, 110, 111, 32, 116, 115, 114, 105, 102, 32, 101, 104, 116, 32, 116, 97, 104, 116, 32, 110, 105, 111, 99, 32, 101, 104, 116])
    (p0 : 0 ≤ place) (p1 : place < 4294967296) (u0 : 0 ≤ turn) (u1 : turn < 4294967296)
    (hv0 : (hv = .none ∧ sv = .ref zx) ∨ hv = .ref zx) (hv1 : hv = .none → KBw.bInts ob = KBw.bInts dat)
    (ret : ∀ h' tk', Fr h₀ L h' m → News h₀ L h' news → Q (.bool true) { s with heap := h', toks := tk' }) :
    wpS (model PySem.Challenge.rw_gb5006_01.row.prog w) (ktrTop dp un (some []) cn cs L a ccd [] []) (call (.ref 947) [.ref o, .int n tn, hv, .bytes ob to, .int place tp, .int turn tu]) Q E s := by
  have N4 := one_news N hm3 hm4 hm1 hm2
  have ne := One.ne (a := ⟨o, od, zx, zd, h3, k1, k2, k3, k4, k5, t4, td, v1, v2, v3, v4, v5, w1, w2, w4, sv, wv, .none, dat, nm⟩) N4
  obtain ⟨m7, o4, o5, o9, o10, o11⟩ := ne
  refine inp_c B F N4 T XB TB hk hd hu m7 o4 o5 o9 o10 o11 rfl h0 hnm hrs (by rfl) rfl p0 p1 u0 u1 hv0 hv1 (fun h' tk' F' N' keep => ret h' tk' F' (fun q hq => ?_)) X
  have same : ∀ (y : Addr) (x : Obj), (y, x) ∈ news → q.1 = y → q = (y, x) := fun y x hy e => by
    have e1 := (N _ hy).1
    have e2 := (N _ hq).1
    rw [e] at e2
    exact Prod.ext e (Option.some.inj (e2.symm.trans e1))
  by_cases e1 : q.1 = zx
  · rw [same _ _ hm1 e1]; exact N' _ (.head _)
  by_cases e2 : q.1 = zd
  · rw [same _ _ hm2 e2]; exact N' _ (.tail _ (.head _))
  by_cases e3 : q.1 = o
  · rw [same _ _ hm3 e3]; exact N' _ (.tail _ (.tail _ (.head _)))
  by_cases e4 : q.1 = od
  · rw [same _ _ hm4 e4]; exact N' _ (.tail _ (.tail _ (.tail _ (.head _))))
  exact ⟨keep _ _ e1 e2 e3 e4 (N _ hq).2.1 (N _ hq).1, (N _ hq).2⟩
end

end Mine

namespace MineH
open Mine
section
local macro_rules | `(tactic| k_room) => `(tactic| ktr_room)
local macro_rules | `(tactic| walk_at "mine enterS") => `(tactic| (
  refine wpS_call ?_
  k_dflt (refine' code_defS ?k1 ?k2 ?k3 ?k4 ?k5 ?kA ?kF ?kK ?k6 ?k7 ?k8 ?k9 ?kB ?_ ?c2 ?c3 ?c4 ?c5; (case kA => exact rfl); (case kF => exact rfl); (case kK => assumption); (case k1 => k_asm); (case k2 => k_asm); (case k3 => k_asm); (case k4 => k_asm); (case k5 => k_asm); (case k6 => k_is); (case k7 => k_is); (case k8 => ktr_room); (case k9 => first | exact BindsTo.of_eq rfl | exact binds_K (by k_in) rfl (by k_is) rfl rfl rfl); (case c5 => decide); (case kB => exact locs rfl); (case c2 => exact rfl); (case c3 => exact rfl); (case c4 => exact rfl); k_whole; intro g' L' h' G' FG' F' N' B' X' T'; (try dsimp only); (try k_lift B'); (try k_fold))))
local macro_rules | `(tactic| walk_at "mine steps") => `(tactic| repeat' (first | walk1 | (dsimp only; walk1) | (leave1; try dsimp only)))
local macro_rules | `(tactic| walk_at "call builtin:len") => `(tactic| (k_here; (with_reducible show wpAny _ _ (call (Value.builtin "len") [Value.ref _]) _ _ _); k_dflt (refine' ba_len_N ?N ?m ?z ?_; (case N => k_asm); (case m => k_mem); (case z => omega); k_whole)))
local macro_rules | `(tactic| walk_at "eval Slice") => `(tactic| (k_here; with_reducible refine slice_E ?_))
local macro_rules | `(tactic| walk_at "newFields") => `(tactic| (k_here; k_dflt (refine' newSlice_N ?F ?N ?_; (case F => k_asm); (case N => k_asm); k_whole); intro q' h' F' N' l1; (try k_lt l1)))

local macro_rules | `(tactic| walk_at "call type:type") => `(tactic| (k_here; (with_reducible show wpAny _ _ (call (Value.type "type") [Value.bytes _ _]) _ _ _); refine call_type_of (by_ty _ _) (by decide +kernel) ?_))
local macro_rules | `(tactic| walk_at "compareOp IsNot") => `(tactic| (k_here; (with_reducible show wpAny _ _ (compareOp CmpOp.IsNot (Value.type _) (Value.type _)) _ _ _); first | refine wpAny_isNot_self (by rfl) ?_ | refine wpAny_isNot_other (by rfl) (by decide) ?_))

local macro_rules | `(tactic| walk_at "ite") => `(tactic| (k_here; k_openite; first | (refine ite_neg (by (simp only [beq_iff_eq, decide_eq_true_eq, Bool.not_eq_true, beq_eq_false_iff_ne, decide_eq_false_iff_not]; omega)) ?_; walk_say "PRUNED here") | (refine ite_pos (by (simp only [beq_iff_eq, decide_eq_true_eq]; omega)) ?_; walk_say "PRUNED here")))

local macro_rules | `(tactic| walk_at "mine enterA") => `(tactic| (
  refine wpAny_call ?_
  k_dflt (refine' code_defA ?k1 ?k2 ?k3 ?k4 ?k5 ?kA ?kF ?kK ?k6 ?k7 ?k8 ?k9 ?kB ?_ ?c2 ?c3 ?c4 ?c5; (case kA => exact rfl); (case kF => exact rfl); (case kK => assumption); (case k1 => k_asm); (case k2 => k_asm); (case k3 => k_asm); (case k4 => k_asm); (case k5 => k_asm); (case k6 => k_is); (case k7 => k_is); (case k8 => ktr_room); (case k9 => first | exact BindsTo.of_eq rfl | exact binds_K (by k_in) rfl (by k_is) rfl rfl rfl); (case c5 => decide); (case kB => exact locs rfl); (case c2 => exact rfl); (case c3 => exact rfl); (case c4 => exact rfl); k_whole; intro g' L' h' G' FG' F' N' B' X' T'; (try dsimp only); (try k_lift B'); (try k_fold))))
local macro_rules | `(tactic| walk_at "mine starA") => `(tactic| (
  refine wpAny_call ?_
  k_dflt (refine' code_starA ?k1 ?k2 ?k3 ?k4 ?k5 ?kA ?kF ?kK ?k6 ?k7 ?k8 ?k9 ?k10 ?k11 ?kB ?_ ?c2 ?c3 ?c4 ?c5; (case kA => exact rfl); (case kF => exact rfl); (case kK => assumption); (case k1 => k_asm); (case k2 => k_asm); (case k3 => k_asm); (case k4 => k_asm); (case k5 => k_asm); (case k6 => k_is); (case k7 => k_is); (case k8 => ktr_room); (case k9 => exact rfl); (case k10 => exact fun _ => rfl); (case k11 => exact fun _ _ => rfl); (case c5 => decide); (case kB => exact fun _ _ => locs rfl); (case c2 => exact rfl); (case c3 => exact rfl); (case c4 => exact rfl); k_whole; intro C' D' g' L' h' tk' l1 l2 nm' G' FG' F' N' B' X' T'; (try k_lt l1); (try k_lt2 l2); (try dsimp only); (try k_lift B'); (try k_fold))))
local macro_rules | `(tactic| walk_at "mine starS") => `(tactic| (
  refine wpS_call ?_
  k_dflt (refine' code_starS ?k1 ?k2 ?k3 ?k4 ?k5 ?kA ?kF ?kK ?k6 ?k7 ?k8 ?k9 ?k10 ?k11 ?kB ?_ ?c2 ?c3 ?c4 ?c5; (case kA => exact rfl); (case kF => exact rfl); (case kK => assumption); (case k1 => k_asm); (case k2 => k_asm); (case k3 => k_asm); (case k4 => k_asm); (case k5 => k_asm); (case k6 => k_is); (case k7 => k_is); (case k8 => ktr_room); (case k9 => exact rfl); (case k10 => exact fun _ => rfl); (case k11 => exact fun _ _ => rfl); (case c5 => decide); (case kB => exact fun _ _ => locs rfl); (case c2 => exact rfl); (case c3 => exact rfl); (case c4 => exact rfl); k_whole; intro C' D' g' L' h' tk' l1 l2 nm' G' FG' F' N' B' X' T'; (try k_lt l1); (try k_lt2 l2); (try dsimp only); (try k_lift B'); (try k_fold))))
local macro_rules | `(tactic| walk_at "call builtin:object.__new__") => `(tactic| (k_here; k_dflt (refine' objnew_N (bv := Value.type "object") ?F ?X ?N ?k ?e1 ?e2 ?e8 ?e9 ?e10 ?e11 ?_; (case F => k_asm); (case X => k_asm); (case N => k_asm); (case k => k_is); (case e1 => exact rfl); (case e2 => exact rfl); (case e8 => k_is); (case e9 => exact fun _ => by kernel_rfl); (case e10 => exact fun _ => by kernel_rfl); (case e11 => exact fun _ => by kernel_rfl); k_whole); intro x' d' h' F' N' l1 l2; (try k_lt l1); (try k_lt2 l2)))
local macro_rules | `(tactic| walk_at "mine room") => `(tactic| (first | assumption | ktr_room | ((try simp only [depth_under_make, depth_under_kw, depth_in1, depth_deeper, depth_caller] at *); (try dsimp only [ktrTop] at *); omega)))
local macro_rules | `(tactic| walk_at "mine units") => `(tactic| (first | assumption | ktr_units))
local macro_rules | `(tactic| walk_at "mine ne") => `(tactic| ((try dsimp only); first | assumption | exact Ne.symm (by assumption) | exact AllNe.at (by assumption) (by k_mem) | exact Ne.symm (AllNe.at (by assumption) (by k_mem)) | omega))
local macro_rules | `(tactic| walk_at "mine all") => `(tactic| (first | exact True.intro | (refine And.intro ?_ ?_; (· walk_at "mine ne"); (· walk_at "mine all"))))
local macro_rules | `(tactic| walk_at "mine del") => `(tactic| first | (refine' Del.head ?da; (case da => walk_at "mine all")) | (refine' Del.tail ?da ?db; (case da => walk_at "mine ne"); (case db => walk_at "mine del")))
local macro_rules | `(tactic| walk_at "mine args") => `(tactic| (walk_at "mine steps"; (try dsimp only); refine cK (by k_is) ?_; walk_at "mine steps"))
local macro_rules | `(tactic| walk_at "mine enterC") => `(tactic| (
  delta wants
  k_dflt (refine' code_defS ?k1 ?k2 ?k3 ?k4 ?k5 ?kA ?kF ?kK ?k6 ?k7 ?k8 ?k9 ?kB ?_ ?c2 ?c3 ?c4 ?c5; (case kA => exact rfl); (case kF => exact rfl); (case kK => assumption); (case k1 => k_asm); (case k2 => k_asm); (case k3 => k_asm); (case k4 => k_asm); (case k5 => k_asm); (case k6 => k_is); (case k7 => k_is); (case k8 => ktr_room); (case k9 => first | exact BindsTo.of_eq rfl | exact binds_K (by k_in) rfl (by k_is) rfl rfl rfl); (case c5 => decide); (case kB => exact locs rfl); (case c2 => exact rfl); (case c3 => exact rfl); (case c4 => exact rfl); k_whole; intro g' L' h' G' FG' F' N' B' X' T'; (try dsimp only); (try k_lift B'); (try k_fold))))
local macro_rules | `(tactic| walk_at "mine enterT") => `(tactic| (
  refine wpAny_call ?_
  k_dflt (refine' code_T0A ?k1 ?k2 ?k3 ?k4 ?k5 ?kA ?kK ?k6 ?k7 ?k8 ?k9 ?kB ?_ ?c2 ?c3 ?c4 ?c5; (case kA => exact rfl); (case kK => assumption); (case k1 => k_asm); (case k2 => k_asm); (case k3 => k_asm); (case k4 => k_asm); (case k5 => k_asm); (case k6 => k_is); (case k7 => k_is); (case k8 => ktr_room); (case k9 => first | exact BindsTo.of_eq rfl | exact binds_K (by k_in) rfl (by k_is) rfl rfl rfl); (case c5 => decide); (case kB => exact locs rfl); (case c2 => exact rfl); (case c3 => exact rfl); (case c4 => exact rfl); k_whole; intro g' L' h' G' FG' F' N' B' X' T' D'; (try dsimp only); (try k_lift B'); (try k_fold))))
local macro_rules | `(tactic| walk_at "mine enterTS") => `(tactic| (
  refine wpS_call ?_
  k_dflt (refine' code_T0S ?k1 ?k2 ?k3 ?k4 ?k5 ?kA ?kK ?k6 ?k7 ?k8 ?k9 ?kB ?_ ?c2 ?c3 ?c4 ?c5; (case kA => exact rfl); (case kK => assumption); (case k1 => k_asm); (case k2 => k_asm); (case k3 => k_asm); (case k4 => k_asm); (case k5 => k_asm); (case k6 => k_is); (case k7 => k_is); (case k8 => ktr_room); (case k9 => first | exact BindsTo.of_eq rfl | exact binds_K (by k_in) rfl (by k_is) rfl rfl rfl); (case c5 => decide); (case kB => exact locs rfl); (case c2 => exact rfl); (case c3 => exact rfl); (case c4 => exact rfl); k_whole; intro g' L' h' G' FG' F' N' B' X' T' D'; (try dsimp only); (try k_lift B'); (try k_fold))))
local macro_rules | `(tactic| walk_at "mine enterCA") => `(tactic| (
  delta wants
  k_dflt (refine' code_defA ?k1 ?k2 ?k3 ?k4 ?k5 ?kA ?kF ?kK ?k6 ?k7 ?k8 ?k9 ?kB ?_ ?c2 ?c3 ?c4 ?c5; (case kA => exact rfl); (case kF => exact rfl); (case kK => assumption); (case k1 => k_asm); (case k2 => k_asm); (case k3 => k_asm); (case k4 => k_asm); (case k5 => k_asm); (case k6 => k_is); (case k7 => k_is); (case k8 => ktr_room); (case k9 => first | exact BindsTo.of_eq rfl | exact binds_K (by k_in) rfl (by k_is) rfl rfl rfl); (case c5 => decide); (case kB => exact locs rfl); (case c2 => exact rfl); (case c3 => exact rfl); (case c4 => exact rfl); k_whole; intro g' L' h' G' FG' F' N' B' X' T'; (try dsimp only); (try k_lift B'); (try k_fold))))
local macro_rules | `(tactic| walk_at "mine num") => `(tactic| (first | omega | ((simp only [List.length_append, List.length_cons, List.length_nil, *]); first | done | omega) | (simp; done) | (simp; omega)))
local macro_rules | `(tactic| walk_at "mine write") => `(tactic| (k_dflt (refine' write_u ?wB ?wF ?wX ?wN ?wT ?wK ?hx ?hdx ?hab ?D1 ?D2 ?D3 ?wd ?wu ?n1 ?n2 ?n3 ?hb ?hP ?hc ?h0 ?hz ?hz2 ?_; (case wB => k_asm); (case wF => k_asm); (case wX => k_asm); (case wN => k_asm); (case wT => k_asm); (case wK => first | exact rfl | assumption); (case hx => k_mem); (case hdx => k_mem); (case hab => k_mem); (case D1 => walk_at "mine del"); (case D2 => walk_at "mine del"); (case D3 => walk_at "mine del"); (case wd => walk_at "mine room"); (case wu => walk_at "mine units"); (case n1 => walk_at "mine ne"); (case n2 => walk_at "mine ne"); (case n3 => walk_at "mine ne"); (case hb => first | assumption | exact (by decide +kernel : KBw.bInts #[] = []) | exact rfl); (case hP => first | assumption | walk_at "mine num"); (case hc => first | assumption | exact (by decide +kernel : KBw.bInts #[(Int.toNat 2).toUInt8] = [2]) | exact (by decide +kernel : KBw.bInts #[(Int.toNat 3).toUInt8] = [3]) | exact (by decide +kernel : KBw.bInts #[7] = [7]) | exact rfl); (case h0 => first | assumption | walk_at "mine num"); (case hz => first | assumption | walk_at "mine num"); (case hz2 => first | assumption | walk_at "mine num"); k_whole)))
local macro_rules | `(tactic| walk_at "mine newIO") => `(tactic| (k_dflt (refine' newIO_u ?wB ?wF ?wX ?wN ?wT ?wK ?wd ?wu ?_; (case wB => k_asm); (case wF => k_asm); (case wX => k_asm); (case wN => k_asm); (case wT => k_asm); (case wK => first | exact rfl | assumption); (case wd => walk_at "mine room"); (case wu => walk_at "mine units"); k_whole)))
local macro_rules | `(tactic| walk_at "mine sw") => `(tactic| (k_dflt (refine' sw_u ?wB ?wF ?wX ?wN ?wT ?wK ?hx ?hdx ?hab ?hsx ?hsd ?D1 ?D2 ?D3 ?D4 ?D5 ?wd ?wu ?n1 ?n2 ?n3 ?m1 ?m2 ?m3 ?m4 ?m5 ?m6 ?m7 ?hb ?hP ?hc ?h0 ?hz ?_; (case wB => k_asm); (case wF => k_asm); (case wX => k_asm); (case wN => k_asm); (case wT => k_asm); (case wK => first | exact rfl | assumption); (case hx => k_mem); (case hdx => k_mem); (case hab => k_mem); (case hsx => k_mem); (case hsd => k_mem); (case D1 => walk_at "mine del"); (case D2 => walk_at "mine del"); (case D3 => walk_at "mine del"); (case D4 => walk_at "mine del"); (case D5 => walk_at "mine del"); (case wd => walk_at "mine room"); (case wu => walk_at "mine units"); (case n1 => walk_at "mine ne"); (case n2 => walk_at "mine ne"); (case n3 => walk_at "mine ne"); (case m1 => walk_at "mine ne"); (case m2 => walk_at "mine ne"); (case m3 => walk_at "mine ne"); (case m4 => walk_at "mine ne"); (case m5 => walk_at "mine ne"); (case m6 => walk_at "mine ne"); (case m7 => walk_at "mine ne"); (case hb => first | assumption | exact (by decide +kernel : KBw.bInts #[] = []) | exact rfl); (case hP => first | assumption | walk_at "mine num"); (case hc => first | assumption | exact rfl); (case h0 => first | assumption | walk_at "mine num"); (case hz => first | assumption | walk_at "mine num"); k_whole)))
local macro_rules | `(tactic| walk_at "mine getv") => `(tactic| (k_dflt (refine' getv_u ?wB ?wF ?wX ?wN ?wT ?wK ?hx ?hdx ?hab ?D1 ?D2 ?D3 ?wd ?wu ?hb ?hz ?_; (case wB => k_asm); (case wF => k_asm); (case wX => k_asm); (case wN => k_asm); (case wT => k_asm); (case wK => first | exact rfl | assumption); (case hx => k_mem); (case hdx => k_mem); (case hab => k_mem); (case D1 => walk_at "mine del"); (case D2 => walk_at "mine del"); (case D3 => walk_at "mine del"); (case wd => walk_at "mine room"); (case wu => walk_at "mine units"); (case hb => first | assumption | exact (by decide +kernel : KBw.bInts #[] = []) | exact rfl); (case hz => first | assumption | walk_at "mine num"); k_whole)))
local macro_rules | `(tactic| walk_at "call ref") => `(tactic| ((with_reducible show wpAny _ _ (call (Value.ref 226) _) _ _ _); walk_at "mine getv"; intro hgv tgv kgv Fgv Ngv; (try dsimp only)))
local macro_rules | `(tactic| walk_at "mine due") => `(tactic| (k_dflt (refine' due_u ?wB ?wF ?wX ?wN ?wT ?wK ?wd ?wu ?rv ?rb; (case wB => k_asm); (case wF => k_asm); (case wX => k_asm); (case wN => k_asm); (case wT => k_asm); (case wK => first | exact rfl | assumption); (case wd => walk_at "mine room"); (case wu => walk_at "mine units"); k_whole)))
local macro_rules | `(tactic| walk_at "call ref") => `(tactic| ((with_reducible show wpAny _ _ (call (Value.ref 926) _) _ _ _); walk_at "mine due"; ((intro lo1 any1 tp1 tt1 hdu1 tkdu1 kv1 Fdu1 Ndu1 ane1); (rotate_left); (intro hdu2 tkdu2 kb2 Fdu2 Ndu2); rotate_left)))
local macro_rules | `(tactic| walk_at "mine chk") => `(tactic| (k_dflt (refine' chk_u ?wB ?wF ?wX ?wN ?wT ?wK ?wd ?wu ?kv ?rv; (case wB => k_asm); (case wF => k_asm); (case wX => k_asm); (case wN => k_asm); (case wT => k_asm); (case wK => first | exact rfl | assumption); (case wd => walk_at "mine room"); (case wu => walk_at "mine units"); (case kv => first | assumption | exact (⟨by decide, by decide, by decide⟩ : KV 131 3 true) | exact (⟨by decide, by decide, by decide⟩ : KV 2 2 false)); k_whole)))
local macro_rules | `(tactic| walk_at "call ref") => `(tactic| ((with_reducible show wpAny _ _ (call (Value.ref _) [Value.int _ _]) _ _ _); refine wpAny_call ?_; k_dflt (refine' method_call (f := Value.ref 848) (self := Value.ref 854) ?hq ?_; (case hq => (refine' nget ?hqN ?hqm; (case hqN => k_asm); (case hqm => k_mem))); k_whole); refine codeAny_mono (R := wants _ _) ?_ (fun _ _ z => z); walk_at "mine chk"; (intro tp1 tt1 hck1 tkck1 Fck1 Nck1 ane1; (try dsimp only))))
local macro_rules | `(tactic| walk_at "mine ser") => `(tactic| (k_dflt (refine' ser_u ?wB ?wF ?wX ?wN ?wT ?wK ?hsx ?hsd ?D1 ?D2 ?wd ?wu ?m7 ?hc ?h0 ?_; (case wB => k_asm); (case wF => k_asm); (case wX => k_asm); (case wN => k_asm); (case wT => k_asm); (case wK => first | exact rfl | assumption); (case hsx => k_mem); (case hsd => k_mem); (case D1 => walk_at "mine del"); (case D2 => walk_at "mine del"); (case wd => walk_at "mine room"); (case wu => walk_at "mine units"); (case m7 => walk_at "mine ne"); (case hc => first | assumption | exact rfl); (case h0 => first | assumption | walk_at "mine num"); k_whole)))
local macro_rules | `(tactic| walk_at "mine wr") => `(tactic| (k_dflt (refine' wr_u ?wB ?wF ?wX ?wN ?hm1 ?hm2 ?hm3 ?hm4 ?hm5 ?hm6 ?hm7 ?D1 ?D2 ?D3 ?D4 ?D5 ?D6 ?D7 ?wT ?wK ?wd ?wu ?n1 ?n2 ?n3 ?m1 ?m2 ?m3 ?m4 ?m5 ?m6 ?m7 ?o1 ?o2 ?o3 ?o4 ?o5 ?o6 ?o7 ?o8 ?o9 ?o10 ?o11 ?hb ?hP ?hc ?h0 ?hz ?hnm ?hrs ?hrl ?kv ?p0 ?p1 ?u0 ?u1 ?hv0 ?_; (case wB => k_asm); (case wF => k_asm); (case wX => k_asm); (case wN => k_asm); (case hm1 => k_mem); (case hm2 => k_mem); (case hm3 => k_mem); (case hm4 => k_mem); (case hm5 => k_mem); (case hm6 => k_mem); (case hm7 => k_mem); (case D1 => walk_at "mine del"); (case D2 => walk_at "mine del"); (case D3 => walk_at "mine del"); (case D4 => walk_at "mine del"); (case D5 => walk_at "mine del"); (case D6 => walk_at "mine del"); (case D7 => walk_at "mine del"); (case wT => k_asm); (case wK => first | exact rfl | assumption); (case wd => walk_at "mine room"); (case wu => walk_at "mine units"); (case n1 => walk_at "mine ne"); (case n2 => walk_at "mine ne"); (case n3 => walk_at "mine ne"); (case m1 => walk_at "mine ne"); (case m2 => walk_at "mine ne"); (case m3 => walk_at "mine ne"); (case m4 => walk_at "mine ne"); (case m5 => walk_at "mine ne"); (case m6 => walk_at "mine ne"); (case m7 => walk_at "mine ne"); (case o1 => walk_at "mine ne"); (case o2 => walk_at "mine ne"); (case o3 => walk_at "mine ne"); (case o4 => walk_at "mine ne"); (case o5 => walk_at "mine ne"); (case o6 => walk_at "mine ne"); (case o7 => walk_at "mine ne"); (case o8 => walk_at "mine ne"); (case o9 => walk_at "mine ne"); (case o10 => walk_at "mine ne"); (case o11 => walk_at "mine ne"); (case hb => first | assumption | exact (by decide +kernel : KBw.bInts #[] = []) | exact rfl); (case hP => first | assumption | walk_at "mine num"); (case hc => first | assumption | exact rfl); (case h0 => first | assumption | walk_at "mine num"); (case hz => first | assumption | walk_at "mine num"); (case hnm => first | assumption | exact rfl); (case hrs => assumption); (case hrl => assumption); (case kv => assumption); (case p0 => assumption); (case p1 => assumption); (case u0 => assumption); (case u1 => assumption); (case hv0 => assumption); k_whole)))
local macro_rules | `(tactic| walk_at "mine le") => `(tactic| (k_dflt (refine' le_u ?wB ?wF ?wX ?wN ?wT ?wK ?wd ?wu ?h0 ?h1 ?rv; (case wB => k_asm); (case wF => k_asm); (case wX => k_asm); (case wN => k_asm); (case wT => k_asm); (case wK => first | exact rfl | assumption); (case wd => walk_at "mine room"); (case wu => walk_at "mine units"); (case h0 => first | assumption | omega); (case h1 => first | assumption | omega); k_whole)))
local macro_rules | `(tactic| walk_at "call ref") => `(tactic| ((with_reducible show wpAny _ _ (call (Value.ref 940) _) _ _ _); walk_at "mine le"; (intro b1 hle1 tb1 tkle1 ele1 Fle1 Nle1; (try dsimp only))))
local macro_rules | `(tactic| walk_at "mine srt") => `(tactic| (k_dflt (refine' sert_u ?wB ?wF ?wX ?wN ?hm1 ?hm2 ?hm3 ?hm4 ?D1 ?D2 ?D3 ?D4 ?wT ?wK ?wd ?wu ?m7 ?o4 ?o5 ?o9 ?o10 ?o11 ?hc ?h0 ?hnm ?hrs ?hrl ?kv ?p0 ?p1 ?u0 ?u1 ?hv0 ?_; (case wB => k_asm); (case wF => k_asm); (case wX => k_asm); (case wN => k_asm); (case hm1 => k_mem); (case hm2 => k_mem); (case hm3 => k_mem); (case hm4 => k_mem); (case D1 => walk_at "mine del"); (case D2 => walk_at "mine del"); (case D3 => walk_at "mine del"); (case D4 => walk_at "mine del"); (case wT => k_asm); (case wK => first | exact rfl | assumption); (case wd => walk_at "mine room"); (case wu => walk_at "mine units"); (case m7 => walk_at "mine ne"); (case o4 => walk_at "mine ne"); (case o5 => walk_at "mine ne"); (case o9 => walk_at "mine ne"); (case o10 => walk_at "mine ne"); (case o11 => walk_at "mine ne"); (case hc => first | assumption | exact rfl); (case h0 => first | assumption | walk_at "mine num"); (case hnm => first | assumption | exact rfl); (case hrs => assumption); (case hrl => assumption); (case kv => assumption); (case p0 => assumption); (case p1 => assumption); (case u0 => assumption); (case u1 => assumption); (case hv0 => assumption); k_whole)))
local macro_rules | `(tactic| walk_at "binaryOp Add ref ref") => `(tactic| (k_here; (with_reducible show wpAny _ _ (binaryOp _ (Value.ref 912) (Value.ref _)) _ _ _); k_dflt (refine' kmk_add_lit ?F ?N ?a ?b ?e ?_ ?z; (case F => k_asm); (case N => k_asm); (case a => exact kun_topL (by k_asm) (by k_asm) (by k_is)); (case b => exact News.isList (by k_asm) (by k_mem)); (case e => kl_lit); (case z => kl_room)); intro D' h' F' N' l1; (try k_lt l1); (try dsimp only)))
theorem asked_u {w : World} {dp un : Nat} {cn : Str} {cs : Scope} {a : Addr} {ccd : Value} {A₀ : Around} {base h₀ : Heap} {L : Addr} {m mg mb : Str → Option Value} {p : Program} {loose : List Str} {mean : ExcName → Option Value} {s : Shared} {Q E : Value → Shared → Prop}
    {n : Int} {t : Tok} {news : List (Addr × Obj)}
    (B : Below A₀ base [] h₀) (F : Fr h₀ L s.heap m) (X : (MineH.hd.heap_39 w.params).In h₀)
    (N : News h₀ L s.heap news)
    (T : Top p loose mean mg mb h₀) (XB : (MineH.hd.heap_39 w.params).In base) (TB : Top p loose mean mg mb base) (hk : cs.kind = .function) (hd : dp + 20 < recursionLimit) (hu : un + 200 < cLine)
    (ret : ∀ h' tk', Fr h₀ L h' m → News h₀ L h' news → Q (.bool true) { s with heap := h', toks := tk' }) :
    wpAny (model PySem.Challenge.rw_gb5006_01.row.prog w) (ktrTop dp un (some []) cn cs L a ccd [] []) (call (.ref 933) [.int n t]) Q E s :=
  asked_c B F (fun _ h => nomatch h) T XB TB hk hd hu (fun h' tk' F' keep => ret h' tk' F' (fun q hq => ⟨keep _ _ (N q hq).1 (N q hq).2.1, (N q hq).2⟩)) X
local macro_rules | `(tactic| walk_at "mine asked") => `(tactic| (k_dflt (refine' asked_u ?wB ?wF ?wX ?wN ?wT ?wXB ?wTB ?wK ?wd ?wu ?_; (case wB => k_asm); (case wF => k_asm); (case wX => k_asm); (case wN => k_asm); (case wT => k_asm); (case wXB => k_asm); (case wTB => k_asm); (case wK => first | exact rfl | assumption); (case wd => walk_at "mine room"); (case wu => walk_at "mine units"); k_whole)))
local macro_rules | `(tactic| walk_at "call ref") => `(tactic| ((with_reducible show wpAny _ _ (call (Value.ref 933) _) _ _ _); walk_at "mine asked"; (intro has1 tas1 Fas1 Nas1; (try dsimp only))))
local macro_rules | `(tactic| walk_at "mine inp") => `(tactic| (k_dflt (refine' inp_u ?wB ?wF ?wX ?wN ?hm3 ?hm4 ?hm1 ?hm2 ?wT ?wXB ?wTB ?wK ?wd ?wu ?h0 ?hnm ?hrs ?p0 ?p1 ?u0 ?u1 ?hv0 ?hv1 ?_; (case wB => k_asm); (case wF => k_asm); (case wX => k_asm); (case wN => k_asm); (case hm3 => k_mem); (case hm4 => k_mem); (case hm1 => k_mem); (case hm2 => k_mem); (case wT => k_asm); (case wXB => k_asm); (case wTB => k_asm); (case wK => first | exact rfl | assumption); (case wd => walk_at "mine room"); (case wu => walk_at "mine units"); (case h0 => assumption); (case hnm => assumption); (case hrs => assumption); (case p0 => assumption); (case p1 => assumption); (case u0 => assumption); (case u1 => assumption); (case hv0 => assumption); (case hv1 => assumption); k_whole)))
local macro_rules | `(tactic| walk_at "subscriptTail") => `(tactic| (k_here; (with_reducible show wpAny _ _ (subscriptTail _ _ (Value.ref 912) (Value.int _ _)) _ _ _); k_dflt (refine' edge_item ?hl ?h0 ?hsz ?hv ?_ ?hs; (case hl => exact kun_topL (by k_asm) (by k_asm) (by k_is)); (case h0 => assumption); (case hsz => exact rfl); (case hv => exact rfl); (case hs => with_unfolding_all rfl); k_whole); intro n17 t17))
def fin.tw6594955695216968384 : Unit := ()
def fin.tw5505903524452580256 : Unit := ()
def fin.tw13219588839510180353 : Unit := ()
def fin.tw13785817307688372834 : Unit := ()
def fin.tw10655156968454692611 : Unit := ()
def fin.tw16358873916129466532 : Unit := ()
def fin.tw5544470757436308932 : Unit := ()
def fin.tw7419761802999336265 : Unit := ()
def fin.tw5656021021422055082 : Unit := ()
def fin.tw3022537308484650794 : Unit := ()
def fin.tw270570290674677259 : Unit := ()
def fin.tw11423823072762794764 : Unit := ()
def fin.tw11399378766710009421 : Unit := ()
def fin.tw11754155102388574702 : Unit := ()
def fin.tw8305622415454818096 : Unit := ()
def fin.tw1346818835817368081 : Unit := ()
def fin.tw9034188555519528914 : Unit := ()
def fin.tw13935171670693753299 : Unit := ()
def fin.tw4316882665596766452 : Unit := ()
def fin.tw18144652998105536502 : Unit := ()
def fin.tw11378924849314692857 : Unit := ()
def fin.tw2309006381402919003 : Unit := ()
def fin.tw3535841769273162331 : Unit := ()
def fin.tw9240895126706692540 : Unit := ()
def fin.tw1755533365258673374 : Unit := ()
def fin.tw16787025550093426174 : Unit := ()
def fin.tw10691017753005534142 : Unit := ()
def fin.tw10029026108516759455 : Unit := ()
set_option Elab.async true in
theorem fin : PySem.Challenge.rw_gb5006_01.Holds := by
  (w_on; o_law; k_head; (case hw => w_witness2))
  k_fill
  intro w s₀ s₁ mg mb G Y fa o pm cd doc dV kV ho hd hcd hD hmg hg args vals as hpre hlay hrd hwl hlo
  have KX : (MineH.hd.heap_39 w.params).In s₁.heap := kIn_of Y
  have X := (Ground.X G).1
  have V := (Ground.X G).2
  try w_nolog (first | (have GL := glob_more (Ground.glob G (by first | k_qdec | decide +kernel) (by first | k_qdec | decide +kernel)) V) | (have GL := glob_more (Ground.glob G (by decide +kernel)) V))
  refine Ground.open G ?_
  intro T B D TE TW
  try (refine guard_noD D (by decide +kernel) ?_; clear D)
  obtain ⟨_, _, M⟩ := bmod_of_top T
  have TA := at_of_top T
  try (obtain ⟨_, _, he, B0⟩ := based_of_top T rfl hmg ho hd; have he' : cd = _ := he; subst he'; clear he)
  clear hmg
  wrow_args hpre hlay hrd hwl hlo
  refine enter_callS ?_
  w_top on
  have K0 := below_caller (Top.heap T)
  have he := Dflts.none hD rfl
  subst he
  refine call_fullS (by decide) ho hd (Top.nolimit T) hcd (BindsTo.of_eq rfl) (locs rfl) fun h₁ F => ?_
  w_binds F
  have N0 := (News.nil : News _ _ _ []).at F
  clear hd TA
  k_drop
  (try k_fold)
  show wpS _ (ktrTop 302 7 (some []) _ _ _ _ _ [] []) _ _ _ _
  dsimp only
  (rename Fr _ _ _ _ => FF)
  (rename News _ _ _ _ => nE)
  refine seqN FF nE ?_ ?_
  · walk_at "mine steps"
    all_goals (try k_data)
    all_goals (rename News _ _ _ _ => nF)
    all_goals exact ⟨rfl, by assumption, cb_drop nF (by kcj_all), rfl⟩
  intro h1' tk1 F1 N1
  (try dsimp only)
  refine seqV (α := Int × Tok) (Str.ofString "first") (fun a => .int a.1 a.2) (fun _ => []) (fun _ => True) F1 ?_ ?_
  · walk_at "mine steps"
    all_goals (try k_data)
    all_goals (rename News _ _ _ _ => nF)
    all_goals exact ⟨rfl, (_, _), trivial, by assumption, cb_drop nF (by kcj_all), rfl⟩
  rintro h2' ⟨first, tfi⟩ tk2 _ F2 N2
  dsimp only at F2 N2
  (try dsimp only)
  refine seqVS (α := Int × Tok) (Str.ofString "number") (fun a => .int a.1 a.2) (fun _ => []) (fun _ => True) F2 ?_ ?_
  · skip
    refine forStop ?_
    walk_at "mine steps"
    all_goals (try k_data)
    (rename Fr _ _ _ _ => FF)
    (rename News _ _ _ _ => nE)
    refine Stop.mk (forL (x := Str.ofString "number") rfl (by rfl) (by rfl) FF nE (by k_mem) (by simp) ?_ ?_)
    · intro I i v h tk oI lI hv F1 N1
      obtain ⟨n, tn, rfl⟩ : ∃ n t, v = .int n t := by
        have hm := List.mem_of_getElem? hv
        simp only [List.mem_cons, List.not_mem_nil, or_false] at hm
        rcases hm with rfl | rfl | rfl | rfl | rfl | rfl | rfl | rfl | rfl | rfl | rfl | rfl | rfl | rfl | rfl | rfl | rfl | rfl | rfl | rfl <;> exact ⟨_, _, rfl⟩
      clear hv
      (try dsimp only)
      refine execsS_leaf ?_
      walk_at "mine steps"
      all_goals (try k_data)
      all_goals (try dsimp only)
      refine execsS_nil ?_
      exact ⟨rfl, _, _, rfl, by assumption, by assumption⟩
    · intro h3' tk3 v hv F3 N3
      obtain ⟨n3, tn3, rfl⟩ : ∃ n t, v = .int n t := by
        have hm := List.mem_of_getLast? hv
        simp only [List.mem_cons, List.not_mem_nil, or_false] at hm
        rcases hm with rfl | rfl | rfl | rfl | rfl | rfl | rfl | rfl | rfl | rfl | rfl | rfl | rfl | rfl | rfl | rfl | rfl | rfl | rfl | rfl <;> exact ⟨_, _, rfl⟩
      exact ⟨rfl, (_, _), trivial, F3, (fun _ h => nomatch h), rfl⟩
  rintro h3' ⟨n3, tn3⟩ tk3 _ F3 N3
  dsimp only at F3 N3
  (try dsimp only)
  refine seqVV (α := (Int × Tok) × (Int × Tok)) (Str.ofString "turn") (Str.ofString "place") (fun a => .int a.2.1 a.2.2) (fun a => .int a.1.1 a.1.2) (fun _ => []) (fun a => (0 ≤ a.1.1 ∧ a.1.1 < 4294967296) ∧ (0 ≤ a.2.1 ∧ a.2.1 < 4294967296)) F3 ?_ ?_
  · walk_at "mine steps"
    all_goals (try k_data)
    all_goals (try exact (fm_out (by assumption) (by assumption)).elim)
    all_goals (rename News _ _ _ _ => nF)
    all_goals (rename Fr _ _ _ _ => fF)
    all_goals refine ⟨rfl, ((_, _), (_, _)), ?_, fF, cb_drop nF (by kcj_all), rfl⟩
    all_goals exact ⟨fm_b _, fm_b _⟩
  rintro h4' ⟨⟨place, tpl⟩, ⟨turn, ttu⟩⟩ tk4 ⟨⟨p0, p1⟩, u0, u1⟩ F4 N4
  dsimp only at F4 N4 p0 p1 u0 u1
  (try dsimp only)
  clear F3 N3 F2 N2
  have f3 := fm_n first (n := 3) (by decide)
  have f251 := fm_n first (n := 251) (by decide)
  have f17 := fm_n first (n := 17) (by decide)
  refine seqV (α := Array UInt8 × Tok) (Str.ofString "own") (fun a => .bytes a.1 a.2) (fun _ => []) (fun a => KBw.bInts a.1 = [81 + first.fmod 3, 7]) F4 ?_ ?_
  · walk_at "mine steps"
    all_goals (try k_data)
    all_goals (rename News _ _ _ _ => nF)
    all_goals (rename Fr _ _ _ _ => fF)
    refine ⟨rfl, (_, _), ?_, fF, cb_drop nF (by kcj_all), rfl⟩
    exact bi2 (by assumption) (by assumption)
  rintro h5' ⟨own, tow⟩ tk5 eow F5 N5
  dsimp only at F5 N5 eow
  (try dsimp only)
  clear F4 N4
  refine seqV (α := Value) (Str.ofString "witness") (fun a => a) (fun _ => []) (fun a => a = .none ∨ ∃ b, a = .ref b) F5 ?_ ?_
  · walk_at "mine steps"
    all_goals (try k_data)
    all_goals (rename News _ _ _ _ => nF)
    all_goals (rename Fr _ _ _ _ => fF)
    all_goals refine ⟨rfl, _, ?_, fF, cb_drop nF (by kcj_all), rfl⟩
    all_goals first | exact .inl rfl | exact .inr ⟨_, rfl⟩
  rintro h6' wit tk6 hwit F6 N6
  (try dsimp only at F6 N6)
  (try dsimp only)
  clear F5 N5
  refine seqV (α := One) (Str.ofString "one") (fun a => .ref a.o) (fun a => a.news place turn) (fun a => a.sv = .ref a.zx ∧ KBw.bInts a.dat = [81 + first.fmod 3, 7] ∧ a.nm.size = 32 ∧ KBw.bInts (rvAt a.nm 0) = [115, 121, 97, 112, 32, 101, 110, 111, 32, 116, 115, 114, 105, 102, 32, 101, 104, 116, 32, 116, 97, 104, 116, 32, 110, 105, 111, 99, 32, 101, 104, 116]) F6 ?_ ?_
  · rcases hwit with rfl | ⟨wb, rfl⟩
    all_goals walk_at "mine steps"
    all_goals (try k_data)
    all_goals (rename News _ _ _ _ => nF)
    all_goals (rename Fr _ _ _ _ => fF)
    all_goals refine ⟨rfl, ⟨_, _, _, _, _, _, _, _, _, _, _, _, _, _, _, _, _, _, _, _, _, _, .none, _, _⟩, ?_, fF, one_news nF (by k_mem) (by k_mem) (by k_mem) (by k_mem), rfl⟩
    all_goals dsimp only
    all_goals exact ⟨rfl, eow, by decide +kernel, by decide +kernel⟩
  rintro h7' ⟨o, od, zx, zd, h3, k1, k2, k3, k4, k5, t4, td, v1, v2, v3, v4, v5, w1, w2, w4, sv, wv, hv, dat, nm⟩ tk7 ⟨e1, e2, e3, e4⟩ F7 N7
  (try dsimp only at F7 e1 e2 e3 e4)
  dsimp only [One.news] at N7
  (try dsimp only)
  subst e1
  clear F6 N6 hwit
  refine seqV (α := One) (Str.ofString "handed") (fun a => a.hv) (fun a => a.news place turn) (fun a => a.o = o ∧ (a.hv = .none ∧ a.sv = .ref a.zx ∨ a.hv = .ref a.zx) ∧ (a.hv = .none → KBw.bInts own = KBw.bInts a.dat) ∧ ((KBw.bInts a.dat).length = 2 ∨ (KBw.bInts a.dat).length = 3) ∧ a.nm.size = 32 ∧ KBw.bInts (rvAt a.nm 0) = [115, 121, 97, 112, 32, 101, 110, 111, 32, 116, 115, 114, 105, 102, 32, 101, 104, 116, 32, 116, 97, 104, 116, 32, 110, 105, 111, 99, 32, 101, 104, 116]) F7 ?_ ?_
  · walk_at "mine steps"
    all_goals (try k_data)
    all_goals (rename News _ _ _ _ => nF)
    all_goals (rename Fr _ _ _ _ => fF)
    all_goals refine ⟨rfl, ⟨_, _, _, _, _, _, _, _, _, _, _, _, _, _, _, _, _, _, _, _, _, _, _, _, _⟩, ?_, fF, one_news nF (by k_mem) (by k_mem) (by k_mem) (by k_mem), rfl⟩
    all_goals dsimp only
    all_goals first
      | exact ⟨rfl, .inl ⟨rfl, rfl⟩, fun _ => eow.trans e2.symm, .inl (by rw [e2]; rfl), e3, e4⟩
      | exact ⟨rfl, .inr rfl, (fun z => by cases z), .inr rfl, e3, e4⟩
  rintro h8' ⟨o', od', zx', zd', h3', k1', k2', k3', k4', k5', t4', td', v1', v2', v3', v4', v5', w1', w2', w4', sv', wv', hv', dat', nm'⟩ tk8 ⟨z0, z1, z2, z3, z4, z5⟩ F8 N8
  (try dsimp only at F8 z0 z1 z2 z3 z4 z5)
  subst z0
  have ne8 := One.ne N8
  dsimp only [One.news] at N8
  (try dsimp only at ne8)
  (try dsimp only)
  clear F7 N7
  refine seqVS (α := Int × Tok) (Str.ofString "number") (fun a => .int a.1 a.2) (fun _ => []) (fun _ => True) F8 ?_ ?_
  · refine forStop ?_
    walk_at "mine steps"
    all_goals (try k_data)
    (rename Fr _ _ _ _ => FF)
    (rename News _ _ _ _ => nE)
    refine Stop.mk (forL (x := Str.ofString "number") rfl (by rfl) (by rfl) FF nE (by k_mem) (by simp) ?_ ?_)
    · intro I i v h tk oI lI hv F1 N1
      obtain ⟨n, tn, rfl⟩ : ∃ n t, v = .int n t := by
        have hm := List.mem_of_getElem? hv
        simp only [List.mem_cons, List.not_mem_nil, or_false] at hm
        rcases hm with rfl | rfl | rfl | rfl | rfl | rfl <;> exact ⟨_, _, rfl⟩
      clear hv
      (try clear FF); (try clear nE); (try clear F8); (try clear N8)
      (try dsimp only)
      refine execsS_cons (ifNotS (callNameS ?_))
      walk_at "mine args"
      walk_at "mine inp"
      intro h10' tk10 F10 N10
      (try dsimp only)
      walk_at "mine steps"
      all_goals (try k_data)
      all_goals (try dsimp only)
      refine execsS_nil ?_
      (try dsimp only)
      refine execsS_nil ?_
      exact ⟨rfl, _, _, rfl, by assumption, by assumption⟩
    · intro h10' tk10 v hv F10 N10
      obtain ⟨n3, tn3, rfl⟩ : ∃ n t, v = .int n t := by
        have hm := List.mem_of_getLast? hv
        simp only [List.mem_cons, List.not_mem_nil, or_false] at hm
        rcases hm with rfl | rfl | rfl | rfl | rfl | rfl <;> exact ⟨_, _, rfl⟩
      exact ⟨rfl, (_, _), trivial, F10, (fun _ h => nomatch h), rfl⟩
  rintro h9' ⟨n9, tn9⟩ tk9 _ F9 N9
  (try dsimp only at F9 N9)
  (try dsimp only)
  refine execsS_leaf ?_
  walk_at "mine steps"
  all_goals (try k_data)
  (try dsimp only)
  refine GoodW.toG ?_
  refine goodW_bool (by assumption) hg (raisesW_false ?_) ?_
  · wrow_none_raised
  · first | kc_post | wrow_post
end
end MineH

theorem PySem.Challenge.cw_gb5006_01_holds : PySem.Challenge.rw_gb5006_01.Holds := by
  exact MineH.fin
