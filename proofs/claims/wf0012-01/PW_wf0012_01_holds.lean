import PyProof.Rows.All
import Wide.All
import OpenK.AllK
import Wide.FinOn
import PySem.Challenge.RW_wf0012_01
set_option Elab.async false
set_option compiler.extract_closed false

section
open PySem PySem.W PyProof.Rows
set_option Elab.async false
namespace Mine
set_option maxRecDepth 100000 in
set_option maxHeartbeats 8000000 in
open_top hd for PySem.Challenge.rw_wf0012_01
end Mine
end

theorem Mine.gapKL : True → True := by
  w_top off
  first | (walk1; exact True.intro) | exact id

section
open PySem PySem.W PySem.Calls PyProof.Rows
set_option Elab.async false
namespace Mine

/-- a code that no question of a bytearray's holders takes for one -/
def okCode : Code → Bool
  | .builtin id _ => !(Builtin.Bytes.decodersThatHold.contains id) && !(["bytearray.__contains__", "bytearray.__mod__", "bytearray.__rmod__", "_struct.pack_into.held", "bytearray.find.held"].contains id)
  | _ => true
def OkSt (l : List (Code × Pos)) : Prop := ∀ x ∈ l, okCode x.1 = true
theorem OkSt.cons {c : Code} {p : Pos} {l : List (Code × Pos)} (hc : okCode c = true) (h : OkSt l) : OkSt ((c, p) :: l) := by
  intro x hx
  rcases List.mem_cons.mp hx with rfl | hx
  · exact hc
  · exact h x hx

/-- as wpAny, in the contexts whose stack bears no holder -/
def wpK {α : Type} (M : Model) (A : Around) (t : Sem α) (Q : α → Shared → Prop) (E : Value → Shared → Prop) (s : Shared) : Prop :=
  ∀ Γ p, Γ.In A → okCode Γ.code = true → OkSt Γ.below → Sem.wp M Γ t (fun a _ s' => Q a s') (fun e _ s' => E e s') p s
def codeK (M : Model) (A : Around) (c : Code) (R : Result → Shared → Prop) (s : Shared) : Prop :=
  ∀ Γ p, Γ.code = c → Γ.Below A → OkSt Γ.below → wpCode M Γ R p s

section
variable {α β : Type} {M : Model} {A : Around} {E : Value → Shared → Prop} {s : Shared}
theorem wpK_of {t : Sem α} {Q : α → Shared → Prop} (h : wpAny M A t Q E s) : wpK M A t Q E s := fun Γ p hΓ _ _ => h Γ p hΓ
theorem codeK_of {c : Code} {R : Result → Shared → Prop} (h : codeAny M A c R s) : codeK M A c R s := fun Γ p hc hΓ _ => h Γ p hc hΓ
theorem wpK_mono {t : Sem α} {Q Q' : α → Shared → Prop} {E' : Value → Shared → Prop} (h : wpK M A t Q E s) (hQ : ∀ a s, Q a s → Q' a s) (hE : ∀ e s, E e s → E' e s) : wpK M A t Q' E' s :=
  fun Γ p hΓ h1 h2 => Sem.wp_mono M Γ t (fun a _ s => hQ a s) (fun e _ s => hE e s) p s (h Γ p hΓ h1 h2)
theorem codeK_mono {c : Code} {R R' : Result → Shared → Prop} (h : codeK M A c R s) (hR : ∀ r s, R r s → R' r s) : codeK M A c R' s :=
  fun Γ p hc hΓ h2 => wpCode_mono hR (h Γ p hc hΓ h2)
theorem wpK_pure {a : α} {Q : α → Shared → Prop} (h : Q a s) : wpK M A (pure a) Q E s := fun _ _ _ _ _ => h
theorem wpK_bind {m : Sem α} {f : α → Sem β} {Q : β → Shared → Prop} (h : wpK M A m (fun a s' => wpK M A (f a) Q E s') E s) : wpK M A (m >>= f) Q E s := fun Γ p hΓ h1 h2 => by
  rw [Sem.wp_bind']
  exact Sem.wp_mono M Γ m (fun a p' s' h' => h' Γ p' hΓ h1 h2) (fun _ _ _ h' => h') p s (h Γ p hΓ h1 h2)
/-- a leaf ahead of the spine -/
theorem wpK_leaf {m : Sem α} {f : α → Sem β} {Q : β → Shared → Prop} (h : wpAny M A m (fun a s' => wpK M A (f a) Q E s') E s) : wpK M A (m >>= f) Q E s := wpK_bind (wpK_of h)
theorem wpK_holding {vs : List Value} {m : Sem α} {Q : α → Shared → Prop} (h : wpK M A m Q E s) : wpK M A (holding vs m) Q E s :=
  fun Γ p hΓ h1 h2 => by rw [Sem.wp_holding]; exact h Γ p hΓ h1 h2
theorem wpK_keep {vs : List Value} {m : Sem α} {Q : α → Shared → Prop} (h : wpK M A m Q E s) : wpK M A (m.keep vs) Q E s :=
  fun Γ p hΓ h1 h2 => by rw [Sem.wp_keep]; exact h Γ p hΓ h1 h2
theorem wpK_operate {vs : List Value} {m : Sem Value} {Q : Value → Shared → Prop} (h : wpK M A m Q E s) : wpK M A (operate vs m) Q E s :=
  fun Γ p hΓ h1 h2 => by rw [Sem.wp_operate]; exact h Γ p hΓ h1 h2
theorem wpK_standAt {pos : Pos} {Q : Unit → Shared → Prop} (h : Q () s) : wpK M A (standAt pos) Q E s := fun _ _ _ _ _ => h
theorem wpK_point {Q : Unit → Shared → Prop} (h : Q () s) : wpK M A point Q E s := fun _ _ _ _ _ => h
theorem wpK_rule {tag : String} {Q : Unit → Shared → Prop} (h : Q () s) : wpK M A (rule tag) Q E s := fun _ _ _ _ _ => h
theorem wpK_of_eq {t : Sem α} {a : α} {Q : α → Shared → Prop} (ht : t = pure a) (h : Q a s) : wpK M A t Q E s := by subst ht; exact wpK_pure h
theorem wpK_onRaise {m : Sem α} {k : Value → Sem Unit} {Q : α → Shared → Prop} (h : wpK M A m Q (fun e s' => wpAny M A (k e) (fun _ s'' => E e s'') E s') s) : wpK M A (m.onRaise k) Q E s := fun Γ p hΓ h1 h2 => by
  rw [Sem.wp_onRaise]
  exact Sem.wp_mono M Γ m (fun _ _ _ h' => h') (fun e p' s' h' => h' Γ p' hΓ) p s (h Γ p hΓ h1 h2)
theorem wpK_attempt {m : Sem α} {Q : Except Value α → Shared → Prop} (h : wpK M A m (fun a => Q (.ok a)) (fun e => Q (.error e)) s) : wpK M A m.attempt Q E s :=
  fun Γ p hΓ h1 h2 => by rw [Sem.wp_attempt]; exact h Γ p hΓ h1 h2
theorem wpK_false {c : Bool} {a b : Sem α} {Q : α → Shared → Prop} (hc : c = false) (h : wpK M A b Q E s) : wpK M A (if c = true then a else b) Q E s := by
  subst hc; exact h
theorem wpK_true {c : Bool} {a b : Sem α} {Q : α → Shared → Prop} (hc : c = true) (h : wpK M A a Q E s) : wpK M A (if c = true then a else b) Q E s := by
  subst hc; exact h

theorem wpK_call {f : Value} {pos : List Value} {kw : List (Str × Value)} {Q : Value → Shared → Prop}
    (hc : codeK M A (.call f ⟨pos, kw⟩) (fun r s' => match r with | .ok (.ret v) => Q v s' | .ok _ => False | .error e => E e s') s) : wpK M A (call f pos kw) Q E s := fun Γ p hΓ h1 h2 => by
  rw [Sem.wp_cmd_call]
  exact hc _ p rfl (hΓ.enter _ none p (by intro x; cases x)) (OkSt.cons h1 h2)
theorem wpK_runValue {c : Code} {Q : Value → Shared → Prop}
    (hc : codeK M A c (fun r s' => match r with | .ok (.ret v) => Q v s' | .ok _ => False | .error e => E e s') s) : wpK M A (runValue c) Q E s := fun Γ p hΓ h1 h2 => by
  rw [Sem.wp_runValue]
  exact hc _ p rfl (hΓ.enter _ none p (by intro x; cases x)) (OkSt.cons h1 h2)
theorem wpK_run {c : Code} {h : Option Value} {Q : Flow → Shared → Prop}
    (hc : codeK M (A.mark h) c (fun r s' => match r with | .ok f => Q f s' | .error e => E e s') s) (hnb : h ≠ some byPass := by intro x; cases x) : wpK M A (run c h) Q E s := fun Γ p hΓ h1 h2 => by
  rw [Sem.wp_run]
  exact hc _ p rfl (hΓ.enter c h p hnb) (OkSt.cons h1 h2)

theorem codeK_tree {c : Code} {R : Result → Shared → Prop} (ho : okCode c = true)
    (h : wpK M (A.under c) (M.den c) (fun fin s' => match fin with | .done f => R (.ok f) s' | .again c' => c'.quiet = true ∧ codeK M A c' R s') (fun e s' => R (.error e) s') s) : codeK M A c R s := fun Γ p hc hΓ h2 => by
  rw [wpCode_iff_wp, hc]
  refine Sem.wp_mono M Γ _ (fun fin p' s' h' => ?_) (fun _ _ _ h' => h') p s (h Γ p (hc ▸ hΓ.in) (by rw [hc]; exact ho) h2)
  cases fin with
  | done f => exact h'
  | again c' => exact ⟨h'.1, h'.2 (Γ.goto c') p' rfl (hΓ.goto c') h2⟩

theorem codeK_loop {c : Code} {R : Result → Shared → Prop} (ho : okCode c = true) (hq : c.quiet = true) (I : Nat → Shared → Prop)
    (turn : ∀ n s, I n s → wpK M (A.under c) (M.den c) (fun fin s' => match fin with
      | .done f => R (.ok f) s'
      | .again c' => (c' = c ∧ ∃ m, m < n ∧ I m s') ∨ (c'.quiet = true ∧ codeK M A c' R s')) (fun e s' => R (.error e) s') s)
    (n : Nat) (h : I n s) : codeK M A c R s := by
  induction n using Nat.strongRecOn generalizing s with
  | ind n ih =>
    refine codeK_tree ho (wpK_mono (turn n s h) (fun fin s' hf => ?_) fun _ _ h' => h')
    cases fin with
    | done f => exact hf
    | again c' =>
      rcases hf with ⟨rfl, m, hm, hI⟩ | hf
      · exact ⟨hq, ih m hm hI⟩
      · exact hf

-- the question itself
theorem wpK_exported {self : Value} {Q : Bool → Shared → Prop} (h : Q false s) : wpK M A (Builtin.Bytes.exported self) Q E s := fun Γ p _ h1 h2 => by
  unfold Builtin.Bytes.exported
  rw [Sem.wp_bind']
  show Sem.wp M Γ (.stack .pure) _ _ p s
  rw [Sem.wp_stack, Sem.wp_pure, Sem.wp_pure']
  have e : ∀ b : Bool, b = false → Q b s := fun b hb => by subst hb; exact h
  refine e _ ?_
  rw [List.any_eq_false]
  intro x hx
  rw [Bool.not_eq_true]
  obtain ⟨c, p'⟩ := x
  have hc := OkSt.cons (p := p) h1 h2 _ hx
  cases c with
  | builtin id args =>
    simp only [okCode, Bool.and_eq_true, Bool.not_eq_true'] at hc
    obtain ⟨k1, k2⟩ := hc
    simp only [List.contains_cons, List.contains_nil, Bool.or_false, Bool.or_eq_false_iff, beq_eq_false_iff_ne, ne_eq] at k2
    obtain ⟨n1, n2, n3, n4, n5⟩ := k2
    obtain ⟨pos, kw⟩ := args
    cases pos with
    | nil =>
      delta Builtin.Bytes.exported.match_1
      refine (dif_neg n1).trans ?_
      refine (dif_neg n2).trans ?_
      refine (dif_neg n3).trans ?_
      refine (dif_neg n4).trans ?_
      exact dif_neg n5
    | cons v r =>
      delta Builtin.Bytes.exported.match_1
      refine (dif_neg n1).trans ?_
      refine (dif_neg n2).trans ?_
      refine (dif_neg n3).trans ?_
      refine (dif_neg n4).trans ?_
      refine (dif_neg n5).trans ?_
      exact Bool.and_eq_false_iff.mpr (.inr k1)
  | _ => rfl
end
end Mine
end

theorem Mine.gapKS : True → True := by
  w_top off
  first | (walk1; exact True.intro) | exact id

section
open PySem PySem.W PySem.Calls PyProof.Rows
set_option Elab.async false
namespace Mine
section
variable {M : Model} {A : Around} {E : Value → Shared → Prop} {s : Shared} {env : Env}

theorem execsK_cons {st : Stmt} {rest : List Stmt} {Q : Flow → Shared → Prop}
    (h : wpK M A (exec st env) (fun f s' => match f with | .next => wpK M A (execs rest env) Q E s' | f => Q f s') E s) : wpK M A (execs (st :: rest) env) Q E s := by
  rw [execs_cons]
  refine wpK_bind (wpK_mono h (fun f s' h' => ?_) fun _ _ x => x)
  cases f <;> first | exact h' | exact wpK_pure h'
/-- a statement of the library's road, then the spine -/
theorem execsK_leaf {st : Stmt} {rest : List Stmt} {Q : Flow → Shared → Prop}
    (h : wpAny M A (exec st env) (fun f s' => match f with | .next => wpK M A (execs rest env) Q E s' | f => Q f s') E s) : wpK M A (execs (st :: rest) env) Q E s :=
  execsK_cons (wpK_of h)
theorem ReturnK {e : PySem.Expr} {pos : Pos} {Q : Flow → Shared → Prop} (h : wpK M A (eval e env) (fun v => Q (.ret v)) E s) : wpK M A (exec (.Return (some e) pos) env) Q E s := by
  rw [exec_Return_some]
  exact wpK_bind (wpK_standAt (wpK_bind (wpK_mono h (fun _ _ x => wpK_pure x) fun _ _ x => x)))
theorem IfK {test : PySem.Expr} {body orelse : List Stmt} {pos : Pos} {Q : Flow → Shared → Prop}
    (h : wpAny M A (isTrue test env (eval test env)) (fun b s₂ => if b then wpK M A (execs body env) Q E s₂ else wpK M A (execs orelse env) Q E s₂) E s) : wpK M A (exec (.If test body orelse pos) env) Q E s := by
  rw [exec_If]
  refine wpK_bind (wpK_standAt (wpK_leaf (wpAny_mono h (fun b s₂ h₂ => ?_) fun _ _ x => x)))
  cases b <;> exact h₂
theorem AssignNameK {x : Str} {pos' pos : Pos} {value : PySem.Expr} {Q : Flow → Shared → Prop}
    (h : wpK M A (eval value env) (fun v s₁ => wpAny M A (storeName env x v) (fun _ => Q .next) E s₁) E s)
    (hs : swapsWith value (some (.Name x pos')) pos.line env = pure false := by rfl) : wpK M A (exec (.Assign [.Name x pos'] value pos) env) Q E s := by
  rw [exec_Assign_Name env x pos' value pos hs]
  exact wpK_bind (wpK_standAt (wpK_bind (wpK_mono h (fun v s₁ h₁ => wpK_bind (wpK_standAt (wpK_of (wpAny_bind (wpAny_bindName (wpAny_mono h₁ (fun _ _ x => wpAny_pure x) fun _ _ x => x)))))) fun _ _ x => x)))
theorem AssignTupleK {elts : List PySem.Expr} {k : Nat} {tpos pos : Pos} {value : PySem.Expr} {Q : Flow → Shared → Prop}
    (h : wpK M A (eval value env) (fun v s₁ => wpAny M A (assign (.Tuple elts k tpos) env v) (fun _ => Q .next) E s₁) E s)
    (hs : swapsWithSole [.Tuple elts k tpos] value pos.line env = pure false := by rfl)
    (hw : swappedStores [.Tuple elts k tpos] value env = pure none := by rfl) : wpK M A (exec (.Assign [.Tuple elts k tpos] value pos) env) Q E s := by
  rw [exec_Assign]
  refine wpK_bind (wpK_standAt ?_)
  rw [hs]
  refine wpK_bind (wpK_pure (wpK_false rfl ?_))
  refine wpK_bind (wpK_mono h (fun v s₁ h₁ => ?_) fun _ _ x => x)
  rw [hw]
  refine wpK_bind (wpK_pure ?_)
  show wpK M A (do assignAll v [assign (.Tuple elts k tpos) env]; pure .next) Q E s₁
  exact wpK_leaf (wpAny_mono h₁ (fun _ _ x => wpK_pure x) fun _ _ x => x)
theorem AssignSwappedK {elts : List PySem.Expr} {k : Nat} {tpos pos : Pos} {value : PySem.Expr} {names : List Str} {Q : Flow → Shared → Prop}
    (h : wpK M A (eval value env) (fun v s₁ => wpAny M A (unpackItems v names.length none) (fun items s₂ =>
      wpAny M A (assignInOrder (names.reverse.map fun n => bindName env n) items.reverse) (fun _ => Q .next) E s₂) E s₁) E s)
    (hs : swapsWithSole [.Tuple elts k tpos] value pos.line env = pure false := by rfl)
    (hw : swappedStores [.Tuple elts k tpos] value env = pure (some names) := by rfl) : wpK M A (exec (.Assign [.Tuple elts k tpos] value pos) env) Q E s := by
  rw [exec_Assign]
  refine wpK_bind (wpK_standAt ?_)
  rw [hs]
  refine wpK_bind (wpK_pure (wpK_false rfl ?_))
  refine wpK_bind (wpK_mono h (fun v s₁ h₁ => ?_) fun _ _ x => x)
  rw [hw]
  refine wpK_bind (wpK_pure ?_)
  show wpK M A (do rule "assign.swapped-stores"; let items ← unpackItems v names.length none; assignInOrder (names.reverse.map fun n => bindName env n) items.reverse; pure .next) Q E s₁
  exact wpK_of (wpAny_bind (wpAny_rule (wpAny_bind (wpAny_mono h₁ (fun items s₂ h₂ => wpAny_bind (wpAny_mono h₂ (fun _ _ x => wpAny_pure x) fun _ _ x => x)) fun _ _ x => x))))

theorem BinOpK {l r : PySem.Expr} {op : Operator} {pos : Pos} {Q : Value → Shared → Prop}
    (h : wpK M A (eval l env) (fun a s₁ => wpK M A (eval r env) (fun b s₂ => wpAny M A (binaryOp op a b) Q E s₂) E s₁) E s) : wpK M A (eval (.BinOp l op r pos) env) Q E s := by
  rw [eval_BinOp]
  exact wpK_bind (wpK_mono h (fun a s₁ h₁ => wpK_bind (wpK_holding (wpK_mono h₁ (fun b s₂ h₂ => wpK_bind (wpK_standAt (wpK_operate (wpK_of h₂)))) fun _ _ x => x))) fun _ _ x => x)
theorem CompareK {l r : PySem.Expr} {op : CmpOp} {pos : Pos} {Q : Value → Shared → Prop}
    (h : wpK M A (eval l env) (fun a s₁ => wpK M A (eval r env) (fun b s₂ => wpAny M A (compareOp op a b) Q E s₂) E s₁) E s)
    (hm : behindInMarks op r = false := by with_unfolding_all rfl) : wpK M A (eval (.Compare l [op] [r] pos) env) Q E s := by
  rw [eval_Compare1, markedBehindIn_of_false hm]
  exact wpK_bind (wpK_mono h (fun a s₁ h₁ => wpK_bind (wpK_holding (wpK_mono h₁ (fun b s₂ h₂ => wpK_bind (wpK_standAt (wpK_operate (wpK_of h₂)))) fun _ _ x => x))) fun _ _ x => x)
theorem itemsK_nil {pos : Pos} {Q : List Value → Shared → Prop} (h : Q [] s) : wpK M A (spliced (backTo pos (starEach [] env))) Q E s := wpK_pure h
theorem itemsK_cons {pos : Pos} {e : PySem.Expr} {rest : List PySem.Expr} {Q : List Value → Shared → Prop}
    (h : wpK M A (eval e env) (fun v s₁ => wpK M A (spliced (backTo pos (starEach rest env))) (fun vs s₂ => Q (v :: vs) s₂) E s₁) E s)
    (he : starEach (e :: rest) env = (false, eval e env) :: starEach rest env := by rfl) : wpK M A (spliced (backTo pos (starEach (e :: rest) env))) Q E s := by
  rw [he]
  show wpK M A (do
    let v ← eval e env
    let here ← (pure [v] : Sem (List Value))
    return here ++ (← holding here (spliced (backTo pos (starEach rest env))))) Q E s
  exact wpK_bind (wpK_mono h (fun v s₁ h₁ => wpK_bind (wpK_pure (wpK_bind (wpK_holding (wpK_mono h₁ (fun vs s₂ h₂ => wpK_pure h₂) fun _ _ x => x))))) fun _ _ x => x)
theorem TupleK {elts : List PySem.Expr} {k : Nat} {pos : Pos} {Q : Value → Shared → Prop}
    (h : wpK M A (spliced (backTo pos (starEach elts env))) (fun vs s₁ => wpAny M A (newTuple vs) Q E s₁) E s) : wpK M A (eval (.Tuple elts k pos) env) Q E s := by
  rw [arm_eval_Tuple]
  exact wpK_bind (wpK_standAt (wpK_bind (wpK_mono h (fun vs s₁ h₁ => wpK_of h₁) fun _ _ x => x)))
theorem ListK {elts : List PySem.Expr} {pos : Pos} {Q : Value → Shared → Prop}
    (h : wpK M A (spliced (backTo pos (starEach elts env))) (fun vs s₁ => wpAny M A (newList vs) Q E s₁) E s) : wpK M A (eval (.List elts pos) env) Q E s := by
  rw [arm_eval_List]
  exact wpK_bind (wpK_standAt (wpK_bind (wpK_mono h (fun vs s₁ h₁ => wpK_of h₁) fun _ _ x => x)))

theorem splicedK_cons {x : Sem Value} {rest : List (Bool × Sem Value)} {Q : List Value → Shared → Prop}
    (h : wpK M A x (fun v s₁ => wpK M A (spliced rest) (fun vs s₂ => Q (v :: vs) s₂) E s₁) E s) : wpK M A (spliced ((false, x) :: rest)) Q E s := by
  rw [spliced]
  refine wpK_bind (wpK_mono h (fun v s₁ h₁ => ?_) fun _ _ x => x)
  simp only [Bool.false_eq_true, if_false]
  exact wpK_bind (wpK_pure (wpK_bind (wpK_holding (wpK_mono h₁ (fun vs s₂ h₂ => wpK_pure h₂) fun _ _ x => x))))
theorem evalArgsK {f : Value} {x : Sem Value} {rest : List (Bool × Sem Value)} {Q : Args → Shared → Prop}
    (h : wpK M A (spliced ((false, x) :: rest)) (fun vs s' => Q ⟨vs, []⟩ s') E s) : wpK M A (evalArgs f true ((false, x) :: rest) []) Q E s := by
  unfold evalArgs
  show wpK M A (spliced ((false, x) :: rest) >>= _) Q E s
  refine wpK_bind (wpK_mono h (fun vs s' h' => ?_) fun _ _ x => x)
  refine wpK_holding ?_
  exact wpK_bind (wpK_pure (wpK_bind (wpK_pure (wpK_pure h'))))

theorem callWithK {pos : Pos} {f : Value} {first : List Value} {P : Heap → Prop} {args : List (Bool × Sem Value)} {keywords : List (Option Str × Sem Value)} {Q : Value → Shared → Prop}
    (hplain : (args.any (·.1) || keywords.any (·.1.isNone)) = false)
    (hk : ∀ h, P h → ∃ k, (k = Keeper.frame ∨ k = Keeper.machine ∨ k = Keeper.boundFrame) ∧ Looks M h (keeperOf f) k)
    (h : wpK M A (evalArgs f true args keywords) (fun a s₁ => P s₁.heap ∧ wpK M A (call f (first ++ a.pos) a.kw) Q E s₁) E s) : wpK M A (callWith pos f first args keywords) Q E s := by
  unfold callWith
  refine wpK_bind (wpK_holding (wpK_mono h (fun a s₁ h₁ => wpK_bind (wpK_standAt ?_)) fun _ _ x => x))
  obtain ⟨k, hk', L⟩ := hk _ h₁.1
  simp only [hplain]
  refine wpK_leaf (L.here ?_)
  have tail : ∀ {t : Sem Value}, wpK M A t Q E s₁ → wpK M A (t >>= fun r => holding [r] point >>= fun _ => pure r) Q E s₁ :=
    fun ht => wpK_bind (wpK_mono ht (fun r s₂ hr => wpK_bind (wpK_holding (wpK_point (wpK_pure hr)))) fun _ _ x => x)
  have marked (mk : Value) : wpK M A (callMarked mk f (first ++ a.pos) a.kw) Q E s₁ := by unfold callMarked; exact wpK_keep h₁.2
  rcases hk' with rfl | rfl | rfl <;> dsimp only <;> first | exact tail h₁.2 | (split <;> first | exact tail h₁.2 | exact tail (marked _))

/-- the call of a def that stands in the written part: the arguments first -/
theorem CallK {K : Frag} {h₀ : Heap} {L : Addr} {m : Str → Option Value} {id : Str} {p pos : Pos} {f : Value} {e : PySem.Expr} {rest : List PySem.Expr} {Q : Value → Shared → Prop} (hkf : keepIn K f = true)
    (hn : wpAny M A (eval (.Name id p) env) (fun v s₁ => v = f ∧ s₁ = s) E s) (hKs : ∀ s₁ : Shared, Fr h₀ L s₁.heap m → K.In s₁.heap)
    (h : wpK M A (spliced (backTo pos (starEach (e :: rest) env))) (fun vs s₁ => K.In s₁.heap ∧ wpK M A (call f vs) Q E s₁) E s)
    (he : starEach (e :: rest) env = (false, eval e env) :: starEach rest env := by rfl) (hplain : (backTo pos (starEach rest env)).any (·.1) = false := by rfl) :
    wpK M A (eval (.Call (.Name id p) (e :: rest) [] pos) env) Q E s := by
  rw [arm_eval_Call_Name']
  refine wpK_leaf (wpAny_mono hn (fun v s₁ hv => ?_) fun _ _ x => x)
  obtain ⟨rfl, rfl⟩ := hv
  refine callWithK (P := fun hh => K.In hh) ?_ (keeps_K hkf) ?_
  · show ((backTo pos (starEach (e :: rest) env)).any (·.1) || false) = false
    rw [he]
    show ((false || (backTo pos (starEach rest env)).any (·.1)) || false) = false
    rw [hplain]; rfl
  · rw [he] at h ⊢
    exact evalArgsK h
end
end Mine
end

theorem Mine.gapKC : True → True := by
  w_top off
  first | (walk1; exact True.intro) | exact id

section
open PySem PySem.Spec PySem.W PySem.Calls PyProof.Rows
set_option Elab.async false
namespace Mine
section
variable {prog : Program} {w : World} {A A₀ : Around} {E : Value → Shared → Prop} {s : Shared} {R : Result → Shared → Prop}

theorem funcK {body : List Stmt} {env : Env}
    (h : wpK (model prog w) (A.deeper env) (execs body env) (fun f s' => R (.ok (.ret (match f with | .ret v => v | _ => .none))) s')
      (fun e s' => wpAny (model prog w) (A.deeper env) (leaving env e) (fun _ s'' => R (.error e) s'') (fun e' s'' => R (.error e') s'') s') s) : codeK (model prog w) A (.func body env) R s := by
  refine codeK_tree rfl ?_
  show wpK _ (A.deeper env) (do point; match ← (execs body env).onRaise (leaving env) with | .ret v => ret v | _ => ret .none) _ _ s
  refine wpK_bind (wpK_point (wpK_bind (wpK_onRaise (wpK_mono h (fun f s' h' => ?_) fun _ _ h' => h'))))
  cases f <;> exact wpK_pure h'

theorem callFnK {a : Addr} {args : Args} {o : Obj} {fd : FuncData} {body : List Stmt} (hroom : A.depth < recursionLimit) (ho : s.heap.get? a = some o) (hd : o.data = .func fd)
    (hco : fd.scope.isCoroutine = false) (hgen : fd.scope.isGenerator = false) (hbody : fd.body = .stmts body) (hcd : s.heap.CodeRec fd.code fd.qualname)
    (h : wpAny (model prog w) A.in1 (bindArgs fd args) (fun binds s₁ =>
      wpAny (model prog w) A.in1 (newFunctionEnv fd.scope fd.globals fd.closure binds (fd.qualname ++ ".<locals>.") (some a) fd.code none fd.builtins)
        (fun env s₂ => s₂.heap.NoLimit ∧ codeK (model prog w) A (.func body env) R s₂) (fun e s' => R (.error e) s') s₁) (fun e s' => R (.error e) s') s) :
    codeK (model prog w) A (.call (.ref a) args) R s := by
  refine codeK_tree rfl (wpK_of ?_)
  show wpAny _ A.in1 (callAny (.ref a) args) _ _ s
  simp only [callAny]
  refine wpAny_bind (wpAny_load ho ?_)
  obtain ⟨c, oc, vs, tq, hc, hoc, hdc, hq⟩ := hcd
  simp only [hd, callFunction, hco, hgen, hbody, hc]
  rw [hc] at h
  refine wpAny_bind (m := field (.ref c) 1) (wpAny_field hoc hdc hq (wpAny_bind (wpAny_pure ?_)))
  exact wpAny_bind (wpAny_mono h (fun binds s₁ h₁ => wpAny_bind (wpAny_mono h₁ (fun env s₂ h₂ => wpAny_bind (wpAny_enterFrame h₂.1 hroom
    (wpAny_pure (And.intro rfl h₂.2)))) fun _ _ h' => h')) fun _ _ h' => h')

variable {base h₀ : Heap} {outer : List Env} {L : Addr} {m mg mb : Str → Option Value} {env : Env} {news : List (Addr × Obj)} {K : Frag} {p : Program} {loose : List Str} {mean : ExcName → Option Value}
  {name qual : Str} {params : Arguments} {body : List Stmt} {scope : Scope} {dV kV doc pm cdv ct oc : Value} {an od : Option Addr} {osl : Array (Option Value)} {f : Addr} {args : Args} {binds : List (Str × Value)}

/-- a def of the written part, its locals alone, that does not raise -/
theorem defK (B : Below A₀ base outer h₀) (F : Fr h₀ L s.heap m) (X₀ : K.In h₀) (N : News h₀ L s.heap news) (T : Top p loose mean mg mb h₀) (hA : A.frames = some (env :: outer)) (hf : env.frame = some L) (hke : env.scope.kind = .function)
    (ho : K.lookup f = some ⟨oc, od, .func (fnOf name qual params body scope dV kV doc pm an cdv ct), osl⟩) (hcd : codeIn K cdv qual = true) (hroom : A.depth < recursionLimit)
    (hbind : BindsTo s (fnOf name qual params body scope dV kV doc pm an cdv ct) args binds) (hloc : ∀ y ∈ binds, scope.names.lookup y.1 = some .local)
    (h : ∀ g L' h₁, Fr h₀ L g m → Fr g L' h₁ (fun y => binds.reverse.lookup y) → News g L' h₁ news → Below A base (env :: outer) g → K.In g → Top p loose mean mg mb g → (∀ p ∈ news, p.1 < L') →
      wpK (model prog w) (A.deeper (envOf qual scope L' f cdv)) (execs body (envOf qual scope L' f cdv))
        (fun fl s' => LeaveK h₀ L m g R (match fl with | .ret v => v | _ => .none) s')
        (fun _ _ => False)
        { s with heap := h₁, toks := s.toks + binds.length })
    (hco : scope.isCoroutine = false) (hgen : scope.isGenerator = false) (hk : scope.kind = .function) (hcell : ∀ x ∈ scope.names, x.2 ≠ .cell) : codeK (model prog w) A (.call (.ref f) args) R s := by
  obtain ⟨FG, BG, st, lv⟩ := groundX (R := R) B F N hA hf hke
  have hfo := (X₀.keeps F.keep) _ _ ho
  refine callFnK hroom hfo rfl hco hgen rfl (codeRec_of (X₀.keeps F.keep) hcd) (hbind _ _ _ _ ?_)
  refine wpAny_newFunctionEnv hcell hloc (fun h₁ hns₁ hsb₁ => ⟨(T.nolimit.keeps F.keep).fresh _ hsb₁, funcK ?_⟩) hk
  have hk₁ : ∀ b o, s.heap.get? b = some o → h₁.get? b = some o := fun b o e => hsb₁.extBut b o (Nat.ne_of_lt (Heap.lt_size e)) (Heap.get?_push_of_some _ e)
  exact wpK_mono (h _ s.heap.objs.size h₁ FG ⟨hns₁, fun b o e => hk₁ b o (of_hideAll _ e), Nat.le_of_eq (hideAll_size _ _)⟩
    (fun p hp => ⟨hk₁ _ _ (N p hp).1, Nat.ne_of_lt (Heap.lt_size (N p hp).1), hideAll_none _ (List.mem_map_of_mem hp)⟩) BG (X₀.keeps st) (T.keeps st) (fun p hp => Heap.lt_size (N p hp).1)) (fun fl s' hl => lv _ _ hl) fun _ _ y => y.elim

/-- a def of the written part with cells, that does not raise -/
theorem defCK (B : Below A₀ base outer h₀) (F : Fr h₀ L s.heap m) (X₀ : K.In h₀) (N : News h₀ L s.heap news) (T : Top p loose mean mg mb h₀) (hA : A.frames = some (env :: outer)) (hf : env.frame = some L) (hke : env.scope.kind = .function)
    (ho : K.lookup f = some ⟨oc, od, .func (fnOf name qual params body scope dV kV doc pm an cdv ct), osl⟩) (hcd : codeIn K cdv qual = true) (hroom : A.depth < recursionLimit)
    (hbind : BindsTo s (fnOf name qual params body scope dV kV doc pm an cdv ct) args binds) (hkind : (binds.all fun y => scope.names.lookup y.1 == some .local || scope.names.lookup y.1 == some .cell) = true)
    (hnd : ((cellsFrom 0 scope.names []).map (·.1)).Nodup)
    (h : ∀ g L' h₁ tk cells, Fr h₀ L g m → Fr g L' h₁ (bindL (envOfC qual scope L' f cdv).kindOf binds fun _ => none) → News g L' h₁ (cells ++ news) →
      CellsAre (bindC (envOfC qual scope L' f cdv).kindOf binds fun _ => none) (cellsFrom (L' + 1) scope.names []) cells → Below A base (env :: outer) g → K.In g → Top p loose mean mg mb g → (∀ p ∈ news, p.1 < L') →
      wpK (model prog w) (A.deeper (envOfC qual scope L' f cdv)) (execs body (envOfC qual scope L' f cdv))
        (fun fl s' => LeaveK h₀ L m g R (match fl with | .ret v => v | _ => .none) s')
        (fun _ _ => False)
        { s with heap := h₁, toks := tk })
    (hco : scope.isCoroutine = false) (hgen : scope.isGenerator = false) (hk : scope.kind = .function) : codeK (model prog w) A (.call (.ref f) args) R s := by
  obtain ⟨FG, BG, st, lv⟩ := groundX (R := R) B F N hA hf hke
  have hfo := (X₀.keeps F.keep) _ _ ho
  refine callFnK hroom hfo rfl hco hgen rfl (codeRec_of (X₀.keeps F.keep) hcd) (hbind _ _ _ _ ?_)
  refine wpAny_newFunctionEnv_cells hk (kindsX hkind _) fun env' he s' x => ?_
  subst he
  refine ⟨(T.nolimit.keeps F.keep).keeps x.toInCall.keep, funcK ?_⟩
  obtain ⟨h₁, tk, rfl, _⟩ := x.done
  have hk₁ := x.toInCall.keep
  obtain ⟨cells, NC, Y⟩ := Cl.news (h₀ := s.heap) (Nat.le_refl _) fun n c hm => ⟨x.cell n c (lookup_of_mem_nodup (cellsFrom_names scope.names 0 (s.heap.objs.size + 1) [] [] rfl ▸ hnd) hm), x.above n c hm⟩
  refine wpK_mono (h _ s.heap.objs.size h₁ tk cells FG ⟨x.toInCall.ns, fun b o e => hk₁ b o (of_hideAll _ e), Nat.le_of_eq (hideAll_size _ _)⟩ (fun p hp => ?_) Y BG (X₀.keeps st) (T.keeps st) (fun p hp => Heap.lt_size (N p hp).1)) (fun fl s' hl => lv _ _ hl) fun _ _ y => y.elim
  rcases List.mem_append.mp hp with hp | hp
  · refine ⟨(NC p hp).1, (NC p hp).2.1, ?_⟩
    cases q : (hideAll s.heap (news.map (·.1))).get? p.1 with
    | none => rfl
    | some o => have := of_hideAll _ q; rw [(NC p hp).2.2] at this; cases this
  · exact ⟨hk₁ _ _ (N p hp).1, Nat.ne_of_lt (Heap.lt_size (N p hp).1), hideAll_none _ (List.mem_map_of_mem hp)⟩
end
end Mine
end

theorem Mine.gapKH : True → True := by
  w_top off
  first | (walk1; exact True.intro) | exact id

section
open PySem PySem.Spec PySem.W PySem.Calls PyProof.Rows
set_option Elab.async false
namespace Mine

/-- a tree that runs t in the clean contexts, u in the others -/
def guarded {α : Type} (t u : Sem α) : Sem α := .stack fun st => if (st.all fun x => okCode x.1) = true then t else u

section
variable {α : Type} {M : Model} {A : Around} {E : Value → Shared → Prop} {s : Shared}
theorem ok_all {c : Code} {p : Pos} {l : List (Code × Pos)} : (((c, p) :: l).all fun x => okCode x.1) = true ↔ okCode c = true ∧ OkSt l := by
  simp only [List.all_cons, Bool.and_eq_true, List.all_eq_true, OkSt]
theorem wpAny_guarded {t u : Sem α} {Q : α → Shared → Prop} (h : wpK M A t Q E s) (hu : wpAny M A u Q E s) : wpAny M A (guarded t u) Q E s := fun Γ p hΓ => by
  unfold guarded
  rw [Sem.wp_stack]
  by_cases hc : (((Γ.code, p) :: Γ.below).all fun x => okCode x.1) = true
  · rw [if_pos hc]; exact h Γ p hΓ (ok_all.mp hc).1 (ok_all.mp hc).2
  · rw [if_neg hc]; exact hu Γ p hΓ
theorem wpK_guarded {t u : Sem α} {Q : α → Shared → Prop} (h : wpAny M A (guarded t u) Q E s) : wpK M A t Q E s := fun Γ p hΓ h1 h2 => by
  have h' := h Γ p hΓ
  unfold guarded at h'
  rw [Sem.wp_stack, if_pos (ok_all.mpr ⟨h1, h2⟩)] at h'
  exact h'
theorem guarded_map {β : Type} {t u : Sem α} {t' u' : Sem β} {Q : α → Shared → Prop} {Q' : β → Shared → Prop} (h : wpAny M A (guarded t u) Q E s) (ht : wpK M A t Q E s → wpK M A t' Q' E s)
    (hu : ∀ Γ p, Γ.In A → Sem.wp M Γ u (fun a _ s' => Q a s') (fun e _ s' => E e s') p s → Sem.wp M Γ u' (fun a _ s' => Q' a s') (fun e _ s' => E e s') p s) : wpAny M A (guarded t' u') Q' E s := fun Γ p hΓ => by
  have h' := h Γ p hΓ
  unfold guarded at h' ⊢
  rw [Sem.wp_stack] at h' ⊢
  by_cases hc : (((Γ.code, p) :: Γ.below).all fun x => okCode x.1) = true
  · rw [if_pos hc]; exact ht (wpK_guarded h) Γ p hΓ (ok_all.mp hc).1 (ok_all.mp hc).2
  · rw [if_neg hc] at h' ⊢; exact hu Γ p hΓ h'
end

abbrev caller : Code := .builtin "claim.caller" {}
theorem caller_ok : okCode caller = true := by decide

/-- the guard's own step, taken off a run -/
theorem sched_guarded {prog : Program} {w : World} {s : Shared} {t u : Sem Fin} {n : Nat} {o : Outcome} {s' : Shared} (hz : s.asleep)
    (h : schedN (denote table) prog w n (.single s ⟨guarded t u, caller, default, []⟩) = .halted o s') : ∃ k, schedN (denote table) prog w k (.single s ⟨t, caller, default, []⟩) = .halted o s' := by
  cases n with
  | zero => cases h
  | succ n =>
    have hst : step (denote table) prog w s ⟨guarded t u, caller, default, []⟩ = .go s ⟨t, caller, default, []⟩ := by
      obtain ⟨heap, gens, drawn, toks, os⟩ := s
      have hc : (([(caller, (default : Pos))]).all fun x => okCode x.1) = true := ok_all.mpr ⟨caller_ok, fun x hx => (nomatch hx)⟩
      show Step.go _ (⟨if (([(caller, (default : Pos))]).all fun x => okCode x.1) = true then t else u, caller, default, []⟩ : Thread) = _
      rw [if_pos hc]
    have hcalm : (⟨guarded t u, caller, default, []⟩ : Thread).calm = true := by
      first | rfl | (unfold guarded; decide +kernel) | (unfold guarded; simp [Thread.calm, Thread.atCollectorCode, Thread.yieldsInsideHandler])
    rcases sstep_single (den := denote table) (prog := prog) (w := w) s ⟨guarded t u, caller, default, []⟩ hcalm hz with e | e
    · simp only [schedN, e, hst, Step.lift] at h
      exact ⟨n, h⟩
    · rw [hst] at e; cases e

theorem from_guarded {c : ClaimW} {tree : List Value → Sem Fin} {u : Sem Fin} {w : World} {s : Shared} {free : Addr → Prop} {gens : Prop} {kept : Heap → Prop} (hz : s.asleep)
    (h : c.CallFrom (fun vs => ⟨guarded (tree vs) u, caller, default, []⟩) w free gens kept s) : c.CallFrom (fun vs => ⟨tree vs, caller, default, []⟩) w free gens kept s := by
  intro args hpre hlay ord hord
  obtain ⟨vs, s₁, hlaid, n, o, s', hrun, rest⟩ := h args hpre hlay ord hord
  obtain ⟨k, hk⟩ := sched_guarded (Shared.asleep_of_life (layAllW_rest _ _ _ hlaid).2.2.2 hz) hrun
  exact ⟨vs, s₁, hlaid, k, o, s', hk, rest⟩

theorem open_guarded {c : ClaimW} {tree : List Value → Sem Fin} {u : Sem Fin} {defs keeps : List Str} {writes : Bool}
    (h : c.HoldsOpenBy (fun vs => ⟨guarded (tree vs) u, caller, default, []⟩) defs keeps writes) : c.HoldsOpenBy (fun vs => ⟨tree vs, caller, default, []⟩) defs keeps writes := by
  refine ⟨h.1, h.2.1, fun w => ⟨(h.2.2 w).1, fun s hs => ?_⟩⟩
  obtain ⟨s₀, hf, hg, s₁, hT, h1, h2, h3, hC⟩ := (h.2.2 w).2 s hs
  refine ⟨s₀, hf, hg, s₁, hT, h1, h2, h3, from_guarded ?_ hC⟩
  have hs' : AfterImport (opening c.prog) w s := hs
  exact Shared.asleep_of_life (hT.2.1.trans (fence_lifeW hf)) hs'.life

abbrev WalkK (q : Program) (loose : List Str) (XP : (Str → Option Value) → Heap → Prop) (YP : World → Heap → Prop) (r : RowW) (d : DefRec) (kwd : List (Str × PySem.Expr)) : Prop :=
  ∀ (w : World) (s₀ s₁ : Shared) (mg mb : Str → Option Value), Ground q loose r.records XP w s₀ mg mb s₁.heap → YP w s₁.heap → ∀ (a : Addr) (o : Obj) (pm cd doc dV kV : Value), s₁.heap.get? a = some o →
    o.data = .func { docDef d.name d.params d.body d.scope pm cd doc with defaults := dV, kwdefaults := kV } → s₁.heap.CodeRec cd d.name → Dflts mg s₁.heap d.params kwd dV kV → mg d.name = some (.ref a) → s₁.gens = #[] →
    ∀ (args : List WData) (vals : List Value) (as : List Addr), r.claim.pre args = true → WData.layableAll args = true → ReadsAllW r.records (classAt s₀.heap) s₁.heap vals args as → WellAll w.params s₁.heap vals args → (∀ a ∈ as, (a == sysModules) = false) →
      wpK (model r.prog w) callerA (call (.ref a) vals) (fun v s' => GoodWG r.claim (classAt s₀.heap) (ExcName.means s₀.heap) args s₁ (.ok (.ret v)) s')
        (fun e s' => GoodWG r.claim (classAt s₀.heap) (ExcName.means s₀.heap) args s₁ (.error e) s') s₁

theorem holdsK {r : OpenRow} {q : Program} {loose : List Str} {Xt : Shared → Bool} {XP : (Str → Option Value) → Heap → Prop} {α : Type} {Yf : Shared → α} {Ya : World → α} {YP : World → Heap → Prop} {d : DefRec} {kwd : List (Str × PySem.Expr)} {N : Nat}
    (left : LeftO r.prog q loose Xt Yf Ya N) (hY : ∀ w s, Yf s = Ya w → YP w s.heap) (hYk : ∀ w h h', YP w h → (∀ b o, h.get? b = some o → h'.get? b = some o) → YP w h')
    (hX : ∀ s, Xt s = true → XP (s.heap.nsMap mainGlobals) s.heap) (hXk : ∀ mg h h', XP mg h → (∀ b o, h.get? b = some o → h'.get? b = some o) → XP mg h')
    (hdef : defOf q r.name = some (d, kwd)) (hp : r.prog.theDef r.name = some (d.params, d.body, d.scope)) (hk : kwWritten? d.params.kwonlyargs d.params.kw_defaults = some kwd) (hRf : ∀ s, Xt s = true → RecFacts r.records s.heap) (hwr : (!r.writes || r.records.isEmpty) = true)
    (k1 : r.wellSaid = true) (ok : (chainsOk q && opensWell r.prog && (frees r.toRowW && r.within.isEmpty)) = true) (hb : r.prog.bare) (hw : r.toRowW.promised)
    (triv : ∀ (cl : Str → Option Addr) (mean : ExcName → Option Value) (args : List WData) (s₁ : Shared), s₁.gens = #[] → r.toRowW.claim.pre args = true → GoodWG r.toRowW.claim cl mean args s₁ (.ok (.ret (.bool true))) s₁)
    (call : WalkK q loose XP YP r.toRowW d kwd) : r.Holds := by
  refine ⟨k1, hw, ?_⟩
  show r.toRowW.claim.HoldsOpenBy (fun vs => ⟨do match ← nsGet mainNs r.name with
      | some f => do ret (← PySem.call f vs)
      | none => unsupported "claim.caller:no-such-global", caller, default, []⟩) _ _ _
  refine open_guarded (u := ret (.bool true)) (open_anyG (r := r.toRowW) (run := fun f vs => guarded (PySem.call f vs) (pure (.bool true))) (tree := fun vs => guarded (do match ← nsGet mainNs r.name with
      | some f => do ret (← PySem.call f vs)
      | none => unsupported "claim.caller:no-such-global") (ret (.bool true))) left hY hYk hX hXk hRf hwr ok hb hw
    (fun vs w s mg f Q E hg hf h => ?_) (fun w s hg G n hn => ?_) fun w s₀ s₁ mg mb G Y args vs as hpre hlay L low => ?_)
  · refine guarded_map h (fun h => wpK_leaf (wpAny_nsGet hg ?_)) fun Γ p _ h => h
    rw [hf]
    exact wpK_bind (wpK_mono h (fun _ _ x => wpK_pure x) fun _ _ x => x)
  · obtain rfl : n = r.name := by split at hn <;> simp_all
    exact pinned_of_view hg G hdef hp hk
  · obtain ⟨a, o, pm, cd, doc, dV, kV, h1, h2, h3, h4, h5⟩ := G.fn hdef
    refine ⟨.ref a, h1, wpAny_guarded (call w s₀ s₁ mg mb G Y a o pm cd doc dV kV h2 h3 h4 h5 (defOf_name hdef ▸ h1) L.gens args vs as hpre hlay L.reads L.well (L.low low)) (wpAny_pure (triv _ _ _ _ L.gens hpre))⟩
end Mine
end

theorem Mine.gapHL : True → True := by
  w_top off
  first | (walk1; exact True.intro) | exact id

section
open PySem PySem.W PyProof.Rows
set_option Elab.async false
namespace Mine
set_option maxRecDepth 100000
set_option maxHeartbeats 8000000
noncomputable def addrs : List Addr := (hd.heap_39 ⟨fun _ => 0, fun _ => 0, id, fun _ => 0, fun _ _ => 0, fun _ => false, fun _ => 0, .refcount, .text, fun _ => 0, fun _ => none, fun _ => false, fun _ _ _ => true, fun _ y a => a ≥ y, true, fun _ => false, fun _ => none, fun _ => none, fun _ _ _ => 0, fun _ _ => none, fun _ => none, fun _ => (0, false, ""), fun _ => none, id, fun _ => false⟩).map (·.1)
theorem addrs_eq : ∀ P, addrs = (hd.heap_39 P).map (·.1) := fun P => by kernel_rfl
noncomputable abbrev hook : Hook := kHook hd.heap_39 addrs addrs_eq
noncomputable abbrev theXt (s : Shared) : Bool := xlAt hd.view_39 [] s && recOk (RowW.records PySem.Challenge.rw_wf0012_01.row.toRowW) s
/-- the opening in pieces: each a look of the kernel by itself -/
noncomputable abbrev theP : Program := PySem.Challenge.rw_wf0012_01.row.prog
abbrev q0 : Pos := ⟨0, 0, 0, 0⟩
abbrev anno : Option Value := some (.ref 6)
noncomputable abbrev theC : Code := .body (behindTheImports theP) hd.env_41
abbrev qA : Pos := ⟨50, 0, 51, 8⟩
abbrev qB : Pos := ⟨84, 0, 92, 24⟩
abbrev qC : Pos := ⟨114, 0, 128, 96⟩
theorem left_open : ∀ w : World, (fencedOpening treeTable theP w 1710).map (fun s => (s.heap, s.gens, s.drawn, s.toks)) = some (boot_heap w.params, #[], boot_drawn, boot_toks) :=
  boot_open (by kernel_rfl!) (by decide) (fun s => by kernel_rfl!)
theorem left_size : ∀ w : World, ((boot_heap w.params).isNs mainGlobals && (#[] : Array GenState).size == 0, (boot_heap w.params).objs.size, (boot_heap w.params).nsMap mainGlobals (Str.ofString "__annotations__")) = (true, 11, anno) := fun w => by kernel_rfl!
theorem left_r1 : ∀ (w : World) (os : OsState), topGo treeTable theP w 11 anno 12 ⟨boot_heap w.params, #[], boot_drawn, boot_toks, os⟩ (topStub theP) =
    some (⟨hd.heap_46 w.params, #[], {}, 187, os⟩, ⟨denote treeTable theC, theC, q0, [topFrame q0]⟩) := fun w os => by kernel_rfl!
theorem left_r2 : ∀ (w : World) (os : OsState), segRun treeTable theP w 11 anno 1 1 ⟨hd.heap_46 w.params, #[], {}, 187, os⟩ (blockOf (behindTheImports theP) hd.env_41 theC q0 [topFrame q0]) =
    some (.next, SharedT.abs ⟨hd.tree_47 w.params, 15, {}, #[], {}, 187, os⟩, theC, q0) := fun w os => by kernel_rfl!
theorem left_r3 : ∀ (w : World) (os : OsState), segRunT treeTable theP w 11 anno 1 333 ⟨hd.tree_47 w.params, 15, {}, #[], {}, 187, os⟩ (piecesOf hd.sts_49 hd.env_41 theC q0 [topFrame q0]) =
    some (.next, ⟨hd.tree_85 w.params, 49, {}, #[], {}, 256, os⟩, theC, qA) := fun w os => by first | (unfold theC theP; rw [Fast.te10110043849684766642, Fast.te14364793385576792824, Fast.te6448080314894763839, Fast.te2368527892694137696, Fast.te17468520341805076825, Fast.te17111948838632640456, Fast.te13215998728584607739, Fast.te4901318299020614408]; kernel_rfl!) | kernel_rfl!
theorem left_r4 : ∀ (w : World) (os : OsState), segRunT treeTable theP w 11 anno 1 376 ⟨hd.tree_85 w.params, 49, {}, #[], {}, 256, os⟩ (piecesOf hd.sts_86 hd.env_41 theC qA [topFrame q0]) =
    some (.next, ⟨hd.tree_133 w.params, 94, {}, #[], {}, 319, os⟩, theC, qB) := fun w os => by first | (unfold theC theP; rw [Fast.te10110043849684766642, Fast.te14364793385576792824, Fast.te6448080314894763839, Fast.te2368527892694137696, Fast.te17468520341805076825, Fast.te9411525586021648077, Fast.te4901318299020614408, Fast.te7433093208181500128]; kernel_rfl!) | kernel_rfl!
theorem left_r5 : ∀ (w : World) (os : OsState), segRunT treeTable theP w 11 anno 1 86 ⟨hd.tree_133 w.params, 94, {}, #[], {}, 319, os⟩ (piecesOf hd.sts_134 hd.env_41 theC qB [topFrame q0]) =
    some (.next, ⟨hd.tree_152 w.params, 111, {}, #[], {}, 342, os⟩, theC, qC) := fun w os => by kernel_rfl!
theorem left_r6 : ∀ (w : World) (os : OsState), topRun treeTable theP w 11 anno 2 (SharedT.abs ⟨hd.tree_152 w.params, 111, {}, #[], {}, 342, os⟩) ⟨doneF .next, theC, qC, [topFrame q0]⟩ =
    some ⟨hd.heap_153 w.params, #[], {}, 342, os⟩ := fun w os => by kernel_rfl!
theorem left_b : behindTheImports theP = hd.sts_49 ++ (hd.sts_86 ++ (hd.sts_134 ++ [])) := by kernel_rfl!
theorem left_run (w : World) (os : OsState) : topRun treeTable theP w 11 anno (12 + (1 + (333 + (376 + (86 + 2))))) ⟨boot_heap w.params, #[], boot_drawn, boot_toks, os⟩ (topStub theP) = some ⟨hd.heap_153 w.params, #[], {}, 342, os⟩ := by
  have k5 := piece_app (rest := []) (segRun_of (left_r5 w os)) (piece_nil (left_r6 w os))
  have k4 := piece_app (segRun_of (left_r4 w os)) k5
  have k3 := piece_app (segRun_of (left_r3 w os)) k4
  rw [← left_b] at k3
  exact go_top (left_r1 w os) (piece_block (left_r2 w os) k3)
theorem left_l1 : ∀ (w : World) (os : OsState), (staticsOk (importedModules theP.main.body) (boot_heap w.params) (hd.heap_153 w.params) && namesBound theP (hd.heap_153 w.params) && gensDone ⟨hd.heap_153 w.params, #[], {}, 342, os⟩ && laidKept (boot_heap w.params) (hd.heap_153 w.params)) = true := fun w os => by kernel_rfl!
theorem left_l2 : ∀ (w : World) (os : OsState), openSeen hd.view_39 [] (importedModules theP.main.body) theXt true ⟨hd.heap_153 w.params, #[], {}, 342, os⟩ = openGood hd.view_39 [] := fun w os => by kernel_rfl!
theorem left_l3 : ∀ (w : World) (os : OsState), Hook.obs hook ⟨hd.heap_153 w.params, #[], {}, 342, os⟩ = Hook.val hook w := fun w os => by kernel_rfl!
theorem left : LeftO PySem.Challenge.rw_wf0012_01.row.prog hd.view_39 [] theXt (Hook.obs hook) (Hook.val hook) 1710 :=
  LeftO.of_pieces left_open left_size left_run (by decide) (fun w => funext fun os => Prod.ext (left_l1 w os) (Prod.ext (left_l2 w os) (left_l3 w os)))
end Mine
end

theorem Mine.gapBA : True → True := by
  w_top off
  first | (walk1; exact True.intro) | exact id

section
open PySem PySem.Spec PySem.W PySem.Calls PyProof.Rows
set_option Elab.async false
set_option maxRecDepth 100000
namespace Mine
theorem ba_mro : mroOf (.type "bytearray") = pure [.type "bytearray", .type "object"] := by rw [mroOf_type]; kernel_rfl
theorem ba_lookup_new : typeLookup (.type "bytearray") "__new__" = pure (some (.builtin "bytearray.__new__")) := by rw [typeLookup_type, builtinLookup_eq_fast]; kernel_rfl
theorem ba_slot_init : Slot "bytearray" "__init__" "bytearray.__init__" :=
  .of (owner := "bytearray") (n := "__init__") (by rw [typeLookup_type, builtinLookup_eq_fast]; kernel_rfl) (by decide +kernel) (by decide +kernel) (by decide +kernel)
    (by first | exact .inl (by decide +kernel) | exact .inr (by decide +kernel)) (by rw [isSubtype_type]; kernel_rfl)
theorem ba_called : TypeCalled "bytearray" "bytearray.__new__" "bytearray.__init__" :=
  ⟨by decide +kernel, by decide +kernel, ⟨_, _, ba_mro⟩, madeBy_type ba_mro ba_lookup_new (by decide +kernel), by decide +kernel, by rw [isSubtype_type]; kernel_rfl, ba_slot_init⟩
theorem ba_typeCall (a : Value) : checkTypeCall "bytearray" ⟨[a], []⟩ = pure () := by kernel_rfl
theorem ba_newCall (a : Value) : checkBuiltinCall "bytearray.__new__" ⟨[.type "bytearray", a], []⟩ = pure () := by kernel_rfl
theorem ba_plain_new : plainId "bytearray.__new__" = true := by decide +kernel
theorem ba_plain_init : plainId "bytearray.__init__" = true := by decide +kernel
theorem ba_entry_new : entryFor table "bytearray.__new__" = some Builtin.«list.__new__» := entryFor_alias (id' := "list.__new__") (by kernel_rfl) (by first | rfl | decide +kernel | (unfold String.splitOn; simp +decide [String.splitOnAux])) (by decide +kernel) (by kernel_rfl)
theorem ba_entry_init : entryFor table "bytearray.__init__" = some Builtin.«bytearray.__init__» := by first | exact entryFor_of_fast (by kernel_rfl) | exact entryFor_of_tree (by kernel_rfl)
theorem ba_sub : isSubtype (.type "bytearray") (.type "bytearray") = pure true := by rw [isSubtype_type]; kernel_rfl
set_option maxRecDepth 1000000 in
set_option maxHeartbeats 4000000 in
theorem ba_owner : ("bytearray.__new__".splitOn ".__new__").headD "" = "bytearray" := by simp +decide [String.splitOn, String.splitOnAux]
theorem ba_ok_init (args : Args) : okCode (.builtin "bytearray.__init__" args) = true := by simp only [okCode]; decide +kernel
theorem ba_ok_call (args : Args) : okCode (.builtin "type.__call__" args) = true := by simp only [okCode]; decide +kernel
theorem ba_bind (v : Value) : Builtin.Bytes.bindOptional "bytearray.__init__" "bytearray" ["source", "encoding", "errors"] [v] [] = pure [some v, none, none] := by kernel_rfl
theorem ba_no_index : typeLookup (.type "int") "__index__" = pure (some (.builtin "int.__index__")) := by rw [typeLookup_type, builtinLookup_eq_fast]; kernel_rfl
theorem ba_release : typeLookup (.type "bytearray") "__release_buffer__" = pure (some (.builtin "bytearray.__release_buffer__")) := by rw [typeLookup_type, builtinLookup_eq_fast]; kernel_rfl
theorem ba_rel_ends : "bytearray.__release_buffer__".endsWith ("." ++ "__release_buffer__") = true := by decide +kernel
theorem ba_rel_own : "bytearray.__release_buffer__".dropRight ("__release_buffer__".length + 1) = "bytearray" := by decide +kernel

section
variable {prog : Program} {w : World} {A : Around} {E : Value → Shared → Prop} {s : Shared} {R : Result → Shared → Prop}
theorem builtinK {id : String} {args : Args} {b : Builtin} (ho : okCode (.builtin id args) = true) (hb : entryFor table id = some b)
    (h : wpK (model prog w) (A.under (.builtin id args)) (b args)
      (fun fin s' => match fin with | .done f => R (.ok f) s' | .again c' => c'.quiet = true ∧ codeK (model prog w) A c' R s') (fun e s' => R (.error e) s') s) :
    codeK (model prog w) A (.builtin id args) R s := by
  refine codeK_tree ho ?_
  show wpK _ _ (match entryFor table id with | some b => b args | none => unsupported ((withoutEnding? id "#data").getD id)) _ _ s
  rw [hb]; exact h
end

section
variable {prog : Program} {w : World} {A : Around} {E : Value → Shared → Prop} {s : Shared}

theorem ba_code_new (a : Value) {Q₁ : Value → Shared → Prop}
    (h : Q₁ (.ref s.heap.objs.size) { s with heap := s.heap.push { cls := .type "bytearray", data := .bytearray #[] } }) :
    codeAny (model prog w) A (.call (.builtin "bytearray.__new__") ⟨[.type "bytearray", a], []⟩) (wants Q₁ E) s := by
  refine codeAny_of_tree ?_
  show wpAny _ A.in1 (do checkBuiltinCall "bytearray.__new__" ⟨[.type "bytearray", a], []⟩; again (.builtin "bytearray.__new__" ⟨[.type "bytearray", a], []⟩)) _ _ s
  refine wpAny_bind (wpAny_of_eq (ba_newCall a) (wpAny_pure ⟨plainId_quiet ba_plain_new _, codeAny_builtin_stack ba_entry_new rfl fun p st => ?_⟩))
  rw [Around.under_plainId ba_plain_new _]
  have hsub := ba_sub
  have hown := ba_owner
  obtain ⟨hp, g, d, tk, os⟩ := s
  simp only [hown]
  wp_walk
  exact h

theorem ba_argsOk (a b : Value) : argsOk "bytearray.__init__" ⟨[a, b], []⟩ := by unfold argsOk; kernel_rfl

theorem ite_yes {α : Type} {M : Model} {c : Prop} [Decidable c] {a b : Sem α} {Q : α → Shared → Prop} (hc : c) (h : wpAny M A a Q E s) : wpAny M A (if c then a else b) Q E s := by rw [if_pos hc]; exact h
theorem ite_no {α : Type} {M : Model} {c : Prop} [Decidable c] {a b : Sem α} {Q : α → Shared → Prop} (hc : ¬ c) (h : wpAny M A b Q E s) : wpAny M A (if c then a else b) Q E s := by rw [if_neg hc]; exact h
theorem ba_notOwn {b : Addr} {Q : Bool → Shared → Prop} (hT : s.TypeIs (.ref b) "bytearray") (h : Q false s) : wpAny (model prog w) A (Builtin.Bytes.ownRelease (.ref b)) Q E s := by
  unfold Builtin.Bytes.ownRelease Builtin.Bytes.slotIsOwn
  refine wpAny_bind (wpAny_bind (wpAny_specialOf hT ba_release ?_))
  dsimp only
  refine bm_if_false (by decide +kernel) ?_
  rw [ba_rel_own]
  exact wpAny_isInstance hT ba_sub (wpAny_pure h)

theorem ba_write {b : Addr} {x : Array UInt8} {f : Array UInt8 → Array UInt8} {Q : Unit → Shared → Prop} (hb : s.heap.get? b = some { cls := .type "bytearray", data := .bytearray x }) (hz : (f x).size ≤ sizeLine)
    (h : ∀ h', h'.get? b = some { cls := .type "bytearray", data := .bytearray (f x) } → Heap.SameBut b s.heap h' → Q () { s with heap := h' }) : wpAny (model prog w) A (Builtin.Bytes.write (.ref b) f) Q E s := by
  show wpAny _ _ (updateBytearray b f) _ _ _
  unfold updateBytearray
  refine wpAny_bind (wpAny_load hb ?_)
  show wpAny _ _ (update b (Obj.mapBytearray f) >>= fun _ => lookBehind b) _ _ _
  refine wpAny_bind (wpAny_update hb ?_)
  have hb' : (s.heap.update b (Obj.mapBytearray f)).get? b = some { cls := .type "bytearray", data := .bytearray (f x) } := Heap.get?_update_self (Obj.mapBytearray f) hb rfl
  refine wpAny_lookBehind hb' ?_ (h _ hb' (Heap.SameBut.update ..))
  show (if (f x).size > sizeLine then some "bytearray:memory" else none) = none
  rw [if_neg (Nat.not_lt.mpr hz)]

theorem ba_init {b : Addr} {n : Int} {t : Tok} {Q : PySem.Fin → Shared → Prop} (h0 : 0 ≤ n) (h1 : n ≤ 1048576) (hb : s.heap.get? b = some { cls := .type "bytearray", data := .bytearray #[] })
    (h : ∀ h', h'.get? b = some { cls := .type "bytearray", data := .bytearray (Array.replicate n.toNat 0) } → Heap.SameBut b s.heap h' → Q (.done (.ret .none)) { s with heap := h' }) :
    wpK (model prog w) A (Builtin.«bytearray.__init__» ⟨[.ref b, .int n t], []⟩) Q E s := by
  have hT : s.TypeIs (.ref b) "bytearray" := ⟨_, hb, rfl⟩
  unfold Builtin.«bytearray.__init__»
  refine wpK_leaf (ba_notOwn hT ?_)
  refine wpK_false rfl ?_
  refine wpK_bind (wpK_of_eq (ba_bind _) ?_)
  dsimp only
  refine wpK_bind (wpK_of_eq (a := ()) rfl ?_)
  refine wpK_bind (wpK_of_eq (a := ()) rfl ?_)
  refine wpK_bind (wpK_bind (wpK_exported (wpK_of ?_)))
  show wpAny _ _ (Builtin.Bytes.exportsOf (.ref b) >>= fun x => pure (decide (x > 0))) _ _ _
  refine wpAny_bind ?_
  unfold Builtin.Bytes.exportsOf
  refine wpAny_bind (wpAny_load hb (wpAny_pure (wpAny_pure ?_)))
  refine wpK_false rfl (wpK_of ?_)
  refine wpAny_bind (ba_write hb (Nat.zero_le _) fun h₂ hb₂ hs₂ => ?_)
  refine wpAny_bind (wpAny_of_eq (a := none) rfl ?_)
  refine bm_if_false (c := (none : Option Str).isSome) rfl ?_
  refine wpAny_bind (bm_if_false (c := (none : Option Value).isSome) rfl (bm_if_false (c := (none : Option Value).isSome) rfl (wpAny_pure ?_)))
  refine wpAny_bind (wpAny_specialOf (T := "int") rfl ba_no_index ?_)
  refine bm_if_true (c := (some (Value.builtin "int.__index__")).isSome) rfl ?_
  refine wpAny_bind (wpAny_attempt (wpAny_of_eq (rfl : asIndex (.int n t) = pure n) ?_))
  show wpAny _ _ (if (!Builtin.Bytes.fitsIndex n) = true then _ else _) _ _ _
  refine bm_if_false (by simp only [Builtin.Bytes.fitsIndex]; simp; omega) ?_
  refine ite_no (by omega) ?_
  refine bm_if_false (by simp; omega) ?_
  refine bm_if_false (by simp only [Builtin.Bytes.tooLong, sizeLine_eq]; simp; omega) ?_
  refine wpAny_bind (wpAny_rule ?_)
  have hz : (Array.replicate n.toNat (0 : UInt8)).size ≤ sizeLine := by rw [Array.size_replicate, sizeLine_eq]; omega
  by_cases hn : n > 0
  · refine ite_yes hn ?_
    refine wpAny_bind (ba_write hb₂ hz fun h₃ hb₃ hs₃ => ?_)
    exact wpAny_pure (h _ hb₃ (hs₂.trans hs₃))
  · refine ite_no hn ?_
    have e : n = 0 := by omega
    subst e
    exact wpAny_pure (h _ hb₂ hs₂)

theorem ba_call {n : Int} {t : Tok} {Q : Value → Shared → Prop} (h0 : 0 ≤ n) (h1 : n ≤ 1048576)
    (h : ∀ h' k, h'.get? s.heap.objs.size = some { cls := .type "bytearray", data := .bytearray (Array.replicate n.toNat 0) } → (∀ b o, s.heap.get? b = some o → h'.get? b = some o) → Q (.ref s.heap.objs.size) { s with heap := h', toks := k }) :
    wpK (model prog w) A (call (.type "bytearray") [.int n t]) Q E s := by
  have ft := ba_called
  refine wpK_call (codeK_tree rfl ?_)
  show wpK _ _ (callAny (.type "bytearray") _) _ _ _
  refine wpK_pure ⟨Code.quiet_builtin _ (by decide +kernel), builtinK (ba_ok_call _) F.entry_type_call ?_⟩
  rw [Around.under_plain (weight_type_call_type "bytearray" [.int n t] []) rfl]
  unfold Builtin.«type.__call__»
  dsimp only
  refine wpK_false (by decide) ?_
  refine wpK_false ft.canCreate ?_
  refine wpK_bind (wpK_of_eq (ba_typeCall _) ?_)
  refine wpK_bind (wpK_of_eq ba_mro ?_)
  refine wpK_false rfl ?_
  refine wpK_bind (wpK_of_eq ft.made ?_)
  dsimp only
  refine wpK_bind (wpK_pure ?_)
  refine wpK_bind (wpK_holding (wpK_of (wpAny_call (ba_code_new _ (Q₁ := fun v s' => _) ?_))))
  have hb : (s.heap.push { cls := .type "bytearray", data := .bytearray #[] }).get? s.heap.objs.size = some { cls := .type "bytearray", data := .bytearray #[] } := Heap.get?_push_size _ rfl
  have hT : ({ s with heap := s.heap.push { cls := .type "bytearray", data := .bytearray #[] } } : Shared).TypeIs (.ref s.heap.objs.size) "bytearray" := ⟨_, hb, rfl⟩
  refine wpK_leaf (wpAny_isInstance hT ba_sub ?_)
  refine wpK_false rfl ?_
  refine wpK_bind (wpK_holding ?_)
  unfold callSpecial?
  refine wpK_leaf (wpAny_specialOf hT ba_slot_init.lookup ?_)
  refine wpK_holding ?_
  rw [ba_slot_init.bind]
  refine wpK_bind (wpK_pure ?_)
  refine wpK_bind (wpK_call ?_)
  refine codeK_tree rfl (wpK_of ?_)
  show wpAny _ A.in1.in1 (do checkBuiltinCall "bytearray.__init__" _; again (.builtin "bytearray.__init__" _)) _ _ _
  refine wpAny_bind (ba_slot_init.check _ _ _ _ _ _ _ _ hT (ba_argsOk _ _) (wpAny_pure ⟨plainId_quiet ba_plain_init _, builtinK (ba_ok_init _) ba_entry_init ?_⟩))
  rw [Around.under_plainId ba_plain_init _]
  refine ba_init h0 h1 hb fun h' hb' hs' => ?_
  refine wpK_pure (wpK_false rfl (wpK_pure ?_))
  exact h h' _ hb' fun b o e => hs'.extBut b o (Nat.ne_of_lt (Heap.lt_size e)) (Heap.get?_push_of_some _ e)
end
end Mine
end

theorem Mine.gapBB : True → True := by
  w_top off
  first | (walk1; exact True.intro) | exact id

section
open PySem PySem.Spec PySem.W PySem.Calls PyProof.Rows
set_option Elab.async false
set_option maxRecDepth 100000
namespace Mine
theorem bb_slot_set : Slot "bytearray" "__setitem__" "bytearray.__setitem__" :=
  .of (owner := "bytearray") (n := "__setitem__") (by rw [typeLookup_type, builtinLookup_eq_fast]; kernel_rfl) (by decide +kernel) (by decide +kernel) (by decide +kernel)
    (by first | exact .inl (by decide +kernel) | exact .inr (by decide +kernel)) (by rw [isSubtype_type]; kernel_rfl)
theorem bb_entry_set : entryFor table "bytearray.__setitem__" = some Builtin.«bytearray.__setitem__» := by first | exact entryFor_of_fast (by kernel_rfl) | exact entryFor_of_tree (by kernel_rfl)
theorem bb_args_set (a b c : Value) : argsOk "bytearray.__setitem__" ⟨[a, b, c], []⟩ := by unfold argsOk; kernel_rfl
theorem bb_no_bytes : typeLookup (.type "bytearray") "__bytes__" = pure none := by rw [typeLookup_type, builtinLookup_eq_fast]; kernel_rfl
theorem bb_no_index : typeLookup (.type "bytearray") "__index__" = pure none := by rw [typeLookup_type, builtinLookup_eq_fast]; kernel_rfl
theorem bb_buffer : typeLookup (.type "bytearray") "__buffer__" = pure (some (.builtin "bytearray.__buffer__")) := by rw [typeLookup_type, builtinLookup_eq_fast]; kernel_rfl
theorem bb_buf_own : "bytearray.__buffer__".dropRight ("__buffer__".length + 1) = "bytearray" := by decide +kernel

section
variable {prog : Program} {w : World} {A : Around} {E : Value → Shared → Prop} {s : Shared}

theorem bb_setItem {b : Addr} {x : Array UInt8} {k v : Int} {t u : Tok} {Q : Unit → Shared → Prop} (hb : s.heap.get? b = some { cls := .type "bytearray", data := .bytearray x }) (h0 : 0 ≤ k) (h1 : k < (x.size : Int)) (hz : x.size ≤ 1048576)
    (v0 : 0 ≤ v) (v1 : v < 256)
    (h : ∀ h', h'.get? b = some { cls := .type "bytearray", data := .bytearray (x.setIfInBounds k.toNat v.toNat.toUInt8) } → Heap.SameBut b s.heap h' → Q () { s with heap := h' }) :
    wpAny (model prog w) A (setItem (.ref b) (.int k t) (.int v u)) Q E s := by
  have hT : s.TypeIs (.ref b) "bytearray" := ⟨_, hb, rfl⟩
  unfold setItem
  refine wpAny_holding ?_
  refine wpAny_bind (wpAny_sequenceKey hT (by decide) ?_)
  refine wpAny_bind (wpAny_callSpecial?_slot (name := Str.ofString "__setitem__") hT bb_slot_set (wpAny_call_entry bb_slot_set hT bb_entry_set ?_ (bb_args_set _ _ _)))
  unfold Builtin.«bytearray.__setitem__»
  refine bm_if_false rfl ?_
  show wpAny _ _ (Builtin.Bytes.subscript? (.int k t) >>= _) _ _ s
  refine wpAny_bind ?_
  unfold Builtin.Bytes.subscript?
  refine wpAny_bind (wpAny_specialOf (T := "int") rfl ba_no_index ?_)
  refine bm_if_false (c := (some (Value.builtin "int.__index__")).isNone) rfl ?_
  refine wpAny_bind (wpAny_of_eq (rfl : asIndex (.int k t) = pure k) ?_)
  refine bm_if_false (by simp only [Builtin.Bytes.fitsIndex]; simp; omega) ?_
  refine wpAny_pure ?_
  show wpAny _ _ (Builtin.Bytes.byteValue (.int v u) >>= _) _ _ s
  refine wpAny_bind ?_
  unfold Builtin.Bytes.byteValue
  refine wpAny_bind (wpAny_of_eq (rfl : asIndex (.int v u) = pure v) ?_)
  refine bm_if_false (by simp; omega) ?_
  refine wpAny_pure ?_
  refine wpAny_bind ?_
  unfold Builtin.Bytes.payload Builtin.Bytes.payload?
  refine wpAny_bind (wpAny_bind (wpAny_load hb (wpAny_pure (wpAny_pure ?_))))
  have e : seqIndex? k x.size = some k.toNat := by
    unfold seqIndex?
    simp only [if_neg (Int.not_lt.mpr h0)]
    rw [if_pos (by simp; omega)]
  rw [e]
  refine wpAny_bind (ba_write hb (by rw [Array.size_setIfInBounds, sizeLine_eq]; omega) fun h' hb' hs' => ?_)
  exact wpAny_pure ⟨.none, rfl, wpAny_pure (h h' hb' hs')⟩

theorem bb_new {b : Addr} {x : Array UInt8} {Q : Value → Shared → Prop} (hb : s.heap.get? b = some { cls := .type "bytearray", data := .bytearray x }) (hz : x.size ≤ 1048576)
    (h : ∀ t k, Q (.bytes x t) { s with toks := k }) :
    codeAny (model prog w) A (.call (.builtin "bytes.__new__") ⟨[.type "bytes", .ref b], []⟩) (wants Q E) s := by
  have hT : s.TypeIs (.ref b) "bytearray" := ⟨_, hb, rfl⟩
  refine codeAny_of_tree ?_
  show wpAny _ A.in1 (do checkBuiltinCall "bytes.__new__" ⟨[.type "bytes", .ref b], []⟩; again (.builtin "bytes.__new__" ⟨[.type "bytes", .ref b], []⟩)) _ _ s
  refine wpAny_bind (wpAny_of_eq (F.bm_newCall _) (wpAny_pure ⟨plainId_quiet F.bm_plain _, codeAny_builtin F.bm_entry ?_⟩))
  rw [Around.under_plainId F.bm_plain _]
  unfold Builtin.«bytes.__new__»
  refine wpAny_bind (wpAny_of_eq (a := true) rfl ?_)
  refine bm_if_false rfl ?_
  refine wpAny_bind (wpAny_of_eq F.bm_sub ?_)
  refine bm_if_false rfl ?_
  refine wpAny_bind (wpAny_of_eq (F.bm_bind _) ?_)
  refine wpAny_bind (wpAny_of_eq (a := ()) rfl ?_)
  refine wpAny_bind (wpAny_of_eq (a := ()) rfl ?_)
  refine bm_if_false rfl ?_
  refine wpAny_bind (wpAny_specialOf hT bb_no_bytes ?_)
  refine wpAny_bind (wpAny_bind ?_)
  show wpAny _ _ (load b >>= _) _ _ _
  refine wpAny_bind (wpAny_load hb ?_)
  refine wpAny_pure (wpAny_pure ?_)
  refine bm_if_false rfl ?_
  refine wpAny_bind (wpAny_specialOf hT bb_no_index ?_)
  refine bm_if_true rfl ?_
  refine wpAny_bind ?_
  refine wpAny_bind ?_
  refine wpAny_specialOf hT bb_buffer ?_
  show wpAny _ _ (Builtin.Bytes.slotIsOwn (.ref b) "__buffer__" >>= _) _ _ _
  refine wpAny_bind ?_
  unfold Builtin.Bytes.slotIsOwn
  refine wpAny_bind (wpAny_specialOf hT bb_buffer ?_)
  dsimp only
  refine bm_if_false (by decide +kernel) ?_
  rw [bb_buf_own]
  refine wpAny_isInstance hT ba_sub ?_
  refine bm_if_false (c := !true) rfl ?_
  refine wpAny_bind (wpAny_specialOf hT bb_buffer ?_)
  show wpAny _ _ (Builtin.Bytes.ownRelease (.ref b) >>= _) _ _ _
  refine wpAny_bind (ba_notOwn hT ?_)
  refine bm_if_false (c := false) rfl ?_
  refine wpAny_bind ?_
  unfold Builtin.Bytes.payload Builtin.Bytes.payload?
  refine wpAny_bind (wpAny_bind (wpAny_load hb (wpAny_pure (wpAny_pure (wpAny_pure ?_)))))
  refine wpAny_bind (wpAny_rule ?_)
  refine wpAny_bind (wpAny_mkBytes ?_ (by rw [sizeLine_eq]; omega))
  show wpAny _ _ (if (Value.type "bytes" == Value.type "bytes") = true then _ else _) _ _ _
  refine bm_if_true (by decide) ?_
  first
    | exact wpAny_pure (h _ _)
    | exact wpAny_bind (wpAny_pure (wpAny_pure (h _ _)))

/-- bytes(b) of a bytearray -/
theorem bb_bytes {b : Addr} {x : Array UInt8} {Q : Value → Shared → Prop} (hb : s.heap.get? b = some { cls := .type "bytearray", data := .bytearray x }) (hz : x.size ≤ 1048576)
    (h : ∀ t k, Q (.bytes x t) { s with toks := k }) : wpAny (model prog w) A (call (.type "bytes") [.ref b]) Q E s := by
  refine callType_codes (Q₁ := fun obj s₁ => s₁.TypeIs obj "bytes" ∧ Q obj s₁) F.bm_called (F.bm_typeCall _) F.entry_object_init
    (bb_new hb hz fun t k => ⟨PySem.W.typeIs_bytes _ _ _, h t k⟩) fun obj s₁ h₁ => ?_
  exact ⟨h₁.1, F.args_object_init_2 obj _, object_init_meets F.bm_called.init.lookup F.bm_called.made (by decide) prog w A.in1 _ s₁ ⟨h₁.1, rfl, h₁.2⟩⟩
end
end Mine
end

theorem Mine.gapRN : True → True := by
  w_top off
  first | (walk1; exact True.intro) | exact id

section
open PySem PySem.Spec PySem.W PySem.Calls PyProof.Rows
set_option Elab.async false
set_option maxRecDepth 100000
namespace Mine
section
variable {prog : Program} {w : World} {A : Around} {E : Value → Shared → Prop} {s : Shared} {env : Env} {h₀ : Heap} {x : Str} {body : List Stmt} {Q : Flow → Shared → Prop}
/-- a for over any range, by what holds of its frame and of the objects that the call has made -/
theorem iter_rangeN {r : Addr} {a₀ b₀ c₀ : Int} {t₀ u₀ v₀ : Tok} {n : Nat} {m₀ : Str → Option Value} {news : List (Addr × Obj)} (J : Nat → (Str → Option Value) → List (Addr × Obj) → Prop)
    (hh : A.handled = none) (hr : IsRange s.heap r a₀ b₀ c₀ t₀ u₀ v₀) (hsmall : Builtin.Range.small a₀ b₀ c₀ = true) (hn : Builtin.Range.rangeSize a₀ b₀ c₀ = (n : Int)) (F : Fr h₀ env.locals s.heap m₀) (N : News h₀ env.locals s.heap news) (hj : J 0 m₀ news)
    (turn : ∀ i t m₁ news₁ h tk own, i < n → news₁.map (·.1) = news.map (·.1) → OwnOff own (news.map (·.1)) → J i m₁ news₁ → Fr h₀ env.locals h (fun y => if y = x then some (.int (a₀ + (i : Nat) * c₀) t) else m₁ y) → News h₀ env.locals h (news₁ ++ own) →
      wpAny (model prog w) A (execs body env) (InvPostN h₀ env.locals (J (i + 1)) own (news.map (·.1)) { s with heap := h, toks := tk } Q) E { s with heap := h, toks := tk })
    (done : ∀ m₁ news₁ h tk, J n m₁ news₁ → Fr h₀ env.locals h m₁ → News h₀ env.locals h news₁ → Q .next { s with heap := h, toks := tk }) :
    wpAny (model prog w) A (pyIter (.ref r)) (fun it s₂ => LoopAtV prog w A h₀ env x body Q E it s₂) E s := by
  refine wpAny_pyIter_range hr hsmall ?_
  have W : Walks prog w A s.heap.objs.size [s.heap.objs.size] [s.heap.objs.size] n (fun i v => ∃ t, v = .int (a₀ + (i : Nat) * c₀) t)
      (fun i h => IsRangeIter h s.heap.objs.size (a₀ + (i : Nat) * c₀) ((n : Int) - (i : Nat)) c₀) := Walks.range hh _ a₀ c₀ n
  let J' : Nat → (Str → Option Value) → List (Addr × Obj) → Prop := fun i m₁ news₁ => news₁.map (·.1) = news.map (·.1) ∧ J i m₁ news₁
  refine ⟨_, _, _, n, _, _, m₀, news, J', rfl, W, ?_, ?_, ?_, ?_, F.push _, (fun p hp => ⟨Heap.get?_push_of_some _ (N p hp).1, (N p hp).2⟩), ⟨rfl, hj⟩, ?_, ?_⟩
  · intro hm
    exact absurd F.ns.lt ((List.mem_singleton.mp hm) ▸ Nat.lt_irrefl _)
  · intro b hb
    rw [List.mem_singleton.mp hb]
    exact next_is_new F
  · intro p hp hI
    exact absurd (Heap.lt_size (N p hp).1) ((List.mem_singleton.mp hI) ▸ Nat.lt_irrefl _)
  · show IsRangeIter _ _ _ _ _
    rw [hn]
    simpa using Heap.get?_push_size _ rfl
  · rintro i v m₁ news₁ s₁ own ⟨hh', tk', rfl⟩ hin ⟨t, rfl⟩ ⟨hadr, hJ⟩ hoff hown _ _ _ F₁ N₁
    have hsep : OwnOff own (news.map (·.1)) := by
      intro p hp b hb e
      obtain ⟨q, hq, rfl⟩ := List.mem_map.mp hb
      have h1 := List.mem_singleton.mp (hown p hp)
      exact absurd (Heap.lt_size (N q hq).1) (by rw [← e, h1]; exact Nat.lt_irrefl _)
    have N₂ : News h₀ env.locals hh' (news₁ ++ own) := fun p hp => N₁ p ((List.mem_append.mp hp).elim (fun h => List.mem_append.mpr (.inr h)) fun h => List.mem_append.mpr (.inl h))
    refine wpAny_mono (turn i t m₁ news₁ hh' tk' own hin hadr hsep hJ F₁ N₂) (fun f s₂ p => ?_) fun _ _ e => e
    have fin : InvEndN h₀ env.locals (J (i + 1)) own (news.map (·.1)) { s with heap := hh', toks := tk' } s₂ → LoopStepU h₀ env.locals [s.heap.objs.size] own (J' (i + 1)) { s with heap := hh', toks := tk' } .next s₂ := by
      rintro ⟨h', tk, m', news', nx, e, F', N', hn, ho, ha, hm⟩
      refine ⟨rfl, h', tk, m', nx, e, F', fun p hp => N' p ((List.mem_append.mp hp).elim (ho p) (hn p)), fun p hp hq => ?_, ha, hm⟩
      have h1 : p.1 ∈ nx.map (·.1) := List.mem_map.mpr ⟨p, hp, rfl⟩
      rw [ha, ← hadr] at h1
      obtain ⟨q, hq1, hq2⟩ := List.mem_map.mp h1
      exact hoff q hq1 (by rw [hq2]; exact hq)
    cases f with
    | ret v => exact .ret p
    | brk => exact .brk p
    | next => exact .next (fin p)
    | cont => exact .cont (fin p)
  · rintro h' tk m' news' F' N' _ ⟨_, hJ⟩
    exact done m' news' h' tk hJ F' N'
end
end Mine
end

theorem Mine.gapKT : True → True := by
  w_top off
  first | (walk1; exact True.intro) | exact id

section
open PySem PySem.Spec PySem.W PySem.Calls PyProof.Rows
set_option Elab.async false
set_option maxRecDepth 100000
namespace Mine
section
variable {M : Model} {A : Around} {E : Value → Shared → Prop} {s : Shared} {env : Env}
/-- a call by its value, the arguments first -/
theorem argsK {pos : Pos} {f : Value} {P : Heap → Prop} {e : PySem.Expr} {rest : List PySem.Expr} {Q : Value → Shared → Prop}
    (hk : ∀ h, P h → ∃ k, (k = Keeper.frame ∨ k = Keeper.machine ∨ k = Keeper.boundFrame) ∧ Looks M h (keeperOf f) k)
    (h : wpK M A (spliced (backTo pos (starEach (e :: rest) env))) (fun vs s₁ => P s₁.heap ∧ wpK M A (call f vs) Q E s₁) E s)
    (he : starEach (e :: rest) env = (false, eval e env) :: starEach rest env := by rfl) (hplain : (backTo pos (starEach rest env)).any (·.1) = false := by rfl) :
    wpK M A (callWith pos f [] (backTo pos (starEach (e :: rest) env)) []) Q E s := by
  refine callWithK (P := P) ?_ hk ?_
  · show ((backTo pos (starEach (e :: rest) env)).any (·.1) || false) = false
    rw [he]
    show ((false || (backTo pos (starEach rest env)).any (·.1)) || false) = false
    rw [hplain]; rfl
  · rw [he] at h ⊢
    exact evalArgsK h
/-- the same of a built-in's type -/
theorem argsK0 {pos : Pos} {f : Value} {e : PySem.Expr} {rest : List PySem.Expr} {Q : Value → Shared → Prop} (hk : keeperOf f = pure .machine)
    (h : wpK M A (spliced (backTo pos (starEach (e :: rest) env))) (fun vs s₁ => wpK M A (call f vs) Q E s₁) E s)
    (he : starEach (e :: rest) env = (false, eval e env) :: starEach rest env := by rfl) (hplain : (backTo pos (starEach rest env)).any (·.1) = false := by rfl) :
    wpK M A (callWith pos f [] (backTo pos (starEach (e :: rest) env)) []) Q E s :=
  argsK (P := fun _ => True) (fun _ _ => ⟨.machine, .inr (.inl rfl), Looks.of_pure hk⟩) (wpK_mono h (fun _ _ x => ⟨trivial, x⟩) fun _ _ x => x) he hplain
theorem keep_any {f : Value} (e : keeperOf f = pure .machine) (h : Heap) (_ : True) : ∃ k, (k = Keeper.frame ∨ k = Keeper.machine ∨ k = Keeper.boundFrame) ∧ Looks M h (keeperOf f) k := ⟨.machine, .inr (.inl rfl), Looks.of_pure e⟩
/-- eval of a call of a name -/
theorem CallNameK {id : Str} {p pos : Pos} {args : List PySem.Expr} {Q : Value → Shared → Prop}
    (h : wpAny M A (eval (.Name id p) env) (fun f s₁ => wpK M A (callWith pos f [] (backTo pos (starEach args env)) []) Q E s₁) E s) :
    wpK M A (eval (.Call (.Name id p) args [] pos) env) Q E s := by
  rw [arm_eval_Call_Name']
  exact wpK_leaf h
end
theorem upd_one {h₀ h h' : Heap} {L b : Addr} {o o' : Obj} {rest : List (Addr × Obj)} (N : News h₀ L h ((b, o) :: rest)) (hr : ∀ p ∈ rest, p.1 ≠ b) (hs : Heap.SameBut b h h') (hb : h'.get? b = some o') : News h₀ L h' ((b, o') :: rest) := by
  have h1 := N (b, o) (.head _)
  intro q hq
  rcases List.mem_cons.mp hq with rfl | hq
  · exact ⟨hb, h1.2⟩
  · have h2 := N q (.tail _ hq)
    exact ⟨(hs.2 q.1 (hr q hq)).trans h2.1, h2.2⟩
theorem upd_fr {h₀ h h' : Heap} {L b : Addr} {m : Str → Option Value} (F : Fr h₀ L h m) (hL : b ≠ L) (hb : h₀.get? b = none) (hs : Heap.SameBut b h h') : Fr h₀ L h' m :=
  ⟨F.ns.sameBut hs (Ne.symm hL), fun c o e => (hs.2 c (fun q => by rw [q, hb] at e; cases e)).trans (F.keep c o e), F.above⟩
end Mine
end

theorem Mine.gapBS : True → True := by
  w_top off
  first | (walk1; exact True.intro) | exact id

section
open PySem PySem.Spec PySem.W PySem.Calls PyProof.Rows
set_option Elab.async false
set_option maxRecDepth 100000
namespace Mine
local macro_rules | `(tactic| walk_at "execs nil") => `(tactic| refine wpAny_execs_nil ?_)
local macro_rules | `(tactic| walk_at "execs cons") => `(tactic| refine wpAny_execs_cons ?_)
/-- what a call of a def hands back, whatever frame it is called from -/
abbrev Spc (prog : Program) (w : World) (K : Frag) (p : Program) (loose : List Str) (mean : ExcName → Option Value) (mg mb : Str → Option Value) (nd nu : Nat) (f : Addr) (vs : List Value) (R : Tok → Value) : Prop :=
  ∀ (dp un : Nat) (gd : Option (List Code)) (cn : Str) (cs : Scope) (a : Addr) (ccd : Value) (cl : List (Str × Addr)) (outer : List Env) (A₀ : Around) (base h₀ : Heap) (L : Addr) (m : Str → Option Value) (news : List (Addr × Obj)) (s : Shared) (Q E : Value → Shared → Prop),
    Below A₀ base outer h₀ → Fr h₀ L s.heap m → K.In h₀ → News h₀ L s.heap news → Top p loose mean mg mb h₀ → cs.kind = .function → dp + nd < recursionLimit → un + nu < cLine →
    CbRet h₀ L m news s Q R → wpK (model prog w) (ktrTop dp un gd cn cs L a ccd cl outer) (call (.ref f) vs) Q E s


def swapAt (l : List UInt8) (wd q : Nat) : UInt8 := l.getD (q / wd * wd + (wd - 1 - q % wd)) 0
def swapL (wd : Nat) (l : List UInt8) : List UInt8 := (List.range l.length).map (swapAt l wd)
abbrev baO (x : Array UInt8) : Obj := { cls := .type "bytearray", data := .bytearray x }
theorem fr_congr {h₀ h : Heap} {L : Addr} {m m' : Str → Option Value} (F : Fr h₀ L h m) (e : ∀ y, m y = m' y) : Fr h₀ L h m' := (funext e : m = m') ▸ F
theorem size_step {wd k : Nat} (hw : 0 < wd) : Builtin.Range.rangeSize 0 ((wd * k : Nat) : Int) (wd : Int) = (k : Int) := by
  unfold Builtin.Range.rangeSize
  rw [if_pos (by omega)]
  cases k with
  | zero => simp
  | succ k =>
    rw [if_pos (by have : 0 < wd * (k + 1) := Nat.mul_pos hw (Nat.succ_pos _); omega)]
    have e : ((wd * (k + 1) : Nat) : Int) - 0 - 1 = ((wd * k + (wd - 1) : Nat) : Int) := by rw [Nat.mul_succ]; omega
    rw [e]
    have e2 : (((wd * k + (wd - 1) : Nat) : Int)) / (wd : Int) = (((wd * k + (wd - 1)) / wd : Nat) : Int) := rfl
    rw [e2, Nat.mul_add_div hw, Nat.div_eq_of_lt (by omega)]
    omega
theorem fits_long {x : Int} (h0 : 0 ≤ x) (h1 : x ≤ 1000000) : Builtin.Range.rangeFitsLong x = true := by
  unfold Builtin.Range.rangeFitsLong
  rw [Bool.and_eq_true, decide_eq_true_eq, decide_eq_true_eq]
  constructor <;> omega
theorem small_of {b c n : Int} (hb : 0 ≤ b) (hb2 : b ≤ 100000) (hc : 0 < c) (hc2 : c ≤ 100000) (hn : Builtin.Range.rangeSize 0 b c = n) (hn0 : 0 ≤ n) (hn2 : n ≤ 100000) : Builtin.Range.small 0 b c = true := by
  unfold Builtin.Range.small
  rw [hn, fits_long (by omega) (by omega), fits_long hb (by omega), fits_long (by omega) (by omega), fits_long hn0 (by omega), if_pos (by omega), fits_long (by omega) (by omega)]
  simp
set_option maxHeartbeats 8000000 in
theorem bs_spec {w : World} {mean : ExcName → Option Value} {mg mb : Str → Option Value} {l : List UInt8} {k wd : Nat} (hw : 0 < wd) (hw2 : wd ≤ 65536) (hl : l.length = wd * k) (hz : l.length ≤ 65536) (t u : Tok) :
    Spc PySem.Challenge.rw_wf0012_01.row.prog w (hd.heap_39 w.params) hd.view_39 (looseW hd.view_39 []) mean mg mb 5 60 21 [.bytes l.toArray t, .int wd u] (fun t => .bytes (swapL wd l).toArray t) := by
  k_fill
  intro dp un gd cn cs a ccd cl outer A₀ base h₀ L m news s Q E B F X N T hk hd hu hret
  refine wpK_call ?_
  refine' defK (binds := [(Str.ofString "data", .bytes l.toArray t), (Str.ofString "width", .int wd u)]) ?k1 ?k2 ?k3 ?k4 ?k5 ?kA ?kF ?kK ?k6 ?k7 ?k8 ?k9 ?kB ?_ ?c2 ?c3 ?c4 ?c5
  case kA => exact rfl
  case kF => exact rfl
  case kK => assumption
  case k1 => k_asm
  case k2 => k_asm
  case k3 => k_asm
  case k4 => k_asm
  case k5 => k_asm
  case k6 => k_is
  case k7 => k_is
  case k8 => ktr_room
  case k9 => exact BindsTo.of_eq rfl
  case c5 => decide
  case kB => exact locs rfl
  case c2 => exact rfl
  case c3 => exact rfl
  case c4 => exact rfl
  intro g' L' h' FG' F' N' B' X' T' lt'
  try dsimp only
  refine execsK_cons (AssignNameK (CallNameK ?_))
  walk1
  refine argsK0 rfl (wpK_of ?_)
  repeat walk1
  refine ba_call (by omega) (by simp; omega) fun h₁ k₁ hb₁ hk₁ => ?_
  have F₁ : Fr g' L' h₁ (fun y => List.lookup y [(Str.ofString "data", Value.bytes l.toArray t), (Str.ofString "width", Value.int wd u)].reverse) := Fr.keeps (by assumption) hk₁
  have hbL : h'.objs.size ≠ L' := by
    intro e
    rename Fr g' L' h' _ => F'
    exact absurd F'.ns.lt (by rw [e]; exact Nat.lt_irrefl _)
  have N₁ : News g' L' h₁ ((h'.objs.size, { cls := .type "bytearray", data := .bytearray (Array.replicate l.length 0) }) :: news) := by
    intro q hq
    rcases List.mem_cons.mp hq with rfl | hq
    · refine ⟨by simpa using hb₁, hbL, ?_⟩
      rename Fr g' L' h' _ => F'
      cases e : g'.get? h'.objs.size with
      | none => rfl
      | some o => exact absurd (Heap.lt_size (F'.keep _ _ e)) (Nat.lt_irrefl _)
    · exact ⟨hk₁ _ _ (N' q hq).1, (N' q hq).2⟩
  generalize hbb : h'.objs.size = b at *
  clear hb₁ hk₁ N'
  have hnb : ∀ p ∈ news, p.1 ≠ b := fun p hp => Nat.ne_of_lt (hbb ▸ Nat.lt_trans (lt' p hp) (by rename Fr g' L' h' _ => F'; exact F'.ns.lt))
  have hgb : g'.get? b = none := (N₁ _ (.head _)).2.2
  refine storeX_L F₁ N₁ (fun h₂ F₂ N₂ => ?_) rfl rfl
  clear F₁ N₁
  refine execsK_leaf ?_
  refine For_invVF F₂ rfl rfl ?_
  iterate 16 walk1
  refine range3_rows F₂ N₂ (by omega) (fun h₃ tk₃ t₁ u₁ v₁ R₃ F₃ N₃ _ => ?_) (Or.inl (PyProof.noPylong_small (by simp; omega)))
  clear F₂ N₂
  have hsz : Builtin.Range.rangeSize 0 (l.toArray.size : Int) (wd : Int) = (k : Int) := by
    rw [List.size_toArray, hl]; exact size_step hw
  have hsm : Builtin.Range.small 0 (l.toArray.size : Int) (wd : Int) = true := by
    have hk2 : k ≤ l.length := by rw [hl]; exact Nat.le_mul_of_pos_left k hw
    exact small_of (by rw [List.size_toArray]; omega) (by rw [List.size_toArray]; omega) (by omega) (by omega) hsz (by omega) (by omega)
  refine iter_rangeN (n := k) (fun i m nx => (∀ y, y ≠ Str.ofString "i" → y ≠ Str.ofString "j" → m y = (if y = Str.ofString "swapped_data" then some (Value.ref b) else List.lookup y [(Str.ofString "data", Value.bytes l.toArray t), (Str.ofString "width", Value.int wd u)].reverse)) ∧
      ∃ arr : Array UInt8, nx = (b, baO arr) :: news ∧ arr.size = l.length ∧ ∀ q, q < i * wd → arr[q]? = some (swapAt l wd q)) rfl R₃ hsm hsz F₃ N₃ ⟨fun _ _ _ => rfl, Array.replicate l.length 0, rfl, by simp, fun q hq => by simp at hq⟩ ?_ ?_
  · clear F₃ N₃ R₃
    rintro i ti m₁ news₁ h₄ tk₄ own hi _ hsep ⟨hm, arr, rfl, harr, hspec⟩ F₄ N₄
    obtain ⟨P, hP⟩ : ∃ P, P = i * wd := ⟨_, rfl⟩
    have hPw : P + wd ≤ l.length := by
      rw [hP, hl]
      calc i * wd + wd = wd * (i + 1) := by rw [Nat.mul_succ, Nat.mul_comm]
        _ ≤ wd * k := Nat.mul_le_mul_left _ hi
    have F₅ : Fr g' L' h₄ (fun y => if y = Str.ofString "i" then some (.int (P : Int) ti) else if y = Str.ofString "j" then m₁ (Str.ofString "j") else if y = Str.ofString "swapped_data" then some (Value.ref b) else List.lookup y [(Str.ofString "data", Value.bytes l.toArray t), (Str.ofString "width", Value.int wd u)].reverse) := by
      refine fr_congr F₄ fun y => ?_
      by_cases h1 : y = Str.ofString "i"
      · rw [if_pos h1, if_pos h1, hP]; simp
      · rw [if_neg h1, if_neg h1]
        by_cases h2 : y = Str.ofString "j"
        · rw [if_pos h2, h2]
        · rw [if_neg h2]; exact hm y h1 h2
    clear F₄
    refine wpAny_execs_cons ?_
    refine For_invVF F₅ rfl rfl ?_
    iterate 6 walk1
    refine range1_rows F₅ N₄ (fun h₅ tk₅ t₂ u₂ v₂ R₅ F₆ N₆ _ => ?_)
    clear F₅ N₄
    have hsz2 : Builtin.Range.rangeSize 0 (wd : Int) 1 = (wd : Int) := by
      have := size_step (wd := 1) (k := wd) (by decide)
      rw [Nat.one_mul] at this
      exact this
    have hsm2 : Builtin.Range.small 0 (wd : Int) 1 = true := small_of (by omega) (by omega) (by omega) (by omega) hsz2 (by omega) (by omega)
    have hsepb : ∀ p ∈ news ++ own, p.1 ≠ b := fun p hp => (List.mem_append.mp hp).elim (hnb p) fun h => hsep p h b (by simp)
    refine iter_rangeN (n := wd) (news := (b, baO arr) :: (news ++ own)) (fun j m nx => (∀ y, y ≠ Str.ofString "j" → m y = (if y = Str.ofString "i" then some (.int (P : Int) ti) else if y = Str.ofString "swapped_data" then some (Value.ref b) else List.lookup y [(Str.ofString "data", Value.bytes l.toArray t), (Str.ofString "width", Value.int wd u)].reverse)) ∧
        ∃ arr : Array UInt8, nx = (b, baO arr) :: (news ++ own) ∧ arr.size = l.length ∧ (∀ q, q < P → arr[q]? = some (swapAt l wd q)) ∧ ∀ q, P + wd ≤ q + j → q < P + wd → arr[q]? = some (swapAt l wd q)) rfl R₅ hsm2 hsz2 F₆ N₆ ⟨fun y hy => by (by_cases h1 : y = Str.ofString "i"); (rw [if_pos h1, if_pos h1]); (rw [if_neg h1, if_neg h1, if_neg hy]), arr, rfl, harr, fun q hq => hspec q (hP ▸ hq), fun q h1 h2 => by omega⟩ ?_ ?_
    · clear F₆ N₆ R₅
      rintro j tj m₂ news₂ h₆ tk₆ own₂ hj _ hsep₂ ⟨hm₂, arr₂, rfl, harr₂, hs₂, hs₃⟩ F₇ N₇
      have F₈ : Fr g' L' h₆ (fun y => if y = Str.ofString "j" then some (.int (j : Int) tj) else if y = Str.ofString "i" then some (.int (P : Int) ti) else if y = Str.ofString "swapped_data" then some (Value.ref b) else List.lookup y [(Str.ofString "data", Value.bytes l.toArray t), (Str.ofString "width", Value.int wd u)].reverse) := by
        refine fr_congr F₇ fun y => ?_
        by_cases h1 : y = Str.ofString "j"
        · rw [if_pos h1, if_pos h1]; simp
        · rw [if_neg h1, if_neg h1]; exact hm₂ y h1
      clear F₇
      have hPj : P + j < l.length := by omega
      refine wpAny_execs_cons (wpAny_Assign_Subscript ?_)
      repeat walk1
      refine bb_setItem (N₇ (b, baO arr₂) (.head _)).1 (by omega) (by rw [harr₂]; omega) (by omega) (Int.natCast_nonneg _) (by have := UInt8.toNat_lt (l.getD ((P : Int) + (j : Int)).toNat 0); omega) fun h₇ hb₇ hs₇ => ?_
      dsimp only
      refine wpAny_execs_nil ?_
      have hgb2 : b ≠ L' := (N₇ (b, baO arr₂) (.head _)).2.1
      have F₉ := upd_fr F₈ hgb2 hgb hs₇
      have N₉ : News g' L' h₇ ((b, baO (arr₂.setIfInBounds ((P : Int) + (wd : Int) - 1 - (j : Int)).toNat ((((l.getD ((P : Int) + (j : Int)).toNat 0).toNat : Nat) : Int)).toNat.toUInt8)) :: ((news ++ own) ++ own₂)) := upd_one N₇ (fun p hp => (List.mem_append.mp hp).elim (hsepb p) fun h => hsep₂ p h b (by simp)) hs₇ hb₇
      refine ⟨h₇, _, _, _, (b, baO (arr₂.setIfInBounds ((P : Int) + (wd : Int) - 1 - (j : Int)).toNat ((((l.getD ((P : Int) + (j : Int)).toNat 0).toNat : Nat) : Int)).toNat.toUInt8)) :: (news ++ own), rfl, F₉, N₉, fun p hp => ?_, fun p hp => .tail _ (List.mem_append_right _ hp), rfl, fun y hy => if_neg hy, _, rfl, by rw [Array.size_setIfInBounds, harr₂], fun q hq => ?_, fun q h1 h2 => ?_⟩
      · rcases List.mem_cons.mp hp with rfl | hp
        · exact .head _
        · exact .tail _ (List.mem_append_left _ hp)
      · rw [Array.getElem?_setIfInBounds_ne (by omega)]
        exact hs₂ q hq
      · by_cases hq : q = P + wd - 1 - j
        · subst hq
          have e1 : ((P : Int) + (wd : Int) - 1 - (j : Int)).toNat = P + wd - 1 - j := by omega
          rw [e1, Array.getElem?_setIfInBounds_self_of_lt (by omega)]
          have e2 : ((P : Int) + (j : Int)).toNat = P + j := by omega
          rw [e2]
          have e3 : (P + wd - 1 - j) / wd = i := by
            rw [hP]
            have : i * wd + wd - 1 - j = wd * i + (wd - 1 - j) := by rw [Nat.mul_comm]; omega
            rw [this, Nat.mul_add_div hw, Nat.div_eq_of_lt (by omega)]; omega
          have e4 : (P + wd - 1 - j) % wd = wd - 1 - j := by
            rw [hP]
            have : i * wd + wd - 1 - j = (wd - 1 - j) + wd * i := by rw [Nat.mul_comm]; omega
            rw [this, Nat.add_mul_mod_self_left, Nat.mod_eq_of_lt (by omega)]
          unfold swapAt
          rw [e3, e4, ← hP]
          have e5 : wd - 1 - (wd - 1 - j) = j := by omega
          rw [e5]
          simp
        · have e1 : ((P : Int) + (wd : Int) - 1 - (j : Int)).toNat = P + wd - 1 - j := by omega
          rw [e1, Array.getElem?_setIfInBounds_ne (by omega)]
          exact hs₃ q (by omega) h2
    · clear F₆ N₆ R₅
      rintro m₂ news₂ h₆ tk₆ ⟨hm₂, arr₂, rfl, harr₂, hs₂, hs₃⟩ F₇ N₇
      dsimp only
      refine wpAny_execs_nil ?_
      refine ⟨h₆, tk₆, m₂, (b, baO arr₂) :: (news ++ own), (b, baO arr₂) :: news, rfl, F₇, N₇, ?_, ?_, rfl, ?_, arr₂, rfl, harr₂, ?_⟩
      · intro p hp
        rcases List.mem_cons.mp hp with rfl | hp
        · exact .head _
        · exact .tail _ (List.mem_append_left _ hp)
      · intro p hp
        exact .tail _ (List.mem_append_right _ hp)
      · intro y h1 h2
        rw [hm₂ y h2, if_neg h1]
      · intro q hq
        by_cases hq1 : q < P
        · exact hs₂ q hq1
        · refine hs₃ q (by omega) ?_
          rw [hP]
          have : (i + 1) * wd = i * wd + wd := Nat.succ_mul i wd
          omega
  · clear F₃ N₃ R₃
    rintro m₁ news₁ h₄ tk₄ ⟨hm, arr, rfl, harr, hspec⟩ F₄ N₄
    have F₅ : Fr g' L' h₄ (fun y => if y = Str.ofString "i" then m₁ (Str.ofString "i") else if y = Str.ofString "j" then m₁ (Str.ofString "j") else if y = Str.ofString "swapped_data" then some (Value.ref b) else List.lookup y [(Str.ofString "data", Value.bytes l.toArray t), (Str.ofString "width", Value.int wd u)].reverse) := by
      refine fr_congr F₄ fun y => ?_
      by_cases h1 : y = Str.ofString "i"
      · rw [if_pos h1, h1]
      · rw [if_neg h1]
        by_cases h2 : y = Str.ofString "j"
        · rw [if_pos h2, h2]
        · rw [if_neg h2]; exact hm y h1 h2
    clear F₄
    dsimp only
    refine wpK_of (wpAny_execs_cons (wpAny_Return_some ?_))
    repeat walk1
    refine bb_bytes (N₄ (b, baO arr) (.head _)).1 (by omega) fun t' k' => ?_
    have e : arr = (swapL wd l).toArray := by
      apply Array.ext_getElem?
      intro q
      by_cases hq : q < l.length
      · rw [hspec q (by rw [hl] at hq; rw [Nat.mul_comm]; exact hq)]
        simp [swapL, hq]
      · rw [Array.getElem?_eq_none (by omega), List.getElem?_toArray, List.getElem?_eq_none (by rw [swapL, List.length_map, List.length_range]; exact Nat.le_of_not_lt hq)]
    rw [e]
    exact ⟨L', _, news, F₅, fun p hp => N₄ p (.tail _ hp), fun Fz Nz => hret t' _ k' Fz Nz⟩
end Mine
end

theorem Mine.gapFL : True → True := by
  w_top off
  first | (walk1; exact True.intro) | exact id

section
open PySem PySem.Spec PySem.W PySem.Calls PyProof.Rows
set_option Elab.async false
set_option maxRecDepth 100000
namespace Mine
def toI (x : UInt64) : Option Int := match Float64.decode x with | .fin sg m e => some (Float64.truncOf sg m e) | _ => none
abbrev f0 : UInt64 := 0
abbrev f1 : UInt64 := 0x3FF0000000000000
abbrev f2 : UInt64 := 0x4000000000000000
abbrev f4 : UInt64 := 0x4010000000000000
abbrev f6 : UInt64 := 0x4018000000000000
/-- the three parts of hsv_to_rgb at s = v = 1 -/
abbrev hP : UInt64 := Float64.mul f1 (Float64.sub f1 f1)
abbrev hF (h : UInt64) (i : Int) : UInt64 := Float64.sub (Float64.mul h f6) (Float64.ofInt i)
abbrev hQ (h : UInt64) (i : Int) : UInt64 := Float64.mul f1 (Float64.sub f1 (Float64.mul f1 (hF h i)))
abbrev hT (h : UInt64) (i : Int) : UInt64 := Float64.mul f1 (Float64.sub f1 (Float64.mul f1 (Float64.sub f1 (hF h i))))
/-- rgb_to_hsv where the greatest is 1.0 and the least 0.0 -/
abbrev rR : UInt64 := Float64.sub f1 f0
abbrev rC (x : UInt64) : UInt64 := Float64.div (Float64.sub f1 x) rR
abbrev rS : UInt64 := Float64.div rR f1
abbrev rEnd (x : UInt64) : UInt64 := (Float64.divmod (Float64.div x f6) f1).2
abbrev rH0 (_r g b : UInt64) : UInt64 := rEnd (Float64.sub (rC b) (rC g))
abbrev rH1 (r _g b : UInt64) : UInt64 := rEnd (Float64.sub (Float64.add f2 (rC r)) (rC b))
abbrev rH2 (r g _b : UInt64) : UInt64 := rEnd (Float64.sub (Float64.add f4 (rC g)) (rC r))
abbrev mH (w d : Nat) : UInt64 := Float64.ofFrac false d w
abbrev tN (u d i : Nat) : Nat := 3 * d - i * u
abbrev qN (u d i : Nat) : Nat := u - (3 * d - i * u)
/-- the colours before the exchange, by sextant -/
abbrev col (u d : Nat) : Nat → Nat × Nat × Nat
  | 0 => (u, tN u d 0, 0)
  | 1 => (qN u d 1, u, 0)
  | 2 => (0, u, tN u d 2)
  | 3 => (0, qN u d 3, u)
  | 4 => (tN u d 4, 0, u)
  | _ => (u, 0, qN u d 5)
abbrev prt (h : UInt64) : Nat → UInt64 × UInt64 × UInt64
  | 0 => (f1, hT h 0, hP)
  | 1 => (hQ h 1, f1, hP)
  | 2 => (hP, f1, hT h 2)
  | 3 => (hP, hQ h 3, f1)
  | 4 => (hT h 4, hP, f1)
  | _ => (f1, hP, hQ h 5)
/-- which branch of rgb_to_hsv: 0 red, 1 green, 2 else -/
abbrev brn : Nat → Nat
  | 0 => 0 | 1 => 2 | 2 => 2 | 3 => 1 | 4 => 1 | _ => 0
abbrev sxt (w d : Nat) : Nat := 6 * d / w
abbrev rHue (b : Nat) (x y z : UInt64) : UInt64 := match b with | 0 => rH0 x y z | 1 => rH1 x y z | _ => rH2 x y z
def facts (w u d : Nat) : Bool :=
  let i := sxt w d
  let h := mH w d
  let c := col u d i
  let p := prt h i
  let r := Float64.ofFrac false c.1 u
  let g := Float64.ofFrac false c.2.2 u
  let b := Float64.ofFrac false c.2.1 u
  toI (Float64.mul h f6) == some (i : Int) && decide (i < 6) && decide (c.1 < 256) && decide (c.2.1 < 256) && decide (c.2.2 < 256) &&
  toI (Float64.mul p.1 (Float64.ofInt u)) == some (c.1 : Int) && toI (Float64.mul p.2.1 (Float64.ofInt u)) == some (c.2.1 : Int) && toI (Float64.mul p.2.2 (Float64.ofInt u)) == some (c.2.2 : Int) &&
  Flt.maxOfBits [r, g, b] == f1 && Flt.minOfBits [r, g, b] == f0 &&
  ((Float64.cmp r f1 == some .eq) == (brn i == 0)) && (brn i == 0 || ((Float64.cmp g f1 == some .eq) == (brn i == 1))) &&
  toI (Float64.mul (Float64.mul (Float64.mul (rHue (brn i) r g b) rS) f1) (Float64.ofInt w)) == some (((w - d) % w : Nat) : Int)
structure Facts (w u d i : Nat) (c : Nat × Nat × Nat) (p : UInt64 × UInt64 × UInt64) (r g b : UInt64) : Prop where
  six : toI (Float64.mul (mH w d) f6) = some (i : Int)
  i6 : i < 6
  c1 : c.1 < 256
  c2 : c.2.1 < 256
  c3 : c.2.2 < 256
  p1 : toI (Float64.mul p.1 (Float64.ofInt u)) = some (c.1 : Int)
  p2 : toI (Float64.mul p.2.1 (Float64.ofInt u)) = some (c.2.1 : Int)
  p3 : toI (Float64.mul p.2.2 (Float64.ofInt u)) = some (c.2.2 : Int)
  mx : Flt.maxOfBits [r, g, b] = f1
  mn : Flt.minOfBits [r, g, b] = f0
  br : (Float64.cmp r f1 == some .eq) = (brn i == 0)
  bg : (brn i == 0) = true ∨ (Float64.cmp g f1 == some .eq) = (brn i == 1)
  fin : toI (Float64.mul (Float64.mul (Float64.mul (rHue (brn i) r g b) rS) f1) (Float64.ofInt w)) = some (((w - d) % w : Nat) : Int)
theorem facts_of {w u d : Nat} (h : facts w u d = true) : ∃ i c p, Facts w u d i c p (Float64.ofFrac false c.1 u) (Float64.ofFrac false c.2.2 u) (Float64.ofFrac false c.2.1 u) ∧ p = prt (mH w d) i := by
  refine ⟨sxt w d, col u d (sxt w d), prt (mH w d) (sxt w d), ?_, rfl⟩
  unfold facts at h
  simp only [Bool.and_eq_true, decide_eq_true_eq, beq_iff_eq, Bool.or_eq_true] at h
  obtain ⟨⟨⟨⟨⟨⟨⟨⟨⟨⟨⟨⟨a1, a2⟩, a3⟩, a4⟩, a5⟩, a6⟩, a7⟩, a8⟩, a9⟩, a10⟩, a11⟩, a12⟩, a13⟩ := h
  refine ⟨a1, a2, a3, a4, a5, a6, a7, a8, a9, a10, a11, ?_, a13⟩
  · rcases a12 with a12 | a12
    · exact .inl (by simpa using a12)
    · exact .inr a12
end Mine
end

theorem Mine.gapFA : True → True := by
  w_top off
  first | (walk1; exact True.intro) | exact id

section
open PySem PySem.Spec PySem.W PySem.Calls PyProof.Rows
set_option Elab.async false
set_option maxRecDepth 100000
namespace Mine
theorem faaa : ∀ r, r < 8 → facts 8 4 (0 + r) = true := by decide +kernel
theorem faa : ∀ d, d < 8 → facts 8 4 d = true := fun d h => by
  have := faaa d h
  rwa [Nat.zero_add] at this
theorem faba : ∀ r, r < 16 → facts 16 8 (0 + r) = true := by decide +kernel
theorem fab : ∀ d, d < 16 → facts 16 8 d = true := fun d h => by
  have := faba d h
  rwa [Nat.zero_add] at this
theorem faca : ∀ r, r < 32 → facts 32 16 (0 + r) = true := by decide +kernel
theorem fac : ∀ d, d < 32 → facts 32 16 d = true := fun d h => by
  have := faca d h
  rwa [Nat.zero_add] at this
theorem fada : ∀ r, r < 32 → facts 64 32 (0 + r) = true := by decide +kernel
theorem fadb : ∀ r, r < 32 → facts 64 32 (32 + r) = true := by decide +kernel
theorem fad : ∀ d, d < 64 → facts 64 32 d = true := fun d h => by
  have hr : d % 32 < 32 := Nat.mod_lt _ (by decide)
  have hj : d = 0 + d % 32 ∨ d = 32 + d % 32 := by omega
  rcases hj with e | e
  · rw [e]; exact fada _ hr
  · rw [e]; exact fadb _ hr
theorem faea : ∀ r, r < 32 → facts 128 64 (0 + r) = true := by decide +kernel
theorem faeb : ∀ r, r < 32 → facts 128 64 (32 + r) = true := by decide +kernel
theorem faec : ∀ r, r < 32 → facts 128 64 (64 + r) = true := by decide +kernel
theorem faed : ∀ r, r < 32 → facts 128 64 (96 + r) = true := by decide +kernel
theorem fae : ∀ d, d < 128 → facts 128 64 d = true := fun d h => by
  have hr : d % 32 < 32 := Nat.mod_lt _ (by decide)
  have hj : d = 0 + d % 32 ∨ d = 32 + d % 32 ∨ d = 64 + d % 32 ∨ d = 96 + d % 32 := by omega
  rcases hj with e | e | e | e
  · rw [e]; exact faea _ hr
  · rw [e]; exact faeb _ hr
  · rw [e]; exact faec _ hr
  · rw [e]; exact faed _ hr
theorem fafa : ∀ r, r < 32 → facts 256 128 (0 + r) = true := by decide +kernel
theorem fafb : ∀ r, r < 32 → facts 256 128 (32 + r) = true := by decide +kernel
theorem fafc : ∀ r, r < 32 → facts 256 128 (64 + r) = true := by decide +kernel
theorem fafd : ∀ r, r < 32 → facts 256 128 (96 + r) = true := by decide +kernel
theorem fafe : ∀ r, r < 32 → facts 256 128 (128 + r) = true := by decide +kernel
theorem faff : ∀ r, r < 32 → facts 256 128 (160 + r) = true := by decide +kernel
theorem fafg : ∀ r, r < 32 → facts 256 128 (192 + r) = true := by decide +kernel
theorem fafh : ∀ r, r < 32 → facts 256 128 (224 + r) = true := by decide +kernel
theorem faf : ∀ d, d < 256 → facts 256 128 d = true := fun d h => by
  have hr : d % 32 < 32 := Nat.mod_lt _ (by decide)
  have hj : d = 0 + d % 32 ∨ d = 32 + d % 32 ∨ d = 64 + d % 32 ∨ d = 96 + d % 32 ∨ d = 128 + d % 32 ∨ d = 160 + d % 32 ∨ d = 192 + d % 32 ∨ d = 224 + d % 32 := by omega
  rcases hj with e | e | e | e | e | e | e | e
  · rw [e]; exact fafa _ hr
  · rw [e]; exact fafb _ hr
  · rw [e]; exact fafc _ hr
  · rw [e]; exact fafd _ hr
  · rw [e]; exact fafe _ hr
  · rw [e]; exact faff _ hr
  · rw [e]; exact fafg _ hr
  · rw [e]; exact fafh _ hr
theorem facts_all : ∀ k, k < 6 → ∀ d, d < 2 ^ (3 + k) → facts (2 ^ (3 + k)) (2 ^ (2 + k)) d = true
  | 0, _ => faa
  | 1, _ => fab
  | 2, _ => fac
  | 3, _ => fad
  | 4, _ => fae
  | 5, _ => faf
end Mine
end

theorem Mine.gapFM : True → True := by
  w_top off
  first | (walk1; exact True.intro) | exact id

section
open PySem PySem.Spec PySem.W PySem.Calls PyProof.Rows
set_option Elab.async false
set_option maxRecDepth 100000
namespace Mine
section
variable {prog : Program} {w : World} {A : Around} {E : Value → Shared → Prop} {s : Shared}
theorem int_toI {x : UInt64} {u : Tok} {i : Int} {Q : Value → Shared → Prop} (e : toI x = some i) (h : Q (.int i s.toks) { s with toks := s.toks + 1 }) :
    wpAny (model prog w) A (call (.type "int") [.float x u]) Q E s := by
  unfold toI at e
  cases hd : Float64.decode x with
  | fin sg m ex => rw [hd] at e; cases e; exact call_int_float hd h
  | nan => rw [hd] at e; cases e
  | inf b => rw [hd] at e; cases e
theorem div_nn {a b : Int} {t u : Tok} {Q : Value → Shared → Prop} (ha : 0 ≤ a) (ha2 : a ≤ 100000) (hb : 0 < b) (hb2 : b ≤ 100000)
    (h : Q (.float (Float64.ofFrac false a.toNat b.toNat) s.toks) { s with toks := s.toks + 1 }) : wpAny (model prog w) A (binaryOp .Div (.int a t) (.int b u)) Q E s := by
  have e1 : a.natAbs = a.toNat := by omega
  have e2 : b.natAbs = b.toNat := by omega
  have e3 : (decide (a < 0) != decide (b < 0)) = false := by
    have h1 : decide (a < 0) = false := by simp; omega
    have h2 : decide (b < 0) = false := by simp; omega
    rw [h1, h2]; rfl
  refine AutoIntOps.truediv_2 (by simp; omega) ?_ ?_
  · exact Flt.quot_fits (by omega) (Nat.lt_of_le_of_lt (show a.natAbs ≤ 100000 by omega) (by decide))
  · rw [e1, e2, e3]; exact h
theorem argBest3 (bt : Nat → Nat → Bool) : argBest bt 2 = if bt 2 (if bt 1 0 then 1 else 0) then 2 else (if bt 1 0 then 1 else 0) := by
  simp [argBest]
theorem max_three_F {a b c mx : UInt64} {t u x : Tok} {Q : Value → Shared → Prop} {h₀ : Heap} {L : Addr} {m : Str → Option Value} {news : List (Addr × Obj)} (e : Flt.maxOfBits [a, b, c] = mx) (hh : A.handled = none) (F : Fr h₀ L s.heap m) (N : News h₀ L s.heap news)
    (h : ∀ t' h' tk, Fr h₀ L h' m → News h₀ L h' news → Q (.float mx t') { s with heap := h', toks := tk }) :
    wpAny (model prog w) A (call (.builtin "max") [.float a t, .float b u, .float c x]) Q E s := by
  have hT : (s.heap.push { cls := .type "tuple", data := .seq #[.float a t, .float b u, .float c x] }).IsTuple s.heap.objs.size #[.float a t, .float b u, .float c x] := ⟨_, Heap.get?_push_size _ rfl, rfl, 0, rfl⟩
  refine call_max_three (wpAny_pyIter_tuple hT ?_)
  have hsz : (s.heap.push { cls := .type "tuple", data := .seq #[.float a t, .float b u, .float c x] }).objs.size = s.heap.objs.size + 1 := Heap.size_push ..
  refine ⟨_, [_, s.heap.objs.size], [_], _, _, _, _, rfl, Walks.tuple (A := A.in1) hh _ s.heap.objs.size (by rw [hsz]; exact Nat.ne_of_lt (Nat.lt_succ_self _)) #[.float a t, .float b u, .float c x],
    ⟨⟨_, Heap.get?_push_size _ rfl, rfl, rfl⟩, hT.push _⟩, fun d hd => ?_, by simp, Flt.cmpOf_gt #[.float a t, .float b u, .float c x] (by intro v hv; simp at hv; rcases hv with rfl | rfl | rfl <;> constructor), fun v h' tk hP hk => ?_⟩
  · show d < ((s.heap.push _).push _).objs.size
    rw [Heap.size_push, hsz]
    rcases List.mem_cons.mp hd with rfl | hd
    · rw [hsz]; exact Nat.lt_succ_self _
    · rcases List.mem_cons.mp hd with rfl | hd
      · exact Nat.lt_succ_of_lt (Nat.lt_succ_self _)
      · cases hd
  · have hold : ∀ d o, s.heap.get? d = some o → h'.get? d = some o := fun d o e => by
      refine hk d o (fun hm => ?_) (Heap.get?_push_of_some _ (Heap.get?_push_of_some _ e))
      rcases List.mem_cons.mp hm with e1 | hm
      · have := Heap.lt_size e; rw [e1, hsz] at this; exact Nat.lt_irrefl _ (Nat.lt_of_succ_lt this)
      · cases hm
    have hv : ∃ t', v = .float mx t' := by
      have hP' : (#[Value.float a t, Value.float b u, Value.float c x] : Array Value)[argBest (fun i j => Flt.ltV ((#[Value.float a t, Value.float b u, Value.float c x] : Array Value).getD j .none) ((#[Value.float a t, Value.float b u, Value.float c x] : Array Value).getD i .none)) 2]? = some v := hP
      rw [argBest3] at hP'
      subst e
      cases h1 : (Float64.cmp a b == some .lt)
      · cases h2 : (Float64.cmp a c == some .lt) <;> simp [Flt.ltV, h1, h2] at hP' <;> exact ⟨_, by rw [← hP']; simp [Flt.maxOfBits, Flt.bestBits, Flt.gtB, h1, h2]; rfl⟩
      · cases h2 : (Float64.cmp b c == some .lt) <;> simp [Flt.ltV, h1, h2] at hP' <;> exact ⟨_, by rw [← hP']; simp [Flt.maxOfBits, Flt.bestBits, Flt.gtB, h1, h2]; rfl⟩
    obtain ⟨t', rfl⟩ := hv
    exact h t' h' tk (F.grownK hold) (N.grown hold)
theorem min_three_F {a b c mx : UInt64} {t u x : Tok} {Q : Value → Shared → Prop} {h₀ : Heap} {L : Addr} {m : Str → Option Value} {news : List (Addr × Obj)} (e : Flt.minOfBits [a, b, c] = mx) (hh : A.handled = none) (F : Fr h₀ L s.heap m) (N : News h₀ L s.heap news)
    (h : ∀ t' h' tk, Fr h₀ L h' m → News h₀ L h' news → Q (.float mx t') { s with heap := h', toks := tk }) :
    wpAny (model prog w) A (call (.builtin "min") [.float a t, .float b u, .float c x]) Q E s := by
  have hT : (s.heap.push { cls := .type "tuple", data := .seq #[.float a t, .float b u, .float c x] }).IsTuple s.heap.objs.size #[.float a t, .float b u, .float c x] := ⟨_, Heap.get?_push_size _ rfl, rfl, 0, rfl⟩
  refine call_min_three (wpAny_pyIter_tuple hT ?_)
  have hsz : (s.heap.push { cls := .type "tuple", data := .seq #[.float a t, .float b u, .float c x] }).objs.size = s.heap.objs.size + 1 := Heap.size_push ..
  refine ⟨_, [_, s.heap.objs.size], [_], _, _, _, _, rfl, Walks.tuple (A := A.in1) hh _ s.heap.objs.size (by rw [hsz]; exact Nat.ne_of_lt (Nat.lt_succ_self _)) #[.float a t, .float b u, .float c x],
    ⟨⟨_, Heap.get?_push_size _ rfl, rfl, rfl⟩, hT.push _⟩, fun d hd => ?_, by simp, Flt.cmpOf_lt #[.float a t, .float b u, .float c x] (by intro v hv; simp at hv; rcases hv with rfl | rfl | rfl <;> constructor), fun v h' tk hP hk => ?_⟩
  · show d < ((s.heap.push _).push _).objs.size
    rw [Heap.size_push, hsz]
    rcases List.mem_cons.mp hd with rfl | hd
    · rw [hsz]; exact Nat.lt_succ_self _
    · rcases List.mem_cons.mp hd with rfl | hd
      · exact Nat.lt_succ_of_lt (Nat.lt_succ_self _)
      · cases hd
  · have hold : ∀ d o, s.heap.get? d = some o → h'.get? d = some o := fun d o e => by
      refine hk d o (fun hm => ?_) (Heap.get?_push_of_some _ (Heap.get?_push_of_some _ e))
      rcases List.mem_cons.mp hm with e1 | hm
      · have := Heap.lt_size e; rw [e1, hsz] at this; exact Nat.lt_irrefl _ (Nat.lt_of_succ_lt this)
      · cases hm
    have hv : ∃ t', v = .float mx t' := by
      have hP' : (#[Value.float a t, Value.float b u, Value.float c x] : Array Value)[argBest (fun i j => Flt.ltV ((#[Value.float a t, Value.float b u, Value.float c x] : Array Value).getD i .none) ((#[Value.float a t, Value.float b u, Value.float c x] : Array Value).getD j .none)) 2]? = some v := hP
      rw [argBest3] at hP'
      subst e
      cases h1 : (Float64.cmp b a == some .lt)
      · cases h2 : (Float64.cmp c a == some .lt) <;> simp [Flt.ltV, h1, h2] at hP' <;> exact ⟨_, by rw [← hP']; simp [Flt.minOfBits, Flt.bestBits, Flt.ltB, h1, h2]; rfl⟩
      · cases h2 : (Float64.cmp c b == some .lt) <;> simp [Flt.ltV, h1, h2] at hP' <;> exact ⟨_, by rw [← hP']; simp [Flt.minOfBits, Flt.bestBits, Flt.ltB, h1, h2]; rfl⟩
    obtain ⟨t', rfl⟩ := hv
    exact h t' h' tk (F.grownK hold) (N.grown hold)
end
end Mine
end

theorem Mine.gapF1 : True → True := by
  w_top off
  first | (walk1; exact True.intro) | exact id

section
open PySem PySem.Spec PySem.W PySem.Calls PyProof.Rows
set_option Elab.async false
set_option maxRecDepth 100000
namespace Mine
abbrev tupOf (vs : List Value) : Obj := { cls := .type "tuple", data := .seq vs.toArray }
/-- a leaf def that hands back a new tuple of floats -/
abbrev SpcF (prog : Program) (w : World) (K : Frag) (p : Program) (loose : List Str) (mean : ExcName → Option Value) (mg mb : Str → Option Value) (nd nu : Nat) (f : Addr) (vs : List Value) (x y z : UInt64) : Prop :=
  ∀ (dp un : Nat) (gd : Option (List Code)) (cn : Str) (cs : Scope) (a : Addr) (ccd : Value) (cl : List (Str × Addr)) (outer : List Env) (A₀ : Around) (base h₀ : Heap) (L : Addr) (m : Str → Option Value) (news : List (Addr × Obj)) (s : Shared) (Q E : Value → Shared → Prop),
    Below A₀ base outer h₀ → Fr h₀ L s.heap m → K.In h₀ → News h₀ L s.heap news → Top p loose mean mg mb h₀ → cs.kind = .function → dp + nd < recursionLimit → un + nu < cLine →
    (∀ q t1 t2 t3 h' tk', Fr h₀ L h' m → News h₀ L h' ((q, tupOf [.float x t1, .float y t2, .float z t3]) :: news) → Q (.ref q) { s with heap := h', toks := tk' }) → wpAny (model prog w) (ktrTop dp un gd cn cs L a ccd cl outer) (call (.ref f) vs) Q E s
local macro_rules | `(tactic| walk_at "ite") => `(tactic| first | rw [if_neg (by decide +kernel)] | rw [if_pos (by decide +kernel)] | rw [if_neg (by simp only [*]; decide)] | rw [if_pos (by simp only [*]; decide)])
local macro_rules | `(tactic| walk_at "call type:int") => `(tactic| refine int_toI (by assumption) ?_)
set_option maxHeartbeats 8000000 in
theorem hsv_spec {w : World} {mean : ExcName → Option Value} {mg mb : Str → Option Value} {h : UInt64} {t1 t2 t3 : Tok} {i : Nat} (hi : toI (Float64.mul h f6) = some (i : Int)) (hi6 : i < 6) :
    SpcF PySem.Challenge.rw_wf0012_01.row.prog w (hd.heap_39 w.params) hd.view_39 (looseW hd.view_39 []) mean mg mb 10 100 35 [.float h t1, .float 0x3FF0000000000000 t2, .float 0x3FF0000000000000 t3] (prt h i).1 (prt h i).2.1 (prt h i).2.2 := by
  k_fill
  intro dp un gd cn cs a ccd cl outer A₀ base h₀ L m news s Q E B F X N T hk hdp hu hret
  refine wpAny_call ?_
  cell_enter
  have hi' : i = 0 ∨ i = 1 ∨ i = 2 ∨ i = 3 ∨ i = 4 ∨ i = 5 := by omega
  rcases hi' with rfl | rfl | rfl | rfl | rfl | rfl
  all_goals (repeat walk1)
  all_goals exact hret _ _ _ _ _ _ (by assumption) (by assumption)
local macro_rules | `(tactic| walk_at "call builtin:max") => `(tactic| (refine max_three_F (by assumption) rfl (by assumption) (by assumption) ?_; intro _ _ _ _ _))
local macro_rules | `(tactic| walk_at "call builtin:min") => `(tactic| (refine min_three_F (by assumption) rfl (by assumption) (by assumption) ?_; intro _ _ _ _ _))
set_option maxHeartbeats 8000000 in
theorem rgb_spec0 {w : World} {mean : ExcName → Option Value} {mg mb : Str → Option Value} {r g b : UInt64} {t1 t2 t3 : Tok} (hM : Flt.maxOfBits [r, g, b] = f1) (hm : Flt.minOfBits [r, g, b] = f0) (hr : (Float64.cmp r f1 == some .eq) = true) :
    SpcF PySem.Challenge.rw_wf0012_01.row.prog w (hd.heap_39 w.params) hd.view_39 (looseW hd.view_39 []) mean mg mb 10 100 28 [.float r t1, .float g t2, .float b t3] (rH0 r g b) rS f1 := by
  k_fill
  intro dp un gd cn cs a ccd cl outer A₀ base h₀ L m news s Q E B F X N T hk hdp hu hret
  refine wpAny_call ?_
  cell_enter
  repeat walk1
  exact hret _ _ _ _ _ _ (by assumption) (by assumption)
set_option maxHeartbeats 8000000 in
theorem rgb_spec1 {w : World} {mean : ExcName → Option Value} {mg mb : Str → Option Value} {r g b : UInt64} {t1 t2 t3 : Tok} (hM : Flt.maxOfBits [r, g, b] = f1) (hm : Flt.minOfBits [r, g, b] = f0) (hr : (Float64.cmp r f1 == some .eq) = false) (hg : (Float64.cmp g f1 == some .eq) = true) :
    SpcF PySem.Challenge.rw_wf0012_01.row.prog w (hd.heap_39 w.params) hd.view_39 (looseW hd.view_39 []) mean mg mb 10 100 28 [.float r t1, .float g t2, .float b t3] (rH1 r g b) rS f1 := by
  k_fill
  intro dp un gd cn cs a ccd cl outer A₀ base h₀ L m news s Q E B F X N T hk hdp hu hret
  refine wpAny_call ?_
  cell_enter
  repeat walk1
  exact hret _ _ _ _ _ _ (by assumption) (by assumption)
set_option maxHeartbeats 8000000 in
theorem rgb_spec2 {w : World} {mean : ExcName → Option Value} {mg mb : Str → Option Value} {r g b : UInt64} {t1 t2 t3 : Tok} (hM : Flt.maxOfBits [r, g, b] = f1) (hm : Flt.minOfBits [r, g, b] = f0) (hr : (Float64.cmp r f1 == some .eq) = false) (hg : (Float64.cmp g f1 == some .eq) = false) :
    SpcF PySem.Challenge.rw_wf0012_01.row.prog w (hd.heap_39 w.params) hd.view_39 (looseW hd.view_39 []) mean mg mb 10 100 28 [.float r t1, .float g t2, .float b t3] (rH2 r g b) rS f1 := by
  k_fill
  intro dp un gd cn cs a ccd cl outer A₀ base h₀ L m news s Q E B F X N T hk hdp hu hret
  refine wpAny_call ?_
  cell_enter
  repeat walk1
  exact hret _ _ _ _ _ _ (by assumption) (by assumption)
end Mine
end

theorem Mine.gapLT : True → True := by
  w_top off
  first | (walk1; exact True.intro) | exact id

section
open PySem PySem.Spec PySem.W PySem.Calls PyProof.Rows
set_option Elab.async false
set_option maxRecDepth 100000
namespace Mine
section
variable {prog : Program} {w : World} {A : Around} {E : Value → Shared → Prop} {s : Shared} {h₀ : Heap} {L : Addr} {m : Str → Option Value} {env : Env}
/-- what a turn hands on -/
def SameEnd (s : Shared) (h₀ : Heap) (L : Addr) (m : Str → Option Value) (R : Value → Prop) (all : List (Addr × Obj)) (y : Value) (s' : Shared) : Prop :=
  ∃ h' tk', s' = { s with heap := h', toks := tk' } ∧ R y ∧ Fr h₀ L h' m ∧ News h₀ L h' all
/-- the turns of a comprehension that make nothing that stays -/
theorem rest_same {elt : Expr} {x : Str} {scope : Scope} {cl : List (Str × Addr)} {S : List (Addr × Obj) → Prop} {P : Nat → Value → Prop} {Fin : List Value → List (Addr × Obj) → Prop} {news : List (Addr × Obj)} {R : Nat → Value → Prop} (hS : S news)
    (turn : ∀ i v I oI C oC D m₂ h tk ys (E' : Value → Shared → Prop), P i v → LCg.NsObj oC m₂ → m₂ x = some v → Fr h₀ L h m → News h₀ L h ((I, oI) :: (C, oC) :: (D, LCg.lst ys) :: news) →
      wpAny (model prog w) A (eval elt (compEnvC scope cl C env)) (SameEnd s h₀ L m (R i) ((I, oI) :: (C, oC) :: (D, LCg.lst ys) :: news)) E' { s with heap := h, toks := tk }) :
    ∀ k i ys, (∀ j y, ys[j]? = some y → R j y) → ys.length = i → (∀ ys' : List Value, ys'.length = i + k → (∀ j y, ys'[j]? = some y → R j y) → Fin ys' news) → LCg.CompRest prog w A h₀ L m env elt x scope cl s S P Fin k i ys news := by
  intro k
  induction k with
  | zero => intro i ys hy hl fin; exact LCg.CompRest.zero (fin ys hl hy)
  | succ k ih =>
    intro i ys hy hl fin
    refine LCg.CompRest.succ fun v I oI C oC D m₂ h tk E' hP hC hx F N off ne => ?_
    refine wpAny_mono (turn i v I oI C oC D m₂ h tk ys E' hP hC hx F N) (fun y s' hq => ?_) fun _ _ e => e
    obtain ⟨h', tk', rfl, hR, F', N'⟩ := hq
    refine LCg.CompEnd.intro F' N' news (fun _ hp => hp) off hS (ih (i + 1) (ys ++ [y]) (fun j z hz => ?_) (by simp [hl]) (fun ys' hl' hy' => fin ys' (by omega) hy'))
    by_cases hj : j < ys.length
    · rw [List.getElem?_append_left hj] at hz; exact hy j z hz
    · rw [List.getElem?_append_right (by omega)] at hz
      have : j = ys.length := by
        by_cases h0 : j - ys.length = 0
        · omega
        · obtain ⟨q, hq⟩ : ∃ q, j - ys.length = q + 1 := ⟨j - ys.length - 1, by omega⟩
          rw [hq] at hz; simp at hz
      subst this
      rw [Nat.sub_self] at hz; cases hz; rw [hl]; exact hR
def SrcTu (ax : Addr) (its : Array Value) (news : List (Addr × Obj)) : Prop := ∃ o, (ax, o) ∈ news ∧ o.cls = .type "tuple" ∧ ∃ n, o.data = .seq its n
theorem SrcTu.tup {h : Heap} {L ax : Addr} {its : Array Value} {news : List (Addr × Obj)} (x : SrcTu ax its news) (N : News h₀ L h news) : h.IsTuple ax its := by
  obtain ⟨o, hm, r⟩ := x
  exact ⟨o, (N _ hm).1, r⟩
theorem tuple_st {ax I : Addr} {its : Array Value} : ∀ i (h h' : Heap) (o : Obj) (nw : List (Addr × Obj)), (h.IsTupleIter I ax i ∧ h.IsTuple ax its) → h.get? I = some o → h'.get? I = some o → (∀ b o, h₀.get? b = some o → h'.get? b = some o) → News h₀ L h' nw → SrcTu ax its nw → (h'.IsTupleIter I ax i ∧ h'.IsTuple ax its) :=
  fun i h h' o nw st e e' k N S => ⟨by obtain ⟨o', q, r⟩ := st.1; rw [e] at q; cases q; exact ⟨o, e', r⟩, S.tup N⟩
def SrcTT (prog : Program) (w : World) (A : Around) (h₀ : Heap) (L : Addr) (m : Str → Option Value) (env : Env) (elt : Expr) (x : Str) (scope : Scope) (cl : List (Str × Addr)) (Fin : Shared → List Value → List (Addr × Obj) → Prop) (xv : Value) (s₁ : Shared) : Prop :=
  ∃ ax its news, xv = .ref ax ∧ A.handled = none ∧ Fr h₀ L s₁.heap m ∧ News h₀ L s₁.heap news ∧ SrcTu ax its news ∧ its.size ≤ sizeLine ∧
    ∀ s₂ : Shared, (∃ h, s₂ = { s₁ with heap := h }) → LCg.CompRest prog w A h₀ L m env elt x scope cl s₂ (SrcTu ax its) (fun i v => its[i]? = some v) (Fin s₂) its.size 0 [] news
theorem ListComp_T {elt iter : Expr} {x : Str} {px : Pos} {scope : Scope} {cl : List (Str × Addr)} {pos : Pos} {Q : Value → Shared → Prop} (F₀ : Fr h₀ L s.heap m)
    (hclos : closureFor scope env = pure cl) (hcell : ∀ y ∈ scope.names, y.2 ≠ .cell) (hkind : scope.kind = .function)
    (hnames : ∀ y ∈ scope.names, y.2 = .local → scope.names.lookup y.1 = some .local) (hx : scope.names.lookup x = some .local)
    (h : wpAny (model prog w) A (eval iter env) (SrcTT prog w A h₀ L m env elt x scope cl (fun s₂ => LCg.FinE h₀ L m s₂ Q)) E s)
    (hs : ∀ x, foldedSetIterable iter env x = pure x := by intro _; rfl) :
    wpAny (model prog w) A (eval (.ListComp elt [⟨.Name x px, iter, [], 0⟩] scope pos) env) Q E s := by
  rw [eval_ListComp]
  refine wpAny_comprehension_free (use := none) rfl hs hclos hkind hnames (wpAny_mono h (fun xv s₁ h₁ => ?_) fun _ _ e => e)
  obtain ⟨ax, its, news, rfl, hh, F, N, S, hsz, R⟩ := h₁
  have hl := S.tup N
  have hlt : ax < s₁.heap.objs.size := by obtain ⟨_, e, _⟩ := hl; exact Heap.lt_size e
  refine wpAny_pyIter_tuple hl ?_
  have up : ∀ b o, s₁.heap.get? b = some o → (s₁.heap.push { cls := .type "tuple_iterator", data := .fields #[.ref ax, .int 0 0] }).get? b = some o := fun b o e => Heap.get?_push_of_some _ e
  refine LCg.block_U (Walks.tuple hh s₁.heap.objs.size ax (Nat.ne_of_lt hlt) its) hsz (fun i h st => by obtain ⟨o, e, _⟩ := st.1; exact ⟨o, e⟩) tuple_st hcell hkind hx ⟨⟨_, Heap.get?_push_size _ rfl, rfl, rfl⟩, hl.push _⟩ (fun b hb => ?_)
    (F.keeps up) (N.grown up) (Nat.ne_of_lt F.ns.lt) (next_is_new F) (fun p hp => Nat.ne_of_lt (Heap.lt_size (N p hp).1)) S (R _ ⟨_, rfl⟩) ?_
  · show b < (s₁.heap.push _).objs.size
    rw [Heap.size_push]
    rcases List.mem_cons.mp hb with rfl | hb
    · exact Nat.lt_succ_self _
    · rw [List.mem_singleton.mp hb]; exact Nat.lt_succ_of_lt hlt
  · intro D C h tk m' ys news' F' N' o1 hn hC₀ hD₀ hCL hDL hCD offC fin
    refine ⟨m', hn, fun h'' hs'' => fin D h'' tk (F'.change hs'' hCL hC₀) (fun p hp => ?_) o1⟩
    refine ⟨hs''.extBut _ _ ?_ (N' p hp).1, (N' p hp).2⟩
    rcases List.mem_cons.mp hp with rfl | hp
    · exact Ne.symm hCD
    · exact offC p hp
end
end Mine
end

theorem Mine.gapLB : True → True := by
  w_top off
  first | (walk1; exact True.intro) | exact id

section
open PySem PySem.Spec PySem.W PySem.Calls PyProof.Rows
set_option Elab.async false
set_option maxRecDepth 100000
namespace Mine
theorem list_of3 {α : Type} {l : List α} (h : l.length = 3) : ∃ a b c, l = [a, b, c] := by
  obtain ⟨a, l, rfl⟩ := List.exists_cons_of_length_eq_add_one h
  obtain ⟨b, l, rfl⟩ := List.exists_cons_of_length_eq_add_one (n := 1) (by simpa using h)
  obtain ⟨c, l, rfl⟩ := List.exists_cons_of_length_eq_add_one (n := 0) (by simpa using h)
  have e : l = [] := List.eq_nil_of_length_eq_zero (by simpa using h)
  exact ⟨a, b, c, by rw [e]⟩
theorem list_of4 {α : Type} {l : List α} (h : l.length = 4) : ∃ a b c d, l = [a, b, c, d] := by
  obtain ⟨a, l, rfl⟩ := List.exists_cons_of_length_eq_add_one h
  obtain ⟨b, c, d, rfl⟩ := list_of3 (l := l) (by simpa using h)
  exact ⟨a, b, c, d, rfl⟩
theorem bytes_len : typeLookup (.type "bytes") "__len__" = pure (some (.builtin "bytes.__len__")) := by rw [typeLookup_type, builtinLookup_eq_fast]; kernel_rfl
section
variable {prog : Program} {w : World} {A : Around} {E : Value → Shared → Prop} {s : Shared}
abbrev ByteAt (b : Array UInt8) (i : Nat) (v : Value) : Prop := ∃ c u, b[i]? = some c ∧ v = .int (c.toNat : Int) u
theorem extend_bytes {R : Result → Shared → Prop} (hh : A.handled = none) (b : Array UInt8) (t : Tok) (S : Addr) (res : Value) (c₀ : Nat) (hS : s.heap.get? S = some { cls := .type "list", data := .seq #[] c₀ })
    (hR : ∀ h' tk acc' c', (∀ b o, b ≠ S → s.heap.get? b = some o → h'.get? b = some o) → h'.get? S = some { cls := .type "list", dict := none, data := .seq acc' c', slots := #[] } →
      ItemsOf (ByteAt b) acc' b.size → R (.ok (.ret res)) { s with heap := h', toks := tk }) (hn : b.size ≤ sizeLine) :
    wpAny (model prog w) A.in1 (Builtin.List.listExtendWith (.ref S) (.bytes b t) res)
      (fun fin s' => match fin with | .done f => R (.ok f) s' | .again c' => c'.quiet = true ∧ codeAny (model prog w) A c' R s') (fun e s' => R (.error e) s') s := by
  have hSI : S ≠ s.heap.objs.size := Nat.ne_of_lt (Heap.lt_size hS)
  have hSf : S ∉ [s.heap.objs.size] := fun hm => hSI (List.mem_singleton.mp hm)
  unfold Builtin.List.listExtendWith
  refine wpAny_bind (wpAny_typeOf (T := "bytes") (v := .bytes b t) rfl ?_)
  have h1 : Builtin.List.listSameRef (.ref S) (.bytes b t) = false := rfl
  have h2 : (Value.type "bytes" == Value.type "list") = false := by decide
  have h3 : (Value.type "bytes" == Value.type "tuple") = false := by decide
  simp only [h1, h2, h3, Bool.or_false, Bool.false_eq_true, if_false]
  refine wpAny_bind (KBw.pyIter_bytes ?_)
  refine wpAny_bind (wpAny_holding ?_)
  unfold Builtin.List.listLengthHint
  refine wpAny_bind (wpAny_specialOf (T := "bytes") (v := .bytes b t) rfl bytes_len ?_)
  wp_delta
  refine wpAny_bind (wpAny_isInstance (T := "bytes") (v := .bytes b t) (b := true) rfl (by rw [isSubtype_type]; kernel_rfl) ?_)
  show wpAny _ _ (typeOf (Value.bytes b t) >>= _) _ _ _
  refine wpAny_bind (wpAny_typeOf (T := "bytes") (v := .bytes b t) rfl ?_)
  refine wpAny_pure ?_
  rw [if_neg (by decide)]
  refine wpAny_pure ⟨plainId_quiet F.plain_extend_loop _, codeAny_extend_loopS (KBw.walks (A := A.in1) hh _ b t).toS hn _ hSf _ b.size 0 _ _ _ rfl (Nat.zero_le _) ⟨_, Heap.get?_push_size _ rfl, rfl, rfl⟩ (Heap.get?_push_of_some _ hS) (ItemsOf.nil _) fun s' acc' c' hm hS' hacc => ?_⟩
  rw [Moved.eq_with hm]
  refine hR s'.heap s'.toks acc' c' (fun b ob hb e => hm.heap b ob (fun hmem => ?_) (Heap.get?_push_of_some _ e)) hS' hacc
  rcases List.mem_cons.mp hmem with e' | hmem
  · exact hb e'
  · exact absurd (Heap.lt_size e) (by rw [List.mem_singleton.mp hmem]; exact Nat.lt_irrefl _)
theorem list_init_bytes {R : Result → Shared → Prop} (hh : A.handled = none) (b : Array UInt8) (t : Tok) (S : Addr) (hS : s.heap.get? S = some { cls := .type "list", data := .seq #[] })
    (hR : ∀ h' tk acc' c', (∀ b o, b ≠ S → s.heap.get? b = some o → h'.get? b = some o) → h'.get? S = some { cls := .type "list", dict := none, data := .seq acc' c', slots := #[] } →
      ItemsOf (ByteAt b) acc' b.size → R (.ok (.ret .none)) { s with heap := h', toks := tk }) (hn : b.size ≤ sizeLine) :
    wpAny (model prog w) A.in1 (Builtin.«list.__init__» ⟨[.ref S, .bytes b t], []⟩)
      (fun fin s' => match fin with | .done f => R (.ok f) s' | .again c' => c'.quiet = true ∧ codeAny (model prog w) A c' R s') (fun e s' => R (.error e) s') s := by
  show wpAny _ _ (do let old ← Builtin.List.listItems (.ref S); Builtin.List.listUpdate (.ref S) (fun _ => #[]); letGo old.toList.reverse; Builtin.List.listExtendWith (.ref S) (.bytes b t) .none) _ _ s
  refine wpAny_bind ?_
  unfold Builtin.List.listItems
  refine wpAny_bind (wpAny_seqItems hS rfl (wpAny_pure ?_))
  show wpAny _ _ (updateSeq S (fun _ => #[]) >>= fun _ => letGo (#[] : Array Value).toList.reverse >>= fun _ => Builtin.List.listExtendWith (.ref S) (.bytes b t) .none) _ _ s
  refine wpAny_bind (wpAny_updateSeq hS rfl ?_)
  have hS₂ := Heap.get?_update_self (Obj.mapSeq (fun _ => (#[] : Array Value))) hS rfl
  have oth : ∀ b o, b ≠ S → s.heap.get? b = some o → (s.heap.update S (Obj.mapSeq (fun _ => (#[] : Array Value)))).get? b = some o :=
    fun b o hb e => (Heap.get?_update_other _ _ (Ne.symm hb)).trans e
  refine wpAny_bind (wpAny_letGo ?_)
  refine extend_bytes (hn := hn) hh b t S .none _ hS₂ fun h' tk acc' c' hk hS' hacc => ?_
  exact hR h' tk acc' c' (fun b o hb e => hk b o hb (oth b o hb e)) hS' hacc
theorem call_list_bytes {Q : Value → Shared → Prop} (hh : A.handled = none) (b : Array UInt8) (t : Tok)
    (hQ : ∀ h' tk acc' c', (∀ b o, s.heap.get? b = some o → h'.get? b = some o) →
      h'.get? s.heap.objs.size = some { cls := .type "list", dict := none, data := .seq acc' c', slots := #[] } → ItemsOf (ByteAt b) acc' b.size → Q (.ref s.heap.objs.size) { s with heap := h', toks := tk }) (hn : b.size ≤ sizeLine) :
    wpAny (model prog w) A (call (.type "list") [.bytes b t]) Q E s := by
  refine callType_codes (Q₁ := fun obj s₁ => obj = .ref s.heap.objs.size ∧ s₁ = { s with heap := s.heap.push { cls := .type "list", data := .seq #[] } }) F.called_list (F.typeCall_list_1 _) F.entry_list_init
    (code_list_new _ ⟨rfl, rfl⟩) fun obj s₁ h₁ => ?_
  obtain ⟨rfl, rfl⟩ := h₁
  have hS : (s.heap.push { cls := .type "list", data := .seq #[] }).get? s.heap.objs.size = some { cls := .type "list", data := .seq #[] } := Heap.get?_push_size _ rfl
  refine ⟨⟨_, hS, rfl⟩, F.args_list_init_2 _ _, list_init_bytes (A := A.in1) (hn := hn) hh b t _ hS fun h' tk acc' c' hk hS' hacc => ?_⟩
  exact ⟨rfl, hQ h' tk acc' c' (fun b o e => hk b o (Nat.ne_of_lt (Heap.lt_size e)) (Heap.get?_push_of_some _ e)) hS' hacc⟩
/-- the list of three bytes, in the ledger -/
theorem list_three {h₀ : Heap} {L : Addr} {m : Str → Option Value} {news : List (Addr × Obj)} {x y z : UInt8} {t : Tok} {Q : Value → Shared → Prop} (hh : A.handled = none) (F : Fr h₀ L s.heap m) (N : News h₀ L s.heap news)
    (h : ∀ h' tk D t1 t2 t3, Fr h₀ L h' m → (∃ c, News h₀ L h' ((D, { cls := .type "list", data := .seq #[.int (x.toNat : Int) t1, .int (y.toNat : Int) t2, .int (z.toNat : Int) t3] c }) :: news)) → Q (.ref D) { s with heap := h', toks := tk }) :
    wpAny (model prog w) A (call (.type "list") [.bytes [x, y, z].toArray t]) Q E s := by
  refine call_list_bytes hh _ t (fun h' tk acc' c' hk hS' hacc => ?_) (by show (3 : Nat) ≤ sizeLine; decide)
  obtain ⟨hs, hi⟩ := hacc
  obtain ⟨v1, v2, v3, rfl⟩ : ∃ v1 v2 v3, acc' = #[v1, v2, v3] := by
    obtain ⟨l⟩ := acc'
    obtain ⟨a, b, c, rfl⟩ := list_of3 (l := l) hs
    exact ⟨a, b, c, rfl⟩
  obtain ⟨c1, u1, e1, rfl⟩ := hi 0 v1 rfl
  obtain ⟨c2, u2, e2, rfl⟩ := hi 1 v2 rfl
  obtain ⟨c3, u3, e3, rfl⟩ := hi 2 v3 rfl
  cases e1; cases e2; cases e3
  refine h h' tk _ u1 u2 u3 (F.keeps hk) ⟨c', fun p hp => ?_⟩
  rcases List.mem_cons.mp hp with rfl | hp
  · refine ⟨hS', Nat.ne_of_gt F.ns.lt, ?_⟩
    cases e : h₀.get? s.heap.objs.size with
    | none => rfl
    | some o => exact absurd (Heap.lt_size (F.keep _ _ e)) (Nat.lt_irrefl _)
  · exact ⟨hk _ _ (N p hp).1, (N p hp).2⟩
end
end Mine
end

theorem Mine.gapTP : True → True := by
  w_top off
  first | (walk1; exact True.intro) | exact id

section
open PySem PySem.Spec PySem.W PySem.Calls PyProof.Rows
set_option Elab.async false
set_option maxRecDepth 100000
namespace Mine
/-- hues and ropes, cell by cell -/
structure St8 where
  h0 : UInt8
  h1 : UInt8
  h2 : UInt8
  h3 : UInt8
  r0 : UInt8
  r1 : UInt8
  r2 : UInt8
  r3 : UInt8
abbrev St8.hues (s : St8) : List UInt8 := [s.h0, s.h1, s.h2, s.h3]
abbrev St8.ropes (s : St8) : List UInt8 := [s.r0, s.r1, s.r2, s.r3]
def seen (wh : Nat) (un ov : UInt8) : UInt8 := UInt8.ofNat ((2 * (ov.toNat : Int) - un.toNat) % wh).toNat
def tStep (wh : Nat) (s : St8) (mv : Int) : St8 :=
  if mv = 2 then ⟨s.h3, s.h0, s.h1, s.h2, s.r3, s.r0, s.r1, s.r2⟩
  else if mv = 0 then ⟨s.h0, seen wh s.h2 s.h1, s.h1, s.h3, s.r0, s.r2, s.r1, s.r3⟩
  else ⟨s.h0, s.h2, seen wh s.h1 s.h2, s.h3, s.r0, s.r2, s.r1, s.r3⟩
def St8.Lt (wh : Nat) (s : St8) : Prop := s.h0.toNat < wh ∧ s.h1.toNat < wh ∧ s.h2.toNat < wh ∧ s.h3.toNat < wh
theorem seen_int {wh : Nat} (h0 : 0 < wh) (h1 : wh ≤ 256) (un ov : UInt8) : ((seen wh un ov).toNat : Int) = (2 * (ov.toNat : Int) - un.toNat) % wh := by
  have h2 := Int.emod_nonneg (2 * (ov.toNat : Int) - un.toNat) (show (wh : Int) ≠ 0 by omega)
  have h3 := Int.emod_lt_of_pos (2 * (ov.toNat : Int) - un.toNat) (show 0 < (wh : Int) by omega)
  unfold seen
  rw [UInt8.toNat_ofNat']
  omega
theorem seen_lt {wh : Nat} (h0 : 0 < wh) (h1 : wh ≤ 256) (un ov : UInt8) : (seen wh un ov).toNat < wh := by
  have := seen_int h0 h1 un ov
  have h3 := Int.emod_lt_of_pos (2 * (ov.toNat : Int) - un.toNat) (show 0 < (wh : Int) by omega)
  omega
theorem seen_eq {wh d : Nat} (h0 : 0 < wh) (h1 : wh ≤ 256) (un ov : UInt8) (hd : ((un.toNat : Int) - ov.toNat).fmod wh = d) :
    ((ov.toNat : Int) + ((wh - d) % wh : Nat)).fmod wh = ((seen wh un ov).toNat : Int) := by
  rw [seen_int h0 h1, Int.fmod_eq_emod_of_nonneg _ (by omega)]
  rw [Int.fmod_eq_emod_of_nonneg _ (by omega)] at hd
  have e1 := Int.emod_add_mul_ediv ((un.toNat : Int) - ov.toNat) wh
  have h3 := Int.emod_lt_of_pos ((un.toNat : Int) - ov.toNat) (show 0 < (wh : Int) by omega)
  rw [hd] at e1 h3
  have e2 := Int.emod_add_mul_ediv ((wh - d : Nat) : Int) wh
  rw [Int.natCast_emod]
  generalize ((un.toNat : Int) - ov.toNat) / wh = q at *
  generalize ((wh - d : Nat) : Int) / wh = q2 at *
  generalize hr : ((wh - d : Nat) : Int) % wh = r at *
  have e3 : (ov.toNat : Int) + r = (2 * (ov.toNat : Int) - un.toNat) + wh * (1 + q - q2) := by
    rw [Int.mul_sub, Int.mul_add, Int.mul_one]
    have e4 : ((wh - d : Nat) : Int) = wh - d := by omega
    rw [e4] at e2
    omega
  rw [e3, Int.add_mul_emod_self_left]
theorem tStep_lt {wh : Nat} (h0 : 0 < wh) (h1 : wh ≤ 256) {s : St8} (h : s.Lt wh) (mv : Int) : (tStep wh s mv).Lt wh := by
  obtain ⟨a, b, c, d⟩ := h
  unfold tStep
  by_cases e : mv = 2
  · rw [if_pos e]; exact ⟨d, a, b, c⟩
  · rw [if_neg e]
    by_cases e2 : mv = 0
    · rw [if_pos e2]; exact ⟨a, seen_lt h0 h1 _ _, b, d⟩
    · rw [if_neg e2]; exact ⟨a, c, seen_lt h0 h1 _ _, d⟩
theorem tRun_lt {wh : Nat} (h0 : 0 < wh) (h1 : wh ≤ 256) : ∀ (ms : List Int) {s : St8}, s.Lt wh → (ms.foldl (tStep wh) s).Lt wh
  | [], _, h => h
  | m :: r, _, h => tRun_lt h0 h1 r (tStep_lt h0 h1 h m)
end Mine
end

theorem Mine.gapKF : True → True := by
  w_top off
  first | (walk1; exact True.intro) | exact id

section
open PySem PySem.Spec PySem.W PySem.Calls PyProof.Rows
set_option Elab.async false
set_option maxRecDepth 100000
namespace Mine
section
variable {prog : Program} {w : World} {A : Around} {s : Shared} {env : Env}
abbrev NoRaise : Value → Shared → Prop := fun _ _ => False
theorem codeK_forLoop {R : Result → Shared → Prop} {target : PySem.Expr} {it : Value} {body : List Stmt} (I : Nat → Shared → Prop)
    (turn : ∀ n s, I n s → wpAny (model prog w) A (pyNext it) (fun r s₁ => match r with
      | none => R (.ok .next) s₁
      | some v => wpAny (model prog w) A (assign target env v) (fun _ s₂ => wpK (model prog w) A (execs body env) (fun f s₃ => match f with
          | .next | .cont => ∃ m, m < n ∧ I m s₃
          | .brk => R (.ok .next) s₃
          | .ret v => R (.ok (.ret v)) s₃) NoRaise s₂) NoRaise s₁) NoRaise s)
    (n : Nat) (h : I n s) (ht : ∀ v, letOwnedTupleGo target it v = pure () := by intro _; rfl) : codeK (model prog w) A (.forLoop target it body [] env) R s := by
  refine codeK_loop rfl rfl I (fun n s hI => ?_) n h
  show wpK _ _ ((forTurn target it body [] env).onRaise (fun x => do noteFrame x env; theTreesLotGoes x)) _ _ s
  refine wpK_onRaise ?_
  refine wpK_mono (E := NoRaise) ?_ (fun _ _ x => x) (fun _ _ x => x.elim)
  simp only [forTurn]
  refine wpK_bind (wpK_standAt (wpK_bind (wpK_onRaise (wpK_mono (wpK_of (turn n s hI)) (fun r s₁ h₁ => ?_) fun _ _ h' => h'.elim))))
  cases r with
  | none =>
    refine wpK_pure (.inr ⟨rfl, codeK_of (codeAny_block ?_)⟩)
    rw [execs_nil]
    exact wpAny_pure h₁
  | some v =>
    refine wpK_bind (wpK_of (wpAny_of_eq (ht v) ?_))
    refine wpK_bind (wpK_mono (wpK_of h₁) (fun _ s₂ h₂ => wpK_bind (wpK_mono h₂ (fun f s₃ h₃ => ?_) fun _ _ h' => h')) fun _ _ h' => h')
    cases f with
    | next => exact wpK_pure (.inl ⟨rfl, h₃⟩)
    | cont => exact wpK_pure (.inl ⟨rfl, h₃⟩)
    | brk => exact wpK_pure h₃
    | ret v => exact wpK_pure h₃
theorem ForK {target iter : PySem.Expr} {body : List Stmt} {pos : Pos} {Q : Flow → Shared → Prop}
    (h : wpAny (model prog w) A (eval iter env) (fun x s₁ => wpAny (model prog w) A (pyIter x) (fun it s₂ =>
      codeK (model prog w) A (.forLoop target it body [] env) (fun r s' => match r with | .ok f => Q f s' | .error _ => False) s₂) NoRaise s₁) NoRaise s)
    (hs : ∀ x, foldedSetIterable iter env x = pure x := by intro _; rfl) :
    wpK (model prog w) A (exec (.For target iter body [] pos) env) Q NoRaise s := by
  rw [exec_For]
  refine wpK_bind (wpK_standAt (wpK_bind (wpK_of (wpAny_mono h (fun x s₁ h₁ => ?_) fun _ _ h' => h'))))
  refine wpK_bind (wpK_of (wpAny_of_eq (hs x) ?_))
  refine wpK_bind (wpK_standAt (wpK_bind (wpK_holding (wpK_of (wpAny_mono h₁ (fun it s₂ h₂ => ?_) fun _ _ h' => h')))))
  unfold runOwn
  refine wpK_onRaise (wpK_mono (E := NoRaise) ?_ (fun _ _ x => x) (fun _ _ x => x.elim))
  exact wpK_run (codeK_mono h₂ (fun r s' hr => by cases r <;> exact hr))
/-- what a turn hands on -/
def TurnEnd (s : Shared) (h₀ : Heap) (L : Addr) (J : (Str → Option Value) → Prop) (all : List (Addr × Obj)) (f : Flow) (s₃ : Shared) : Prop :=
  f = .next ∧ ∃ h' tk' m₂, s₃ = { s with heap := h', toks := tk' } ∧ J m₂ ∧ Fr h₀ L h' m₂ ∧ News h₀ L h' all
/-- a for over a list of the ledger -/
theorem iter_listK {D : Addr} {vs : List Value} {h₀ : Heap} {x : Str} {px : Pos} {body : List Stmt} {Q : Flow → Shared → Prop} {m₀ : Str → Option Value} {news : List (Addr × Obj)} (J : Nat → (Str → Option Value) → Prop)
    (hh : A.handled = none) (hx : env.kindOf x = some .local) (hp : (env.scope.kind == .class || (env.scope.kind == .module && env.locals != env.globals)) = false)
    (F : Fr h₀ env.locals s.heap m₀) (N : News h₀ env.locals s.heap news) {k : Nat} (hm : (D, ({ cls := .type "list", data := .seq vs.toArray k } : Obj)) ∈ news) (hj : J 0 m₀)
    (turn : ∀ i v m₁ h tk I oI, vs[i]? = some v → J i m₁ → Fr h₀ env.locals h (fun y => if y = x then some v else m₁ y) → News h₀ env.locals h ((I, oI) :: news) →
      wpK (model prog w) A (execs body env) (TurnEnd s h₀ env.locals (J (i + 1)) ((I, oI) :: news)) NoRaise { s with heap := h, toks := tk })
    (done : ∀ m₁ h tk, J vs.length m₁ → Fr h₀ env.locals h m₁ → News h₀ env.locals h news → Q .next { s with heap := h, toks := tk }) :
    wpAny (model prog w) A (pyIter (.ref D)) (fun it s₂ => codeK (model prog w) A (.forLoop (.Name x px) it body [] env) (fun r s' => match r with | .ok f => Q f s' | .error _ => False) s₂) NoRaise s := by
  have listAt : ∀ h, News h₀ env.locals h news → h.IsList D vs.toArray := fun h N => ⟨_, (N _ hm).1, rfl, k, rfl⟩
  have hl := listAt _ N
  have hlt : D < s.heap.objs.size := by obtain ⟨_, e, _⟩ := hl; exact Heap.lt_size e
  refine wpAny_pyIter_list hl ?_
  have up : ∀ b o, s.heap.get? b = some o → (s.heap.push { cls := .type "list_iterator", data := .fields #[.ref D, .int 0 0] }).get? b = some o := fun b o e => Heap.get?_push_of_some _ e
  obtain ⟨I, hI⟩ : ∃ I, s.heap.objs.size = I := ⟨_, rfl⟩
  have hDI : D ≠ I := by rw [← hI]; exact Nat.ne_of_lt hlt
  have hLI : env.locals ≠ I := by rw [← hI]; exact Nat.ne_of_lt F.ns.lt
  have hI₀ : h₀.get? I = none := by rw [← hI]; exact next_is_new F
  have hoff : ∀ p ∈ news, p.1 ≠ I := fun p hp => by rw [← hI]; exact Nat.ne_of_lt (Heap.lt_size (N p hp).1)
  rw [hI]
  have W := Walks.list (prog := prog) (w := w) (A := A) hh I D hDI vs.toArray
  refine codeK_forLoop (fun n s' => ∃ h' tk i m₁, s' = { s with heap := h', toks := tk } ∧ i ≤ vs.length ∧ n = vs.length + 1 - i ∧ (h'.IsListIter I D i ∧ h'.IsList D vs.toArray) ∧ Fr h₀ env.locals h' m₁ ∧ News h₀ env.locals h' news ∧ J i m₁) ?_ (vs.length + 1)
    ⟨_, _, 0, m₀, rfl, Nat.zero_le _, rfl, ⟨⟨_, hI ▸ Heap.get?_push_size _ rfl, rfl, rfl⟩, hl.push _⟩, F.keeps up, N.grown up, hj⟩
  rintro n s' ⟨h', tk, i, m₁, rfl, hi, rfl, hst, F', N', hJ⟩
  by_cases hlt' : i < vs.length
  · refine W.item i _ _ _ (by simpa using hlt') hst fun v h₂ tk₂ hPv hst₂ hk₂ => ?_
    have F₂ : Fr h₀ env.locals h₂ m₁ := LCg.fr_but F' hk₂ hLI hI₀
    have N₂ : News h₀ env.locals h₂ news := LCg.news_but N' hk₂ hoff
    have hL₀ : h₀.get? env.locals = none := Heap.get?_none_of_le F'.above
    refine wpAny_assign_Name (wpAny_storeName_local hx F₂.ns (fun h₃ hn₃ hs₃ => ?_) hp)
    have F₃ : Fr h₀ env.locals h₃ (fun y => if y = x then some v else m₁ y) := ⟨hn₃, fun b o e => hs₃.extBut b o (fun q => by rw [q, hL₀] at e; cases e) (F₂.keep b o e), F₂.above⟩
    obtain ⟨oI, heI, hoI⟩ := id hst₂.1
    have N₃ : News h₀ env.locals h₃ ((I, oI) :: news) := fun p hp => by
      rcases List.mem_cons.mp hp with rfl | hp
      · exact ⟨hs₃.extBut _ _ (Ne.symm hLI) heI, Ne.symm hLI, hI₀⟩
      · exact ⟨hs₃.extBut _ _ (N₂ p hp).2.1 (N₂ p hp).1, (N₂ p hp).2⟩
    refine wpK_mono (turn i v m₁ h₃ _ I oI (by simpa using hPv) hJ F₃ N₃) (fun f s₃ hq => ?_) fun _ _ h => h
    obtain ⟨rfl, h₄, tk₄, m₄, rfl, hJ₄, F₄, N₄⟩ := hq
    have N₄' : News h₀ env.locals h₄ news := fun p hp => N₄ p (.tail _ hp)
    exact ⟨vs.length + 1 - (i + 1), by omega, h₄, tk₄, i + 1, m₄, rfl, hlt', rfl, ⟨⟨oI, (N₄ _ (.head _)).1, hoI⟩, listAt _ N₄'⟩, F₄, N₄', hJ₄⟩
  · obtain rfl : i = vs.length := Nat.le_antisymm hi (Nat.not_lt.mp hlt')
    refine W.done _ _ _ (by simpa using hst) fun h₂ tk₂ hk₂ => ?_
    exact done m₁ h₂ tk₂ hJ (LCg.fr_but F' hk₂ hLI hI₀) (LCg.news_but N' hk₂ hoff)
end
end Mine
end

theorem Mine.gapNP : True → True := by
  w_top off
  first | (walk1; exact True.intro) | exact id

section
open PySem PySem.Spec PySem.W PySem.Calls PyProof.Rows
set_option Elab.async false
set_option maxRecDepth 100000
namespace Mine
/-- base, rise, side -/
structure Nu where
  b : Int
  r : Int
  s : Int
def nStep (x : Nu) (mv : Int) : Nu := if mv = 2 then ⟨x.b - x.s, x.s, -x.r⟩ else if mv = 0 then ⟨x.b, x.r + x.s, x.s⟩ else ⟨x.b, x.r + -x.s, x.s⟩
end Mine
end

theorem Mine.gapST : True → True := by
  w_top off
  first | (walk1; exact True.intro) | exact id

section
open PySem PySem.Spec PySem.W PySem.Calls PyProof.Rows
set_option Elab.async false
set_option maxRecDepth 100000
namespace Mine
/-- a text by its codes -/
abbrev tx (l : List Nat) : Str := ⟨l.toArray⟩
theorem tx_len (l : List Nat) : (tx l).length = l.length := by simp [Str.length]
theorem lit_q : Str.ofString "\"" = tx [34] := by decide +kernel
theorem lit_k : Str.ofString "k" = tx [107] := by decide +kernel
theorem lit_p : Str.ofString "257 \"" = tx [50, 53, 55, 32, 34] := by decide +kernel
theorem lit_257 : Str.ofString "257" = tx [50, 53, 55] := by decide +kernel
theorem lit_sq : Str.ofString " \"" = tx [32, 34] := by decide +kernel
theorem lit_e : Str.ofString "" = tx [] := by decide +kernel
theorem app_tx (a b : List Nat) : tx a ++ tx b = tx (a ++ b) := by
  show Str.append (tx a) (tx b) = _
  unfold Str.append
  simp
section
variable {prog : Program} {w : World} {A : Around} {E : Value → Shared → Prop} {s : Shared} {env : Env} {h₀ : Heap} {L : Addr} {m : Str → Option Value} {news : List (Addr × Obj)}
theorem const_tx {M : Model} {x : Str} {l : List Nat} {k : Nat} {pos : Pos} {Q : Value → Shared → Prop} (e : x = tx l) (h : ∀ t tk, Q (.str (tx l) t) { s with toks := tk }) (hc : ∀ Q' : Value → Shared → Prop, (∀ t tk, Q' (.str x t) { s with toks := tk }) → wpAny M A (eval (.Constant (.str x) k pos) env) Q' E s) : wpAny M A (eval (.Constant (.str x) k pos) env) Q E s :=
  hc Q (e ▸ h)
theorem add_tx {a b : List Nat} {t u : Tok} {Q : Value → Shared → Prop} (hs : a.length + b.length ≤ 100000) (h : ∀ t' k, Q (.str (tx (a ++ b)) t') { s with toks := k }) : wpAny (model prog w) A (binaryOp .Add (.str (tx a) t) (.str (tx b) u)) Q E s := by
  refine SB.add (fun t' k => ?_) (by rw [tx_len, tx_len]; exact Nat.le_trans hs (by decide))
  have e : tx a ++ tx b = tx (a ++ b) := by
    show Str.append (tx a) (tx b) = _
    unfold Str.append
    simp
  rw [e]; exact h t' k
theorem mul_fold : ∀ (k : Nat) (acc : List Nat), (List.replicate k (#[34] : Array Nat)).foldl (· ++ ·) acc.toArray = (acc ++ List.replicate k 34).toArray
  | 0, acc => by simp
  | k + 1, acc => by
    rw [List.replicate_succ, List.foldl_cons]
    have : acc.toArray ++ #[34] = (acc ++ [34]).toArray := by simp
    rw [this, mul_fold k, List.append_assoc]
    rfl
theorem mul_q {n : Int} {c : Nat} {t u : Tok} {Q : Value → Shared → Prop} (hc : n = (c : Int)) (hs : c ≤ 100000) (h : ∀ t' k, Q (.str (tx (List.replicate c 34)) t') { s with toks := k }) : wpAny (model prog w) A (binaryOp .Mult (.str (tx [34]) t) (.int n u)) Q E s := by
  subst hc
  refine SB.mul (mulOk_of 16 1048576 (by rw [tx_len]; decide) (by omega) (by omega) (by decide) (by decide)) fun t' k => ?_
  have e : Txt.mul (tx [34]) (c : Int) = tx (List.replicate c 34) := by
    unfold Txt.mul
    by_cases h1 : (c : Int) < 1
    · rw [if_pos h1]
      have : c = 0 := by omega
      subst this; rfl
    · rw [if_neg h1]
      by_cases h2 : c = 1
      · subst h2; rfl
      · rw [if_neg (by simp [tx_len]; omega)]
        have := mul_fold c []
        simp only [List.nil_append] at this
        show (⟨_⟩ : Str) = _
        rw [Int.toNat_natCast]
        exact congrArg Str.mk this
  rw [e]; exact h t' k
theorem item_tx {value slice : PySem.Expr} {l : List Nat} {i : Int} {j c : Nat} {t u : Tok} {Q : Value → Shared → Prop} (hj : i = (j : Int)) (hl : l.length ≤ 100000) (hc : l[j]? = some c) (h : ∀ t' k, Q (.str (tx [c]) t') { s with toks := k })
    (hs : subscripted slice false (.str (tx l) t) (.int i u) = operate [.str (tx l) t, .int i u] (getItem (.str (tx l) t) (.int i u)) := by with_unfolding_all rfl)
    (ht : ∀ r, letTemporaryGo value (.str (tx l) t) r = pure () := by intro _; with_unfolding_all rfl) :
    wpAny (model prog w) A (subscriptTail value slice (.str (tx l) t) (.int i u)) Q E s := by
  subst hj
  obtain ⟨hlt, _⟩ := List.getElem?_eq_some_iff.mp hc
  refine item_str (fitsSsize_of (N := 9223372036854775808) (by omega) (by omega) (Int.le_refl _)) (by omega) (by rw [tx_len]; omega) (fun _ => ?_) hs ht
  have e : Txt.item (tx l) (j : Int) = tx [c] := by
    unfold Txt.item Txt.charAt seqIndex?
    have h1 : ¬ ((j : Int) < 0) := by omega
    simp only [if_neg h1, tx_len]
    rw [if_pos (by simp; omega)]
    simp [hc]
  rw [e]; exact h _ _
theorem ne_tx {a b : List Nat} {t u : Tok} {r : Bool} {Q : Value → Shared → Prop} (e : (a != b) = r) (h : Q (.bool r) s) : wpAny (model prog w) A (compareOp .NotEq (.str (tx a) t) (.str (tx b) u)) Q E s :=
  P.ne_str (by show Q (.bool (a != b)) s; rw [e]; exact h)
theorem eq_tx {a b : List Nat} {t u : Tok} {r : Bool} {Q : Value → Shared → Prop} (e : (a == b) = r) (h : Q (.bool r) s) : wpAny (model prog w) A (compareOp .Eq (.str (tx a) t) (.str (tx b) u)) Q E s :=
  P.eq_str (by show Q (.bool (a == b)) s; rw [e]; exact h)
theorem in_tx {l : List Nat} {c : Nat} {t u : Tok} {r : Bool} {Q : Value → Shared → Prop} (e : l.contains c = r) (h : Q (.bool r) s) : wpAny (model prog w) A (compareOp .In (.str (tx [c]) t) (.str (tx l) u)) Q E s := by
  refine P.in_str ?_
  have : (!(Builtin.Str.occurrences (tx l) (tx [c]) 0 (tx l).length 1).isEmpty) = r := by
    rw [← e, Bool.eq_iff_iff, StrLaws.found_iff, List.contains_iff_mem]
    constructor
    · rintro ⟨i, hi⟩
      have := (StrLaws.subAt_one (tx l) c i).mp hi
      exact List.mem_of_getElem? this
    · intro hm
      obtain ⟨i, hi⟩ := List.mem_iff_getElem?.mp hm
      exact ⟨i, (StrLaws.subAt_one (tx l) c i).mpr hi⟩
  rw [this]; exact h
theorem len_tx {l : List Nat} {t : Tok} {Q : Value → Shared → Prop} (hl : l.length ≤ 100000) (h : ∀ t' k, Q (.int (l.length : Int) t') { s with toks := k }) : wpAny (model prog w) A (call (.builtin "len") [.str (tx l) t]) Q E s :=
  SBL.len (by rw [tx_len]; omega) (by rw [tx_len]; exact h _ _)
/-- ''.join of a list of single signs -/
theorem join_tx {D : Addr} {vs : List Value} {cs : List Nat} {k : Nat} {t : Tok} {Q : Value → Shared → Prop} (N : News h₀ L s.heap news) (hm : (D, ({ cls := .type "list", data := .seq vs.toArray k } : Obj)) ∈ news) (hl : cs.length ≤ 100000)
    (hv : vs.length = cs.length ∧ ∀ (j : Nat) (v : Value), vs[j]? = some v → ∃ c u, cs[j]? = some c ∧ v = Value.str (tx [c]) u) (h : ∀ t' k, Q (.str (tx cs) t') { s with toks := k }) : wpAny (model prog w) A (call (.builtin "str.join") [.str (tx []) t, .ref D]) Q E s := by
  obtain ⟨l, hl1, hl2⟩ : ∃ l : List (Str × Tok), vs = strValues l ∧ l.map (·.1) = cs.map fun c => tx [c] := by
    clear hm h hl
    induction vs generalizing cs with
    | nil => 
      have : cs = [] := List.length_eq_zero_iff.mp hv.1.symm
      subst this; exact ⟨[], rfl, rfl⟩
    | cons v vs ih =>
      obtain ⟨h1, h2⟩ := hv
      obtain ⟨c, u, hc, rfl⟩ := h2 0 v rfl
      cases cs with
      | nil => cases hc
      | cons c' cs =>
        cases hc
        obtain ⟨l, rfl, hl⟩ := ih (cs := cs) ⟨by simpa using h1, fun j v hj => h2 (j + 1) v hj⟩
        exact ⟨(tx [c], u) :: l, rfl, by simp [hl]⟩
  subst hl1
  refine SC.join (texts := cs.map fun c => tx [c]) ⟨_, (N _ hm).1, rfl, k, rfl⟩ hl2 ?_ fun t' k => ?_
  · unfold PySem.JoinOk
    rw [StrLaws.joinFits (B := 1) (fun y hy => ?_) (by
      have e0 : (tx []).length = 0 := rfl
      rw [List.length_map, e0, Nat.mul_zero, Nat.mul_one]; omega)]
    · rfl
    · obtain ⟨c, _, rfl⟩ := List.mem_map.mp hy
      exact Nat.le_refl _
  · have e : Txt.join (tx []) (cs.map fun c => tx [c]) = tx cs := by
      unfold Txt.join
      rw [StrLaws.glued_eq_join]
      clear hm hl hv h hl2
      induction cs with
      | nil => rfl
      | cons c cs ih =>
        cases cs with
        | nil => rfl
        | cons c2 cs =>
          simp only [List.map_cons] at ih ⊢
          rw [Str.join, ih, app_tx, app_tx]
          rfl
          intro e; cases e
    rw [e]; exact h t' k
end
end Mine
end

theorem Mine.gapLS : True → True := by
  w_top off
  first | (walk1; exact True.intro) | exact id

section
open PySem PySem.Spec PySem.W PySem.Calls PyProof.Rows
set_option Elab.async false
set_option maxRecDepth 100000
namespace Mine
section
variable {prog : Program} {w : World} {A : Around} {E : Value → Shared → Prop} {s : Shared} {h₀ : Heap} {L : Addr} {m : Str → Option Value} {env : Env}
def SrcS (prog : Program) (w : World) (A : Around) (h₀ : Heap) (L : Addr) (m : Str → Option Value) (env : Env) (elt : Expr) (x : Str) (scope : Scope) (cl : List (Str × Addr)) (Fin : Shared → List Value → List (Addr × Obj) → Prop) (xv : Value) (s₁ : Shared) : Prop :=
  ∃ y t news, xv = .str y t ∧ y.cps.all (· < 128) = true ∧ A.handled = none ∧ Fr h₀ L s₁.heap m ∧ News h₀ L s₁.heap news ∧ y.cps.size ≤ sizeLine ∧
    ∀ s₂ : Shared, (∃ h, s₂ = { s₁ with heap := h }) → LCg.CompRest prog w A h₀ L m env elt x scope cl s₂ (fun _ => True) (SignAt y) (Fin s₂) y.cps.size 0 [] news
def SrcB (prog : Program) (w : World) (A : Around) (h₀ : Heap) (L : Addr) (m : Str → Option Value) (env : Env) (elt : Expr) (x : Str) (scope : Scope) (cl : List (Str × Addr)) (Fin : Shared → List Value → List (Addr × Obj) → Prop) (xv : Value) (s₁ : Shared) : Prop :=
  ∃ b t news, xv = .bytes b t ∧ A.handled = none ∧ Fr h₀ L s₁.heap m ∧ News h₀ L s₁.heap news ∧ b.size ≤ sizeLine ∧
    ∀ s₂ : Shared, (∃ h, s₂ = { s₁ with heap := h }) → LCg.CompRest prog w A h₀ L m env elt x scope cl s₂ (fun _ => True) (ByteAt b) (Fin s₂) b.size 0 [] news
def SrcSB (prog : Program) (w : World) (A : Around) (h₀ : Heap) (L : Addr) (m : Str → Option Value) (env : Env) (elt : Expr) (x : Str) (scope : Scope) (cl : List (Str × Addr)) (Fin : Shared → List Value → List (Addr × Obj) → Prop) (xv : Value) (s₁ : Shared) : Prop :=
  SrcS prog w A h₀ L m env elt x scope cl Fin xv s₁ ∨ SrcB prog w A h₀ L m env elt x scope cl Fin xv s₁
theorem ListComp_SB {elt iter : Expr} {x : Str} {px : Pos} {scope : Scope} {cl : List (Str × Addr)} {pos : Pos} {Q : Value → Shared → Prop} (F₀ : Fr h₀ L s.heap m)
    (hclos : closureFor scope env = pure cl) (hcell : ∀ y ∈ scope.names, y.2 ≠ .cell) (hkind : scope.kind = .function)
    (hnames : ∀ y ∈ scope.names, y.2 = .local → scope.names.lookup y.1 = some .local) (hx : scope.names.lookup x = some .local)
    (h : wpAny (model prog w) A (eval iter env) (SrcSB prog w A h₀ L m env elt x scope cl (fun s₂ => LCg.FinE h₀ L m s₂ Q)) E s)
    (hs : ∀ x, foldedSetIterable iter env x = pure x := by intro _; rfl) :
    wpAny (model prog w) A (eval (.ListComp elt [⟨.Name x px, iter, [], 0⟩] scope pos) env) Q E s := by
  rw [eval_ListComp]
  refine wpAny_comprehension_free (use := none) rfl hs hclos hkind hnames (wpAny_mono h (fun xv s₁ h₁ => ?_) fun _ _ e => e)
  rcases h₁ with h₁ | h₁
  · obtain ⟨y, t, news, rfl, ha, hh, F, N, hsz, R⟩ := h₁
    refine wpAny_pyIter_ascii ha ?_
    have up : ∀ b o, s₁.heap.get? b = some o → (s₁.heap.push { cls := .type "str_ascii_iterator", data := .fields #[.str y t, .int 0 0] }).get? b = some o := fun b o e => Heap.get?_push_of_some _ e
    refine LCg.block_U (Walks.strAscii hh s₁.heap.objs.size y t) hsz (fun i h st => by obtain ⟨o, e, _⟩ := st; exact ⟨o, e⟩) (fun i h h' o nw st e e' _ _ _ => by obtain ⟨o', q, r⟩ := st; rw [e] at q; cases q; exact ⟨o, e', r⟩) hcell hkind hx ⟨_, Heap.get?_push_size _ rfl, rfl, rfl⟩ (fun b hb => ?_)
      (F.keeps up) (N.grown up) (Nat.ne_of_lt F.ns.lt) (next_is_new F) (fun p hp => Nat.ne_of_lt (Heap.lt_size (N p hp).1)) trivial (R _ ⟨_, rfl⟩) ?_
    · show b < (s₁.heap.push _).objs.size
      rw [Heap.size_push, List.mem_singleton.mp hb]
      exact Nat.lt_succ_self _
    · intro D C h tk m' ys news' F' N' o1 hn hC₀ hD₀ hCL hDL hCD offC fin
      refine ⟨m', hn, fun h'' hs'' => fin D h'' tk (F'.change hs'' hCL hC₀) (fun p hp => ?_) o1⟩
      refine ⟨hs''.extBut _ _ ?_ (N' p hp).1, (N' p hp).2⟩
      rcases List.mem_cons.mp hp with rfl | hp
      · exact Ne.symm hCD
      · exact offC p hp

  · obtain ⟨y, t, news, rfl, hh, F, N, hsz, R⟩ := h₁
    refine KBw.pyIter_bytes ?_
    have up : ∀ b o, s₁.heap.get? b = some o → (s₁.heap.push { cls := .type "bytes_iterator", data := .fields #[.bytes y t, .int 0 0] }).get? b = some o := fun b o e => Heap.get?_push_of_some _ e
    refine LCg.block_U (KBw.walks hh s₁.heap.objs.size y t) hsz (fun i h st => by obtain ⟨o, e, _⟩ := st; exact ⟨o, e⟩) (fun i h h' o nw st e e' _ _ _ => by obtain ⟨o', q, r⟩ := st; rw [e] at q; cases q; exact ⟨o, e', r⟩) hcell hkind hx ⟨_, Heap.get?_push_size _ rfl, rfl, rfl⟩ (fun b hb => ?_)
      (F.keeps up) (N.grown up) (Nat.ne_of_lt F.ns.lt) (next_is_new F) (fun p hp => Nat.ne_of_lt (Heap.lt_size (N p hp).1)) trivial (R _ ⟨_, rfl⟩) ?_
    · show b < (s₁.heap.push _).objs.size
      rw [Heap.size_push, List.mem_singleton.mp hb]
      exact Nat.lt_succ_self _
    · intro D C h tk m' ys news' F' N' o1 hn hC₀ hD₀ hCL hDL hCD offC fin
      refine ⟨m', hn, fun h'' hs'' => fin D h'' tk (F'.change hs'' hCL hC₀) (fun p hp => ?_) o1⟩
      refine ⟨hs''.extBut _ _ ?_ (N' p hp).1, (N' p hp).2⟩
      rcases List.mem_cons.mp hp with rfl | hp
      · exact Ne.symm hCD
      · exact offC p hp
end
/-- what parse257 reads after the opening quote -/
def pq : List Nat → List Nat
  | [] => []
  | 34 :: 34 :: r => 34 :: pq r
  | 34 :: _ => []
  | c :: r => c :: pq r
end Mine
end

theorem Mine.gapKW : True → True := by
  w_top off
  first | (walk1; exact True.intro) | exact id

section
open PySem PySem.Spec PySem.W PySem.Calls PyProof.Rows
set_option Elab.async false
set_option maxRecDepth 100000
namespace Mine
section
variable {prog : Program} {w : World} {A : Around} {s : Shared} {env : Env}
theorem codeK_whileLoop {R : Result → Shared → Prop} {test : PySem.Expr} {body : List Stmt} (I : Nat → Shared → Prop)
    (turn : ∀ n s, I n s → wpAny (model prog w) A (isTrue test env (eval test env)) (fun b s₂ => if b then wpK (model prog w) A (execs body env) (fun f s₃ => match f with
          | .next | .cont => ∃ m, m < n ∧ I m s₃
          | .brk => R (.ok .next) s₃
          | .ret v => R (.ok (.ret v)) s₃) NoRaise s₂ else R (.ok .next) s₂) NoRaise s)
    (n : Nat) (h : I n s) : codeK (model prog w) A (.whileLoop test body [] env) R s := by
  refine codeK_loop rfl rfl I (fun n s hI => ?_) n h
  show wpK _ _ ((whileTurn test body [] env).onRaise (fun x => do noteFrame x env; theTreesLotGoes x)) _ _ s
  refine wpK_onRaise ?_
  refine wpK_mono (E := NoRaise) ?_ (fun _ _ x => x) (fun _ _ x => x.elim)
  simp only [whileTurn]
  refine wpK_bind (wpK_mono (wpK_of (turn n s hI)) (fun b s₂ h₂ => ?_) fun _ _ h' => h')
  cases b with
  | false =>
    simp only [Bool.false_eq_true, if_false] at h₂ ⊢
    rw [execs_nil]
    exact wpK_bind (wpK_pure (wpK_pure h₂))
  | true =>
    simp only [if_true] at h₂ ⊢
    refine wpK_bind (wpK_mono h₂ (fun f s₃ h₃ => ?_) fun _ _ h' => h')
    cases f with
    | next => exact wpK_pure (.inl ⟨rfl, h₃⟩)
    | cont => exact wpK_pure (.inl ⟨rfl, h₃⟩)
    | brk => exact wpK_pure h₃
    | ret v => exact wpK_pure h₃
theorem WhileK {test : PySem.Expr} {body : List Stmt} {pos : Pos} {Q : Flow → Shared → Prop}
    (h : codeK (model prog w) A (.whileLoop test body [] env) (fun r s' => match r with | .ok f => Q f s' | .error _ => False) s) :
    wpK (model prog w) A (exec (.While test body [] pos) env) Q NoRaise s := by
  rw [exec_While]
  refine wpK_bind (wpK_standAt ?_)
  unfold runOwn
  refine wpK_onRaise (wpK_mono (E := NoRaise) ?_ (fun _ _ x => x) (fun _ _ x => x.elim))
  exact wpK_run (codeK_mono h (fun r s' hr => by cases r <;> exact hr))
end
end Mine
end

theorem Mine.gapSO : True → True := by
  w_top off
  first | (walk1; exact True.intro) | exact id

section
open PySem PySem.Spec PySem.W PySem.Calls PyProof.Rows
set_option Elab.async false
set_option maxRecDepth 100000
namespace Mine
def collectEnd (v : Value) : Sem (List Value) := match v with
  | .ref a => do
    let o ← load a
    match o.data with
    | .seq xs _ => pure xs.toList
    | _ => unsupported "internal:collect"
  | _ => unsupported "internal:collect"
theorem plain_iadd : plainId "list.__iadd__" = true := by decide +kernel
section
variable {prog : Program} {w : World} {A : Around} {E : Value → Shared → Prop} {s : Shared}
theorem collect_bytes {Q : List Value → Shared → Prop} (hh : A.handled = none) (b : Array UInt8) (t : Tok)
    (h : ∀ h' tk acc', (∀ b o, s.heap.get? b = some o → h'.get? b = some o) → ItemsOf (ByteAt b) acc' b.size → Q acc'.toList { s with heap := h', toks := tk }) (hn : b.size ≤ sizeLine) :
    wpAny (model prog w) A (collect (.bytes b t)) Q E s := by
  unfold collect
  refine wpAny_bind (wpAny_runValue (codeAny_builtin entry_proto_collect' ?_))
  show wpAny _ _ (do again (.builtin "list.__iadd__" ⟨[← newList [], .bytes b t], []⟩)) _ _ s
  refine wpAny_bind (wpAny_newList (wpAny_pure ⟨Code.quiet_builtin _ (by decide +kernel), codeAny_builtin entry_list_iadd' ?_⟩))
  rw [Around.under_plainId plain_iadd _]
  show wpAny _ _ (Builtin.List.listExtendWith (.ref s.heap.objs.size) (.bytes b t) (.ref s.heap.objs.size)) _ _ { s with heap := s.heap.push (seqObj "list" #[] 0) }
  have hS : (s.heap.push (seqObj "list" #[] 0)).get? s.heap.objs.size = some { cls := .type "list", data := .seq #[] 0 } := Heap.get?_push_size _ rfl
  refine extend_bytes (R := fun r s' => match r with | .ok (.ret v) => wpAny (model prog w) A (collectEnd v) Q E s' | .ok _ => False | .error e => E e s') (s := { s with heap := s.heap.push (seqObj "list" #[] 0) }) hh b t s.heap.objs.size (.ref s.heap.objs.size) 0 hS (fun h' tk acc' c' hk hS' hacc => ?_) hn
  show wpAny (model prog w) A (do
      let o ← load s.heap.objs.size
      match o.data with
      | .seq xs _ => pure xs.toList
      | _ => unsupported "internal:collect") Q E { s with heap := h', toks := tk }
  refine wpAny_bind (wpAny_load hS' ?_)
  exact wpAny_pure (h h' tk acc' (fun b o e => hk b o (Nat.ne_of_lt (Heap.lt_size e)) (Heap.get?_push_of_some _ e)) hacc)
theorem sorted_bytes {h₀ : Heap} {L : Addr} {m : Str → Option Value} {news : List (Addr × Obj)} {Q : Value → Shared → Prop} {x y z v : UInt8} {t : Tok} (hh : A.handled = none)
    (F : Fr h₀ L s.heap m) (N : News h₀ L s.heap news)
    (h : ∀ (h' : Heap) (tk : Nat) (D : Addr) (vs' : List Value) (ns' : List Int) (e : Nat), Fr h₀ L h' m → News h₀ L h' ((D, seqObj "list" vs'.toArray e) :: news) → (∀ p ∈ news, p.1 < D) →
      IntsAre vs' ns' → ns'.Perm [(x.toNat : Int), (y.toNat : Int), (z.toNat : Int), (v.toNat : Int)] → ns'.Pairwise (· ≤ ·) → Q (.ref D) { s with heap := h', toks := tk }) :
    wpAny (model prog w) A (call (.builtin "sorted") [.bytes [x, y, z, v].toArray t]) Q E s := by
  refine Calls.call_function_entry kind_sorted plain_sorted entry_sorted (args_sorted1 _) ?_
  unfold Builtin.«sorted»
  refine wpAny_bind (m := checkCount "sorted" 1 1 _) (wpAny_pure ?_)
  refine wpAny_bind (collect_bytes (A := A.in1) hh [x, y, z, v].toArray t (fun h' tk acc hk hacc => ?_) (by show (4 : Nat) ≤ sizeLine; decide))
  obtain ⟨hs, hi⟩ := hacc
  obtain ⟨v1, v2, v3, v4, rfl⟩ : ∃ v1 v2 v3 v4, acc = #[v1, v2, v3, v4] := by
    obtain ⟨l⟩ := acc
    obtain ⟨a, b, c, d, rfl⟩ := list_of4 (l := l) hs
    exact ⟨a, b, c, d, rfl⟩
  obtain ⟨c1, u1, e1, rfl⟩ := hi 0 v1 rfl
  obtain ⟨c2, u2, e2, rfl⟩ := hi 1 v2 rfl
  obtain ⟨c3, u3, e3, rfl⟩ := hi 2 v3 rfl
  obtain ⟨c4, u4, e4, rfl⟩ := hi 3 v4 rfl
  cases e1; cases e2; cases e3; cases e4
  refine wpAny_bind (wpAny_newList ?_)
  have hoL : (h'.push (seqObj "list" [Value.int (x.toNat : Int) u1, .int (y.toNat : Int) u2, .int (z.toNat : Int) u3, .int (v.toNat : Int) u4].toArray 0)).get? h'.objs.size = some (seqObj "list" [Value.int (x.toNat : Int) u1, .int (y.toNat : Int) u2, .int (z.toNat : Int) u3, .int (v.toNat : Int) u4].toArray 0) := Heap.get?_push_size _ rfl
  have hI : IntsAre [Value.int (x.toNat : Int) u1, .int (y.toNat : Int) u2, .int (z.toNat : Int) u3, .int (v.toNat : Int) u4] [(x.toNat : Int), (y.toNat : Int), (z.toNat : Int), (v.toNat : Int)] := .cons _ _ (.cons _ _ (.cons _ _ (.cons _ _ .nil)))
  have FF := F.kept hk
  refine wpAny_bind (wpAny_holding (wpAny_call_entry slot_list_sort ⟨_, hoL, rfl⟩ entry_list_sort (list_sort_tree hoL hI (by simp) fun out ns' a1 a2 a3 => ⟨_, rfl, ?_⟩) (args_list_sort _)))
  refine wpAny_pure ⟨_, rfl, ?_⟩
  obtain ⟨e, he⟩ := sortedHeap_at (vs := [Value.int (x.toNat : Int) u1, .int (y.toNat : Int) u2, .int (z.toNat : Int) u3, .int (v.toNat : Int) u4]) (out := out) hoL
  have hk2 : ∀ b o, s.heap.get? b = some o → (sortedHeap (h'.push (seqObj "list" [Value.int (x.toNat : Int) u1, .int (y.toNat : Int) u2, .int (z.toNat : Int) u3, .int (v.toNat : Int) u4].toArray 0)) h'.objs.size [Value.int (x.toNat : Int) u1, .int (y.toNat : Int) u2, .int (z.toNat : Int) u3, .int (v.toNat : Int) u4] out).get? b = some o := fun b o e => by
    have e2 := hk b o e
    have hlt := Heap.lt_size e2
    rw [sortedHeap_old (Nat.ne_of_lt hlt) (by rw [size_push']; exact Nat.lt_succ_of_lt hlt), Heap.get?_push_ne _ _ _ (Nat.ne_of_lt hlt)]
    exact e2
  have F2 := F.kept hk2
  have hlt : ∀ b o, s.heap.get? b = some o → b < h'.objs.size := fun b o e => Heap.lt_size (hk b o e)
  refine h _ _ _ out.toList ns' e F2 (fun p hp => ?_) (fun p hp => hlt _ _ (N p hp).1) a1 a2 a3
  rcases List.mem_cons.mp hp with rfl | hp
  · obtain ⟨oL, _, _, hL, _⟩ := F.ns
    refine ⟨he, Nat.ne_of_gt (hlt _ _ hL), ?_⟩
    cases hq : h₀.get? h'.objs.size with
    | none => rfl
    | some o' => exact absurd (hlt _ _ (F.keep _ _ hq)) (Nat.lt_irrefl _)
  · exact ⟨hk2 _ _ (N p hp).1, (N p hp).2⟩
end
end Mine
end

theorem Mine.gapLQ : True → True := by
  w_top off
  first | (walk1; exact True.intro) | exact id

section
open PySem PySem.Spec PySem.W PySem.Calls PyProof.Rows
set_option Elab.async false
set_option maxRecDepth 100000
namespace Mine
/-- the values of a list of kept places -/
inductive AllR (R : Nat → Value → Prop) : List Nat → List Value → Prop
  | nil : AllR R [] []
  | cons {i : Nat} {v : Value} {l : List Nat} {vs : List Value} : R i v → AllR R l vs → AllR R (i :: l) (v :: vs)
theorem AllR.snoc {R : Nat → Value → Prop} {i : Nat} {v : Value} (hv : R i v) : ∀ {l : List Nat} {vs : List Value}, AllR R l vs → AllR R (l ++ [i]) (vs ++ [v])
  | _, _, .nil => .cons hv .nil
  | _, _, .cons h r => .cons h (AllR.snoc hv r)
section
variable {prog : Program} {w : World} {A : Around} {E : Value → Shared → Prop} {s : Shared} {h₀ : Heap} {L : Addr} {m : Str → Option Value} {env : Env}
/-- what a test hands on -/
def TestEnd (s : Shared) (h₀ : Heap) (L : Addr) (m : Str → Option Value) (b : Bool) (all : List (Addr × Obj)) (ok : Bool) (s' : Shared) : Prop :=
  ∃ h' tk', s' = { s with heap := h', toks := tk' } ∧ ok = b ∧ Fr h₀ L h' m ∧ News h₀ L h' all
theorem rest_test {ct elt : Expr} {x : Str} {scope : Scope} {cl : List (Str × Addr)} {S : List (Addr × Obj) → Prop} {P : Nat → Value → Prop} {Fin : List Value → List (Addr × Obj) → Prop} {news : List (Addr × Obj)} {R : Nat → Value → Prop} (tb : Nat → Bool) (hS : S news)
    (test : ∀ i v I oI C oC D m₂ h tk ys (E' : Value → Shared → Prop), P i v → LCg.NsObj oC m₂ → m₂ x = some v → Fr h₀ L h m → News h₀ L h ((I, oI) :: (C, oC) :: (D, LCg.lst ys) :: news) →
      wpAny (model prog w) A (isTrue ct (compEnvC scope cl C env) (eval ct (compEnvC scope cl C env))) (TestEnd s h₀ L m (tb i) ((I, oI) :: (C, oC) :: (D, LCg.lst ys) :: news)) E' { s with heap := h, toks := tk })
    (turn : ∀ i v I oI C oC D m₂ h tk ys (E' : Value → Shared → Prop), P i v → LCg.NsObj oC m₂ → m₂ x = some v → Fr h₀ L h m → News h₀ L h ((I, oI) :: (C, oC) :: (D, LCg.lst ys) :: news) →
      wpAny (model prog w) A (eval elt (compEnvC scope cl C env)) (SameEnd s h₀ L m (R i) ((I, oI) :: (C, oC) :: (D, LCg.lst ys) :: news)) E' { s with heap := h, toks := tk }) :
    ∀ k i ys idx, AllR R idx ys → (∀ ys' : List Value, AllR R (idx ++ ((List.range k).map (i + ·)).filter tb) ys' → Fin ys' news) → LCt.CompRestT prog w A h₀ L m env ct elt x scope cl s S P Fin k i ys news := by
  intro k
  induction k with
  | zero => intro i ys idx hy fin; exact LCt.CompRestT.zero (fin ys (by simpa using hy))
  | succ k ih =>
    intro i ys idx hy fin
    have er : ∀ idx' : List Nat, idx' ++ ((List.range (k + 1)).map (i + ·)).filter tb = (if tb i = true then idx' ++ [i] else idx') ++ ((List.range k).map (i + 1 + ·)).filter tb := by
      intro idx'
      rw [List.range_succ_eq_map, List.map_cons, List.map_map, List.filter_cons]
      have e2 : (List.range k).map ((i + ·) ∘ Nat.succ) = (List.range k).map (i + 1 + ·) := List.map_congr_left fun a _ => by show i + (a + 1) = i + 1 + a; omega
      rw [e2, Nat.add_zero]
      by_cases hb : tb i = true
      · rw [if_pos hb, if_pos hb, List.append_assoc]; rfl
      · rw [if_neg hb, if_neg hb]
    rw [er] at fin
    refine LCt.CompRestT.succ fun v I oI C oC D m₂ h tk E' hP hC hx F N off ne => ?_
    refine wpAny_mono (test i v I oI C oC D m₂ h tk ys E' hP hC hx F N) (fun ok s' hq => ?_) fun _ _ e => e
    obtain ⟨h', tk', rfl, rfl, F', N'⟩ := hq
    by_cases hb : tb i = true
    · rw [if_pos hb] at fin ⊢
      refine wpAny_mono (turn i v I oI C oC D m₂ h' tk' ys E' hP hC hx F' N') (fun y s' hq => ?_) fun _ _ e => e
      obtain ⟨h2, tk2, rfl, hR, F2, N2⟩ := hq
      exact LCg.CompEnd.intro (s₁ := { s with heap := h, toks := tk }) F2 N2 news (fun _ hp => hp) off hS (ih (i + 1) (ys ++ [y]) (idx ++ [i]) (hy.snoc hR) fin)
    · rw [if_neg hb] at fin ⊢
      exact LCg.CompEnd.intro (s₁ := { s with heap := h, toks := tk }) F' N' news (fun _ hp => hp) off hS (ih (i + 1) ys idx hy fin)
def SrcTQ (prog : Program) (w : World) (A : Around) (h₀ : Heap) (L : Addr) (m : Str → Option Value) (env : Env) (ct elt : Expr) (x : Str) (scope : Scope) (cl : List (Str × Addr)) (Fin : Shared → List Value → List (Addr × Obj) → Prop) (xv : Value) (s₁ : Shared) : Prop :=
  ∃ ax its news, xv = .ref ax ∧ A.handled = none ∧ Fr h₀ L s₁.heap m ∧ News h₀ L s₁.heap news ∧ SrcTu ax its news ∧ its.size ≤ sizeLine ∧
    ∀ s₂ : Shared, (∃ h, s₂ = { s₁ with heap := h }) → LCt.CompRestT prog w A h₀ L m env ct elt x scope cl s₂ (SrcTu ax its) (fun i v => its[i]? = some v) (Fin s₂) its.size 0 [] news
theorem ListComp_TQ {ct elt iter : Expr} {x : Str} {px : Pos} {scope : Scope} {cl : List (Str × Addr)} {pos : Pos} {Q : Value → Shared → Prop} (F₀ : Fr h₀ L s.heap m)
    (hclos : closureFor scope env = pure cl) (hcell : ∀ y ∈ scope.names, y.2 ≠ .cell) (hkind : scope.kind = .function)
    (hnames : ∀ y ∈ scope.names, y.2 = .local → scope.names.lookup y.1 = some .local) (hx : scope.names.lookup x = some .local)
    (h : wpAny (model prog w) A (eval iter env) (SrcTQ prog w A h₀ L m env ct elt x scope cl (fun s₂ => LCg.FinE h₀ L m s₂ Q)) E s)
    (hs : ∀ x, foldedSetIterable iter env x = pure x := by intro _; rfl) :
    wpAny (model prog w) A (eval (.ListComp elt [⟨.Name x px, iter, [ct], 0⟩] scope pos) env) Q E s := by
  rw [eval_ListComp]
  refine wpAny_comprehension_free (use := none) rfl hs hclos hkind hnames (wpAny_mono h (fun xv s₁ h₁ => ?_) fun _ _ e => e)
  obtain ⟨ax, its, news, rfl, hh, F, N, S, hsz, R⟩ := h₁
  have hl := S.tup N
  have hlt : ax < s₁.heap.objs.size := by obtain ⟨_, e, _⟩ := hl; exact Heap.lt_size e
  refine wpAny_pyIter_tuple hl ?_
  have up : ∀ b o, s₁.heap.get? b = some o → (s₁.heap.push { cls := .type "tuple_iterator", data := .fields #[.ref ax, .int 0 0] }).get? b = some o := fun b o e => Heap.get?_push_of_some _ e
  refine LCt.block_T (Walks.tuple hh s₁.heap.objs.size ax (Nat.ne_of_lt hlt) its) hsz (fun i h st => by obtain ⟨o, e, _⟩ := st.1; exact ⟨o, e⟩) tuple_st hcell hkind hx ⟨⟨_, Heap.get?_push_size _ rfl, rfl, rfl⟩, hl.push _⟩ (fun b hb => ?_)
    (F.keeps up) (N.grown up) (Nat.ne_of_lt F.ns.lt) (next_is_new F) (fun p hp => Nat.ne_of_lt (Heap.lt_size (N p hp).1)) S (R _ ⟨_, rfl⟩) ?_
  · show b < (s₁.heap.push _).objs.size
    rw [Heap.size_push]
    rcases List.mem_cons.mp hb with rfl | hb
    · exact Nat.lt_succ_self _
    · rw [List.mem_singleton.mp hb]; exact Nat.lt_succ_of_lt hlt
  · intro D C h tk m' ys news' F' N' o1 hn hC₀ hD₀ hCL hDL hCD offC fin
    refine ⟨m', hn, fun h'' hs'' => fin D h'' tk (F'.change hs'' hCL hC₀) (fun p hp => ?_) o1⟩
    refine ⟨hs''.extBut _ _ ?_ (N' p hp).1, (N' p hp).2⟩
    rcases List.mem_cons.mp hp with rfl | hp
    · exact Ne.symm hCD
    · exact offC p hp
end
end Mine
end

theorem Mine.gapLE : True → True := by
  w_top off
  first | (walk1; exact True.intro) | exact id

section
open PySem PySem.Spec PySem.W PySem.Calls PyProof.Rows
set_option Elab.async false
set_option maxRecDepth 100000
namespace Mine
section
variable {prog : Program} {w : World} {A : Around} {s : Shared} {R : Result → Shared → Prop} {m mg mb : Str → Option Value} {K : Frag} {p : Program} {loose : List Str} {mean : ExcName → Option Value}
  {name qual : Str} {params : Arguments} {body : List Stmt} {scope : Scope} {dV kV doc pm cdv ct oc : Value} {an od : Option Addr} {osl : Array (Option Value)} {f : Addr} {args : Args} {binds : List (Str × Value)}
/-- the entry from the claim's own caller: a def of the written part with cells -/
theorem entryCK (X₀ : K.In s.heap) (T : Top p loose mean mg mb s.heap)
    (ho : K.lookup f = some ⟨oc, od, .func (fnOf name qual params body scope dV kV doc pm an cdv ct), osl⟩) (hcd : codeIn K cdv qual = true) (hroom : A.depth < recursionLimit)
    (hbind : BindsTo s (fnOf name qual params body scope dV kV doc pm an cdv ct) args binds) (hkind : (binds.all fun y => scope.names.lookup y.1 == some .local || scope.names.lookup y.1 == some .cell) = true)
    (hnd : ((cellsFrom 0 scope.names []).map (·.1)).Nodup)
    (h : ∀ h₁ tk cells, Fr s.heap s.heap.objs.size h₁ (bindL (envOfC qual scope s.heap.objs.size f cdv).kindOf binds fun _ => none) → News s.heap s.heap.objs.size h₁ cells →
      CellsAre (bindC (envOfC qual scope s.heap.objs.size f cdv).kindOf binds fun _ => none) (cellsFrom (s.heap.objs.size + 1) scope.names []) cells →
      wpK (model prog w) (A.deeper (envOfC qual scope s.heap.objs.size f cdv)) (execs body (envOfC qual scope s.heap.objs.size f cdv))
        (fun fl s' => R (.ok (.ret (match fl with | .ret v => v | _ => .none))) s')
        (fun _ _ => False)
        { s with heap := h₁, toks := tk })
    (hco : scope.isCoroutine = false) (hgen : scope.isGenerator = false) (hk : scope.kind = .function) : codeK (model prog w) A (.call (.ref f) args) R s := by
  have hfo := X₀ _ _ ho
  refine callFnK hroom hfo rfl hco hgen rfl (codeRec_of X₀ hcd) (hbind _ _ _ _ ?_)
  refine wpAny_newFunctionEnv_cells hk (kindsX hkind _) fun env' he s' x => ?_
  subst he
  refine ⟨T.nolimit.keeps x.toInCall.keep, funcK ?_⟩
  obtain ⟨h₁, tk, rfl, _⟩ := x.done
  have hk₁ := x.toInCall.keep
  obtain ⟨cells, NC, Y⟩ := Cl.news (h₀ := s.heap) (Nat.le_refl _) fun n c hm => ⟨x.cell n c (lookup_of_mem_nodup (cellsFrom_names scope.names 0 (s.heap.objs.size + 1) [] [] rfl ▸ hnd) hm), x.above n c hm⟩
  exact wpK_mono (h h₁ tk cells ⟨x.toInCall.ns, hk₁, Nat.le_refl _⟩ NC Y) (fun fl s' hl => hl) fun _ _ y => y.elim
end
end Mine
end

theorem Mine.gapLD : True → True := by
  w_top off
  first | (walk1; exact True.intro) | exact id

section
open PySem PySem.Spec PySem.W PySem.Calls PyProof.Rows
set_option Elab.async false
set_option maxRecDepth 100000
namespace Mine
noncomputable def lawFd (P : Params) : Option FuncData := match (hd.heap_39 P).lookup 110 with | some ⟨_, _, .func fd, _⟩ => some fd | _ => none
noncomputable def lawRest (P : Params) (k : Nat) : List Stmt := match lawFd P with | some fd => (match fd.body with | .stmts b => b.drop k | _ => []) | none => []
noncomputable def lawScope (P : Params) : Scope := match lawFd P with | some fd => fd.scope | none => default
noncomputable def lawCd (P : Params) : Value := match lawFd P with | some fd => fd.code | none => .none
noncomputable abbrev lawEnv (w : World) (s : Shared) : Env := envOfC (Str.ofString "law") (lawScope w.params) s.heap.objs.size 110 (lawCd w.params)
def LawEnd (s : Shared) (r : Result) (s' : Shared) : Prop := r = .ok (.ret (.bool true)) ∧ ∃ h' tk' L m', s' = { s with heap := h', toks := tk' } ∧ Fr s.heap L h' m'
/-- the walk of the law from its statement k on -/
abbrev Ph (w : World) (s : Shared) (k : Nat) (h : Heap) (tk : Nat) : Prop :=
  wpK (model PySem.Challenge.rw_wf0012_01.row.prog w) (callerA.deeper (lawEnv w s)) (execs (lawRest w.params k) (lawEnv w s))
    (fun fl s' => LawEnd s (.ok (.ret (match fl with | .ret v => v | _ => .none))) s') (fun _ _ => False) { s with heap := h, toks := tk }
theorem news_drop2 {h₀ h : Heap} {L : Addr} {a b : Addr × Obj} {r : List (Addr × Obj)} (N : News h₀ L h (a :: b :: r)) : News h₀ L h (a :: r) := fun p hp => N p (by
  rcases List.mem_cons.mp hp with rfl | hp
  · exact .head _
  · exact .tail _ (.tail _ hp))
theorem news_drop1 {h₀ h : Heap} {L : Addr} {a : Addr × Obj} {r : List (Addr × Obj)} (N : News h₀ L h (a :: r)) : News h₀ L h r := fun p hp => N p (.tail _ hp)
end Mine
end

section
open PySem PySem.Spec PySem.W PySem.Calls PyProof.Rows
set_option Elab.async false
set_option maxRecDepth 100000
namespace Mine
local macro_rules | `(tactic| walk_at "execs nil") => `(tactic| refine wpAny_execs_nil ?_)
local macro_rules | `(tactic| walk_at "execs cons") => `(tactic| refine wpAny_execs_cons ?_)

section
theorem swapL2 (a b : UInt8) : swapL 2 [a, b] = [b, a] := by simp [swapL, swapAt, List.range_succ]
theorem swapL3 (a b c : UInt8) : swapL 3 [a, b, c] = [c, b, a] := by simp [swapL, swapAt, List.range_succ]
theorem swapL8 (a b c d e f g h : UInt8) : swapL 4 [a, b, c, d, e, f, g, h] = [d, c, b, a, h, g, f, e] := by simp [swapL, swapAt, List.range_succ]
theorem c41 : clipAt 4 1 = 1 := by decide
theorem c42 : clipAt 4 2 = 2 := by decide
theorem c43 : clipAt 4 3 = 3 := by decide
theorem c31 : clipAt 3 1 = 1 := by decide
theorem c81 : clipAt 8 1 = 1 := by decide
theorem c84 : clipAt 8 4 = 4 := by decide
theorem c85 : clipAt 8 5 = 5 := by decide
section
variable {prog : Program} {w : World} {A : Around} {E : Value → Shared → Prop} {s : Shared} {value slice : PySem.Expr} {t : Tok} {h₀ : Heap} {L : Addr} {m : PySem.Str → Option Value} {news : List (Addr × Obj)} {lv uv : Value} {lo hi : Option Int} {Q : Value → Shared → Prop}
theorem slice_L {l d : List UInt8} (hF : Fr h₀ L s.heap m) (hN : News h₀ L s.heap news) (hl : IsPart lv lo) (hu : IsPart uv hi) (hz : l.length ≤ 16777216)
    (e : (l.drop (lo.elim 0 (clipAt l.length))).take (hi.elim l.length (clipAt l.length) - lo.elim 0 (clipAt l.length)) = d)
    (h : ∀ h' t' k, Fr h₀ L h' m → News h₀ L h' news → Q (.bytes d.toArray t') { s with heap := h', toks := k })
    (hs : subscripted slice false (.bytes l.toArray t) (.ref s.heap.objs.size) = operate [.ref s.heap.objs.size, .bytes l.toArray t] (getItem (.bytes l.toArray t) (.ref s.heap.objs.size)) := by with_unfolding_all rfl)
    (ht : ∀ r, letTemporaryGo value (.bytes l.toArray t) r = pure () := by intro _; with_unfolding_all rfl) :
    wpAny (model prog w) A (subscriptTail value slice (.bytes l.toArray t) (.ref s.heap.objs.size)) Q E { s with heap := s.heap.push { cls := .type "slice", data := .fields #[lv, uv, .none] } } := by
  refine KBc.slice_K hF hN rfl hl hu (by rw [KBw.ints_length, List.size_toArray]; exact hz) (fun h' t' k F N _ => ?_) hs ht
  rw [KBc.picked_eq]
  have e' := e
  simp only [List.size_toArray]
  rw [e']
  exact h h' t' k F N
end
end

section
local macro_rules | `(tactic| kby_idx) => `(tactic| (simp [clipAt]; done))
local macro_rules | `(tactic| walk_at "subscriptTail") => `(tactic| (k_here; (with_reducible show wpAny _ _ (subscriptTail _ (Expr.Slice _ _ none _) (Value.bytes (List.toArray _) _) (Value.ref _)) _ _ _); (with_reducible rename Fr _ _ _ _ => F'); (with_reducible rename News _ _ _ _ => N'); (refine' slice_L (s := ⟨_, _, _, _, _⟩) F' N' (by constructor) (by constructor) ?z ?e ?_; (case z => kby_size); (case e => (simp [c41, c42, c43, c31, c81, c84, c85]; exact rfl))); intro _ _ _ _ _))

theorem gapEX : True → True := by
  w_top off
  first | (walk1; exact True.intro) | exact id

section
local macro_rules | `(tactic| cell_enter) => `(tactic| (refine' defK ?k1 ?k2 ?k3 ?k4 ?k5 ?kA ?kF ?kK ?k6 ?k7 ?k8 ?k9 ?kB ?_ ?c2 ?c3 ?c4 ?c5; (case kA => exact rfl); (case kF => exact rfl); (case kK => assumption); (case k1 => k_asm); (case k2 => k_asm); (case k3 => k_asm); (case k4 => k_asm); (case k5 => k_asm); (case k6 => k_is); (case k7 => k_is); (case k8 => ktr_room); (case k9 => exact BindsTo.of_eq rfl); (case c5 => decide); (case kB => exact locs rfl); (case c2 => exact rfl); (case c3 => exact rfl); (case c4 => exact rfl); intro g' L' h' FG' F' N' B' X' T' lt'; (try dsimp only)))
set_option maxHeartbeats 8000000 in
theorem ex_spec {w : World} {mean : ExcName → Option Value} {mg mb : Str → Option Value} (a1 a2 a3 a4 : UInt8) (t : Tok) :
    Spc PySem.Challenge.rw_wf0012_01.row.prog w (hd.heap_39 w.params) hd.view_39 (looseW hd.view_39 []) mean mg mb 10 100 79 [.bytes [a1, a2, a3, a4].toArray t] (fun t => .bytes [a1, a3, a2, a4].toArray t) := by
  k_fill
  intro dp un gd cn cs a ccd cl outer A₀ base h₀ L m news s Q E B F X N T hk hdp hu hret
  refine wpK_call ?_
  cell_enter
  refine execsK_cons (ReturnK (BinOpK (BinOpK (wpK_of ?_))))
  repeat walk1
  refine CallNameK ?_
  walk1
  refine argsK (P := fun h => Frag.In (hd.heap_39 w.params) h) (keeps_K (by k_is)) (wpK_of ?_)
  repeat walk1
  refine bs_spec (l := [a2, a3]) (k := 1) (wd := 2) (by decide) (by decide) rfl (by show (2 : Nat) ≤ 65536; decide) _ _ _ _ _ _ _ _ _ _ _ _ _ _ _ _ _ _ _ _ (by assumption) (by assumption) (by assumption) (by assumption) (by assumption) rfl (by ktr_room) (by ktr_units) ?_
  intro t1 h1 k1 F1 N1
  rw [swapL2]
  dsimp only
  repeat walk1
  refine wpK_of ?_
  repeat walk1
  exact hret _ _ _ (by assumption) (by assumption)

abbrev tupO (vs : List Value) : Obj := { cls := .type "tuple", data := .seq vs.toArray }
/-- the same of a def that hands back a new tuple of two bytes -/
abbrev SpcT (prog : Program) (w : World) (K : Frag) (p : Program) (loose : List Str) (mean : ExcName → Option Value) (mg mb : Str → Option Value) (nd nu : Nat) (f : Addr) (vs : List Value) (b1 b2 : List UInt8) : Prop :=
  ∀ (dp un : Nat) (gd : Option (List Code)) (cn : Str) (cs : Scope) (a : Addr) (ccd : Value) (cl : List (Str × Addr)) (outer : List Env) (A₀ : Around) (base h₀ : Heap) (L : Addr) (m : Str → Option Value) (news : List (Addr × Obj)) (s : Shared) (Q E : Value → Shared → Prop),
    Below A₀ base outer h₀ → Fr h₀ L s.heap m → K.In h₀ → News h₀ L s.heap news → Top p loose mean mg mb h₀ → cs.kind = .function → dp + nd < recursionLimit → un + nu < cLine →
    (∀ q t1 t2 h' tk', Fr h₀ L h' m → News h₀ L h' ((q, tupO [.bytes b1.toArray t1, .bytes b2.toArray t2]) :: news) → Q (.ref q) { s with heap := h', toks := tk' }) → wpK (model prog w) (ktrTop dp un gd cn cs L a ccd cl outer) (call (.ref f) vs) Q E s
set_option maxHeartbeats 8000000 in
theorem qu_spec {w : World} {mean : ExcName → Option Value} {mg mb : Str → Option Value} (a1 a2 a3 a4 b1 b2 b3 b4 : UInt8) (t u : Tok) :
    SpcT PySem.Challenge.rw_wf0012_01.row.prog w (hd.heap_39 w.params) hd.view_39 (looseW hd.view_39 []) mean mg mb 10 100 86 [.bytes [a1, a2, a3, a4].toArray t, .bytes [b1, b2, b3, b4].toArray u] [a4, a1, a2, a3] [b4, b1, b2, b3] := by
  k_fill
  intro dp un gd cn cs a ccd cl outer A₀ base h₀ L m news s Q E B F X N T hk hdp hu hret
  refine wpK_call ?_
  cell_enter
  refine execsK_cons (AssignNameK (CallNameK ?_))
  walk1
  refine argsK (P := fun h => Frag.In (hd.heap_39 w.params) h) (keeps_K (by k_is)) (wpK_of ?_)
  repeat walk1
  refine bs_spec (l := [a1, a2, a3, a4, b1, b2, b3, b4]) (k := 2) (wd := 4) (by decide) (by decide) rfl (by show (8 : Nat) ≤ 65536; decide) _ _ _ _ _ _ _ _ _ _ _ _ _ _ _ _ _ _ _ _ (by assumption) (by assumption) (by assumption) (by assumption) (by assumption) rfl (by ktr_room) (by ktr_units) ?_
  intro t1 h1 k1 F1 N1
  rw [swapL8]
  dsimp only
  repeat walk1
  refine execsK_cons (ReturnK (TupleK ?_))
  refine itemsK_cons (BinOpK (wpK_of ?_))
  repeat walk1
  refine CallNameK ?_
  walk1
  refine argsK (P := fun h => Frag.In (hd.heap_39 w.params) h) (keeps_K (by k_is)) (wpK_of ?_)
  repeat walk1
  refine bs_spec (l := [a3, a2, a1]) (k := 1) (wd := 3) (by decide) (by decide) rfl (by show (3 : Nat) ≤ 65536; decide) _ _ _ _ _ _ _ _ _ _ _ _ _ _ _ _ _ _ _ _ (by assumption) (by assumption) (by assumption) (by assumption) (by assumption) rfl (by ktr_room) (by ktr_units) ?_
  intro t2 h2 k2 F2 N2
  rw [swapL3]
  dsimp only
  repeat walk1
  refine itemsK_cons (BinOpK (wpK_of ?_))
  repeat walk1
  refine CallNameK ?_
  walk1
  refine argsK (P := fun h => Frag.In (hd.heap_39 w.params) h) (keeps_K (by k_is)) (wpK_of ?_)
  repeat walk1
  refine bs_spec (l := [b3, b2, b1]) (k := 1) (wd := 3) (by decide) (by decide) rfl (by show (3 : Nat) ≤ 65536; decide) _ _ _ _ _ _ _ _ _ _ _ _ _ _ _ _ _ _ _ _ (by assumption) (by assumption) (by assumption) (by assumption) (by assumption) rfl (by ktr_room) (by ktr_units) ?_
  intro t3 h3 k3 F3 N3
  rw [swapL3]
  dsimp only
  repeat walk1
  refine itemsK_nil ?_
  repeat walk1
  exact hret _ _ _ _ _ (by assumption) (by assumption)
end

theorem gapMI : True → True := by
  w_top off
  first | (walk1; exact True.intro) | exact id

section
section
variable {prog : Program} {w : World} {A : Around} {E : Value → Shared → Prop} {s : Shared}
theorem div_is {a b : Int} {d n : Nat} {t u : Tok} {Q : Value → Shared → Prop} (ea : a = (d : Int)) (eb : b = (n : Int)) (hd : d ≤ 100000) (hn : 0 < n) (hn2 : n ≤ 100000)
    (h : Q (.float (Float64.ofFrac false d n) s.toks) { s with toks := s.toks + 1 }) : wpAny (model prog w) A (binaryOp .Div (.int a t) (.int b u)) Q E s := by
  subst ea; subst eb
  exact div_nn (by omega) (by omega) (by omega) (by omega) h
theorem fdiv_is {a b c : Int} {t u : Tok} {Q : Value → Shared → Prop} (e : a.fdiv b = c) (hb : b ≠ 0) (hb2 : b.natAbs < 1073741824)
    (h : Q (.int c s.toks) { s with toks := s.toks + 1 }) : wpAny (model prog w) A (binaryOp .FloorDiv (.int a t) (.int b u)) Q E s :=
  floordiv_int hb (e ▸ h) (Or.inl (PyProof.noPylong_small hb2))
theorem bytes_led {h₀ : Heap} {L D : Addr} {m : Str → Option Value} {news : List (Addr × Obj)} {vs : List Value} {ns : List Int} {Q : Value → Shared → Prop} (F : Fr h₀ L s.heap m) (N : News h₀ L s.heap news) (hm : (D, LCg.lst vs) ∈ news) (hi : IntsAre vs ns) (hr : ∀ n ∈ ns, 0 ≤ n ∧ n < 256) (hz : vs.length ≤ sizeLine) (hh : A.handled = none) {l : List UInt8} (el : (ns.map fun n => n.toNat.toUInt8) = l)
    (h : ∀ h' t k, Fr h₀ L h' m → News h₀ L h' news → Q (.bytes l.toArray t) { s with heap := h', toks := k }) : wpAny (model prog w) A (call (.type "bytes") [.ref D]) Q E s :=
  bytes_K F N ⟨_, (N _ hm).1, rfl, vs.length, rfl⟩ hi hr hz hh fun h' t k F' N' _ => el ▸ h h' t k F' N'
theorem apart_lt {news : List (Addr × Obj)} {L : Addr} (h : ∀ p ∈ news, p.1 < L) : ApartOr (L + 1) news := by
  induction news with
  | nil => trivial
  | cons p r ih => exact ⟨.inl (Nat.ne_of_lt (Nat.lt_succ_of_lt (h p (.head _)))), ih fun q hq => h q (.tail _ hq)⟩
end
local macro_rules | `(tactic| walk_at "binaryOp Div int int") => `(tactic| refine div_is (by first | rfl | assumption) (by rfl) (by omega) (by omega) (by omega) ?_)
local macro_rules | `(tactic| walk_at "binaryOp FloorDiv int int") => `(tactic| refine fdiv_is (by assumption) (by decide) (by decide) ?_)
local macro_rules | `(tactic| walk_at "storeName") => `(tactic| ((with_reducible refine inCellsS ?_); (rename Fr _ _ _ _ => F'); (rename News _ _ _ _ => N'); with_unfolding_all refine stCNk (own := []) F' N' rfl (by assumption) trivial (apart_lt (by assumption)) ?_; intro _ _ _ _ _))
local macro_rules | `(tactic| walk_at "eval ListComp") => `(tactic| (k_dflt (refine ListComp_T (F₀ := by k_asm) (by rfl) (by decide) (by rfl) (by decide) (by rfl) ?_)))
local macro_rules | `(tactic| walk_at "call type:int") => `(tactic| refine int_toI (by assumption) ?_)
theorem rgb_spec {w : World} {mean : ExcName → Option Value} {mg mb : Str → Option Value} {r g b : UInt64} {t1 t2 t3 : Tok} {n : Nat} (hn : n < 3) (hM : Flt.maxOfBits [r, g, b] = f1) (hm : Flt.minOfBits [r, g, b] = f0)
    (hr : (Float64.cmp r f1 == some .eq) = (n == 0)) (hg : (n == 0) = true ∨ (Float64.cmp g f1 == some .eq) = (n == 1)) :
    SpcF PySem.Challenge.rw_wf0012_01.row.prog w (hd.heap_39 w.params) hd.view_39 (looseW hd.view_39 []) mean mg mb 10 100 28 [.float r t1, .float g t2, .float b t3] (rHue n r g b) rS f1 := by
  match n, hn with
  | 0, _ => exact rgb_spec0 hM hm hr
  | 1, _ => exact rgb_spec1 hM hm hr (hg.resolve_left (by decide))
  | 2, _ => exact rgb_spec2 hM hm hr (hg.resolve_left (by decide))
theorem brn_lt (i : Nat) : brn i < 3 := by unfold brn; split <;> decide
set_option maxHeartbeats 8000000 in
theorem mi_spec {w : World} {mean : ExcName → Option Value} {mg mb : Str → Option Value} {wh u d : Nat} {under over : Int} {t1 t2 t3 : Tok} (hu2 : wh = 2 * u) (hu0 : 0 < u) (hu3 : u ≤ 128) (hd0 : (under - over).fmod wh = d) (hf : facts wh u d = true) :
    Spc PySem.Challenge.rw_wf0012_01.row.prog w (hd.heap_39 w.params) hd.view_39 (looseW hd.view_39 []) mean mg mb 20 200 72 [.int under t1, .int over t2, .int wh t3] (fun t => .int ((over + ((wh - d) % wh : Nat)).fmod wh) t) := by
  k_fill
  intro dp un gd cn cs a ccd cl outer A₀ base h₀ L m news s Q E B F X N T hk hdp hu hret
  refine wpK_call ?_
  refine' defCK ?k1 ?k2 ?k3 ?k4 ?k5 ?kA ?kF ?kK ?k6 ?k7 ?k8 ?k9 ?kB ?kN ?_ ?c2 ?c3 ?c4
  case kA => exact rfl
  case kF => exact rfl
  case kK => assumption
  case k1 => k_asm
  case k2 => k_asm
  case k3 => k_asm
  case k4 => k_asm
  case k5 => k_asm
  case k6 => k_is
  case k7 => k_is
  case k8 => ktr_room
  case k9 => exact BindsTo.of_eq rfl
  case kB => exact rfl
  case kN => decide +kernel
  case c2 => exact rfl
  case c3 => exact rfl
  case c4 => exact rfl
  intro g' L' h' tk' cells' FG' F' N' Y' B' X' T' l1
  try k_lt l1
  k_cells Y'
  try simp only [List.cons_append, List.nil_append] at N'
  have hw0 : (0 : Int) < (wh : Int) := by omega
  have e1 : Int.fdiv (wh : Int) 2 = (u : Int) := by rw [Int.fdiv_eq_ediv_of_nonneg _ (by decide)]; omega
  have e2 : 0 ≤ (under - over).fmod wh := by omega
  have e3 : (d : Int) < wh := by rw [← hd0]; exact Int.fmod_lt_of_pos _ hw0
  obtain ⟨i, c, p, hFx, hp⟩ := facts_of hf
  have hsix := hFx.six
  have hi6 := hFx.i6
  refine execsK_leaf ?_
  repeat walk1
  refine execsK_leaf ?_
  repeat walk1
  refine' hsv_spec hsix hi6 _ _ _ _ _ _ _ _ _ _ _ _ _ _ _ _ _ _ ?b1 ?b2 ?b3 ?b4 ?b5 ?b6 ?b7 ?b8 ?_
  case b1 => exact B'
  case b2 => assumption
  case b3 => assumption
  case b4 => assumption
  case b5 => assumption
  case b6 => rfl
  case b7 => ktr_room
  case b8 => ktr_units
  intro q t1 t2 t3 _ _ _ Nq
  rw [← hp] at Nq
  repeat walk1
  refine execsK_leaf ?_
  repeat walk1
  refine ⟨q, _, _, rfl, rfl, by assumption, by assumption, ⟨_, .head _, rfl, _, rfl⟩, by show (3 : Nat) ≤ sizeLine; decide, fun s₂ e₂ => ?_⟩
  obtain ⟨g₂, rfl⟩ := e₂
  refine rest_same (R := fun j y => ∃ t, (j = 0 → y = .int c.1 t) ∧ (j = 1 → y = .int c.2.1 t) ∧ (j = 2 → y = .int c.2.2 t)) ⟨_, .head _, rfl, _, rfl⟩ ?turn _ 0 [] (fun j y e => by cases e) rfl ?fin
  case turn =>
    intro j v I oI C oC D m₂ h tk ys E' hP hC hx F₁ N₁
    have hj : j = 0 ∨ j = 1 ∨ j = 2 := by
      have : j < 3 := by
        rcases Nat.lt_or_ge j 3 with hj | hj
        · exact hj
        · rw [Array.getElem?_eq_none (by simpa using hj)] at hP; cases hP
      omega
    have hp1 := hFx.p1
    have hp2 := hFx.p2
    have hp3 := hFx.p3
    rcases hj with rfl | rfl | rfl
    · have hP' : some (Value.float p.1 t1) = some v := hP
      cases hP'
      repeat walk1
      exact ⟨_, _, rfl, ⟨_, fun _ => rfl, nofun, nofun⟩, by assumption, by assumption⟩
    · have hP' : some (Value.float p.2.1 t2) = some v := hP
      cases hP'
      repeat walk1
      exact ⟨_, _, rfl, ⟨_, nofun, fun _ => rfl, nofun⟩, by assumption, by assumption⟩
    · have hP' : some (Value.float p.2.2 t3) = some v := hP
      cases hP'
      repeat walk1
      exact ⟨_, _, rfl, ⟨_, nofun, nofun, fun _ => rfl⟩, by assumption, by assumption⟩
  case fin =>
    intro ys hl hy
    obtain ⟨y1, y2, y3, rfl⟩ := list_of3 hl
    obtain ⟨t1, hy1, _, _⟩ := hy 0 y1 rfl
    obtain ⟨t2, _, hy2, _⟩ := hy 1 y2 rfl
    obtain ⟨t3, _, _, hy3⟩ := hy 2 y3 rfl
    cases hy1 rfl; cases hy2 rfl; cases hy3 rfl
    intro D h tk F₁ N₁ o1
    repeat walk1
    obtain ⟨x1, hx1⟩ : ∃ x, x = UInt8.ofNat c.1 := ⟨_, rfl⟩
    obtain ⟨x2, hx2⟩ : ∃ x, x = UInt8.ofNat c.2.1 := ⟨_, rfl⟩
    obtain ⟨x3, hx3⟩ : ∃ x, x = UInt8.ofNat c.2.2 := ⟨_, rfl⟩
    refine bytes_led (l := [x1, x2, x3]) (ns := [(c.1 : Int), (c.2.1 : Int), (c.2.2 : Int)]) F₁ N₁ (.head _) (.cons _ _ (.cons _ _ (.cons _ _ .nil))) ?_ (by show (3 : Nat) ≤ sizeLine; decide) rfl (by rw [hx1, hx2, hx3]; rfl) ?_
    · have h1 := hFx.c1
      have h2 := hFx.c2
      have h3 := hFx.c3
      intro n hn
      simp only [List.mem_cons, List.not_mem_nil, or_false] at hn
      rcases hn with rfl | rfl | rfl <;> omega
    intro h9 t9 k9 F9 N9
    repeat walk1
    refine execsK_cons (AssignTupleK (CallNameK ?_))
    walk1
    refine argsK0 rfl (splicedK_cons (BinOpK (wpK_of ?_)))
    repeat walk1
    refine CallNameK ?_
    walk1
    refine argsK (P := fun h => Frag.In (hd.heap_39 w.params) h) (keeps_K (by k_is)) (wpK_of ?_)
    repeat walk1
    refine' bs_spec (l := [x2, x3]) (k := 1) (wd := 2) (by decide) (by decide) rfl (by show (2 : Nat) ≤ 65536; decide) _ _ _ _ _ _ _ _ _ _ _ _ _ _ _ _ _ _ _ _ ?b1 ?b2 ?b3 ?b4 ?b5 ?b6 ?b7 ?b8 ?_
    case b1 => exact B'
    case b2 => assumption
    case b3 => assumption
    case b4 => assumption
    case b5 => assumption
    case b6 => rfl
    case b7 => ktr_room
    case b8 => ktr_units
    intro t8 h8 k8 F8 N8
    rw [swapL2]
    dsimp only
    repeat walk1
    refine itemsK_nil (wpK_of ?_)
    repeat walk1
    refine list_three rfl (by assumption) (by assumption) ?_
    intro h7 k7 D7 t71 t72 t73 F7 N7
    obtain ⟨c7, N7⟩ := N7
    repeat walk1
    have n1 : c.1 = x1.toNat := by rw [hx1, UInt8.toNat_ofNat']; have := hFx.c1; omega
    have n2 : c.2.1 = x2.toNat := by rw [hx2, UInt8.toNat_ofNat']; have := hFx.c2; omega
    have n3 : c.2.2 = x3.toNat := by rw [hx3, UInt8.toNat_ofNat']; have := hFx.c3; omega
    have m1 := x1.toNat_lt
    have m2 := x2.toNat_lt
    have m3 := x3.toNat_lt
    rw [n1, n2, n3] at hFx
    have hfin := hFx.fin
    refine execsK_leaf ?_
    repeat walk1
    refine' rgb_spec (brn_lt i) hFx.mx hFx.mn hFx.br hFx.bg _ _ _ _ _ _ _ _ _ _ _ _ _ _ _ _ _ _ ?b1 ?b2 ?b3 ?b4 ?b5 ?b6 ?b7 ?b8 ?_
    case b1 => exact B'
    case b2 => assumption
    case b3 => assumption
    case b4 => assumption
    case b5 => assumption
    case b6 => rfl
    case b7 => ktr_room
    case b8 => ktr_units
    intro q5 t51 t52 t53 h5 k5 F5 N5
    repeat walk1
    refine execsK_leaf ?_
    repeat walk1
    rename News h₀ _ _ _ => kN9
    exact hret _ _ _ (by assumption) (fun p hp => kN9 p (by simp only [List.mem_cons, List.mem_append, hp, or_true]))
end

theorem gapTA : True → True := by
  w_top off
  first | (walk1; exact True.intro) | exact id

section
theorem mi_byte {w : World} {mean : ExcName → Option Value} {mg mb : Str → Option Value} {wh u : Nat} (un ov : UInt8) {t1 t2 t3 : Tok} (hu2 : wh = 2 * u) (hu0 : 0 < u) (hu3 : u ≤ 128) (hT : ∀ d, d < wh → facts wh u d = true) :
    Spc PySem.Challenge.rw_wf0012_01.row.prog w (hd.heap_39 w.params) hd.view_39 (looseW hd.view_39 []) mean mg mb 20 200 72 [.int (un.toNat : Int) t1, .int (ov.toNat : Int) t2, .int wh t3] (fun t => .int ((seen wh un ov).toNat : Int) t) := by
  have h1 := Int.fmod_nonneg_of_pos ((un.toNat : Int) - ov.toNat) (show 0 < (wh : Int) by omega)
  have h2 := Int.fmod_lt_of_pos ((un.toNat : Int) - ov.toNat) (show 0 < (wh : Int) by omega)
  have hd : ((un.toNat : Int) - ov.toNat).fmod wh = ((((un.toNat : Int) - ov.toNat).fmod wh).toNat : Nat) := by omega
  have := mi_spec (w := w) (mean := mean) (mg := mg) (mb := mb) (t1 := t1) (t2 := t2) (t3 := t3) hu2 hu0 hu3 hd (hT _ (by omega))
  rw [seen_eq (by omega) (by omega) un ov hd] at this
  exact this
section
variable {prog : Program} {w : World} {A : Around} {E : Value → Shared → Prop} {s : Shared} {value slice : PySem.Expr} {t : Tok} {h₀ : Heap} {L : Addr} {m : PySem.Str → Option Value} {news : List (Addr × Obj)} {lv uv : Value} {lo hi : Option Int} {Q : Value → Shared → Prop}
theorem bytes_one {x : UInt8} {D : Addr} {k : Nat} (F : Fr h₀ L s.heap m) (N : News h₀ L s.heap news) (hm : (D, ({ cls := .type "list", data := .seq #[.int (x.toNat : Int) t] k } : Obj)) ∈ news) (hh : A.handled = none)
    (h : ∀ h' t k, Fr h₀ L h' m → News h₀ L h' news → Q (.bytes [x].toArray t) { s with heap := h', toks := k }) : wpAny (model prog w) A (call (.type "bytes") [.ref D]) Q E s := by
  have hx : ((x.toNat : Int).toNat).toUInt8 = x := by simp
  have := bytes_K (E := E) (Q := Q) (w := w) (A := A) (prog := prog) F N (l := D) (vs := [.int (x.toNat : Int) t]) (ns := [(x.toNat : Int)]) ⟨_, (N _ hm).1, rfl, k, rfl⟩ (.cons _ _ .nil) (fun n hn => by
    simp only [List.mem_cons, List.not_mem_nil, or_false] at hn
    have := x.toNat_lt
    omega) (by show (1 : Nat) ≤ sizeLine; decide) hh (fun h' t k F' N' _ => by
      simp only [List.map, hx]
      exact h h' t k F' N')
  exact this
end
local macro_rules | `(tactic| walk_at "call type:bytes") => `(tactic| (k_here; k_dflt (refine bytes_one (by k_asm) (by k_asm) (by k_mem) (by rfl) ?_); intro _ _ _ _ _))
theorem frame_ta {m : Str → Option Value} {D : Addr} {x y : Value} {wv : Value} (v : Value) (hm : ∀ n, n ≠ Str.ofString "move" → n ≠ Str.ofString "seen" → m n = if n = Str.ofString "hues" then some x else if n = Str.ofString "ropes" then some y else List.lookup n [(Str.ofString "moves", Value.ref D), (Str.ofString "wheel", wv)]) (n : Str) :
    (if n = Str.ofString "move" then some v else m n) = if n = Str.ofString "move" then some v else if n = Str.ofString "seen" then m (Str.ofString "seen") else if n = Str.ofString "hues" then some x else if n = Str.ofString "ropes" then some y else List.lookup n [(Str.ofString "moves", Value.ref D), (Str.ofString "wheel", wv)] := by
  by_cases h1 : n = Str.ofString "move"
  · rw [if_pos h1, if_pos h1]
  · rw [if_neg h1, if_neg h1]
    by_cases h2 : n = Str.ofString "seen"
    · rw [if_pos h2, h2]
    · rw [if_neg h2]; exact hm n h1 h2
set_option maxHeartbeats 8000000 in
theorem ta_spec {w : World} {mean : ExcName → Option Value} {mg mb : Str → Option Value} {wh u : Nat} (hu2 : wh = 2 * u) (hu0 : 0 < u) (hu3 : u ≤ 128) (hT : ∀ d, d < wh → facts wh u d = true) (st : St8) (th tr tw : Tok) {D : Addr} {kD : Nat} {vs : List Value} {ms : List Int} (hi : IntsAre vs ms) (hms : ∀ m ∈ ms, m = 0 ∨ m = 1 ∨ m = 2) :
  ∀ (dp un : Nat) (gd : Option (List Code)) (cn : Str) (cs : Scope) (a : Addr) (ccd : Value) (cl : List (Str × Addr)) (outer : List Env) (A₀ : Around) (base h₀ : Heap) (L : Addr) (m : Str → Option Value) (news : List (Addr × Obj)) (s : Shared) (Q E : Value → Shared → Prop),
    Below A₀ base outer h₀ → Fr h₀ L s.heap m → (hd.heap_39 w.params).In h₀ → News h₀ L s.heap news → Top hd.view_39 (looseW hd.view_39 []) mean mg mb h₀ → cs.kind = .function → dp + 40 < recursionLimit → un + 400 < cLine →
    (D, ({ cls := .type "list", data := .seq vs.toArray kD } : Obj)) ∈ news →
    (∀ q t1 t2 h' tk', Fr h₀ L h' m → News h₀ L h' ((q, tupO [.bytes (ms.foldl (tStep wh) st).hues.toArray t1, .bytes (ms.foldl (tStep wh) st).ropes.toArray t2]) :: news) → Q (.ref q) { s with heap := h', toks := tk' }) →
    wpK (model PySem.Challenge.rw_wf0012_01.row.prog w) (ktrTop dp un gd cn cs L a ccd cl outer) (call (.ref 93) [.ref D, .bytes st.hues.toArray th, .bytes st.ropes.toArray tr, .int wh tw]) Q E s := by
  k_fill
  intro dp un gd cn cs a ccd cl outer A₀ base h₀ L m news s Q E B F X N T hk hdp hu hD hret
  refine wpK_call ?_
  refine' defK (binds := [(Str.ofString "moves", .ref D), (Str.ofString "hues", .bytes st.hues.toArray th), (Str.ofString "ropes", .bytes st.ropes.toArray tr), (Str.ofString "wheel", .int wh tw)]) ?k1 ?k2 ?k3 ?k4 ?k5 ?kA ?kF ?kK ?k6 ?k7 ?k8 ?k9 ?kB ?_ ?c2 ?c3 ?c4 ?c5
  case kA => exact rfl
  case kF => exact rfl
  case kK => assumption
  case k1 => k_asm
  case k2 => k_asm
  case k3 => k_asm
  case k4 => k_asm
  case k5 => k_asm
  case k6 => k_is
  case k7 => k_is
  case k8 => ktr_room
  case k9 => exact BindsTo.of_eq rfl
  case c5 => decide
  case kB => exact locs rfl
  case c2 => exact rfl
  case c3 => exact rfl
  case c4 => exact rfl
  intro g' L' h' FG' F' N' B' X' T' lt'
  try dsimp only
  refine execsK_cons (ForK ?_)
  walk1
  refine iter_listK (news := news) (vs := vs) (k := kD) (fun i m₁ => ∃ t1 t2, ∀ n, n ≠ Str.ofString "move" → n ≠ Str.ofString "seen" → m₁ n = if n = Str.ofString "hues" then some (.bytes ((ms.take i).foldl (tStep wh) st).hues.toArray t1) else if n = Str.ofString "ropes" then some (.bytes ((ms.take i).foldl (tStep wh) st).ropes.toArray t2) else List.lookup n [(Str.ofString "moves", Value.ref D), (Str.ofString "wheel", .int wh tw)]) rfl rfl rfl F' N' hD ⟨th, tr, fun n h1 h2 => ?_⟩ ?_ ?_
  · simp only [List.take_zero, List.foldl_nil, List.reverse_cons, List.reverse_nil, List.nil_append, List.cons_append]
    by_cases h3 : n = Str.ofString "hues"
    · subst h3; rw [if_pos rfl]; rfl
    by_cases h4 : n = Str.ofString "ropes"
    · subst h4; rw [if_neg h3, if_pos rfl]; rfl
    rw [if_neg h3, if_neg h4]
    by_cases h5 : n = Str.ofString "wheel"
    · subst h5; rfl
    simp only [List.lookup, beq_false_of_ne h3, beq_false_of_ne h4, beq_false_of_ne h5]
  · clear F' N'
    rintro i v m₁ h tk I oI hv ⟨t1, t2, hm⟩ F₁ N₁
    obtain ⟨n, tn, rfl, hn⟩ := hi.at i v hv
    have hn3 := hms n (List.mem_of_getElem? hn)
    have hstep : ((ms.take (i + 1)).foldl (tStep wh) st) = tStep wh ((ms.take i).foldl (tStep wh) st) n := by
      rw [List.take_succ, hn, Option.toList_some, List.foldl_append]; rfl
    rw [hstep]
    generalize (ms.take i).foldl (tStep wh) st = st' at hm ⊢
    have F₂ := fr_congr F₁ (frame_ta _ hm)
    clear F₁
    rcases hn3 with rfl | rfl | rfl
    · refine execsK_cons (IfK ?_)
      repeat walk1
      refine execsK_cons (AssignSwappedK (TupleK (itemsK_cons (CallNameK ?_))))
      walk1
      refine argsK (P := fun h => Frag.In (hd.heap_39 w.params) h) (keeps_K (by k_is)) (wpK_of ?_)
      repeat walk1
      refine' ex_spec st'.h0 st'.h1 st'.h2 st'.h3 _ _ _ _ _ _ _ _ _ _ _ _ _ _ _ _ _ _ _ ?d11 ?d12 ?d13 ?d14 ?d15 ?d16 ?d17 ?d18 ?_
      case d11 => assumption
      case d12 => assumption
      case d13 => assumption
      case d14 => assumption
      case d15 => assumption
      case d16 => rfl
      case d17 => ktr_room
      case d18 => ktr_units
      intro t5 h5 k5 F5 N5
      dsimp only
      refine itemsK_cons (CallNameK ?_)
      walk1
      refine argsK (P := fun h => Frag.In (hd.heap_39 w.params) h) (keeps_K (by k_is)) (wpK_of ?_)
      repeat walk1
      refine' ex_spec st'.r0 st'.r1 st'.r2 st'.r3 _ _ _ _ _ _ _ _ _ _ _ _ _ _ _ _ _ _ _ ?d21 ?d22 ?d23 ?d24 ?d25 ?d26 ?d27 ?d28 ?_
      case d21 => assumption
      case d22 => assumption
      case d23 => assumption
      case d24 => assumption
      case d25 => assumption
      case d26 => rfl
      case d27 => ktr_room
      case d28 => ktr_units
      intro t6 h6 k6 F6 N6
      dsimp only
      refine itemsK_nil ?_
      repeat walk1
      refine execsK_cons (AssignNameK (CallNameK ?_))
      walk1
      refine argsK (P := fun h => Frag.In (hd.heap_39 w.params) h) (keeps_K (by k_is)) (wpK_of ?_)
      repeat walk1
      refine' mi_byte st'.h2 st'.h1 hu2 hu0 hu3 hT _ _ _ _ _ _ _ _ _ _ _ _ _ _ _ _ _ _ ?d41 ?d42 ?d43 ?d44 ?d45 ?d46 ?d47 ?d48 ?_
      case d41 => assumption
      case d42 => assumption
      case d43 => assumption
      case d44 => assumption
      case d45 => assumption
      case d46 => rfl
      case d47 => ktr_room
      case d48 => ktr_units
      intro t7 h7 k7 F7 N7
      dsimp only
      repeat walk1
      refine execsK_leaf ?_
      repeat walk1
      refine wpK_of ?_
      repeat walk1
      refine wpK_of ?_
      repeat walk1
      rename Fr g' _ _ _ => F9
      rename News g' _ _ _ => N9
      refine ⟨rfl, _, _, _, rfl, ⟨_, t6, fun n h1 h2 => by
        by_cases h3 : n = Str.ofString "hues"
        · subst h3; rfl
        by_cases h4 : n = Str.ofString "ropes"
        · subst h4; rfl
        simp only [if_neg h3, if_neg h4, if_neg h1, if_neg h2]⟩, F9, fun p hp => N9 p (.tail _ (.tail _ hp))⟩
    · refine execsK_cons (IfK ?_)
      repeat walk1
      refine execsK_cons (AssignSwappedK (TupleK (itemsK_cons (CallNameK ?_))))
      walk1
      refine argsK (P := fun h => Frag.In (hd.heap_39 w.params) h) (keeps_K (by k_is)) (wpK_of ?_)
      repeat walk1
      refine' ex_spec st'.h0 st'.h1 st'.h2 st'.h3 _ _ _ _ _ _ _ _ _ _ _ _ _ _ _ _ _ _ _ ?d511 ?d512 ?d513 ?d514 ?d515 ?d516 ?d517 ?d518 ?_
      case d511 => assumption
      case d512 => assumption
      case d513 => assumption
      case d514 => assumption
      case d515 => assumption
      case d516 => rfl
      case d517 => ktr_room
      case d518 => ktr_units
      intro t5 h5 k5 F5 N5
      dsimp only
      refine itemsK_cons (CallNameK ?_)
      walk1
      refine argsK (P := fun h => Frag.In (hd.heap_39 w.params) h) (keeps_K (by k_is)) (wpK_of ?_)
      repeat walk1
      refine' ex_spec st'.r0 st'.r1 st'.r2 st'.r3 _ _ _ _ _ _ _ _ _ _ _ _ _ _ _ _ _ _ _ ?d521 ?d522 ?d523 ?d524 ?d525 ?d526 ?d527 ?d528 ?_
      case d521 => assumption
      case d522 => assumption
      case d523 => assumption
      case d524 => assumption
      case d525 => assumption
      case d526 => rfl
      case d527 => ktr_room
      case d528 => ktr_units
      intro t6 h6 k6 F6 N6
      dsimp only
      refine itemsK_nil ?_
      repeat walk1
      refine execsK_cons (AssignNameK (CallNameK ?_))
      walk1
      refine argsK (P := fun h => Frag.In (hd.heap_39 w.params) h) (keeps_K (by k_is)) (wpK_of ?_)
      repeat walk1
      refine' mi_byte st'.h1 st'.h2 hu2 hu0 hu3 hT _ _ _ _ _ _ _ _ _ _ _ _ _ _ _ _ _ _ ?d541 ?d542 ?d543 ?d544 ?d545 ?d546 ?d547 ?d548 ?_
      case d541 => assumption
      case d542 => assumption
      case d543 => assumption
      case d544 => assumption
      case d545 => assumption
      case d546 => rfl
      case d547 => ktr_room
      case d548 => ktr_units
      intro t7 h7 k7 F7 N7
      dsimp only
      repeat walk1
      refine execsK_leaf ?_
      repeat walk1
      refine wpK_of ?_
      repeat walk1
      refine wpK_of ?_
      repeat walk1
      rename Fr g' _ _ _ => F9
      rename News g' _ _ _ => N9
      refine ⟨rfl, _, _, _, rfl, ⟨_, t6, fun n h1 h2 => by
        by_cases h3 : n = Str.ofString "hues"
        · subst h3; rfl
        by_cases h4 : n = Str.ofString "ropes"
        · subst h4; rfl
        simp only [if_neg h3, if_neg h4, if_neg h1, if_neg h2]⟩, F9, fun p hp => N9 p (.tail _ (.tail _ hp))⟩
    · refine execsK_cons (IfK ?_)
      repeat walk1
      refine execsK_cons (AssignTupleK (CallNameK ?_))
      walk1
      refine argsK (P := fun h => Frag.In (hd.heap_39 w.params) h) (keeps_K (by k_is)) (wpK_of ?_)
      repeat walk1
      refine' qu_spec st'.h0 st'.h1 st'.h2 st'.h3 st'.r0 st'.r1 st'.r2 st'.r3 _ _ _ _ _ _ _ _ _ _ _ _ _ _ _ _ _ _ _ _ ?d31 ?d32 ?d33 ?d34 ?d35 ?d36 ?d37 ?d38 ?_
      case d31 => assumption
      case d32 => assumption
      case d33 => assumption
      case d34 => assumption
      case d35 => assumption
      case d36 => rfl
      case d37 => ktr_room
      case d38 => ktr_units
      intro q5 t51 t52 h5 k5 F5 N5
      repeat walk1
      refine wpK_of ?_
      repeat walk1
      refine wpK_of ?_
      repeat walk1
      rename Fr g' _ _ _ => F9
      rename News g' _ _ _ => N9
      refine ⟨rfl, _, _, _, rfl, ⟨t51, t52, fun n h1 h2 => ?_⟩, F9, fun p hp => N9 p (.tail _ hp)⟩
      by_cases h3 : n = Str.ofString "hues"
      · subst h3; rfl
      by_cases h4 : n = Str.ofString "ropes"
      · subst h4; rfl
      simp only [if_neg h3, if_neg h4, if_neg h1, if_neg h2]
  · clear F' N'
    rintro m₁ h tk ⟨t1, t2, hm⟩ F₁ N₁
    have hlen : vs.length = ms.length := hi.length
    rw [hlen, List.take_length] at hm
    generalize ms.foldl (tStep wh) st = st' at hm hret
    dsimp only
    have F₂ : Fr g' L' h (fun n => if n = Str.ofString "move" then m₁ (Str.ofString "move") else if n = Str.ofString "seen" then m₁ (Str.ofString "seen") else if n = Str.ofString "hues" then some (Value.bytes st'.hues.toArray t1) else if n = Str.ofString "ropes" then some (Value.bytes st'.ropes.toArray t2) else List.lookup n [(Str.ofString "moves", Value.ref D), (Str.ofString "wheel", Value.int wh tw)]) := by
      refine fr_congr F₁ fun n => ?_
      by_cases h1 : n = Str.ofString "move"
      · rw [if_pos h1, h1]
      · rw [if_neg h1]
        by_cases h2 : n = Str.ofString "seen"
        · rw [if_pos h2, h2]
        · rw [if_neg h2]; exact hm n h1 h2
    clear F₁
    refine execsK_cons (wpK_of ?_)
    repeat walk1
    exact hret _ _ _ _ _ (by assumption) (by assumption)
end

end

theorem gapNU : True → True := by
  w_top off
  first | (walk1; exact True.intro) | exact id

section
abbrev tupI (x : Nu) (t1 t2 t3 : Tok) : Obj := { cls := .type "tuple", data := .seq #[.int x.b t1, .int x.r t2, .int x.s t3] }
theorem frame_nu {m : Str → Option Value} {D : Addr} {x y z : Value} (v : Value) (hm : ∀ n, n ≠ Str.ofString "move" → m n = if n = Str.ofString "base" then some x else if n = Str.ofString "rise" then some y else if n = Str.ofString "side" then some z else List.lookup n [(Str.ofString "moves", Value.ref D)]) (n : Str) :
    (if n = Str.ofString "move" then some v else m n) = if n = Str.ofString "move" then some v else if n = Str.ofString "base" then some x else if n = Str.ofString "rise" then some y else if n = Str.ofString "side" then some z else List.lookup n [(Str.ofString "moves", Value.ref D)] := by
  by_cases h1 : n = Str.ofString "move"
  · rw [if_pos h1, if_pos h1]
  · rw [if_neg h1, if_neg h1]; exact hm n h1
set_option maxHeartbeats 8000000 in
theorem nu_spec {w : World} {mean : ExcName → Option Value} {mg mb : Str → Option Value} {D : Addr} {kD : Nat} {vs : List Value} {ms : List Int} (hi : IntsAre vs ms) (hms : ∀ m ∈ ms, m = 0 ∨ m = 1 ∨ m = 2) :
  ∀ (dp un : Nat) (gd : Option (List Code)) (cn : Str) (cs : Scope) (a : Addr) (ccd : Value) (cl : List (Str × Addr)) (outer : List Env) (A₀ : Around) (base h₀ : Heap) (L : Addr) (m : Str → Option Value) (news : List (Addr × Obj)) (s : Shared) (Q E : Value → Shared → Prop),
    Below A₀ base outer h₀ → Fr h₀ L s.heap m → (hd.heap_39 w.params).In h₀ → News h₀ L s.heap news → Top hd.view_39 (looseW hd.view_39 []) mean mg mb h₀ → cs.kind = .function → dp + 10 < recursionLimit → un + 100 < cLine →
    (D, ({ cls := .type "list", data := .seq vs.toArray kD } : Obj)) ∈ news →
    (∀ q t1 t2 t3 h' tk', Fr h₀ L h' m → News h₀ L h' ((q, tupI (ms.foldl nStep ⟨1, 0, 1⟩) t1 t2 t3) :: news) → Q (.ref q) { s with heap := h', toks := tk' }) →
    wpK (model PySem.Challenge.rw_wf0012_01.row.prog w) (ktrTop dp un gd cn cs L a ccd cl outer) (call (.ref 100) [.ref D]) Q E s := by
  k_fill
  intro dp un gd cn cs a ccd cl outer A₀ base h₀ L m news s Q E B F X N T hk hdp hu hD hret
  refine wpK_call ?_
  refine' defK (binds := [(Str.ofString "moves", .ref D)]) ?k1 ?k2 ?k3 ?k4 ?k5 ?kA ?kF ?kK ?k6 ?k7 ?k8 ?k9 ?kB ?_ ?c2 ?c3 ?c4 ?c5
  case kA => exact rfl
  case kF => exact rfl
  case kK => assumption
  case k1 => k_asm
  case k2 => k_asm
  case k3 => k_asm
  case k4 => k_asm
  case k5 => k_asm
  case k6 => k_is
  case k7 => k_is
  case k8 => ktr_room
  case k9 => exact BindsTo.of_eq rfl
  case c5 => decide
  case kB => exact locs rfl
  case c2 => exact rfl
  case c3 => exact rfl
  case c4 => exact rfl
  intro g' L' h' FG' F' N' B' X' T' lt'
  try dsimp only
  refine execsK_leaf ?_
  repeat walk1
  rename Fr g' L' _ _ => F9
  rename News g' L' _ _ => N9
  refine execsK_cons (ForK ?_)
  walk1
  refine iter_listK (vs := vs) (k := kD) (fun i m₁ => ∃ t1 t2 t3, ∀ n, n ≠ Str.ofString "move" → m₁ n = if n = Str.ofString "base" then some (.int ((ms.take i).foldl nStep ⟨1, 0, 1⟩).b t1) else if n = Str.ofString "rise" then some (.int ((ms.take i).foldl nStep ⟨1, 0, 1⟩).r t2) else if n = Str.ofString "side" then some (.int ((ms.take i).foldl nStep ⟨1, 0, 1⟩).s t3) else List.lookup n [(Str.ofString "moves", Value.ref D)]) rfl rfl rfl F9 N9 (by simp [hD]) ⟨_, _, _, fun n h1 => by
      by_cases h3 : n = Str.ofString "base"
      · subst h3; rfl
      by_cases h4 : n = Str.ofString "rise"
      · subst h4; rfl
      by_cases h5 : n = Str.ofString "side"
      · subst h5; rfl
      simp only [if_neg h3, if_neg h4, if_neg h5, List.reverse_cons, List.reverse_nil, List.nil_append]⟩ ?_ ?_
  · clear F9 N9
    rintro i v m₁ h tk I oI hv ⟨t1, t2, t3, hm⟩ F₁ N₁
    obtain ⟨n, tn, rfl, hn⟩ := hi.at i v hv
    have hn3 := hms n (List.mem_of_getElem? hn)
    have hstep : ((ms.take (i + 1)).foldl nStep ⟨1, 0, 1⟩) = nStep ((ms.take i).foldl nStep ⟨1, 0, 1⟩) n := by
      rw [List.take_succ, hn, Option.toList_some, List.foldl_append]; rfl
    rw [hstep]
    generalize (ms.take i).foldl nStep ⟨1, 0, 1⟩ = x at hm ⊢
    have F₂ := fr_congr F₁ (frame_nu _ hm)
    clear F₁
    rcases hn3 with rfl | rfl | rfl
    all_goals
      refine execsK_leaf ?_
      repeat walk1
      refine wpK_of ?_
      repeat walk1
      rename Fr g' _ _ _ => F8
      rename News g' _ _ _ => N8
      refine ⟨rfl, _, _, _, rfl, ⟨_, _, _, fun n h1 => by
        by_cases h3 : n = Str.ofString "base"
        · subst h3; rfl
        by_cases h4 : n = Str.ofString "rise"
        · subst h4; rfl
        by_cases h5 : n = Str.ofString "side"
        · subst h5; rfl
        simp only [if_neg h3, if_neg h4, if_neg h5, if_neg h1]⟩, F8, fun p hp => N8 p (by first | exact hp | exact .tail _ hp)⟩
  · clear F9 N9
    rintro m₁ h tk ⟨t1, t2, t3, hm⟩ F₁ N₁
    have hlen : vs.length = ms.length := hi.length
    rw [hlen, List.take_length] at hm
    generalize ms.foldl nStep ⟨1, 0, 1⟩ = x at hm hret
    dsimp only
    have F₂ : Fr g' L' h (fun n => if n = Str.ofString "move" then m₁ (Str.ofString "move") else if n = Str.ofString "base" then some (.int x.b t1) else if n = Str.ofString "rise" then some (.int x.r t2) else if n = Str.ofString "side" then some (.int x.s t3) else List.lookup n [(Str.ofString "moves", Value.ref D)]) := by
      refine fr_congr F₁ fun n => ?_
      by_cases h1 : n = Str.ofString "move"
      · rw [if_pos h1, h1]
      · rw [if_neg h1]; exact hm n h1
    clear F₁
    refine execsK_cons (wpK_of ?_)
    repeat walk1
    rename News h₀ _ _ _ => N7
    exact hret _ _ _ _ _ _ (by assumption) (fun p hp => N7 p (by rcases List.mem_cons.mp hp with rfl | hp; exact .head _; simp [hp]))
end

theorem gapPA : True → True := by
  w_top off
  first | (walk1; exact True.intro) | exact id

section
abbrev pre5 : List Nat := [50, 53, 55, 32, 34]
theorem sl_3 (l : List Nat) : Txt.slice (tx (pre5 ++ l)) none (some 3) = tx [50, 53, 55] := by
  have h : (tx (pre5 ++ l)).length = 5 + l.length := by rw [tx_len]; simp; omega
  have e : Txt.slice (tx (pre5 ++ l)) none (some 3) = StrLaws.sliceText (tx (pre5 ++ l)) (some ((0 : Nat) : Int)) (some ((3 : Nat) : Int)) := by
    unfold Txt.slice StrLaws.sliceText
    rw [StrLaws.sliceIdx_none_lo]; rfl
  rw [e, StrLaws.sliceText_nat _ (by decide) (by omega)]
  rfl
theorem sl_35 (l : List Nat) : Txt.slice (tx (pre5 ++ l)) (some 3) (some 5) = tx [32, 34] := by
  have h : (tx (pre5 ++ l)).length = 5 + l.length := by rw [tx_len]; simp; omega
  have e : Txt.slice (tx (pre5 ++ l)) (some 3) (some 5) = StrLaws.sliceText (tx (pre5 ++ l)) (some ((3 : Nat) : Int)) (some ((5 : Nat) : Int)) := rfl
  rw [e, StrLaws.sliceText_nat _ (by decide) (by omega)]
  rfl
section
variable {M : Model} {A : Around} {E : Value → Shared → Prop} {s : Shared} {env : Env}
theorem const_is {x y : Str} {k : Nat} {pos : Pos} {Q : Value → Shared → Prop} (e : x = y) (h : Q (.str y s.toks) { s with toks := s.toks + 1 }) : wpAny M A (eval (.Constant (.str x) k pos) env) Q E s := wpAny_Constant_str (e ▸ h)
end
section
variable {prog : Program} {w : World} {A : Around} {E : Value → Shared → Prop} {s : Shared} {value slice : PySem.Expr} {t : Tok} {h₀ : Heap} {L : Addr} {m : PySem.Str → Option Value} {news : List (Addr × Obj)} {Q : Value → Shared → Prop}
theorem cut_3 {l full : List Nat} {uj : Tok} (ef : full = pre5 ++ l) (hl : l.length ≤ 10000) (hF : Fr h₀ L s.heap m) (hN : News h₀ L s.heap news) (h : ∀ h' t' k, Fr h₀ L h' m → News h₀ L h' news → Q (.str (tx [50, 53, 55]) t') { s with heap := h', toks := k })
    (hs : subscripted slice false (.str (tx full) t) (.ref s.heap.objs.size) = operate [.ref s.heap.objs.size, .str (tx full) t] (getItem (.str (tx full) t) (.ref s.heap.objs.size)) := by with_unfolding_all rfl)
    (ht : ∀ r, letTemporaryGo value (.str (tx full) t) r = pure () := by intro _; with_unfolding_all rfl) :
    wpAny (model prog w) A (subscriptTail value slice (.str (tx full) t) (.ref s.heap.objs.size)) Q E { s with heap := s.heap.push { cls := .type "slice", data := .fields #[.none, .int 3 uj, .none] } } :=
  slice_strN_ns hF hN (fun h' t' k a b => by rw [ef, sl_3]; exact h h' t' k a b) hs ht (by rw [ef]; rw [tx_len]; exact Nat.le_trans (show _ ≤ 20000 by simp; omega) (by decide))
theorem cut_35 {l full : List Nat} {ui uj : Tok} (ef : full = pre5 ++ l) (hl : l.length ≤ 10000) (hF : Fr h₀ L s.heap m) (hN : News h₀ L s.heap news) (h : ∀ h' t' k, Fr h₀ L h' m → News h₀ L h' news → Q (.str (tx [32, 34]) t') { s with heap := h', toks := k })
    (hs : subscripted slice false (.str (tx full) t) (.ref s.heap.objs.size) = operate [.ref s.heap.objs.size, .str (tx full) t] (getItem (.str (tx full) t) (.ref s.heap.objs.size)) := by with_unfolding_all rfl)
    (ht : ∀ r, letTemporaryGo value (.str (tx full) t) r = pure () := by intro _; with_unfolding_all rfl) :
    wpAny (model prog w) A (subscriptTail value slice (.str (tx full) t) (.ref s.heap.objs.size)) Q E { s with heap := s.heap.push { cls := .type "slice", data := .fields #[.int 3 ui, .int 5 uj, .none] } } :=
  slice_strN_ss hF hN (fun h' t' k a b => by rw [ef, sl_35]; exact h h' t' k a b) hs ht (by rw [ef]; rw [tx_len]; exact Nat.le_trans (show _ ≤ 20000 by simp; omega) (by decide))
end
/-- what a call of a leaf def hands back -/
abbrev SpcA (prog : Program) (w : World) (K : Frag) (p : Program) (loose : List Str) (mean : ExcName → Option Value) (mg mb : Str → Option Value) (nd nu : Nat) (f : Addr) (vs : List Value) (R : Tok → Value) : Prop :=
  ∀ (dp un : Nat) (gd : Option (List Code)) (cn : Str) (cs : Scope) (a : Addr) (ccd : Value) (cl : List (Str × Addr)) (outer : List Env) (A₀ : Around) (base h₀ : Heap) (L : Addr) (m : Str → Option Value) (news : List (Addr × Obj)) (s : Shared) (Q E : Value → Shared → Prop),
    Below A₀ base outer h₀ → Fr h₀ L s.heap m → K.In h₀ → News h₀ L s.heap news → Top p loose mean mg mb h₀ → cs.kind = .function → dp + nd < recursionLimit → un + nu < cLine →
    CbRet h₀ L m news s Q R → wpAny (model prog w) (ktrTop dp un gd cn cs L a ccd cl outer) (call (.ref f) vs) Q E s
local macro_rules | `(tactic| walk_at "eval Constant str") => `(tactic| first | refine const_is lit_q ?_ | refine const_is lit_257 ?_ | refine const_is lit_sq ?_ | refine const_is lit_e ?_ | refine const_is lit_k ?_ | refine const_is lit_p ?_)
local macro_rules | `(tactic| walk_at "subscriptTail Name Slice str ref") => `(tactic| ((with_reducible show wpAny _ _ (subscriptTail _ (Expr.Slice none (some _) none _) (Value.str _ _) (Value.ref _)) _ _ _); (with_reducible rename Fr _ _ _ _ => F'); (with_reducible rename News _ _ _ _ => N'); (refine cut_3 (s := ⟨_, _, _, _, _⟩) (by assumption) (by assumption) F' N' ?_); intro _ _ _ _ _))
local macro_rules | `(tactic| walk_at "subscriptTail Name Slice str ref") => `(tactic| ((with_reducible show wpAny _ _ (subscriptTail _ (Expr.Slice (some _) (some _) none _) (Value.str _ _) (Value.ref _)) _ _ _); (with_reducible rename Fr _ _ _ _ => F'); (with_reducible rename News _ _ _ _ => N'); (refine cut_35 (s := ⟨_, _, _, _, _⟩) (by assumption) (by assumption) F' N' ?_); intro _ _ _ _ _))
local macro_rules | `(tactic| walk_at "subscriptTail Name Name str int") => `(tactic| ((with_reducible show wpAny _ _ (subscriptTail _ _ (Value.str _ _) (Value.int _ _)) _ _ _); (refine item_tx (by first | assumption | rfl) (by assumption) (by assumption) ?_); intro _ _))
local macro_rules | `(tactic| walk_at "compareOp NotEq str str") => `(tactic| refine ne_tx (by first | assumption | decide) ?_)
local macro_rules | `(tactic| walk_at "compareOp Eq str str") => `(tactic| refine eq_tx (by first | assumption | decide) ?_)
local macro_rules | `(tactic| walk_at "binaryOp Add str str") => `(tactic| (refine add_tx (by simp only [List.length_cons, List.length_nil]; omega) ?_; intro _ _))
local macro_rules | `(tactic| walk_at "call builtin:len") => `(tactic| (refine len_tx (by assumption) ?_; intro _ _))
local macro_rules | `(tactic| walk_at "ite") => `(tactic| first | rw [if_neg (by decide)] | rw [if_pos (by decide)] | rw [if_neg (by simp only [decide_eq_true_eq]; omega)] | rw [if_pos (by simp only [decide_eq_true_eq]; omega)])
theorem pq_one : pq [34] = [] := by simp [pq]
theorem pq_two (r : List Nat) : pq (34 :: 34 :: r) = 34 :: pq r := by simp [pq]
theorem pq_stop {c : Nat} (r : List Nat) (h : c ≠ 34) : pq (34 :: c :: r) = [] := by
  unfold pq
  split <;> simp_all
theorem pq_other {c : Nat} (r : List Nat) (h : c ≠ 34) : pq (c :: r) = c :: pq r := by
  rw [pq] <;> simp_all
theorem frame_pa {m : Str → Option Value} {x y z q : Value} (hm : ∀ n, n ≠ Str.ofString "c" → m n = if n = Str.ofString "i" then some x else if n = Str.ofString "dirname" then some y else if n = Str.ofString "n" then some z else List.lookup n [(Str.ofString "resp", q)]) (n : Str) :
    m n = if n = Str.ofString "c" then m (Str.ofString "c") else if n = Str.ofString "i" then some x else if n = Str.ofString "dirname" then some y else if n = Str.ofString "n" then some z else List.lookup n [(Str.ofString "resp", q)] := by
  by_cases h1 : n = Str.ofString "c"
  · rw [if_pos h1, h1]
  · rw [if_neg h1]; exact hm n h1
/-- the loop's invariant, and how it ends -/
def PaInv (s : Shared) (g' : Heap) (L' : Addr) (news : List (Addr × Obj)) (l full : List Nat) (t0 : Tok) (k : Nat) (s' : Shared) : Prop :=
  ∃ h' tk j acc m₁ ti td tn, s' = { s with heap := h', toks := tk } ∧ j ≤ l.length ∧ k = l.length - j ∧ acc.length ≤ j ∧ acc ++ pq (l.drop j) = pq l ∧ Fr g' L' h' m₁ ∧ News g' L' h' news ∧
      ∀ n, n ≠ Str.ofString "c" → m₁ n = if n = Str.ofString "i" then some (.int ((5 + j : Nat) : Int) ti) else if n = Str.ofString "dirname" then some (.str (tx acc) td) else if n = Str.ofString "n" then some (.int (full.length : Int) tn) else List.lookup n [(Str.ofString "resp", .str (tx full) t0)]
def PaExit (s : Shared) (g' : Heap) (L' : Addr) (news : List (Addr × Obj)) (l full : List Nat) (t0 : Tok) (s' : Shared) : Prop :=
  ∃ h' tk m₁ x td z, s' = { s with heap := h', toks := tk } ∧ Fr g' L' h' m₁ ∧ News g' L' h' news ∧
      ∀ n, n ≠ Str.ofString "c" → m₁ n = if n = Str.ofString "i" then some x else if n = Str.ofString "dirname" then some (.str (tx (pq l)) td) else if n = Str.ofString "n" then some z else List.lookup n [(Str.ofString "resp", .str (tx full) t0)]
def PaR (s : Shared) (g' : Heap) (L' : Addr) (news : List (Addr × Obj)) (l full : List Nat) (t0 : Tok) (r : Result) (s' : Shared) : Prop := r = .ok .next ∧ PaExit s g' L' news l full t0 s'
def PaTurn (s : Shared) (g' : Heap) (L' : Addr) (news : List (Addr × Obj)) (l full : List Nat) (t0 : Tok) (k : Nat) (f : Flow) (s' : Shared) : Prop :=
  (f = .next ∧ ∃ k', k' < k ∧ PaInv s g' L' news l full t0 k' s') ∨ (f = .brk ∧ PaExit s g' L' news l full t0 s')
set_option maxHeartbeats 8000000 in
theorem pa_spec {w : World} {mean : ExcName → Option Value} {mg mb : Str → Option Value} {l full : List Nat} {t0 : Tok} (ef : full = pre5 ++ l) (hl : l.length ≤ 10000) :
    Spc PySem.Challenge.rw_wf0012_01.row.prog w (hd.heap_39 w.params) hd.view_39 (looseW hd.view_39 []) mean mg mb 10 100 67 [.str (tx full) t0] (fun t => .str (tx (pq l)) t) := by
  k_fill
  intro dp un gd cn cs a ccd cl outer A₀ base h₀ L m news s Q E B F X N T hk hdp hu hret
  refine wpK_call ?_
  refine' defK (binds := [(Str.ofString "resp", .str (tx full) t0)]) ?k1 ?k2 ?k3 ?k4 ?k5 ?kA ?kF ?kK ?k6 ?k7 ?k8 ?k9 ?kB ?_ ?c2 ?c3 ?c4 ?c5
  case kA => exact rfl
  case kF => exact rfl
  case kK => assumption
  case k1 => k_asm
  case k2 => k_asm
  case k3 => k_asm
  case k4 => k_asm
  case k5 => k_asm
  case k6 => k_is
  case k7 => k_is
  case k8 => ktr_room
  case k9 => exact BindsTo.of_eq rfl
  case c5 => decide
  case kB => exact locs rfl
  case c2 => exact rfl
  case c3 => exact rfl
  case c4 => exact rfl
  intro g' L' h' FG' F' N' B' X' T' lt'
  try dsimp only
  have efl : full.length = 5 + l.length := by rw [ef]; simp; omega
  have hfl : full.length ≤ 100000 := by omega
  have hat : ∀ j : Nat, full[5 + j]? = l[j]? := fun j => by rw [ef, List.getElem?_append_right (by simp)]; simp
  refine execsK_leaf ?_
  repeat walk1
  refine execsK_leaf ?_
  repeat walk1
  refine execsK_leaf ?_
  repeat walk1
  refine execsK_leaf ?_
  repeat walk1
  refine execsK_leaf ?_
  repeat walk1
  rename Fr g' L' _ _ => F9
  rename News g' L' _ _ => N9
  refine execsK_cons (WhileK ?_)
  refine codeK_mono (R := PaR s g' L' news l full t0) ?_ (fun r s' hr => ?_)
  · refine codeK_whileLoop (PaInv s g' L' news l full t0) ?_ (l.length)
      ⟨_, _, 0, [], _, _, _, _, rfl, Nat.zero_le _, rfl, Nat.le_refl _, rfl, F9, N9, fun n h1 => by
        by_cases h3 : n = Str.ofString "i"
        · subst h3; rfl
        by_cases h4 : n = Str.ofString "dirname"
        · subst h4; rfl
        by_cases h5 : n = Str.ofString "n"
        · subst h5; rfl
        simp only [if_neg h3, if_neg h4, if_neg h5, List.reverse_cons, List.reverse_nil, List.nil_append]⟩
    clear F9 N9
    rintro k s' ⟨h₁, tk, j, acc, m₁, ti, td, tn, rfl, hj, rfl, hacc, hpq, F₁, N₁, hm⟩
    have F₂ := fr_congr F₁ (frame_pa hm)
    clear F₁
    obtain ⟨p, hp⟩ : ∃ p, p = 5 + j := ⟨_, rfl⟩
    rw [← hp] at F₂
    by_cases hjl : j < l.length
    · obtain ⟨c, hc⟩ : ∃ c, l[j]? = some c := ⟨_, List.getElem?_eq_getElem hjl⟩
      have hcp : full[p]? = some c := by rw [hp, hat, hc]
      have hdrop : l.drop j = c :: l.drop (j + 1) := by
        rw [List.drop_eq_getElem_cons hjl]
        rw [List.getElem?_eq_getElem hjl] at hc
        cases hc; rfl
      rw [hdrop] at hpq
      repeat walk1
      refine wpK_mono (Q := PaTurn s g' L' news l full t0 (l.length - j)) (E := NoRaise) (wpK_of ?_) (fun f s₃ h => by rcases h with ⟨rfl, h⟩ | ⟨rfl, h⟩; exact h; exact ⟨rfl, h⟩) (fun _ _ x => x)
      have hp1 : (p : Int) + 1 = ((p + 1 : Nat) : Int) := rfl
      have hal : acc.length ≤ 10000 := by omega
      by_cases h34 : c = 34
      · subst h34
        by_cases hend : j + 1 = l.length
        · have e9 : l.drop (j + 1) = [] := List.drop_eq_nil_of_le (by omega)
          rw [e9, pq_one, List.append_nil] at hpq
          subst hpq
          repeat walk1
          rename Fr g' L' _ _ => F8
          rename News g' L' _ _ => N8
          refine (show PaTurn s g' L' news l full t0 (l.length - j) .brk _ from .inr ⟨rfl, _, _, _, _, _, _, rfl, F8, N8, fun n h1 => by
            by_cases h3 : n = Str.ofString "i"
            · subst h3; rfl
            by_cases h4 : n = Str.ofString "dirname"
            · subst h4; rfl
            by_cases h5 : n = Str.ofString "n"
            · subst h5; rfl
            simp only [if_neg h1, if_neg h3, if_neg h4, if_neg h5]⟩)
        · obtain ⟨c2, hc2⟩ : ∃ c2, l[j + 1]? = some c2 := ⟨_, List.getElem?_eq_getElem (by omega)⟩
          have hcp2 : full[p + 1]? = some c2 := by rw [hp, Nat.add_assoc, hat, hc2]
          have hdrop2 : l.drop (j + 1) = c2 :: l.drop (j + 1 + 1) := by
            rw [List.drop_eq_getElem_cons (by omega)]
            rw [List.getElem?_eq_getElem (by omega)] at hc2
            cases hc2; rfl
          rw [hdrop2] at hpq
          by_cases h34b : c2 = 34
          · subst h34b
            rw [pq_two] at hpq
            repeat walk1
            rename Fr g' L' _ _ => F8
            rename News g' L' _ _ => N8
            subst hp
            refine .inl ⟨rfl, l.length - (j + 2), by omega, _, _, j + 2, acc ++ [34], _, _, _, _, rfl, by omega, rfl, by simp; omega, by rw [List.append_assoc]; exact hpq, F8, N8, fun n h1 => by
              by_cases h3 : n = Str.ofString "i"
              · subst h3; rfl
              by_cases h4 : n = Str.ofString "dirname"
              · subst h4; rfl
              by_cases h5 : n = Str.ofString "n"
              · subst h5; rfl
              simp only [if_neg h1, if_neg h3, if_neg h4, if_neg h5]⟩
          · rw [pq_stop _ h34b, List.append_nil] at hpq
            subst hpq
            have hne : ([c2] != [34]) = true := by simp [h34b]
            repeat walk1
            rename Fr g' L' _ _ => F8
            rename News g' L' _ _ => N8
            refine (show PaTurn s g' L' news l full t0 (l.length - j) .brk _ from .inr ⟨rfl, _, _, _, _, _, _, rfl, F8, N8, fun n h1 => by
              by_cases h3 : n = Str.ofString "i"
              · subst h3; rfl
              by_cases h4 : n = Str.ofString "dirname"
              · subst h4; rfl
              by_cases h5 : n = Str.ofString "n"
              · subst h5; rfl
              simp only [if_neg h1, if_neg h3, if_neg h4, if_neg h5]⟩)
      · rw [pq_other _ h34] at hpq
        have hne : ([c] == [34]) = false := by simp [h34]
        repeat walk1
        rename Fr g' L' _ _ => F8
        rename News g' L' _ _ => N8
        subst hp
        refine .inl ⟨rfl, l.length - (j + 1), by omega, _, _, j + 1, acc ++ [c], _, _, _, _, rfl, by omega, rfl, by simp; omega, by rw [List.append_assoc]; exact hpq, F8, N8, fun n h1 => by
          by_cases h3 : n = Str.ofString "i"
          · subst h3; rfl
          by_cases h4 : n = Str.ofString "dirname"
          · subst h4; rfl
          by_cases h5 : n = Str.ofString "n"
          · subst h5; rfl
          simp only [if_neg h1, if_neg h3, if_neg h4, if_neg h5]⟩
    · have e9 : l.drop j = [] := List.drop_eq_nil_of_le (by omega)
      rw [e9] at hpq
      have hpq' : acc = pq l := by rw [← hpq]; simp [pq]
      subst hpq'
      repeat walk1
      rename Fr g' L' _ _ => F8
      rename News g' L' _ _ => N8
      refine (show PaR s g' L' news l full t0 _ _ from ⟨rfl, _, _, _, _, _, _, rfl, F8, N8, fun n h1 => by
        by_cases h3 : n = Str.ofString "i"
        · subst h3; rfl
        by_cases h4 : n = Str.ofString "dirname"
        · subst h4; rfl
        by_cases h5 : n = Str.ofString "n"
        · subst h5; rfl
        simp only [if_neg h1, if_neg h3, if_neg h4, if_neg h5]⟩)
  · clear F9 N9
    obtain ⟨rfl, h₁, tk, m₁, x, td, z, rfl, F₁, N₁, hm⟩ := hr
    dsimp only
    have F₂ := fr_congr F₁ (frame_pa hm)
    clear F₁
    refine execsK_cons (wpK_of ?_)
    repeat walk1
    exact hret _ _ _ (by assumption) (by assumption)
end

theorem gapMP : True → True := by
  w_top off
  first | (walk1; exact True.intro) | exact id

section
/-- the text of _law_mate -/
def tc (N M : Nat) : List Nat := List.replicate N 34 ++ [107] ++ List.replicate M 34
theorem tc_len (N M : Nat) : (tc N M).length = N + M + 1 := by simp [tc]; omega
theorem tc_rev (N M : Nat) : (tc N M).reverse = tc M N := by simp [tc]
theorem tc_mem {N M c : Nat} (h : c ∈ tc N M) : c = 34 ∨ c = 107 := by
  simp only [tc, List.mem_append, List.mem_replicate, List.mem_singleton] at h
  omega
theorem pq_pairs (r : List Nat) : ∀ k, pq (List.replicate (2 * k) 34 ++ r) = List.replicate k 34 ++ pq r
  | 0 => by simp
  | k + 1 => by
    have e : List.replicate (2 * (k + 1)) 34 ++ r = 34 :: 34 :: (List.replicate (2 * k) 34 ++ r) := by
      rw [show 2 * (k + 1) = 2 * k + 1 + 1 by omega, List.replicate_succ, List.replicate_succ]; rfl
    rw [e, pq_two, pq_pairs r k, List.replicate_succ]; rfl
theorem pq_all (M : Nat) : pq (List.replicate M 34) = List.replicate (M / 2) 34 := by
  rcases Nat.mod_two_eq_zero_or_one M with h | h
  · have e : M = 2 * (M / 2) := by omega
    have := pq_pairs [] (M / 2)
    rw [List.append_nil, ← e] at this
    rw [this]; simp [pq]
  · have e : M = 2 * (M / 2) + 1 := by omega
    have := pq_pairs [34] (M / 2)
    have e2 : List.replicate (2 * (M / 2)) 34 ++ [34] = List.replicate M 34 := by
      rw [← List.replicate_succ', ← e]
    rw [e2, pq_one, List.append_nil] at this
    exact this
/-- what parse257 hands back for the text -/
def told (N M : Nat) : List Nat := if N % 2 = 0 then List.replicate (N / 2) 34 ++ ([107] ++ List.replicate (M / 2) 34) else List.replicate (N / 2) 34
theorem pq_tc (N M : Nat) : pq (tc N M) = told N M := by
  unfold told
  rcases Nat.mod_two_eq_zero_or_one N with h | h
  · rw [if_pos h]
    have e : tc N M = List.replicate (2 * (N / 2)) 34 ++ (107 :: List.replicate M 34) := by
      rw [show 2 * (N / 2) = N by omega]; simp [tc]
    rw [e, pq_pairs, pq_other _ (by decide), pq_all]; rfl
  · rw [if_neg (by omega)]
    have e : tc N M = List.replicate (2 * (N / 2)) 34 ++ (34 :: 107 :: List.replicate M 34) := by
      have e1 : N = 2 * (N / 2) + 1 := by omega
      have e2 : List.replicate N 34 = List.replicate (2 * (N / 2)) 34 ++ [34] := by
        rw [← List.replicate_succ', ← e1]
      simp [tc, e2]
    rw [e, pq_pairs, pq_stop _ (by decide), List.append_nil]
theorem told_k (N M : Nat) : (told N M).contains 107 = decide (N % 2 = 0) := by
  unfold told
  by_cases h : N % 2 = 0
  · rw [if_pos h]; simp [h]
  · rw [if_neg h]; simp [h]
theorem swap_one (l : List UInt8) : swapL l.length l = l.reverse := by
  apply List.ext_getElem (by simp [swapL])
  intro i h1 h2
  simp only [swapL, List.getElem_map, List.getElem_range, swapAt]
  have hi : i < l.length := by simpa [swapL] using h1
  rw [Nat.div_eq_of_lt hi, Nat.mod_eq_of_lt hi, Nat.zero_mul, Nat.zero_add, List.getElem_reverse]
  rw [List.getD_eq_getElem?_getD, List.getElem?_eq_getElem (by omega)]; rfl
def mateV (rise side : Int) : Int := if rise.natAbs % 2 = 0 then 1 else if side.natAbs % 2 = 0 then 3 else 2
end

theorem gapMA : True → True := by
  w_top off
  first | (walk1; exact True.intro) | exact id

section
local macro_rules | `(tactic| walk_at "eval Constant str") => `(tactic| first | refine const_is lit_q ?_ | refine const_is lit_k ?_ | refine const_is lit_e ?_ | refine const_is lit_p ?_)
local macro_rules | `(tactic| walk_at "compareOp NotEq str str") => `(tactic| refine ne_tx (by with_reducible assumption) ?_)
local macro_rules | `(tactic| walk_at "compareOp In str str") => `(tactic| refine in_tx (by with_reducible assumption) ?_)
local macro_rules | `(tactic| walk_at "binaryOp Add str str") => `(tactic| (refine add_tx (by simp only [List.length_cons, List.length_nil, List.length_append, List.length_replicate]; omega) ?_; intro _ _))
local macro_rules | `(tactic| walk_at "last binaryOp Add str str") => `(tactic| (refine add_tx (by simp only [List.length_cons, List.length_nil, List.length_append, List.length_replicate]; omega) ?_; intro _ _))
local macro_rules | `(tactic| walk_at "binaryOp FloorDiv int int") => `(tactic| refine fdiv_is (by assumption) (by decide) (by decide) ?_)
local macro_rules | `(tactic| walk_at "eval ListComp") => `(tactic| (k_dflt (refine ListComp_SB (F₀ := by k_asm) (by rfl) (by decide) (by rfl) (by decide) (by rfl) ?_)))
local macro_rules | `(tactic| walk_at "binaryOp Mult str int") => `(tactic| (refine mul_q (by first | rfl | assumption) (by omega) ?_; intro _ _))
local macro_rules | `(tactic| walk_at "call builtin:len") => `(tactic| (refine len_tx (by omega) ?_; intro _ _))
theorem mod_is {prog : Program} {w : World} {A : Around} {E : Value → Shared → Prop} {s : Shared} {a b c : Int} {t u : Tok} {Q : Value → Shared → Prop} (e : a.fmod b = c) (hb : b ≠ 0)
    (h : Q (.int c s.toks) { s with toks := s.toks + 1 }) : wpAny (model prog w) A (binaryOp .Mod (.int a t) (.int b u)) Q E s :=
  mod_int' hb (e ▸ h)
local macro_rules | `(tactic| walk_at "binaryOp Mod int int") => `(tactic| refine mod_is (by assumption) (by decide) ?_)
theorem chr_tx {prog : Program} {w : World} {A : Around} {E : Value → Shared → Prop} {s : Shared} {i : Int} {c : Nat} {t : Tok} {Q : Value → Shared → Prop} (e : i = (c : Int)) (hc : c = 34 ∨ c = 107) (h : Q (.str (tx [c]) s.toks) { s with toks := s.toks + 1 }) :
    wpAny (model prog w) A (call (.builtin "chr") [.int i t]) Q E s := by
  subst e
  exact chr_of_range (by omega) (by omega) h
local macro_rules | `(tactic| walk_at "call builtin:chr") => `(tactic| refine chr_tx (by assumption) (by assumption) ?_)
theorem ints_of : ∀ {ys : List Value} {cs : List Nat}, ys.length = cs.length → (∀ (j : Nat) (y : Value), ys[j]? = some y → ∃ (t : Tok) (c : Nat), cs[j]? = some c ∧ y = Value.int (c : Int) t) → IntsAre ys (cs.map fun (c : Nat) => (c : Int))
  | [], [], _, _ => .nil
  | y :: ys, c :: cs, h, hy => by
    obtain ⟨t, c', hc, rfl⟩ := hy 0 y rfl
    cases hc
    exact .cons _ _ (ints_of (by simpa using h) fun j z hz => hy (j + 1) z hz)
  | [], _ :: _, h, _ => by cases h
  | _ :: _, [], h, _ => by cases h
theorem par_of {x : Int} {N r : Nat} (h : x.natAbs = N) (e : N % 2 = r) : Int.fmod x 2 = (r : Int) := by rw [Int.fmod_eq_emod_of_nonneg _ (by decide)]; omega
theorem abs_of {x : Int} {N : Nat} (h : x.natAbs = N) : (if x < 0 then -x else x) = (N : Int) := by split <;> omega
theorem half_of {x : Int} {N : Nat} (h : x = (N : Int)) : Int.fdiv x 2 = ((N / 2 : Nat) : Int) := by rw [h, Int.fdiv_eq_ediv_of_nonneg _ (by decide)]; omega
set_option maxHeartbeats 8000000 in
theorem ma_spec {w : World} {mean : ExcName → Option Value} {mg mb : Str → Option Value} {rise side : Int} {N K : Nat} {t1 t2 : Tok} (hN : rise.natAbs = N) (hK : side.natAbs = K) (hN2 : N ≤ 2000) (hK2 : K ≤ 2000) :
    Spc PySem.Challenge.rw_wf0012_01.row.prog w (hd.heap_39 w.params) hd.view_39 (looseW hd.view_39 []) mean mg mb 20 200 105 [.int rise t1, .int side t2] (fun t => .int (mateV rise side) t) := by
  k_fill
  intro dp un gd cn cs a ccd cl outer A₀ base h₀ L m news s Q E B F X N₀ T hk hdp hu hret
  refine wpK_call ?_
  refine' defK (binds := [(Str.ofString "rise", .int rise t1), (Str.ofString "side", .int side t2)]) ?k1 ?k2 ?k3 ?k4 ?k5 ?kA ?kF ?kK ?k6 ?k7 ?k8 ?k9 ?kB ?_ ?c2 ?c3 ?c4 ?c5
  case kA => exact rfl
  case kF => exact rfl
  case kK => assumption
  case k1 => k_asm
  case k2 => k_asm
  case k3 => k_asm
  case k4 => k_asm
  case k5 => k_asm
  case k6 => k_is
  case k7 => k_is
  case k8 => ktr_room
  case k9 => exact BindsTo.of_eq rfl
  case c5 => decide
  case kB => exact locs rfl
  case c2 => exact rfl
  case c3 => exact rfl
  case c4 => exact rfl
  intro g' L' h' FG' F' N' B' X' T' lt'
  try dsimp only
  have hNa : (if rise < 0 then -rise else rise) = (N : Int) := abs_of hN
  have hKa : (if side < 0 then -side else side) = (K : Int) := abs_of hK
  have hNb : Int.fdiv (if rise < 0 then -rise else rise) 2 = ((N / 2 : Nat) : Int) := half_of hNa
  obtain ⟨T1, hT1⟩ : ∃ T, T = told N K := ⟨_, rfl⟩
  obtain ⟨T2, hT2⟩ : ∃ T, T = told K N := ⟨_, rfl⟩
  have hKb : Int.fdiv (if side < 0 then -side else side) 2 = ((K / 2 : Nat) : Int) := half_of hKa
  refine execsK_leaf ?_
  repeat walk1
  rename Fr g' L' _ _ => F9
  generalize hcd : List.replicate N 34 ++ [107] ++ List.replicate K 34 = codes at F9
  have hcd' : codes = tc N K := hcd.symm
  have hlen : codes.length = N + K + 1 := by rw [hcd', tc_len]
  have hmem : ∀ c ∈ codes, c = 34 ∨ c = 107 := fun c hc => tc_mem (hcd' ▸ hc)
  clear hcd
  refine execsK_cons (AssignNameK (CallNameK ?_))
  walk1
  refine argsK (P := fun h => Frag.In (hd.heap_39 w.params) h) (keeps_K (by k_is)) (wpK_of ?_)
  repeat walk1
  refine .inl ⟨tx codes, _, _, rfl, ?ha, rfl, by assumption, by assumption, ?hsz, fun s₂ e₂ => ?_⟩
  case ha =>
    show codes.toArray.all (· < 128) = true
    rw [Array.all_eq_true']
    intro x hx
    have := hmem x (by simpa using hx)
    simp; omega
  case hsz => show codes.toArray.size ≤ sizeLine; rw [List.size_toArray]; exact Nat.le_trans (show codes.length ≤ 10000 by omega) (by decide)
  obtain ⟨g₂, rfl⟩ := e₂
  refine rest_same (R := fun j y => ∃ t c, codes[j]? = some c ∧ y = .int (c : Int) t) trivial ?turn _ 0 [] (fun j y e => by cases e) rfl ?fin
  case turn =>
    intro j v I oI C oC D m₂ h tk ys E' hP hC hx F₁ N₁
    obtain ⟨c, u, hc, rfl⟩ := hP
    have hc' : codes[j]? = some c := by simpa using hc
    repeat walk1
    exact ⟨_, _, rfl, ⟨_, c, hc', rfl⟩, by assumption, by assumption⟩
  case fin =>
    intro ys hl hy
    rw [show 0 + (tx codes).cps.size = codes.length by simp] at hl
    have hI := ints_of hl hy
    intro D h tk F₁ N₁ o1
    repeat walk1
    refine bytes_led (l := codes.map UInt8.ofNat) F₁ N₁ (.head _) hI ?_ (by rw [hl]; exact Nat.le_trans (show codes.length ≤ 10000 by omega) (by decide)) rfl (by rw [List.map_map]; rfl) ?_
    · intro n hn
      obtain ⟨c, hc, rfl⟩ := List.mem_map.mp hn
      have := hmem c hc
      omega
    intro h9 t9 k9 F8 N8
    repeat walk1
    refine' bs_spec (l := codes.map UInt8.ofNat) (k := 1) (wd := codes.length) (by omega) (by omega) (by simp) (by simp; omega) _ _ _ _ _ _ _ _ _ _ _ _ _ _ _ _ _ _ _ _ ?b1 ?b2 ?b3 ?b4 ?b5 ?b6 ?b7 ?b8 ?_
    case b1 => assumption
    case b2 => assumption
    case b3 => assumption
    case b4 => assumption
    case b5 => assumption
    case b6 => rfl
    case b7 => ktr_room
    case b8 => ktr_units
    have hsw : swapL codes.length (codes.map UInt8.ofNat) = (tc K N).map UInt8.ofNat := by
      have := swap_one (codes.map UInt8.ofNat)
      rw [List.length_map, ← List.map_reverse] at this
      rw [this, hcd', tc_rev]
    intro t8 h8 k8 F8 N8
    rw [hsw]
    dsimp only
    repeat walk1
    refine execsK_cons (AssignNameK (CallNameK ?_))
    walk1
    refine argsK (P := fun h => Frag.In (hd.heap_39 w.params) h) (keeps_K (by k_is)) (wpK_of ?_)
    repeat walk1
    refine' pa_spec (l := codes) rfl (by omega) _ _ _ _ _ _ _ _ _ _ _ _ _ _ _ _ _ _ ?d11 ?d12 ?d13 ?d14 ?d15 ?d16 ?d17 ?d18 ?_
    case d11 => assumption
    case d12 => assumption
    case d13 => assumption
    case d14 => assumption
    case d15 => assumption
    case d16 => rfl
    case d17 => ktr_room
    case d18 => ktr_units
    intro t7 h7 k7 F7 N7
    rw [hcd', pq_tc, ← hT1]
    dsimp only
    repeat walk1
    refine execsK_cons (AssignNameK (CallNameK ?_))
    walk1
    refine argsK (P := fun h => Frag.In (hd.heap_39 w.params) h) (keeps_K (by k_is)) (wpK_of ?_)
    repeat walk1
    refine .inr ⟨_, _, _, rfl, rfl, by assumption, by assumption, ?hsz2, fun s₃ e₃ => ?_⟩
    case hsz2 => rw [List.size_toArray, List.length_map, tc_len]; exact Nat.le_trans (show K + N + 1 ≤ 10000 by omega) (by decide)
    obtain ⟨g₃, rfl⟩ := e₃
    refine rest_same (R := fun j y => ∃ c t, (tc K N)[j]? = some c ∧ y = .str (tx [c]) t) trivial ?turn _ 0 [] (fun j y e => by cases e) rfl ?fin
    case turn =>
      intro j v I oI C oC D m₂ h tk ys E' hP hC hx F₁ N₁
      obtain ⟨b, u, hb, rfl⟩ := hP
      rw [List.getElem?_toArray, List.getElem?_map] at hb
      obtain ⟨c, hc, rfl⟩ := Option.map_eq_some_iff.mp hb
      have hc3 : c = 34 ∨ c = 107 := tc_mem (List.mem_of_getElem? hc)
      have hc4 : ((UInt8.ofNat c).toNat : Int) = (c : Int) := by rw [UInt8.toNat_ofNat']; omega
      repeat walk1
      exact ⟨_, _, rfl, ⟨c, _, hc, rfl⟩, by assumption, by assumption⟩
    case fin =>
      intro ys2 hl2 hy2
      intro D2 h2 tk2 F₂ N₂ o2
      repeat walk1
      rw [show 0 + (List.map UInt8.ofNat (tc K N)).toArray.size = (tc K N).length by simp] at hl2
      rename News g' L' _ _ => N3
      refine join_tx N3 (.head _) (by rw [tc_len]; omega) ⟨hl2, hy2⟩ ?_
      intro t5 k5
      have hlen2 : (tc K N).length = N + K + 1 := by rw [tc_len]; omega
      generalize hcd2 : tc K N = codes2 at hlen2 ⊢
      repeat walk1
      refine' pa_spec (l := codes2) rfl (by omega) _ _ _ _ _ _ _ _ _ _ _ _ _ _ _ _ _ _ ?d21 ?d22 ?d23 ?d24 ?d25 ?d26 ?d27 ?d28 ?_
      case d21 => assumption
      case d22 => assumption
      case d23 => assumption
      case d24 => assumption
      case d25 => assumption
      case d26 => rfl
      case d27 => ktr_room
      case d28 => ktr_units
      intro t6 h6 k6 F6 N6
      rw [← hcd2, pq_tc, ← hT2]
      dsimp only
      repeat walk1
      refine execsK_leaf ?_
      repeat walk1
      have hk1 := told_k N K
      have hk2 := told_k K N
      rw [← hT1] at hk1
      rw [← hT2] at hk2
      have hfin : ∀ {h' : Heap} {tk : Nat} {t : Tok} {v : Int} {q : Addr} {o : Obj}, mateV rise side = v → Fr h₀ L h' m → News h₀ L h' ((q, o) :: (D2, LCg.lst ys2) :: (D, LCg.lst ys) :: news) → Q (.int v t) { s with heap := h', toks := tk } := by
        intro h' tk t v q o e F N
        subst e
        exact hret _ _ _ F fun p hp => N p (.tail _ (.tail _ (.tail _ hp)))
      clear hret
      rcases Nat.mod_two_eq_zero_or_one N with hN0 | hN0 <;> rcases Nat.mod_two_eq_zero_or_one K with hK0 | hK0
      · have hr : Int.fmod rise 2 = 0 := par_of (r := 0) hN hN0
        have hs : Int.fmod side 2 = 0 := par_of (r := 0) hK hK0
        have hmv : mateV rise side = 1 := by simp [mateV, hN, hN0]
        have hk1' : T1.contains 107 = true := by rw [hk1, hN0]; rfl
        have hk2' : T2.contains 107 = true := by rw [hk2, hK0]; rfl
        clear hk1 hk2
        have e1 : (T1 != List.replicate (N / 2) 34 ++ ([107] ++ List.replicate (K / 2) 34)) = false := by rw [hT1]; unfold told; simp [hN0]
        have e2 : (T2 != List.replicate (K / 2) 34 ++ ([107] ++ List.replicate (N / 2) 34)) = false := by rw [hT2]; unfold told; simp [hK0]
        clear hT1 hT2
        refine execsK_leaf ?_
        repeat walk1
        dsimp only
        refine execsK_leaf ?_
        repeat walk1
        dsimp only
        refine execsK_leaf ?_
        repeat walk1
        exact hfin hmv (by assumption) (by assumption)
      · have hr : Int.fmod rise 2 = 0 := par_of (r := 0) hN hN0
        have hs : Int.fmod side 2 = 1 := par_of (r := 1) hK hK0
        have hmv : mateV rise side = 1 := by simp [mateV, hN, hN0]
        have hk1' : T1.contains 107 = true := by rw [hk1, hN0]; rfl
        have hk2' : T2.contains 107 = false := by rw [hk2, hK0]; rfl
        clear hk1 hk2
        have e1 : (T1 != List.replicate (N / 2) 34 ++ ([107] ++ List.replicate (K / 2) 34)) = false := by rw [hT1]; unfold told; simp [hN0]
        have e2 : (T2 != List.replicate (K / 2) 34 ++ []) = false := by rw [hT2]; unfold told; simp [hK0]
        clear hT1 hT2
        refine execsK_leaf ?_
        repeat walk1
        dsimp only
        refine execsK_leaf ?_
        repeat walk1
        dsimp only
        refine execsK_leaf ?_
        repeat walk1
        exact hfin hmv (by assumption) (by assumption)
      · have hr : Int.fmod rise 2 = 1 := par_of (r := 1) hN hN0
        have hs : Int.fmod side 2 = 0 := par_of (r := 0) hK hK0
        have hmv : mateV rise side = 3 := by simp [mateV, hN, hK, hN0, hK0]
        have hk1' : T1.contains 107 = false := by rw [hk1, hN0]; rfl
        have hk2' : T2.contains 107 = true := by rw [hk2, hK0]; rfl
        clear hk1 hk2
        have e1 : (T1 != List.replicate (N / 2) 34 ++ []) = false := by rw [hT1]; unfold told; simp [hN0]
        have e2 : (T2 != List.replicate (K / 2) 34 ++ ([107] ++ List.replicate (N / 2) 34)) = false := by rw [hT2]; unfold told; simp [hK0]
        clear hT1 hT2
        refine execsK_leaf ?_
        repeat walk1
        dsimp only
        refine execsK_leaf ?_
        repeat walk1
        dsimp only
        refine execsK_leaf ?_
        repeat walk1
        dsimp only
        refine execsK_leaf ?_
        repeat walk1
        exact hfin hmv (by assumption) (by assumption)
      · have hr : Int.fmod rise 2 = 1 := par_of (r := 1) hN hN0
        have hs : Int.fmod side 2 = 1 := par_of (r := 1) hK hK0
        have hmv : mateV rise side = 2 := by simp [mateV, hN, hK, hN0, hK0]
        have hk1' : T1.contains 107 = false := by rw [hk1, hN0]; rfl
        have hk2' : T2.contains 107 = false := by rw [hk2, hK0]; rfl
        clear hk1 hk2
        have e1 : (T1 != List.replicate (N / 2) 34 ++ []) = false := by rw [hT1]; unfold told; simp [hN0]
        have e2 : (T2 != List.replicate (K / 2) 34 ++ []) = false := by rw [hT2]; unfold told; simp [hK0]
        clear hT1 hT2
        refine execsK_leaf ?_
        repeat walk1
        dsimp only
        refine execsK_leaf ?_
        repeat walk1
        dsimp only
        refine execsK_leaf ?_
        repeat walk1
        dsimp only
        refine execsK_leaf ?_
        repeat walk1
        exact hfin hmv (by assumption) (by assumption)
end

theorem gapLA : True → True := by
  w_top off
  first | (walk1; exact True.intro) | exact id

section
set_option maxHeartbeats 8000000 in
theorem law_enter {w : World} {mean : ExcName → Option Value} {mg mb : Str → Option Value} {s : Shared} {l : Addr}
    (T : Top hd.view_39 (looseW hd.view_39 []) mean mg mb s.heap) (KX : (hd.heap_39 w.params).In s.heap)
    (next : ∀ h tk o1 o2 o3 o4, Fr s.heap s.heap.objs.size h (fun y => if y = Str.ofString "script" then some (Value.ref l) else none) → 
       News s.heap s.heap.objs.size h [(s.heap.objs.size + 1 + 1 + 1 + 1, o1), (s.heap.objs.size + 1 + 1 + 1, o2), (s.heap.objs.size + 1 + 1, o3), (s.heap.objs.size + 1, o4)] →
       o1.data = .cell none → o2.data = .cell none → o3.data = .cell none → o4.data = .cell none → Ph w s 0 h tk) :
    codeK (model PySem.Challenge.rw_wf0012_01.row.prog w) callerA (.call (.ref 110) ⟨[.ref l], []⟩) (LawEnd s) s := by
  revert KX next
  k_fill
  intro KX next
  have K0 := below_caller s.heap
  refine' entryCK (binds := [(Str.ofString "script", .ref l)]) ?k1 ?k2 ?k6 ?k7 ?k8 ?k9 ?kB ?kN ?_ ?c2 ?c3 ?c4
  case k1 => assumption
  case k2 => assumption
  case k6 => k_is
  case k7 => k_is
  case k8 => decide
  case k9 => exact BindsTo.of_eq rfl
  case kB => exact rfl
  case kN => decide +kernel
  case c2 => exact rfl
  case c3 => exact rfl
  case c4 => exact rfl
  intro h₁ tk₁ cells F N Y
  k_cells Y
  try simp only [List.cons_append, List.nil_append] at N
  rename_i o1 o2 o3 o4 d1 d2 d3 d4
  refine next h₁ tk₁ o1 o2 o3 o4 ?_ N d1 d2 d3 d4
  refine cast (congrArg (Fr s.heap s.heap.objs.size h₁) (funext fun y => ?_)) F
  rfl
end

theorem gapL0 : True → True := by
  w_top off
  first | (walk1; exact True.intro) | exact id

section
set_option maxHeartbeats 8000000 in
theorem law_0 {w : World} {mean : ExcName → Option Value} {mg mb : Str → Option Value} {s : Shared} {l : Addr} {vs : List Value} {ns : List Int} {h : Heap} {tk : Nat} {o1 o2 o3 o4 : Obj}
    (T : Top hd.view_39 (looseW hd.view_39 []) mean mg mb s.heap) (hL : s.heap.IsList l vs.toArray) (hI : IntsAre vs ns) (hn : ns.length ≤ 63)
    (F : Fr s.heap s.heap.objs.size h (fun y => if y = Str.ofString "script" then some (Value.ref l) else none))
    (N : News s.heap s.heap.objs.size h [(s.heap.objs.size + 1 + 1 + 1 + 1, o1), (s.heap.objs.size + 1 + 1 + 1, o2), (s.heap.objs.size + 1 + 1, o3), (s.heap.objs.size + 1, o4)])
    (KX : (hd.heap_39 w.params).In s.heap)
    (next : ∀ (h : Heap) (tk : Nat) (D : Addr) (ys : List Value) (m0 : Str → Option Value) (ds : List Int), ds = (List.take 10 ns).map (fun k' => k'.fmod (10 ^ Int.toNat 6)) → IntsAre ys ds → (D ≠ s.heap.objs.size + 1 + 1 + 1 + 1 ∧ D ≠ s.heap.objs.size + 1 + 1 + 1 ∧ D ≠ s.heap.objs.size + 1 + 1 ∧ D ≠ s.heap.objs.size + 1) →
       Fr s.heap s.heap.objs.size h (fun y => if y = Str.ofString "drawn" then some (Value.ref D) else m0 y) → 
       News s.heap s.heap.objs.size h [(D, LCg.lst ys), (s.heap.objs.size + 1 + 1 + 1 + 1, o1), (s.heap.objs.size + 1 + 1 + 1, o2), (s.heap.objs.size + 1 + 1, o3), (s.heap.objs.size + 1, o4)] →
       Ph w s 1 h tk) : Ph w s 0 h tk := by
  unfold Ph lawEnv
  revert KX next
  k_fill
  intro KX next
  have K0 := below_caller s.heap
  change wpK _ (callerA.deeper (envOfC _ (Scope.mk ..) _ _ (Value.ref _))) (execs (?_ :: ?_) (envOfC _ (Scope.mk ..) _ _ (Value.ref _))) _ _ _
  refine execsK_leaf ?_
  repeat walk1
  rename IntsAre _ _ => hI1
  rename Fr _ _ _ _ => F1
  rename News _ _ _ _ => N1
  rename (_ ≠ _) ∧ _ => p1
  obtain ⟨-, p1, p2, p3, p4⟩ := p1
  exact next _ _ _ _ _ _ rfl hI1 ⟨p1.symm, p2.symm, p3.symm, p4.symm⟩ F1 (news_drop2 N1)
end

theorem gapL1 : True → True := by
  w_top off
  first | (walk1; exact True.intro) | exact id

section
local macro_rules | `(tactic| walk_at "subscriptTail Name Slice ref ref") => `(tactic| (k_here; (with_reducible show wpAny _ _ (subscriptTail (PySem.Expr.Name _ _) (PySem.Expr.Slice _ _ none _) (Value.ref _) (Value.ref _)) _ _ _); k_dflt (refine' kmk_slice_ints ?F ?N ?l ?p ?q ?i ?m ?c ?_ ?s ?t ?z; (case F => k_asm); (case N => k_asm); (case l => kmk_list); (case p => kmk_part); (case q => kmk_part); (case i => l_ints); (case m => exact kmk_from (by l_ints) (by kmk_sign)); (case c => kmk_len); (case s => with_unfolding_all rfl); (case t => kmk_pure); (case z => kmk_size)); intro D' ws' h' F' N' l1 hI' hC' hL'; (try k_lt l1)))
set_option maxHeartbeats 8000000 in
theorem law_1 {w : World} {mean : ExcName → Option Value} {mg mb : Str → Option Value} {s : Shared} {h : Heap} {tk : Nat} {o1 o2 o3 o4 : Obj} {D : Addr} {ys : List Value} {m0 : Str → Option Value} {ds : List Int}
    (T : Top hd.view_39 (looseW hd.view_39 []) mean mg mb s.heap) (hI : IntsAre ys ds) (hn : ds.length ≤ 10)
    (p1 : D ≠ s.heap.objs.size + 1 + 1 + 1 + 1 ∧ D ≠ s.heap.objs.size + 1 + 1 + 1 ∧ D ≠ s.heap.objs.size + 1 + 1 ∧ D ≠ s.heap.objs.size + 1)
    (F : Fr s.heap s.heap.objs.size h (fun y => if y = Str.ofString "drawn" then some (Value.ref D) else m0 y))
    (N : News s.heap s.heap.objs.size h [(D, LCg.lst ys), (s.heap.objs.size + 1 + 1 + 1 + 1, o1), (s.heap.objs.size + 1 + 1 + 1, o2), (s.heap.objs.size + 1 + 1, o3), (s.heap.objs.size + 1, o4)])
    (KX : (hd.heap_39 w.params).In s.heap)
    (next : ∀ (h : Heap) (tk : Nat) (D : Addr) (ys : List Value) (m0 : Str → Option Value) (cs : List Int), cs = ds ++ List.drop ds.length [66, 33, 95, 1, 31, 92, 45] → IntsAre ys cs → 
       (D ≠ s.heap.objs.size + 1 + 1 + 1 + 1 ∧ D ≠ s.heap.objs.size + 1 + 1 + 1 ∧ D ≠ s.heap.objs.size + 1 + 1 ∧ D ≠ s.heap.objs.size + 1) → 
       Fr s.heap s.heap.objs.size h (fun y => if y = Str.ofString "cells" then some (Value.ref D) else m0 y) → 
       News s.heap s.heap.objs.size h [(D, W.listOf ys.toArray 0), (s.heap.objs.size + 1 + 1 + 1 + 1, o1), (s.heap.objs.size + 1 + 1 + 1, o2), (s.heap.objs.size + 1 + 1, o3), (s.heap.objs.size + 1, o4)] →
       Ph w s 2 h tk) : Ph w s 1 h tk := by
  unfold Ph lawEnv
  revert KX next
  k_fill
  intro KX next
  have K0 := below_caller s.heap
  obtain ⟨p1, p2, p3, p4⟩ := p1
  change wpK _ (callerA.deeper (envOfC _ (Scope.mk ..) _ _ (Value.ref _))) (execs (?_ :: ?_) (envOfC _ (Scope.mk ..) _ _ (Value.ref _))) _ _ _
  refine execsK_leaf ?_
  repeat walk1
  rename IntsAre _ (ds ++ _) => hI1
  rename Fr _ _ _ _ => F1
  rename News _ _ _ _ => N1
  rename _ < _ ∧ _ => l1
  obtain ⟨-, -, -, q1, q2, q3, q4⟩ := l1
  rw [Int.toNat_natCast] at hI1
  exact next _ _ _ _ _ _ rfl hI1 ⟨Nat.ne_of_gt q1, Nat.ne_of_gt q2, Nat.ne_of_gt q3, Nat.ne_of_gt q4⟩ F1 (news_drop2 (news_drop2 (news_drop2 N1)))
end

theorem gapL2 : True → True := by
  w_top off
  first | (walk1; exact True.intro) | exact id

section
set_option maxHeartbeats 8000000 in
theorem law_2 {w : World} {mean : ExcName → Option Value} {mg mb : Str → Option Value} {s : Shared} {h : Heap} {tk : Nat} {o1 o2 o3 o4 : Obj} {D : Addr} {ys : List Value} {m0 : Str → Option Value} {cs : List Int}
    (T : Top hd.view_39 (looseW hd.view_39 []) mean mg mb s.heap) (hI : IntsAre ys cs) (hn : cs.length ≤ 10) (hb : ∀ c ∈ cs, 0 ≤ c ∧ c < 1000000) (d4 : o4.data = .cell none)
    (p1 : D ≠ s.heap.objs.size + 1 + 1 + 1 + 1 ∧ D ≠ s.heap.objs.size + 1 + 1 + 1 ∧ D ≠ s.heap.objs.size + 1 + 1 ∧ D ≠ s.heap.objs.size + 1)
    (F : Fr s.heap s.heap.objs.size h (fun y => if y = Str.ofString "cells" then some (Value.ref D) else m0 y))
    (N : News s.heap s.heap.objs.size h [(D, W.listOf ys.toArray 0), (s.heap.objs.size + 1 + 1 + 1 + 1, o1), (s.heap.objs.size + 1 + 1 + 1, o2), (s.heap.objs.size + 1 + 1, o3), (s.heap.objs.size + 1, o4)])
    (KX : (hd.heap_39 w.params).In s.heap)
    (next : ∀ (h : Heap) (tk : Nat) (D2 : Addr) (ys2 : List Value) (m0 : Str → Option Value) (k : Nat) (oW : Obj) (tW : Tok), k < 6 → IntsAre ys2 (cs.map fun c => c.fmod 3) → oW.data = .cell (some (.int ((2 ^ (3 + k) : Nat) : Int) tW)) →
       (D2 ≠ D ∧ D2 ≠ s.heap.objs.size + 1 + 1 + 1 + 1 ∧ D2 ≠ s.heap.objs.size + 1 + 1 + 1 ∧ D2 ≠ s.heap.objs.size + 1 + 1 ∧ D2 ≠ s.heap.objs.size + 1) → 
       Fr s.heap s.heap.objs.size h (fun y => if y = Str.ofString "moves" then some (Value.ref D2) else if y = Str.ofString "cells" then some (Value.ref D) else m0 y) → 
       News s.heap s.heap.objs.size h [(D2, LCg.lst ys2), (D, W.listOf ys.toArray 0), (s.heap.objs.size + 1 + 1 + 1 + 1, o1), (s.heap.objs.size + 1 + 1 + 1, o2), (s.heap.objs.size + 1 + 1, o3), (s.heap.objs.size + 1, oW)] →
       Ph w s 4 h tk) : Ph w s 2 h tk := by
  unfold Ph lawEnv
  revert KX next
  k_fill
  intro KX next
  have K0 := below_caller s.heap
  obtain ⟨p1, p2, p3, p4⟩ := p1
  change wpK _ (callerA.deeper (envOfC _ (Scope.mk ..) _ _ (Value.ref _))) (execs (?_ :: ?_) (envOfC _ (Scope.mk ..) _ _ (Value.ref _))) _ _ _
  refine execsK_leaf ?_
  repeat walk1
  refine execsK_leaf ?_
  repeat walk1
  rename IntsAre _ _ => hI1
  rename Fr _ _ _ _ => F1
  rename News _ _ _ _ => N1
  rename _ = Data.cell (some _) => d1
  rename _ ≠ _ ∧ _ => q
  obtain ⟨q0, q1, q2, q3, q4⟩ := q
  rename 0 ≤ Int.fmod _ 6 => e1
  rename Int.fmod _ 6 < 6 => e2
  generalize Int.fmod _ 6 = e at e1 e2 d1
  have hk : (2 : Int) ^ (3 + e).toNat = ((2 ^ (3 + e.toNat) : Nat) : Int) := by
    rw [show (3 + e).toNat = 3 + e.toNat by omega, Int.natCast_pow]; rfl
  rw [hk] at d1
  exact next _ _ _ _ _ e.toNat _ _ (by omega) hI1 d1 ⟨q0.symm, q1.symm, q2.symm, q3.symm, q4.symm⟩ F1 N1
end

theorem gapL4 : True → True := by
  w_top off
  first | (walk1; exact True.intro) | exact id

section
theorem pick_ints {vs : List Value} {ns : List Int} (hi : IntsAre vs ns) : ∀ idx : List Nat, ∃ ms, IntsAre (idx.filterMap (vs.toArray[·]?)) ms
  | [] => ⟨[], .nil⟩
  | i :: r => by
    obtain ⟨ms, hm⟩ := pick_ints hi r
    rw [List.filterMap_cons]
    cases e : vs.toArray[i]? with
    | none => exact ⟨ms, hm⟩
    | some v =>
      obtain ⟨n, t, rfl, _⟩ := hi.at i v (by simpa using e)
      exact ⟨n :: ms, .cons _ _ hm⟩
section
variable {prog : Program} {w : World} {A : Around} {E : Value → Shared → Prop} {s : Shared} {h₀ : Heap} {L l : Addr} {m : Str → Option Value} {news : List (Addr × Obj)} {value slice : PySem.Expr} {its : Array Value} {vs zs : List Value} {ns : List Int} {vl vu vk : Value} {lo hi st : Option Int} {ops : List Value} {Q : Value → Shared → Prop}
theorem cut_step (F : Fr h₀ L s.heap m) (N : News h₀ L s.heap news) (hl : s.heap.IsList l vs.toArray) (pl : IsPart vl lo) (pu : IsPart vu hi) (pk : IsPart vk st) (h0 : st ≠ some 0) (hi' : IntsAre vs ns)
    (h : ∀ D ws ms h', Fr h₀ L h' m → News h₀ L h' ((D, listOf (List.toArray ws) 0) :: news) → (∀ p ∈ news, p.1 < D) → IntsAre ws ms → ms.length ≤ ns.length → Q (.ref D) { s with heap := h' })
    (hs : subscripted slice false (.ref l) (.ref s.heap.objs.size) = operate ops (getItem (.ref l) (.ref s.heap.objs.size))) (ht : ∀ r, letTemporaryGo value (.ref l) r = pure ()) (hz : vs.toArray.size ≤ sizeLine) :
    wpAny (model prog w) A (subscriptTail value slice (.ref l) (.ref s.heap.objs.size)) Q E { s with heap := s.heap.push { cls := .type "slice", data := .fields #[vl, vu, vk] } } := by
  obtain ⟨ms, hm⟩ : ∃ ms, IntsAre (slicePick vs.toArray lo hi st).toList ms := by
    unfold slicePick
    exact pick_ints hi' _
  have hle : ms.length ≤ ns.length := by
    have q := slicePick_size_le vs.toArray lo hi st
    rw [← hm.length, ← hi'.length, Array.length_toList]
    simpa using q
  refine slice_list3 F N hl pl pu pk h0 (fun h' F' N' => h _ (slicePick vs.toArray lo hi st).toList ms h' F' ?_ (fun p hp => Nat.lt_succ_of_lt (Heap.lt_size (N p hp).1)) hm hle) hs ht hz
  rw [Array.toArray_toList]
  exact N'
end
local macro_rules | `(tactic| walk_at "subscriptTail Name Slice ref ref") => `(tactic| (k_here; (with_reducible show wpAny _ _ (subscriptTail (PySem.Expr.Name _ _) (PySem.Expr.Slice _ _ (some _) _) (Value.ref _) (Value.ref _)) _ _ _); k_dflt (refine' cut_step ?zF ?zN ?zl ?zp ?zq ?zk ?z0 ?zi ?_ ?zs ?zt ?zz; (case zF => k_asm); (case zN => k_asm); (case zl => kmk_list); (case zp => kmk_part); (case zq => kmk_part); (case zk => kmk_part); (case z0 => decide); (case zi => assumption); (case zs => with_unfolding_all rfl); (case zt => kmk_pure); (case zz => kmk_size)); intro D' ws' ms' h' F' N' l1 hI' hL'; (try k_lt l1)))
set_option maxHeartbeats 8000000 in
theorem law_4 {w : World} {mean : ExcName → Option Value} {mg mb : Str → Option Value} {s : Shared} {h : Heap} {tk : Nat} {o1 o2 o3 oW : Obj} {D D2 : Addr} {ys ys2 : List Value} {m0 : Str → Option Value} {cs : List Int} {wh : Nat} {tW : Tok}
    (T : Top hd.view_39 (looseW hd.view_39 []) mean mg mb s.heap) (hI : IntsAre ys cs) (hn : cs.length ≤ 10) (hw0 : 0 < wh) (hw1 : wh ≤ 256) (dW : oW.data = .cell (some (.int (wh : Int) tW))) (d2 : o2.data = .cell none) (d3 : o3.data = .cell none)
    (p1 : D ≠ s.heap.objs.size + 1 + 1 + 1 + 1 ∧ D ≠ s.heap.objs.size + 1 + 1 + 1 ∧ D ≠ s.heap.objs.size + 1 + 1 ∧ D ≠ s.heap.objs.size + 1)
    (q1 : D2 ≠ D ∧ D2 ≠ s.heap.objs.size + 1 + 1 + 1 + 1 ∧ D2 ≠ s.heap.objs.size + 1 + 1 + 1 ∧ D2 ≠ s.heap.objs.size + 1 + 1 ∧ D2 ≠ s.heap.objs.size + 1)
    (F : Fr s.heap s.heap.objs.size h (fun y => if y = Str.ofString "moves" then some (Value.ref D2) else if y = Str.ofString "cells" then some (Value.ref D) else m0 y))
    (N : News s.heap s.heap.objs.size h [(D2, LCg.lst ys2), (D, W.listOf ys.toArray 0), (s.heap.objs.size + 1 + 1 + 1 + 1, o1), (s.heap.objs.size + 1 + 1 + 1, o2), (s.heap.objs.size + 1 + 1, o3), (s.heap.objs.size + 1, oW)])
    (KX : (hd.heap_39 w.params).In s.heap)
    (next : ∀ (h : Heap) (tk : Nat) (m0 : Str → Option Value) (lo hi : Nat) (oL oH : Obj) (tL tH : Tok), lo < wh → hi < wh → oL.data = .cell (some (.int (lo : Int) tL)) → oH.data = .cell (some (.int (hi : Int) tH)) →
       Fr s.heap s.heap.objs.size h (fun y => if y = Str.ofString "moves" then some (Value.ref D2) else m0 y) → 
       News s.heap s.heap.objs.size h [(D2, LCg.lst ys2), (s.heap.objs.size + 1 + 1 + 1 + 1, o1), (s.heap.objs.size + 1 + 1 + 1, oH), (s.heap.objs.size + 1 + 1, oL), (s.heap.objs.size + 1, oW)] →
       Ph w s 6 h tk) : Ph w s 4 h tk := by
  unfold Ph lawEnv
  revert KX next
  k_fill
  intro KX next
  have K0 := below_caller s.heap
  obtain ⟨p1, p2, p3, p4⟩ := p1
  obtain ⟨q0, q1, q2, q3, q4⟩ := q1
  have hw2 : (wh : Int) ≠ 0 := by omega
  change wpK _ (callerA.deeper (envOfC _ (Scope.mk ..) _ _ (Value.ref _))) (execs (?_ :: ?_) (envOfC _ (Scope.mk ..) _ _ (Value.ref _))) _ _ _
  refine execsK_leaf ?_
  repeat walk1
  refine execsK_leaf ?_
  repeat walk1
  rename Fr _ _ _ _ => F1
  rename News _ _ _ _ => N1
  rename _ = Data.cell (some _) => dH
  revert dH
  rename _ = Data.cell (some _) => dL
  intro dH
  generalize hlo : Int.fmod _ (wh : Int) = lo at dL
  generalize hhi : Int.fmod _ (wh : Int) = hi at dH
  have hwp : (0 : Int) < wh := by omega
  have a1 : 0 ≤ lo := hlo ▸ Int.fmod_nonneg_of_pos _ hwp
  have a2 : lo < wh := hlo ▸ Int.fmod_lt_of_pos _ hwp
  have a3 : 0 ≤ hi := hhi ▸ Int.fmod_nonneg_of_pos _ hwp
  have a4 : hi < wh := hhi ▸ Int.fmod_lt_of_pos _ hwp
  rw [show lo = ((lo.toNat : Nat) : Int) by omega] at dL
  rw [show hi = ((hi.toNat : Nat) : Int) by omega] at dH
  exact next _ _ _ lo.toNat hi.toNat _ _ _ _ (by omega) (by omega) dL dH F1 (news_drop2 (news_drop1 (news_drop1 N1)))
end

theorem gapL6 : True → True := by
  w_top off
  first | (walk1; exact True.intro) | exact id

section
abbrev st0 (lo hi : Nat) : St8 := ⟨UInt8.ofNat hi, UInt8.ofNat hi, UInt8.ofNat lo, UInt8.ofNat lo, 97, 97, 98, 98⟩
set_option maxHeartbeats 8000000 in
theorem law_6 {w : World} {mean : ExcName → Option Value} {mg mb : Str → Option Value} {s : Shared} {h : Heap} {tk : Nat} {o1 oH oL oW : Obj} {D2 : Addr} {ys2 : List Value} {m0 : Str → Option Value} {ms : List Int} {wh u lo hi : Nat} {tW tL tH : Tok}
    (T : Top hd.view_39 (looseW hd.view_39 []) mean mg mb s.heap) (hI : IntsAre ys2 ms) (hn : ms.length ≤ 10) (hms : ∀ m ∈ ms, m = 0 ∨ m = 1 ∨ m = 2) (hu2 : wh = 2 * u) (hu0 : 0 < u) (hu3 : u ≤ 128) (hT : ∀ d, d < wh → facts wh u d = true) (hlo : lo < wh) (hhi : hi < wh)
    (d1 : o1.data = .cell none) (dW : oW.data = .cell (some (.int (wh : Int) tW))) (dL : oL.data = .cell (some (.int (lo : Int) tL))) (dH : oH.data = .cell (some (.int (hi : Int) tH)))
    (q1 : D2 ≠ s.heap.objs.size + 1 + 1 + 1 + 1 ∧ D2 ≠ s.heap.objs.size + 1 + 1 + 1 ∧ D2 ≠ s.heap.objs.size + 1 + 1 ∧ D2 ≠ s.heap.objs.size + 1)
    (F : Fr s.heap s.heap.objs.size h (fun y => if y = Str.ofString "moves" then some (Value.ref D2) else m0 y))
    (N : News s.heap s.heap.objs.size h [(D2, LCg.lst ys2), (s.heap.objs.size + 1 + 1 + 1 + 1, o1), (s.heap.objs.size + 1 + 1 + 1, oH), (s.heap.objs.size + 1 + 1, oL), (s.heap.objs.size + 1, oW)])
    (KX : (hd.heap_39 w.params).In s.heap)
    (next : ∀ (h : Heap) (tk : Nat) (m0 : Str → Option Value) (D3 : Addr) (oR : Obj) (tR tU t1 t2 t3 a2 a3 a4 : Tok), oR.data = .cell (some (.bytes (ms.foldl (tStep wh) (st0 lo hi)).ropes.toArray tR)) →
       (D3 ≠ s.heap.objs.size + 1 + 1 + 1 + 1 ∧ D3 ≠ s.heap.objs.size + 1 + 1 + 1 ∧ D3 ≠ s.heap.objs.size + 1 + 1 ∧ D3 ≠ s.heap.objs.size + 1) →
       Fr s.heap s.heap.objs.size h (fun y => if y = Str.ofString "heights" then some (Value.ref D3) else if y = Str.ofString "side" then some (.int (ms.foldl nStep ⟨1, 0, 1⟩).s t3) else if y = Str.ofString "rise" then some (.int (ms.foldl nStep ⟨1, 0, 1⟩).r t2) else
          if y = Str.ofString "base" then some (.int (ms.foldl nStep ⟨1, 0, 1⟩).b t1) else if y = Str.ofString "hues" then some (.bytes (ms.foldl (tStep wh) (st0 lo hi)).hues.toArray tU) else m0 y) → 
       News s.heap s.heap.objs.size h [(D3, W.listOf #[.int (ms.foldl nStep ⟨1, 0, 1⟩).b t1, .int ((ms.foldl nStep ⟨1, 0, 1⟩).b + (ms.foldl nStep ⟨1, 0, 1⟩).r) a2, .int ((ms.foldl nStep ⟨1, 0, 1⟩).b + (ms.foldl nStep ⟨1, 0, 1⟩).r - (ms.foldl nStep ⟨1, 0, 1⟩).s) a3, .int ((ms.foldl nStep ⟨1, 0, 1⟩).b - (ms.foldl nStep ⟨1, 0, 1⟩).s) a4] 0),
          (s.heap.objs.size + 1 + 1 + 1 + 1, oR), (s.heap.objs.size + 1 + 1 + 1, oH), (s.heap.objs.size + 1 + 1, oL), (s.heap.objs.size + 1, oW)] →
       Ph w s 9 h tk) : Ph w s 6 h tk := by
  unfold Ph lawEnv
  revert KX next
  k_fill
  intro KX next
  have K0 := below_caller s.heap
  obtain ⟨q1, q2, q3, q4⟩ := q1
  change wpK _ (callerA.deeper (envOfC _ (Scope.mk ..) _ _ (Value.ref _))) (execs (?_ :: ?_) (envOfC _ (Scope.mk ..) _ _ (Value.ref _))) _ _ _
  refine execsK_cons (AssignTupleK (CallNameK ?_))
  walk1
  refine argsK (P := fun h => Frag.In (hd.heap_39 w.params) h) (keeps_K (by k_is)) (wpK_of ?_)
  repeat walk1
  refine' ta_spec (kD := ys2.length) hu2 hu0 hu3 hT (st0 lo hi) _ _ _ hI hms _ _ _ _ _ _ _ _ _ _ _ _ _ _ _ _ _ _ ?b1 ?b2 ?b3 ?b4 ?b5 ?b6 ?b7 ?b8 ?b9 ?_
  case b1 => exact K0
  case b2 => assumption
  case b3 => assumption
  case b4 => assumption
  case b5 => assumption
  case b6 => rfl
  case b7 => ktr_room
  case b8 => ktr_units
  case b9 => exact .tail _ (.head _)
  intro q t1 t2 h5 k5 F5 N5
  generalize ms.foldl (tStep wh) (st0 lo hi) = H at N5 next ⊢
  repeat walk1
  rename Fr _ _ _ _ => F1
  rename News _ _ _ _ => N1
  rename _ = Data.cell (some (Value.bytes _ _)) => dR
  simp only [List.cons_append, List.nil_append] at N1
  replace N1 := news_drop1 (news_drop1 N1)
  refine execsK_cons (AssignTupleK (CallNameK ?_))
  walk1
  refine argsK (P := fun h => Frag.In (hd.heap_39 w.params) h) (keeps_K (by k_is)) (wpK_of ?_)
  repeat walk1
  refine' nu_spec (kD := ys2.length) hI hms _ _ _ _ _ _ _ _ _ _ _ _ _ _ _ _ _ _ ?b1 ?b2 ?b3 ?b4 ?b5 ?b6 ?b7 ?b8 ?b9 ?_
  case b1 => exact K0
  case b2 => assumption
  case b3 => assumption
  case b4 => assumption
  case b5 => assumption
  case b6 => rfl
  case b7 => ktr_room
  case b8 => ktr_units
  case b9 => exact .head _
  intro q' t3 t4 t5 h5 k5 F5 N5
  generalize ms.foldl nStep ⟨1, 0, 1⟩ = x at N5 next ⊢
  repeat walk1
  refine execsK_leaf ?_
  repeat walk1
  rename Fr _ _ _ _ => F1
  rename News _ _ _ _ => N1
  rename q' < _ ∧ _ => l1
  obtain ⟨-, -, r1, r2, r3, r4⟩ := l1
  exact next _ _ _ _ _ _ _ _ _ _ _ _ _ dR ⟨Nat.ne_of_gt r1, Nat.ne_of_gt r2, Nat.ne_of_gt r3, Nat.ne_of_gt r4⟩ F1 (news_drop2 (news_drop2 N1))
end

theorem gapL9 : True → True := by
  w_top off
  first | (walk1; exact True.intro) | exact id

section
theorem ne_self {prog : Program} {w : World} {A : Around} {E : Value → Shared → Prop} {s : Shared} {b : Array UInt8} {t u : Tok} {Q : Value → Shared → Prop} (h : Q (.bool false) s) : wpAny (model prog w) A (compareOp .NotEq (.bytes b t) (.bytes b u)) Q E s :=
  ne_bytes (by rw [show (b.toList != b.toList) = false by simp]; exact h)
local macro_rules | `(tactic| walk_at "compareOp NotEq bytes bytes") => `(tactic| refine ne_self ?_)
set_option maxHeartbeats 8000000 in
theorem law_9 {w : World} {mean : ExcName → Option Value} {mg mb : Str → Option Value} {s : Shared} {h : Heap} {tk : Nat} {oR oH oL oW : Obj} {D3 : Addr} {m0 : Str → Option Value} {H : St8} {x : Nu} {wh lo hi : Nat} {tW tL tH tR tU t1 t2 t3 a2 a3 a4 : Tok}
    (T : Top hd.view_39 (looseW hd.view_39 []) mean mg mb s.heap) (hw0 : 0 < wh) (hw1 : wh ≤ 256) (hlo : lo < wh) (hhi : hi < wh) (hx1 : x.r.natAbs ≤ 2000) (hx2 : x.s.natAbs ≤ 2000) (hx3 : x.b.natAbs ≤ 20000)
    (dW : oW.data = .cell (some (.int (wh : Int) tW))) (dL : oL.data = .cell (some (.int (lo : Int) tL))) (dH : oH.data = .cell (some (.int (hi : Int) tH))) (dR : oR.data = .cell (some (.bytes H.ropes.toArray tR)))
    (q1 : D3 ≠ s.heap.objs.size + 1 + 1 + 1 + 1 ∧ D3 ≠ s.heap.objs.size + 1 + 1 + 1 ∧ D3 ≠ s.heap.objs.size + 1 + 1 ∧ D3 ≠ s.heap.objs.size + 1)
    (F : Fr s.heap s.heap.objs.size h (fun y => if y = Str.ofString "heights" then some (Value.ref D3) else if y = Str.ofString "side" then some (.int x.s t3) else if y = Str.ofString "rise" then some (.int x.r t2) else
          if y = Str.ofString "base" then some (.int x.b t1) else if y = Str.ofString "hues" then some (.bytes H.hues.toArray tU) else m0 y))
    (N : News s.heap s.heap.objs.size h [(D3, W.listOf #[.int x.b t1, .int (x.b + x.r) a2, .int (x.b + x.r - x.s) a3, .int (x.b - x.s) a4] 0),
          (s.heap.objs.size + 1 + 1 + 1 + 1, oR), (s.heap.objs.size + 1 + 1 + 1, oH), (s.heap.objs.size + 1 + 1, oL), (s.heap.objs.size + 1, oW)])
    (hH : (List.map (fun k' => ((lo : Int) + k' * ((hi : Int) - (lo : Int))).fmod (wh : Int)) [x.b, x.b + x.r, x.b + x.r - x.s, x.b - x.s]).map (fun n => n.toNat.toUInt8) = H.hues)
    (hRp : List.Perm [(H.r0.toNat : Int), (H.r1.toNat : Int), (H.r2.toNat : Int), (H.r3.toNat : Int)] [97, 97, 98, 98])
    (KX : (hd.heap_39 w.params).In s.heap)
    (next : ∀ (h : Heap) (tk : Nat) (m0 : Str → Option Value), Fr s.heap s.heap.objs.size h (fun y => if y = Str.ofString "heights" then some (Value.ref D3) else if y = Str.ofString "side" then some (.int x.s t3) else if y = Str.ofString "rise" then some (.int x.r t2) else m0 y) →
       News s.heap s.heap.objs.size h [(s.heap.objs.size + 1 + 1 + 1 + 1, oR), (s.heap.objs.size + 1 + 1 + 1, oH), (s.heap.objs.size + 1 + 1, oL), (s.heap.objs.size + 1, oW)] → Ph w s 11 h tk) : Ph w s 9 h tk := by
  unfold Ph lawEnv
  revert KX next
  k_fill
  intro KX next
  have K0 := below_caller s.heap
  obtain ⟨q1, q2, q3, q4⟩ := q1
  have hw2 : (wh : Int) ≠ 0 := by omega
  change wpK _ (callerA.deeper (envOfC _ (Scope.mk ..) _ _ (Value.ref _))) (execs (?_ :: ?_) (envOfC _ (Scope.mk ..) _ _ (Value.ref _))) _ _ _
  refine execsK_leaf ?_
  repeat walk1
  rename Fr _ _ _ _ => F1
  rename News _ _ _ _ => N1
  rename IntsAre _ _ => hI1
  have hrange : ∀ n ∈ (List.map (fun k' => ((lo : Int) + k' * ((hi : Int) - (lo : Int))).fmod (wh : Int)) [x.b, x.b + x.r, x.b + x.r - x.s, x.b - x.s]), 0 ≤ n ∧ n < 256 := by
    intro n hn
    obtain ⟨k', _, rfl⟩ := List.mem_map.mp hn
    have hwp : (0 : Int) < wh := by omega
    have a1 := Int.fmod_nonneg_of_pos ((lo : Int) + k' * ((hi : Int) - (lo : Int))) hwp
    have a2 := Int.fmod_lt_of_pos ((lo : Int) + k' * ((hi : Int) - (lo : Int))) hwp
    omega
  have hlen4 := hI1.length
  refine bytes_led (l := H.hues) F1 N1 (.head _) hI1 hrange (by rw [hlen4]; show (4 : Nat) ≤ sizeLine; decide) rfl hH ?_
  intro h9 t9 k9 F9 N9
  repeat walk1
  dsimp only
  refine execsK_leaf ?_
  repeat walk1
  refine sorted_bytes (x := H.r0) (y := H.r1) (z := H.r2) (v := H.r3) rfl F9 N9 ?_
  intro h8 k8 D8 vs8 ns8 e8 F8 N8 l8 hI8 hP8 hS8
  obtain rfl : ns8 = [97, 97, 98, 98] := List.Perm.eq_of_pairwise (le := (· ≤ ·)) (fun a b _ _ h1 h2 => Int.le_antisymm h1 h2) hS8 (by decide) (hP8.trans hRp)
  k_lt l8
  repeat walk1
  rename Fr _ _ _ _ => F7
  rename News _ _ _ _ => N7
  exact next _ _ _ F7 (fun p hp => N7 p (by simp only [List.mem_cons, List.not_mem_nil, or_false] at hp ⊢; rcases hp with rfl | rfl | rfl | rfl <;> simp))
end

theorem gapL11 : True → True := by
  w_top off
  first | (walk1; exact True.intro) | exact id

section
set_option maxHeartbeats 8000000 in
theorem law_11 {w : World} {mean : ExcName → Option Value} {mg mb : Str → Option Value} {s : Shared} {h : Heap} {tk : Nat} {oR oH oL oW : Obj} {D3 : Addr} {m0 : Str → Option Value} {H : St8} {x : Nu} {tR t2 t3 : Tok}
    (T : Top hd.view_39 (looseW hd.view_39 []) mean mg mb s.heap) (hx1 : x.r.natAbs ≤ 2000) (hx2 : x.s.natAbs ≤ 2000)
    (dR : oR.data = .cell (some (.bytes H.ropes.toArray tR)))
    (hp : (H.r1 = H.r0 ∧ H.r2 ≠ H.r0 ∧ H.r3 ≠ H.r0 ∧ mateV x.r x.s = 1) ∨ (H.r1 ≠ H.r0 ∧ H.r2 = H.r0 ∧ H.r3 ≠ H.r0 ∧ mateV x.r x.s = 2) ∨ (H.r1 ≠ H.r0 ∧ H.r2 ≠ H.r0 ∧ H.r3 = H.r0 ∧ mateV x.r x.s = 3))
    (F : Fr s.heap s.heap.objs.size h (fun y => if y = Str.ofString "heights" then some (Value.ref D3) else if y = Str.ofString "side" then some (.int x.s t3) else if y = Str.ofString "rise" then some (.int x.r t2) else m0 y))
    (N : News s.heap s.heap.objs.size h [(s.heap.objs.size + 1 + 1 + 1 + 1, oR), (s.heap.objs.size + 1 + 1 + 1, oH), (s.heap.objs.size + 1 + 1, oL), (s.heap.objs.size + 1, oW)])
    (KX : (hd.heap_39 w.params).In s.heap) : Ph w s 11 h tk := by
  unfold Ph lawEnv
  revert KX
  k_fill
  intro KX
  have K0 := below_caller s.heap
  have q0 : Int.fmod 0 1 = 0 := rfl
  change wpK _ (callerA.deeper (envOfC _ (Scope.mk ..) _ _ (Value.ref _))) (execs (?_ :: ?_) (envOfC _ (Scope.mk ..) _ _ (Value.ref _))) _ _ _
  refine execsK_cons (ReturnK (CompareK (wpK_of ?_)))
  refine ListComp_TQ F (by with_unfolding_all rfl) (by decide) (by rfl) (by decide) (by rfl) ?_
  repeat walk1
  rename Fr _ _ _ _ => F1
  rename News _ _ _ _ => N1
  refine ⟨_, _, _, rfl, rfl, F1, N1, ⟨_, .head _, rfl, _, rfl⟩, by show (3 : Nat) ≤ sizeLine; decide, fun s₂ e₂ => ?_⟩
  obtain ⟨g₂, rfl⟩ := e₂
  obtain ⟨tb, htb⟩ : ∃ tb : Nat → Bool, tb = fun j => ((H.ropes.getD (j + 1) 0).toNat : Int) == ((H.ropes.getD 0 0).toNat : Int) := ⟨_, rfl⟩
  refine rest_test (R := fun j y => ∃ t, y = .int ((j + 1 : Nat) : Int) t) tb ⟨_, .head _, rfl, _, rfl⟩ ?test ?turn _ 0 [] [] .nil ?fin
  case turn =>
    intro j v I oI C oC D m₂ h tk ys E' hP hC hx F₁ N₁
    have hj : j = 0 ∨ j = 1 ∨ j = 2 := by
      have : j < 3 := by
        rcases Nat.lt_or_ge j 3 with hj | hj
        · exact hj
        · rw [Array.getElem?_eq_none (by simpa using hj)] at hP; cases hP
      omega
    rcases hj with rfl | rfl | rfl
    · obtain ⟨t1, rfl⟩ : ∃ t1, v = Value.int 1 t1 := ⟨_, (Option.some.inj hP).symm⟩
      clear hP
      repeat walk1
      exact ⟨_, _, rfl, ⟨_, rfl⟩, by assumption, by assumption⟩
    · obtain ⟨t1, rfl⟩ : ∃ t1, v = Value.int 2 t1 := ⟨_, (Option.some.inj hP).symm⟩
      clear hP
      repeat walk1
      exact ⟨_, _, rfl, ⟨_, rfl⟩, by assumption, by assumption⟩
    · obtain ⟨t1, rfl⟩ : ∃ t1, v = Value.int 3 t1 := ⟨_, (Option.some.inj hP).symm⟩
      clear hP
      repeat walk1
      exact ⟨_, _, rfl, ⟨_, rfl⟩, by assumption, by assumption⟩
  case test =>
    intro j v I oI C oC D m₂ h tk ys E' hP hC hx F₁ N₁
    have hj : j = 0 ∨ j = 1 ∨ j = 2 := by
      have : j < 3 := by
        rcases Nat.lt_or_ge j 3 with hj | hj
        · exact hj
        · rw [Array.getElem?_eq_none (by simpa using hj)] at hP; cases hP
      omega
    rcases hj with rfl | rfl | rfl
    · obtain ⟨t1, rfl⟩ : ∃ t1, v = Value.int 1 t1 := ⟨_, (Option.some.inj hP).symm⟩
      clear hP
      repeat walk1
      refine ⟨_, _, rfl, ?_, by assumption, by assumption⟩
      rw [htb]; rfl
    · obtain ⟨t1, rfl⟩ : ∃ t1, v = Value.int 2 t1 := ⟨_, (Option.some.inj hP).symm⟩
      clear hP
      repeat walk1
      refine ⟨_, _, rfl, ?_, by assumption, by assumption⟩
      rw [htb]; rfl
    · obtain ⟨t1, rfl⟩ : ∃ t1, v = Value.int 3 t1 := ⟨_, (Option.some.inj hP).symm⟩
      clear hP
      repeat walk1
      refine ⟨_, _, rfl, ?_, by assumption, by assumption⟩
      rw [htb]; rfl
  case fin =>
    intro ys hA
    have hA' : AllR (fun j y => ∃ t, y = Value.int ((j + 1 : Nat) : Int) t) (List.filter tb [0, 1, 2]) ys := hA
    clear hA
    have b0 : tb 0 = (((H.r1.toNat : Int)) == ((H.r0.toNat : Int))) := by rw [htb]; rfl
    have b1 : tb 1 = (((H.r2.toNat : Int)) == ((H.r0.toNat : Int))) := by rw [htb]; rfl
    have b2 : tb 2 = (((H.r3.toNat : Int)) == ((H.r0.toNat : Int))) := by rw [htb]; rfl
    have hne : ∀ a b : UInt8, a ≠ b → (((a.toNat : Int)) == ((b.toNat : Int))) = false := fun a b h => by
      rw [beq_eq_false_iff_ne]
      intro e
      exact h (UInt8.toNat_inj.mp (by omega))
    obtain ⟨p, t1, hys, hpp, hmv⟩ : ∃ (p : Int) (t1 : Tok), ys = [.int p t1] ∧ (p = 1 ∨ p = 2 ∨ p = 3) ∧ mateV x.r x.s = p := by
      rcases hp with ⟨c1, c2, c3, c4⟩ | ⟨c1, c2, c3, c4⟩ | ⟨c1, c2, c3, c4⟩
      · rw [c1, beq_self_eq_true] at b0
        rw [hne _ _ c2] at b1
        rw [hne _ _ c3] at b2
        rw [List.filter_cons, b0, List.filter_cons, b1, List.filter_cons, b2] at hA'
        obtain _ | ⟨⟨t1, rfl⟩, _ | _⟩ := hA'
        exact ⟨1, t1, rfl, .inl rfl, c4⟩
      · rw [hne _ _ c1] at b0
        rw [c2, beq_self_eq_true] at b1
        rw [hne _ _ c3] at b2
        rw [List.filter_cons, b0, List.filter_cons, b1, List.filter_cons, b2] at hA'
        obtain _ | ⟨⟨t1, rfl⟩, _ | _⟩ := hA'
        exact ⟨2, t1, rfl, .inr (.inl rfl), c4⟩
      · rw [hne _ _ c1] at b0
        rw [hne _ _ c2] at b1
        rw [c3, beq_self_eq_true] at b2
        rw [List.filter_cons, b0, List.filter_cons, b1, List.filter_cons, b2] at hA'
        obtain _ | ⟨⟨t1, rfl⟩, _ | _⟩ := hA'
        exact ⟨3, t1, rfl, .inr (.inr rfl), c4⟩
    subst hys
    clear hA' b0 b1 b2 htb hp
    intro D h tk F₁ N₁ o1
    try simp only [LCg.Off1, and_true] at o1
    dsimp only
    refine ListK (itemsK_cons (CallNameK ?_))
    repeat walk1
    refine argsK (P := fun h => Frag.In (hd.heap_39 w.params) h) (keeps_K (by k_is)) (wpK_of ?_)
    repeat walk1
    refine' ma_spec rfl rfl hx1 hx2 _ _ _ _ _ _ _ _ _ _ _ _ _ _ _ _ _ _ ?b1 ?b2 ?b3 ?b4 ?b5 ?b6 ?b7 ?b8 ?_
    case b1 => exact K0
    case b2 => assumption
    case b3 => assumption
    case b4 => assumption
    case b5 => assumption
    case b6 => rfl
    case b7 => ktr_room
    case b8 => ktr_units
    intro t8 h8 k8 F8 N8
    rw [hmv]
    refine itemsK_nil ?_
    rcases hpp with rfl | rfl | rfl
    all_goals
      repeat walk1
      exact ⟨rfl, _, _, _, _, rfl, by assumption⟩
end

end Mine
end

theorem Mine.gapPL : True → True := by
  w_top off
  first | (walk1; exact True.intro) | exact id

section
open PySem PySem.Spec PySem.W PySem.Calls PyProof.Rows
set_option Elab.async false
set_option maxRecDepth 100000
namespace Mine
/-- the height k on the wheel -/
def hgt (wh lo hi : Nat) (k : Int) : Int := ((lo : Int) + k * ((hi : Int) - (lo : Int))) % (wh : Int)
structure HInv (wh lo hi : Nat) (H : St8) (x : Nu) : Prop where
  e0 : (H.h0.toNat : Int) = hgt wh lo hi x.b
  e1 : (H.h1.toNat : Int) = hgt wh lo hi (x.b + x.r)
  e2 : (H.h2.toNat : Int) = hgt wh lo hi (x.b + x.r - x.s)
  e3 : (H.h3.toNat : Int) = hgt wh lo hi (x.b - x.s)
theorem hgt_seen {wh lo hi : Nat} (h0 : 0 < wh) (h1 : wh ≤ 256) {un ov : UInt8} {ku ko k : Int} (eu : (un.toNat : Int) = hgt wh lo hi ku) (eo : (ov.toNat : Int) = hgt wh lo hi ko) (ek : k = 2 * ko - ku) : ((seen wh un ov).toNat : Int) = hgt wh lo hi k := by
  rw [seen_int h0 h1, eu, eo]
  unfold hgt
  subst ek
  generalize hd : ((hi : Int) - (lo : Int)) = d
  have e1 := Int.emod_add_mul_ediv ((lo : Int) + ku * d) wh
  have e2 := Int.emod_add_mul_ediv ((lo : Int) + ko * d) wh
  generalize ((lo : Int) + ku * d) % wh = a at *
  generalize ((lo : Int) + ko * d) % wh = b at *
  generalize ((lo : Int) + ku * d) / wh = q at *
  generalize ((lo : Int) + ko * d) / wh = q' at *
  have e3 : (lo : Int) + (2 * ko - ku) * d = 2 * b - a + wh * (2 * q' - q) := by
    rw [Int.sub_mul, Int.mul_assoc, Int.mul_sub]
    have e4 : (wh : Int) * (2 * q') = 2 * (wh * q') := by rw [← Int.mul_assoc, Int.mul_comm (wh : Int) 2, Int.mul_assoc]
    rw [e4]
    omega
  rw [e3, Int.add_mul_emod_self_left]
theorem HInv.step {wh lo hi : Nat} (h0 : 0 < wh) (h1 : wh ≤ 256) {H : St8} {x : Nu} (h : HInv wh lo hi H x) (mv : Int) : HInv wh lo hi (tStep wh H mv) (nStep x mv) := by
  obtain ⟨e0, e1, e2, e3⟩ := h
  unfold tStep nStep
  by_cases m2 : mv = 2
  · rw [if_pos m2, if_pos m2]
    exact ⟨e3, by rw [e0]; congr 1; dsimp only; omega, by rw [e1]; congr 1; dsimp only; omega, by rw [e2]; congr 1; dsimp only; omega⟩
  · rw [if_neg m2, if_neg m2]
    by_cases m0 : mv = 0
    · rw [if_pos m0, if_pos m0]
      exact ⟨e0, hgt_seen h0 h1 e2 e1 (by dsimp only; omega), by rw [e1]; congr 1; dsimp only; omega, e3⟩
    · rw [if_neg m0, if_neg m0]
      exact ⟨e0, by rw [e2]; congr 1; dsimp only; omega, hgt_seen h0 h1 e1 e2 (by dsimp only; omega), e3⟩
theorem HInv.run {wh lo hi : Nat} (h0 : 0 < wh) (h1 : wh ≤ 256) : ∀ (ms : List Int) {H : St8} {x : Nu}, HInv wh lo hi H x → HInv wh lo hi (ms.foldl (tStep wh) H) (ms.foldl nStep x)
  | [], _, _, h => h
  | m :: r, _, _, h => HInv.run h0 h1 r (h.step h0 h1 m)
/-- where the ropes lie, by the parities -/
def RInv (H : St8) (x : Nu) : Prop :=
  (x.r % 2 = 0 ∧ x.s % 2 = 1 ∧ H.r1 = H.r0 ∧ H.r2 = H.r3 ∧ H.r3 ≠ H.r0) ∨ (x.r % 2 = 1 ∧ x.s % 2 = 0 ∧ H.r3 = H.r0 ∧ H.r1 = H.r2 ∧ H.r2 ≠ H.r0) ∨ (x.r % 2 = 1 ∧ x.s % 2 = 1 ∧ H.r2 = H.r0 ∧ H.r1 = H.r3 ∧ H.r3 ≠ H.r0)
theorem RInv.step {wh : Nat} {H : St8} {x : Nu} (h : RInv H x) (mv : Int) : RInv (tStep wh H mv) (nStep x mv) := by
  unfold tStep nStep RInv
  by_cases m2 : mv = 2
  · rw [if_pos m2, if_pos m2]
    rcases h with ⟨a, b, c, d, e⟩ | ⟨a, b, c, d, e⟩ | ⟨a, b, c, d, e⟩
    · exact .inr (.inl ⟨by dsimp only; omega, by dsimp only; omega, d, c.symm, by show H.r1 ≠ H.r3; rw [c]; exact e.symm⟩)
    · exact .inl ⟨by dsimp only; omega, by dsimp only; omega, c.symm, d, by show H.r2 ≠ H.r3; rw [c]; exact e⟩
    · exact .inr (.inr ⟨by dsimp only; omega, by dsimp only; omega, d, c.symm, by show H.r2 ≠ H.r3; rw [c]; exact e.symm⟩)
  · rw [if_neg m2, if_neg m2]
    by_cases m0 : mv = 0
    · rw [if_pos m0, if_pos m0]
      rcases h with ⟨a, b, c, d, e⟩ | ⟨a, b, c, d, e⟩ | ⟨a, b, c, d, e⟩
      · exact .inr (.inr ⟨by dsimp only; omega, by dsimp only; omega, c, d, e⟩)
      · exact .inr (.inl ⟨by dsimp only; omega, by dsimp only; omega, c, d.symm, by show H.r1 ≠ H.r0; rw [d]; exact e⟩)
      · exact .inl ⟨by dsimp only; omega, by dsimp only; omega, c, d, e⟩
    · rw [if_neg m0, if_neg m0]
      rcases h with ⟨a, b, c, d, e⟩ | ⟨a, b, c, d, e⟩ | ⟨a, b, c, d, e⟩
      · exact .inr (.inr ⟨by dsimp only; omega, by dsimp only; omega, c, d, e⟩)
      · exact .inr (.inl ⟨by dsimp only; omega, by dsimp only; omega, c, d.symm, by show H.r1 ≠ H.r0; rw [d]; exact e⟩)
      · exact .inl ⟨by dsimp only; omega, by dsimp only; omega, c, d, e⟩
theorem RInv.run {wh : Nat} : ∀ (ms : List Int) {H : St8} {x : Nu}, RInv H x → RInv (ms.foldl (tStep wh) H) (ms.foldl nStep x)
  | [], _, _, h => h
  | m :: r, _, _, h => RInv.run r (h.step m)
theorem RInv.mate {H : St8} {x : Nu} (h : RInv H x) : (H.r1 = H.r0 ∧ H.r2 ≠ H.r0 ∧ H.r3 ≠ H.r0 ∧ mateV x.r x.s = 1) ∨ (H.r1 ≠ H.r0 ∧ H.r2 = H.r0 ∧ H.r3 ≠ H.r0 ∧ mateV x.r x.s = 2) ∨ (H.r1 ≠ H.r0 ∧ H.r2 ≠ H.r0 ∧ H.r3 = H.r0 ∧ mateV x.r x.s = 3) := by
  unfold mateV
  rcases h with ⟨a, b, c, d, e⟩ | ⟨a, b, c, d, e⟩ | ⟨a, b, c, d, e⟩
  · exact .inl ⟨c, by rw [d]; exact e, e, by rw [if_pos (by omega)]⟩
  · exact .inr (.inr ⟨by rw [d]; exact e, e, c, by rw [if_neg (by omega), if_pos (by omega)]⟩)
  · exact .inr (.inl ⟨by rw [d]; exact e, c, e, by rw [if_neg (by omega), if_neg (by omega)]⟩)
abbrev ropesI (H : St8) : List Int := [(H.r0.toNat : Int), (H.r1.toNat : Int), (H.r2.toNat : Int), (H.r3.toNat : Int)]
theorem perm_step (wh : Nat) (H : St8) (mv : Int) : (ropesI (tStep wh H mv)).Perm (ropesI H) := by
  unfold tStep
  by_cases m2 : mv = 2
  · rw [if_pos m2]
    exact List.perm_append_comm (l₁ := [(H.r3.toNat : Int)]) (l₂ := [(H.r0.toNat : Int), (H.r1.toNat : Int), (H.r2.toNat : Int)])
  · rw [if_neg m2]
    by_cases m0 : mv = 0
    · rw [if_pos m0]; exact (List.Perm.swap _ _ _).cons _
    · rw [if_neg m0]; exact (List.Perm.swap _ _ _).cons _
theorem perm_run (wh : Nat) : ∀ (ms : List Int) (H : St8), (ropesI (ms.foldl (tStep wh) H)).Perm (ropesI H)
  | [], H => .refl _
  | m :: r, H => (perm_run wh r (tStep wh H m)).trans (perm_step wh H m)
theorem bound_run : ∀ (ms : List Int) (x : Nu) (M : Nat), x.b.natAbs ≤ M → x.r.natAbs ≤ M → x.s.natAbs ≤ M →
    (ms.foldl nStep x).b.natAbs ≤ M * 2 ^ ms.length ∧ (ms.foldl nStep x).r.natAbs ≤ M * 2 ^ ms.length ∧ (ms.foldl nStep x).s.natAbs ≤ M * 2 ^ ms.length
  | [], x, M, h1, h2, h3 => by simp; exact ⟨h1, h2, h3⟩
  | m :: r, x, M, h1, h2, h3 => by
    have e : M * 2 ^ (m :: r).length = (2 * M) * 2 ^ r.length := by
      rw [List.length_cons, Nat.pow_succ]
      rw [Nat.mul_comm (2 ^ r.length) 2, ← Nat.mul_assoc, Nat.mul_comm M 2]
    rw [e]
    have hb : (nStep x m).b.natAbs ≤ 2 * M ∧ (nStep x m).r.natAbs ≤ 2 * M ∧ (nStep x m).s.natAbs ≤ 2 * M := by
      unfold nStep
      by_cases m2 : m = 2
      · rw [if_pos m2]; dsimp only; omega
      · rw [if_neg m2]
        by_cases m0 : m = 0
        · rw [if_pos m0]; dsimp only; omega
        · rw [if_neg m0]; dsimp only; omega
    exact bound_run r (nStep x m) (2 * M) hb.1 hb.2.1 hb.2.2
end Mine
end

theorem Mine.gapLZ : True → True := by
  w_top off
  first | (walk1; exact True.intro) | exact id

section
open PySem PySem.Spec PySem.W PySem.Calls PyProof.Rows
set_option Elab.async false
set_option maxRecDepth 100000
namespace Mine
theorem ofNat_toNat {n wh : Nat} (h : n < wh) (h1 : wh ≤ 256) : (UInt8.ofNat n).toNat = n := by rw [UInt8.toNat_ofNat']; omega
theorem hinv_start {wh lo hi : Nat} (h1 : wh ≤ 256) (hl : lo < wh) (hh : hi < wh) : HInv wh lo hi (st0 lo hi) ⟨1, 0, 1⟩ := by
  have e1 : hgt wh lo hi 1 = hi := by
    unfold hgt
    rw [Int.one_mul, show (lo : Int) + ((hi : Int) - (lo : Int)) = hi by omega]
    exact Int.emod_eq_of_lt (by omega) (by omega)
  have e0 : hgt wh lo hi 0 = lo := by
    unfold hgt
    rw [Int.zero_mul, Int.add_zero]
    exact Int.emod_eq_of_lt (by omega) (by omega)
  refine ⟨?_, ?_, ?_, ?_⟩
  · show (((UInt8.ofNat hi).toNat : Nat) : Int) = hgt wh lo hi 1
    rw [e1, ofNat_toNat hh h1]
  · show (((UInt8.ofNat hi).toNat : Nat) : Int) = hgt wh lo hi 1
    rw [e1, ofNat_toNat hh h1]
  · show (((UInt8.ofNat lo).toNat : Nat) : Int) = hgt wh lo hi 0
    rw [e0, ofNat_toNat hl h1]
  · show (((UInt8.ofNat lo).toNat : Nat) : Int) = hgt wh lo hi 0
    rw [e0, ofNat_toNat hl h1]
theorem hues_end {wh lo hi : Nat} (h0 : 0 < wh) {H : St8} {x : Nu} (h : HInv wh lo hi H x) :
    (List.map (fun k' => ((lo : Int) + k' * ((hi : Int) - (lo : Int))).fmod (wh : Int)) [x.b, x.b + x.r, x.b + x.r - x.s, x.b - x.s]).map (fun n => n.toNat.toUInt8) = H.hues := by
  obtain ⟨e0, e1, e2, e3⟩ := h
  have key : ∀ (k : Int) (c : UInt8), (c.toNat : Int) = hgt wh lo hi k → (((lo : Int) + k * ((hi : Int) - (lo : Int))).fmod (wh : Int)).toNat.toUInt8 = c := by
    intro k c e
    rw [Int.fmod_eq_emod_of_nonneg _ (by omega)]
    show (hgt wh lo hi k).toNat.toUInt8 = c
    rw [← e, Int.toNat_natCast]
    exact UInt8.ofNat_toNat
  simp only [List.map_cons, List.map_nil]
  rw [key _ _ e0, key _ _ e1, key _ _ e2, key _ _ e3]
theorem law_call {w : World} {mean : ExcName → Option Value} {mg mb : Str → Option Value} {s : Shared} {l : Addr} {vs : List Value} {ns : List Int}
    (T : Top hd.view_39 (looseW hd.view_39 []) mean mg mb s.heap) (KX : (hd.heap_39 w.params).In s.heap) (hL : s.heap.IsList l vs.toArray) (hI : IntsAre vs ns) (hn : ns.length ≤ 63) :
    codeK (model PySem.Challenge.rw_wf0012_01.row.prog w) callerA (.call (.ref 110) ⟨[.ref l], []⟩) (LawEnd s) s := by
  refine law_enter T KX fun h tk o1 o2 o3 o4 F N d1 d2 d3 d4 => ?_
  refine law_0 T hL hI hn F N KX fun h tk D ys m0 ds eds hI p1 F N => ?_
  have hds : ds.length ≤ 10 := by rw [eds, List.length_map, List.length_take]; omega
  have hdb : ∀ c ∈ ds, 0 ≤ c ∧ c < 1000000 := by
    intro c hc
    rw [eds] at hc
    obtain ⟨k, _, rfl⟩ := List.mem_map.mp hc
    have e : (10 : Int) ^ Int.toNat 6 = 1000000 := by decide
    rw [e]
    exact ⟨Int.fmod_nonneg_of_pos _ (by decide), Int.fmod_lt_of_pos _ (by decide)⟩
  refine law_1 T hI hds p1 F N KX fun h tk D ys m0 cs ecs hI p1 F N => ?_
  have hcs : cs.length ≤ 10 := by
    rw [ecs, List.length_append, List.length_drop]
    show ds.length + (7 - ds.length) ≤ 10
    omega
  have hcb : ∀ c ∈ cs, 0 ≤ c ∧ c < 1000000 := by
    intro c hc
    rw [ecs] at hc
    rcases List.mem_append.mp hc with hc | hc
    · exact hdb c hc
    · have := List.mem_of_mem_drop hc
      simp only [List.mem_cons, List.not_mem_nil, or_false] at this
      rcases this with rfl | rfl | rfl | rfl | rfl | rfl | rfl <;> decide
  clear ecs eds hds hdb
  refine law_2 T hI hcs hcb d4 p1 F N KX fun h tk D2 ys2 m0 k oW tW hk hI2 dW q1 F N => ?_
  have hw0 : 0 < 2 ^ (3 + k) := Nat.pow_pos (by decide)
  have hw1 : 2 ^ (3 + k) ≤ 256 := Nat.le_trans (Nat.pow_le_pow_right (by decide) (show 3 + k ≤ 8 by omega)) (by decide)
  have hu2 : 2 ^ (3 + k) = 2 * 2 ^ (2 + k) := by rw [show 3 + k = (2 + k) + 1 by omega, Nat.pow_succ, Nat.mul_comm]
  have hu0 : 0 < 2 ^ (2 + k) := Nat.pow_pos (by decide)
  have hu3 : 2 ^ (2 + k) ≤ 128 := Nat.le_trans (Nat.pow_le_pow_right (by decide) (show 2 + k ≤ 7 by omega)) (by decide)
  have hT := facts_all k hk
  generalize 2 ^ (3 + k) = wh at *
  generalize 2 ^ (2 + k) = u at *
  refine law_4 T hI hcs hw0 hw1 dW d2 d3 p1 q1 F N KX fun h tk m0 lo hi oL oH tL tH hlo hhi dL dH F N => ?_
  obtain ⟨ms, hms⟩ : ∃ ms, ms = cs.map fun c => c.fmod 3 := ⟨_, rfl⟩
  rw [← hms] at hI2
  have hmn : ms.length ≤ 10 := by rw [hms, List.length_map]; exact hcs
  have hm3 : ∀ m ∈ ms, m = 0 ∨ m = 1 ∨ m = 2 := by
    intro m hm
    rw [hms] at hm
    obtain ⟨c, _, rfl⟩ := List.mem_map.mp hm
    have a1 := Int.fmod_nonneg_of_pos c (show (0 : Int) < 3 by decide)
    have a2 := Int.fmod_lt_of_pos c (show (0 : Int) < 3 by decide)
    omega
  clear hms
  refine law_6 T hI2 hmn hm3 hu2 hu0 hu3 hT hlo hhi d1 dW dL dH q1.2 F N KX fun h tk m0 D3 oR tR tU t1 t2 t3 a2 a3 a4 dR r1 F N => ?_
  have hH := HInv.run hw0 hw1 ms (hinv_start hw1 hlo hhi)
  have hR := RInv.run (wh := wh) ms (H := st0 lo hi) (x := ⟨1, 0, 1⟩) (.inl ⟨rfl, rfl, rfl, rfl, show (98 : UInt8) ≠ 97 by decide⟩)
  have hP := perm_run wh ms (st0 lo hi)
  have hB := bound_run ms ⟨1, 0, 1⟩ 1 (by decide) (by decide) (by decide)
  have hpow : 1 * 2 ^ ms.length ≤ 1024 := by rw [Nat.one_mul]; exact Nat.le_trans (Nat.pow_le_pow_right (by decide) hmn) (by decide)
  obtain ⟨b1, b2, b3⟩ := hB
  generalize ms.foldl (tStep wh) (st0 lo hi) = H at *
  generalize ms.foldl nStep ⟨1, 0, 1⟩ = x at *
  have c1 : x.b.natAbs ≤ 20000 := Nat.le_trans b1 (Nat.le_trans hpow (by decide))
  have c2 : x.r.natAbs ≤ 2000 := Nat.le_trans b2 (Nat.le_trans hpow (by decide))
  have c3 : x.s.natAbs ≤ 2000 := Nat.le_trans b3 (Nat.le_trans hpow (by decide))
  refine law_9 T hw0 hw1 hlo hhi c2 c3 c1 dW dL dH dR r1 F N (hues_end hw0 hH) hP KX fun h tk m0 F N => ?_
  exact law_11 T c2 c3 dR hR.mate F N KX
end Mine
end

theorem Mine.gapTT : True → True := by
  w_top off
  first | (walk1; exact True.intro) | exact id

section
open PySem PySem.Spec PySem.W PySem.Calls PyProof.Rows
set_option Elab.async false
set_option maxRecDepth 100000
namespace Mine
theorem law_at (P : Params) : nsIn (hd.heap_39 P) mainGlobals (Str.ofString "law") = some (some (Value.ref 110)) ∧ PySem.Challenge.rw_wf0012_01.foot = PySem.Challenge.rw_wf0012_01.foot := by
  k_fill
  exact ⟨by k_is, rfl⟩
set_option maxHeartbeats 8000000 in
theorem top (lawC : ∀ {w : World} {mean : ExcName → Option Value} {mg mb : Str → Option Value} {s : Shared} {l : Addr} {vs : List Value} {ns : List Int}
    (T : Top hd.view_39 (looseW hd.view_39 []) mean mg mb s.heap) (KX : (hd.heap_39 w.params).In s.heap) (hL : s.heap.IsList l vs.toArray) (hI : IntsAre vs ns) (hn : ns.length ≤ 63),
    codeK (model PySem.Challenge.rw_wf0012_01.row.prog w) callerA (.call (.ref 110) ⟨[.ref l], []⟩) (LawEnd s) s) : PySem.Challenge.rw_wf0012_01.Holds := by
  w_on
  o_law
  refine holdsK (q := hd.view_39) (loose := []) (Xt := theXt) (XP := XL hd.view_39 []) (Yf := Hook.obs hook) (Ya := Hook.val hook) (YP := Hook.says hook) (N := 1710) left (Hook.of hook) (Hook.keeps hook) (fun s e => xl_of s (Bool.and_eq_true_iff.mp e).1) XL.keeps (by rfl) (by rfl) (by rfl) (fun s e => recFacts_of (Bool.and_eq_true_iff.mp e).2) (by rfl) (by first | assumption | decide +kernel) (by decide +kernel) ⟨rfl, rfl, rfl, rfl, rfl, by decide +kernel⟩ ?hw ?triv ?hc
  case hw => w_witness2
  case triv =>
    intro cl mean args s₁ hg hpre
    exact GoodW.toG ⟨.inl ⟨_, .bool true, [], rfl, fun _ => rfl, .bool true, postW_of (r := PySem.Challenge.rw_wf0012_01.row.toRowW) (by wrow_shape) (by wtm_val) (by w_fin), unshared_nil⟩, fun _ _ e => e, rfl, hg⟩
  case hc =>
    k_fill
    intro w s₀ s₁ mg mb G Y fa o pm cd doc dV kV ho hdd hcd hD hmg hg args vals as hpre hlay hrd hwl hlo
    have KX := kIn_of Y
    have T := G.T
    have ea : fa = 110 := by
      have e := mg_of KX T.g (law_at w.params).1
      have e2 := e.symm.trans hmg
      injection e2 with e2
      injection e2 with e2
      exact e2.symm
    subst ea
    wrow_args hpre hlay hrd hwl hlo
    rename IntsAre _ _ => hI
    rename Heap.IsList _ _ _ => hL
    rename ¬ _ < _ => hn
    refine wpK_call (codeK_mono (lawC T KX hL hI (by omega)) fun r s' h => ?_)
    obtain ⟨rfl, h', tk', L, m', rfl, F⟩ := h
    exact GoodW.toG (goodW_bool F hg (fun _ => rfl) (postW_of (r := PySem.Challenge.rw_wf0012_01.row.toRowW) (by wrow_shape) (by wtm_val) (by w_fin)) rfl)
end Mine
end

open PySem PySem.W PyProof.Rows
set_option maxRecDepth 100000 in
set_option maxHeartbeats 8000000 in
theorem PySem.Challenge.cw_wf0012_01_holds : PySem.Challenge.rw_wf0012_01.Holds := by
  exact Mine.top Mine.law_call
