import PyProof.Rows.All
import Wide.All
import OpenK.AllK
import Wide.FinOn
import Lean
import PySem.Challenge.RW_dk5006_01
open PySem PySem.W PyProof.Rows PySem.Calls
set_option Elab.async false
set_option maxRecDepth 100000
set_option maxHeartbeats 8000000
set_option linter.all false
namespace Mine
section

/-- a decoder, which may hold a bytearray while it runs -/
def isDec : Code → Bool
  | .builtin id _ => Builtin.Bytes.decodersThatHold.contains id
  | _ => false
def Clean (Γ : Ctx) : Prop := isDec Γ.code = false ∧ ∀ x ∈ Γ.below, isDec x.1 = false

/-- as wpAny, where no decoder runs around -/
def wpR {α : Type} (M : Model) (A : Around) (t : Sem α) (Q : α → Shared → Prop) (E : Value → Shared → Prop) (s : Shared) : Prop :=
  ∀ Γ p, Γ.In A → Clean Γ → Sem.wp M Γ t (fun a _ s' => Q a s') (fun e _ s' => E e s') p s
def codeR (M : Model) (A : Around) (c : Code) (R : Result → Shared → Prop) (s : Shared) : Prop :=
  ∀ Γ p, Γ.code = c → Γ.Below A → (∀ x ∈ Γ.below, isDec x.1 = false) → wpCode M Γ R p s

section
variable {α β : Type} {M : Model} {A : Around} {E : Value → Shared → Prop} {s : Shared}
theorem of {t : Sem α} {Q : α → Shared → Prop} (h : wpAny M A t Q E s) : wpR M A t Q E s := fun Γ p hΓ _ => h Γ p hΓ
theorem codeR.of {c : Code} {R : Result → Shared → Prop} (h : codeAny M A c R s) : codeR M A c R s := fun Γ p hc hΓ _ => h Γ p hc hΓ
theorem wpR_pure {a : α} {Q : α → Shared → Prop} (h : Q a s) : wpR M A (pure a) Q E s := of (wpAny_pure h)
theorem wpR_mono {t : Sem α} {Q Q' : α → Shared → Prop} {E' : Value → Shared → Prop} (h : wpR M A t Q E s) (hQ : ∀ a s, Q a s → Q' a s) (hE : ∀ e s, E e s → E' e s) : wpR M A t Q' E' s :=
  fun Γ p hΓ hc => Sem.wp_mono M Γ t (fun a _ s => hQ a s) (fun e _ s => hE e s) p s (h Γ p hΓ hc)
theorem wpR_bind {m : Sem α} {f : α → Sem β} {Q : β → Shared → Prop} (h : wpR M A m (fun a s' => wpR M A (f a) Q E s') E s) : wpR M A (m >>= f) Q E s := fun Γ p hΓ hc => by
  rw [Sem.wp_bind']
  exact Sem.wp_mono M Γ m (fun a p' s' h' => h' Γ p' hΓ hc) (fun _ _ _ h' => h') p s (h Γ p hΓ hc)
/-- the first step is a leaf -/
theorem wpR_leaf {m : Sem α} {f : α → Sem β} {Q : β → Shared → Prop} (h : wpAny M A m (fun a s' => wpR M A (f a) Q E s') E s) : wpR M A (m >>= f) Q E s := wpR_bind (of h)
theorem wpR_tryCatch {m : Sem α} {k : Value → Sem α} {Q : α → Shared → Prop} (h : wpR M A m Q (fun e s' => wpR M A (k e) Q E s') s) : wpR M A (tryCatch m k) Q E s := fun Γ p hΓ hc => by
  rw [Sem.wp_tryCatch']
  exact Sem.wp_mono M Γ m (fun _ _ _ h' => h') (fun e p' s' h' => h' Γ p' hΓ hc) p s (h Γ p hΓ hc)
theorem wpR_onRaise {m : Sem α} {k : Value → Sem Unit} {Q : α → Shared → Prop} (h : wpR M A m Q (fun e s' => wpR M A (k e) (fun _ s'' => E e s'') E s') s) : wpR M A (m.onRaise k) Q E s := fun Γ p hΓ hc => by
  rw [Sem.wp_onRaise]
  exact Sem.wp_mono M Γ m (fun _ _ _ h' => h') (fun e p' s' h' => h' Γ p' hΓ hc) p s (h Γ p hΓ hc)
theorem wpR_attempt {m : Sem α} {Q : Except Value α → Shared → Prop} (h : wpR M A m (fun a => Q (.ok a)) (fun e => Q (.error e)) s) : wpR M A m.attempt Q E s := fun Γ p hΓ hc => by
  rw [Sem.wp_attempt]; exact h Γ p hΓ hc
theorem wpR_holding {vs : List Value} {m : Sem α} {Q : α → Shared → Prop} (h : wpR M A m Q E s) : wpR M A (holding vs m) Q E s := fun Γ p hΓ hc => by
  rw [Sem.wp_holding]; exact h Γ p hΓ hc
theorem wpR_operating {vs : List Value} {m : Sem Value} {Q : Value → Shared → Prop} (h : wpR M A m Q E s) : wpR M A (operate vs m) Q E s := fun Γ p hΓ hc => by
  rw [Sem.wp_operate]; exact h Γ p hΓ hc
theorem wpR_keep {vs : List Value} {m : Sem α} {Q : α → Shared → Prop} (h : wpR M A m Q E s) : wpR M A (m.keep vs) Q E s := fun Γ p hΓ hc => by
  rw [Sem.wp_keep]; exact h Γ p hΓ hc
theorem wpR_of_eq {t : Sem α} {a : α} {Q : α → Shared → Prop} (e : t = pure a) (h : Q a s) : wpR M A t Q E s := e ▸ wpR_pure h
theorem wpR_ite {c : Prop} [Decidable c] {a b : Sem α} {Q : α → Shared → Prop} (h : if c then wpR M A a Q E s else wpR M A b Q E s) : wpR M A (if c then a else b) Q E s := by split <;> simp_all
/-- behind a place -/
theorem wpR_at {pos : Pos} {f : Unit → Sem β} {Q : β → Shared → Prop} (h : wpR M A (f ()) Q E s) : wpR M A (standAt pos >>= f) Q E s := wpR_leaf (wpAny_standAt h)
theorem wpR_run {c : Code} {h : Option Value} {Q : Flow → Shared → Prop} (hc : codeR M (A.mark h) c (fun r s' => match r with | .ok f => Q f s' | .error e => E e s') s) (hnb : h ≠ some byPass := by intro x; cases x) :
    wpR M A (run c h) Q E s := fun Γ p hΓ hcl => by
  rw [Sem.wp_run]
  refine hc _ p rfl (hΓ.enter c h p hnb) fun x hx => ?_
  rcases List.mem_cons.mp hx with rfl | hx
  · exact hcl.1
  · exact hcl.2 x hx
theorem wpR_runValue {c : Code} {Q : Value → Shared → Prop} (hc : codeR M A c (fun r s' => match r with | .ok (.ret v) => Q v s' | .ok _ => False | .error e => E e s') s) : wpR M A (runValue c) Q E s := fun Γ p hΓ hcl => by
  rw [Sem.wp_runValue]
  refine hc _ p rfl (hΓ.enter c none p (by intro x; cases x)) fun x hx => ?_
  rcases List.mem_cons.mp hx with rfl | hx
  · exact hcl.1
  · exact hcl.2 x hx
theorem wpR_call {f : Value} {pos : List Value} {kw : List (Str × Value)} {Q : Value → Shared → Prop} (hc : codeR M A (.call f ⟨pos, kw⟩) (fun r s' => match r with | .ok (.ret v) => Q v s' | .ok _ => False | .error e => E e s') s) :
    wpR M A (call f pos kw) Q E s := wpR_runValue hc
theorem codeR_mono {c : Code} {R R' : Result → Shared → Prop} (h : codeR M A c R s) (hR : ∀ r s, R r s → R' r s) : codeR M A c R' s := fun Γ p hc hΓ hb => wpCode_mono hR (h Γ p hc hΓ hb)
theorem codeR_of_tree {c : Code} {R : Result → Shared → Prop} (hd : isDec c = false)
    (h : wpR M (A.under c) (M.den c) (fun fin s' => match fin with | .done f => R (.ok f) s' | .again c' => c'.quiet = true ∧ codeR M A c' R s') (fun e s' => R (.error e) s') s) : codeR M A c R s := fun Γ p hc hΓ hb => by
  rw [wpCode_iff_wp, hc]
  refine Sem.wp_mono M Γ _ (fun fin p' s' h' => ?_) (fun _ _ _ h' => h') p s (h Γ p (hc ▸ hΓ.in) ⟨hc ▸ hd, hb⟩)
  cases fin with
  | done f => exact h'
  | again c' => exact ⟨h'.1, h'.2 (Γ.goto c') p' rfl (hΓ.goto c') hb⟩
theorem codeR_loop {c : Code} {R : Result → Shared → Prop} (hq : c.quiet = true) (hd : isDec c = false) (I : Nat → Shared → Prop)
    (turn : ∀ n s, I n s → wpR M (A.under c) (M.den c) (fun fin s' => match fin with | .done f => R (.ok f) s' | .again c' => (c' = c ∧ ∃ m, m < n ∧ I m s') ∨ (c'.quiet = true ∧ codeR M A c' R s')) (fun e s' => R (.error e) s') s)
    (n : Nat) (h : I n s) : codeR M A c R s := by
  induction n using Nat.strongRecOn generalizing s with
  | ind n ih =>
    refine codeR_of_tree hd (wpR_mono (turn n s h) (fun fin s' hf => ?_) fun _ _ h' => h')
    cases fin with
    | done f => exact hf
    | again c' =>
      rcases hf with ⟨rfl, m, hm, hI⟩ | hf
      · exact ⟨hq, ih m hm hI⟩
      · exact hf
end

section
variable {α : Type} {M : Model} {A : Around} {E : Value → Shared → Prop} {s : Shared} {env : Env}
-- expressions
theorem wpR_BinOp {l op r pos} {Q : Value → Shared → Prop} (h : wpR M A (eval l env) (fun a s₁ => wpR M A (eval r env) (fun b s₂ => wpR M A (binaryOp op a b) Q E s₂) E s₁) E s) : wpR M A (eval (.BinOp l op r pos) env) Q E s := by
  rw [eval_BinOp]
  exact wpR_bind (wpR_mono h (fun a s₁ h₁ => wpR_bind (wpR_holding (wpR_mono h₁ (fun b s₂ h₂ => wpR_at (wpR_operating h₂)) fun _ _ x => x))) fun _ _ x => x)
theorem wpR_UnaryOp {op : UnaryOp} {x : Expr} {pos : Pos} {Q : Value → Shared → Prop} (h : wpR M A (eval x env) (fun v s₁ => wpR M A (unaryOp op v) Q E s₁) E s) : wpR M A (eval (.UnaryOp op x pos) env) Q E s := by
  rw [arm_eval_UnaryOp]
  exact wpR_bind (wpR_mono h (fun v s₁ h₁ => wpR_at (wpR_holding h₁)) fun _ _ x => x)
theorem wpR_Compare1 {l op r pos} {Q : Value → Shared → Prop} (h : wpR M A (eval l env) (fun a s₁ => wpR M A (eval r env) (fun b s₂ => wpR M A (compareOp op a b) Q E s₂) E s₁) E s)
    (hm : behindInMarks op r = false := by with_unfolding_all rfl) : wpR M A (eval (.Compare l [op] [r] pos) env) Q E s := by
  rw [eval_Compare1, markedBehindIn_of_false hm]
  exact wpR_bind (wpR_mono h (fun a s₁ h₁ => wpR_bind (wpR_holding (wpR_mono h₁ (fun b s₂ h₂ => wpR_at (wpR_operating h₂)) fun _ _ x => x))) fun _ _ x => x)
theorem wpR_isTrue_Compare1 {l op r pos whole} {Q : Bool → Shared → Prop} (h : wpR M A (eval l env) (fun a s₁ => wpR M A (eval r env) (fun b s₂ => wpR M A (compareOp op a b) (fun c s₃ => wpR M A (truthy c) Q E s₃) E s₂) E s₁) E s)
    (hm : behindInMarks op r = false := by with_unfolding_all rfl) : wpR M A (isTrue (.Compare l [op] [r] pos) env whole) Q E s := by
  rw [isTrue_Compare1, markedBehindIn_of_false hm]
  exact wpR_bind (wpR_mono h (fun a s₁ h₁ => wpR_bind (wpR_holding (wpR_mono h₁ (fun b s₂ h₂ => wpR_at (wpR_bind (wpR_operating (wpR_mono h₂ (fun c s₃ h₃ => wpR_holding h₃) fun _ _ x => x)))) fun _ _ x => x))) fun _ _ x => x)
theorem wpR_IfExp {test body orelse : Expr} {pos : Pos} {Q : Value → Shared → Prop} (h : wpR M A (isTrue test env (eval test env)) (fun b s₁ => if b then wpR M A (eval body env) Q E s₁ else wpR M A (eval orelse env) Q E s₁) E s) :
    wpR M A (eval (.IfExp test body orelse pos) env) Q E s := by
  rw [arm_eval_IfExp]
  refine wpR_bind (wpR_mono h (fun b s₁ h₁ => ?_) fun _ _ x => x)
  cases b <;> exact h₁
theorem wpR_Or2 {x y : Expr} {pos : Pos} {Q : Value → Shared → Prop} (h : wpR M A (eval x env) (fun v s₁ => wpR M A (truthy v) (fun t s₂ => if t then Q v s₂ else wpR M A (eval y env) Q E s₂) E s₁) E s) : wpR M A (eval (.BoolOp .Or [x, y] pos) env) Q E s := by
  show wpR M A (eval x env >>= _) Q E s
  refine wpR_bind (wpR_mono h (fun v s₁ h₁ => wpR_at (wpR_bind (wpR_holding (wpR_mono h₁ (fun t s₂ h₂ => ?_) fun _ _ x => x)))) fun _ _ x => x)
  cases t with
  | false => exact h₂
  | true => exact wpR_pure h₂
theorem wpR_And2 {x y : Expr} {pos : Pos} {Q : Value → Shared → Prop} (h : wpR M A (eval x env) (fun v s₁ => wpR M A (truthy v) (fun t s₂ => if t then wpR M A (eval y env) Q E s₂ else Q v s₂) E s₁) E s) : wpR M A (eval (.BoolOp .And [x, y] pos) env) Q E s := by
  show wpR M A (eval x env >>= _) Q E s
  refine wpR_bind (wpR_mono h (fun v s₁ h₁ => wpR_at (wpR_bind (wpR_holding (wpR_mono h₁ (fun t s₂ h₂ => ?_) fun _ _ x => x)))) fun _ _ x => x)
  cases t with
  | false => exact wpR_pure h₂
  | true => exact h₂
-- one behind the other
theorem splicedR_none {pos : Pos} {Q : List Value → Shared → Prop} (h : Q [] s) : wpR M A (spliced (backTo pos (starEach [] env))) Q E s := of (spliced_none h)
theorem splicedR_cons {x : Sem Value} {rest : List (Bool × Sem Value)} {Q : List Value → Shared → Prop} (h : wpR M A x (fun v s₁ => wpR M A (spliced rest) (fun vs s₂ => Q (v :: vs) s₂) E s₁) E s) : wpR M A (spliced ((false, x) :: rest)) Q E s := by
  rw [spliced]
  refine wpR_bind (wpR_mono h (fun v s₁ h₁ => ?_) fun _ _ x => x)
  simp only [Bool.false_eq_true, if_false]
  exact wpR_bind (wpR_pure (wpR_bind (wpR_holding (wpR_mono h₁ (fun vs s₂ h₂ => wpR_pure h₂) fun _ _ x => x))))
theorem splicedR_more {e : Expr} {rest : List Expr} {pos : Pos} {Q : List Value → Shared → Prop} (h : wpR M A (eval e env) (fun v s₁ => wpR M A (spliced (backTo pos (starEach rest env))) (fun vs s₂ => Q (v :: vs) s₂) E s₁) E s)
    (he : starEach (e :: rest) env = (false, eval e env) :: starEach rest env := by rfl) : wpR M A (spliced (backTo pos (starEach (e :: rest) env))) Q E s := by
  rw [he]; exact splicedR_cons h
theorem wpR_List {elts : List Expr} {pos : Pos} {Q : Value → Shared → Prop} (h : wpR M A (spliced (backTo pos (starEach elts env)))
      (fun vs s₁ => vs.length ≤ sizeLine ∧ Q (.ref s₁.heap.objs.size) { s₁ with heap := s₁.heap.push { cls := .type "list", data := .seq vs.toArray } }) E s) : wpR M A (eval (.List elts pos) env) Q E s := by
  rw [arm_eval_List]
  exact wpR_at (wpR_bind (wpR_mono h (fun vs s₁ h₁ => of (wpAny_newObj_type h₁.2 (by show vs.toArray.size ≤ sizeLine; rw [List.size_toArray]; exact h₁.1))) fun _ _ x => x))
theorem wpR_Tuple {elts : List Expr} {k : Nat} {pos : Pos} {Q : Value → Shared → Prop} (h : wpR M A (spliced (backTo pos (starEach elts env)))
      (fun vs s₁ => vs.length ≤ sizeLine ∧ Q (.ref s₁.heap.objs.size) { s₁ with heap := s₁.heap.push { cls := .type "tuple", data := .seq vs.toArray } }) E s) : wpR M A (eval (.Tuple elts k pos) env) Q E s := by
  rw [arm_eval_Tuple]
  exact wpR_at (wpR_bind (wpR_mono h (fun vs s₁ h₁ => of (wpAny_newObj_type h₁.2 (by show vs.toArray.size ≤ sizeLine; rw [List.size_toArray]; exact h₁.1))) fun _ _ x => x))
-- tests
theorem isTrueR_not {x pos whole} {Q : Bool → Shared → Prop} (h : wpR M A (isTrue x env (eval x env)) (fun c s' => Q (!c) s') E s) : wpR M A (isTrue (.UnaryOp .Not x pos) env whole) Q E s := by
  rw [arm_isTrue_UnaryOp]
  exact wpR_bind (wpR_mono h (fun c s' h' => wpR_pure h') fun _ _ x => x)
theorem isTrueR_and_nil {pos whole} {Q : Bool → Shared → Prop} (h : Q true s) : wpR M A (isTrue (.BoolOp .And [] pos) env whole) Q E s := wpR_pure (a := true) h
theorem isTrueR_or_nil {pos whole} {Q : Bool → Shared → Prop} (h : Q false s) : wpR M A (isTrue (.BoolOp .Or [] pos) env whole) Q E s := wpR_pure (a := false) h
theorem isTrueR_and {x rest pos whole} {Q : Bool → Shared → Prop} (h : wpR M A (isTrue x env (eval x env)) (fun c s' => if c then wpR M A (isTrue (.BoolOp .And rest pos) env whole) Q E s' else Q false s') E s) :
    wpR M A (isTrue (.BoolOp .And (x :: rest) pos) env whole) Q E s := by
  show wpR M A (isTrue x env (eval x env) >>= _) Q E s
  refine wpR_bind (wpR_mono h (fun c s' h' => ?_) fun _ _ x => x)
  cases c with
  | false => exact wpR_pure h'
  | true => exact h'
theorem isTrueR_or {x rest pos whole} {Q : Bool → Shared → Prop} (h : wpR M A (isTrue x env (eval x env)) (fun c s' => if c then Q true s' else wpR M A (isTrue (.BoolOp .Or rest pos) env whole) Q E s') E s) :
    wpR M A (isTrue (.BoolOp .Or (x :: rest) pos) env whole) Q E s := by
  show wpR M A (isTrue x env (eval x env) >>= _) Q E s
  refine wpR_bind (wpR_mono h (fun c s' h' => ?_) fun _ _ x => x)
  cases c with
  | false => exact h'
  | true => exact wpR_pure h'
theorem isTrueR_plain {e : Expr} {whole : Sem Value} {Q : Bool → Shared → Prop} (h : wpR M A whole (fun v s₁ => wpR M A (truthy v) Q E s₁) E s)
    (he : isTrue e env whole = (do let v ← whole; standAt e.pos; holding [v] (truthy v)) := by rfl) : wpR M A (isTrue e env whole) Q E s := by
  rw [he]
  exact wpR_bind (wpR_mono h (fun v s₁ h₁ => wpR_at (wpR_holding h₁)) fun _ _ x => x)
theorem isTrueR_chain {l op₁ op₂ ops r₁ r₂ rs pos whole} {Q : Bool → Shared → Prop} (h : wpR M A (eval l env) (fun a s₁ => wpR M A (testChain pos a (op₁ :: op₂ :: ops) (eval r₁ env :: eval r₂ env :: evalEach rs env)) Q E s₁) E s)
    (hm : lastMarks (op₁ :: op₂ :: ops) (r₁ :: r₂ :: rs) = false := by with_unfolding_all rfl) : wpR M A (isTrue (.Compare l (op₁ :: op₂ :: ops) (r₁ :: r₂ :: rs) pos) env whole) Q E s := by
  show wpR M A (do testChain pos (← eval l env) (op₁ :: op₂ :: ops) (markedEach (op₁ :: op₂ :: ops) (r₁ :: r₂ :: rs) (evalEach (r₁ :: r₂ :: rs) env))) Q E s
  rw [markedEach_of_false _ _ _ hm]
  exact wpR_bind h
theorem testR_link {pos : Pos} {a : Value} {op op' : CmpOp} {ops : List CmpOp} {r r' : Sem Value} {rs : List (Sem Value)} {Q : Bool → Shared → Prop}
    (h : wpR M A r (fun b s₁ => wpR M A (compareOp op a b) (fun c s₂ => wpR M A (truthy c) (fun t s₃ => if t then wpR M A (testChain pos b (op' :: ops) (r' :: rs)) Q E s₃ else Q false s₃) E s₂) E s₁) E s) :
    wpR M A (testChain pos a (op :: op' :: ops) (r :: r' :: rs)) Q E s := by
  show wpR M A (holding [a] r >>= _) Q E s
  refine wpR_bind (wpR_holding (wpR_mono h (fun b s₁ h₁ => wpR_at (wpR_bind (wpR_holding (wpR_mono h₁ (fun c s₂ h₂ =>
    wpR_leaf (wpAny_release' (wpR_bind (wpR_holding (wpR_mono h₂ (fun t s₃ h₃ => ?_) fun _ _ x => x))))) fun _ _ x => x)))) fun _ _ x => x))
  cases t with
  | false => exact wpR_pure h₃
  | true => exact h₃
theorem testR_last {pos : Pos} {a : Value} {op : CmpOp} {r : Sem Value} {Q : Bool → Shared → Prop} (h : wpR M A r (fun b s₁ => wpR M A (compareOp op a b) (fun c s₂ => wpR M A (truthy c) Q E s₂) E s₁) E s) : wpR M A (testChain pos a [op] [r]) Q E s := by
  show wpR M A (holding [a] r >>= _) Q E s
  exact wpR_bind (wpR_holding (wpR_mono h (fun b s₁ h₁ => wpR_at (wpR_bind (wpR_operating (wpR_mono h₁ (fun c s₂ h₂ => wpR_holding h₂) fun _ _ x => x)))) fun _ _ x => x))
-- statements
theorem wpR_execs_cons {st rest} {Q : Flow → Shared → Prop} (h : wpR M A (exec st env) (fun f s' => match f with | .next => wpR M A (execs rest env) Q E s' | f => Q f s') E s) : wpR M A (execs (st :: rest) env) Q E s := by
  rw [execs_cons]
  refine wpR_bind (wpR_mono h (fun f s' h' => ?_) fun _ _ x => x)
  cases f <;> first | exact h' | exact wpR_pure h'
theorem wpR_execs_nil {Q : Flow → Shared → Prop} (h : Q .next s) : wpR M A (execs [] env) Q E s := of (wpAny_execs_nil h)
theorem wpR_If {test body orelse pos} {Q : Flow → Shared → Prop} (h : wpR M A (isTrue test env (eval test env)) (fun b s₂ => if b then wpR M A (execs body env) Q E s₂ else wpR M A (execs orelse env) Q E s₂) E s) :
    wpR M A (exec (.If test body orelse pos) env) Q E s := by
  rw [arm_exec_If]
  refine wpR_at (wpR_bind (wpR_mono h (fun b s₂ h₂ => ?_) fun _ _ x => x))
  cases b <;> exact h₂
theorem wpR_Return_some {e pos} {Q : Flow → Shared → Prop} (h : wpR M A (eval e env) (fun v => Q (.ret v)) E s) : wpR M A (exec (.Return (some e) pos) env) Q E s := by
  rw [exec_Return_some]
  exact wpR_at (wpR_bind (wpR_mono h (fun v s₁ h₁ => wpR_pure h₁) fun _ _ x => x))
theorem wpR_Assign_Name {x pos' value pos} {Q : Flow → Shared → Prop} (h : wpR M A (eval value env) (fun v s₁ => wpR M A (storeName env x v) (fun _ => Q .next) E s₁) E s)
    (hs : swapsWith value (some (.Name x pos')) pos.line env = pure false := by rfl) : wpR M A (exec (.Assign [.Name x pos'] value pos) env) Q E s := fun Γ p hΓ hc => by
  simp only [exec_Assign_Name env x pos' value pos hs, Sem.wp_bind', Sem.wp_cmd_standAt, Sem.wp_bindName, Sem.wp_pure']
  exact Sem.wp_mono M Γ _ (fun v _ s₁ h₁ => h₁ Γ _ hΓ hc) (fun _ _ _ h' => h') _ _ (h Γ _ hΓ hc)
theorem wpR_AugAssign_Name {x pos' op value pos} {Q : Flow → Shared → Prop}
    (h : wpR M A (loadName env x) (fun old s₁ => wpR M A (eval value env) (fun v s₂ => wpR M A (inplaceOp op old v) (fun r s₃ => wpR M A (storeName env x r) (fun _ => Q .next) E s₃) E s₂) E s₁) E s) :
    wpR M A (exec (.AugAssign (.Name x pos') op value pos) env) Q E s := fun Γ p hΓ hc => by
  simp only [exec_AugAssign_Name, Sem.wp_bind', Sem.wp_holding, Sem.wp_cmd_standAt, Sem.wp_operate, Sem.wp_bindName, Sem.wp_pure']
  exact Sem.wp_mono M Γ _ (fun old p₁ s₁ h₁ => Sem.wp_mono M Γ _ (fun v _ s₂ h₂ => Sem.wp_mono M Γ _ (fun r _ s₃ h₃ => h₃ Γ _ hΓ hc)
    (fun _ _ _ h' => h') _ _ (h₂ Γ _ hΓ hc)) (fun _ _ _ h' => h') _ _ (h₁ Γ p₁ hΓ hc)) (fun _ _ _ h' => h') _ _ (h Γ _ hΓ hc)
theorem wpR_Assign_Attribute {o attr pos' value pos} {Q : Flow → Shared → Prop} (h : wpR M A (eval value env) (fun v s₁ => wpR M A (eval o env) (fun ov s₂ => wpR M A (setAttr ov attr v) (fun _ => Q .next) E s₂) E s₁) E s)
    (hs : swapsWith value (some (.Attribute o attr pos')) pos.line env = pure false := by rfl) : wpR M A (exec (.Assign [.Attribute o attr pos'] value pos) env) Q E s := by
  rw [plainObj_exec_Assign_Attribute o attr pos' value pos hs]
  simp only [PySem.assign_Attribute]
  exact wpR_at (wpR_bind (wpR_mono h (fun v s₁ h₁ => wpR_bind (wpR_bind (wpR_holding (wpR_mono h₁ (fun ov s₂ h₂ => wpR_at (wpR_bind (wpR_holding (wpR_mono h₂ (fun _ s₃ h₃ => of (wpAny_release' (of (wpAny_pure h₃)))) fun _ _ x => x)))) fun _ _ x => x)))) fun _ _ x => x))
theorem wpR_AugAssign_Attribute {o value : Expr} {attr : Str} {tpos pos : Pos} {op : Operator} {Q : Flow → Shared → Prop}
    (h : wpR M A (eval o env) (fun ov s₁ => wpR M A (getAttr ov attr true) (fun old s₂ => wpR M A (eval value env) (fun v s₃ => wpR M A (inplaceOp op old v) (fun new s₄ => wpR M A (setAttr ov attr new) (fun _ => Q .next) E s₄) E s₃) E s₂) E s₁) E s) :
    wpR M A (exec (.AugAssign (.Attribute o attr tpos) op value pos) env) Q E s := by
  rw [arm_exec_AugAssign_2]
  refine wpR_at (wpR_bind (wpR_mono h (fun ov s₁ h₁ => ?_) fun _ _ x => x))
  refine wpR_bind (wpR_holding (wpR_at (wpR_bind (wpR_mono h₁ (fun old s₂ h₂ => ?_) fun _ _ x => x))))
  refine wpR_bind (wpR_holding (wpR_mono h₂ (fun v s₃ h₃ => ?_) fun _ _ x => x))
  refine wpR_at (wpR_operating (wpR_mono h₃ (fun new s₄ h₄ => ?_) fun _ _ x => x))
  exact wpR_at (wpR_bind (wpR_holding (wpR_mono h₄ (fun _ s₅ h₅ => wpR_leaf (wpAny_release' (wpR_pure h₅))) fun _ _ x => x)))
theorem wpR_Subscript {value slice pos} {Q : Value → Shared → Prop} (h : wpR M A (eval value env) (fun o s₁ => wpR M A (eval slice env) (fun i s₂ => wpR M A (subscriptTail value slice o i) Q E s₂) E s₁) E s) : wpR M A (eval (.Subscript value slice pos) env) Q E s := by
  rw [eval_Subscript]
  exact wpR_bind (wpR_mono h (fun o s₁ h₁ => wpR_bind (wpR_holding (wpR_mono h₁ (fun i s₂ h₂ => wpR_at h₂) fun _ _ x => x))) fun _ _ x => x)
theorem wpR_Slice {lower upper step : Option Expr} {p : Pos} {Q : Value → Shared → Prop}
    (h : wpR M A (evalPart lower env) (fun l s₁ => wpR M A (evalPart upper env) (fun u s₂ => wpR M A (evalPart step env) (fun st s₃ =>
      Q (.ref s₃.heap.objs.size) { s₃ with heap := s₃.heap.push { cls := .type "slice", data := .fields #[l, u, st] } }) E s₂) E s₁) E s) : wpR M A (eval (.Slice lower upper step p) env) Q E s := by
  rw [arm_eval_Slice]
  refine wpR_bind (wpR_mono h (fun l s₁ h₁ => wpR_bind (wpR_holding (wpR_mono h₁ (fun u s₂ h₂ => wpR_bind (wpR_holding (wpR_mono h₂ (fun st s₃ h₃ => ?_) fun _ _ x => x))) fun _ _ x => x))) fun _ _ x => x)
  exact of (wpAny_newObj_type h₃)
theorem wpR_Assign_Tuple {elts k tpos value pos} {Q : Flow → Shared → Prop} (h : wpR M A (eval value env) (fun v s₁ => wpR M A (assign (.Tuple elts k tpos) env v) (fun _ => Q .next) E s₁) E s)
    (hs : swapsWithSole [.Tuple elts k tpos] value pos.line env = pure false := by rfl) (hw : swappedStores [.Tuple elts k tpos] value env = pure none := by rfl) : wpR M A (exec (.Assign [.Tuple elts k tpos] value pos) env) Q E s := by
  rw [exec_Assign]
  refine wpR_at ?_
  rw [hs]
  refine wpR_bind (wpR_pure ?_)
  rw [if_neg (by decide)]
  refine wpR_bind (wpR_mono h (fun v s₁ h₁ => ?_) fun _ _ x => x)
  rw [hw]
  refine wpR_bind (wpR_pure ?_)
  show wpR M A (do assignAll v [assign (.Tuple elts k tpos) env]; pure .next) Q E s₁
  exact wpR_bind (wpR_mono h₁ (fun _ _ x => wpR_pure x) fun _ _ x => x)
-- arguments
theorem evalAllR_nil {Q : List Value → Shared → Prop} (h : Q [] s) : wpR M A (evalAll []) Q E s := wpR_pure h
theorem evalAllR_cons {x : Sem Value} {rest : List (Sem Value)} {Q : List Value → Shared → Prop} (h : wpR M A x (fun v s₁ => wpR M A (evalAll rest) (fun vs s₂ => Q (v :: vs) s₂) E s₁) E s) : wpR M A (evalAll (x :: rest)) Q E s := by
  rw [evalAll]
  exact wpR_bind (wpR_mono h (fun v s₁ h₁ => wpR_bind (wpR_holding (wpR_mono h₁ (fun vs s₂ h₂ => wpR_pure h₂) fun _ _ x => x))) fun _ _ x => x)
theorem kwAllR_nil {pos : Pos} {Q : List Value → Shared → Prop} (h : Q [] s) : wpR M A (evalAll ((backToKw pos (keywordEach [] env)).map (·.2))) Q E s := evalAllR_nil h
theorem kwAllR_cons {pos p : Pos} {name : Str} {value : Expr} {rest : List Keyword} {Q : List Value → Shared → Prop}
    (h : wpR M A (eval value env) (fun v s₁ => wpR M A (evalAll ((backToKw pos (keywordEach rest env)).map (·.2))) (fun vs s₂ => Q (v :: vs) s₂) E s₁) E s) :
    wpR M A (evalAll ((backToKw pos (keywordEach (⟨some name, value, p⟩ :: rest) env)).map (·.2))) Q E s := by
  show wpR M A (evalAll ((do let v ← eval value env; standAt pos; pure v) :: (backToKw pos (keywordEach rest env)).map (·.2))) Q E s
  exact evalAllR_cons (wpR_bind (wpR_mono h (fun v s₁ h₁ => wpR_at (wpR_pure h₁)) fun _ _ x => x))
theorem evalArgsR_cons {f : Value} {x : Sem Value} {rest : List (Bool × Sem Value)} {keywords : List (Option Str × Sem Value)} {Q : Args → Shared → Prop} (hall : keywords.all (·.1.isSome) = true)
    (h : wpR M A (spliced ((false, x) :: rest)) (fun vs s₁ => wpR M A (evalAll (keywords.map (·.2))) (fun ks s₂ => Q ⟨vs, (keywords.filterMap (·.1)).zip ks⟩ s₂) E s₁) E s) : wpR M A (evalArgs f true ((false, x) :: rest) keywords) Q E s := by
  unfold evalArgs
  show wpR M A (spliced ((false, x) :: rest) >>= _) Q E s
  refine wpR_bind (wpR_mono h (fun vs s₁ h₁ => ?_) fun _ _ x => x)
  refine wpR_holding ?_
  simp only [hall, if_true]
  exact wpR_bind (wpR_mono h₁ (fun ks s₂ h₂ => wpR_bind (wpR_pure (wpR_pure h₂))) fun _ _ x => x)
theorem evalArgsR_nil {f : Value} {keywords : List (Option Str × Sem Value)} {Q : Args → Shared → Prop} (hall : keywords.all (·.1.isSome) = true)
    (h : wpR M A (evalAll (keywords.map (·.2))) (fun ks s₂ => Q ⟨[], (keywords.filterMap (·.1)).zip ks⟩ s₂) E s) : wpR M A (evalArgs f true [] keywords) Q E s := by
  unfold evalArgs
  show wpR M A (spliced [] >>= _) Q E s
  refine wpR_leaf (Calls.spliced_nil ?_)
  refine wpR_bind (wpR_pure ?_)
  refine wpR_holding ?_
  simp only [hall, if_true]
  exact wpR_bind (wpR_mono h (fun ks s₂ h₂ => wpR_bind (wpR_pure (wpR_pure h₂))) fun _ _ x => x)
theorem callWithR {P : Heap → Prop} {f : Value} {first : List Value} {pos : Pos} {args : List (Bool × Sem Value)} {keywords : List (Option Str × Sem Value)} {Q : Value → Shared → Prop} (hplain : (args.any (·.1) || keywords.any (·.1.isNone)) = false)
    (hk : ∀ h, P h → ∃ k, (k = Keeper.frame ∨ k = Keeper.machine ∨ k = Keeper.boundFrame) ∧ Looks M h (keeperOf f) k)
    (h : wpR M A (evalArgs f true args keywords) (fun a s₁ => P s₁.heap ∧ wpR M A (call f (first ++ a.pos) a.kw) Q E s₁) E s) : wpR M A (callWith pos f first args keywords) Q E s := by
  unfold callWith
  refine wpR_bind (wpR_holding (wpR_mono h (fun a s₁ h₁ => wpR_at ?_) fun _ _ x => x))
  obtain ⟨k, hk', L⟩ := hk _ h₁.1
  simp only [hplain]
  refine wpR_leaf (L.here ?_)
  have tail : ∀ {t : Sem Value}, wpR M A t Q E s₁ → wpR M A (t >>= fun r => holding [r] point >>= fun _ => pure r) Q E s₁ :=
    fun ht => wpR_bind (wpR_mono ht (fun r s₂ hr => of (wpAny_bind (wpAny_holding (wpAny_point (wpAny_pure hr))))) fun _ _ x => x)
  have marked (mk : Value) : wpR M A (callMarked mk f (first ++ a.pos) a.kw) Q E s₁ := by unfold callMarked; exact wpR_keep h₁.2
  rcases hk' with rfl | rfl | rfl <;> dsimp only <;> first | exact tail h₁.2 | (split <;> first | exact tail h₁.2 | exact tail (marked _))
-- loops
theorem wpR_noted {m : Sem α} {Q : α → Shared → Prop} (h : wpR M A m Q (notedBy M A env E) s) : wpR M A (m.onRaise fun x => do noteFrame x env; theTreesLotGoes x) Q E s :=
  wpR_onRaise (wpR_mono h (fun _ _ q => q) fun _ _ hx => of (wpAny_bind (wpAny_mono hx (fun _ _ e => wpAny_theTreesLotGoes e) fun _ _ e => e)))
theorem wpR_runOwn {c : Code} {h : Option Value} {Q : Flow → Shared → Prop} (hc : codeR M (A.mark h) c (fun r s' => match r with | .ok f => Q f s' | .error e => cameBackBy M A env E e s') s) (hnb : h ≠ some byPass := by intro x; cases x) : wpR M A (runOwn c env h) Q E s := by
  unfold runOwn
  exact wpR_onRaise (wpR_mono (wpR_run hc hnb) (fun _ _ x => x) fun _ _ x => of x)
theorem wpR_While {test body orelse pos} {Q : Flow → Shared → Prop} (h : codeR M A (.whileLoop test body orelse env) (fun r s' => match r with | .ok f => Q f s' | .error e => cameBackBy M A env E e s') s) : wpR M A (exec (.While test body orelse pos) env) Q E s := by
  rw [arm_exec_While]; exact wpR_at (wpR_runOwn h)
theorem wpR_For {target iter body orelse pos} {Q : Flow → Shared → Prop}
    (h : wpR M A (eval iter env) (fun x s₁ => wpR M A (pyIter x) (fun it s₂ => codeR M A (.forLoop target it body orelse env) (fun r s' => match r with | .ok f => Q f s' | .error e => cameBackBy M A env E e s') s₂) E s₁) E s)
    (hs : ∀ x, foldedSetIterable iter env x = pure x := by intro _; rfl) : wpR M A (exec (.For target iter body orelse pos) env) Q E s := by
  rw [exec_For]
  exact wpR_at (wpR_bind (wpR_mono h (fun x s₁ h₁ => wpR_bind (wpR_of_eq (hs x) (wpR_at (wpR_bind (wpR_holding (wpR_mono h₁ (fun it s₂ h₂ => wpR_runOwn h₂) fun _ _ h' => h')))))) fun _ _ h' => h'))
end

section
variable {prog : Program} {w : World} {A : Around} {E : Value → Shared → Prop} {s : Shared} {env : Env} {R : Result → Shared → Prop}
theorem wpR_Expr_any {e pos} {Q : Flow → Shared → Prop} (h : wpR (model prog w) A (eval e env) (fun _ => Q .next) E s) (hi : interactive env = false := by rfl) (hs : swapsWith e none pos.line env = pure false := by rfl) :
    wpR (model prog w) A (exec (.Expr e pos) env) Q E s := by
  rw [exec_Expr env e pos hi hs]
  exact wpR_at (wpR_bind (wpR_mono h (fun v s' h' => of (wpAny_dropValue h')) fun _ _ x => x))
theorem wpR_Attribute {value : Expr} {attr : Str} {pos : Pos} {Q : Value → Shared → Prop} (h : wpR (model prog w) A (eval value env) (fun o s₁ => wpR (model prog w) A (getAttr o attr true) Q E s₁) E s)
    (he : eval (.Attribute value attr pos) env = (do
      let o ← eval value env
      standAt pos.atName
      let r ← holding [o] (getAttr o attr true)
      letTemporaryGo value o r
      pure r) := by with_unfolding_all rfl) : wpR (model prog w) A (eval (.Attribute value attr pos) env) Q E s := by
  rw [he]
  refine wpR_bind (wpR_mono h (fun o s₁ h₁ => wpR_at (wpR_bind (wpR_holding (wpR_mono h₁ (fun r s₂ h₂ => ?_) fun _ _ x => x)))) fun _ _ x => x)
  exact of (wpAny_bind (wpAny_letTemporaryGo (wpAny_pure h₂)))
theorem codeR_block {stmts : List Stmt} (h : wpR (model prog w) A (execs stmts env) (fun f s' => R (.ok f) s') (notedBy (model prog w) A env fun e s' => R (.error e) s') s) : codeR (model prog w) A (.block stmts env) R s := by
  refine codeR_of_tree rfl ?_
  show wpR _ _ (do return Fin.done (← (execs stmts env).onRaise (fun x => do noteFrame x env; theTreesLotGoes x))) _ _ s
  exact wpR_bind (wpR_noted (wpR_mono h (fun f s' h' => wpR_pure h') fun _ _ h' => h'))
theorem codeR_func {body} (h : wpR (model prog w) (A.deeper env) (execs body env) (fun f s' => R (.ok (.ret (match f with | .ret v => v | _ => .none))) s')
      (fun e s' => wpAny (model prog w) (A.deeper env) (leaving env e) (fun _ s'' => R (.error e) s'') (fun e' s'' => R (.error e') s'') s') s) : codeR (model prog w) A (.func body env) R s := by
  refine codeR_of_tree rfl ?_
  show wpR _ (A.deeper env) (do point; match ← (execs body env).onRaise (leaving env) with | .ret v => ret v | _ => ret .none) _ _ s
  refine wpR_leaf (wpAny_point (wpR_bind (wpR_onRaise (wpR_mono h (fun f s' h' => ?_) fun e s' h' => of h'))))
  cases f <;> exact wpR_pure h'
theorem codeR_whileLoop {test body orelse} (I : Nat → Shared → Prop)
    (turn : ∀ n s, I n s → wpR (model prog w) A (isTrue test env (eval test env)) (fun b s₂ =>
        if b then wpR (model prog w) A (execs body env) (fun f s₃ => match f with
            | .next | .cont => ∃ m, m < n ∧ I m s₃
            | .brk => R (.ok .next) s₃
            | .ret v => R (.ok (.ret v)) s₃) (notedBy (model prog w) A env fun e s' => R (.error e) s') s₂
        else wpR (model prog w) A (execs orelse env) (fun f s₃ => R (.ok f) s₃) (notedBy (model prog w) A env fun e s' => R (.error e) s') s₂)
        (notedBy (model prog w) A env fun e s' => R (.error e) s') s)
    (n : Nat) (h : I n s) : codeR (model prog w) A (.whileLoop test body orelse env) R s := by
  refine codeR_loop rfl rfl I (fun n s hI => ?_) n h
  show wpR _ A ((whileTurn test body orelse env).onRaise (fun x => do noteFrame x env; theTreesLotGoes x)) _ _ s
  refine wpR_noted ?_
  simp only [whileTurn]
  refine wpR_bind (wpR_mono (turn n s hI) (fun b s₂ h₂ => ?_) fun _ _ h' => h')
  cases b with
  | false =>
    simp only [Bool.false_eq_true, if_false] at h₂ ⊢
    exact wpR_bind (wpR_mono h₂ (fun f s₃ h₃ => wpR_pure h₃) fun _ _ h' => h')
  | true =>
    simp only [if_true] at h₂ ⊢
    refine wpR_bind (wpR_mono h₂ (fun f s₃ h₃ => ?_) fun _ _ h' => h')
    cases f with
    | next => exact wpR_pure (.inl ⟨rfl, h₃⟩)
    | cont => exact wpR_pure (.inl ⟨rfl, h₃⟩)
    | brk => exact wpR_pure h₃
    | ret v => exact wpR_pure h₃
theorem codeR_forLoop {target it body orelse} (I : Nat → Shared → Prop)
    (turn : ∀ n s, I n s → wpR (model prog w) A (pyNext it) (fun r s₁ => match r with
      | none => wpR (model prog w) A (execs orelse env) (fun f s₃ => R (.ok f) s₃) (notedBy (model prog w) A env fun e s' => R (.error e) s') s₁
      | some v => wpR (model prog w) A (assign target env v) (fun _ s₂ => wpR (model prog w) A (execs body env) (fun f s₃ => match f with
          | .next | .cont => ∃ m, m < n ∧ I m s₃
          | .brk => R (.ok .next) s₃
          | .ret v => R (.ok (.ret v)) s₃) (notedBy (model prog w) A env fun e s' => R (.error e) s') s₂) (notedBy (model prog w) A env fun e s' => R (.error e) s') s₁) (notedBy (model prog w) A env fun e s' => R (.error e) s') s)
    (n : Nat) (h : I n s) (ht : ∀ v, letOwnedTupleGo target it v = pure () := by intro _; rfl) : codeR (model prog w) A (.forLoop target it body orelse env) R s := by
  refine codeR_loop rfl rfl I (fun n s hI => ?_) n h
  show wpR _ A ((forTurn target it body orelse env).onRaise (fun x => do noteFrame x env; theTreesLotGoes x)) _ _ s
  refine wpR_noted ?_
  simp only [forTurn]
  refine wpR_at (wpR_bind (wpR_onRaise (wpR_mono (turn n s hI) (fun r s₁ h₁ => ?_) fun _ _ h' => of (wpAny_standAt h'))))
  cases r with
  | none => exact wpR_pure (.inr ⟨rfl, codeR_block h₁⟩)
  | some v =>
    refine wpR_bind (wpR_of_eq (ht v) ?_)
    refine wpR_bind (wpR_mono h₁ (fun _ s₂ h₂ => wpR_bind (wpR_mono h₂ (fun f s₃ h₃ => ?_) fun _ _ h' => h')) fun _ _ h' => h')
    cases f with
    | next => exact wpR_pure (.inl ⟨rfl, h₃⟩)
    | cont => exact wpR_pure (.inl ⟨rfl, h₃⟩)
    | brk => exact wpR_pure h₃
    | ret v => exact wpR_pure h₃
end

section
variable {α : Type} {M : Model} {A : Around} {E : Value → Shared → Prop} {s : Shared} {env : Env}
theorem wpR_standIf {c : Prop} [Decidable c] {pos : Pos} {k : PUnit → Sem α} {Q : α → Shared → Prop} (h : wpR M A (k ()) Q E s) : wpR M A (if c then (standAt pos >>= k) else k ()) Q E s := by
  split
  · exact wpR_at h
  · exact h
theorem wpR_comprehension {e : Expr} {scope : Scope} {pos : Pos} {newAcc first : Sem Value} {g : Comprehension} {gs : List Comprehension} {cl : List (Str × Addr)} {use : Option (Value → Sem Unit)} {Q : Value → Shared → Prop}
    (hcl : clausesOf e = g :: gs) (hs : ∀ x, foldedSetIterable g.iter env x = pure x) (hclos : closureFor scope env = pure cl) (hkind : scope.kind = .function) (hnames : ∀ x ∈ scope.names, x.2 = .local → scope.names.lookup x.1 = some .local)
    (h : wpR M A first (fun x s₁ => wpR M A (pyIter x) (fun it s₂ => wpR M A newAcc (fun acc s₃ => wpR M A (newFunctionEnv scope env.globals cl [] env.qual none .none (some env)) (fun cenv s₄ =>
        codeR M A (.compStart e 0 it acc { cenv with scope := relabel scope env }) (compPost M A E use Q acc cenv.locals) s₄) E s₃) E s₂) E s₁) E s) :
    wpR M A (comprehension e scope env pos newAcc false first use) Q E s := by
  unfold comprehension
  rw [hclos, hcl]
  refine wpR_bind (wpR_mono h (fun x s₁ h₁ => wpR_at (wpR_bind (wpR_of_eq (hs x) (wpR_bind (wpR_holding (wpR_mono h₁ (fun it s₂ h₂ =>
    wpR_standIf (wpR_bind (wpR_mono h₂ (fun acc s₃ h₃ => wpR_bind (wpR_pure (wpR_bind (wpR_mono h₃ (fun cenv s₄ h₄ => ?_) fun _ _ h' => h')))) fun _ _ h' => h')))
      fun _ _ h' => h')))))) fun _ _ h' => h')
  dsimp only
  have hv : ∀ x ∈ (scope.names.filter fun x => (x.2 == .local || x.2 == .cell) && x.1 != (".0" : Str)).reverse, x.2 = .local → Env.kindOf { cenv with scope := relabel scope env } x.1 = some .local := fun x hx hl =>
    lookup_relabel_local (hnames x (List.mem_filter.mp (List.mem_reverse.mp hx)).1 hl)
  have hv' : ∀ x ∈ (scope.names.filter fun x => (x.2 == .local || x.2 == .cell) && x.1 != (".0" : Str)).reverse.drop 1 ++ (scope.names.filter fun x => (x.2 == .local || x.2 == .cell) && x.1 != (".0" : Str)).reverse.take 1,
      x.2 = .local → Env.kindOf { cenv with scope := relabel scope env } x.1 = some .local := fun x hx hl => by
    rcases List.mem_append.mp hx with h1 | h1
    · exact hv x (List.mem_of_mem_drop h1) hl
    · exact hv x (List.mem_of_mem_take h1) hl
  refine wpR_holding (wpR_bind (wpR_attempt (wpR_holding (wpR_run (codeR_mono h₄ fun r s' hr => ?_)))))
  cases r with
  | ok f =>
    cases use with
    | none =>
      obtain ⟨m, hn, hr⟩ := hr
      exact of (wpAny_bind (wpAny_holding (wpAny_comp_letGo (cenv := { cenv with scope := relabel scope env }) hkind _ s' m hv hn fun h' m' _ hs' => wpAny_pure (hr h' hs'))))
    | some u =>
      refine of (wpAny_bind (wpAny_rule (wpAny_bind (wpAny_holding (wpAny_mono hr (fun _ s'' hr' => ?_) fun _ _ h' => h')))))
      obtain ⟨m, hn, hr'⟩ := hr'
      exact wpAny_bind (wpAny_comp_letGo (cenv := { cenv with scope := relabel scope env }) hkind _ s'' m hv' hn fun h' m' _ hs' => wpAny_pure (hr' h' hs'))
  | error x =>
    have hr' : ∃ m, s'.heap.Ns cenv.locals m ∧ ∀ h', Heap.SameBut cenv.locals s'.heap h' → ∀ cenv' : Env, cenv'.locals = cenv.locals → wpAny M A (passOn "comprehension.variables-let-go" x cenv' : Sem Value) (fun _ _ => False) E { s' with heap := h' } := by cases use <;> exact hr
    obtain ⟨m, hn, hr⟩ := hr'
    exact of (wpAny_bind (wpAny_holding (wpAny_comp_letGo (cenv := { cenv with scope := relabel scope env }) hkind _ s' m hv hn fun h' m' _ hs' => wpAny_mono (hr h' hs' _ rfl) (fun _ _ f => f.elim) fun _ _ y => y)))
-- try
theorem tryR_except {body orelse : Sem Flow} {h₀ : ExceptHandler} {hs : List ExceptHandler} {Q : Flow → Shared → Prop}
    (h : wpR M A body (fun f s₁ => match f with | .next => wpR M A orelse Q E s₁ | f => Q f s₁)
      (fun e s₁ => wpAny M A (noteFrame e env) (fun _ s₂ => wpAny M A (setFlight e none) (fun _ s₃ => wpR M A (handleBy e env (h₀ :: hs)) Q E s₃) E s₂) E s₁) s) :
    wpR M A (tryStmt false body (h₀ :: hs) orelse [] env) Q E s := by
  unfold tryStmt
  simp only [List.isEmpty_nil, if_true, List.isEmpty_cons, Bool.false_and, Bool.false_eq_true, if_false]
  refine wpR_bind (wpR_attempt (wpR_mono h (fun f s₁ h₁ => ?_) fun e s₁ h₁ => ?_))
  · cases f <;> first | exact h₁ | exact wpR_pure h₁
  · exact wpR_leaf (wpAny_mono h₁ (fun _ _ h₂ => wpR_leaf h₂) fun _ _ x => x)
theorem handleByR_cons {e : Value} {t : Expr} {name : Option Str} {body : List Stmt} {pos : Pos} {rest : List ExceptHandler} {Q : Flow → Shared → Prop}
    (h : codeR M (A.mark (some e)) (.handlers e [.ExceptHandler (some t) none [] pos] env) (fun r s₁ => match r with
      | .ok .brk => codeR M (A.mark (some e)) (.handlers e [.ExceptHandler none name body pos] env) (fun r s₂ => match r with
          | .ok f => (match name with
            | none => Q f s₂
            | some n => wpR M A (do bindName env n .none; unbindBehindTheSuite env n pos) (fun _ s₃ => Q f s₃) E s₂)
          | .error x => cameBackBy M A env E x s₂) s₁
      | .ok _ => wpR M A (handleBy e env rest) Q E s₁
      | .error x => cameBackBy M A env E x s₁) s) (hnb : e ≠ byPass) :
    wpR M A (handleBy e env (.ExceptHandler (some t) name body pos :: rest)) Q E s := by
  rw [handleBy]
  have hnb' : (some e : Option Value) ≠ some byPass := fun x => hnb (Option.some.inj x)
  refine wpR_bind (wpR_holding (wpR_runOwn (codeR_mono h (fun r s₁ h₁ => ?_)) hnb'))
  cases r with
  | error x => exact h₁
  | ok f =>
    cases f with
    | brk =>
      refine wpR_bind (wpR_pure ?_)
      simp only [Bool.not_true, Bool.false_eq_true, if_false]
      refine wpR_bind (wpR_holding (wpR_runOwn (codeR_mono h₁ (fun r s₂ h₂ => ?_)) hnb'))
      cases r with
      | error x => exact h₂
      | ok f =>
        cases name with
        | none => exact wpR_pure h₂
        | some n => exact wpR_bind (wpR_holding (wpR_mono h₂ (fun _ s₃ h₃ => wpR_pure h₃) fun _ _ x => x))
    | _ =>
      refine wpR_bind (wpR_pure ?_)
      simp only [Bool.not_false, if_true]
      exact h₁
end
section
variable {prog : Program} {w : World} {A : Around} {E : Value → Shared → Prop} {s : Shared} {env : Env} {R : Result → Shared → Prop}
theorem codeR_handlers_test {e : Value} {t : Expr} {pos : Pos}
    (h : wpR (model prog w) A (eval t env) (fun c s₁ => wpR (model prog w) A (excMatches e c) (fun b s₂ => R (.ok (if b then .brk else .next)) s₂) (notedBy (model prog w) A env fun x s₂ => R (.error x) s₂) s₁)
      (notedBy (model prog w) A env fun x s₁ => R (.error x) s₁) s) : codeR (model prog w) A (.handlers e [.ExceptHandler (some t) none [] pos] env) R s := by
  refine codeR_of_tree rfl ?_
  show wpR _ A (do return Fin.done (← (handleWith e env [.ExceptHandler (some t) none [] pos]).onRaise (fun x => do noteFrame x env; theTreesLotGoes x))) _ _ s
  refine wpR_bind (wpR_noted ?_)
  unfold handleWith
  exact wpR_at (wpR_bind (wpR_mono h (fun c s₁ h₁ => wpR_at (wpR_bind (wpR_mono h₁ (fun b s₂ h₂ => wpR_pure (wpR_pure h₂)) fun _ _ x => x))) fun _ _ x => x))
theorem codeR_handlers_suite {e : Value} {b₀ : Stmt} {body : List Stmt} {pos : Pos}
    (h : wpAny (model prog w) A (setFlight e none) (fun _ s₁ => wpR (model prog w) A (execs (b₀ :: body) env) (fun f s₂ => R (.ok f) s₂) (notedBy (model prog w) A env fun x s₂ => R (.error x) s₂) s₁) (notedBy (model prog w) A env fun x s₁ => R (.error x) s₁) s) :
    codeR (model prog w) A (.handlers e [.ExceptHandler none none (b₀ :: body) pos] env) R s := by
  refine codeR_of_tree rfl ?_
  show wpR _ A (do return Fin.done (← (handleWith e env [.ExceptHandler none none (b₀ :: body) pos]).onRaise (fun x => do noteFrame x env; theTreesLotGoes x))) _ _ s
  refine wpR_bind (wpR_noted ?_)
  unfold handleWith
  exact wpR_at (wpR_leaf (wpAny_mono h (fun _ s₁ h₁ => wpR_mono h₁ (fun f s₂ h₂ => wpR_pure h₂) fun _ _ x => x) fun _ _ x => x))
theorem wpR_Try_except {body orelse : List Stmt} {h₀ : ExceptHandler} {hs : List ExceptHandler} {pos : Pos} {Q : Flow → Shared → Prop}
    (h : wpR (model prog w) A (execs body env) (fun f s₁ => match f with | .next => wpR (model prog w) A (execs orelse env) Q E s₁ | f => Q f s₁)
      (fun e s₁ => wpAny (model prog w) A (noteFrame e env) (fun _ s₂ => wpAny (model prog w) A (setFlight e none) (fun _ s₃ => wpR (model prog w) A (handleBy e env (h₀ :: hs)) Q E s₃) E s₂) E s₁) s) :
    wpR (model prog w) A (exec (.Try body (h₀ :: hs) orelse [] pos) env) Q E s := by
  rw [arm_exec_Try]
  exact wpR_at (tryR_except h)
theorem codeR_compStart_list {elt target iter ifs rest scope pos it acc}
    (h0 : codeR (model prog w) A (.compLoop (.ListComp elt (⟨target, iter, ifs, 0⟩ :: rest) scope pos) 0 it acc env) R s)
    (h : wpAny (model prog w) A (pyIter it) (fun it' s' => codeR (model prog w) A (.compLoop (.ListComp elt (⟨target, iter, ifs, 0⟩ :: rest) scope pos) 0 it' acc env) R s')
      (notedBy (model prog w) A env fun x s' => R (.error x) s') s) :
    codeR (model prog w) A (.compStart (.ListComp elt (⟨target, iter, ifs, 0⟩ :: rest) scope pos) 0 it acc env) R s := by
  refine codeR_of_tree rfl ?_
  show wpR _ _ ((compStart (.ListComp elt (⟨target, iter, ifs, 0⟩ :: rest) scope pos) 0 it acc env).onRaise (fun x => do noteFrame x env; standAt theWindowsPlace)) _ _ s
  refine wpR_onRaise (wpR_mono (Q := fun fin s' => match fin with | .done f => R (.ok f) s' | .again c' => c'.quiet = true ∧ codeR (model prog w) A c' R s') (E := notedBy (model prog w) A env fun x s' => R (.error x) s') ?_ (fun _ _ q => q)
    fun _ _ hx => of (wpAny_bind (wpAny_mono hx (fun _ _ e => wpAny_standAt e) fun _ _ e => e)))
  unfold compStart
  show wpR _ _ (ask >>= _) _ _ s
  refine wpR_leaf (wpAny_askSetting ?_)
  by_cases hc : (model prog w).w.params.followText "comprehension-iter-twice" = true
  · rw [if_pos hc]
    first | exact wpR_bind (wpR_pure (wpR_pure (And.intro rfl h0))) | exact wpR_pure (And.intro rfl h0)
  · rw [if_neg hc]
    refine wpR_leaf (wpAny_rule ?_)
    exact wpR_at (wpR_leaf (wpAny_mono h (fun it' s' h' => wpR_pure (And.intro rfl h')) fun _ _ x => x))
-- a call of a def
theorem codeR_call_function {a : Addr} {args : Args} {o : Obj} {fd : FuncData} {body : List Stmt} (hroom : A.depth < recursionLimit) (ho : s.heap.get? a = some o) (hd' : o.data = .func fd) (hco : fd.scope.isCoroutine = false)
    (hgen : fd.scope.isGenerator = false) (hbody : fd.body = .stmts body) (hcd : s.heap.CodeRec fd.code fd.qualname)
    (h : wpAny (model prog w) A.in1 (bindArgs fd args) (fun binds s₁ => wpAny (model prog w) A.in1 (newFunctionEnv fd.scope fd.globals fd.closure binds (fd.qualname ++ ".<locals>.") (some a) fd.code none fd.builtins)
        (fun env s₂ => s₂.heap.NoLimit ∧ codeR (model prog w) A (.func body env) R s₂) (fun e s' => R (.error e) s') s₁) (fun e s' => R (.error e) s') s) : codeR (model prog w) A (.call (.ref a) args) R s := by
  refine codeR_of_tree rfl ?_
  show wpR _ A.in1 (callAny (.ref a) args) _ _ s
  simp only [callAny]
  refine wpR_leaf (wpAny_load ho ?_)
  obtain ⟨c, oc, vs, tq, hc, hoc, hdc, hq⟩ := hcd
  simp only [hd', callFunction, hco, hgen, hbody, hc]
  rw [hc] at h
  refine of (wpAny_bind (m := field (.ref c) 1) (wpAny_field hoc hdc hq (wpAny_bind (wpAny_pure ?_))))
  exact wpAny_bind (wpAny_mono h (fun binds s₁ h₁ => wpAny_bind (wpAny_mono h₁ (fun env s₂ h₂ => wpAny_bind (wpAny_enterFrame h₂.1 hroom (wpAny_pure (And.intro rfl h₂.2)))) fun _ _ h' => h')) fun _ _ h' => h')
theorem codeR_call_def {a : Addr} {o : Obj} {fd : FuncData} {body : List Stmt} {args : Args} {binds : List (Str × Value)}
    (hroom : A.depth < recursionLimit) (ho : s.heap.get? a = some o) (hdata : o.data = .func fd) (hlim : s.heap.NoLimit) (hcd : s.heap.CodeRec fd.code fd.qualname)
    (hbody : fd.body = .stmts body) (hbind : BindsTo s fd args binds) (hcell : ∀ x ∈ fd.scope.names, x.2 ≠ .cell) (hloc : ∀ x ∈ binds, fd.scope.names.lookup x.1 = some .local)
    (h : ∀ h₀, h₀.Ns s.heap.objs.size (fun x => binds.reverse.lookup x) → (∀ b o, s.heap.get? b = some o → h₀.get? b = some o) →
      wpR (model prog w) (A.deeper (callEnv fd s.heap.objs.size a)) (execs body (callEnv fd s.heap.objs.size a)) (fun f s' => R (.ok (.ret (match f with | .ret v => v | _ => .none))) s')
        (fun e s' => wpAny (model prog w) (A.deeper (callEnv fd s.heap.objs.size a)) (leaving (callEnv fd s.heap.objs.size a) e) (fun _ s'' => R (.error e) s'') (fun e' s'' => R (.error e') s'') s')
        { s with heap := h₀, toks := s.toks + binds.length })
    (hco : fd.scope.isCoroutine = false := by rfl) (hgen : fd.scope.isGenerator = false := by rfl) (hk : fd.scope.kind = .function := by rfl) : codeR (model prog w) A (.call (.ref a) args) R s := by
  refine codeR_call_function hroom ho hdata hco hgen hbody hcd (hbind _ _ _ _ ?_)
  refine wpAny_newFunctionEnv hcell hloc (fun h₀ hns₀ hsb₀ => ⟨hlim.fresh _ hsb₀, codeR_func (h h₀ hns₀ fun b o e => ?_)⟩) hk
  exact hsb₀.extBut b o (Nat.ne_of_lt (Heap.lt_size e)) (Heap.get?_push_of_some _ e)
theorem codeR_builtin {id : String} {args : Args} {b : Builtin} (hd : isDec (.builtin id args) = false) (hb : entryFor table id = some b)
    (h : wpR (model prog w) (A.under (.builtin id args)) (b args) (fun fin s' => match fin with | .done f => R (.ok f) s' | .again c' => c'.quiet = true ∧ codeR (model prog w) A c' R s') (fun e s' => R (.error e) s') s) :
    codeR (model prog w) A (.builtin id args) R s := by
  refine codeR_of_tree hd ?_
  show wpR _ _ (match entryFor table id with | some b => b args | none => unsupported ((withoutEnding? id "#data").getD id)) _ _ s
  rw [hb]; exact h
theorem codeR_call_builtin_at {id : String} {args : Args} {b : Builtin} (hq : (Code.builtin id args).quiet = true) (hd : isDec (.builtin id args) = false) (hb : entryFor table id = some b)
    (h : wpAny (model prog w) A.in1 (checkBuiltinCall id args) (fun _ s₁ => wpR (model prog w) (A.under (.builtin id args)) (b args)
      (fun fin s' => match fin with | .done f => R (.ok f) s' | .again c' => c'.quiet = true ∧ codeR (model prog w) A c' R s') (fun e s' => R (.error e) s') s₁)
      (fun e s' => R (.error e) s') s) : codeR (model prog w) A (.call (.builtin id) args) R s := by
  refine codeR_of_tree rfl ?_
  show wpR _ A.in1 (do checkBuiltinCall id args; again (.builtin id args)) _ _ s
  exact wpR_leaf (wpAny_mono h (fun _ s₁ h₁ => wpR_pure (And.intro hq (codeR_builtin hd hb h₁))) fun _ _ h' => h')
end
end
section

/-- values without tokens; tuples and frozen lists are trees -/
inductive V where
  | none | bool (b : Bool) | int (i : Int) | str (s : Str) | bytes (b : Array UInt8)
  | ty (n : String) | bi (n : String) | ref (a : Addr)
  | tup (xs : List V) | lst (xs : List V)
  | rng (lo hi : Int)


/-- the part of the heap that stands -/
abbrev FZ := Addr → Option Obj
def Le (z z' : FZ) : Prop := ∀ b o, z b = some o → z' b = some o
theorem Le.refl (z : FZ) : Le z z := fun _ _ e => e
theorem Le.trans {z z' z'' : FZ} (a : Le z z') (b : Le z' z'') : Le z z'' := fun x o e => b x o (a x o e)

mutual
inductive VR (z : FZ) : V → Value → Prop
  | none : VR z .none .none
  | bool (b : Bool) : VR z (.bool b) (.bool b)
  | int (i : Int) (t : Tok) : VR z (.int i) (.int i t)
  | str (x : Str) (t : Tok) : VR z (.str x) (.str x t)
  | bytes (b : Array UInt8) (t : Tok) : VR z (.bytes b) (.bytes b t)
  | ty (n : String) : VR z (.ty n) (.type n)
  | bi (n : String) : VR z (.bi n) (.builtin n)
  | ref (a : Addr) : VR z (.ref a) (.ref a)
  | tup {xs : List V} {vs : List Value} {a : Addr} {o : Obj} {n : Nat} : z a = some o → o.cls = .type "tuple" → o.data = .seq vs.toArray n → VRs z xs vs → VR z (.tup xs) (.ref a)
  | lst {xs : List V} {vs : List Value} {a : Addr} {o : Obj} {n : Nat} : z a = some o → o.cls = .type "list" → o.data = .seq vs.toArray n → VRs z xs vs → VR z (.lst xs) (.ref a)
  | rng {lo hi : Int} {a : Addr} {t u v : Tok} : z a = some { cls := .type "range", dict := none, data := .fields #[.int lo t, .int hi u, .int 1 v], slots := #[] } → VR z (.rng lo hi) (.ref a)
inductive VRs (z : FZ) : List V → List Value → Prop
  | nil : VRs z [] []
  | cons {x : V} {v : Value} {xs : List V} {vs : List Value} : VR z x v → VRs z xs vs → VRs z (x :: xs) (v :: vs)
end

mutual
theorem VR.mono {z z' : FZ} (le : Le z z') : ∀ {x : V} {v : Value}, VR z x v → VR z' x v
  | _, _, .none => .none
  | _, _, .bool b => .bool b
  | _, _, .int i t => .int i t
  | _, _, .str x t => .str x t
  | _, _, .bytes b t => .bytes b t
  | _, _, .ty n => .ty n
  | _, _, .bi n => .bi n
  | _, _, .ref a => .ref a
  | _, _, .tup h c d r => .tup (le _ _ h) c d (r.mono le)
  | _, _, .lst h c d r => .lst (le _ _ h) c d (r.mono le)
  | _, _, .rng h => .rng (le _ _ h)
theorem VRs.mono {z z' : FZ} (le : Le z z') : ∀ {xs : List V} {vs : List Value}, VRs z xs vs → VRs z' xs vs
  | _, _, .nil => .nil
  | _, _, .cons h r => .cons (h.mono le) (r.mono le)
end
theorem VRs.length {z : FZ} : ∀ {xs : List V} {vs : List Value}, VRs z xs vs → vs.length = xs.length
  | _, _, .nil => rfl
  | _, _, .cons _ r => by simp [VRs.length r]
theorem VRs.append {z : FZ} : ∀ {xs ys : List V} {vs ws : List Value}, VRs z xs vs → VRs z ys ws → VRs z (xs ++ ys) (vs ++ ws)
  | _, _, _, _, .nil, k => k
  | _, _, _, _, .cons h r, k => .cons h (VRs.append r k)
theorem VRs.get {z : FZ} : ∀ {xs : List V} {vs : List Value}, VRs z xs vs → ∀ {i : Nat} {x : V}, xs[i]? = some x → ∃ v, vs[i]? = some v ∧ VR z x v
  | _, _, .nil, i, x, e => by simp at e
  | _, _, .cons h r, 0, x, e => by simp at e; subst e; exact ⟨_, rfl, h⟩
  | _, _, .cons h r, i + 1, x, e => by
    simp at e
    obtain ⟨v, a, b⟩ := VRs.get r e
    exact ⟨v, by simpa using a, b⟩
theorem VRs.take {z : FZ} : ∀ {xs : List V} {vs : List Value}, VRs z xs vs → ∀ n, VRs z (xs.take n) (vs.take n)
  | _, _, .nil, n => by simp; exact .nil
  | _, _, .cons h r, 0 => by simp; exact .nil
  | _, _, .cons h r, n + 1 => by simp; exact .cons h (r.take n)
theorem VRs.drop {z : FZ} : ∀ {xs : List V} {vs : List Value}, VRs z xs vs → ∀ n, VRs z (xs.drop n) (vs.drop n)
  | _, _, .nil, n => by simp; exact .nil
  | _, _, .cons h r, 0 => by simp; exact .cons h r
  | _, _, .cons h r, n + 1 => by simp; exact r.drop n

/-- a tracked object -/
inductive AObj where
  | list (xs : List V)
  | ba (b : Array UInt8)
  | dict (es : List (Str × V))
  | dictAt (es : List (Str × V)) (n : Nat)
  | inst (C d : Addr)
  | cell (v : Option V)
  | prop (p : Obj → Prop)

inductive DR (P : Params) (z : FZ) : List (Str × V) → List DictEntry → Prop
  | nil : DR P z [] []
  | cons {x : Str} {t : Tok} {v : V} {val : Value} {es : List (Str × V)} {ds : List DictEntry} : VR z v val → DR P z es ds → DR P z ((x, v) :: es) (⟨PyData.keyHash P x, .str x t, val⟩ :: ds)
theorem DR.mono {P : Params} {z z' : FZ} (le : Le z z') : ∀ {es : List (Str × V)} {ds : List DictEntry}, DR P z es ds → DR P z' es ds
  | _, _, .nil => .nil
  | _, _, .cons h r => .cons (h.mono le) (r.mono le)

inductive OR (P : Params) (z : FZ) : AObj → Obj → Prop
  | list {xs : List V} {vs : List Value} {n : Nat} : VRs z xs vs → OR P z (.list xs) { cls := .type "list", data := .seq vs.toArray n }
  | ba (b : Array UInt8) : OR P z (.ba b) { cls := .type "bytearray", data := .bytearray b 0 }
  | dict {es : List (Str × V)} {ds : List DictEntry} {n : Nat} : DR P z es ds → (es.map (·.1)).Nodup → OR P z (.dict es) (dictOf ds n)
  | dictAt {es : List (Str × V)} {ds : List DictEntry} {n : Nat} : DR P z es ds → (es.map (·.1)).Nodup → OR P z (.dictAt es n) (dictOf ds n)
  | inst (C d : Addr) : OR P z (.inst C d) (instObj C d)
  | cell {v : V} {val : Value} {o : Obj} : VR z v val → o.data = .cell (some val) → OR P z (.cell (some v)) o
  | cell0 {o : Obj} : o.data = .cell none → OR P z (.cell none) o
  | prop {p : Obj → Prop} {o : Obj} : p o → OR P z (.prop p) o
theorem OR.mono {P : Params} {z z' : FZ} (le : Le z z') {a : AObj} {o : Obj} (h : OR P z a o) : OR P z' a o := by
  cases h with
  | list h => exact .list (h.mono le)
  | ba b => exact .ba b
  | dict h k => exact .dict (h.mono le) k
  | dictAt h k => exact .dictAt (h.mono le) k
  | inst C d => exact .inst C d
  | cell h e => exact .cell (h.mono le) e
  | cell0 e => exact .cell0 e
  | prop h => exact .prop h

abbrev Loc := List (Str × Option V)
abbrev Hp := List (Addr × AObj)
abbrev XP := Value → Loc → Hp → Prop

structure Cx where
  p : Program
  w : World
  K : Frag
  h₀ : Heap
  os : OsState
  A : Around
  env : Env
  frl : List Env
  kp : List (Addr × Obj)
  gl : Str → Option V
  rm : Nat

abbrev Cx.L (c : Cx) : Addr := c.env.locals
abbrev Cx.M (c : Cx) : Model := model c.p c.w
abbrev Cx.P (c : Cx) : Params := c.w.params
def Cx.vol (c : Cx) (H : Hp) : List Addr := c.L :: (c.kp.map (·.1) ++ H.map (·.1))

structure Cx.OK (c : Cx) : Prop where
  X : c.K.In c.h₀
  lim : c.h₀.NoLimit
  frames : c.A.frames = some c.frl
  frs : ∀ e ∈ c.frl, e.scope.kind ≠ .module ∧ ∃ a, e.frame = some a ∧ (a = c.L ∨ ∃ o, (a, o) ∈ c.kp ∧ ∀ vs, o.data ≠ .fields vs)
  kind : c.env.scope.kind = .function
  guards : c.A.guards = some []
  depth : c.A.depth + 3 * c.rm + 3 < recursionLimit
  units : c.A.units + 24 * c.rm + 24 < cLine
  env : c.env.globals = mainGlobals ∧ c.env.builtins = builtinsNs
  gl : ∀ x v, c.gl x = some v → ∀ env : Env, env.globals = mainGlobals → env.builtins = builtinsNs → env.scope.kind = .function → env.kindOf x = some .globalImplicit →
    ∃ val, Looks c.M c.h₀ (loadName env x) val ∧ VR c.h₀.get? v val

structure St (c : Cx) (z : FZ) (ρ : Loc) (H : Hp) (s : Shared) : Prop where
  ok : c.OK
  base : ∀ b o, c.h₀.get? b = some o → z b = some o
  fin : ∀ b o, z b = some o → s.heap.get? b = some o
  vol : ∀ a ∈ c.vol H, z a = none
  nodup : (c.vol H).Nodup
  kp : ∀ q ∈ c.kp, ∃ sl, s.heap.get? q.1 = some { q.2 with slots := sl }
  own : ∀ q ∈ H, ∃ ob, s.heap.get? q.1 = some ob ∧ OR c.P z q.2 ob
  loc : ∃ m, s.heap.Ns c.L m ∧ ∀ x v, (x, some v) ∈ ρ → ∃ val, m x = some val ∧ VR z v val
  keys : (ρ.map (·.1)).Nodup
  lk : ∀ q ∈ ρ, c.env.kindOf q.1 = some .local ∧ (q.1 == ("__debug__" : Str)) = false
  gens : s.gens = #[]
  os : s.os = c.os

/-- an exception that goes: its record, and whether it has been noted -/
structure ExcAt (c : Cx) (z : FZ) (H : Hp) (h : Heap) (e : Addr) (cls : Value) (noted : Bool) : Prop where
  out : z e = none ∧ e ∉ c.vol H
  at_ : ∃ oe vs, h.get? e = some oe ∧ oe.cls = cls ∧ oe.data = .fields vs ∧ 6 ≤ vs.size ∧ (cls ≠ .type "StopIteration" → vs[2]? = some .none) ∧
    ((vs[1]? = some .none ∧ noted = false) ∨ ∃ T oT ts, vs[1]? = some (.ref T) ∧ z T = none ∧ T ∉ c.vol H ∧ T ≠ e ∧ h.get? T = some oT ∧ oT.data = .fields ts ∧ 4 ≤ ts.size)

inductive Fl where
  | next | brk | cont | ret (v : V)
inductive FlR (z : FZ) : Fl → Flow → Prop
  | next : FlR z .next .next
  | brk : FlR z .brk .brk
  | cont : FlR z .cont .cont
  | ret {v : V} {val : Value} : VR z v val → FlR z (.ret v) (.ret val)
theorem FlR.mono {z z' : FZ} (le : Le z z') {f : Fl} {g : Flow} (h : FlR z f g) : FlR z' f g := by
  cases h with
  | next => exact .next
  | brk => exact .brk
  | cont => exact .cont
  | ret h => exact .ret (h.mono le)

def PostV (c : Cx) (z : FZ) (ρ : Loc) (Q : V → Hp → Prop) (val : Value) (s : Shared) : Prop :=
  ∃ v z' H', Le z z' ∧ St c z' ρ H' s ∧ VR z' v val ∧ Q v H'
def PostVs (c : Cx) (z : FZ) (ρ : Loc) (Q : List V → Hp → Prop) (vals : List Value) (s : Shared) : Prop :=
  ∃ vs z' H', Le z z' ∧ St c z' ρ H' s ∧ VRs z' vs vals ∧ Q vs H'
def PostB (c : Cx) (z : FZ) (ρ : Loc) (Q : Bool → Hp → Prop) (b : Bool) (s : Shared) : Prop :=
  ∃ z' H', Le z z' ∧ St c z' ρ H' s ∧ Q b H'
def PostU (c : Cx) (z : FZ) (Q : Loc → Hp → Prop) (_ : Unit) (s : Shared) : Prop :=
  ∃ z' ρ' H', Le z z' ∧ St c z' ρ' H' s ∧ Q ρ' H'
def PostS (c : Cx) (z : FZ) (Q : Fl → Loc → Hp → Prop) (f : Flow) (s : Shared) : Prop :=
  ∃ fl z' ρ' H', Le z z' ∧ St c z' ρ' H' s ∧ FlR z' fl f ∧ Q fl ρ' H'
def PostX (c : Cx) (z : FZ) (noted : Bool) (X : XP) (e : Value) (s : Shared) : Prop :=
  ∃ cls z' ρ' H' a, e = .ref a ∧ Le z z' ∧ St c z' ρ' H' s ∧ ExcAt c z' H' s.heap a cls noted ∧ X cls ρ' H'

theorem PostV.le {c : Cx} {z z' : FZ} {ρ : Loc} {Q : V → Hp → Prop} (le : Le z z') {v : Value} {s : Shared} (h : PostV c z' ρ Q v s) : PostV c z ρ Q v s := by
  obtain ⟨v, z2, H, l, r⟩ := h; exact ⟨v, z2, H, le.trans l, r⟩
theorem PostVs.le {c : Cx} {z z' : FZ} {ρ : Loc} {Q : List V → Hp → Prop} (le : Le z z') {v : List Value} {s : Shared} (h : PostVs c z' ρ Q v s) : PostVs c z ρ Q v s := by
  obtain ⟨v, z2, H, l, r⟩ := h; exact ⟨v, z2, H, le.trans l, r⟩
theorem PostB.le {c : Cx} {z z' : FZ} {ρ : Loc} {Q : Bool → Hp → Prop} (le : Le z z') {v : Bool} {s : Shared} (h : PostB c z' ρ Q v s) : PostB c z ρ Q v s := by
  obtain ⟨z2, H, l, r⟩ := h; exact ⟨z2, H, le.trans l, r⟩
theorem PostU.le {c : Cx} {z z' : FZ} {Q : Loc → Hp → Prop} (le : Le z z') {v : Unit} {s : Shared} (h : PostU c z' Q v s) : PostU c z Q v s := by
  obtain ⟨z2, ρ, H, l, r⟩ := h; exact ⟨z2, ρ, H, le.trans l, r⟩
theorem PostS.le {c : Cx} {z z' : FZ} {Q : Fl → Loc → Hp → Prop} (le : Le z z') {v : Flow} {s : Shared} (h : PostS c z' Q v s) : PostS c z Q v s := by
  obtain ⟨f, z2, ρ, H, l, r⟩ := h; exact ⟨f, z2, ρ, H, le.trans l, r⟩
theorem PostX.le {c : Cx} {z z' : FZ} {b : Bool} {X : XP} (le : Le z z') {v : Value} {s : Shared} (h : PostX c z' b X v s) : PostX c z b X v s := by
  obtain ⟨cls, z2, ρ, H, a, e, l, r⟩ := h; exact ⟨cls, z2, ρ, H, a, e, le.trans l, r⟩

def Ev (c : Cx) (e : Expr) (ρ : Loc) (H : Hp) (Q : V → Hp → Prop) (X : XP) : Prop :=
  ∀ z s, St c z ρ H s → wpR c.M c.A (eval e c.env) (PostV c z ρ Q) (PostX c z false X) s
/-- a test -/
def Tt (c : Cx) (e : Expr) (ρ : Loc) (H : Hp) (Q : Bool → Hp → Prop) (X : XP) : Prop :=
  ∀ z s, St c z ρ H s → wpR c.M c.A (isTrue e c.env (eval e c.env)) (PostB c z ρ Q) (PostX c z false X) s
/-- expressions one behind the other -/
def Evs (c : Cx) (es : List Expr) (ρ : Loc) (H : Hp) (Q : List V → Hp → Prop) (X : XP) : Prop :=
  ∀ z s pos, St c z ρ H s → wpR c.M c.A (spliced (backTo pos (starEach es c.env))) (PostVs c z ρ Q) (PostX c z false X) s
def Do (c : Cx) (as : List V) (t : List Value → Sem Value) (ρ : Loc) (H : Hp) (Q : V → Hp → Prop) (X : XP) : Prop :=
  ∀ z s vs, St c z ρ H s → VRs z as vs → wpR c.M c.A (t vs) (PostV c z ρ Q) (PostX c z false X) s
def DoB (c : Cx) (as : List V) (t : List Value → Sem Bool) (ρ : Loc) (H : Hp) (Q : Bool → Hp → Prop) (X : XP) : Prop :=
  ∀ z s vs, St c z ρ H s → VRs z as vs → wpR c.M c.A (t vs) (PostB c z ρ Q) (PostX c z false X) s
def DoU (c : Cx) (as : List V) (t : List Value → Sem Unit) (ρ : Loc) (H : Hp) (Q : Loc → Hp → Prop) (X : XP) : Prop :=
  ∀ z s vs, St c z ρ H s → VRs z as vs → wpR c.M c.A (t vs) (PostU c z Q) (PostX c z false X) s
def Ex (c : Cx) (st : Stmt) (ρ : Loc) (H : Hp) (Q : Fl → Loc → Hp → Prop) (X : XP) : Prop :=
  ∀ z s, St c z ρ H s → wpR c.M c.A (exec st c.env) (PostS c z Q) (PostX c z false X) s
def Exs (c : Cx) (ss : List Stmt) (ρ : Loc) (H : Hp) (Q : Fl → Loc → Hp → Prop) (X : XP) : Prop :=
  ∀ z s, St c z ρ H s → wpR c.M c.A (execs ss c.env) (PostS c z Q) (PostX c z false X) s
/-- a call -/
def Cl (c : Cx) (f : V) (as : List V) (kw : List (Str × V)) (ρ : Loc) (H : Hp) (Q : V → Hp → Prop) (X : XP) : Prop :=
  ∀ z s vf vs ks, St c z ρ H s → VR z f vf → VRs z as vs → VRs z (kw.map (·.2)) ks → wpR c.M c.A (call vf vs ((kw.map (·.1)).zip ks)) (PostV c z ρ Q) (PostX c z false X) s

theorem PostX.weak {c : Cx} {z : FZ} {X : XP} {v : Value} {s : Shared} {b : Bool} (h : PostX c z b X v s) : PostX c z false X v s := by
  obtain ⟨cls, z2, ρ, H, a, e, l, r, ⟨o, oe, vs, h1, h2, h3, h4, hc, h5⟩, x⟩ := h
  refine ⟨cls, z2, ρ, H, a, e, l, r, ⟨o, oe, vs, h1, h2, h3, h4, hc, ?_⟩, x⟩
  rcases h5 with ⟨h, _⟩ | h
  · exact .inl ⟨h, rfl⟩
  · exact .inr h

end
section

inductive Upd (a : Addr) (o o' : AObj) : Hp → Hp → Prop
  | head {r : Hp} : Upd a o o' ((a, o) :: r) ((a, o') :: r)
  | tail {p : Addr × AObj} {r r' : Hp} : Upd a o o' r r' → Upd a o o' (p :: r) (p :: r')
theorem Upd.mem {a : Addr} {o o' : AObj} : ∀ {H H' : Hp}, Upd a o o' H H' → (a, o) ∈ H
  | _, _, .head => .head _
  | _, _, .tail u => .tail _ u.mem
theorem Upd.keys {a : Addr} {o o' : AObj} : ∀ {H H' : Hp}, Upd a o o' H H' → H'.map (·.1) = H.map (·.1)
  | _, _, .head => rfl
  | _, _, .tail u => by rw [List.map_cons, List.map_cons, u.keys]
theorem Upd.cases' {a : Addr} {o o' : AObj} : ∀ {H H' : Hp}, Upd a o o' H H' → (H.map (·.1)).Nodup → ∀ q ∈ H', q = (a, o') ∨ (q ∈ H ∧ q.1 ≠ a)
  | _, _, .head (r := r), nd, q, hq => by
    rcases List.mem_cons.mp hq with rfl | hq
    · exact .inl rfl
    · refine .inr ⟨.tail _ hq, fun e => ?_⟩
      rw [List.map_cons, List.nodup_cons] at nd
      exact nd.1 (by rw [← e]; exact List.mem_map_of_mem (f := (·.1)) hq)
  | _, _, .tail (p := p) u, nd, q, hq => by
    rw [List.map_cons, List.nodup_cons] at nd
    rcases List.mem_cons.mp hq with rfl | hq
    · refine .inr ⟨.head _, fun e => nd.1 ?_⟩
      rw [e]; exact List.mem_map_of_mem (f := (·.1)) u.mem
    · rcases u.cases' nd.2 q hq with h | ⟨h, k⟩
      · exact .inl h
      · exact .inr ⟨.tail _ h, k⟩

inductive Put (x : Str) (v : V) : Loc → Loc → Prop
  | head {o : Option V} {r : Loc} : Put x v ((x, o) :: r) ((x, some v) :: r)
  | tail {p : Str × Option V} {r r' : Loc} : Put x v r r' → Put x v (p :: r) (p :: r')
theorem Put.mem {x : Str} {v : V} : ∀ {ρ ρ' : Loc}, Put x v ρ ρ' → ∃ o, (x, o) ∈ ρ
  | _, _, .head => ⟨_, .head _⟩
  | _, _, .tail u => let ⟨o, h⟩ := u.mem; ⟨o, .tail _ h⟩
theorem Put.keys {x : Str} {v : V} : ∀ {ρ ρ' : Loc}, Put x v ρ ρ' → ρ'.map (·.1) = ρ.map (·.1)
  | _, _, .head => rfl
  | _, _, .tail u => by rw [List.map_cons, List.map_cons, u.keys]
theorem Put.cases' {x : Str} {v : V} : ∀ {ρ ρ' : Loc}, Put x v ρ ρ' → (ρ.map (·.1)).Nodup → ∀ q ∈ ρ', q = (x, some v) ∨ (q ∈ ρ ∧ q.1 ≠ x)
  | _, _, .head, nd, q, hq => by
    rcases List.mem_cons.mp hq with rfl | hq
    · exact .inl rfl
    · refine .inr ⟨.tail _ hq, fun e => ?_⟩
      rw [List.map_cons, List.nodup_cons] at nd
      exact nd.1 (by rw [← e]; exact List.mem_map_of_mem (f := (·.1)) hq)
  | _, _, .tail (p := p) u, nd, q, hq => by
    rw [List.map_cons, List.nodup_cons] at nd
    rcases List.mem_cons.mp hq with rfl | hq
    · refine .inr ⟨.head _, fun e => nd.1 ?_⟩
      obtain ⟨o, h⟩ := u.mem
      rw [e]; exact List.mem_map_of_mem (f := (·.1)) h
    · rcases u.cases' nd.2 q hq with h | ⟨h, k⟩
      · exact .inl h
      · exact .inr ⟨.tail _ h, k⟩
theorem Put.names {x : Str} {v : V} : ∀ {ρ ρ' : Loc}, Put x v ρ ρ' → ∀ q ∈ ρ', ∃ o, (q.1, o) ∈ ρ
  | _, _, .head, q, hq => by
    rcases List.mem_cons.mp hq with rfl | hq
    · exact ⟨_, .head _⟩
    · exact ⟨q.2, .tail _ hq⟩
  | _, _, .tail u, q, hq => by
    rcases List.mem_cons.mp hq with rfl | hq
    · exact ⟨q.2, .head _⟩
    · obtain ⟨o, h⟩ := u.names q hq; exact ⟨o, .tail _ h⟩

section
variable {c : Cx} {z : FZ} {ρ : Loc} {H : Hp} {s : Shared}

theorem St.h0 (S : St c z ρ H s) : ∀ b o, c.h₀.get? b = some o → s.heap.get? b = some o := fun b o e => S.fin b o (S.base b o e)
theorem St.kin (S : St c z ρ H s) : c.K.In s.heap := S.ok.X.keeps S.h0
theorem St.lim (S : St c z ρ H s) : s.heap.NoLimit := S.ok.lim.keeps S.h0
theorem St.toks (S : St c z ρ H s) (n : Nat) : St c z ρ H { s with toks := n } := ⟨S.ok, S.base, S.fin, S.vol, S.nodup, S.kp, S.own, S.loc, S.keys, S.lk, S.gens, S.os⟩

/-- the heap has changed, and all that is told of it still holds -/
theorem St.heap (S : St c z ρ H s) {z' : FZ} {H' : Hp} {h' : Heap} {n : Nat} (le : Le z z') (fin : ∀ b o, z' b = some o → h'.get? b = some o) (vol : ∀ a ∈ c.vol H', z' a = none) (nodup : (c.vol H').Nodup)
    (kp : ∀ q ∈ c.kp, ∀ o, s.heap.get? q.1 = some o → ∃ sl, h'.get? q.1 = some { o with slots := sl }) (own : ∀ q ∈ H', ∃ ob, h'.get? q.1 = some ob ∧ OR c.P z' q.2 ob)
    (loc : ∀ o, s.heap.get? c.L = some o → ∃ sl, h'.get? c.L = some { o with slots := sl }) : St c z' ρ H' { s with heap := h', toks := n } := by
  refine ⟨S.ok, fun b o e => le b o (S.base b o e), fin, vol, nodup, fun q hq => ?_, own, ?_, S.keys, S.lk, S.gens, S.os⟩
  · obtain ⟨sl, e⟩ := S.kp q hq
    obtain ⟨sl', e'⟩ := kp q hq _ e
    exact ⟨sl', e'⟩
  · obtain ⟨m, ⟨o, es, ep, ho, hd, hk, hf⟩, hm⟩ := S.loc
    obtain ⟨sl, e⟩ := loc o ho
    exact ⟨m, ⟨_, es, ep, e, hd, hk, hf⟩, fun x v hx => let ⟨val, a, b⟩ := hm x v hx; ⟨val, a, b.mono le⟩⟩

theorem St.lt (S : St c z ρ H s) {b : Addr} {o : Obj} (e : z b = some o) : b < s.heap.objs.size := Heap.lt_size (S.fin b o e)
theorem St.fresh (S : St c z ρ H s) : z s.heap.objs.size = none := by
  cases q : z s.heap.objs.size with
  | none => rfl
  | some o => exact absurd (S.lt q) (Nat.lt_irrefl _)
theorem St.fresh_vol (S : St c z ρ H s) : s.heap.objs.size ∉ c.vol H := by
  intro h
  unfold Cx.vol at h
  rcases List.mem_cons.mp h with h | h
  · obtain ⟨m, hn, _⟩ := S.loc
    have := hn.lt
    rw [← h] at this; exact Nat.lt_irrefl _ this
  · rcases List.mem_append.mp h with h | h
    · obtain ⟨q, hq, e⟩ := List.mem_map.mp h
      obtain ⟨sl, e'⟩ := S.kp q hq
      have := Heap.lt_size e'
      rw [e] at this; exact Nat.lt_irrefl _ this
    · obtain ⟨q, hq, e⟩ := List.mem_map.mp h
      obtain ⟨ob, e', _⟩ := S.own q hq
      have := Heap.lt_size e'
      rw [e] at this; exact Nat.lt_irrefl _ this

theorem same_slots {h' : Heap} {a : Addr} {o : Obj} (e : h'.get? a = some o) : ∃ sl, h'.get? a = some { o with slots := sl } := ⟨o.slots, e⟩

/-- an object is made that nobody will name -/
theorem St.push (S : St c z ρ H s) (o : Obj) {n : Nat} : St c z ρ H { s with heap := s.heap.push o, toks := n } :=
  S.heap (Le.refl z) (fun b o' e => Heap.get?_push_of_some _ (S.fin b o' e)) S.vol S.nodup (fun _ _ _ e => same_slots (Heap.get?_push_of_some _ e))
    (fun q hq => let ⟨ob, e, r⟩ := S.own q hq; ⟨ob, Heap.get?_push_of_some _ e, r⟩) (fun _ e => same_slots (Heap.get?_push_of_some _ e))

def FZ.put (z : FZ) (a : Addr) (o : Obj) : FZ := fun b => if b = a then some o else z b
theorem FZ.put_self (z : FZ) (a : Addr) (o : Obj) : z.put a o a = some o := by simp [FZ.put]
theorem FZ.put_le {z : FZ} {a : Addr} {o : Obj} (h : z a = none) : Le z (z.put a o) := fun b o' e => by
  unfold FZ.put
  by_cases q : b = a
  · subst q; rw [h] at e; cases e
  · rw [if_neg q]; exact e

/-- an object is made that stands as it is -/
theorem St.pushZ (S : St c z ρ H s) (o : Obj) (hf : o.isFreed = false) {n : Nat} : St c (z.put s.heap.objs.size o) ρ H { s with heap := s.heap.push o, toks := n } :=
  S.heap (FZ.put_le S.fresh) (fun b o' e => by
      unfold FZ.put at e
      by_cases q : b = s.heap.objs.size
      · rw [if_pos q] at e; cases e; rw [q]; exact Heap.get?_push_size _ hf
      · rw [if_neg q] at e; exact Heap.get?_push_of_some _ (S.fin b o' e))
    (fun a ha => by
      have q : a ≠ s.heap.objs.size := fun q => S.fresh_vol (q ▸ ha)
      unfold FZ.put
      rw [if_neg q]; exact S.vol a ha) S.nodup (fun _ _ _ e => same_slots (Heap.get?_push_of_some _ e))
    (fun q hq => let ⟨ob, e, r⟩ := S.own q hq; ⟨ob, Heap.get?_push_of_some _ e, r.mono (FZ.put_le S.fresh)⟩) (fun _ e => same_slots (Heap.get?_push_of_some _ e))

theorem vol_cons {a : Addr} {o : AObj} : (c.vol ((a, o) :: H)).Perm (a :: c.vol H) := by
  unfold Cx.vol
  rw [List.map_cons]
  exact (List.Perm.cons _ List.perm_middle).trans (List.Perm.swap ..)

/-- an object is made that is tracked -/
theorem St.pushT (S : St c z ρ H s) {o : Obj} {ob : AObj} (hr : OR c.P z ob o) (hf : o.isFreed = false) {n : Nat} : St c z ρ ((s.heap.objs.size, ob) :: H) { s with heap := s.heap.push o, toks := n } :=
  S.heap (Le.refl z) (fun b o' e => Heap.get?_push_of_some _ (S.fin b o' e))
    (fun a ha => by
      rcases List.mem_cons.mp (vol_cons.mem_iff.mp ha) with rfl | h
      · exact S.fresh
      · exact S.vol a h)
    (vol_cons.nodup_iff.mpr (List.nodup_cons.mpr ⟨S.fresh_vol, S.nodup⟩)) (fun _ _ _ e => same_slots (Heap.get?_push_of_some _ e))
    (fun q hq => by
      rcases List.mem_cons.mp hq with rfl | hq
      · exact ⟨o, Heap.get?_push_size _ hf, hr⟩
      · obtain ⟨ob, e, r⟩ := S.own q hq; exact ⟨ob, Heap.get?_push_of_some _ e, r⟩) (fun _ e => same_slots (Heap.get?_push_of_some _ e))

theorem vol_nodup_H (S : St c z ρ H s) : (H.map (·.1)).Nodup := by
  have := S.nodup
  unfold Cx.vol at this
  rw [List.nodup_cons, List.nodup_append] at this
  exact this.2.2.1
theorem St.ne_L (S : St c z ρ H s) {q : Addr × AObj} (hq : q ∈ H) : c.L ≠ q.1 := by
  intro e
  have := S.nodup
  unfold Cx.vol at this
  rw [List.nodup_cons] at this
  exact this.1 (e ▸ List.mem_append_right _ (List.mem_map_of_mem hq))
theorem St.ne_kp (S : St c z ρ H s) {q : Addr × AObj} (hq : q ∈ H) {k : Addr × Obj} (hk : k ∈ c.kp) : k.1 ≠ q.1 := by
  intro e
  have := S.nodup
  unfold Cx.vol at this
  rw [List.nodup_cons, List.nodup_append] at this
  exact this.2.2.2 k.1 (List.mem_map_of_mem hk) q.1 (List.mem_map_of_mem hq) e
theorem St.L_kp (S : St c z ρ H s) {k : Addr × Obj} (hk : k ∈ c.kp) : k.1 ≠ c.L := by
  intro e
  have := S.nodup
  unfold Cx.vol at this
  rw [List.nodup_cons] at this
  exact this.1 (e ▸ List.mem_append_left _ (List.mem_map_of_mem hk))
theorem St.z_ne (S : St c z ρ H s) {a b : Addr} (ha : a ∈ c.vol H) {o : Obj} (e : z b = some o) : b ≠ a := by
  intro q; subst q; rw [S.vol b ha] at e; cases e
theorem mem_vol_H {q : Addr × AObj} (hq : q ∈ H) : q.1 ∈ c.vol H := .tail _ (List.mem_append_right _ (List.mem_map_of_mem hq))
theorem mem_vol_L : c.L ∈ c.vol H := .head _
theorem mem_vol_kp {k : Addr × Obj} (hk : k ∈ c.kp) : k.1 ∈ c.vol H := .tail _ (List.mem_append_left _ (List.mem_map_of_mem hk))

/-- a tracked object has changed, and it alone -/
theorem St.upd (S : St c z ρ H s) {a : Addr} {o o' : AObj} {H' : Hp} (U : Upd a o o' H H') {h' : Heap} {ob : Obj} (hs : Heap.SameBut a s.heap h') (he : h'.get? a = some ob) (hr : OR c.P z o' ob) {n : Nat} :
    St c z ρ H' { s with heap := h', toks := n } := by
  have hv : c.vol H' = c.vol H := by unfold Cx.vol; rw [U.keys]
  refine S.heap (Le.refl z) (fun b o'' e => (hs.2 b (S.z_ne (mem_vol_H U.mem) e)).trans (S.fin b o'' e)) (hv ▸ S.vol) (hv ▸ S.nodup)
    (fun q hq o'' e => same_slots ((hs.2 q.1 (S.ne_kp U.mem hq)).trans e)) (fun q hq => ?_) (fun o'' e => same_slots ((hs.2 _ (S.ne_L U.mem)).trans e))
  rcases U.cases' (vol_nodup_H S) q hq with rfl | ⟨hq', hne⟩
  · exact ⟨ob, he, hr⟩
  · obtain ⟨ob', e, r⟩ := S.own q hq'
    exact ⟨ob', (hs.2 q.1 hne).trans e, r⟩

/-- a local is stored -/
theorem St.put (S : St c z ρ H s) {x : Str} {v : V} {val : Value} {ρ' : Loc} (U : Put x v ρ ρ') (hr : VR z v val) {h' : Heap} {m : Str → Option Value} (hm : s.heap.Ns c.L m) (hl : ∀ x v, (x, some v) ∈ ρ → ∃ val, m x = some val ∧ VR z v val)
    (hn : h'.Ns c.L (fun y => if y = x then some val else m y)) (hs : Heap.SameBut c.L s.heap h') {n : Nat} : St c z ρ' H { s with heap := h', toks := n } := by
  refine ⟨S.ok, S.base, fun b o e => (hs.2 b (S.z_ne mem_vol_L e)).trans (S.fin b o e), S.vol, S.nodup, fun q hq => ?_, fun q hq => ?_, ⟨_, hn, fun y v' hy => ?_⟩, U.keys ▸ S.keys, fun q hq => ?_, S.gens, S.os⟩
  · obtain ⟨sl, e⟩ := S.kp q hq
    exact ⟨sl, (hs.2 q.1 (S.L_kp hq)).trans e⟩
  · obtain ⟨ob, e, r⟩ := S.own q hq
    exact ⟨ob, (hs.2 q.1 (S.ne_L hq).symm).trans e, r⟩
  · rcases U.cases' S.keys _ hy with e | ⟨hy', hne⟩
    · cases e; exact ⟨val, by simp, hr⟩
    · obtain ⟨val', a, b⟩ := hl y v' hy'
      exact ⟨val', by show (if y = x then _ else _) = _; rw [if_neg hne]; exact a, b⟩
  · obtain ⟨o, h⟩ := U.names q hq
    exact S.lk (q.1, o) h

/-- what is tracked may be forgotten or stand in another order -/
theorem St.sub (S : St c z ρ H s) {H' : Hp} (hp : ∃ G, H.Perm (H' ++ G)) : St c z ρ H' s := by
  obtain ⟨G, hp⟩ := hp
  have hv : (c.vol H).Perm (c.vol H' ++ G.map (·.1)) := by
    unfold Cx.vol
    rw [List.cons_append, List.append_assoc, ← List.map_append]
    exact List.Perm.cons _ (List.Perm.append_left _ (hp.map _))
  refine ⟨S.ok, S.base, S.fin, fun a ha => S.vol a (hv.mem_iff.mpr (List.mem_append_left _ ha)), ?_, S.kp, fun q hq => S.own q (hp.mem_iff.mpr (List.mem_append_left _ hq)), S.loc, S.keys, S.lk, S.gens, S.os⟩
  have := hv.nodup_iff.mp S.nodup
  exact (List.nodup_append.mp this).1
theorem St.perm (S : St c z ρ H s) {H' : Hp} (hp : H.Perm H') : St c z ρ H' s := S.sub ⟨[], by simpa using hp⟩
end
end
section

section
variable {c : Cx} {z z' : FZ} {ρ : Loc} {H : Hp} {s : Shared} {X : XP}

theorem carryV {t : Sem Value} {Q : V → Hp → Prop} (le : Le z z') (h : wpR c.M c.A t (PostV c z' ρ Q) (PostX c z' false X) s) : wpR c.M c.A t (PostV c z ρ Q) (PostX c z false X) s :=
  wpR_mono h (fun _ _ => PostV.le le) (fun _ _ => PostX.le le)
theorem carryVs {t : Sem (List Value)} {Q : List V → Hp → Prop} (le : Le z z') (h : wpR c.M c.A t (PostVs c z' ρ Q) (PostX c z' false X) s) : wpR c.M c.A t (PostVs c z ρ Q) (PostX c z false X) s :=
  wpR_mono h (fun _ _ => PostVs.le le) (fun _ _ => PostX.le le)
theorem carryB {t : Sem Bool} {Q : Bool → Hp → Prop} (le : Le z z') (h : wpR c.M c.A t (PostB c z' ρ Q) (PostX c z' false X) s) : wpR c.M c.A t (PostB c z ρ Q) (PostX c z false X) s :=
  wpR_mono h (fun _ _ => PostB.le le) (fun _ _ => PostX.le le)
theorem carryU {t : Sem Unit} {Q : Loc → Hp → Prop} (le : Le z z') (h : wpR c.M c.A t (PostU c z' Q) (PostX c z' false X) s) : wpR c.M c.A t (PostU c z Q) (PostX c z false X) s :=
  wpR_mono h (fun _ _ => PostU.le le) (fun _ _ => PostX.le le)
theorem carryS {t : Sem Flow} {Q : Fl → Loc → Hp → Prop} (le : Le z z') (h : wpR c.M c.A t (PostS c z' Q) (PostX c z' false X) s) : wpR c.M c.A t (PostS c z Q) (PostX c z false X) s :=
  wpR_mono h (fun _ _ => PostS.le le) (fun _ _ => PostX.le le)
end

def Do1 (c : Cx) (a : V) (t : Value → Sem Value) (ρ : Loc) (H : Hp) (Q : V → Hp → Prop) (X : XP) : Prop :=
  ∀ z s v, St c z ρ H s → VR z a v → wpR c.M c.A (t v) (PostV c z ρ Q) (PostX c z false X) s
def Do2 (c : Cx) (a b : V) (t : Value → Value → Sem Value) (ρ : Loc) (H : Hp) (Q : V → Hp → Prop) (X : XP) : Prop :=
  ∀ z s v w, St c z ρ H s → VR z a v → VR z b w → wpR c.M c.A (t v w) (PostV c z ρ Q) (PostX c z false X) s
def Do2U (c : Cx) (a b : V) (t : Value → Value → Sem Unit) (ρ : Loc) (H : Hp) (Q : Hp → Prop) (X : XP) : Prop :=
  ∀ z s v w, St c z ρ H s → VR z a v → VR z b w → wpR c.M c.A (t v w) (fun _ s' => ∃ z' H', Le z z' ∧ St c z' ρ H' s' ∧ Q H') (PostX c z false X) s

/-- a value that is reckoned, the heap as it was -/
def Is1 (c : Cx) (H : Hp) (t : Value → Sem Value) (a r : V) : Prop :=
  ∀ z ρ s v (Q : Value → Shared → Prop) (E : Value → Shared → Prop), St c z ρ H s → VR z a v → (∀ val n, VR z r val → Q val { s with toks := n }) → wpAny c.M c.A (t v) Q E s
def Is2 (c : Cx) (H : Hp) (t : Value → Value → Sem Value) (a b r : V) : Prop :=
  ∀ z ρ s v w (Q : Value → Shared → Prop) (E : Value → Shared → Prop), St c z ρ H s → VR z a v → VR z b w → (∀ val n, VR z r val → Q val { s with toks := n }) → wpAny c.M c.A (t v w) Q E s
/-- the truth of a value -/
def Tr (c : Cx) (H : Hp) (a : V) (b : Bool) : Prop :=
  ∀ z ρ s v (Q : Bool → Shared → Prop) (E : Value → Shared → Prop), St c z ρ H s → VR z a v → (∀ n, Q b { s with toks := n }) → wpAny c.M c.A (truthy v) Q E s

section
variable {c : Cx} {ρ : Loc} {H : Hp} {Q : V → Hp → Prop} {X : XP}

theorem postV {z : FZ} {s : Shared} {r : V} {val : Value} {n : Nat} (S : St c z ρ H s) (h : VR z r val) (q : Q r H) : PostV c z ρ Q val { s with toks := n } :=
  ⟨r, z, H, Le.refl z, S.toks n, h, q⟩

theorem Do1.is {t : Value → Sem Value} {a r : V} (h : Is1 c H t a r) (q : Q r H) : Do1 c a t ρ H Q X :=
  fun z s v S hv => of (h z ρ s v _ _ S hv fun _ _ hr => postV S hr q)
theorem Do2.is {t : Value → Value → Sem Value} {a b r : V} (h : Is2 c H t a b r) (q : Q r H) : Do2 c a b t ρ H Q X :=
  fun z s v w S hv hw => of (h z ρ s v w _ _ S hv hw fun _ _ hr => postV S hr q)

-- leaves
theorem Ev.none {k : Nat} {pos : Pos} (q : Q .none H) : Ev c (.Constant .none k pos) ρ H Q X := fun _ s S => of (wpAny_Constant_none (postV (n := s.toks) S .none q))
theorem Ev.bool {b : Bool} {k : Nat} {pos : Pos} (q : Q (.bool b) H) : Ev c (.Constant (.bool b) k pos) ρ H Q X := fun _ s S => of (wpAny_Constant_bool (postV (n := s.toks) S (.bool b) q))
theorem Ev.int {i : Int} {k : Nat} {pos : Pos} (q : Q (.int i) H) : Ev c (.Constant (.int i) k pos) ρ H Q X := fun _ _ S => of (wpAny_Constant_int (postV S (.int i _) q))
theorem Ev.str {x : Str} {k : Nat} {pos : Pos} (q : Q (.str x) H) : Ev c (.Constant (.str x) k pos) ρ H Q X := fun _ _ S => of (wpAny_Constant_str (postV S (.str x _) q))
theorem Ev.bytes {b : List UInt8} {k : Nat} {pos : Pos} (q : Q (.bytes b.toArray) H) : Ev c (.Constant (.bytes b) k pos) ρ H Q X := fun _ s S =>
  show wpR _ _ (mkTextBytes b.toArray) _ _ _ from of (wpAny_bind (wpAny_fresh (wpAny_pure (postV (n := s.toks + 1) S (.bytes b.toArray s.toks) q))))

theorem Ev.loc {x : Str} {pos : Pos} {v : V} (h : (x, some v) ∈ ρ) (q : Q v H) : Ev c (.Name x pos) ρ H Q X := fun z s S => by
  obtain ⟨m, hn, hm⟩ := S.loc
  obtain ⟨val, a, b⟩ := hm x v h
  obtain ⟨k, d⟩ := S.lk _ h
  exact of (wpAny_Name (wpAny_loadName_local S.ok.kind k hn a (postV (n := s.toks) S b q)) d)
theorem Ev.glob {x : Str} {pos : Pos} {v : V} (h : c.gl x = some v) (q : Q v H) (hk : c.env.scope.names.lookup x = some .globalImplicit) (d : (x == ("__debug__" : Str)) = false := by decide) : Ev c (.Name x pos) ρ H Q X := fun z s S => by
  obtain ⟨val, a, b⟩ := S.ok.gl _ _ h c.env S.ok.env.1 S.ok.env.2 S.ok.kind hk
  exact of (wpAny_Name (a _ _ _ s S.h0 (postV (n := s.toks) S (b.mono S.base) q)) d)

theorem Ev.bin {op : Operator} {l r : Expr} {pos : Pos} (h : Ev c l ρ H (fun a H₁ => Ev c r ρ H₁ (fun b H₂ => Do2 c a b (binaryOp op) ρ H₂ Q X) X) X) : Ev c (.BinOp l op r pos) ρ H Q X :=
  fun z s S => wpR_BinOp (wpR_mono (h z s S) (fun val s₁ ⟨a, z₁, H₁, le₁, S₁, r₁, h₁⟩ => wpR_mono (h₁ z₁ s₁ S₁) (fun val₂ s₂ ⟨b, z₂, H₂, le₂, S₂, r₂, h₂⟩ =>
    carryV (le₁.trans le₂) (h₂ z₂ s₂ _ _ S₂ (r₁.mono le₂) r₂)) fun _ _ => PostX.le le₁) fun _ _ x => x)
theorem Ev.un {op : UnaryOp} {x : Expr} {pos : Pos} (h : Ev c x ρ H (fun a H₁ => Do1 c a (unaryOp op) ρ H₁ Q X) X) : Ev c (.UnaryOp op x pos) ρ H Q X :=
  fun z s S => wpR_UnaryOp (wpR_mono (h z s S) (fun val s₁ ⟨a, z₁, H₁, le₁, S₁, r₁, h₁⟩ => carryV le₁ (h₁ z₁ s₁ _ S₁ r₁)) fun _ _ x => x)
theorem Ev.cmp {op : CmpOp} {l r : Expr} {pos : Pos} (h : Ev c l ρ H (fun a H₁ => Ev c r ρ H₁ (fun b H₂ => Do2 c a b (compareOp op) ρ H₂ Q X) X) X)
    (hm : behindInMarks op r = false := by with_unfolding_all rfl) : Ev c (.Compare l [op] [r] pos) ρ H Q X :=
  fun z s S => wpR_Compare1 (wpR_mono (h z s S) (fun val s₁ ⟨a, z₁, H₁, le₁, S₁, r₁, h₁⟩ => wpR_mono (h₁ z₁ s₁ S₁) (fun val₂ s₂ ⟨b, z₂, H₂, le₂, S₂, r₂, h₂⟩ =>
    carryV (le₁.trans le₂) (h₂ z₂ s₂ _ _ S₂ (r₁.mono le₂) r₂)) fun _ _ => PostX.le le₁) fun _ _ x => x) hm
theorem Ev.ifexp {t b o : Expr} {pos : Pos} (h : Tt c t ρ H (fun r H₁ => (r = true → Ev c b ρ H₁ Q X) ∧ (r = false → Ev c o ρ H₁ Q X)) X) : Ev c (.IfExp t b o pos) ρ H Q X :=
  fun z s S => wpR_IfExp (wpR_mono (h z s S) (fun r s₁ ⟨z₁, H₁, le₁, S₁, h₁⟩ => by
    cases r with
    | true => exact carryV le₁ (h₁.1 rfl z₁ s₁ S₁)
    | false => exact carryV le₁ (h₁.2 rfl z₁ s₁ S₁)) fun _ _ x => x)
theorem Ev.or {x y : Expr} {pos : Pos} (h : Ev c x ρ H (fun a H₁ => ∃ t, Tr c H₁ a t ∧ (t = true → Q a H₁) ∧ (t = false → Ev c y ρ H₁ Q X)) X) : Ev c (.BoolOp .Or [x, y] pos) ρ H Q X :=
  fun z s S => wpR_Or2 (wpR_mono (h z s S) (fun val s₁ ⟨a, z₁, H₁, le₁, S₁, r₁, t, ht, h1, h2⟩ => of (ht z₁ ρ s₁ _ _ _ S₁ r₁ fun n => by
    cases t with
    | true => exact PostV.le le₁ (postV S₁ r₁ (h1 rfl))
    | false => exact carryV le₁ (h2 rfl z₁ _ (S₁.toks n)))) fun _ _ x => x)
theorem Ev.and {x y : Expr} {pos : Pos} (h : Ev c x ρ H (fun a H₁ => ∃ t, Tr c H₁ a t ∧ (t = false → Q a H₁) ∧ (t = true → Ev c y ρ H₁ Q X)) X) : Ev c (.BoolOp .And [x, y] pos) ρ H Q X :=
  fun z s S => wpR_And2 (wpR_mono (h z s S) (fun val s₁ ⟨a, z₁, H₁, le₁, S₁, r₁, t, ht, h1, h2⟩ => of (ht z₁ ρ s₁ _ _ _ S₁ r₁ fun n => by
    cases t with
    | false => exact PostV.le le₁ (postV S₁ r₁ (h1 rfl))
    | true => exact carryV le₁ (h2 rfl z₁ _ (S₁.toks n)))) fun _ _ x => x)

-- one behind the other
theorem Evs.nil {Q : List V → Hp → Prop} (q : Q [] H) : Evs c [] ρ H Q X := fun z s pos S => splicedR_none ⟨[], z, H, Le.refl z, S, .nil, q⟩
theorem Evs.cons {e : Expr} {es : List Expr} {Q : List V → Hp → Prop} (h : Ev c e ρ H (fun v H₁ => Evs c es ρ H₁ (fun vs H₂ => Q (v :: vs) H₂) X) X)
    (he : ∀ env, starEach (e :: es) env = (false, eval e env) :: starEach es env := by intro; rfl) : Evs c (e :: es) ρ H Q X :=
  fun z s pos S => splicedR_more (wpR_mono (h z s S) (fun val s₁ ⟨a, z₁, H₁, le₁, S₁, r₁, h₁⟩ => wpR_mono (h₁ z₁ s₁ pos S₁) (fun vals s₂ ⟨vs, z₂, H₂, le₂, S₂, r₂, h₂⟩ =>
    ⟨a :: vs, z₂, H₂, le₁.trans le₂, S₂, .cons (r₁.mono le₂) r₂, h₂⟩) fun _ _ => PostX.le le₁) fun _ _ x => x) (he _)

theorem Ev.tup {es : List Expr} {k : Nat} {pos : Pos} (h : Evs c es ρ H (fun vs H₁ => vs.length ≤ sizeLine ∧ Q (.tup vs) H₁) X) : Ev c (.Tuple es k pos) ρ H Q X :=
  fun z s S => wpR_Tuple (wpR_mono (h z s pos S) (fun vals s₁ ⟨vs, z₁, H₁, le₁, S₁, r₁, hl, q⟩ =>
    ⟨r₁.length ▸ hl, .tup vs, z₁.put s₁.heap.objs.size _, H₁, le₁.trans (FZ.put_le S₁.fresh), S₁.pushZ (n := s₁.toks) _ rfl, .tup (n := 0) (FZ.put_self ..) rfl rfl (r₁.mono (FZ.put_le S₁.fresh)), q⟩) fun _ _ x => x)
/-- a list display: a frozen one -/
theorem Ev.lst {es : List Expr} {pos : Pos} (h : Evs c es ρ H (fun vs H₁ => vs.length ≤ sizeLine ∧ Q (.lst vs) H₁) X) : Ev c (.List es pos) ρ H Q X :=
  fun z s S => wpR_List (wpR_mono (h z s pos S) (fun vals s₁ ⟨vs, z₁, H₁, le₁, S₁, r₁, hl, q⟩ =>
    ⟨r₁.length ▸ hl, .lst vs, z₁.put s₁.heap.objs.size _, H₁, le₁.trans (FZ.put_le S₁.fresh), S₁.pushZ (n := s₁.toks) _ rfl, .lst (n := 0) (FZ.put_self ..) rfl rfl (r₁.mono (FZ.put_le S₁.fresh)), q⟩) fun _ _ x => x)
/-- a list display: a tracked one -/
theorem Ev.list {es : List Expr} {pos : Pos} (h : Evs c es ρ H (fun vs H₁ => vs.length ≤ sizeLine ∧ ∀ a, Q (.ref a) ((a, .list vs) :: H₁)) X) : Ev c (.List es pos) ρ H Q X :=
  fun z s S => wpR_List (wpR_mono (h z s pos S) (fun vals s₁ ⟨vs, z₁, H₁, le₁, S₁, r₁, hl, q⟩ =>
    ⟨r₁.length ▸ hl, .ref _, z₁, _, le₁, S₁.pushT (n := s₁.toks) (.list (n := 0) r₁) rfl, .ref _, q _⟩) fun _ _ x => x)
end

section
variable {c : Cx} {ρ : Loc} {H : Hp} {Q : Bool → Hp → Prop} {X : XP}
theorem Tt.cmp {op : CmpOp} {l r : Expr} {pos : Pos} (h : Ev c l ρ H (fun a H₁ => Ev c r ρ H₁ (fun b H₂ => ∃ t, Is2 c H₂ (compareOp op) a b (.bool t) ∧ Q t H₂) X) X)
    (hm : behindInMarks op r = false := by with_unfolding_all rfl) : Tt c (.Compare l [op] [r] pos) ρ H Q X :=
  fun z s S => wpR_isTrue_Compare1 (wpR_mono (h z s S) (fun val s₁ ⟨a, z₁, H₁, le₁, S₁, r₁, h₁⟩ => wpR_mono (h₁ z₁ s₁ S₁) (fun val₂ s₂ ⟨b, z₂, H₂, le₂, S₂, r₂, t, h₂, q⟩ =>
    of (h₂ z₂ ρ s₂ _ _ _ _ S₂ (r₁.mono le₂) r₂ fun val n hr => by
      cases hr
      exact of (wpAny_truthy_bool ⟨z₂, H₂, le₁.trans le₂, S₂.toks n, q⟩))) fun _ _ => PostX.le le₁) fun _ _ x => x) hm
/-- a chain of two -/
theorem Tt.chain {o₁ o₂ : CmpOp} {l r₁ r₂ : Expr} {pos : Pos}
    (h : Ev c l ρ H (fun a H₁ => Ev c r₁ ρ H₁ (fun b H₂ => ∃ t, Is2 c H₂ (compareOp o₁) a b (.bool t) ∧ (t = false → Q false H₂) ∧
      (t = true → Ev c r₂ ρ H₂ (fun d H₃ => ∃ u, Is2 c H₃ (compareOp o₂) b d (.bool u) ∧ Q u H₃) X)) X) X)
    (hm : lastMarks [o₁, o₂] [r₁, r₂] = false := by with_unfolding_all rfl) : Tt c (.Compare l [o₁, o₂] [r₁, r₂] pos) ρ H Q X := fun z s S => by
  refine isTrueR_chain (wpR_mono (h z s S) (fun val s₁ ⟨a, z₁, H₁, le₁, S₁, v₁, h₁⟩ => ?_) fun _ _ x => x) hm
  refine testR_link (wpR_mono (h₁ z₁ s₁ S₁) (fun val₂ s₂ ⟨b, z₂, H₂, le₂, S₂, v₂, t, h₂, qf, qt⟩ => ?_) fun _ _ => PostX.le le₁)
  refine of (h₂ z₂ ρ s₂ _ _ _ _ S₂ (v₁.mono le₂) v₂ fun val n hr => ?_)
  cases hr
  refine of (wpAny_truthy_bool ?_)
  cases t with
  | false => exact ⟨z₂, H₂, le₁.trans le₂, S₂.toks n, qf rfl⟩
  | true =>
    refine testR_last (wpR_mono (qt rfl z₂ _ (S₂.toks n)) (fun val₃ s₃ ⟨d, z₃, H₃, le₃, S₃, v₃, u, h₃, q⟩ => ?_) fun _ _ => PostX.le (le₁.trans le₂))
    refine of (h₃ z₃ ρ s₃ _ _ _ _ S₃ (v₂.mono le₃) v₃ fun val n hr => ?_)
    cases hr
    exact of (wpAny_truthy_bool ⟨z₃, H₃, (le₁.trans le₂).trans le₃, S₃.toks n, q⟩)
theorem Tt.not {x : Expr} {pos : Pos} (h : Tt c x ρ H (fun b H₁ => Q (!b) H₁) X) : Tt c (.UnaryOp .Not x pos) ρ H Q X :=
  fun z s S => isTrueR_not (wpR_mono (h z s S) (fun _ _ x => x) fun _ _ x => x)
theorem Tt.and {x y : Expr} {pos : Pos} (h : Tt c x ρ H (fun b H₁ => (b = false → Q false H₁) ∧ (b = true → Tt c y ρ H₁ Q X)) X) : Tt c (.BoolOp .And [x, y] pos) ρ H Q X :=
  fun z s S => isTrueR_and (wpR_mono (h z s S) (fun b s₁ ⟨z₁, H₁, le₁, S₁, qf, qt⟩ => by
    cases b with
    | false => exact ⟨z₁, H₁, le₁, S₁, qf rfl⟩
    | true => exact isTrueR_and (wpR_mono (qt rfl z₁ s₁ S₁) (fun b s₂ ⟨z₂, H₂, le₂, S₂, q⟩ => by
        cases b with
        | true => exact isTrueR_and_nil ⟨z₂, H₂, le₁.trans le₂, S₂, q⟩
        | false => exact ⟨z₂, H₂, le₁.trans le₂, S₂, q⟩) fun _ _ => PostX.le le₁)) fun _ _ x => x)
theorem Tt.and3 {x y w : Expr} {pos : Pos} (h : Tt c x ρ H (fun b H₁ => (b = false → Q false H₁) ∧ (b = true → Tt c (.BoolOp .And [y, w] pos) ρ H₁ Q X)) X) : Tt c (.BoolOp .And [x, y, w] pos) ρ H Q X :=
  fun z s S => isTrueR_and (wpR_mono (h z s S) (fun b s₁ ⟨z₁, H₁, le₁, S₁, qf, qt⟩ => by
    cases b with
    | false => exact ⟨z₁, H₁, le₁, S₁, qf rfl⟩
    | true => exact carryB le₁ (qt rfl z₁ s₁ S₁)) fun _ _ x => x)
theorem Tt.or {x y : Expr} {pos : Pos} (h : Tt c x ρ H (fun b H₁ => (b = true → Q true H₁) ∧ (b = false → Tt c y ρ H₁ Q X)) X) : Tt c (.BoolOp .Or [x, y] pos) ρ H Q X :=
  fun z s S => isTrueR_or (wpR_mono (h z s S) (fun b s₁ ⟨z₁, H₁, le₁, S₁, qt, qf⟩ => by
    cases b with
    | true => exact ⟨z₁, H₁, le₁, S₁, qt rfl⟩
    | false => exact isTrueR_or (wpR_mono (qf rfl z₁ s₁ S₁) (fun b s₂ ⟨z₂, H₂, le₂, S₂, q⟩ => by
        cases b with
        | false => exact isTrueR_or_nil ⟨z₂, H₂, le₁.trans le₂, S₂, q⟩
        | true => exact ⟨z₂, H₂, le₁.trans le₂, S₂, q⟩) fun _ _ => PostX.le le₁)) fun _ _ x => x)
theorem Tt.val {e : Expr} (h : Ev c e ρ H (fun a H₁ => ∃ t, Tr c H₁ a t ∧ Q t H₁) X)
    (he : ∀ env whole, isTrue e env whole = (do let v ← whole; standAt e.pos; holding [v] (truthy v)) := by intros; rfl) : Tt c e ρ H Q X :=
  fun z s S => isTrueR_plain (wpR_mono (h z s S) (fun val s₁ ⟨a, z₁, H₁, le₁, S₁, r₁, t, ht, q⟩ => of (ht z₁ ρ s₁ _ _ _ S₁ r₁ fun n => ⟨z₁, H₁, le₁, S₁.toks n, q⟩)) fun _ _ x => x) (he _ _)
end

/-- what follows a statement -/
def Then (c : Cx) (rest : List Stmt) (Q : Fl → Loc → Hp → Prop) (X : XP) : Fl → Loc → Hp → Prop
  | .next, ρ, H => Exs c rest ρ H Q X
  | f, ρ, H => Q f ρ H

section
variable {c : Cx} {ρ : Loc} {H : Hp} {Q : Fl → Loc → Hp → Prop} {X : XP}
theorem Exs.nil (q : Q .next ρ H) : Exs c [] ρ H Q X := fun z s S => wpR_execs_nil ⟨.next, z, ρ, H, Le.refl z, S, .next, q⟩
theorem Exs.cons {st : Stmt} {rest : List Stmt} (h : Ex c st ρ H (Then c rest Q X) X) : Exs c (st :: rest) ρ H Q X :=
  fun z s S => wpR_execs_cons (wpR_mono (h z s S) (fun f s₁ ⟨fl, z₁, ρ₁, H₁, le₁, S₁, r₁, h₁⟩ => by
    cases r₁ with
    | next => exact carryS le₁ (h₁ z₁ s₁ S₁)
    | brk => exact ⟨_, z₁, ρ₁, H₁, le₁, S₁, .brk, h₁⟩
    | cont => exact ⟨_, z₁, ρ₁, H₁, le₁, S₁, .cont, h₁⟩
    | ret r => exact ⟨_, z₁, ρ₁, H₁, le₁, S₁, .ret r, h₁⟩) fun _ _ x => x)
theorem Ex.ret {e : Expr} {pos : Pos} (h : Ev c e ρ H (fun v H₁ => Q (.ret v) ρ H₁) X) : Ex c (.Return (some e) pos) ρ H Q X :=
  fun z s S => wpR_Return_some (wpR_mono (h z s S) (fun val s₁ ⟨a, z₁, H₁, le₁, S₁, r₁, q⟩ => ⟨.ret a, z₁, ρ, H₁, le₁, S₁, .ret r₁, q⟩) fun _ _ x => x)
theorem Ex.retNone {pos : Pos} (q : Q (.ret .none) ρ H) : Ex c (.Return none pos) ρ H Q X :=
  fun z _ S => of (wpAny_Return_none ⟨.ret .none, z, ρ, H, Le.refl z, S, .ret .none, q⟩)
theorem Ex.pass {pos : Pos} (q : Q .next ρ H) : Ex c (.Pass pos) ρ H Q X := fun z _ S => of (wpAny_Pass ⟨.next, z, ρ, H, Le.refl z, S, .next, q⟩)
theorem Ex.brk {pos : Pos} (q : Q .brk ρ H) : Ex c (.Break pos) ρ H Q X := fun z _ S => of (wpAny_Break ⟨.brk, z, ρ, H, Le.refl z, S, .brk, q⟩)
theorem Ex.ite {t : Expr} {b o : List Stmt} {pos : Pos} (h : Tt c t ρ H (fun r H₁ => (r = true → Exs c b ρ H₁ Q X) ∧ (r = false → Exs c o ρ H₁ Q X)) X) : Ex c (.If t b o pos) ρ H Q X :=
  fun z s S => wpR_If (wpR_mono (h z s S) (fun r s₁ ⟨z₁, H₁, le₁, S₁, h₁⟩ => by
    cases r with
    | true => exact carryS le₁ (h₁.1 rfl z₁ s₁ S₁)
    | false => exact carryS le₁ (h₁.2 rfl z₁ s₁ S₁)) fun _ _ x => x)
theorem Ex.expr {e : Expr} {pos : Pos} (h : Ev c e ρ H (fun _ H₁ => Q .next ρ H₁) X)
    (hi : interactive c.env = false := by rfl) (hs : swapsWith e none pos.line c.env = pure false := by rfl) : Ex c (.Expr e pos) ρ H Q X :=
  fun z s S => wpR_Expr_any (wpR_mono (h z s S) (fun val s₁ ⟨a, z₁, H₁, le₁, S₁, r₁, q⟩ => ⟨.next, z₁, ρ, H₁, le₁, S₁, .next, q⟩) fun _ _ x => x) hi hs

theorem store {z : FZ} {s : Shared} {x : Str} {v : V} {val : Value} {ρ' : Loc} {E : Value → Shared → Prop} {Q : Unit → Shared → Prop} (S : St c z ρ H s) (U : Put x v ρ ρ') (hr : VR z v val)
    (q : ∀ s', St c z ρ' H s' → Q () s') : wpAny c.M c.A (storeName c.env x val) Q E s := by
  obtain ⟨m, hn, hm⟩ := S.loc
  obtain ⟨o, ho⟩ := U.mem
  obtain ⟨k, d⟩ := S.lk _ ho
  exact wpAny_storeName_local k hn (fun h' hn' hs' => q _ (S.put (n := s.toks + 1) U hr hn hm hn' hs')) (by rw [S.ok.kind]; rfl)
theorem Ex.assign {x : Str} {p' : Pos} {e : Expr} {pos : Pos} (h : Ev c e ρ H (fun v H₁ => ∃ ρ', Put x v ρ ρ' ∧ Q .next ρ' H₁) X)
    (hs : ∀ env, swapsWith e (some (.Name x p')) pos.line env = pure false := by intro; rfl) : Ex c (.Assign [.Name x p'] e pos) ρ H Q X :=
  fun z s S => wpR_Assign_Name (wpR_mono (h z s S) (fun val s₁ ⟨a, z₁, H₁, le₁, S₁, r₁, ρ', U, q⟩ => of (store S₁ U r₁ fun s' S' => ⟨.next, z₁, ρ', H₁, le₁, S', .next, q⟩)) fun _ _ x => x) (hs _)
theorem Ex.aug {x : Str} {p' : Pos} {op : Operator} {e : Expr} {pos : Pos} {v : V} (hx : (x, some v) ∈ ρ) (h : Ev c e ρ H (fun b H₁ => Do2 c v b (inplaceOp op) ρ H₁ (fun r H₂ => ∃ ρ', Put x r ρ ρ' ∧ Q .next ρ' H₂) X) X) :
    Ex c (.AugAssign (.Name x p') op e pos) ρ H Q X := fun z s S => by
  obtain ⟨m, hn, hm⟩ := S.loc
  obtain ⟨val, a, b⟩ := hm x v hx
  obtain ⟨k, d⟩ := S.lk _ hx
  refine wpR_AugAssign_Name (of (wpAny_loadName_local S.ok.kind k hn a (wpR_mono (h z s S) (fun val₁ s₁ ⟨w, z₁, H₁, le₁, S₁, r₁, h₁⟩ => ?_) fun _ _ x => x)))
  refine wpR_mono (h₁ z₁ s₁ _ _ S₁ (b.mono le₁) r₁) (fun val₂ s₂ ⟨r, z₂, H₂, le₂, S₂, r₂, ρ', U, q⟩ => ?_) fun _ _ => PostX.le le₁
  exact of (store S₂ U r₂ fun s' S' => ⟨.next, z₂, ρ', H₂, le₁.trans le₂, S', .next, q⟩)
/-- a cut behind a statement -/
theorem Ex.mono {st : Stmt} {Q' : Fl → Loc → Hp → Prop} {X' : XP} (h : Ex c st ρ H Q' X') (hq : ∀ f ρ H, Q' f ρ H → Q f ρ H) (hx : ∀ e ρ H, X' e ρ H → X e ρ H) : Ex c st ρ H Q X :=
  fun z s S => wpR_mono (h z s S) (fun _ _ ⟨fl, z₁, ρ₁, H₁, le₁, S₁, r₁, q⟩ => ⟨fl, z₁, ρ₁, H₁, le₁, S₁, r₁, hq _ _ _ q⟩) fun _ _ ⟨cls, z₁, ρ₁, H₁, a, e, le₁, S₁, x, q⟩ => ⟨cls, z₁, ρ₁, H₁, a, e, le₁, S₁, x, hx _ _ _ q⟩
theorem Exs.mono {st : List Stmt} {Q' : Fl → Loc → Hp → Prop} {X' : XP} (h : Exs c st ρ H Q' X') (hq : ∀ f ρ H, Q' f ρ H → Q f ρ H) (hx : ∀ e ρ H, X' e ρ H → X e ρ H) : Exs c st ρ H Q X :=
  fun z s S => wpR_mono (h z s S) (fun _ _ ⟨fl, z₁, ρ₁, H₁, le₁, S₁, r₁, q⟩ => ⟨fl, z₁, ρ₁, H₁, le₁, S₁, r₁, hq _ _ _ q⟩) fun _ _ ⟨cls, z₁, ρ₁, H₁, a, e, le₁, S₁, x, q⟩ => ⟨cls, z₁, ρ₁, H₁, a, e, le₁, S₁, x, hx _ _ _ q⟩
/-- what is tracked: in another order, or forgotten -/
theorem Exs.sub {st : List Stmt} {H' G : Hp} (hp : H.Perm (H' ++ G)) (h : Exs c st ρ H' Q X) : Exs c st ρ H Q X := fun z s S => h z s (S.sub ⟨G, hp⟩)
end
end
section

section
variable {c : Cx} {z : FZ} {ρ : Loc} {H : Hp} {s : Shared}
/-- the heap has grown by what nobody will name -/
theorem St.grow (S : St c z ρ H s) {h' : Heap} {n : Nat} (k : ∀ b o, s.heap.get? b = some o → h'.get? b = some o) : St c z ρ H { s with heap := h', toks := n } :=
  S.heap (Le.refl z) (fun b o' e => k _ _ (S.fin b o' e)) S.vol S.nodup (fun _ _ _ e => same_slots (k _ _ e))
    (fun q hq => let ⟨ob, e, r⟩ := S.own q hq; ⟨ob, k _ _ e, r⟩) (fun _ e => same_slots (k _ _ e))
theorem St.get_vol (S : St c z ρ H s) {a : Addr} (ha : a ∈ c.vol H) : ∃ o, s.heap.get? a = some o := by
  unfold Cx.vol at ha
  rcases List.mem_cons.mp ha with h | h
  · obtain ⟨m, ⟨o, _, _, e, _⟩, _⟩ := S.loc
    exact ⟨o, h ▸ e⟩
  · rcases List.mem_append.mp h with h | h
    · obtain ⟨q, hq, e⟩ := List.mem_map.mp h
      obtain ⟨sl, e'⟩ := S.kp q hq
      exact ⟨_, e ▸ e'⟩
    · obtain ⟨q, hq, e⟩ := List.mem_map.mp h
      obtain ⟨ob, e', _⟩ := S.own q hq
      exact ⟨_, e ▸ e'⟩
theorem St.new_vol (S : St c z ρ H s) {a : Addr} (ha : s.heap.get? a = none) : a ∉ c.vol H := fun h => by
  obtain ⟨o, e⟩ := S.get_vol h
  rw [ha] at e; cases e
theorem St.new_z (S : St c z ρ H s) {a : Addr} (ha : s.heap.get? a = none) : z a = none := by
  cases q : z a with
  | none => rfl
  | some o => have := S.fin a o q; rw [ha] at this; cases this
/-- and by an object that stands -/
theorem St.growZ (S : St c z ρ H s) {h' : Heap} {n : Nat} {a : Addr} {o : Obj} (k : ∀ b o, s.heap.get? b = some o → h'.get? b = some o) (ha : s.heap.get? a = none) (he : h'.get? a = some o) :
    St c (z.put a o) ρ H { s with heap := h', toks := n } :=
  S.heap (FZ.put_le (S.new_z ha)) (fun b o' e => by
      unfold FZ.put at e
      by_cases q : b = a
      · rw [if_pos q] at e; cases e; rw [q]; exact he
      · rw [if_neg q] at e; exact k _ _ (S.fin b o' e))
    (fun b hb => by
      have q : b ≠ a := fun q => S.new_vol ha (q ▸ hb)
      unfold FZ.put
      rw [if_neg q]; exact S.vol b hb) S.nodup (fun _ _ _ e => same_slots (k _ _ e))
    (fun q hq => let ⟨ob, e, r⟩ := S.own q hq; ⟨ob, k _ _ e, r.mono (FZ.put_le (S.new_z ha))⟩) (fun _ e => same_slots (k _ _ e))
/-- and by an object that is tracked -/
theorem St.growT (S : St c z ρ H s) {h' : Heap} {n : Nat} {a : Addr} {o : Obj} {ob : AObj} (k : ∀ b o, s.heap.get? b = some o → h'.get? b = some o) (ha : s.heap.get? a = none) (he : h'.get? a = some o) (hr : OR c.P z ob o) :
    St c z ρ ((a, ob) :: H) { s with heap := h', toks := n } :=
  S.heap (Le.refl z) (fun b o' e => k _ _ (S.fin b o' e))
    (fun b hb => by
      rcases List.mem_cons.mp (vol_cons.mem_iff.mp hb) with rfl | h
      · exact S.new_z ha
      · exact S.vol b h)
    (vol_cons.nodup_iff.mpr (List.nodup_cons.mpr ⟨S.new_vol ha, S.nodup⟩)) (fun _ _ _ e => same_slots (k _ _ e))
    (fun q hq => by
      rcases List.mem_cons.mp hq with rfl | hq
      · exact ⟨o, he, hr⟩
      · obtain ⟨ob, e, r⟩ := S.own q hq; exact ⟨ob, k _ _ e, r⟩) (fun _ e => same_slots (k _ _ e))
theorem St.hl (S : St c z ρ H s) {a : Addr} {xs : List V} (h : (a, .list xs) ∈ H) : ∃ vs, s.heap.IsList a vs.toArray ∧ VRs z xs vs := by
  obtain ⟨ob, e, r⟩ := S.own _ h
  cases r with
  | list r => exact ⟨_, ⟨_, e, rfl, _, rfl⟩, r⟩
theorem St.hlz (S : St c z ρ H s) {xs : List V} {v : Value} (h : VR z (.lst xs) v) : ∃ a vs, v = .ref a ∧ s.heap.IsList a vs.toArray ∧ VRs z xs vs := by
  cases h with
  | lst e c d r => exact ⟨_, _, rfl, ⟨_, S.fin _ _ e, c, _, d⟩, r⟩
theorem St.htz (S : St c z ρ H s) {xs : List V} {v : Value} (h : VR z (.tup xs) v) : ∃ a vs, v = .ref a ∧ IsTup s.heap a vs.toArray ∧ VRs z xs vs := by
  cases h with
  | tup e c d r => exact ⟨_, _, rfl, ⟨_, S.fin _ _ e, c, _, d⟩, r⟩
theorem St.small (S : St c z ρ H s) : c.A.units < cLine := by have := S.ok.units; omega
end

section
variable {c : Cx} {H : Hp}
-- ints
theorem Is.add {a b : Int} : Is2 c H (binaryOp .Add) (.int a) (.int b) (.int (a + b)) := fun z ρ s v w Q E S hv hw h => by
  cases hv; cases hw; exact add_int (h _ _ (.int _ _))
theorem Is.sub {a b : Int} : Is2 c H (binaryOp .Sub) (.int a) (.int b) (.int (a - b)) := fun z ρ s v w Q E S hv hw h => by
  cases hv; cases hw; exact sub_int (h _ _ (.int _ _))
theorem Is.mul {a b : Int} (hm : IntMulOk a b) : Is2 c H (binaryOp .Mult) (.int a) (.int b) (.int (a * b)) := fun z ρ s v w Q E S hv hw h => by
  cases hv; cases hw; exact mul_int (h _ _ (.int _ _)) hm
theorem Is.mod {a b : Int} (hb : b ≠ 0) : Is2 c H (binaryOp .Mod) (.int a) (.int b) (.int (a.fmod b)) := fun z ρ s v w Q E S hv hw h => by
  cases hv; cases hw; exact mod_int' hb (h _ _ (.int _ _))
theorem Is.fdiv {a b : Int} (hb : b ≠ 0) (hs : b.natAbs < 1073741824) : Is2 c H (binaryOp .FloorDiv) (.int a) (.int b) (.int (a.fdiv b)) := fun z ρ s v w Q E S hv hw h => by
  cases hv; cases hw; exact floordiv_int hb (h _ _ (.int _ _)) (.inl (PyProof.noPylong_small hs))
theorem Is.pow {a n : Int} (hn : 0 ≤ n) (hn2 : n ≤ 1000000) (ha : a.natAbs < 2 ^ 64) : Is2 c H (binaryOp .Pow) (.int a) (.int n) (.int (a ^ n.toNat)) := fun z ρ s v w Q E S hv hw h => by
  cases hv; cases hw; exact pow_int_small hn hn2 ha (h _ _ (.int _ _))
theorem Is.band {a b : Int} : Is2 c H (binaryOp .BitAnd) (.int a) (.int b) (.int (Builtin.bitAnd a b)) := fun z ρ s v w Q E S hv hw h => by
  cases hv; cases hw; exact and_int (h _ _ (.int _ _))
theorem Is.bxor {a b : Int} : Is2 c H (binaryOp .BitXor) (.int a) (.int b) (.int (Builtin.bitXor a b)) := fun z ρ s v w Q E S hv hw h => by
  cases hv; cases hw; exact xor_int (h _ _ (.int _ _))
theorem Is.neg {a : Int} : Is1 c H (unaryOp .USub) (.int a) (.int (-a)) := fun z ρ s v Q E S hv h => by
  cases hv; exact PyProof.Rows.neg_int (h _ _ (.int _ _))
theorem Is.iadd {a b : Int} : Is2 c H (inplaceOp .Add) (.int a) (.int b) (.int (a + b)) := fun z ρ s v w Q E S hv hw h => by
  cases hv; cases hw; exact wpAny_iadd_int (h _ _ (.int _ _))
-- comparisons
theorem Is.lt {a b : Int} : Is2 c H (compareOp .Lt) (.int a) (.int b) (.bool (decide (a < b))) := fun z ρ s v w Q E S hv hw h => by
  cases hv; cases hw; exact lt_int (h _ s.toks (.bool _))
theorem Is.le {a b : Int} : Is2 c H (compareOp .LtE) (.int a) (.int b) (.bool (decide (a ≤ b))) := fun z ρ s v w Q E S hv hw h => by
  cases hv; cases hw; exact le_int (h _ s.toks (.bool _))
theorem Is.gt {a b : Int} : Is2 c H (compareOp .Gt) (.int a) (.int b) (.bool (decide (b < a))) := fun z ρ s v w Q E S hv hw h => by
  cases hv; cases hw; exact gt_int (h _ s.toks (.bool _))
theorem Is.ge {a b : Int} : Is2 c H (compareOp .GtE) (.int a) (.int b) (.bool (decide (b ≤ a))) := fun z ρ s v w Q E S hv hw h => by
  cases hv; cases hw; exact ge_int (h _ s.toks (.bool _))
theorem Is.eq {a b : Int} : Is2 c H (compareOp .Eq) (.int a) (.int b) (.bool (decide (a = b))) := fun z ρ s v w Q E S hv hw h => by
  cases hv; cases hw
  have e : (a == b) = decide (a = b) := rfl
  exact eq_int (e ▸ h _ s.toks (.bool _))
theorem Is.ne {a b : Int} : Is2 c H (compareOp .NotEq) (.int a) (.int b) (.bool (decide (a ≠ b))) := fun z ρ s v w Q E S hv hw h => by
  cases hv; cases hw
  have e : (a != b) = decide (a ≠ b) := by by_cases q : a = b <;> simp [q]
  exact ne_int (e ▸ h _ s.toks (.bool _))
theorem Is.neBool {a b : Bool} : Is2 c H (compareOp .NotEq) (.bool a) (.bool b) (.bool (a != b)) := fun z ρ s v w Q E S hv hw h => by
  cases hv; cases hw; exact ne_bool (h _ s.toks (.bool _))
theorem Is.eqStr {a b : Str} : Is2 c H (compareOp .Eq) (.str a) (.str b) (.bool (a == b)) := fun z ρ s v w Q E S hv hw h => by
  cases hv; cases hw; exact PyProof.Rows.eq_str (h _ s.toks (.bool _))
theorem Is.neStr {a b : Str} : Is2 c H (compareOp .NotEq) (.str a) (.str b) (.bool (a != b)) := fun z ρ s v w Q E S hv hw h => by
  cases hv; cases hw; exact PyProof.Rows.ne_str (h _ s.toks (.bool _))
theorem Is.eqBytes {a b : Array UInt8} : Is2 c H (compareOp .Eq) (.bytes a) (.bytes b) (.bool (a.toList == b.toList)) := fun z ρ s v w Q E S hv hw h => by
  cases hv; cases hw; exact PySem.W.eq_bytes (h _ s.toks (.bool _))
theorem Is.neBytes {a b : Array UInt8} : Is2 c H (compareOp .NotEq) (.bytes a) (.bytes b) (.bool (a.toList != b.toList)) := fun z ρ s v w Q E S hv hw h => by
  cases hv; cases hw; exact PySem.W.ne_bytes (h _ s.toks (.bool _))
/-- is None -/
def V.isNone : V → Bool
  | .none => true
  | _ => false
theorem VR.none_iff {z : FZ} {x : V} {v : Value} (h : VR z x v) : (v == Value.none) = x.isNone := by cases h <;> rfl
theorem Is.isNone {x : V} : Is2 c H (compareOp .Is) x .none (.bool x.isNone) := fun z ρ s v w Q E S hv hw h => by
  cases hw; exact is_none (by rw [hv.none_iff]; exact h _ s.toks (.bool _))
theorem Is.notNone {x : V} : Is2 c H (compareOp .IsNot) x .none (.bool (!x.isNone)) := fun z ρ s v w Q E S hv hw h => by
  cases hw; exact isNot_none (by rw [hv.none_iff]; exact h _ s.toks (.bool _))
-- truth
theorem Tr.bool {b : Bool} : Tr c H (.bool b) b := fun z ρ s v Q E S hv h => by cases hv; exact wpAny_truthy_bool (h s.toks)
theorem Tr.int {a : Int} : Tr c H (.int a) (decide (a ≠ 0)) := fun z ρ s v Q E S hv h => by
  cases hv
  have e : (a != 0) = decide (a ≠ 0) := by by_cases q : a = 0 <;> simp [q]
  exact PyProof.Rows.truthy_int (e ▸ h s.toks)
theorem Tr.none : Tr c H .none false := fun z ρ s v Q E S hv h => by cases hv; exact PyProof.Rows.truthy_none (h s.toks)
theorem Tr.bytes {b : Array UInt8} (hb : b.size ≤ 1000000) : Tr c H (.bytes b) (decide (b.size ≠ 0)) := fun z ρ s v Q E S hv h => by
  cases hv
  have e : ((b.size : Int) != 0) = decide (b.size ≠ 0) := by
    by_cases q : b.size = 0
    · simp [q]
    · have : (b.size : Int) ≠ 0 := by omega
      simp [q, this]
  exact PySem.W.truthy_bytes (by omega) (e ▸ h _)
theorem listEmpty {vs : List Value} {xs : List V} (h : vs.length = xs.length) : (!vs.toArray.isEmpty) = decide (xs ≠ []) := by
  cases vs <;> cases xs <;> simp_all
theorem Tr.list {a : Addr} {xs : List V} (h : (a, .list xs) ∈ H) (hb : xs.length ≤ 1000000) : Tr c H (.ref a) (decide (xs ≠ [])) := fun z ρ s v Q E S hv hq => by
  cases hv
  obtain ⟨vs, hl, hr⟩ := S.hl h
  refine wpAny_truthy_list hl (by rw [List.size_toArray, hr.length]; omega) ?_
  rw [listEmpty hr.length]; exact hq _
theorem Tr.lst {xs : List V} (hb : xs.length ≤ 1000000) : Tr c H (.lst xs) (decide (xs ≠ [])) := fun z ρ s v Q E S hv hq => by
  obtain ⟨a, vs, rfl, hl, hr⟩ := S.hlz hv
  refine wpAny_truthy_list hl (by rw [List.size_toArray, hr.length]; omega) ?_
  rw [listEmpty hr.length]; exact hq _
theorem Is.not {x : V} {b : Bool} (h : Tr c H x b) : Is1 c H (unaryOp .Not) x (.bool (!b)) := fun z ρ s v Q E S hv hq =>
  not_of (h z ρ s v _ _ S hv fun n => hq _ n (.bool _))
-- bytes
theorem Is.addBytes {a b : Array UInt8} (h : a.size + b.size ≤ 16777216) : Is2 c H (binaryOp .Add) (.bytes a) (.bytes b) (.bytes (a ++ b)) := fun z ρ s v w Q E S hv hw hq => by
  cases hv; cases hw; exact PySem.W.KBy.add_bytes h fun t k => hq _ _ (.bytes _ _)
end
end
section

/-- the frame at hand is that of a def -/
structure Cx.Own (c : Cx) : Prop where
  fr : c.env.frame = some c.L
  top : ∃ r, c.frl = c.env :: r

section
variable {c : Cx} {z : FZ} {ρ : Loc} {H : Hp} {s : Shared}
theorem St.funFrames (S : St c z ρ H s) : s.heap.FunFrames {} c.frl := by
  have key : ∀ l : List Env, (∀ e ∈ l, e ∈ c.frl) → s.heap.FunFrames {} l := by
    intro l
    induction l with
    | nil => intro _; trivial
    | cons e r ih =>
      intro h
      obtain ⟨hk, a, hf, ha⟩ := S.ok.frs e (h e (.head _))
      refine ⟨hk, ?_, ih fun e' he => h e' (.tail _ he)⟩
      rcases ha with rfl | ⟨o, ho, hd⟩
      · obtain ⟨m, ⟨o, es, ep, ho, hd, _⟩, _⟩ := S.loc
        exact ⟨c.L, o, hf, rfl, ho, fun vs q => by rw [hd] at q; cases q⟩
      · obtain ⟨sl, e'⟩ := S.kp _ ho
        exact ⟨a, _, hf, rfl, e', hd⟩
  exact key _ fun _ h => h
theorem St.frame_vol (S : St c z ρ H s) {b : Addr} (hb : b ∈ c.frl.filterMap (·.frame)) : b = c.L ∨ b ∈ c.kp.map (·.1) := by
  obtain ⟨e, he, hf⟩ := List.mem_filterMap.mp hb
  obtain ⟨_, a, hf', ha⟩ := S.ok.frs e he
  rw [hf] at hf'
  cases hf'
  rcases ha with h | ⟨o, ho, _⟩
  · exact .inl h
  · exact .inr (List.mem_map_of_mem (f := (·.1)) ho)
/-- some slots of the frames have changed -/
theorem St.slots (S : St c z ρ H s) {h' : Heap} (k : Heap.SlotsOnly (c.frl.filterMap (·.frame)) s.heap h') {n : Nat} : St c z ρ H { s with heap := h', toks := n } := by
  have out : ∀ {b : Addr}, z b ≠ none → b ∉ c.frl.filterMap (·.frame) := fun {b} hz hb => by
    rcases S.frame_vol hb with h | h
    · exact hz (h ▸ S.vol _ mem_vol_L)
    · obtain ⟨q, hq, e⟩ := List.mem_map.mp h
      exact hz (e ▸ S.vol _ (mem_vol_kp hq))
  have outH : ∀ {q : Addr × AObj}, q ∈ H → q.1 ∉ c.frl.filterMap (·.frame) := fun {q} hq hb => by
    rcases S.frame_vol hb with h | h
    · exact S.ne_L hq h.symm
    · obtain ⟨q', hq', e⟩ := List.mem_map.mp h
      exact S.ne_kp hq hq' e
  exact S.heap (Le.refl z) (fun b o e => (k.2.1 b (out (by rw [e]; exact fun h => nomatch h))).trans (S.fin b o e)) S.vol S.nodup (fun q hq o e => k.2.2 _ _ e)
    (fun q hq => let ⟨ob, e, r⟩ := S.own q hq; ⟨ob, (k.2.1 _ (outH hq)).trans e, r⟩) (fun o e => k.2.2 _ _ e)
/-- an object that nobody names has changed -/
theorem St.out (S : St c z ρ H s) {a : Addr} (ha : z a = none) (hv : a ∉ c.vol H) {h' : Heap} (k : Heap.SameBut a s.heap h') {n : Nat} : St c z ρ H { s with heap := h', toks := n } :=
  S.heap (Le.refl z) (fun b o e => (k.2 b fun q => by rw [q, ha] at e; cases e).trans (S.fin b o e)) S.vol S.nodup
    (fun q hq o e => same_slots ((k.2 _ fun q' => hv (q' ▸ mem_vol_kp hq)).trans e))
    (fun q hq => let ⟨ob, e, r⟩ := S.own q hq; ⟨ob, (k.2 _ fun q' => hv (q' ▸ mem_vol_H hq)).trans e, r⟩) (fun o e => same_slots ((k.2 _ fun q' => hv (q' ▸ mem_vol_L)).trans e))

theorem ExcAt.keep {e : Addr} {cls : Value} {b : Bool} {h h' : Heap} (x : ExcAt c z H h e cls b) (k : ∀ a o, z a = none → a ∉ c.vol H → h.get? a = some o → h'.get? a = some o) : ExcAt c z H h' e cls b := by
  obtain ⟨⟨o1, o2⟩, oe, vs, h1, h2, h3, h4, hc2, h5⟩ := x
  refine ⟨⟨o1, o2⟩, oe, vs, k _ _ o1 o2 h1, h2, h3, h4, hc2, ?_⟩
  rcases h5 with h | ⟨T, oT, ts, t1, t2, t3, t4, t5, t6⟩
  · exact .inl h
  · exact .inr ⟨T, oT, ts, t1, t2, t3, t4, k _ _ t2 t3 t5, t6⟩

theorem isFreed_of_fields' {o : Obj} {vs} (h : o.data = .fields vs) : o.isFreed = false := Obj.isFreed_of_fields h

/-- the flight is set, whatever to -/
theorem setFlight_St {M : Model} {A : Around} {e : Addr} {cls : Value} {b : Bool} {fr : Option Addr} {E : Value → Shared → Prop} {Q : Unit → Shared → Prop} (S : St c z ρ H s) (x : ExcAt c z H s.heap e cls b)
    (q : ∀ h', St c z ρ H { s with heap := h' } → ExcAt c z H h' e cls b → Q () { s with heap := h' }) : wpAny M A (setFlight (.ref e) fr) Q E s := by
  obtain ⟨⟨o1, o2⟩, oe, vs, h1, h2, h3, h4, hc2, h5⟩ := x
  unfold setFlight
  rcases h5 with ⟨h, hb⟩ | ⟨T, oT, ts, t1, t2, t3, t4, t5, t6, t7⟩
  · refine wpAny_bind (wpAny_field h1 h3 h ?_)
    rw [if_neg (by decide)]
    exact wpAny_pure (q s.heap S ⟨⟨o1, o2⟩, oe, vs, h1, h2, h3, h4, hc2, .inl ⟨h, hb⟩⟩)
  · refine wpAny_bind (wpAny_field h1 h3 t1 ?_)
    rw [if_pos (show (Value.ref T != Value.none) = true from by simp)]
    refine wpAny_setField t5 t6 (by omega) (q _ (S.out (n := s.toks) t2 t3 (Heap.SameBut.update ..)) ⟨⟨o1, o2⟩, oe, vs, (Heap.get?_update_other _ _ t4).trans h1, h2, h3, h4, hc2, .inr ⟨T, _, _, t1, t2, t3, t4, Heap.get?_update_self _ t5 (Obj.isFreed_of_fields (Obj.data_mapFields t6 _)), Obj.data_mapFields t6 _, by simpa using t7⟩⟩)

theorem newEntry_St {A : Around} {M : Model} {e : Addr} {cls head : Value} {b hn : Bool} {E : Value → Shared → Prop} {Q : Unit → Shared → Prop} (O : c.Own) (hA : A.frames = c.A.frames) (S : St c z ρ H s) (x : ExcAt c z H s.heap e cls b)
    (q : ∀ h', St c z ρ H { s with heap := h' } → ExcAt c z H h' e cls true → Q () { s with heap := h' }) :
    wpAny M A (do let a ← frameOf c.env; let pl ← entryPlaceOf c.L hn; let t ← EntryCells.newEntry head a .none (rawInt c.L) .none pl; setField (.ref e) 1 t) Q E s := by
  obtain ⟨⟨o1, o2⟩, oe, vs, h1, h2, h3, h4, hc2, h5⟩ := x
  obtain ⟨r, hr⟩ := O.top
  have hF := S.funFrames
  refine wpAny_bind (wpAny_frameOf_fun (L := c.L) (outer := r) (hA.trans (by rw [S.ok.frames, hr])) (hr ▸ hF) O.fr fun h₁ hs₁ => ?_)
  rw [← hr] at hs₁
  have S₁ := S.slots (n := s.toks) hs₁
  refine wpAny_bind (wpAny_entryPlaceOf fun pl hpl => ?_)
  unfold EntryCells.newEntry newFields
  refine wpAny_bind (wpAny_newObj_type ?_ (hpl.sizeOk5 _ _ _ _ _))
  have he : e ∉ c.frl.filterMap (·.frame) := fun hb => by
    rcases S.frame_vol hb with h | h
    · exact o2 (h ▸ mem_vol_L)
    · obtain ⟨q', hq', e'⟩ := List.mem_map.mp h
      exact o2 (e' ▸ mem_vol_kp hq')
  have he₁ : h₁.get? e = some oe := (hs₁.2.1 e he).trans h1
  have S₂ := S₁.push (n := s.toks) { cls := .type "traceback", dict := none, data := .fields ([head, .ref c.L, .none, rawInt c.L, .none] ++ (if pl.isEmpty then List.replicate 6 Value.none else pl)).toArray }
  have he₂ := Heap.get?_push_of_some (h := h₁) { cls := .type "traceback", dict := none, data := .fields ([head, .ref c.L, .none, rawInt c.L, .none] ++ (if pl.isEmpty then List.replicate 6 Value.none else pl)).toArray } he₁
  have hTe : e ≠ h₁.objs.size := Nat.ne_of_lt (Heap.lt_size he₁)
  refine wpAny_setField he₂ h3 (by omega) (q _ (S₂.out (n := s.toks) o1 o2 (Heap.SameBut.update ..)) ⟨⟨o1, o2⟩, _, _, Heap.get?_update_self _ he₂ (Obj.isFreed_of_fields (Obj.data_mapFields h3 _)), (Obj.cls_mapFields _ _).trans h2, Obj.data_mapFields h3 _, by simpa using h4, fun hne => by rw [Array.getElem?_setIfInBounds_ne (by decide)]; exact hc2 hne,
    .inr ⟨h₁.objs.size, _, _, by rw [Array.getElem?_setIfInBounds_self]; rw [if_pos (by omega)], S₁.fresh, S₁.fresh_vol, hTe.symm, (Heap.get?_update_other _ _ hTe).trans (Heap.get?_push_size _ rfl), rfl, ?_⟩⟩)
  simp only [List.size_toArray, List.length_append, List.length_cons, List.length_nil]; omega

/-- the frame is noted -/
theorem noteFrame_St {A : Around} {M : Model} {e : Addr} {cls : Value} {b : Bool} {E : Value → Shared → Prop} {Q : Unit → Shared → Prop} (O : c.Own) (hA : A.frames = c.A.frames) (S : St c z ρ H s) (x : ExcAt c z H s.heap e cls b)
    (q : ∀ h', St c z ρ H { s with heap := h' } → ExcAt c z H h' e cls true → Q () { s with heap := h' }) : wpAny M A (noteFrame (.ref e) c.env) Q E s := by
  have x' := x
  obtain ⟨⟨o1, o2⟩, oe, vs, h1, h2, h3, h4, hc2, h5⟩ := x
  unfold noteFrame
  simp only [O.fr]
  rcases h5 with ⟨h, hb⟩ | ⟨T, oT, ts, t1, t2, t3, t4, t5, t6, t7⟩
  · refine wpAny_bind (wpAny_field h1 h3 h ?_)
    rw [if_neg (by decide)]
    exact newEntry_St O hA S x' q
  · refine wpAny_bind (wpAny_field h1 h3 t1 ?_)
    rw [if_pos (show (Value.ref T != Value.none) = true from by simp)]
    obtain ⟨f3, hf3⟩ : ∃ v, ts[3]? = some v := ⟨ts[3], Array.getElem?_eq_getElem (by omega)⟩
    refine wpAny_bind (wpAny_field t5 t6 hf3 ?_)
    by_cases hq : (f3 == rawInt c.L) = true
    · rw [if_pos hq]
      exact wpAny_pure (q s.heap S ⟨⟨o1, o2⟩, oe, vs, h1, h2, h3, h4, hc2, .inr ⟨T, oT, ts, t1, t2, t3, t4, t5, t6, t7⟩⟩)
    · rw [if_neg hq]
      refine wpAny_bind (wpAny_setField t5 t6 (by omega) ?_)
      have S₁ := S.out (n := s.toks) t2 t3 (Heap.SameBut.update s.heap T (Obj.mapFields (·.setIfInBounds 3 Value.none)))
      refine newEntry_St O hA S₁ (b := true) ⟨⟨o1, o2⟩, oe, vs, (Heap.get?_update_other _ _ t4).trans h1, h2, h3, h4, hc2, .inr ⟨T, _, _, t1, t2, t3, t4, Heap.get?_update_self _ t5 (Obj.isFreed_of_fields (Obj.data_mapFields t6 _)), Obj.data_mapFields t6 _, by simpa using t7⟩⟩ q
/-- the frame is left -/
theorem leaving_St {A : Around} {M : Model} {e : Addr} {cls : Value} {b : Bool} {E : Value → Shared → Prop} {Q : Unit → Shared → Prop} (O : c.Own) (hA : A.frames = c.A.frames) (S : St c z ρ H s) (x : ExcAt c z H s.heap e cls b)
    (q : ∀ h', St c z ρ H { s with heap := h' } → ExcAt c z H h' e cls true → Q () { s with heap := h' }) : wpAny M A (leaving c.env (.ref e)) Q E s := by
  unfold leaving
  exact wpAny_bind (noteFrame_St O hA S x fun h' S' x' => setFlight_St S' x' q)
end

def Fl.val : Fl → V
  | .ret v => v
  | _ => .none

inductive BR (z : FZ) : List (Str × V) → List (Str × Value) → Prop
  | nil : BR z [] []
  | cons {x : Str} {v : V} {val : Value} {bs : List (Str × V)} {bn : List (Str × Value)} : VR z v val → BR z bs bn → BR z ((x, v) :: bs) ((x, val) :: bn)
theorem BR.keys {z : FZ} : ∀ {bs : List (Str × V)} {bn : List (Str × Value)}, BR z bs bn → bn.map (·.1) = bs.map (·.1)
  | _, _, .nil => rfl
  | _, _, .cons _ r => by rw [List.map_cons, List.map_cons, r.keys]
theorem BR.get {z : FZ} : ∀ {bs : List (Str × V)} {bn : List (Str × Value)}, BR z bs bn → ∀ {x : Str} {v : V}, (x, v) ∈ bs → ∃ val, (x, val) ∈ bn ∧ VR z v val
  | _, _, .cons h r, x, v, hm => by
    rcases List.mem_cons.mp hm with e | hm
    · cases e; exact ⟨_, .head _, h⟩
    · obtain ⟨val, a, b⟩ := r.get hm; exact ⟨val, .tail _ a, b⟩
theorem lookup_of_mem {x : Str} {v : Value} : ∀ {l : List (Str × Value)}, (l.map (·.1)).Nodup → (x, v) ∈ l → l.lookup x = some v
  | (y, w) :: r, nd, hm => by
    rw [List.map_cons, List.nodup_cons] at nd
    rcases List.mem_cons.mp hm with e | hm
    · cases e; simp [List.lookup]
    · have : (x == y) = false := beq_eq_false_iff_ne.mpr fun e => nd.1 (e ▸ List.mem_map_of_mem (f := (·.1)) hm)
      simp only [List.lookup, this]
      exact lookup_of_mem nd.2 hm

def locOf (bs : List (Str × V)) (rest : List Str) : Loc := bs.map (fun p => (p.1, some p.2)) ++ rest.map fun x => (x, none)

/-- a look at a def: what the walk of its body needs -/
def fnOK (scope : Scope) (names : List Str) : Bool :=
  decide (scope.kind = .function) && !scope.isGenerator && !scope.isCoroutine && (scope.names.all fun x => decide (x.2 ≠ .cell)) && (names.all fun x => decide (scope.names.lookup x = some .local) && !(x == ("__debug__" : Str))) && decide names.Nodup

structure Callee (c c' : Cx) (scope : Scope) (cells : List (Str × Addr)) : Prop where
  p : c'.p = c.p
  w : c'.w = c.w
  K : c'.K = c.K
  h₀ : c'.h₀ = c.h₀
  rm : c'.rm + 1 = c.rm
  gl : c'.gl = c.gl
  handled : c'.A.handled = c.A.handled
  own : c'.Own
  scope : c'.env.scope = scope
  cells : c'.env.cells = cells

section
variable {c : Cx} {ρ : Loc} {H : Hp} {Q : V → Hp → Prop} {X : XP}

theorem postV_back {c' : Cx} {z z' : FZ} {ρ' : Loc} {H' : Hp} {s s' : Shared} {oL : Obj} (S : St c z ρ H s) (hL : s.heap.get? c.L = some oL) (hkp : c'.kp = (c.L, oL) :: c.kp) (hw : c'.w = c.w) (hos : c'.os = c.os) (hh : c'.h₀ = c.h₀)
    (le : Le z z') (S' : St c' z' ρ' H' s') : St c z' ρ H' s' := by
  have hv : c'.vol H' = c'.L :: c.vol H' := by unfold Cx.vol; rw [hkp]; rfl
  have hP : c'.P = c.P := by show c'.w.params = c.w.params; rw [hw]
  refine ⟨S.ok, fun b o e => le b o (S.base b o e), S'.fin, fun a ha => S'.vol a (hv ▸ .tail _ ha), ?_, fun q hq => S'.kp q (hkp ▸ .tail _ hq), fun q hq => ?_, ?_, S.keys, S.lk, S'.gens, S'.os.trans hos⟩
  · have := S'.nodup
    rw [hv, List.nodup_cons] at this
    exact this.2
  · obtain ⟨ob, e, r⟩ := S'.own q hq
    exact ⟨ob, e, hP ▸ r⟩
  · obtain ⟨m, ⟨o, es, ep, ho, hd, hk, hf⟩, hm⟩ := S.loc
    rw [hL] at ho
    cases ho
    obtain ⟨sl, e⟩ := S'.kp (c.L, oL) (hkp ▸ .head _)
    exact ⟨m, ⟨_, es, ep, e, hd, hk, hf⟩, fun x v hx => let ⟨val, a, b⟩ := hm x v hx; ⟨val, a, b.mono le⟩⟩

/-- a call, as the code that it is -/
def ClC (c : Cx) (f : V) (as : List V) (kw : List (Str × V)) (ρ : Loc) (H : Hp) (Q : V → Hp → Prop) (X : XP) : Prop :=
  ∀ z s vf vs ks, St c z ρ H s → VR z f vf → VRs z as vs → VRs z (kw.map (·.2)) ks →
    codeR c.M c.A (.call vf ⟨vs, (kw.map (·.1)).zip ks⟩) (fun r s' => match r with | .ok (.ret v) => PostV c z ρ Q v s' | .ok _ => False | .error e => PostX c z false X e s') s
theorem ClC.cl {f : V} {as : List V} {kw : List (Str × V)} (h : ClC c f as kw ρ H Q X) : Cl c f as kw ρ H Q X := fun z s vf vs ks S hf hv hk => wpR_call (h z s vf vs ks S hf hv hk)
theorem ClC.fn {f : Addr} {as : List V} {kw : List (Str × V)} {bs : List (Str × V)} {rest : List Str} {oc : Value} {od : Option Addr} {osl : Array (Option Value)}
    {name qual : Str} {params : Arguments} {body : List Stmt} {scope : Scope} {dV kV doc pm cdv ct : Value} {an : Option Addr}
    (ho : c.K.lookup f = some ⟨oc, od, .func (fnOf name qual params body scope dV kV doc pm an cdv ct), osl⟩) (hcd : codeIn c.K cdv qual = true)
    (hst : fnOK scope (bs.map (·.1) ++ rest) = true)
    (hb : ∀ z vs ks, VRs z as vs → VRs z (kw.map (·.2)) ks → ∃ bn, (∀ S, peek c.K S (bindArgs (fnOf name qual params body scope dV kV doc pm an cdv ct) ⟨vs, (kw.map (·.1)).zip ks⟩) = some bn) ∧ BR z bs bn)
    (hr : 0 < c.rm)
    (h : ∀ c', Callee c c' scope [] → Exs c' body (locOf bs rest) H (fun fl _ H' => Q fl.val H') (fun e _ H' => X e ρ H')) : ClC c (.ref f) as kw ρ H Q X := by
  intro z s vf vs ks S hvf hvs hks
  cases hvf
  simp only [fnOK, Bool.and_eq_true, decide_eq_true_eq, Bool.not_eq_true', List.all_eq_true] at hst
  obtain ⟨⟨⟨⟨⟨k1, k2⟩, k3⟩, k4⟩, k5⟩, k6⟩ := hst
  obtain ⟨bn, hbn, hbr⟩ := hb z vs ks hvs hks
  have hkeys := hbr.keys
  have hbind : BindsTo s (fnOf name qual params body scope dV kV doc pm an cdv ct) ⟨vs, (kw.map (·.1)).zip ks⟩ bn := fun M A E Q q Γ p _ => wp_of_peek S.kin q _ (hbn _)
  obtain ⟨m, hn, hm⟩ := S.loc
  have hn' := hn
  obtain ⟨oL, es, ep, hL, hLd, _⟩ := hn'
  have depth := S.ok.depth
  have units := S.ok.units
  refine (codeR_call_def (fd := fnOf name qual params body scope dV kV doc pm an cdv ct) (body := body) (binds := bn) (by omega) (S.kin _ _ ho) rfl S.lim (codeRec_of S.kin hcd) rfl hbind
    (fun x hx => k4 x hx) (fun x hx => (k5 x.1 (by rw [← hkeys]; exact List.mem_append_left _ (List.mem_map_of_mem hx))).1) (fun h₁ hns hk₁ => ?_) k3 k2 k1)
  show wpR _ (c.A.deeper (envOf qual scope s.heap.objs.size f cdv)) (execs body (envOf qual scope s.heap.objs.size f cdv)) _ _ _
  let c' : Cx := { c with A := c.A.deeper (envOf qual scope s.heap.objs.size f cdv), env := envOf qual scope s.heap.objs.size f cdv, frl := envOf qual scope s.heap.objs.size f cdv :: c.frl, kp := (c.L, oL) :: c.kp, rm := c.rm - 1 }
  have hfr : (c.A.deeper (envOf qual scope s.heap.objs.size f cdv)).frames = some (envOf qual scope s.heap.objs.size f cdv :: c.frl) := by
    show c.A.frames.map _ = _
    rw [S.ok.frames]; rfl
  have O : c'.Own := ⟨rfl, _, rfl⟩
  have C : Callee c c' scope [] := ⟨rfl, rfl, rfl, rfl, by show c.rm - 1 + 1 = c.rm; omega, rfl, rfl, O, rfl, rfl⟩
  have ok : c'.OK := by
    refine ⟨S.ok.X, S.ok.lim, hfr, fun e he => ?_, k1, S.ok.guards, ?_, ?_, ⟨rfl, rfl⟩, S.ok.gl⟩
    · rcases List.mem_cons.mp he with rfl | he
      · exact ⟨by rw [show (envOf qual scope s.heap.objs.size f cdv).scope = scope from rfl, k1]; decide, _, rfl, .inl rfl⟩
      · obtain ⟨hk, a, hf, ha⟩ := S.ok.frs e he
        refine ⟨hk, a, hf, .inr ?_⟩
        rcases ha with rfl | ⟨o, ho, hd⟩
        · exact ⟨oL, .head _, fun vs q => by rw [hLd] at q; cases q⟩
        · exact ⟨o, .tail _ ho, hd⟩
    · show c.A.depth + 1 + 3 * (c.rm - 1) + 3 < recursionLimit; omega
    · show c.A.units + 3 + 24 * (c.rm - 1) + 24 < cLine; omega
  have hv : c'.vol H = s.heap.objs.size :: c.vol H := rfl
  have S' : St c' z (locOf bs rest) H { s with heap := h₁, toks := s.toks + bn.length } := by
    refine ⟨ok, S.base, fun b o e => hk₁ _ _ (S.fin b o e), fun a ha => ?_, ?_, fun q hq => ?_, fun q hq => ?_, ⟨_, hns, fun x v hx => ?_⟩, ?_, fun q hq => ?_, S.gens, S.os⟩
    · rw [hv] at ha
      rcases List.mem_cons.mp ha with rfl | ha
      · exact S.fresh
      · exact S.vol a ha
    · rw [hv, List.nodup_cons]; exact ⟨S.fresh_vol, S.nodup⟩
    · rcases List.mem_cons.mp hq with rfl | hq
      · exact same_slots (hk₁ _ _ hL)
      · obtain ⟨sl, e⟩ := S.kp q hq; exact ⟨sl, hk₁ _ _ e⟩
    · obtain ⟨ob, e, r⟩ := S.own q hq; exact ⟨ob, hk₁ _ _ e, r⟩
    · unfold locOf at hx
      rcases List.mem_append.mp hx with hx | hx
      · obtain ⟨q, hq, e⟩ := List.mem_map.mp hx
        cases e
        obtain ⟨val, a, b⟩ := hbr.get (x := q.1) (v := q.2) hq
        refine ⟨val, ?_, b⟩
        have nd : (bn.map (·.1)).Nodup := by rw [hkeys]; exact (List.nodup_append.mp k6).1
        refine lookup_of_mem ?_ (List.mem_reverse.mpr a)
        rw [List.map_reverse]
        exact (List.reverse_perm _).nodup_iff.mpr nd
      · obtain ⟨q, hq, e⟩ := List.mem_map.mp hx
        cases e
    · have e : (locOf bs rest).map (·.1) = bs.map (·.1) ++ rest := by
        unfold locOf
        rw [List.map_append, List.map_map, List.map_map]
        congr 1
        exact List.map_id _
      rw [e]; exact k6
    · have e : q.1 ∈ bs.map (·.1) ++ rest := by
        have : (locOf bs rest).map (·.1) = bs.map (·.1) ++ rest := by
          unfold locOf
          rw [List.map_append, List.map_map, List.map_map]
          congr 1
          exact List.map_id _
        rw [← this]; exact List.mem_map_of_mem hq
      obtain ⟨a, b⟩ := k5 q.1 e
      exact ⟨a, by simpa using b⟩
  refine wpR_mono (h c' C z _ S') (fun fl s' ⟨f', z', ρ', H', le, S'', r, q⟩ => ?_) fun e s' ⟨cls, z', ρ', H', a, he, le, S'', x, q⟩ => ?_
  · have back := postV_back (c' := c') S hL rfl rfl rfl rfl le S''
    have fin : ∀ {v : V} {val : Value}, VR z' v val → Q v H' → PostV c z ρ Q val s' := fun hr q => ⟨_, z', H', le, back, hr, q⟩
    cases r with
    | ret r => exact fin r q
    | next => exact fin .none q
    | brk => exact fin .none q
    | cont => exact fin .none q
  · subst he
    refine leaving_St O rfl S'' x fun h' S₃ x₃ => ?_
    refine ⟨cls, z', ρ, H', a, rfl, le, postV_back (c' := c') (s' := { s' with heap := h' }) S hL rfl rfl rfl rfl le S₃, ?_, q⟩
    have hv' : c'.vol H' = s.heap.objs.size :: c.vol H' := rfl
    obtain ⟨⟨o1, o2⟩, oe, vs, h1, h2, h3, h4, hc2, h5⟩ := x₃
    refine ⟨⟨o1, fun hm => o2 (hv' ▸ .tail _ hm)⟩, oe, vs, h1, h2, h3, h4, hc2, ?_⟩
    rcases h5 with ⟨h, hb⟩ | ⟨T, oT, ts, t1, t2, t3, t4⟩
    · cases hb
    · exact .inr ⟨T, oT, ts, t1, t2, fun hm => t3 (hv' ▸ .tail _ hm), t4⟩
end
end
section

/-- keyword arguments -/
def EvK (c : Cx) (kws : List Keyword) (ρ : Loc) (H : Hp) (Q : List V → Hp → Prop) (X : XP) : Prop :=
  ∀ z s pos, St c z ρ H s → wpR c.M c.A (evalAll ((backToKw pos (keywordEach kws c.env)).map (·.2))) (PostVs c z ρ Q) (PostX c z false X) s
def kwN (kws : List Keyword) : List Str := kws.filterMap (·.arg)
theorem kwN_eq {pos : Pos} {env : Env} : ∀ kws : List Keyword, (backToKw pos (keywordEach kws env)).filterMap (·.1) = kwN kws
  | [] => rfl
  | ⟨none, v, p⟩ :: r => by
    have ih := kwN_eq (pos := pos) (env := env) r
    simp only [keywordEach, backToKw, List.map_cons, List.filterMap_cons, kwN] at ih ⊢
    exact ih
  | ⟨some x, v, p⟩ :: r => by
    have ih := kwN_eq (pos := pos) (env := env) r
    simp only [keywordEach, backToKw, List.map_cons, List.filterMap_cons, kwN] at ih ⊢
    rw [ih]

/-- the keeper of a callee is known -/
def Kp (c : Cx) (f : V) : Prop := ∀ h z v, VR z f v → c.K.In h → ∃ k, (k = Keeper.frame ∨ k = Keeper.machine ∨ k = Keeper.boundFrame) ∧ Looks c.M h (keeperOf v) k
theorem Kp.ref {c : Cx} {a : Addr} (h : keepIn c.K (.ref a) = true) : Kp c (.ref a) := fun hp z v hv X => by cases hv; exact keeps_K h hp X
theorem Kp.ty {c : Cx} {n : String} : Kp c (.ty n) := fun hp z v hv X => by cases hv; exact ⟨.machine, .inr (.inl rfl), Looks.now⟩
theorem Kp.bi {c : Cx} {n : String} : Kp c (.bi n) := fun hp z v hv X => by cases hv; exact ⟨.machine, .inr (.inl rfl), Looks.now⟩

section
variable {c : Cx} {ρ : Loc} {H : Hp} {Q : V → Hp → Prop} {X : XP}
theorem EvK.nil {Q : List V → Hp → Prop} (q : Q [] H) : EvK c [] ρ H Q X := fun z s pos S => kwAllR_nil ⟨[], z, H, Le.refl z, S, .nil, q⟩
theorem EvK.cons {x : Str} {e : Expr} {p : Pos} {r : List Keyword} {Q : List V → Hp → Prop} (h : Ev c e ρ H (fun v H₁ => EvK c r ρ H₁ (fun vs H₂ => Q (v :: vs) H₂) X) X) : EvK c (⟨some x, e, p⟩ :: r) ρ H Q X :=
  fun z s pos S => kwAllR_cons (wpR_mono (h z s S) (fun val s₁ ⟨a, z₁, H₁, le₁, S₁, r₁, h₁⟩ => wpR_mono (h₁ z₁ s₁ pos S₁) (fun vals s₂ ⟨vs, z₂, H₂, le₂, S₂, r₂, h₂⟩ =>
    ⟨a :: vs, z₂, H₂, le₁.trans le₂, S₂, .cons (r₁.mono le₂) r₂, h₂⟩) fun _ _ => PostX.le le₁) fun _ _ x => x)

def plainArgs (args : List Expr) (kws : List Keyword) : Bool := args.all (fun | .Starred .. => false | _ => true) && kws.all (·.arg.isSome)
theorem plainArgs_star {env : Env} {pos : Pos} : ∀ {args : List Expr}, args.all (fun | .Starred .. => false | _ => true) = true → (backTo pos (starEach args env)).any (·.1) = false
  | [], _ => rfl
  | e :: r, h => by
    rw [List.all_cons, Bool.and_eq_true] at h
    have ih := plainArgs_star (env := env) (pos := pos) h.2
    have he : starEach (e :: r) env = (false, eval e env) :: starEach r env := by cases e <;> first | rfl | exact Bool.noConfusion (show false = true from h.1)
    rw [he]
    simp only [backTo, List.map_cons, List.any_cons, Bool.false_or] at ih ⊢
    exact ih
theorem plainArgs_kw {env : Env} {pos : Pos} : ∀ {kws : List Keyword}, kws.all (·.arg.isSome) = true → (backToKw pos (keywordEach kws env)).all (·.1.isSome) = true ∧ (backToKw pos (keywordEach kws env)).any (·.1.isNone) = false
  | [], _ => ⟨rfl, rfl⟩
  | ⟨x, v, p⟩ :: r, h => by
    rw [List.all_cons, Bool.and_eq_true] at h
    have ih := plainArgs_kw (env := env) (pos := pos) h.2
    cases x with
    | none => cases h.1
    | some x =>
      simp only [keywordEach, backToKw, List.map_cons, List.all_cons, List.any_cons, Option.isSome_some, Option.isNone_some, Bool.true_and, Bool.false_or] at ih ⊢
      exact ih

/-- the arguments and the call behind them -/
theorem callWith_St {z : FZ} {s : Shared} {pos : Pos} {f : V} {first : List V} {vf : Value} {vfirst : List Value} {args : List Expr} {kws : List Keyword} (S : St c z ρ H s) (hf : VR z f vf) (hfirst : VRs z first vfirst) (hk : Kp c f) (hp : plainArgs args kws = true)
    (h : Evs c args ρ H (fun vs H₁ => EvK c kws ρ H₁ (fun ks H₂ => ∃ kw : List (Str × V), kw.map (·.1) = kwN kws ∧ kw.map (·.2) = ks ∧ Cl c f (first ++ vs) kw ρ H₂ Q X) X) X) :
    wpR c.M c.A (callWith pos vf vfirst (backTo pos (starEach args c.env)) (backToKw pos (keywordEach kws c.env))) (PostV c z ρ Q) (PostX c z false X) s := by
  simp only [plainArgs, Bool.and_eq_true] at hp
  have h1 := plainArgs_star (env := c.env) (pos := pos) hp.1
  obtain ⟨h2, h3⟩ := plainArgs_kw (env := c.env) (pos := pos) hp.2
  refine callWithR (P := c.K.In) (by rw [h1, h3]; rfl) (fun hh X => hk hh z vf hf X) ?_
  have fin : ∀ {z₁ : FZ} {s₁ : Shared} {H₁ : Hp} {vs : List V} {vals : List Value}, Le z z₁ → St c z₁ ρ H₁ s₁ → VRs z₁ vs vals →
      EvK c kws ρ H₁ (fun ks H₂ => ∃ kw : List (Str × V), kw.map (·.1) = kwN kws ∧ kw.map (·.2) = ks ∧ Cl c f (first ++ vs) kw ρ H₂ Q X) X →
      wpR c.M c.A (evalAll ((backToKw pos (keywordEach kws c.env)).map (·.2))) (fun ks s₂ => c.K.In s₂.heap ∧ wpR c.M c.A (call vf (vfirst ++ vals) (((backToKw pos (keywordEach kws c.env)).filterMap (·.1)).zip ks)) (PostV c z ρ Q) (PostX c z false X) s₂) (PostX c z false X) s₁ := by
    intro z₁ s₁ H₁ vs vals le₁ S₁ r₁ h₁
    refine wpR_mono (h₁ z₁ s₁ pos S₁) (fun ks s₂ ⟨as, z₂, H₂, le₂, S₂, r₂, kw, e1, e2, h₂⟩ => ?_) fun _ _ => PostX.le le₁
    rw [kwN_eq, ← e1]
    exact ⟨S₂.kin, carryV (le₁.trans le₂) (h₂ z₂ s₂ _ _ _ S₂ (hf.mono (le₁.trans le₂)) ((hfirst.mono (le₁.trans le₂)).append (r₁.mono le₂)) (e2 ▸ r₂))⟩
  cases args with
  | nil =>
    intro Γ p hΓ hc
    obtain ⟨vs, z₁, H₁, le₁, S₁, r₁, h₁⟩ := (h z s pos S Γ p hΓ hc : PostVs c z ρ _ [] s)
    cases r₁
    exact evalArgsR_nil h2 (wpR_mono (fin (vs := []) (vals := []) le₁ S₁ .nil h₁) (fun ks s₂ x => x) fun _ _ x => x) Γ p hΓ hc
  | cons a r =>
    have he : starEach (a :: r) c.env = (false, eval a c.env) :: starEach r c.env := by
      have := hp.1
      rw [List.all_cons, Bool.and_eq_true] at this
      cases a <;> first | rfl | exact Bool.noConfusion (show false = true from this.1)
    have h' := h z s pos S
    rw [he] at h' ⊢
    exact evalArgsR_cons h2 (wpR_mono h' (fun vals s₁ ⟨vs, z₁, H₁, le₁, S₁, r₁, h₁⟩ => fin le₁ S₁ r₁ h₁) fun _ _ x => x)
end
end
section

/-- the method of a value: what is called, and what goes ahead of the arguments -/
def Mt (c : Cx) (H : Hp) (o : V) (name : Str) (f : V) (first : List V) : Prop :=
  ∀ z ρ s v pl (Q : Value × List Value → Shared → Prop) (E : Value → Shared → Prop), St c z ρ H s → VR z o v → (∀ vf vfirst n, VR z f vf → VRs z first vfirst → Q (vf, vfirst) { s with toks := n }) → wpAny c.M c.A (getMethod v name pl) Q E s

section
variable {c : Cx} {ρ : Loc} {H : Hp} {Q : V → Hp → Prop} {X : XP}
theorem Ev.call {x : Str} {np pos : Pos} {args : List Expr} {kws : List Keyword}
    (h : Ev c (.Name x np) ρ H (fun f H₁ => Kp c f ∧ Evs c args ρ H₁ (fun vs H₂ => EvK c kws ρ H₂ (fun ks H₃ => ∃ kw : List (Str × V), kw.map (·.1) = kwN kws ∧ kw.map (·.2) = ks ∧ Cl c f vs kw ρ H₃ Q X) X) X) X)
    (hp : plainArgs args kws = true := by rfl) : Ev c (.Call (.Name x np) args kws pos) ρ H Q X := fun z s S => by
  show wpR c.M c.A (do callWith pos (← eval (.Name x np) c.env) [] (backTo pos (starEach args c.env)) (backToKw pos (keywordEach kws c.env))) _ _ _
  exact wpR_bind (wpR_mono (h z s S) (fun val s₁ ⟨f, z₁, H₁, le₁, S₁, r₁, hk, h₁⟩ => carryV le₁ (callWith_St (first := []) S₁ r₁ .nil hk hp h₁)) fun _ _ x => x)
theorem Ev.meth {o : Expr} {name : Str} {apos pos : Pos} {args : List Expr} {kws : List Keyword} {pl : Env → Sem Bool}
    (h : Ev c o ρ H (fun ov H₁ => ∃ f first, Mt c H₁ ov name f first ∧ Kp c f ∧ Evs c args ρ H₁ (fun vs H₂ => EvK c kws ρ H₂ (fun ks H₃ => ∃ kw : List (Str × V), kw.map (·.1) = kwN kws ∧ kw.map (·.2) = ks ∧ Cl c f (first ++ vs) kw ρ H₃ Q X) X) X) X)
    (hp : plainArgs args kws = true := by rfl)
    (he : ∀ env, eval (.Call (.Attribute o name apos) args kws pos) env = (do
      let ov ← eval o env
      standAt apos.atName
      let (f, first) ← holding [ov] (getMethod ov name (pl env))
      callWith pos f first (backTo pos (starEach args env)) (backToKw pos (keywordEach kws env))) := by intro; rfl) : Ev c (.Call (.Attribute o name apos) args kws pos) ρ H Q X := fun z s S => by
  rw [he]
  refine wpR_bind (wpR_mono (h z s S) (fun val s₁ ⟨ov, z₁, H₁, le₁, S₁, r₁, f, first, hm, hk, h₁⟩ => ?_) fun _ _ x => x)
  refine wpR_at (wpR_bind (wpR_holding (of (hm z₁ ρ s₁ _ _ _ _ S₁ r₁ fun vf vfirst n rf rfirst => ?_))))
  exact carryV le₁ (callWith_St (S₁.toks n) rf rfirst hk hp h₁)

-- dicts
theorem DR.mem {P : Params} {z : FZ} : ∀ {es : List (Str × V)} {ds : List DictEntry}, DR P z es ds → (es.map (·.1)).Nodup → ∀ {x : Str} {v : V}, (x, v) ∈ es → ∃ val, getL x ds = some (some val) ∧ VR z v val
  | _, _, .cons (x := y) (t := t) (val := w) (es := es) (ds := ds) h r, nd, x, v, hm => by
    rw [List.map_cons, List.nodup_cons] at nd
    rcases List.mem_cons.mp hm with e | hm
    · cases e
      refine ⟨w, ?_, h⟩
      unfold getL
      rw [List.find?_cons]
      have : (Value.str y t).isStr y = true := by simp [Value.isStr]
      simp only [this]
    · have hne : (Value.str y t).isStr x = false := by
        have : y ≠ x := fun e => nd.1 (e ▸ List.mem_map_of_mem (f := (·.1)) hm)
        simpa [Value.isStr] using this
      obtain ⟨val, a, b⟩ := r.mem nd.2 hm
      refine ⟨val, ?_, b⟩
      unfold getL at a ⊢
      rw [List.find?_cons]
      simp only [hne]
      split at a
      · rename_i e he; rw [he]; exact a
      · split at a <;> cases a
theorem DR.miss {P : Params} {z : FZ} : ∀ {es : List (Str × V)} {ds : List DictEntry}, DR P z es ds → ∀ {x : Str}, x ∉ es.map (·.1) → ds.find? (·.key.isStr x) = none ∧ ds.any (·.refKey) = false
  | _, _, .nil, _, _ => ⟨rfl, rfl⟩
  | _, _, .cons (x := y) (t := t) (val := w) h r, x, hx => by
    rw [List.map_cons, List.mem_cons, not_or] at hx
    obtain ⟨a, b⟩ := r.miss hx.2
    have hne : (Value.str y t).isStr x = false := by
      have : y ≠ x := fun e => hx.1 e.symm
      simpa [Value.isStr] using this
    refine ⟨by rw [List.find?_cons]; simp only [hne]; exact a, ?_⟩
    rw [List.any_cons, b]; rfl
theorem DR.getL_none {P : Params} {z : FZ} {es : List (Str × V)} {ds : List DictEntry} (r : DR P z es ds) {x : Str} (hx : x ∉ es.map (·.1)) : getL x ds = some none := by
  obtain ⟨a, b⟩ := r.miss hx
  unfold getL; rw [a]; dsimp only; rw [b]; rfl
theorem DR.getL_some {P : Params} {z : FZ} {es : List (Str × V)} {ds : List DictEntry} (r : DR P z es ds) (nd : (es.map (·.1)).Nodup) (x : Str) : (getL x ds).isSome = true := by
  by_cases hx : x ∈ es.map (·.1)
  · obtain ⟨q, hq, e⟩ := List.mem_map.mp hx
    obtain ⟨val, a, _⟩ := r.mem nd (x := q.1) (v := q.2) hq
    rw [← e, a]; rfl
  · rw [r.getL_none hx]; rfl
theorem DR.length {P : Params} {z : FZ} : ∀ {es : List (Str × V)} {ds : List DictEntry}, DR P z es ds → ds.length = es.length
  | _, _, .nil => rfl
  | _, _, .cons _ r => by simp [r.length]

inductive DPut (x : Str) (v : V) : List (Str × V) → List (Str × V) → Prop
  | head {o : V} {r : List (Str × V)} : DPut x v ((x, o) :: r) ((x, v) :: r)
  | tail {p : Str × V} {r r' : List (Str × V)} : DPut x v r r' → DPut x v (p :: r) (p :: r')
theorem DPut.keys {x : Str} {v : V} : ∀ {es es' : List (Str × V)}, DPut x v es es' → es'.map (·.1) = es.map (·.1)
  | _, _, .head => rfl
  | _, _, .tail u => by rw [List.map_cons, List.map_cons, u.keys]
theorem DPut.mem {x : Str} {v : V} : ∀ {es es' : List (Str × V)}, DPut x v es es' → x ∈ es.map (·.1)
  | _, _, .head => .head _
  | _, _, .tail u => .tail _ u.mem
theorem DR.put {P : Params} {z : FZ} {x : Str} {v : V} {val : Value} {k : Value} {hs : Int} (hv : VR z v val) : ∀ {es es' : List (Str × V)} {ds : List DictEntry}, DR P z es ds → (es.map (·.1)).Nodup → DPut x v es es' → DR P z es' (putL x hs k val ds)
  | _, _, _, .cons (t := t) h r, nd, .head => by
    have : (Value.str x t).isStr x = true := by simp [Value.isStr]
    unfold putL
    simp only [this, if_true]
    exact .cons hv r
  | _, _, _, .cons (x := y) (t := t) h r, nd, .tail u => by
    rw [List.map_cons, List.nodup_cons] at nd
    have hne : (Value.str y t).isStr x = false := by
      have : y ≠ x := fun e => nd.1 (e ▸ u.mem)
      simpa [Value.isStr] using this
    unfold putL
    simp only [hne, Bool.false_eq_true, if_false]
    exact .cons h (r.put hv nd.2 u)
theorem DR.new {P : Params} {z : FZ} {x : Str} {v : V} {val : Value} {t : Tok} (hv : VR z v val) : ∀ {es : List (Str × V)} {ds : List DictEntry}, DR P z es ds → x ∉ es.map (·.1) → DR P z (es ++ [(x, v)]) (putL x (PyData.keyHash P x) (.str x t) val ds)
  | _, _, .nil, _ => .cons hv .nil
  | _, _, .cons (x := y) (t := u) h r, nd => by
    rw [List.map_cons, List.mem_cons, not_or] at nd
    have hne : (Value.str y u).isStr x = false := by
      have : y ≠ x := fun e => nd.1 e.symm
      simpa [Value.isStr] using this
    unfold putL
    simp only [hne, Bool.false_eq_true, if_false]
    exact .cons h (r.new hv nd.2)
/-- a key is stored: one that is there, or a new one -/
inductive DSet (x : Str) (v : V) (es es' : List (Str × V)) : Prop
  | put : DPut x v es es' → DSet x v es es'
  | new : x ∉ es.map (·.1) → es' = es ++ [(x, v)] → DSet x v es es'
theorem DR.set {P : Params} {z : FZ} {x : Str} {v : V} {val : Value} {t : Tok} (hv : VR z v val) {es es' : List (Str × V)} {ds : List DictEntry} (r : DR P z es ds) (nd : (es.map (·.1)).Nodup) (d : DSet x v es es') :
    DR P z es' (putL x (PyData.keyHash P x) (.str x t) val ds) ∧ (es'.map (·.1)).Nodup := by
  cases d with
  | put u => exact ⟨r.put hv nd u, u.keys ▸ nd⟩
  | new hx e =>
    subst e
    refine ⟨r.new hv hx, ?_⟩
    rw [List.map_append, List.nodup_append]
    refine ⟨nd, by simp, fun a ha b hb e => ?_⟩
    simp only [List.map_cons, List.map_nil, List.mem_singleton] at hb
    exact hx (hb ▸ e ▸ ha)

-- attributes
def V.handed : V → Bool
  | .bi n => (withoutEnding? n "#data").isNone
  | _ => true
theorem VR.handed {z : FZ} {x : V} {v : Value} (h : VR z x v) (hx : x.handed = true) : handedIn v = true := by
  cases h <;> first | exact hx | rfl

theorem St.inst {z : FZ} {s : Shared} {a C d : Addr} {es : List (Str × V)} (S : St c z ρ H s) (hi : (a, .inst C d) ∈ H) (hd : (d, .dict es) ∈ H) :
    ∃ ds n, InstAt s.heap a (instObj C d) C (some (dictOf ds n)) ∧ s.heap.get? d = some (dictOf ds n) ∧ DR c.P z es ds ∧ (es.map (·.1)).Nodup := by
  obtain ⟨o1, e1, r1⟩ := S.own _ hi
  obtain ⟨o2, e2, r2⟩ := S.own _ hd
  cases r1
  cases r2 with
  | dict r nd => exact ⟨_, _, ⟨e1, rfl, rfl, e2⟩, e2, r, nd⟩

def attrOK (K : Frag) (C : Addr) (name : Str) : Bool := plainGet K C name && hasDictIn K C && (findIn K (.ref C) name).any (noGet K)
def setOK (K : Frag) (C : Addr) (name : Str) : Bool := findIn K (.ref C) "__setattr__" == some (some (.builtin "object.__setattr__")) && plainOver K C && takerIn K C name == some none && hasDictIn K C
def methOK (K : Frag) (C : Addr) (name : Str) (f : Addr) : Bool := plainGet K C name && findIn K (.ref C) name == some (some (.ref f)) && isFn K (.ref f) && keepIn K (.ref f)

theorem Is.attr {a C d : Addr} {es : List (Str × V)} {name : Str} {v : V} (hi : (a, .inst C d) ∈ H) (hd : (d, .dict es) ∈ H) (hm : (name, v) ∈ es) (hk : attrOK c.K C name = true) (hv : v.handed = true) :
    Is1 c H (fun o => getAttr o name true) (.ref a) v := fun z ρ s o Q E S ho h => by
  cases ho
  simp only [attrOK, Bool.and_eq_true] at hk
  obtain ⟨⟨k1, k2⟩, k3⟩ := hk
  obtain ⟨ds, n, I, _, r, nd⟩ := S.inst hi hd
  obtain ⟨val, g, rv⟩ := r.mem nd hm
  obtain ⟨attr, e, k4⟩ : ∃ attr, findIn c.K (.ref C) name = some attr ∧ noGet c.K attr = true := by
    cases q : findIn c.K (.ref C) name with
    | none => rw [q] at k3; cases k3
    | some attr => rw [q] at k3; exact ⟨attr, rfl, k3⟩
  exact get_value S.kin I (plainGet_of k1).1 (findObj_own k2 e k4 g) (rv.handed hv) (h val _ rv)
theorem Ev.attr {o : Expr} {name : Str} {pos : Pos} (h : Ev c o ρ H (fun a H₁ => Do1 c a (fun o => getAttr o name true) ρ H₁ Q X) X)
    (he : ∀ env, eval (.Attribute o name pos) env = (do
      let o' ← eval o env
      standAt pos.atName
      let r ← holding [o'] (getAttr o' name true)
      letTemporaryGo o o' r
      pure r) := by intro; with_unfolding_all rfl) : Ev c (.Attribute o name pos) ρ H Q X :=
  fun z s S => wpR_Attribute (wpR_mono (h z s S) (fun val s₁ ⟨a, z₁, H₁, le₁, S₁, r₁, h₁⟩ => carryV le₁ (h₁ z₁ s₁ _ S₁ r₁)) fun _ _ x => x) (he _)

theorem Mt.inst {a C d f : Addr} {es : List (Str × V)} {name : Str} (hi : (a, .inst C d) ∈ H) (hd : (d, .dict es) ∈ H) (hm : name ∉ es.map (·.1)) (hk : methOK c.K C name f = true) : Mt c H (.ref a) name (.ref f) [.ref a] := fun z ρ s v pl Q E S ho h => by
  cases ho
  simp only [methOK, Bool.and_eq_true, beq_iff_eq] at hk
  obtain ⟨⟨⟨k1, k2⟩, k3⟩, k4⟩ := hk
  obtain ⟨ds, n, I, _, r, nd⟩ := S.inst hi hd
  exact method_fn S.kin I (plainGet_of k1).1 (plainGet_of k1).2 k2 (beq_iff_eq.mp k3) (by show (lookIn name (dictOf ds n)).map _ = _; rw [lookIn_dict, r.getL_none hm]; rfl) (h _ _ s.toks (.ref _) (.cons (.ref _) .nil))

/-- a field is stored -/
theorem setAttr_St {z : FZ} {s : Shared} {a C d : Addr} {es es' : List (Str × V)} {name : Str} {v : V} {val : Value} {H' : Hp} {E : Value → Shared → Prop} {Q : Unit → Shared → Prop} (S : St c z ρ H s) (hi : (a, .inst C d) ∈ H) (U : Upd d (.dict es) (.dict es') H H') (D : DSet name v es es')
    (hk : setOK c.K C name = true) (hz : es'.length ≤ 1000) (hv : VR z v val) (q : ∀ s', St c z ρ H' s' → Q () s') : wpAny c.M c.A (setAttr (.ref a) name val) Q E s := by
  simp only [setOK, Bool.and_eq_true, beq_iff_eq] at hk
  obtain ⟨⟨⟨k1, k2⟩, k3⟩, k4⟩ := hk
  obtain ⟨ds, n, I, ho, r, nd⟩ := S.inst hi U.mem
  refine set_plain S.kin I k1 ?_
  have S₁ := S.toks (s.toks + 1)
  obtain ⟨r', nd'⟩ := r.set (t := s.toks + 1) hv nd D
  refine osa_open (s := { s with toks := s.toks + 1 }) S₁.kin I k2 k3 fun b => ?_
  obtain ⟨cd, hc, hd'⟩ := any_some k4
  refine wpAny_bind (wpAny_pure (wpAny_bind (wpAny_bind (wpAny_loadPart I.at_ (wpAny_bind ((looks_clsIn S₁.kin hc).here ?_))))))
  rw [hd']
  refine wpAny_pure (a := some d) (wpAny_bind (wpAny_pure (wpAny_bind ?_)))
  unfold nsSet
  refine wpAny_bind (wpAny_bind (wpAny_askSetting (wpAny_pure (wpAny_bind (wpAny_mkText (wpAny_bind (wpAny_loadPart ho ?_)))))))
  dsimp only
  have c0 : (!ds.toArray.any (·.key.isStr name) && ds.toArray.any (·.refKey)) = false := by
    rw [← Array.any_toList, ← Array.any_toList]
    have hg := r.getL_some nd name
    unfold getL at hg
    split at hg
    · rename_i en he
      have : ds.toArray.toList.any (·.key.isStr name) = true := List.any_eq_true.mpr ⟨en, List.mem_of_find?_eq_some he, by have := List.find?_some he; exact this⟩
      rw [this]; rfl
    · split at hg
      · cases hg
      · rename_i q1 q2; rw [Bool.not_eq_true] at q2; rw [show ds.toArray.toList.any (·.refKey) = false from q2, Bool.and_false]
  rw [aRefKeyMayBeTheName_at, c0]
  have e := putName_dict name (PyData.keyHash c.w.params name) (.str name (s.toks + 1)) val ds n
  have he' := Heap.get?_update_self (h := s.heap) (a := d) (Obj.putName name (PyData.keyHash c.w.params name) (.str name (s.toks + 1)) val) ho (by rw [e]; rfl)
  refine wpAny_updatePart ho ?_
  refine wpAny_bind (wpAny_lookBehind he' (by rw [e]; exact pastItsLine_dict (by rw [List.size_toArray, r'.length, sizeLine_eq]; omega)) ?_)
  exact wpAny_pure (q _ (S.upd (n := s.toks + 1 + 1) U (Heap.SameBut.update ..) he' (by rw [e]; exact .dict r' nd')))

theorem Ex.setAttr {o e : Expr} {name : Str} {p' pos : Pos} {Q : Fl → Loc → Hp → Prop}
    (h : Ev c e ρ H (fun v H₁ => Ev c o ρ H₁ (fun b H₂ => ∃ a C d es es' H₃, b = .ref a ∧ (a, .inst C d) ∈ H₂ ∧ Upd d (.dict es) (.dict es') H₂ H₃ ∧ DSet name v es es' ∧ setOK c.K C name = true ∧ es'.length ≤ 1000 ∧ Q .next ρ H₃) X) X)
    (hs : ∀ env, swapsWith e (some (.Attribute o name p')) pos.line env = pure false := by intro; rfl) : Ex c (.Assign [.Attribute o name p'] e pos) ρ H Q X := fun z s S => by
  refine wpR_Assign_Attribute (wpR_mono (h z s S) (fun val s₁ ⟨v, z₁, H₁, le₁, S₁, r₁, h₁⟩ => ?_) fun _ _ x => x) (hs _)
  refine wpR_mono (h₁ z₁ s₁ S₁) (fun val₂ s₂ ⟨b, z₂, H₂, le₂, S₂, r₂, a, C, d, es, es', H₃, e1, hi, U, D, hk, hz, q⟩ => ?_) fun _ _ => PostX.le le₁
  subst e1; cases r₂
  exact of (setAttr_St S₂ hi U D hk hz (r₁.mono le₂) fun s' S' => ⟨.next, z₂, ρ, H₃, le₁.trans le₂, S', .next, q⟩)
theorem Ex.augAttr {o e : Expr} {op : Operator} {name : Str} {p' pos : Pos} {Q : Fl → Loc → Hp → Prop}
    (h : Ev c o ρ H (fun b H₁ => ∃ a v, b = .ref a ∧ Is1 c H₁ (fun o => getAttr o name true) (.ref a) v ∧ Ev c e ρ H₁ (fun w H₂ => Do2 c v w (inplaceOp op) ρ H₂ (fun r H₃ =>
      ∃ C d es es' H₄, (a, .inst C d) ∈ H₃ ∧ Upd d (.dict es) (.dict es') H₃ H₄ ∧ DSet name r es es' ∧ setOK c.K C name = true ∧ es'.length ≤ 1000 ∧ Q .next ρ H₄) X) X) X) : Ex c (.AugAssign (.Attribute o name p') op e pos) ρ H Q X := fun z s S => by
  refine wpR_AugAssign_Attribute (wpR_mono (h z s S) (fun val s₁ ⟨b, z₁, H₁, le₁, S₁, r₁, a, v, e1, hv, h₁⟩ => ?_) fun _ _ x => x)
  subst e1; cases r₁
  refine of (hv z₁ ρ s₁ _ _ _ S₁ (.ref a) fun old n ro => ?_)
  refine wpR_mono (h₁ z₁ _ (S₁.toks n)) (fun val₂ s₂ ⟨w, z₂, H₂, le₂, S₂, r₂, h₂⟩ => ?_) fun _ _ => PostX.le le₁
  refine wpR_mono (h₂ z₂ s₂ _ _ S₂ (ro.mono le₂) r₂) (fun val₃ s₃ ⟨r, z₃, H₃, le₃, S₃, r₃, C, d, es, es', H₄, hi, U, D, hk, hz, q⟩ => ?_) fun _ _ => PostX.le (le₁.trans le₂)
  exact of (setAttr_St S₃ hi U D hk hz r₃ fun s' S' => ⟨.next, z₃, ρ, H₄, (le₁.trans le₂).trans le₃, S', .next, q⟩)
end
end
section

/-- the frame at hand and the stack above it go together -/
theorem came {c : Cx} {z : FZ} {b : Bool} {X : XP} {A A₂ : Around} {M : Model} {e : Value} {s : Shared} (O : c.Own) (hA : A.frames = c.A.frames) (h : PostX c z b X e s) :
    notedBy M A c.env (cameBackBy M A₂ c.env (PostX c z false X)) e s := by
  obtain ⟨cls, z', ρ', H', a, rfl, le, S, x, q⟩ := h
  unfold notedBy
  refine noteFrame_St O hA S x fun h' S' x' => ?_
  unfold cameBackBy
  have x'' := x'
  obtain ⟨_, oe, vs, h1, h2, h3, h4, _, h5⟩ := x''
  rcases h5 with ⟨_, hb⟩ | ⟨T, oT, ts, t1, _⟩
  · cases hb
  · refine wpAny_bind (wpAny_field h1 h3 t1 ?_)
    rw [if_neg (show ¬ ((Value.ref T == Value.none) = true) from Bool.false_ne_true)]
    refine setFlight_St S' x' fun h'' S'' x3 => ?_
    refine ⟨cls, z', ρ', H', a, rfl, le, S'', ?_, q⟩
    obtain ⟨o, oe, vs, h1, h2, h3, h4, hc2, h5⟩ := x3
    refine ⟨o, oe, vs, h1, h2, h3, h4, hc2, ?_⟩
    rcases h5 with ⟨h, _⟩ | h
    · exact .inl ⟨h, rfl⟩
    · exact .inr h

section
variable {c : Cx} {ρ : Loc} {H : Hp} {Q : Fl → Loc → Hp → Prop} {X : XP}

/-- what a turn of a loop leaves -/
def Turn (Inv : Loc → Hp → Prop) (Q : Fl → Loc → Hp → Prop) : Fl → Loc → Hp → Prop
  | .next, ρ, H => Inv ρ H
  | .cont, ρ, H => Inv ρ H
  | .brk, ρ, H => Q .next ρ H
  | .ret v, ρ, H => Q (.ret v) ρ H

/-- while: an invariant with a number that falls -/
theorem Ex.while {t : Expr} {body : List Stmt} {pos : Pos} (O : c.Own) (Inv : Nat → Loc → Hp → Prop) (n : Nat) (h0 : Inv n ρ H)
    (turn : ∀ n ρ H, Inv n ρ H → Tt c t ρ H (fun b H₁ => (b = true → Exs c body ρ H₁ (Turn (fun ρ' H' => ∃ m, m < n ∧ Inv m ρ' H') Q) X) ∧ (b = false → Q .next ρ H₁)) X) :
    Ex c (.While t body [] pos) ρ H Q X := fun z s S => by
  refine wpR_While (codeR_whileLoop (I := fun n s' => ∃ z' ρ' H', Le z z' ∧ St c z' ρ' H' s' ∧ Inv n ρ' H') (fun n s' ⟨z', ρ', H', le, S', hi⟩ => ?_) n ⟨z, ρ, H, Le.refl z, S, h0⟩)
  refine wpR_mono (turn n ρ' H' hi z' s' S') (fun b s₁ ⟨z₁, H₁, le₁, S₁, ht, hf⟩ => ?_) fun e s₁ x => came O rfl (PostX.le le x)
  cases b with
  | false => exact wpR_execs_nil ⟨.next, z₁, ρ', H₁, le.trans le₁, S₁, .next, hf rfl⟩
  | true =>
    refine wpR_mono (ht rfl z₁ s₁ S₁) (fun f s₂ ⟨fl, z₂, ρ₂, H₂, le₂, S₂, r₂, q⟩ => ?_) fun e s₁ x => came O rfl (PostX.le (le.trans le₁) x)
    cases r₂ with
    | next => obtain ⟨m, hm, hi'⟩ := q; exact ⟨m, hm, z₂, ρ₂, H₂, (le.trans le₁).trans le₂, S₂, hi'⟩
    | cont => obtain ⟨m, hm, hi'⟩ := q; exact ⟨m, hm, z₂, ρ₂, H₂, (le.trans le₁).trans le₂, S₂, hi'⟩
    | brk => exact ⟨.next, z₂, ρ₂, H₂, (le.trans le₁).trans le₂, S₂, .next, q⟩
    | ret r => exact ⟨.ret _, z₂, ρ₂, H₂, (le.trans le₁).trans le₂, S₂, .ret r, q⟩
end
end
section

/-- one of the tracked is taken out -/
inductive Pick (q : Addr × AObj) : Hp → Hp → Prop
  | head {r : Hp} : Pick q (q :: r) r
  | tail {p : Addr × AObj} {r r' : Hp} : Pick q r r' → Pick q (p :: r) (p :: r')
theorem Pick.perm {q : Addr × AObj} : ∀ {H H' : Hp}, Pick q H H' → H.Perm (q :: H')
  | _, _, .head => .refl _
  | _, _, .tail u => (u.perm.cons _).trans (.swap ..)
theorem Pick.mem {q : Addr × AObj} : ∀ {H H' : Hp}, Pick q H H' → q ∈ H
  | _, _, .head => .head _
  | _, _, .tail u => .tail _ u.mem
inductive Picks : Hp → Hp → Hp → Prop
  | nil {H : Hp} : Picks [] H H
  | cons {q : Addr × AObj} {F H H₁ R : Hp} : Pick q H H₁ → Picks F H₁ R → Picks (q :: F) H R
theorem Picks.perm : ∀ {F H R : Hp}, Picks F H R → H.Perm (F ++ R)
  | _, _, _, .nil => .refl _
  | _, _, _, .cons u r => u.perm.trans (r.perm.cons _)

/-- an iterator that owns no tuple -/
def plainIt (o : Obj) : Prop := ∃ n, o.cls = .type n ∧ ["enumerate", "zip", "dict_itemiterator", "dict_reverseitemiterator", "odict_iterator", "itertools.zip_longest", "itertools.pairwise"].contains n = false
/-- the steps of an iterator -/
structure Iters (D : FZ → Prop) (C : Hp → Prop) (P : Nat → Obj → Prop) (items : List V) : Prop where
  mono : ∀ z z', Le z z' → D z → D z'
  cls : ∀ i o, P i o → plainIt o
  item : ∀ c : Cx, c.A.handled = none → ∀ i x, items[i]? = some x → ∀ z ρ H s I (Q : Option Value → Shared → Prop) (E : Value → Shared → Prop), St c z ρ ((I, .prop (P i)) :: H) s → D z → C H →
    (∀ val s', St c z ρ ((I, .prop (P (i + 1))) :: H) s' → VR z x val → Q (some val) s') → wpAny c.M c.A (pyNext (.ref I)) Q E s
  done : ∀ c : Cx, c.A.handled = none → ∀ z ρ H s I (Q : Option Value → Shared → Prop) (E : Value → Shared → Prop), St c z ρ ((I, .prop (P items.length)) :: H) s → D z → C H →
    (∀ s', St c z ρ H s' → Q none s') → wpAny c.M c.A (pyNext (.ref I)) Q E s
  self : ∀ c : Cx, ∀ i z ρ H s I (Q : Value → Shared → Prop) (E : Value → Shared → Prop), St c z ρ ((I, .prop (P i)) :: H) s → Q (.ref I) s → wpAny c.M c.A (pyIter (.ref I)) Q E s

/-- what is walked over -/
def It (H : Hp) (v : V) (items : List V) (C : Hp → Prop) : Prop :=
  ∀ (c : Cx) z ρ s val (Q : Value → Shared → Prop) (E : Value → Shared → Prop), c.A.handled = none → St c z ρ H s → VR z v val →
    (∀ I D P z' s', Le z z' → Iters D C P items → D z' → St c z' ρ ((I, .prop (P 0)) :: H) s' → Q (.ref I) s') → wpAny c.M c.A (pyIter val) Q E s

section
variable {c : Cx} {z : FZ} {ρ : Loc} {H : Hp} {s : Shared}
theorem St.prop (S : St c z ρ H s) {a : Addr} {p : Obj → Prop} (h : (a, .prop p) ∈ H) : ∃ o, s.heap.get? a = some o ∧ p o := by
  obtain ⟨ob, e, r⟩ := S.own _ h
  cases r with
  | prop r => exact ⟨_, e, r⟩
theorem St.setP (S : St c z ρ ((I, .prop p) :: H) s) {p' : Obj → Prop} {h' : Heap} {ob : Obj} (hs : Heap.SameBut I s.heap h') (he : h'.get? I = some ob) (hp : p' ob) {n : Nat} :
    St c z ρ ((I, .prop p') :: H) { s with heap := h', toks := n } := S.upd .head hs he (.prop hp)
theorem St.dropH (S : St c z ρ (q :: H) s) : St c z ρ H s := S.sub ⟨[q], by simpa using (List.perm_append_comm (l₁ := [q]) (l₂ := H))⟩
/-- the first of the tracked goes -/
theorem St.endP (S : St c z ρ ((I, o) :: H) s) {h' : Heap} (he : Heap.ExtBut I s.heap h') {n : Nat} : St c z ρ H { s with heap := h', toks := n } := by
  have nv : I ∉ c.vol H := fun hm => (List.nodup_cons.mp (vol_cons.nodup_iff.mp S.nodup)).1 hm
  have nz : z I = none := S.vol I (mem_vol_H (q := (I, o)) (.head _))
  have ne : ∀ {b : Addr}, b ∈ c.vol H → b ≠ I := fun hb q => nv (q ▸ hb)
  have S' := S.dropH
  exact S'.heap (Le.refl z) (fun b ob e => he b ob (fun q => by rw [q, nz] at e; cases e) (S'.fin b ob e)) S'.vol S'.nodup (fun q hq ob e => same_slots (he _ _ (ne (mem_vol_kp hq)) e))
    (fun q hq => let ⟨ob, e, r⟩ := S'.own q hq; ⟨ob, he _ _ (ne (mem_vol_H hq)) e, r⟩) (fun ob e => same_slots (he _ _ (ne mem_vol_L) e))
end

theorem Iters.range {n : Nat} {lo : Int} : Iters (fun _ => True) (fun _ => True) (fun i o => o = { cls := .type "range_iterator", dict := none, data := .fields #[rawInt (lo + i), rawInt ((n : Int) - i), rawInt 1], slots := #[] }) ((List.range n).map fun i : Nat => V.int (lo + (i : Int))) where
  mono := fun _ _ _ x => x
  cls := fun i o e => ⟨"range_iterator", by rw [e], by decide⟩
  item := fun c hh i x hx z ρ H s I Q E S _ _ q => by
    obtain ⟨o, ho, rfl⟩ := S.prop (.head _)
    simp only [List.getElem?_map, Option.map_eq_some_iff] at hx
    obtain ⟨j, hj, rfl⟩ := hx
    have hlt := (List.getElem?_eq_some_iff.mp hj).1
    rw [List.length_range] at hlt
    have : j = i := by have := (List.getElem?_eq_some_iff.mp hj).2; simpa using this.symm
    subst this
    refine wpAny_pyNext_range_item (x := lo + j) (left := (n : Int) - j) (step := 1) ho (by omega) fun h' hit' hs' => ?_
    refine q _ _ (S.setP hs' hit' ?_) (.int _ _)
    have e1 : lo + ((j + 1 : Nat) : Int) = lo + (j : Int) + 1 := by omega
    have e2 : (n : Int) - ((j + 1 : Nat) : Int) = (n : Int) - j - 1 := by omega
    rw [e1, e2]
  done := fun c hh z ρ H s I Q E S _ _ q => by
    obtain ⟨o, ho, e⟩ := S.prop (.head _)
    subst e
    refine wpAny_pyNext_range_end (left := (n : Int) - n) hh (by simpa using ho) (by omega) fun h' he => q _ (S.endP (n := s.toks) he)
  self := fun c i z ρ H s I Q E S q => by
    obtain ⟨o, ho, rfl⟩ := S.prop (.head _)
    exact wpAny_pyIter_rangeiter ho q

theorem It.range {H : Hp} {lo hi : Int} (h1 : -(2 ^ 62) ≤ lo) (h2 : lo < 2 ^ 62) (h3 : -(2 ^ 62) ≤ hi) (h4 : hi < 2 ^ 62) : It H (.rng lo hi) ((List.range (hi - lo).toNat).map fun i : Nat => V.int (lo + (i : Int))) (fun _ => True) :=
  fun c z ρ s val Q E hh S hv q => by
    cases hv with
    | rng e =>
      refine wpAny_pyIter_range (S.fin _ _ e) (small_one h1 h2 h3 h4) ?_
      have S' := S.pushT (n := s.toks) (o := { cls := .type "range_iterator", data := .fields #[rawInt lo, rawInt (Builtin.Range.rangeSize lo hi 1), rawInt 1] })
        (ob := .prop (fun o => o = { cls := .type "range_iterator", dict := none, data := .fields #[rawInt (lo + (0 : Nat)), rawInt (((hi - lo).toNat : Int) - (0 : Nat)), rawInt 1], slots := #[] })) (.prop (by
          have e1 : Builtin.Range.rangeSize lo hi 1 = ((hi - lo).toNat : Int) := by rw [rangeSize_one]; split <;> omega
          rw [e1]; simp)) rfl
      exact q _ _ _ z _ (Le.refl z) Iters.range trivial S'

def listIterAt (a : Addr) (i : Nat) (o : Obj) : Prop := o.cls = .type "list_iterator" ∧ o.data = .fields #[.ref a, .int i 0]
theorem Iters.list {a : Addr} {xs : List V} : Iters (fun _ => True) (fun H => (a, .list xs) ∈ H) (listIterAt a) xs where
  mono := fun _ _ _ x => x
  cls := fun i o e => ⟨"list_iterator", e.1, by decide⟩
  item := fun c hh i x hx z ρ H s I Q E S _ hC q => by
    obtain ⟨o, ho, h1, h2⟩ := S.prop (.head _)
    obtain ⟨vs, hl, hr⟩ := S.hl (.tail _ hC)
    obtain ⟨v, hv, r⟩ := hr.get hx
    refine wpAny_pyNext_list_item ⟨o, ho, h1, h2⟩ hl (by simpa using hv) fun h' ⟨o', ho', h1', h2'⟩ hs' => ?_
    exact q _ _ (S.setP (n := s.toks) hs' ho' ⟨h1', h2'⟩) r
  done := fun c hh z ρ H s I Q E S _ hC q => by
    obtain ⟨o, ho, h1, h2⟩ := S.prop (.head _)
    obtain ⟨vs, hl, hr⟩ := S.hl (.tail _ hC)
    refine wpAny_pyNext_list_end hh ⟨o, ho, h1, h2⟩ hl ?_ fun h' he => q _ (S.endP (n := s.toks) he)
    rw [← hr.length]; simp
  self := fun c i z ρ H s I Q E S q => by
    obtain ⟨o, ho, h1, h2⟩ := S.prop (.head _)
    exact wpAny_pyIter_listiter ⟨o, ho, h1, h2⟩ q
theorem It.list {H : Hp} {a : Addr} {xs : List V} (h : (a, .list xs) ∈ H) : It H (.ref a) xs (fun H => (a, .list xs) ∈ H) := fun c z ρ s val Q E hh S hv q => by
  cases hv
  obtain ⟨vs, hl, hr⟩ := S.hl h
  exact wpAny_pyIter_list hl (q _ _ _ z _ (Le.refl z) Iters.list trivial (S.pushT (n := s.toks) (ob := .prop (listIterAt a 0)) (.prop ⟨rfl, rfl⟩) rfl))
theorem Iters.lst {a : Addr} {xs : List V} : Iters (fun z => VR z (.lst xs) (.ref a)) (fun _ => True) (listIterAt a) xs where
  mono := fun _ _ le x => x.mono le
  cls := fun i o e => ⟨"list_iterator", e.1, by decide⟩
  item := fun c hh i x hx z ρ H s I Q E S hD hC q => by
    obtain ⟨o, ho, h1, h2⟩ := S.prop (.head _)
    obtain ⟨a', vs, e, hl, hr⟩ := S.hlz hD
    cases e
    obtain ⟨v, hv, r⟩ := hr.get hx
    refine wpAny_pyNext_list_item ⟨o, ho, h1, h2⟩ hl (by simpa using hv) fun h' ⟨o', ho', h1', h2'⟩ hs' => ?_
    exact q _ _ (S.setP (n := s.toks) hs' ho' ⟨h1', h2'⟩) r
  done := fun c hh z ρ H s I Q E S hD hC q => by
    obtain ⟨o, ho, h1, h2⟩ := S.prop (.head _)
    obtain ⟨a', vs, e, hl, hr⟩ := S.hlz hD
    cases e
    refine wpAny_pyNext_list_end hh ⟨o, ho, h1, h2⟩ hl ?_ fun h' he => q _ (S.endP (n := s.toks) he)
    rw [← hr.length]; simp
  self := fun c i z ρ H s I Q E S q => by
    obtain ⟨o, ho, h1, h2⟩ := S.prop (.head _)
    exact wpAny_pyIter_listiter ⟨o, ho, h1, h2⟩ q
theorem It.lst {H : Hp} {xs : List V} : It H (.lst xs) xs (fun _ => True) := fun c z ρ s val Q E hh S hv q => by
  obtain ⟨a, vs, e, hl, hr⟩ := S.hlz hv
  subst e
  exact wpAny_pyIter_list hl (q _ _ _ z _ (Le.refl z) Iters.lst hv (S.pushT (n := s.toks) (ob := .prop (listIterAt a 0)) (.prop ⟨rfl, rfl⟩) rfl))

/-- less one of the tracked -/
def Less (q : Addr × AObj) (Q : Hp → Prop) (H : Hp) : Prop := ∃ H', H.Perm (q :: H') ∧ Q H'
def TurnF (q : Addr × AObj) (Inv : Loc → Hp → Prop) (Q : Fl → Loc → Hp → Prop) : Fl → Loc → Hp → Prop
  | .next, ρ, H => Less q (Inv ρ) H
  | .cont, ρ, H => Less q (Inv ρ) H
  | .brk, ρ, H => Less q (Q .next ρ) H
  | .ret v, ρ, H => Less q (Q (.ret v) ρ) H
def LessX (q : Addr × AObj) (X : XP) : XP := fun e ρ H => Less q (X e ρ) H
theorem St.less {c : Cx} {z : FZ} {ρ : Loc} {H : Hp} {s : Shared} {q : Addr × AObj} {Q : Hp → Prop} (S : St c z ρ H s) (h : Less q Q H) : ∃ H', St c z ρ H' s ∧ Q H' := by
  obtain ⟨H', p, h⟩ := h
  exact ⟨H', (S.perm p).dropH, h⟩
theorem PostX.less {c : Cx} {z : FZ} {b : Bool} {q : Addr × AObj} {X : XP} {e : Value} {s : Shared} (h : PostX c z b (LessX q X) e s) : PostX c z b X e s := by
  obtain ⟨cls, z', ρ', H', a, rfl, le, S, x, H₂, p, h⟩ := h
  refine ⟨cls, z', ρ', H₂, a, rfl, le, (S.perm p).dropH, ?_, h⟩
  have sub : ∀ b, b ∈ c.vol H₂ → b ∈ c.vol H' := fun b hb => by
    unfold Cx.vol at hb ⊢
    rcases List.mem_cons.mp hb with h | h
    · exact h ▸ .head _
    · refine .tail _ ?_
      rcases List.mem_append.mp h with h | h
      · exact List.mem_append_left _ h
      · refine List.mem_append_right _ ((p.map (·.1)).mem_iff.mpr (.tail _ h))
  obtain ⟨⟨o1, o2⟩, oe, vs, h1, h2, h3, h4, hc2, h5⟩ := x
  refine ⟨⟨o1, fun h => o2 (sub _ h)⟩, oe, vs, h1, h2, h3, h4, hc2, ?_⟩
  rcases h5 with h | ⟨T, oT, ts, t1, t2, t3, t4⟩
  · exact .inl h
  · exact .inr ⟨T, oT, ts, t1, t2, fun h => t3 (sub _ h), t4⟩

section
variable {c : Cx} {ρ : Loc} {H : Hp} {Q : Fl → Loc → Hp → Prop} {X : XP}
/-- for over an iterator: an invariant at each place -/
theorem Ex.for {x : Str} {p' pos : Pos} {it : Expr} {body : List Stmt} (O : c.Own) (hh : c.A.handled = none)
    (h : Ev c it ρ H (fun v H₁ => ∃ items C, ∃ Inv : Nat → Loc → Hp → Prop, It H₁ v items C ∧ Inv 0 ρ H₁ ∧ (∀ i ρ H, Inv i ρ H → C H) ∧
      (∀ i v ρ H q, items[i]? = some v → Inv i ρ H → ∃ ρ', Put x v ρ ρ' ∧ Exs c body ρ' (q :: H) (TurnF q (Inv (i + 1)) Q) (LessX q X)) ∧ (∀ ρ H, Inv items.length ρ H → Q .next ρ H)) X)
    (hs : ∀ x env, foldedSetIterable it env x = pure x := by intro _ _; rfl) (ht : ∀ v I, letOwnedTupleGo (.Name x p') I v = pure () := by intro _ _; rfl) :
    Ex c (.For (.Name x p') it body [] pos) ρ H Q X := fun z s S => by
  refine wpR_For (wpR_mono (h z s S) (fun xv s₁ ⟨v, z₁, H₁, le₁, S₁, r₁, items, C, Inv, hit, h0, hC, turn, done⟩ => ?_) fun _ _ x => x) (fun x => hs x _)
  refine of (hit c z₁ ρ s₁ xv _ _ hh S₁ r₁ fun I D P z₂ s₂ le₂ hI hD S₂ => ?_)
  refine codeR_forLoop (I := fun n s' => ∃ i z' ρ' H', n = items.length + 1 - i ∧ i ≤ items.length ∧ Le z z' ∧ D z' ∧ St c z' ρ' ((I, .prop (P i)) :: H') s' ∧ Inv i ρ' H') (fun n s' ⟨i, z', ρ', H', hn, hi, le, hD', S', hInv⟩ => ?_) (items.length + 1)
    ⟨0, z₂, ρ, H₁, rfl, Nat.zero_le _, le₁.trans le₂, hD, S₂, h0⟩ (fun v => ht v _)
  by_cases hlt : i < items.length
  · have hx : items[i]? = some items[i] := List.getElem?_eq_getElem hlt
    refine of (hI.item c hh i _ hx z' ρ' H' s' I _ _ S' hD' (hC i ρ' H' hInv) fun val s₃ S₃ hv => ?_)
    obtain ⟨ρ₂, U, hb⟩ := turn i _ ρ' H' (I, .prop (P (i + 1))) hx hInv
    refine of (wpAny_assign_Name (store S₃ U hv fun s₄ S₄ => ?_))
    refine wpR_mono (hb z' s₄ S₄) (fun f s₅ ⟨fl, z₅, ρ₅, H₅, le₅, S₅, r₅, q⟩ => ?_) fun e s₅ x => came O rfl (PostX.le le (PostX.less x))
    cases r₅ with
    | next =>
      obtain ⟨H₆, p, q⟩ := q
      exact ⟨items.length + 1 - (i + 1), by omega, i + 1, z₅, ρ₅, H₆, rfl, hlt, le.trans le₅, hI.mono _ _ le₅ hD', S₅.perm p, q⟩
    | cont =>
      obtain ⟨H₆, p, q⟩ := q
      exact ⟨items.length + 1 - (i + 1), by omega, i + 1, z₅, ρ₅, H₆, rfl, hlt, le.trans le₅, hI.mono _ _ le₅ hD', S₅.perm p, q⟩
    | brk =>
      obtain ⟨H₆, S₆, q⟩ := S₅.less q
      exact ⟨.next, z₅, ρ₅, H₆, le.trans le₅, S₆, .next, q⟩
    | ret r =>
      obtain ⟨H₆, S₆, q⟩ := S₅.less q
      exact ⟨.ret _, z₅, ρ₅, H₆, le.trans le₅, S₆, .ret r, q⟩
  · have e : i = items.length := by omega
    subst e
    refine of (hI.done c hh z' ρ' H' s' I _ _ S' hD' (hC _ ρ' H' hInv) fun s₃ S₃ => ?_)
    exact wpR_execs_nil ⟨.next, z', ρ', H', le, S₃, .next, done ρ' H' hInv⟩
end
end
section

inductive Nms : List Expr → List Str → Prop
  | nil : Nms [] []
  | cons {x : Str} {p : Pos} {es : List Expr} {xs : List Str} : Nms es xs → Nms (.Name x p :: es) (x :: xs)
inductive PutAll : List Str → List V → Loc → Loc → Prop
  | nil {ρ : Loc} : PutAll [] [] ρ ρ
  | cons {x : Str} {v : V} {xs : List Str} {vs : List V} {ρ ρ₁ ρ₂ : Loc} : Put x v ρ ρ₁ → PutAll xs vs ρ₁ ρ₂ → PutAll (x :: xs) (v :: vs) ρ ρ₂
theorem Nms.length {env : Env} : ∀ {es : List Expr} {xs : List Str}, Nms es xs → (assignEach es env).length = xs.length
  | _, _, .nil => rfl
  | _, _, .cons (x := x) (p := p) (es := es) h => by
    show ((false, assign (.Name x p) env) :: assignEach es env).length = _
    rw [List.length_cons, h.length, List.length_cons]
theorem Nms.star {env : Env} : ∀ {es : List Expr} {xs : List Str}, Nms es xs → (assignEach es env).findIdx? (·.1) = none
  | _, _, .nil => rfl
  | _, _, .cons (x := x) (p := p) (es := es) h => by
    show List.findIdx? (·.1) ((false, assign (.Name x p) env) :: assignEach es env) = _
    rw [List.findIdx?_cons]
    simp only [Bool.false_eq_true, if_false, h.star, Option.map_none]
theorem PutAll.length : ∀ {xs : List Str} {vs : List V} {ρ ρ' : Loc}, PutAll xs vs ρ ρ' → xs.length = vs.length
  | _, _, _, _, .nil => rfl
  | _, _, _, _, .cons _ r => by simp [r.length]

section
variable {c : Cx} {H : Hp} {z : FZ} {E : Value → Shared → Prop}
theorem assignAll_St : ∀ {es : List Expr} {xs : List Str} {vs : List V} {vals : List Value} {ρ ρ' : Loc} {s : Shared} {Q : Unit → Shared → Prop}, Nms es xs → PutAll xs vs ρ ρ' → VRs z vs vals → St c z ρ H s → (∀ s', St c z ρ' H s' → Q () s') →
    wpAny c.M c.A (assignInOrder ((assignEach es c.env).map (·.2)) vals) Q E s
  | _, _, _, _, _, _, _, _, .nil, .nil, .nil, S, q => wpAny_pure (q _ S)
  | _, _, _, _, _, _, _, _, .cons (x := x) (p := p) (es := es) N, .cons U P, .cons (vs := vs) hv hvs, S, q => by
    show wpAny c.M c.A (assignInOrder (assign (.Name x p) c.env :: (assignEach es c.env).map (·.2)) (_ :: vs)) _ _ _
    exact assignInOrder_cons (wpAny_assign_Name (store S U hv fun s' S' => assignAll_St N P hvs S' q))
theorem assignTup {es : List Expr} {xs : List Str} {vs : List V} {val : Value} {ρ ρ' : Loc} {s : Shared} {k : Nat} {pos : Pos} {Q : Unit → Shared → Prop} (hh : c.A.handled = none) (N : Nms es xs) (P : PutAll xs vs ρ ρ') (hv : VR z (.tup vs) val) (S : St c z ρ H s) (q : ∀ s', St c z ρ' H s' → Q () s') :
    wpAny c.M c.A (assign (.Tuple es k pos) c.env val) Q E s := by
  obtain ⟨a, vals, rfl, ht, hr⟩ := S.htz hv
  refine assign_Tuple_tuple hh ht ?_ N.star fun h' he => ?_
  · rw [N.length, P.length, List.size_toArray, hr.length]
  · have S' : St c z ρ H { s with heap := h' } := S.grow (n := s.toks) fun b o e => he b o (Nat.ne_of_lt (Heap.lt_size e)) e
    exact assignAll_St N P hr S' q
end

section
variable {c : Cx} {ρ : Loc} {H : Hp} {Q : Fl → Loc → Hp → Prop} {X : XP}
/-- a tuple is unpacked into names -/
theorem Ex.assignT {es : List Expr} {xs : List Str} {k : Nat} {p' : Pos} {e : Expr} {pos : Pos} (hh : c.A.handled = none) (N : Nms es xs)
    (h : Ev c e ρ H (fun v H₁ => ∃ vs ρ', v = .tup vs ∧ PutAll xs vs ρ ρ' ∧ Q .next ρ' H₁) X)
    (hs : ∀ env, swapsWithSole [.Tuple es k p'] e pos.line env = pure false := by intro; rfl)
    (hw : ∀ env, swappedStores [.Tuple es k p'] e env = pure none := by intro; rfl) : Ex c (.Assign [.Tuple es k p'] e pos) ρ H Q X :=
  fun z s S => wpR_Assign_Tuple (wpR_mono (h z s S) (fun val s₁ ⟨v, z₁, H₁, le₁, S₁, r₁, vs, ρ', e1, P, q⟩ => by
    subst e1
    exact of (assignTup hh N P r₁ S₁ fun s' S' => ⟨.next, z₁, ρ', H₁, le₁, S', .next, q⟩)) fun _ _ x => x) (hs _) (hw _)
end

section
variable {c : Cx} {ρ : Loc} {H : Hp} {Q : V → Hp → Prop} {X : XP}
/-- a cell is read -/
theorem Ev.cell {x : Str} {pos : Pos} {v : V} {a : Addr} (hk : c.env.scope.names.lookup x = some .cell) (hc : c.env.cells.lookup x = some a) (h : (a, .cell (some v)) ∈ H) (q : Q v H) (d : (x == ("__debug__" : Str)) = false := by decide) :
    Ev c (.Name x pos) ρ H Q X := fun z s S => by
  obtain ⟨ob, e, r⟩ := S.own _ h
  cases r with
  | cell r hd => exact of (wpAny_Name (wpAny_loadName_cell S.ok.kind hk hc ⟨_, e, hd⟩ (postV (n := s.toks) S r q)) d)
theorem storeCell {z : FZ} {s : Shared} {x : Str} {a : Addr} {v : V} {o : Option V} {val : Value} {H' : Hp} {E : Value → Shared → Prop} {Q : Unit → Shared → Prop} (S : St c z ρ H s) (hk : c.env.scope.names.lookup x = some .cell) (hc : c.env.cells.lookup x = some a)
    (U : Upd a (.cell o) (.cell (some v)) H H') (hr : VR z v val) (q : ∀ s', St c z ρ H' s' → Q () s') : wpAny c.M c.A (storeName c.env x val) Q E s := by
  obtain ⟨ob, e, r⟩ := S.own _ U.mem
  have hv : ∃ v₀, s.heap.IsCell a v₀ := by cases r with
    | cell r hd => exact ⟨_, _, e, hd⟩
    | cell0 hd => exact ⟨_, _, e, hd⟩
  obtain ⟨v₀, hv⟩ := hv
  exact wpAny_storeName_cell S.ok.kind hk hc hv fun h' ⟨o', e', hd'⟩ hs' => q _ (S.upd (n := s.toks) U hs' e' (.cell hr hd'))
theorem Ex.assignCell {x : Str} {a : Addr} {o : Option V} {p' : Pos} {e : Expr} {pos : Pos} {Q : Fl → Loc → Hp → Prop} (hk : c.env.scope.names.lookup x = some .cell) (hc : c.env.cells.lookup x = some a)
    (h : Ev c e ρ H (fun v H₁ => ∃ H', Upd a (.cell o) (.cell (some v)) H₁ H' ∧ Q .next ρ H') X)
    (hs : ∀ env, swapsWith e (some (.Name x p')) pos.line env = pure false := by intro; rfl) : Ex c (.Assign [.Name x p'] e pos) ρ H Q X :=
  fun z s S => wpR_Assign_Name (wpR_mono (h z s S) (fun val s₁ ⟨v, z₁, H₁, le₁, S₁, r₁, H', U, q⟩ => of (storeCell S₁ hk hc U r₁ fun s' S' => ⟨.next, z₁, ρ, H', le₁, S', .next, q⟩)) fun _ _ x => x) (hs _)
end

-- comprehensions
def relabelS (scope outer : Scope) : Scope :=
  { scope with names := scope.names.map fun (n, k) => if (k == .free && outer.kind == .function && outer.names.lookup n == some .cell) then (n, .cell) else (n, k) }
structure Inner (c c₂ : Cx) (scope : Scope) (cl : List (Str × Addr)) : Prop where
  p : c₂.p = c.p
  w : c₂.w = c.w
  K : c₂.K = c.K
  h₀ : c₂.h₀ = c.h₀
  gl : c₂.gl = c.gl
  rm : c₂.rm = c.rm
  handled : c₂.A.handled = c.A.handled
  scope : c₂.env.scope = relabelS scope c.env.scope
  cells : c₂.env.cells = cl

def compOK (scope outer : Scope) (names : List Str) : Bool :=
  decide (scope.kind = .function) && (scope.names.all fun x => decide (x.2 ≠ .cell)) && (scope.names.all fun x => decide (x.2 = .local → scope.names.lookup x.1 = some .local)) &&
    (names.all fun x => decide ((relabelS scope outer).names.lookup x = some .local) && !(x == ("__debug__" : Str))) && decide names.Nodup

def Asg (c : Cx) (target : Expr) (v : V) (ρ ρ' : Loc) : Prop :=
  ∀ z s H I p val (Q : Unit → Shared → Prop) (E : Value → Shared → Prop), St c z ρ ((I, .prop p) :: H) s → (∀ o, p o → plainIt o) → VR z v val → (∀ s', St c z ρ' ((I, .prop p) :: H) s' → Q () s') →
    wpAny c.M c.A (letOwnedTupleGo target (.ref I) val) (fun _ s' => wpAny c.M c.A (assign target c.env val) Q E s') E s
theorem Asg.name {c : Cx} {x : Str} {p : Pos} {v : V} {ρ ρ' : Loc} (U : Put x v ρ ρ') : Asg c (.Name x p) v ρ ρ' := fun z s H I p' val Q E S _ hv q =>
  wpAny_of_eq (a := ()) (by rfl) (wpAny_assign_Name (store S U hv q))
theorem Asg.tup {c : Cx} {es : List Expr} {k : Nat} {p : Pos} {xs : List Str} {vs : List V} {ρ ρ' : Loc} (hh : c.A.handled = none) (N : Nms es xs) (U : PutAll xs vs ρ ρ') : Asg c (.Tuple es k p) (.tup vs) ρ ρ' := fun z s H I p' val Q E S hp hv q => by
  have hv' := hv
  obtain ⟨a, vals, rfl, ht, hr⟩ := S.htz hv
  obtain ⟨o, ho, po⟩ := S.prop (.head _)
  obtain ⟨n, hc, hn⟩ := hp o po
  unfold letOwnedTupleGo
  dsimp only
  refine wpAny_bind (wpAny_load ho ?_)
  rw [hc]
  cases hd : o.data with
  | fields vs =>
    dsimp only
    rw [hn, Bool.false_and, if_neg (by decide)]
    exact wpAny_pure (assignTup hh N U hv' S q)
  | _ => exact wpAny_pure (assignTup hh N U hv' S q)

/-- the tests of a clause -/
def Tsts (c : Cx) (ifs : List Expr) (ρ : Loc) (H : Hp) (b : Bool) : Prop :=
  ∀ z s (E : Value → Shared → Prop), St c z ρ H s → wpR c.M c.A (forIn ifs true fun t r => if r = true then do let ok ← isTrue t c.env (eval t c.env); pure (ForInStep.yield ok) else pure (ForInStep.yield r)) (PostB c z ρ fun b' H' => b' = b ∧ H' = H) E s
theorem Tsts.nil {c : Cx} {ρ : Loc} {H : Hp} : Tsts c [] ρ H true := fun z s E S => of (wpAny_tests_nil ⟨z, H, Le.refl z, S, rfl, rfl⟩)
theorem testsR_one {prog : Program} {w : World} {A : Around} {E : Value → Shared → Prop} {s : Shared} {env : Env} {c : Expr} {Q : Bool → Shared → Prop} (h : wpR (model prog w) A (isTrue c env (eval c env)) Q E s) :
    wpR (model prog w) A (forIn [c] true fun c r => if r = true then do let ok ← isTrue c env (eval c env); pure (ForInStep.yield ok) else pure (ForInStep.yield r)) Q E s := by
  simp only [List.forIn_cons, List.forIn_nil, if_true]
  exact wpR_bind (wpR_bind (wpR_mono h (fun b s' hb => wpR_pure (wpR_pure hb)) fun _ _ x => x))
theorem Tsts.one {c : Cx} {t : Expr} {ρ : Loc} {H : Hp} {b : Bool} (h : Tt c t ρ H (fun b' H' => b' = b ∧ H' = H) (fun _ _ _ => False)) : Tsts c [t] ρ H b := fun z s E S =>
  testsR_one (wpR_mono (h z s S) (fun _ _ x => x) fun _ _ ⟨_, _, _, _, _, _, _, _, _, f⟩ => f.elim)

theorem codeR_compLoop_any {prog : Program} {w : World} {A : Around} {R : Result → Shared → Prop} {s : Shared} {elt target iter : Expr} {ifs : List Expr} {scope : Scope} {pos : Pos} {it acc : Value} {env : Env} (I : Nat → Shared → Prop)
    (turn : ∀ n s, I n s → wpR (model prog w) A (pyNext it) (fun r s₁ => match r with
      | none => R (.ok .next) s₁
      | some v => wpR (model prog w) A (letOwnedTupleGo target it v) (fun _ s₁' => wpR (model prog w) A (assign target env v) (fun _ s₂ =>
          wpR (model prog w) A (forIn ifs true fun c r => if r = true then do let ok ← isTrue c env (eval c env); pure (ForInStep.yield ok) else pure (ForInStep.yield r)) (fun ok s₃ =>
            if ok = true then wpR (model prog w) A (eval elt env) (fun x s₄ =>
              wpR (model prog w) A (call (.builtin "list.append") [acc, x]) (fun _ s₅ => ∃ m, m < n ∧ I m s₅) (notedBy (model prog w) A env fun e s' => R (.error e) s') s₄) (notedBy (model prog w) A env fun e s' => R (.error e) s') s₃
            else ∃ m, m < n ∧ I m s₃) (notedBy (model prog w) A env fun e s' => R (.error e) s') s₂) (notedBy (model prog w) A env fun e s' => R (.error e) s') s₁') (notedBy (model prog w) A env fun e s' => R (.error e) s') s₁)
      (notedBy (model prog w) A env fun e s' => R (.error e) s') s)
    (n : Nat) (h : I n s) :
    codeR (model prog w) A (.compLoop (.ListComp elt [⟨target, iter, ifs, 0⟩] scope pos) 0 it acc env) R s := by
  refine codeR_loop rfl rfl I (fun n s hI => ?_) n h
  show wpR _ A ((compTurn (.ListComp elt [⟨target, iter, ifs, 0⟩] scope pos) 0 it acc env).onRaise (fun x => do noteFrame x env; theTreesLotGoes x)) _ _ s
  refine wpR_noted ?_
  rw [compTurn_list]
  refine wpR_at (wpR_bind (wpR_mono (turn n s hI) (fun r s₁ h₁ => ?_) fun _ _ h' => h'))
  cases r with
  | none => exact wpR_pure h₁
  | some v =>
    refine wpR_bind (wpR_mono h₁ (fun _ s₁' h₁' => ?_) fun _ _ h' => h')
    refine wpR_bind (wpR_mono h₁' (fun _ s₂ h₂ => wpR_bind (wpR_mono h₂ (fun ok s₃ h₃ => ?_) fun _ _ h' => h')) fun _ _ h' => h')
    cases ok with
    | false => exact wpR_pure (.inl ⟨rfl, h₃⟩)
    | true =>
      exact wpR_bind (wpR_bind (wpR_mono h₃ (fun x s₄ h₄ => wpR_bind (wpR_mono h₄ (fun _ s₅ h₅ => wpR_pure (wpR_pure (.inl ⟨rfl, h₅⟩))) fun _ _ h' => h')) fun _ _ h' => h'))

section
variable {c : Cx} {z : FZ} {ρ : Loc} {H : Hp} {s : Shared}
theorem St.unloc {ns : List Str} (S : St c z ρ H s) (h : ρ.map (·.1) = ns) : St c z (ns.map fun x => (x, none)) H s := by
  subst h
  refine ⟨S.ok, S.base, S.fin, S.vol, S.nodup, S.kp, S.own, ?_, ?_, fun q hq => ?_, S.gens, S.os⟩
  · obtain ⟨m, hn, _⟩ := S.loc
    refine ⟨m, hn, fun x v hx => ?_⟩
    obtain ⟨y, _, e⟩ := List.mem_map.mp hx
    cases e
  · rw [List.map_map]
    show (List.map id (ρ.map (·.1))).Nodup
    rw [List.map_id]; exact S.keys
  · obtain ⟨y, hy, e⟩ := List.mem_map.mp hq
    obtain ⟨p, hp, e'⟩ := List.mem_map.mp hy
    cases e
    exact e' ▸ S.lk p hp
theorem PutAll.keys : ∀ {xs : List Str} {vs : List V} {ρ ρ' : Loc}, PutAll xs vs ρ ρ' → ρ'.map (·.1) = ρ.map (·.1)
  | _, _, _, _, .nil => rfl
  | _, _, _, _, .cons U r => by rw [r.keys, U.keys]

/-- a list grows -/
theorem append_St {z : FZ} {s : Shared} {a : Addr} {xs : List V} {y : V} {val : Value} {H' : Hp} {E : Value → Shared → Prop} {Q : Value → Shared → Prop} (S : St c z ρ H s) (U : Upd a (.list xs) (.list (xs ++ [y])) H H') (hv : VR z y val) (hz : xs.length ≤ sizeLine)
    (q : ∀ s', St c z ρ H' s' → Q .none s') : wpAny c.M c.A (call (.builtin "list.append") [.ref a, val]) Q E s := by
  obtain ⟨ob, e, r⟩ := S.own _ U.mem
  cases r with
  | list r =>
    refine wpAny_list_append_plain ⟨_, e⟩ (fun h' ⟨n', e'⟩ hs' => q _ (S.upd (n := s.toks) U hs' e' ?_)) (by rw [List.size_toArray, r.length]; exact hz)
    simp only [List.push_toArray]
    exact .list (r.append (.cons hv .nil))
end

/-- the context of a comprehension -/
def Cx.inner (c : Cx) (scope : Scope) (cl : List (Str × Addr)) (C : Addr) (oL : Obj) : Cx := { c with env := compEnvC scope cl C c.env, kp := (c.L, oL) :: c.kp }
def nsP (o : Obj) : Prop := ∃ es ep, o.data = .dict es ep ∧ StrKeys es

end
section

section
variable {c : Cx} {z : FZ} {ρ : Loc} {H : Hp} {s : Shared}
/-- a tracked list comes to stand -/
theorem St.freeze {a : Addr} {xs : List V} (S : St c z ρ ((a, .list xs) :: H) s) : ∃ z', Le z z' ∧ St c z' ρ H s ∧ VR z' (.lst xs) (.ref a) := by
  obtain ⟨ob, e, r⟩ := S.own _ (.head _)
  cases r with
  | @list _ vs n r =>
    have nv : a ∉ c.vol H := fun hm => (List.nodup_cons.mp (vol_cons.nodup_iff.mp S.nodup)).1 hm
    have nz : z a = none := S.vol a (mem_vol_H (q := (a, _)) (.head _))
    have le := FZ.put_le (o := { cls := .type "list", data := .seq vs.toArray n }) nz
    have S' := S.dropH
    refine ⟨_, le, ?_, .lst (FZ.put_self ..) rfl rfl (r.mono le)⟩
    refine S'.heap (n := s.toks) (h' := s.heap) le (fun b o' e' => ?_) (fun b hb => ?_) S'.nodup (fun _ _ _ e => same_slots e) (fun q hq => let ⟨ob, e, r⟩ := S'.own q hq; ⟨ob, e, r.mono le⟩) fun _ e => same_slots e
    · unfold FZ.put at e'
      by_cases q : b = a
      · rw [if_pos q] at e'; cases e'; rw [q]; exact e
      · rw [if_neg q] at e'; exact S'.fin b o' e'
    · have q : b ≠ a := fun q => nv (q ▸ hb)
      unfold FZ.put
      rw [if_neg q]; exact S'.vol b hb

theorem St.toOuter {c' : Cx} {z z' : FZ} {ρ' : Loc} {H' : Hp} {s s' : Shared} {oL : Obj} (S : St c z ρ H s) (hL : s.heap.get? c.L = some oL) (hkp : c'.kp = (c.L, oL) :: c.kp) (hw : c'.w = c.w) (hos : c'.os = c.os) (hh : c'.h₀ = c.h₀)
    (le : Le z z') (S' : St c' z' ρ' H' s') : St c z' ρ ((c'.L, .prop nsP) :: H') s' := by
  have S₁ := postV_back (c' := c') S hL hkp hw hos hh le S'
  have hv : c'.vol H' = c'.L :: c.vol H' := by unfold Cx.vol; rw [hkp]; rfl
  have hP : (c.vol ((c'.L, AObj.prop nsP) :: H')).Perm (c'.vol H') := hv ▸ vol_cons
  refine ⟨S₁.ok, S₁.base, S₁.fin, fun a ha => S'.vol a (hP.mem_iff.mp ha), hP.nodup_iff.mpr S'.nodup, S₁.kp, fun q hq => ?_, S₁.loc, S₁.keys, S₁.lk, S₁.gens, S₁.os⟩
  rcases List.mem_cons.mp hq with rfl | hq
  · obtain ⟨m, ⟨o, es, ep, ho, hd, hk, _⟩, _⟩ := S'.loc
    exact ⟨o, ho, .prop ⟨es, ep, hd, hk⟩⟩
  · exact S₁.own q hq

theorem St.toInner (S : St c z ρ H s) {scope : Scope} {cl : List (Str × Addr)} {names : List Str} (hok : compOK scope c.env.scope names = true) {oL : Obj} (hL : s.heap.get? c.L = some oL) {h₁ : Heap} {n : Nat} {m : Str → Option Value}
    (hns : h₁.Ns s.heap.objs.size m) (hk : ∀ b o, s.heap.get? b = some o → h₁.get? b = some o) :
    St (c.inner scope cl s.heap.objs.size oL) z (names.map fun x => (x, none)) H { s with heap := h₁, toks := n } := by
  simp only [compOK, Bool.and_eq_true, decide_eq_true_eq, Bool.not_eq_true', List.all_eq_true] at hok
  obtain ⟨⟨⟨⟨k1, k2⟩, k3⟩, k4⟩, k5⟩ := hok
  have hLd : ∀ vs, oL.data ≠ .fields vs := fun vs q => by
    obtain ⟨m, ⟨o, es, ep, ho, hd, _⟩, _⟩ := S.loc
    rw [hL] at ho; cases ho; rw [hd] at q; cases q
  have ok : (c.inner scope cl s.heap.objs.size oL).OK := by
    refine ⟨S.ok.X, S.ok.lim, S.ok.frames, fun e he => ?_, k1, S.ok.guards, S.ok.depth, S.ok.units, S.ok.env, S.ok.gl⟩
    obtain ⟨hk, a, hf, ha⟩ := S.ok.frs e he
    refine ⟨hk, a, hf, .inr ?_⟩
    rcases ha with rfl | ⟨o, ho, hd⟩
    · exact ⟨oL, .head _, hLd⟩
    · exact ⟨o, .tail _ ho, hd⟩
  have hv : (c.inner scope cl s.heap.objs.size oL).vol H = s.heap.objs.size :: c.vol H := rfl
  refine ⟨ok, S.base, fun b o e => hk _ _ (S.fin b o e), fun a ha => ?_, ?_, fun q hq => ?_, fun q hq => ?_, ⟨m, hns, fun x v hx => ?_⟩, ?_, fun q hq => ?_, S.gens, S.os⟩
  · rw [hv] at ha
    rcases List.mem_cons.mp ha with rfl | ha
    · exact S.fresh
    · exact S.vol a ha
  · rw [hv, List.nodup_cons]; exact ⟨S.fresh_vol, S.nodup⟩
  · rcases List.mem_cons.mp hq with rfl | hq
    · exact same_slots (hk _ _ hL)
    · obtain ⟨sl, e⟩ := S.kp q hq; exact ⟨sl, hk _ _ e⟩
  · obtain ⟨ob, e, r⟩ := S.own q hq; exact ⟨ob, hk _ _ e, r⟩
  · obtain ⟨y, _, e⟩ := List.mem_map.mp hx; cases e
  · rw [List.map_map]
    show (List.map id names).Nodup
    rw [List.map_id]; exact k5
  · obtain ⟨y, hy, e⟩ := List.mem_map.mp hq
    cases e
    exact ⟨(k4 y hy).1, (k4 y hy).2⟩
end

section
variable {c : Cx} {ρ : Loc} {H : Hp} {X : XP}

/-- what a comprehension gathers -/
structure CompOf (c : Cx) (scope : Scope) (cl : List (Str × Addr)) (names : List Str) (target elt : Expr) (ifs : List Expr) (H₁ : Hp) (v : V) (ys : List V) : Prop where
  it : ∃ items C, ∃ (p : V → Bool) (f : V → V), It H₁ v items C ∧ items.length ≤ sizeLine ∧ (∀ q, C (q :: H₁)) ∧ ys = (items.filter p).map f ∧
    ∀ c₂, Inner c c₂ scope cl → ∀ x ∈ items, ∃ ρ₂, Asg c₂ target x (names.map fun x => (x, none)) ρ₂ ∧ ρ₂.map (·.1) = names ∧ ∀ q₁ q₂, Tsts c₂ ifs ρ₂ (q₁ :: q₂ :: H₁) (p x) ∧
      (p x = true → Ev c₂ elt ρ₂ (q₁ :: q₂ :: H₁) (fun y H' => y = f x ∧ H' = q₁ :: q₂ :: H₁) (fun _ _ _ => False))

theorem comp_core {target elt iter : Expr} {ifs : List Expr} {scope : Scope} {cl : List (Str × Addr)} {names : List Str} {pos epos : Pos} {use : Option (Value → Sem Unit)} {z : FZ} {s : Shared} {Q : Value → Shared → Prop}
    (hh : c.A.handled = none) (hclos : closureFor scope c.env = pure cl) (hok : compOK scope c.env.scope names = true) (S : St c z ρ H s)
    (h : Ev c iter ρ H (fun v H₁ => ∃ ys, CompOf c scope cl names target elt ifs H₁ v ys ∧
      ∀ z' s' D C, Le z z' → St c z' ρ ((C, .prop nsP) :: (D, .list ys) :: H₁) s' → compPost c.M c.A (PostX c z false X) use Q (.ref D) C (.ok .next) s') X)
    (hs : ∀ x env, foldedSetIterable iter env x = pure x := by intro _ _; rfl) :
    wpR c.M c.A (comprehension (.ListComp elt [⟨target, iter, ifs, 0⟩] scope pos) scope c.env epos (newList []) false (eval iter c.env) use) Q (PostX c z false X) s := by
  have hok' := hok
  simp only [compOK, Bool.and_eq_true, decide_eq_true_eq, Bool.not_eq_true', List.all_eq_true] at hok'
  obtain ⟨⟨⟨⟨k1, k2⟩, k3⟩, k4⟩, k5⟩ := hok'
  refine wpR_comprehension rfl (fun x => hs x _) hclos k1 (fun x hx e => k3 x hx e) (wpR_mono (h z s S) (fun xv s₁ ⟨v, z₁, H₁, le₁, S₁, r₁, ys, ⟨items, C, p, f, hit, hz, hC, hys, elts⟩, fin⟩ => ?_) fun _ _ x => x)
  refine of (hit c z₁ ρ s₁ xv _ _ hh S₁ r₁ fun I D P z₂ s₂ le₂ hI hD S₂ => ?_)
  refine of (wpAny_newObj_type (of (wpAny_newFunctionEnv (fun x hx => k2 x hx) (by intro y hy; simp at hy) (fun h₁ hns₁ hsb₁ => ?_) k1)))
  have S₃ : St c z₂ ρ ((s₂.heap.objs.size, .list []) :: (I, .prop (P 0)) :: H₁) { s₂ with heap := s₂.heap.push { cls := .type "list", dict := none, data := .seq ([] : List Value).toArray } } := S₂.pushT (n := s₂.toks) (.list (n := 0) .nil) rfl
  have S₃ : St c z₂ ρ ((I, .prop (P 0)) :: (s₂.heap.objs.size, .list []) :: H₁) { s₂ with heap := s₂.heap.push { cls := .type "list", dict := none, data := .seq ([] : List Value).toArray } } := S₃.perm (.swap ..)
  obtain ⟨mL, ⟨oL, _, _, hL, _⟩, _⟩ := S₃.loc
  have hk₁ : ∀ b o, (s₂.heap.push { cls := .type "list", dict := none, data := .seq ([] : List Value).toArray }).get? b = some o → h₁.get? b = some o := fun b o e =>
    hsb₁.extBut b o (Nat.ne_of_lt (Heap.lt_size e)) (Heap.get?_push_of_some _ e)
  have S₄ := S₃.toInner (cl := cl) (n := s₂.toks + ([] : List (Str × Value)).length) hok hL hns₁ hk₁
  dsimp only at S₄ ⊢
  let c₂ := c.inner scope cl (s₂.heap.push { cls := .type "list", dict := none, data := .seq ([] : List Value).toArray }).objs.size oL
  have inn : Inner c c₂ scope cl := ⟨rfl, rfl, rfl, rfl, rfl, rfl, rfl, rfl, rfl⟩
  have loop : codeR c.M c.A (.compLoop (.ListComp elt [⟨target, iter, ifs, 0⟩] scope pos) 0 (.ref I) (.ref s₂.heap.objs.size) c₂.env)
      (compPost c.M c.A (PostX c z false X) use Q (.ref s₂.heap.objs.size) c₂.L) { s₂ with heap := h₁, toks := s₂.toks + ([] : List (Str × Value)).length } := by
    refine codeR_compLoop_any (fun n s' => ∃ i z', n = items.length + 1 - i ∧ i ≤ items.length ∧ Le z₂ z' ∧ D z' ∧ St c₂ z' (names.map fun x => (x, none)) ((I, .prop (P i)) :: (s₂.heap.objs.size, .list (((items.take i).filter p).map f)) :: H₁) s')
      (fun n s' ⟨i, z', hn, hi, le, hD', S'⟩ => ?_) (items.length + 1) ⟨0, z₂, rfl, Nat.zero_le _, Le.refl _, hD, S₄⟩
    by_cases hlt : i < items.length
    · have hx : items[i]? = some items[i] := List.getElem?_eq_getElem hlt
      obtain ⟨ρ₂, asg, hρ, he⟩ := elts c₂ inn items[i] (List.getElem_mem hlt)
      refine of (hI.item c₂ hh i _ hx z' _ _ s' I _ _ S' hD' (hC _) fun val s₃ S₅ hv => ?_)
      refine of (wpAny_mono (asg z' s₃ _ I _ val _ _ S₅ (hI.cls _) hv fun s₄ S₆ => ?_) (fun _ _ x => of x) fun _ _ x => x)
      obtain ⟨ht, hel⟩ := he (I, .prop (P (i + 1))) (s₂.heap.objs.size, .list (((items.take i).filter p).map f))
      have tk : (items.take (i + 1)).filter p = (items.take i).filter p ++ (if p items[i] then [items[i]] else []) := take_succ_filter p items i _ hx
      refine wpR_mono (ht z' s₄ _ S₆) (fun ok s₅ ⟨z₅, H₅, le₅, S₇, e1, e2⟩ => ?_) fun _ _ x => x
      subst e2
      cases ok with
      | false =>
        rw [if_neg (by decide)]
        refine ⟨items.length + 1 - (i + 1), by omega, i + 1, z₅, rfl, hlt, le.trans le₅, hI.mono _ _ le₅ hD', ?_⟩
        rw [tk, ← e1]
        simpa using S₇.unloc hρ
      | true =>
        rw [if_pos rfl]
        refine wpR_mono (hel e1.symm z₅ s₅ S₇) (fun y s₆ ⟨vy, z₆, H₆, le₆, S₈, ry, e3, e4⟩ => ?_) fun _ _ ⟨_, _, _, _, _, _, _, _, _, f⟩ => f.elim
        subst e3; subst e4
        have hl : (((items.take i).filter p).map f).length ≤ sizeLine := by
          rw [List.length_map]
          refine Nat.le_trans (List.length_filter_le ..) (Nat.le_trans ?_ hz)
          rw [List.length_take]; omega
        refine of (append_St (c := c₂) S₈ (.tail .head) ry hl fun s₇ S₉ => ?_)
        refine ⟨items.length + 1 - (i + 1), by omega, i + 1, z₆, rfl, hlt, (le.trans le₅).trans le₆, hI.mono _ _ (le₅.trans le₆) hD', ?_⟩
        rw [tk, ← e1]
        simpa using S₉.unloc hρ
    · have e : i = items.length := by omega
      subst e
      refine of (hI.done c₂ hh z' _ _ s' I _ _ S' hD' (hC _) fun s₃ S₅ => ?_)
      rw [List.take_length, ← hys] at S₅
      refine fin z' s₃ _ _ ((le₁.trans le₂).trans le) (St.toOuter (c := c) (c' := c₂) (ρ' := names.map fun x => (x, none)) S₃ hL rfl rfl rfl rfl le S₅)
  exact codeR_compStart_list loop (hI.self c₂ 0 z₂ _ _ _ I _ _ S₄ loop)

theorem Ev.comp {target elt iter : Expr} {ifs : List Expr} {scope : Scope} {cl : List (Str × Addr)} {names : List Str} {pos : Pos} {Q : V → Hp → Prop}
    (hh : c.A.handled = Option.none) (hclos : closureFor scope c.env = pure cl) (hok : compOK scope c.env.scope names = true)
    (h : Ev c iter ρ H (fun v H₁ => ∃ ys, CompOf c scope cl names target elt ifs H₁ v ys ∧ Q (.lst ys) H₁) X)
    (hs : ∀ x env, foldedSetIterable iter env x = pure x := by intro _ _; rfl) : Ev c (.ListComp elt [⟨target, iter, ifs, 0⟩] scope pos) ρ H Q X := fun z s S => by
  rw [eval_ListComp]
  refine comp_core (use := Option.none) hh hclos hok S (fun z₀ s₀ S₀ => wpR_mono (h z₀ s₀ S₀) (fun val s₁ ⟨v, z₁, H₁, le₁, S₁, r₁, ys, co, q⟩ => ⟨v, z₁, H₁, le₁, S₁, r₁, ys, co, fun z' s' D C le S' => ?_⟩) fun _ _ x => x) hs
  obtain ⟨o, e, po⟩ := S'.prop (.head _)
  obtain ⟨es, ep, hd, hk⟩ := po
  refine ⟨_, ⟨o, es, ep, e, hd, hk, fun _ => rfl⟩, fun h' hs' => ?_⟩
  have S₂ := S'.endP (n := s'.toks) hs'.extBut
  obtain ⟨z₃, le₃, S₃, r₃⟩ := S₂.freeze
  exact ⟨.lst ys, z₃, H₁, le.trans le₃, S₃, r₃, q⟩
/-- a comprehension that a name takes -/
theorem Ex.assignComp {x : Str} {p' : Pos} {target elt iter : Expr} {ifs : List Expr} {scope : Scope} {cl : List (Str × Addr)} {names : List Str} {pos spos : Pos} {Q : Fl → Loc → Hp → Prop}
    (hsw : swapsWith (Expr.ListComp elt [⟨target, iter, ifs, 0⟩] scope pos) (some (Expr.Name x p')) spos.line c.env = pure true)
    (hh : c.A.handled = none) (hclos : closureFor scope c.env = pure cl) (hok : compOK scope c.env.scope names = true)
    (h : Ev c iter ρ H (fun v H₁ => ∃ ys, CompOf c scope cl names target elt ifs H₁ v ys ∧ ∃ ρ', Put x (.lst ys) ρ ρ' ∧ Q .next ρ' H₁) X)
    (hs : ∀ x env, foldedSetIterable iter env x = pure x := by intro _ _; rfl) : Ex c (.Assign [.Name x p'] (.ListComp elt [⟨target, iter, ifs, 0⟩] scope pos) spos) ρ H Q X := fun z s S => by
  rw [exec_Assign_Name_used _ _ _ _ hsw]
  refine wpR_at (wpR_bind ?_)
  show wpR _ c.A (do let _ ← comprehension (.ListComp elt [⟨target, iter, ifs, 0⟩] scope pos) scope c.env _ (newList []) false (eval iter c.env) (some (PySem.assign (Expr.Name x p') c.env))) _ _ s
  refine wpR_bind (wpR_mono (comp_core (Q := fun _ s' => PostS c z Q .next s') hh hclos hok S (fun z₀ s₀ S₀ => wpR_mono (h z₀ s₀ S₀) (fun val s₁ ⟨v, z₁, H₁, le₁, S₁, r₁, ys, co, ρ', U, q⟩ => ⟨v, z₁, H₁, le₁, S₁, r₁, ys, co, fun z' s' D C le S' => ?_⟩) fun _ _ x => x) hs)
    (fun _ s' hq => wpR_pure (wpR_pure hq)) fun _ _ e => e)
  show wpAny _ c.A (PySem.assign (Expr.Name x p') c.env (.ref D)) _ _ _
  obtain ⟨z₃, le₃, S₃, r₃⟩ := (S'.perm (.swap ..)).freeze
  refine wpAny_assign_Name (store S₃ U r₃ fun s'' S'' => ?_)
  obtain ⟨o, e, po⟩ := S''.prop (.head _)
  obtain ⟨es, ep, hd, hk⟩ := po
  refine ⟨_, ⟨o, es, ep, e, hd, hk, fun _ => rfl⟩, fun h' hs' => ?_⟩
  exact ⟨.next, z₃, ρ', H₁, le.trans le₃, S''.endP (n := s''.toks) hs'.extBut, .next, q⟩

theorem closure_none {scope : Scope} {env : Env} (h : (scope.names.all fun x => decide (x.2 ≠ .free)) = true) : closureFor scope env = pure [] := closureFor_none fun x hx => by simpa using List.all_eq_true.mp h x hx
theorem closure_one {scope : Scope} {env : Env} {x : Str} {a : Addr} (hc : env.cells.lookup x = some a) (h : scope.names.filter (fun y => y.2 == .free) = [(x, .free)]) : closureFor scope env = pure [(x, a)] := by
  have key : ∀ (l : List (Str × NameKind)) (cs : List (Str × Addr)), (l.filter fun y => y.2 == .free) = [] → (forIn l cs fun x cs => do
      if (x.2 == NameKind.free) = true then do let r ← cellOf env x.1; pure (ForInStep.yield ((x.1, r) :: cs)) else pure (ForInStep.yield cs)) = (pure cs : Sem (List (Str × Addr))) := by
    intro l
    induction l with
    | nil => intros; rfl
    | cons y r ih =>
      intro cs hf
      rw [List.filter_cons] at hf
      by_cases hy : (y.2 == NameKind.free) = true
      · rw [if_pos hy] at hf; cases hf
      · rw [if_neg hy] at hf
        rw [List.forIn_cons, if_neg hy, pure_bind]
        exact ih cs hf
  have key2 : ∀ (l : List (Str × NameKind)), (l.filter fun y => y.2 == .free) = [(x, .free)] → (forIn l ([] : List (Str × Addr)) fun x cs => do
      if (x.2 == NameKind.free) = true then do let r ← cellOf env x.1; pure (ForInStep.yield ((x.1, r) :: cs)) else pure (ForInStep.yield cs)) = (pure [(x, a)] : Sem (List (Str × Addr))) := by
    intro l
    induction l with
    | nil => intro hf; cases hf
    | cons y r ih =>
      intro hf
      rw [List.filter_cons] at hf
      by_cases hy : (y.2 == NameKind.free) = true
      · rw [if_pos hy] at hf
        injection hf with e1 e2
        subst e1
        rw [List.forIn_cons]
        simp only [beq_self_eq_true, if_true]
        have : cellOf env x = pure a := by unfold cellOf; rw [hc]
        simp only [this, pure_bind]
        exact key r _ e2
      · rw [if_neg hy] at hf
        rw [List.forIn_cons, if_neg hy, pure_bind]
        exact ih hf
  unfold closureFor
  have := key2 scope.names h
  simp only [this]
  first | rfl | simp
end
end
section

def V.val0 : V → Option Value
  | .ref a => some (.ref a)
  | .ty n => some (.type n)
  | _ => Option.none
theorem VR.val0 {z : FZ} {x : V} {v cls : Value} (h : VR z x v) (e : x.val0 = some cls) : v = cls := by
  cases h <;> simp [V.val0] at e <;> exact e

/-- a class of exceptions that a raise may name -/
structure ExcC (c : Cx) (cls : Value) : Prop where
  isExc : Looks c.M c.h₀ (isExcClass cls) true
  sub : Looks c.M c.h₀ (isSubtype cls (.type "BaseException")) true
  isTy : Looks c.M c.h₀ (isType cls) true
  issub : ∀ (A : Around) (s : Shared) (Q : Value → Shared → Prop) (E : Value → Shared → Prop), (∀ b o, c.h₀.get? b = some o → s.heap.get? b = some o) → Q (.bool true) s → wpAny c.M A (call (.builtin "issubclass") [cls, cls]) Q E s
  make : ∀ (A : Around) (s : Shared) (Q : Value → Shared → Prop) (E : Value → Shared → Prop), (∀ b o, c.h₀.get? b = some o → s.heap.get? b = some o) → (∀ h' e, Heap.MadeExcOf s.heap h' e cls [] → Q (.ref e) { s with heap := h' }) → wpAny c.M A (call cls []) Q E s

/-- what is told of an exception while it is handled -/
def excP (o : Obj) : Prop := ∃ vs, o.data = .fields vs ∧ vs[2]? = some .none

theorem entry_unchain : entryFor table "proto.unchain" = some Builtin.«proto.unchain» := entryFor_of_tree (by kernel_rfl)

section
variable {c : Cx} {z : FZ} {ρ : Loc} {H : Hp} {s : Shared} {X : XP}

theorem made_exc {h' : Heap} {e : Addr} {cls : Value} {args : List Value} (S : St c z ρ H s) (m : Heap.MadeExcOf s.heap h' e cls args) :
    St c z ρ H { s with heap := h' } ∧ ExcAt c z H h' e cls false := by
  obtain ⟨t, ht, _⟩ := m.there
  exact ⟨S.grow (n := s.toks) m.keeps, ⟨S.new_z m.new, S.new_vol m.new⟩, _, _, ht, rfl, rfl, by simp, fun _ => rfl, .inl ⟨rfl, rfl⟩⟩

/-- the last steps of a raise -/
theorem raise_last {e : Addr} {cls : Value} {F : Type} {Q : F → Shared → Prop} (S : St c z ρ H s) (x : ExcAt c z H s.heap e cls false)
    (hd : c.A.handled = none ∨ ∃ e₀, c.A.handled = some (.ref e₀) ∧ (e₀, .prop excP) ∈ H ∧ cls = .type "StopIteration") (q : X cls ρ H) :
    wpAny c.M c.A (do setFlight (.ref e) none; raiseNew (.ref e) : Sem F) Q (PostX c z false X) s := by
  refine wpAny_bind (setFlight_St S x fun h' S' x' => ?_)
  rcases hd with hd | ⟨e₀, hd, h0, hc⟩
  · exact wpAny_raiseNew_none hd ⟨cls, z, ρ, H, e, rfl, Le.refl z, S', x', q⟩
  · unfold raiseNew
    refine wpAny_bind (wpAny_handled ?_)
    rw [hd]
    dsimp only
    have hne : e₀ ≠ e := fun q => x'.out.2 (q ▸ mem_vol_H h0)
    rw [if_pos (show (Value.ref e₀ != Value.ref e) = true by simpa using hne)]
    obtain ⟨o₀, ho, vs, hv, h2⟩ := S'.prop h0
    refine wpAny_bind (wpAny_holding (wpAny_runValue (codeAny_builtin entry_unchain ?_)))
    unfold Builtin.«proto.unchain»
    show wpAny _ _ (field (.ref e₀) 2 >>= _) _ _ _
    refine wpAny_bind (wpAny_field ho hv h2 ?_)
    rw [if_pos (by decide)]
    refine wpAny_bind (wpAny_pure ?_)
    refine wpAny_pure ?_
    obtain ⟨⟨o1, o2⟩, oe, ws, h1, h3, h4, h5, h6, h7⟩ := x'
    refine wpAny_bind ?_
    unfold updateField
    refine wpAny_bind (wpAny_load h1 ?_)
    rw [h4]
    dsimp only
    rw [if_pos (by omega)]
    refine wpAny_update (s := { s with heap := h' }) h1 ?_
    have S'' := S'.out (n := s.toks) o1 o2 (Heap.SameBut.update h' e (Obj.mapFields (·.setIfInBounds 2 (Value.ref e₀))))
    refine wpAny_throw ⟨cls, z, ρ, H, e, rfl, Le.refl z, S'', ⟨⟨o1, o2⟩, _, _, Heap.get?_update_self _ h1 (Obj.isFreed_of_fields (Obj.data_mapFields h4 _)), (Obj.cls_mapFields ..).trans h3, Obj.data_mapFields h4 _, by simpa using h5, fun hn => absurd hc hn, ?_⟩, q⟩
    rcases h7 with ⟨h, hb⟩ | ⟨T, oT, ts, t1, t2, t3, t4, t5, t6⟩
    · exact .inl ⟨by rw [Array.getElem?_setIfInBounds_ne (by decide)]; exact h, rfl⟩
    · exact .inr ⟨T, oT, ts, by rw [Array.getElem?_setIfInBounds_ne (by decide)]; exact t1, t2, t3, t4, (Heap.get?_update_other _ _ t4.symm).trans t5, t6⟩
end

section
variable {c : Cx} {ρ : Loc} {H : Hp} {Q : Fl → Loc → Hp → Prop} {X : XP}
/-- raise and the name of a class -/
theorem Ex.raiseN {x : Str} {np pos : Pos}
    (h : Ev c (.Name x np) ρ H (fun v H₁ => ∃ cls, v.val0 = some cls ∧ ExcC c cls ∧ (c.A.handled = none ∨ ∃ e₀, c.A.handled = some (.ref e₀) ∧ (e₀, .prop excP) ∈ H₁ ∧ cls = .type "StopIteration") ∧ X cls ρ H₁) X) :
    Ex c (.Raise (some (.Name x np)) none pos) ρ H Q X := fun z s S => by
  show wpR c.M c.A (do standAt pos; raiseStmt c.env (some (do let v ← eval (.Name x np) c.env; standAt pos; pure v)) none) _ _ s
  refine wpR_at ?_
  unfold raiseStmt
  dsimp only
  refine wpR_bind (wpR_bind (wpR_mono (h z s S) (fun val s₁ ⟨v, z₁, H₁, le₁, S₁, r₁, cls, hv, hX, hd, q⟩ => wpR_at (wpR_pure (of ?_))) fun _ _ e => e))
  obtain rfl := r₁.val0 hv
  refine wpAny_bind (wpAny_pure ?_)
  dsimp only
  refine wpAny_bind (wpAny_holding ?_)
  unfold excFromValue
  refine wpAny_bind ((hX.isExc.keeps S₁.h0).here ?_)
  simp only [if_true]
  refine wpAny_bind (hX.make _ _ _ _ S₁.h0 fun h' e m => ?_)
  obtain ⟨S₂, x₂⟩ := made_exc S₁ m
  have he : ∃ oe, h'.get? e = some oe ∧ oe.cls = val := let ⟨_, oe, vs, a, b, _⟩ := x₂; ⟨oe, a, b⟩
  obtain ⟨oe, he, hc⟩ := he
  have hty : Looks c.M h' (typeOf (.ref e)) val := fun A Q E s k q => by
    show wpAny _ _ (loadPart e .none >>= fun o => pure o.cls) _ _ _
    exact wpAny_bind (wpAny_loadPart (k _ _ he) (wpAny_pure (hc ▸ q)))
  have hin : Looks c.M h' (isInstance (.ref e) (.type "BaseException")) true := hty.andThen (hX.sub.keeps S₂.h0)
  refine wpAny_bind (hin.here ?_)
  simp only [Bool.not_true, Bool.false_eq_true, if_false]
  refine wpAny_pure ?_
  refine wpAny_bind ((hX.isTy.keeps S₂.h0).here ?_)
  rw [if_pos rfl]
  refine wpAny_bind (wpAny_holding ?_)
  unfold raisedFor
  simp only [Bool.false_eq_true, if_false]
  refine wpAny_bind (hty.here ?_)
  refine wpAny_bind (hX.issub _ _ _ _ S₂.h0 (wpAny_bind (wpAny_truthy_bool ?_)))
  rw [if_pos rfl]
  refine wpAny_pure ?_
  exact wpAny_mono (raise_last (X := X) (Q := fun _ _ => False) S₂ x₂ hd q) (fun _ _ f => f.elim) fun _ _ e => PostX.le le₁ e
end

section
variable {c : Cx} {cls : Value}
theorem objOfExc {K : Frag} {h : Heap} {C : Addr} {bmB : List Value} {newId : String} (X : K.In h) (q : excIn K C bmB newId = true) :
    ∃ nm q bs bm N hdct sn sub ab col dd k0 k1 k2 k3 k5 mN, h.get? C = some (excClassObj nm q C N bs bm hdct sn sub ab col dd k0 k1 k2 k3 k5 newId) ∧ h.Ns N mN ∧ mN "__init__" = none ∧ OwnTail h bmB bm := by
  unfold excIn at q
  split at q
  · rename_i dd cd sl ho
    split at q
    · rename_i C' bm k0 k1 k2 k3 n k5 hm hs
      simp only [Bool.and_eq_true, beq_iff_eq, Bool.not_eq_true'] at q
      obtain ⟨⟨⟨⟨⟨rfl, rfl⟩, hdel⟩, ht⟩, hok⟩, hni⟩ := q
      obtain ⟨nm, bs, mro, ns, qn, hd, sn, sub, ab, col, del⟩ := cd
      dsimp only at hm hdel hok hni
      subst hm hdel
      have hsl : sl = #[k0, k1, k2, k3, some (.builtin n), k5] := by
        obtain ⟨l⟩ := sl
        simp only at hs
        rw [hs]
      subst hsl
      exact ⟨_, _, _, _, _, _, _, _, _, _, _, _, _, _, _, _, _, X _ _ ho, .of_isNs (isNs_of_in X hok), nsMap_none_of_in X hok hni, tail_of_in X ht⟩
    · cases q
  · cases q

theorem issub_own {K : Frag} {h : Heap} {cls : Value} {prog : Program} {w : World} (X : K.In h) (e : kitCls K cls cls = some true) :
    ∀ (A : Around) (s : Shared) (Q : Value → Shared → Prop) (E : Value → Shared → Prop), (∀ b o, h.get? b = some o → s.heap.get? b = some o) → Q (.bool true) s → wpAny (model prog w) A (call (.builtin "issubclass") [cls, cls]) Q E s := by
  intro A s Q E k q
  obtain ⟨h1, h2, h3⟩ := kit_cls (M := model prog w) X e
  have M : Meets (Builtin.«issubclass» ⟨[cls, cls], []⟩) (fun A' R s' => (∀ b o, h.get? b = some o → s'.heap.get? b = some o) ∧ R (.ok (.ret (.bool true))) s') := fun prog w A R s hs => by
    obtain ⟨h1, h2, h3⟩ := kit_cls (M := model prog w) X e
    refine issubclass_outer ?_
    show wpAny _ _ (typeOf cls >>= _) _ _ _
    refine wpAny_bind ((h1.keeps hs.1).here ?_)
    rw [if_pos (by decide)]
    refine wpAny_bind ?_
    show wpAny _ _ (isType cls >>= _) _ _ _
    refine wpAny_bind ((h2.keeps hs.1).here (wpAny_bind ((h2.keeps hs.1).here ?_)))
    rw [if_pos (by decide)]
    refine (h3.keeps hs.1).here ?_
    exact wpAny_pure hs.2
  exact call_issubclass M ⟨k, q⟩

theorem excC_own {C : Addr} {bmB bmN : List Value} {newId Bn inN B nid initId : String} (X : c.K.In c.h₀) (q : excIn c.K C bmB newId = true) (e : kitCls c.K (.ref C) (.ref C) = some true) (e2 : exmOne c.K (.ref C) (.ref C) = some true)
    (e3 : subIn c.K (.ref C) (.type "BaseException") = some true)
    (Fn : ExcBaseFacts Bn newId inN bmN) (hBn : bmB.contains (.type Bn) = true) (F : ExcBaseFacts B nid initId bmB) : ExcC c (.ref C) where
  isExc := (exm_cls X e2).1
  sub := looks_subIn X e3
  isTy := (kit_cls (M := c.M) X e).2.1
  issub := issub_own X e
  make := fun A s Q E k h => by
    obtain ⟨nm, q, bs, bm, N, hdct, sn, sub, ab, col, dd, k0, k1, k2, k3, k5, mN, hC, hN, hni, T⟩ := objOfExc X q
    obtain ⟨hp, g, d, tk, os⟩ := s
    exact wpAny_call_exc_subU Fn hBn F (T.keeps k) (k _ _ hC) (hN.keeps k) hni h
theorem excC_stop : ExcC c (.type "StopIteration") where
  isExc := fun A Q E s k q => by
    unfold isExcClass
    refine wpAny_bind (wpAny_pure ?_)
    rw [if_pos rfl, owsi_raise.isExc]
    exact wpAny_pure q
  sub := Looks.of_pure owsi_raise.isExc
  isTy := Looks.now
  issub := fun A s Q E k h => call_issubclass owsi_issub h
  make := fun A s Q E k h => owsi_call owsi_facts fun h' e m => h h' e ⟨m.keeps, m.new, m.there⟩
end
end
section

/-- the context of a handler -/
def Cx.mk' (c : Cx) (e : Addr) : Cx := { c with A := c.A.mark (some (.ref e)) }

section
variable {c : Cx} {z : FZ} {ρ : Loc} {H : Hp} {s : Shared}
theorem Cx.OK.mk' (k : c.OK) (e : Addr) : (c.mk' e).OK := ⟨k.X, k.lim, k.frames, k.frs, k.kind, k.guards, k.depth, k.units, k.env, k.gl⟩
theorem Cx.OK.unmk {e : Addr} (k : (c.mk' e).OK) : c.OK := ⟨k.X, k.lim, k.frames, k.frs, k.kind, k.guards, k.depth, k.units, k.env, k.gl⟩
theorem St.mk' (S : St c z ρ H s) (e : Addr) : St (c.mk' e) z ρ H s := ⟨S.ok.mk' e, S.base, S.fin, S.vol, S.nodup, S.kp, S.own, S.loc, S.keys, S.lk, S.gens, S.os⟩
theorem St.unmk {e : Addr} (S : St (c.mk' e) z ρ H s) : St c z ρ H s := ⟨S.ok.unmk, S.base, S.fin, S.vol, S.nodup, S.kp, S.own, S.loc, S.keys, S.lk, S.gens, S.os⟩
theorem PostS.unmk {e : Addr} {Q : Fl → Loc → Hp → Prop} {f : Flow} (h : PostS (c.mk' e) z Q f s) : PostS c z Q f s := by
  obtain ⟨fl, z₁, ρ₁, H₁, le, S, r⟩ := h
  exact ⟨fl, z₁, ρ₁, H₁, le, S.unmk, r⟩
theorem PostX.unmk {e : Addr} {b : Bool} {X : XP} {v : Value} (h : PostX (c.mk' e) z b X v s) : PostX c z b X v s := by
  obtain ⟨cls, z₁, ρ₁, H₁, a, e1, le, S, x, q⟩ := h
  exact ⟨cls, z₁, ρ₁, H₁, a, e1, le, S.unmk, ⟨x.out, x.at_⟩, q⟩

/-- an object that nobody names comes to be tracked -/
theorem St.track (S : St c z ρ H s) {a : Addr} {p : Obj → Prop} {o : Obj} (hz : z a = none) (hv : a ∉ c.vol H) (he : s.heap.get? a = some o) (hp : p o) : St c z ρ ((a, .prop p) :: H) s := by
  have hP : (c.vol ((a, AObj.prop p) :: H)).Perm (a :: c.vol H) := vol_cons
  refine ⟨S.ok, S.base, S.fin, fun b hb => ?_, hP.nodup_iff.mpr (List.nodup_cons.mpr ⟨hv, S.nodup⟩), S.kp, fun q hq => ?_, S.loc, S.keys, S.lk, S.gens, S.os⟩
  · rcases List.mem_cons.mp (hP.mem_iff.mp hb) with rfl | h
    · exact hz
    · exact S.vol b h
  · rcases List.mem_cons.mp hq with rfl | hq
    · exact ⟨o, he, .prop hp⟩
    · exact S.own q hq
def excF (cls : Value) (T : Addr) (o : Obj) : Prop := o.cls = cls ∧ ∃ vs, o.data = .fields vs ∧ 6 ≤ vs.size ∧ (cls ≠ .type "StopIteration" → vs[2]? = some .none) ∧ vs[1]? = some (.ref T)
def tbF (o : Obj) : Prop := ∃ ts, o.data = .fields ts ∧ 4 ≤ ts.size
theorem ExcAt.track {a : Addr} {cls : Value} (S : St c z ρ H s) (x : ExcAt c z H s.heap a cls true) : ∃ T, St c z ρ ((a, .prop (excF cls T)) :: (T, .prop tbF) :: H) s := by
  obtain ⟨⟨o1, o2⟩, oe, vs, h1, h2, h3, h4, h5, h6⟩ := x
  rcases h6 with ⟨_, hb⟩ | ⟨T, oT, ts, t1, t2, t3, t4, t5, t6, t7⟩
  · cases hb
  · refine ⟨T, (S.track (p := tbF) t2 t3 t5 ⟨ts, t6, t7⟩).track o1 (fun hm => ?_) h1 ⟨h2, vs, h3, h4, h5, t1⟩⟩
    rcases List.mem_cons.mp (vol_cons.mem_iff.mp hm) with h | h
    · exact t4 h.symm
    · exact o2 h
theorem ExcAt.untrack {a T : Addr} {cls : Value} (S : St c z ρ ((a, .prop (excF cls T)) :: (T, .prop tbF) :: H) s) : St c z ρ H s ∧ ExcAt c z H s.heap a cls true := by
  obtain ⟨oe, h1, h2, vs, h3, h4, h5, h6⟩ := S.prop (.head _)
  obtain ⟨oT, t5, ts, t6, t7⟩ := S.prop (.tail _ (.head _))
  have nd := vol_cons.nodup_iff.mp S.nodup
  rw [List.nodup_cons] at nd
  have nd2 := vol_cons.nodup_iff.mp nd.2
  rw [List.nodup_cons] at nd2
  refine ⟨S.dropH.dropH, ⟨S.vol a (mem_vol_H (q := (a, _)) (.head _)), fun h => nd.1 (vol_cons.mem_iff.mpr (.tail _ h))⟩, oe, vs, h1, h2, h3, h4, h5,
    .inr ⟨T, oT, ts, h6, S.vol T (mem_vol_H (q := (T, _)) (.tail _ (.head _))), nd2.1, fun q => nd.1 (vol_cons.mem_iff.mpr (q ▸ .head _)), t5, t6, t7⟩⟩
theorem ExcAt.toP {a : Addr} {cls : Value} (S : St c z ρ H s) (x : ExcAt c z H s.heap a cls true) (hc : cls ≠ .type "StopIteration") : St c z ρ ((a, .prop excP) :: H) s := by
  obtain ⟨⟨o1, o2⟩, oe, vs, h1, h2, h3, h4, h5, h6⟩ := x
  exact S.track o1 o2 h1 ⟨vs, h3, h5 hc⟩
end

def Hnd (c : Cx) (Q : Fl → Loc → Hp → Prop) (X : XP) (cls : Value) (ρ : Loc) (H : Hp) : List ExceptHandler → Prop
  | [] => X cls ρ H
  | .ExceptHandler (some t) none (b₀ :: suite) _ :: rest => ∃ v cv b, v.val0 = some cv ∧ exmOne c.K cls cv = some b ∧
      (∀ e q₁ q₂, Ev (c.mk' e) t ρ (q₁ :: q₂ :: H) (fun v' H' => v' = v ∧ H' = q₁ :: q₂ :: H) (fun _ _ _ => False)) ∧
      (b = true → cls ≠ .type "StopIteration" ∧ ∀ e, Exs (c.mk' e) (b₀ :: suite) ρ ((e, .prop excP) :: H) (fun f ρ' H' => Less (e, .prop excP) (Q f ρ') H') (LessX (e, .prop excP) X)) ∧
      (b = false → Hnd c Q X cls ρ H rest)
  | _ => False

section
variable {c : Cx} {Q : Fl → Loc → Hp → Prop} {X : XP}
theorem handle_St (O : c.Own) {a : Addr} {cls : Value} : ∀ (hs : List ExceptHandler) {z : FZ} {ρ : Loc} {H : Hp} {s : Shared}, St c z ρ H s → ExcAt c z H s.heap a cls true → Hnd c Q X cls ρ H hs →
    wpR c.M c.A (handleBy (.ref a) c.env hs) (PostS c z Q) (PostX c z false X) s
  | [], z, ρ, H, s, S, x, hn => by
    refine of (wpAny_handleBy_nil ?_)
    unfold PySem.passOn
    have x' := x
    obtain ⟨⟨o1, o2⟩, oe, vs, h1, h2, h3, h4, h5, h6⟩ := x'
    rcases h6 with ⟨_, hb⟩ | ⟨T, oT, ts, t1, _⟩
    · cases hb
    · refine wpAny_bind (wpAny_field h1 h3 t1 ?_)
      rw [if_neg (show ¬ ((Value.ref T == Value.none) = true) from Bool.false_ne_true)]
      refine wpAny_bind (setFlight_St S x fun h' S' x' => wpAny_throw (PostX.weak ⟨cls, z, ρ, H, a, rfl, Le.refl z, S', x', hn⟩))
  | .ExceptHandler (some t) none (b₀ :: suite) pos :: rest, z, ρ, H, s, S, x, ⟨v, cv, b, hv, hx, ht, h1, h2⟩ => by
    obtain ⟨T, S₁⟩ := x.track S
    refine handleByR_cons (codeR_handlers_test (wpR_mono (ht a _ _ z s (S₁.mk' a)) (fun val s₁ ⟨v', z₁, H₁, le₁, S₂, r₁, e1, e2⟩ => ?_) fun _ _ ⟨_, _, _, _, _, _, _, _, _, f⟩ => f.elim)) (by intro q; cases q)
    subst e1; subst e2
    obtain rfl := r₁.val0 hv
    have S₂ := S₂.unmk
    obtain ⟨S₃, x₃⟩ := ExcAt.untrack S₂
    have x₄ := x₃
    obtain ⟨_, oe, vs, g1, g2, _⟩ := x₄
    have LT : Looks c.M s₁.heap (typeOf (.ref a)) cls := fun A Q E s k q => by
      show wpAny _ _ (loadPart a .none >>= fun o => pure o.cls) _ _ _
      exact wpAny_bind (wpAny_loadPart (k _ _ g1) (wpAny_pure (g2 ▸ q)))
    refine of ((exm_one S₃.kin LT hx).here ?_)
    cases b with
    | false => exact wpR_mono (handle_St O rest S₃ x₃ (h2 rfl)) (fun _ _ p => PostS.le le₁ p) fun _ _ p => PostX.le le₁ p
    | true =>
      obtain ⟨hc, hs⟩ := h1 rfl
      refine codeR_handlers_suite (setFlight_St S₃ x₃ fun h' S₄ x₄ => ?_)
      have S₅ := (x₄.toP S₄ hc).mk' a
      refine wpR_mono (hs a z₁ _ S₅) (fun f s₂ p => ?_) fun e s₂ p => ?_
      · obtain ⟨fl, z₂, ρ₂, H₂, le₂, S₆, r, q⟩ := p
        obtain ⟨H₃, S₇, q⟩ := S₆.unmk.less q
        exact ⟨fl, z₂, ρ₂, H₃, le₁.trans le₂, S₇, r, q⟩
      · exact came O rfl (PostX.le le₁ (PostX.less p.unmk))
  | .ExceptHandler none n b pos :: rest, z, ρ, H, s, S, x, hn => hn.elim
  | .ExceptHandler (some t) (some n) b pos :: rest, z, ρ, H, s, S, x, hn => hn.elim
  | .ExceptHandler (some t) none [] pos :: rest, z, ρ, H, s, S, x, hn => hn.elim

theorem Ex.try {ρ : Loc} {H : Hp} {body : List Stmt} {h₀ : ExceptHandler} {hs : List ExceptHandler} {pos : Pos} (O : c.Own) (h : Exs c body ρ H Q (fun cls ρ' H' => Hnd c Q X cls ρ' H' (h₀ :: hs))) :
    Ex c (.Try body (h₀ :: hs) [] [] pos) ρ H Q X := fun z s S =>
  wpR_Try_except (wpR_mono (h z s S) (fun f s₁ ⟨fl, z₁, ρ₁, H₁, le₁, S₁, r, q⟩ => by
    cases r with
    | next => exact wpR_execs_nil ⟨.next, z₁, ρ₁, H₁, le₁, S₁, .next, q⟩
    | brk => exact ⟨_, z₁, ρ₁, H₁, le₁, S₁, .brk, q⟩
    | cont => exact ⟨_, z₁, ρ₁, H₁, le₁, S₁, .cont, q⟩
    | ret r => exact ⟨_, z₁, ρ₁, H₁, le₁, S₁, .ret r, q⟩)
    fun e s₁ ⟨cls, z₁, ρ₁, H₁, a, e1, le₁, S₁, x, hn⟩ => by
      subst e1
      refine noteFrame_St O rfl S₁ x fun h' S₂ x₂ => setFlight_St S₂ x₂ fun h'' S₃ x₃ => ?_
      exact wpR_mono (handle_St O _ S₃ x₃ hn) (fun _ _ p => PostS.le le₁ p) fun _ _ p => PostX.le le₁ p)

/-- assert -/
theorem wpR_Assert {M : Model} {A : Around} {E : Value → Shared → Prop} {s : Shared} {env : Env} {test : Expr} {pos : Pos} {Q : Flow → Shared → Prop} (hh : A.handled = none)
    (h : wpR M A (isTrue test env (eval test env)) (fun b s₁ => if b then Q .next s₁ else ∀ h' e, Heap.MadeExc s₁.heap h' e "AssertionError" [] → E (.ref e) { s₁ with heap := h' }) E s) : wpR M A (exec (.Assert test none pos) env) Q E s := by
  rw [arm_exec_Assert]
  refine wpR_at (wpR_bind (wpR_mono h (fun b s₁ h₁ => ?_) fun _ _ x => x))
  cases b with
  | true => exact wpR_pure h₁
  | false =>
    simp only [Bool.false_eq_true, if_false] at h₁ ⊢
    unfold assertFails valueOfOpt
    refine of (wpAny_bind (wpAny_pure ?_))
    refine wpAny_bind (wpAny_standAt ?_)
    refine wpAny_bind (wpAny_rule ?_)
    exact wpAny_bind (wpAny_newExc_plain plainExc_AssertionError fun h' e hm => wpAny_raiseNew_none hh (h₁ h' e hm))
theorem Ex.assert {ρ : Loc} {H : Hp} {test : Expr} {pos : Pos} (hh : c.A.handled = none) (h : Tt c test ρ H (fun b H₁ => (b = true → Q .next ρ H₁) ∧ (b = false → X (.type "AssertionError") ρ H₁)) X) : Ex c (.Assert test none pos) ρ H Q X := fun z s S =>
  wpR_Assert hh (wpR_mono (h z s S) (fun b s₁ ⟨z₁, H₁, le₁, S₁, qt, qf⟩ => by
    cases b with
    | true => exact ⟨.next, z₁, ρ, H₁, le₁, S₁, .next, qt rfl⟩
    | false =>
      intro h' e m
      have m' : Heap.MadeExcOf s₁.heap h' e (.type "AssertionError") [] := ⟨m.keeps, m.new, m.there⟩
      obtain ⟨S₂, x₂⟩ := made_exc S₁ m'
      exact ⟨_, z₁, ρ, H₁, e, rfl, le₁, S₂, x₂, qf rfl⟩) fun _ _ x => x)
/-- raise and a call of a class of the language, with a text -/
theorem Ex.raiseB {ρ : Loc} {H : Hp} {cls newId initId : String} (F : ExcCallFacts cls newId initId) (G : ExcRaiseFacts cls) {x m : Str} {np cpos pos mp : Pos} {mk : Nat} (hh : c.A.handled = none)
    (hx : c.gl x = some (.ty cls)) (hk : c.env.scope.names.lookup x = some .globalImplicit) (q : X (.type cls) ρ H) (d : (x == ("__debug__" : Str)) = false := by decide) : Ex c (.Raise (some (.Call (.Name x np) [.Constant (.str m) mk mp] [] cpos)) none pos) ρ H Q X := fun z s S => by
  refine of (wpAny_Raise_call F G hh rfl ?_)
  obtain ⟨val, a, b⟩ := S.ok.gl _ _ hx c.env S.ok.env.1 S.ok.env.2 S.ok.kind hk
  cases b
  refine wpAny_Name (a _ _ _ s S.h0 ⟨rfl, ?_⟩) d
  refine Calls.evalArgs_plain (rest := []) (Calls.spliced_cons (rest := []) (wpAny_Constant_str (k := mk) (pos := mp) (spliced_none (env := c.env) (pos := pos) ?_)))
  refine ⟨rfl, by simp [sizeLine_eq], fun h' e hm => ?_⟩
  have S' := S.toks (s.toks + 1)
  have m' : Heap.MadeExcOf s.heap h' e (.type cls) [.str m s.toks] := ⟨hm.keeps, hm.new, hm.there⟩
  obtain ⟨S₃, x₃⟩ := made_exc S' m'
  exact ⟨_, z, ρ, H, e, rfl, Le.refl z, S₃, x₃, q⟩
end
end
section

theorem tcW (C : Addr) (rest : List Value) (kw : List (Str × Value)) : (Code.builtin "type.__call__" ⟨.ref C :: rest, kw⟩).weight = 1 := by rfl
theorem tcU (C : Addr) (rest : List Value) (kw : List (Str × Value)) : (Code.builtin "type.__call__" ⟨.ref C :: rest, kw⟩).cUnits ≤ 3 := by
  have e : (Code.builtin "type.__call__" ⟨.ref C :: rest, kw⟩).cUnits = 1 := by rfl
  rw [e]; decide
theorem tcE (C : Addr) (rest : List Value) (kw : List (Str × Value)) : (Code.builtin "type.__call__" ⟨.ref C :: rest, kw⟩).envs = [] := by rfl

/-- a context that differs in what is around it -/
structure Under (c c₂ : Cx) : Prop where
  p : c₂.p = c.p
  w : c₂.w = c.w
  K : c₂.K = c.K
  h₀ : c₂.h₀ = c.h₀
  gl : c₂.gl = c.gl
  env : c₂.env = c.env
  kp : c₂.kp = c.kp
  frl : c₂.frl = c.frl
  os : c₂.os = c.os
  rm : c₂.rm + 1 = c.rm
  handled : c₂.A.handled = c.A.handled
  frames : c₂.A.frames = c.A.frames

section
variable {c c₂ : Cx} {z : FZ} {ρ : Loc} {H : Hp} {s : Shared}
theorem Under.st (U : Under c c₂) (ok : c₂.OK) (S : St c z ρ H s) : St c₂ z ρ H s := by
  obtain ⟨p, w, K, h₀, os, A, env, frl, kp, gl, rm⟩ := c₂
  obtain ⟨rfl, rfl, rfl, rfl, rfl, rfl, rfl, rfl, rfl, u, v, f⟩ := U
  exact ⟨ok, S.base, S.fin, S.vol, S.nodup, S.kp, S.own, S.loc, S.keys, S.lk, S.gens, S.os⟩
theorem Under.back (U : Under c c₂) (ok : c.OK) (S : St c₂ z ρ H s) : St c z ρ H s := by
  obtain ⟨p, w, K, h₀, os, A, env, frl, kp, gl, rm⟩ := c₂
  obtain ⟨rfl, rfl, rfl, rfl, rfl, rfl, rfl, rfl, rfl, u, v, f⟩ := U
  exact ⟨ok, S.base, S.fin, S.vol, S.nodup, S.kp, S.own, S.loc, S.keys, S.lk, S.gens, S.os⟩
theorem Under.postX (U : Under c c₂) (ok : c.OK) {b : Bool} {X : XP} {e : Value} (h : PostX c₂ z b X e s) : PostX c z b X e s := by
  obtain ⟨cls, z₁, ρ₁, H₁, a, e1, le, S, x, q⟩ := h
  have S' := U.back ok S
  obtain ⟨p, w, K, h₀, os, A, env, frl, kp, gl, rm⟩ := c₂
  obtain ⟨rfl, rfl, rfl, rfl, rfl, rfl, rfl, rfl, rfl, u, v, f⟩ := U
  exact ⟨cls, z₁, ρ₁, H₁, a, e1, le, S', ⟨x.out, x.at_⟩, q⟩
end

section
variable {prog : Program} {w : World} {A : Around} {K : Frag} {C : Addr} {R : Result → Shared → Prop} {h : Heap} {g : Array GenState} {d : Drawn} {t : Nat} {os : OsState}
theorem makeR {rest : List Value} {kw : List (Str × Value)} {init : Value} (Y : Makes (model prog w) h C) (hi : Looks (model prog w) h (typeLookup (.ref C) "__init__") (some init))
    (hb : ∀ self, Looks (model prog w) h (bindSpecial init self) (init, [self])) (hne : (some init != some (Value.builtin "object.__init__")) = true ∨ (rest = [] ∧ kw = []))
    (hq : codeR (model prog w) (A.under (.builtin "type.__call__" ⟨.ref C :: rest, kw⟩)) (.call init ⟨.ref (h.objs.size + 1) :: rest, kw⟩) (InitBack (h.objs.size + 1) R) ⟨(h.push emptyDict).push (instObj C h.objs.size), g, d, t, os⟩) :
    codeR (model prog w) A (.call (.ref C) ⟨rest, kw⟩) R ⟨h, g, d, t, os⟩ := by
  have Y' := Y
  obtain ⟨⟨oc, od, cd, sl, hC, e1, e2, e4⟩, made, base, self, top, call, typ⟩ := Y
  refine codeR_of_tree rfl ?_
  show wpR _ _ (callAny (.ref C) _) _ _ _
  refine of ?_
  refine nd_load hC ?_
  show wpAny _ _ (callAny.viaDunder (.ref C) _) _ _ _
  unfold callAny.viaDunder
  refine wpAny_bind (call.at ?_)
  dsimp only
  rw [tc_bind]
  refine wpAny_bind (wpAny_pure (wpAny_bind (wpAny_pure ?_)))
  refine wpAny_pure (a := Fin.again (.call (.builtin "type.__call__") ⟨.ref C :: rest, kw⟩)) (And.intro rfl ?_)
  refine codeR_call_builtin_at (Code.quiet_builtin _ (by decide +kernel)) rfl entry_typeCall (check_slot tc_kind tc_split typ (tc_args _ _ _) ?_)
  unfold Builtin.«type.__call__»
  have hm : Looks (model prog w) h (mroOf (.ref C)) cd.mro := ((Looks.ld (part := none) hC).andThen .now).andThen .now
  show wpR _ _ (mroOf (.ref C) >>= _) _ _ _
  refine wpR_leaf (hm.here ?_)
  simp only [e4, Bool.false_eq_true, if_false]
  refine wpR_leaf (made.here ?_)
  dsimp only
  refine wpR_bind (wpR_pure ?_)
  refine wpR_bind (wpR_holding (of (wpAny_call (new_K Y' hi hne ?_))))
  have k : ∀ b o, h.get? b = some o → ((h.push emptyDict).push (instObj C h.objs.size)).get? b = some o := fun b o e => Heap.get?_push_of_some _ (Heap.get?_push_of_some _ e)
  have hx : ((h.push emptyDict).push (instObj C h.objs.size)).get? (h.objs.size + 1) = some (instObj C h.objs.size) := by heap_get
  have t1 : Looks (model prog w) ((h.push emptyDict).push (instObj C h.objs.size)) (typeOf (.ref (h.objs.size + 1))) (.ref C) := (Looks.ld hx).andThen .now
  have s1 := self.keeps k
  have i1 := hi.keeps k
  have b1 := (hb (.ref (h.objs.size + 1))).keeps k
  refine wpR_leaf (Looks.here (Looks.andThen (f := fun t => isSubtype t (.ref C)) t1 s1) ?_)
  simp only [Bool.not_true, Bool.false_eq_true, if_false]
  refine wpR_bind (wpR_holding ?_)
  unfold callSpecial?
  refine wpR_leaf (Looks.here (Looks.andThen (f := fun t => typeLookup t "__init__") t1 i1) ?_)
  dsimp only
  refine wpR_holding (wpR_leaf (b1.here ?_))
  dsimp only
  refine wpR_bind (wpR_call (codeR_mono hq fun r s' z => ?_))
  rcases r with e | (v | _ | _ | _) <;> first | exact z | exact z.elim | skip
  obtain ⟨rfl, z⟩ := z
  exact wpR_pure (wpR_pure z)
/-- a special method that a def fills -/
theorem specialR_fn {M : Model} {E : Value → Shared → Prop} {s : Shared} {x : Addr} {ox : Obj} {od : Option Obj} {name : Str} {f : Addr} {args : List Value} {Q : Option Value → Shared → Prop} (X : K.In s.heap) (I : InstAt s.heap x ox C od)
    (hs : findIn K (.ref C) name = some (some (.ref f))) (hf : typeIn K (.ref f) = some (.type "function")) (h : wpR M A (PySem.call (.ref f) (.ref x :: args)) (fun v => Q (some v)) E s) : wpR M A (callSpecial? (.ref x) name args) Q E s := by
  unfold callSpecial? specialOf
  refine wpR_leaf (wpAny_bind (I.type.here ((looks_findIn X hs).here ?_)))
  dsimp only
  refine wpR_holding (wpR_leaf ((bind_fn X _ hf).here ?_))
  exact wpR_bind (wpR_mono h (fun _ _ z => wpR_pure z) fun _ _ z => z)
end

section
variable {c : Cx} {ρ : Loc} {H : Hp} {Q : V → Hp → Prop} {X : XP}
/-- an object is made -/
theorem Cl.make {C fI : Addr} {as : List V} {kw : List (Str × V)} (hm : makesIn c.K C = true) (hi : findIn c.K (.ref C) "__init__" = some (some (.ref fI))) (hf : typeIn c.K (.ref fI) = some (.type "function")) (hr : 0 < c.rm)
    (h : ∀ c₂, Under c c₂ → ∀ x d, ClC c₂ (.ref fI) (.ref x :: as) kw ρ ((x, .inst C d) :: (d, .dict []) :: H) (fun v H' => v = .none ∧ Q (.ref x) H') X) : Cl c (.ref C) as kw ρ H Q X := by
  intro z s vf vs ks S hvf hvs hks
  cases hvf
  let A' := c.A.under (.builtin "type.__call__" ⟨.ref C :: vs, (kw.map (·.1)).zip ks⟩)
  let c₂ : Cx := { c with A := A', rm := c.rm - 1 }
  have hfr : A'.frames = c.A.frames := by
    show pushEnvs (Code.envs (Code.builtin "type.__call__" ⟨.ref C :: vs, (kw.map (·.1)).zip ks⟩)) c.A.frames = c.A.frames
    rw [tcE]; cases c.A.frames <;> rfl
  have hg : A'.guards = some [] := by
    show pushGuards (Code.guards (Code.builtin "type.__call__" ⟨.ref C :: vs, (kw.map (·.1)).zip ks⟩)) c.A.guards = some []
    have e : (Code.builtin "type.__call__" ⟨.ref C :: vs, (kw.map (·.1)).zip ks⟩).guards = [] := by rfl
    rw [e, S.ok.guards]; rfl
  have U : Under c c₂ := ⟨rfl, rfl, rfl, rfl, rfl, rfl, rfl, rfl, rfl, by show c.rm - 1 + 1 = c.rm; omega, rfl, hfr⟩
  have ok : c₂.OK := by
    have d := S.ok.depth
    have u := S.ok.units
    refine ⟨S.ok.X, S.ok.lim, hfr.trans S.ok.frames, S.ok.frs, S.ok.kind, hg, ?_, ?_, S.ok.env, S.ok.gl⟩
    · show c.A.depth + Code.weight _ + 3 * (c.rm - 1) + 3 < recursionLimit
      rw [tcW]; omega
    · show c.A.units + Code.cUnits _ + 24 * (c.rm - 1) + 24 < cLine
      have := tcU C vs ((kw.map (·.1)).zip ks)
      omega
  obtain ⟨hh, g, d, t, os⟩ := s
  refine wpR_call (makeR (makes_of S.kin hm) (looks_findIn S.kin hi) (fun self => bind_fn S.kin self hf) (.inl rfl) ?_)
  have S₁ := S.pushT (n := t) (o := emptyDict) (ob := .dict []) (.dict (n := 0) .nil List.nodup_nil) rfl
  have S₂ := S₁.pushT (n := t) (o := instObj C hh.objs.size) (ob := .inst C hh.objs.size) (.inst _ _) rfl
  have e : (hh.push emptyDict).objs.size = hh.objs.size + 1 := Heap.size_push ..
  dsimp only at S₂
  rw [e] at S₂
  refine codeR_mono (h c₂ U (hh.objs.size + 1) hh.objs.size z _ (.ref fI) (.ref (hh.objs.size + 1) :: vs) ks (U.st ok S₂) (.ref _) (.cons (.ref _) hvs) hks) fun r s' p => ?_
  cases r with
  | error e => exact U.postX S.ok p
  | ok f =>
    cases f with
    | ret v =>
      obtain ⟨v', z', H', le, S', rv, hv, q⟩ := p
      subst hv
      cases rv
      exact ⟨rfl, _, z', H', le, U.back S.ok S', .ref _, q⟩
    | _ => exact p.elim

def itOK (K : Frag) (C : Addr) (name : Str) (f : Addr) : Bool := findIn K (.ref C) name == some (some (.ref f)) && isFn K (.ref f)
/-- an object is asked for its iterator, and gives itself -/
theorem iter_own {z : FZ} {s : Shared} {a C d fi g : Addr} {es : List (Str × V)} {E : Value → Shared → Prop} {Q : Value → Shared → Prop} (S : St c z ρ H s) (hi : (a, .inst C d) ∈ H) (hd : (d, .dict es) ∈ H) (hk : itOK c.K C "__iter__" fi = true) (hn : itOK c.K C "__next__" g = true)
    (h : wpR c.M c.A (call (.ref fi) [.ref a]) (fun v s' => v = .ref a ∧ (∃ o, s'.heap.get? a = some o ∧ o.cls = .ref C) ∧ c.K.In s'.heap ∧ Q v s') E s) : wpR c.M c.A (pyIter (.ref a)) Q E s := by
  simp only [itOK, Bool.and_eq_true, beq_iff_eq] at hk hn
  obtain ⟨ds, n, I, _, r, nd⟩ := S.inst hi hd
  have X := S.kin
  have fin : wpR c.M c.A (call (.ref fi) [.ref a] >>= fun v => pure (some v)) (fun r s' => ∃ v, r = some v ∧ v = .ref a ∧ (∃ o, s'.heap.get? a = some o ∧ o.cls = .ref C) ∧ c.K.In s'.heap ∧ Q v s') E s :=
    wpR_bind (wpR_mono h (fun v s' h' => wpR_pure ⟨v, rfl, h'⟩) fun _ _ z => z)
  have one : ∀ refuse : Sem Value, wpR c.M c.A (callSpecialIfBoundUnlessNone? (.ref a) "__iter__" refuse) (fun r s' => ∃ v, r = some v ∧ v = .ref a ∧ (∃ o, s'.heap.get? a = some o ∧ o.cls = .ref C) ∧ c.K.In s'.heap ∧ Q v s') E s := by
    intro refuse
    simp only [callSpecialIfBoundUnlessNone?, bindSpecialIfBound?]
    refine wpR_holding (wpR_bind (wpR_leaf (wpAny_bind (I.type.here ((looks_findIn X hk.1).here ?_)))))
    refine wpR_leaf (wpAny_askSetting (wpR_ite ?_))
    have fin2 : wpR c.M c.A (if (Value.ref fi == Value.none) = true then (refuse >>= fun v => pure (some v)) else (call (.ref fi) [.ref a] >>= fun v => pure (some v))) (fun r s' => ∃ v, r = some v ∧ v = .ref a ∧ (∃ o, s'.heap.get? a = some o ∧ o.cls = .ref C) ∧ c.K.In s'.heap ∧ Q v s') E s := by
      rw [if_neg (show ¬ ((Value.ref fi == Value.none) = true) from Bool.false_ne_true)]
      exact fin
    split
    · exact wpR_leaf ((bind_fn X _ (beq_iff_eq.mp hk.2)).here (wpR_pure (by exact fin2)))
    · exact wpR_tryCatch (wpR_leaf ((bind_fn X _ (beq_iff_eq.mp hk.2)).here (wpR_pure (by exact fin2))))
  unfold pyIter
  refine wpR_leaf (wpAny_bind (I.type.here ((looks_findIn X hk.1).here ?_)))
  show wpR c.M c.A (callSpecialIfBoundUnlessNone? (.ref a) "__iter__" _ >>= _) Q E s
  refine wpR_bind (wpR_mono (one _) (fun r s' hr => ?_) fun _ _ z => z)
  obtain ⟨v, rfl, rfl, ⟨o, ho, hc⟩, X', q⟩ := hr
  unfold specialOf
  have hty : Looks c.M s'.heap (typeOf (.ref a)) (.ref C) := fun A Q E s k q => by
    show wpAny _ _ (loadPart a .none >>= fun o => pure o.cls) _ _ _
    exact wpAny_bind (wpAny_loadPart (k _ _ ho) (wpAny_pure (hc ▸ q)))
  exact of (wpAny_bind (wpAny_bind (hty.here ((looks_findIn X' hn.1).here (wpAny_pure q)))))
/-- an object is asked for the next -/
theorem next_own {z : FZ} {s : Shared} {a C d g : Addr} {es : List (Str × V)} {E : Value → Shared → Prop} {Q : Option Value → Shared → Prop} (S : St c z ρ H s) (hi : (a, .inst C d) ∈ H) (hd : (d, .dict es) ∈ H) (hn : itOK c.K C "__next__" g = true)
    (h : wpR c.M c.A (call (.ref g) [.ref a]) (fun v s' => Q (some v) s') (fun e s' => ∃ cls b, Looks c.M s'.heap (typeOf e) cls ∧ Looks c.M s'.heap (isSubtype cls (.type "StopIteration")) b ∧ (b = true → Q none s') ∧ (b = false → E e s')) s) : wpR c.M c.A (pyNext (.ref a)) Q E s := by
  simp only [itOK, Bool.and_eq_true, beq_iff_eq] at hn
  obtain ⟨ds, n, I, _, r, nd⟩ := S.inst hi hd
  unfold pyNext
  refine wpR_bind (wpR_attempt (specialR_fn (name := "__next__") (args := []) S.kin I hn.1 (beq_iff_eq.mp hn.2) (wpR_mono h (fun v s' hq => ?_) (fun e s' he => ?_))))
  · exact wpR_pure hq
  · obtain ⟨cls, b, h1, h2, ht, hf⟩ := he
    refine wpR_leaf ((h1.andThen h2).here ?_)
    cases b with
    | true => exact wpR_pure (ht rfl)
    | false => exact of (wpAny_throw (hf rfl))
end

section
variable {c : Cx} {ρ : Loc} {H : Hp} {Q : Fl → Loc → Hp → Prop} {X : XP}
/-- for over an own iterator whose body always leaves -/
theorem Ex.forOwn {x : Str} {p' pos : Pos} {it : Expr} {body : List Stmt} (O : c.Own)
    (h : Ev c it ρ H (fun v H₁ => ∃ a C d es fi g, v = .ref a ∧ (a, .inst C d) ∈ H₁ ∧ (d, .dict es) ∈ H₁ ∧ itOK c.K C "__iter__" fi = true ∧ itOK c.K C "__next__" g = true ∧
      Cl c (.ref fi) [.ref a] [] ρ H₁ (fun v H₂ => v = .ref a ∧ (a, .inst C d) ∈ H₂ ∧ (∃ es, (d, .dict es) ∈ H₂) ∧
        Cl c (.ref g) [.ref a] [] ρ H₂ (fun v H₃ => ∃ ρ', Put x v ρ ρ' ∧ Exs c body ρ' H₃ (fun fl ρ₂ H₄ => match fl with | .ret v => Q (.ret v) ρ₂ H₄ | .brk => Q .next ρ₂ H₄ | _ => False) X)
          (fun cls ρ₂ H₃ => cls = .type "StopIteration" ∧ Q .next ρ₂ H₃ ∨ (∃ b, Looks c.M c.h₀ (isSubtype cls (.type "StopIteration")) b ∧ b = false) ∧ X cls ρ₂ H₃)) X) X)
    (hs : ∀ x env, foldedSetIterable it env x = pure x := by intro _ _; rfl) (ht : ∀ v I, letOwnedTupleGo (.Name x p') I v = pure () := by intro _ _; rfl) :
    Ex c (.For (.Name x p') it body [] pos) ρ H Q X := fun z s S => by
  refine wpR_For (wpR_mono (h z s S) (fun xv s₁ ⟨v, z₁, H₁, le₁, S₁, r₁, a, C, d, es, fi, g, e1, hi, hd, hk, hn, hit⟩ => ?_) fun _ _ x => x) (fun x => hs x _)
  subst e1; cases r₁
  refine iter_own S₁ hi hd hk hn (wpR_mono (hit z₁ s₁ _ _ [] S₁ (.ref fi) (.cons (.ref a) .nil) .nil) (fun v s₂ ⟨v', z₂, H₂, le₂, S₂, r₂, e2, hi₂, ⟨es₂, hd₂⟩, hnx⟩ => ?_) fun _ _ x => PostX.le le₁ x)
  subst e2; cases r₂
  refine ⟨rfl, ?_, S₂.kin, ?_⟩
  · obtain ⟨o, e, r⟩ := S₂.own _ hi₂
    cases r
    exact ⟨_, e, rfl⟩
  refine codeR_forLoop (I := fun n s' => n = 0 ∧ s' = s₂) (fun n s' hI => ?_) 0 ⟨rfl, rfl⟩ (fun v => ht v _)
  obtain ⟨_, rfl⟩ := hI
  have le := le₁.trans le₂
  refine next_own S₂ hi₂ hd₂ hn (wpR_mono (hnx z₂ s' _ _ [] S₂ (.ref g) (.cons (.ref a) .nil) .nil) (fun val s₃ ⟨v', z₃, H₃, le₃, S₃, r₃, ρ', U, hb⟩ => ?_) fun e s₃ ⟨cls, z₃, ρ₃, H₃, b, e1, le₃, S₃, x, hx⟩ => ?_)
  · refine of (wpAny_assign_Name (store S₃ U r₃ fun s₄ S₄ => ?_))
    refine wpR_mono (hb z₃ s₄ S₄) (fun f s₅ ⟨fl, z₅, ρ₅, H₅, le₅, S₅, r₅, q⟩ => ?_) fun e s₅ x => came O rfl (PostX.le (le.trans le₃) x)
    cases r₅ with
    | next => exact q.elim
    | cont => exact q.elim
    | brk => exact ⟨.next, z₅, ρ₅, H₅, (le.trans le₃).trans le₅, S₅, .next, q⟩
    | ret r => exact ⟨.ret _, z₅, ρ₅, H₅, (le.trans le₃).trans le₅, S₅, .ret r, q⟩
  · subst e1
    have x' := x
    obtain ⟨_, oe, vs, g1, g2, _⟩ := x'
    have LT : Looks c.M s₃.heap (typeOf (.ref b)) cls := fun A Q E s k q => by
      show wpAny _ _ (loadPart b .none >>= fun o => pure o.cls) _ _ _
      exact wpAny_bind (wpAny_loadPart (k _ _ g1) (wpAny_pure (g2 ▸ q)))
    rcases hx with ⟨rfl, q⟩ | ⟨⟨_, hb, rfl⟩, q⟩
    · exact ⟨_, true, LT, Looks.of_pure isSubtype_stop, fun _ => wpR_execs_nil ⟨.next, z₃, ρ₃, H₃, le.trans le₃, S₃, .next, q⟩, fun h => by cases h⟩
    · exact ⟨_, false, LT, hb.keeps S₃.h0, (fun h => by cases h), fun _ => came O rfl ⟨cls, z₃, ρ₃, H₃, b, rfl, le.trans le₃, S₃, x, q⟩⟩
end
end
section

/-- a look at a def with one cell -/
def fnOKc (scope : Scope) (x : Str) (names : List Str) : Bool :=
  decide (scope.kind = .function) && !scope.isGenerator && !scope.isCoroutine && decide (scope.names.lookup x = some .cell) && (names.all fun y => decide (scope.names.lookup y = some .local) && !(y == ("__debug__" : Str))) && decide names.Nodup

section
variable {c : Cx} {ρ : Loc} {H : Hp} {Q : V → Hp → Prop} {X : XP}

/-- a call of a def with one parameter and one cell: the parameter is the cell, or a local -/
theorem ClC.fnC {f : Addr} {p x : Str} {v : V} {rest : List Str} {oc : Value} {od : Option Addr} {osl : Array (Option Value)}
    {name qual : Str} {params : Arguments} {body : List Stmt} {scope : Scope} {dV kV doc pm cdv ct : Value} {an : Option Addr}
    (ho : c.K.lookup f = some ⟨oc, od, .func (fnOf name qual params body scope dV kV doc pm an cdv ct), osl⟩) (hcd : codeIn c.K cdv qual = true)
    (ls : Loc) (ov : Option V) (hls : (p = x ∧ ls = [] ∧ ov = some v) ∨ (p ≠ x ∧ ls = [(p, some v)] ∧ ov = none))
    (hst : fnOKc scope x (ls.map (·.1) ++ rest) = true) (hcf : ∀ n, cellsFrom n scope.names [] = [(x, n)])
    (hb : ∀ val, ∀ S, peek c.K S (bindArgs (fnOf name qual params body scope dV kV doc pm an cdv ct) ⟨[val], []⟩) = some [(p, val)])
    (hr : 0 < c.rm)
    (h : ∀ c' a, Callee c c' scope [(x, a)] → Exs c' body (ls ++ rest.map fun y => (y, none)) ((a, .cell ov) :: H) (fun fl _ H' => ∃ o, Less (a, .cell o) (Q fl.val) H') (fun _ _ _ => False)) : ClC c (.ref f) [v] [] ρ H Q X := by
  intro z s vf vs ks S hvf hvs hks
  cases hvf
  cases hks
  obtain ⟨val, rfl, hv⟩ : ∃ val, vs = [val] ∧ VR z v val := by
    cases hvs with | cons hv hvs => cases hvs; exact ⟨_, rfl, hv⟩
  simp only [fnOKc, Bool.and_eq_true, decide_eq_true_eq, Bool.not_eq_true', List.all_eq_true] at hst
  obtain ⟨⟨⟨⟨⟨k1, k2⟩, k3⟩, k4⟩, k5⟩, k6⟩ := hst
  have hbind : BindsTo s (fnOf name qual params body scope dV kV doc pm an cdv ct) ⟨[val], []⟩ [(p, val)] := fun M A E Q q Γ p _ => wp_of_peek S.kin q _ (hb val _)
  obtain ⟨m, hn, hm⟩ := S.loc
  have hn' := hn
  obtain ⟨oL, es, ep, hL, hLd, _⟩ := hn'
  have depth := S.ok.depth
  have units := S.ok.units
  have kp : scope.names.lookup p = some .local ∨ (scope.names.lookup p = some .cell ∧ p = x) := by
    rcases hls with ⟨rfl, _, _⟩ | ⟨_, rfl, _⟩
    · exact .inr ⟨k4, rfl⟩
    · exact .inl (k5 p (by simp)).1
  refine codeR_call_function (by omega) (S.kin _ _ ho) rfl k3 k2 rfl (codeRec_of S.kin hcd) (hbind _ _ _ _ ?_)
  refine wpAny_newFunctionEnv_cells k1 (fun y hy => ?_) fun env₀ he s' x' => ?_
  · simp only [List.mem_singleton] at hy
    subst hy
    rcases kp with h | ⟨h, e⟩
    · exact .inl h
    · refine .inr ⟨h, ?_⟩
      rw [hcf, e]; simp
  rw [hcf] at he
  refine ⟨S.lim.keeps x'.toInCall.keep, codeR_func ?_⟩
  obtain ⟨⟨⟨h₁, tk, es'⟩, hns, hk₁, hfr⟩, hcell, hap, hab⟩ := x'
  subst es'
  have eL : env₀.locals = s.heap.objs.size := by rw [he]; rfl
  have eC : env₀.cells = [(x, s.heap.objs.size + 1)] := by rw [he]; rfl
  have eS : env₀.scope = scope := by rw [he]; rfl
  have eG : env₀.globals = mainGlobals ∧ env₀.builtins = builtinsNs := by rw [he]; exact ⟨rfl, rfl⟩
  have eF : env₀.frame = some env₀.locals := by rw [he]; rfl
  clear he
  let c' : Cx := { c with A := c.A.deeper env₀, env := env₀, frl := env₀ :: c.frl, kp := (c.L, oL) :: c.kp, rm := c.rm - 1 }
  have hfr' : (c.A.deeper env₀).frames = some (env₀ :: c.frl) := by
    show c.A.frames.map _ = _
    rw [S.ok.frames]; rfl
  have O : c'.Own := ⟨eF, _, rfl⟩
  have C : Callee c c' scope [(x, s.heap.objs.size + 1)] := ⟨rfl, rfl, rfl, rfl, by show c.rm - 1 + 1 = c.rm; omega, rfl, rfl, O, eS, eC⟩
  have ok : c'.OK := by
    refine ⟨S.ok.X, S.ok.lim, hfr', fun e he => ?_, ?_, S.ok.guards, ?_, ?_, eG, S.ok.gl⟩
    · rcases List.mem_cons.mp he with rfl | he
      · exact ⟨by rw [eS, k1]; decide, _, eF, .inl rfl⟩
      · obtain ⟨hk, a, hf, ha⟩ := S.ok.frs e he
        refine ⟨hk, a, hf, .inr ?_⟩
        rcases ha with rfl | ⟨o, ho, hd⟩
        · exact ⟨oL, .head _, fun vs q => by rw [hLd] at q; cases q⟩
        · exact ⟨o, .tail _ ho, hd⟩
    · show env₀.scope.kind = _; rw [eS]; exact k1
    · show c.A.depth + 1 + 3 * (c.rm - 1) + 3 < recursionLimit; omega
    · show c.A.units + 3 + 24 * (c.rm - 1) + 24 < cLine; omega
  have hcl := hcell x (s.heap.objs.size + 1) (by rw [eC]; simp)
  obtain ⟨oc', hoc, hdc⟩ := hcl
  have fresh1 : s.heap.get? (s.heap.objs.size + 1) = none := Heap.get?_none_of_le (Nat.le_succ _)
  have cv : (bindC env₀.kindOf [(p, val)] fun _ => none) x = if p = x then some val else none := by
    rcases hls with ⟨e, _, _⟩ | ⟨e, e1, _⟩
    · have : env₀.kindOf p ≠ some .local := by show env₀.scope.names.lookup p ≠ _; rw [eS, e, k4]; decide
      unfold bindC bindC
      rw [if_neg this, e]
    · have : env₀.kindOf p = some .local := by show env₀.scope.names.lookup p = _; rw [eS]; exact (k5 p (by rw [e1]; simp)).1
      unfold bindC bindC
      rw [if_pos this, if_neg e]
  have hcO : OR c.P z (.cell ov) oc' := by
    rcases hls with ⟨e, _, e2⟩ | ⟨e, _, e2⟩
    · rw [e2]; rw [cv, if_pos e] at hdc; exact .cell hv hdc
    · rw [e2]; rw [cv, if_neg e] at hdc; exact .cell0 hdc
  have nv : s.heap.objs.size + 1 ∉ c.vol H := S.new_vol fresh1
  have hv' : (c'.vol ((s.heap.objs.size + 1, AObj.cell ov) :: H)).Perm (s.heap.objs.size :: (s.heap.objs.size + 1) :: c.vol H) := by
    refine vol_cons.trans ?_
    have : c'.vol H = s.heap.objs.size :: c.vol H := by show env₀.locals :: ((c.L :: c.kp.map (·.1)) ++ H.map (·.1)) = _; rw [eL]; rfl
    rw [this]
    exact .swap ..
  have S' : St c' z (ls ++ rest.map fun y => (y, none)) ((s.heap.objs.size + 1, .cell ov) :: H) { s with heap := h₁, toks := tk } := by
    refine ⟨ok, S.base, fun b o e => hk₁ _ _ (S.fin b o e), fun a ha => ?_, hv'.nodup_iff.mpr ?_, fun q hq => ?_, fun q hq => ?_, ⟨_, hns, fun y w hy => ?_⟩, ?_, fun q hq => ?_, S.gens, S.os⟩
    · rcases List.mem_cons.mp (hv'.mem_iff.mp ha) with rfl | ha
      · exact S.fresh
      · rcases List.mem_cons.mp ha with rfl | ha
        · exact S.new_z fresh1
        · exact S.vol a ha
    · refine List.nodup_cons.mpr ⟨fun hm => ?_, List.nodup_cons.mpr ⟨nv, S.nodup⟩⟩
      rcases List.mem_cons.mp hm with e | hm
      · exact absurd e (Nat.ne_of_lt (Nat.lt_succ_self _))
      · exact S.fresh_vol hm
    · rcases List.mem_cons.mp hq with rfl | hq
      · exact same_slots (hk₁ _ _ hL)
      · obtain ⟨sl, e⟩ := S.kp q hq; exact ⟨sl, hk₁ _ _ e⟩
    · rcases List.mem_cons.mp hq with rfl | hq
      · exact ⟨oc', hoc, hcO⟩
      · obtain ⟨ob, e, r⟩ := S.own q hq; exact ⟨ob, hk₁ _ _ e, r⟩
    · rcases List.mem_append.mp hy with hy | hy
      · rcases hls with ⟨_, e1, _⟩ | ⟨e, e1, _⟩
        · rw [e1] at hy; cases hy
        · rw [e1] at hy
          simp only [List.mem_singleton, Prod.mk.injEq, Option.some.injEq] at hy
          obtain ⟨rfl, rfl⟩ := hy
          refine ⟨val, ?_, hv⟩
          have : env₀.kindOf y = some .local := by show env₀.scope.names.lookup y = _; rw [eS]; exact (k5 y (by rw [e1]; simp)).1
          unfold bindL bindL
          rw [if_pos this]; simp
      · obtain ⟨q, hq, e⟩ := List.mem_map.mp hy
        cases e
    · have e : (ls ++ rest.map fun y => ((y, none) : Str × Option V)).map (·.1) = ls.map (·.1) ++ rest := by
        rw [List.map_append, List.map_map]
        congr 1
        exact List.map_id _
      rw [e]; exact k6
    · have e : q.1 ∈ ls.map (·.1) ++ rest := by
        have : (ls ++ rest.map fun y => ((y, none) : Str × Option V)).map (·.1) = ls.map (·.1) ++ rest := by
          rw [List.map_append, List.map_map]
          congr 1
          exact List.map_id _
        rw [← this]; exact List.mem_map_of_mem hq
      obtain ⟨a, b⟩ := k5 q.1 e
      exact ⟨by show env₀.scope.names.lookup q.1 = _; rw [eS]; exact a, by simpa using b⟩
  refine wpR_mono (h c' _ C z _ S') (fun fl s' ⟨f', z', ρ', H', le, S'', r, o, q⟩ => ?_) fun e s' ⟨_, _, _, _, _, _, _, _, _, f⟩ => f.elim
  obtain ⟨H₂, S₃, q⟩ := S''.less q
  have back := postV_back (c' := c') S hL rfl rfl rfl rfl le S₃
  have fin : ∀ {v : V} {val : Value}, VR z' v val → Q v H₂ → PostV c z ρ Q val s' := fun hr q => ⟨_, z', H₂, le, back, hr, q⟩
  cases r with
  | ret r => exact fin r q
  | next => exact fin .none q
  | brk => exact fin .none q
  | cont => exact fin .none q
end
end
section

/-- the type of a value, and what it has to be asked for an item -/
structure HasItem (c : Cx) (H : Hp) (o : V) (T id : String) : Prop where
  ty : ∀ z ρ s v, St c z ρ H s → VR z o v → s.TypeIs v T
  look : typeLookup (.type T) "__getitem__" = pure (some (.builtin id))

def isSl (lo hi : Option Int) (o : Obj) : Prop := ∃ vl vu, o.cls = .type "slice" ∧ o.data = .fields #[vl, vu, .none] ∧ IsPart vl lo ∧ IsPart vu hi

section
variable {c : Cx} {ρ : Loc} {H : Hp} {Q : V → Hp → Prop} {X : XP}
theorem sub_core {value slice : Expr} {z : FZ} {s : Shared} {o i : V} {vo vi : Value} {T id : String} {ops : List Value} (S : St c z ρ H s) (ho : VR z o vo) (hi : VR z i vi) (hT : HasItem c H o T id)
    (h : Do2 c o i (fun o i => getItem o i) ρ H Q X) (hs : subscripted slice false vo vi = operate ops (getItem vo vi)) :
    wpR c.M c.A (subscriptTail value slice vo vi) (PostV c z ρ Q) (PostX c z false X) s := by
  have hty := hT.ty z ρ s vo S ho
  unfold subscriptTail
  refine wpR_bind ?_
  rw [getitemInPython_of_ne hty.not_modules]
  refine wpR_leaf (wpAny_specialOf hty hT.look ?_)
  have fin : wpR c.M c.A (subscripted slice false vo vi) (fun r s₃ => wpR c.M c.A (letTemporaryGo value vo r >>= fun _ => pure r) (PostV c z ρ Q) (PostX c z false X) s₃) (PostX c z false X) s := by
    rw [hs]
    exact wpR_operating (wpR_mono (h z s vo vi S ho hi) (fun r s₃ h₃ => of (wpAny_bind (wpAny_letTemporaryGo (wpAny_pure h₃)))) fun _ _ x => x)
  first
    | exact wpR_pure (wpR_bind fin)
    | exact wpR_bind (wpR_pure (wpR_bind fin))
    | exact wpR_bind fin
/-- an item by a place or a key -/
theorem Ev.sub {value slice : Expr} {pos : Pos} (h : Ev c value ρ H (fun o H₁ => Ev c slice ρ H₁ (fun i H₂ => ∃ T id, HasItem c H₂ o T id ∧ Do2 c o i (fun o i => getItem o i) ρ H₂ Q X) X) X)
    (hs : ∀ o i, subscripted slice false o i = operate [o, i] (getItem o i) := by intro _ _; with_unfolding_all rfl) : Ev c (.Subscript value slice pos) ρ H Q X := fun z s S =>
  wpR_Subscript (wpR_mono (h z s S) (fun vo s₁ ⟨o, z₁, H₁, le₁, S₁, r₁, h₁⟩ => wpR_mono (h₁ z₁ s₁ S₁) (fun vi s₂ ⟨i, z₂, H₂, le₂, S₂, r₂, T, id, hT, h₂⟩ =>
    carryV (le₁.trans le₂) (sub_core S₂ (r₁.mono le₂) r₂ hT h₂ (hs _ _))) fun _ _ => PostX.le le₁) fun _ _ x => x)

def EvO (c : Cx) (e : Option Expr) (ρ : Loc) (H : Hp) (Q : V → Hp → Prop) (X : XP) : Prop := match e with
  | some e => Ev c e ρ H Q X
  | Option.none => Q .none H
theorem EvO.some {e : Expr} (h : Ev c e ρ H Q X) : EvO c (Option.some e) ρ H Q X := h
theorem EvO.none (h : Q .none H) : EvO c Option.none ρ H Q X := h
theorem EvO.wp {e : Option Expr} {z : FZ} {s : Shared} (h : EvO c e ρ H Q X) (S : St c z ρ H s) : wpR c.M c.A (evalPart e c.env) (PostV c z ρ Q) (PostX c z false X) s := by
  cases e with
  | none => exact wpR_pure ⟨.none, z, H, Le.refl z, S, .none, h⟩
  | some e => exact h z s S
def V.part : V → Option (Option Int)
  | .none => Option.some Option.none
  | .int i => Option.some (Option.some i)
  | _ => Option.none
theorem VR.part {z : FZ} {x : V} {v : Value} {lo : Option Int} (h : VR z x v) (e : x.part = some lo) : IsPart v lo := by
  cases h <;> simp [V.part] at e <;> subst e <;> constructor
/-- a slice -/
theorem Ev.slice {value : Expr} {lower upper : Option Expr} {p pos : Pos}
    (h : Ev c value ρ H (fun o H₁ => EvO c lower ρ H₁ (fun l H₂ => EvO c upper ρ H₂ (fun u H₃ => ∃ lo hi T id, l.part = some lo ∧ u.part = some hi ∧
      ∀ a, HasItem c ((a, .prop (isSl lo hi)) :: H₃) o T id ∧ Do2 c o (.ref a) (fun o i => getItem o i) ρ ((a, .prop (isSl lo hi)) :: H₃) Q X) X) X) X) : Ev c (.Subscript value (.Slice lower upper Option.none p) pos) ρ H Q X := fun z s S => by
  refine wpR_Subscript (wpR_mono (h z s S) (fun vo s₁ ⟨o, z₁, H₁, le₁, S₁, r₁, h₁⟩ => ?_) fun _ _ x => x)
  refine wpR_Slice (wpR_mono (h₁.wp S₁) (fun vl s₂ ⟨l, z₂, H₂, le₂, S₂, r₂, h₂⟩ => ?_) fun _ _ => PostX.le le₁)
  refine wpR_mono (h₂.wp S₂) (fun vu s₃ ⟨u, z₃, H₃, le₃, S₃, r₃, lo, hi, T, id, hl, hu, h₃⟩ => ?_) fun _ _ => PostX.le (le₁.trans le₂)
  refine wpR_pure ?_
  have S₄ := S₃.pushT (n := s₃.toks) (o := { cls := .type "slice", data := .fields #[vl, vu, .none] }) (ob := .prop (isSl lo hi)) (.prop ⟨vl, vu, rfl, rfl, (r₂.mono le₃).part hl, r₃.part hu⟩) rfl
  obtain ⟨hT, h₄⟩ := h₃ s₃.heap.objs.size
  exact carryV ((le₁.trans le₂).trans le₃) (sub_core S₄ (r₁.mono (le₂.trans le₃)) (.ref _) hT h₄ (by rfl))
end

/-- what a slice takes -/
def cutL {α : Type} (xs : List α) (lo hi : Option Int) : List α := (xs.drop (lo.elim 0 (clipAt xs.length))).take (hi.elim xs.length (clipAt xs.length) - lo.elim 0 (clipAt xs.length))
theorem slicePick_eq (vs : List Value) (lo hi : Option Int) : slicePick vs.toArray lo hi none = (cutL vs lo hi).toArray := by
  unfold slicePick cutL
  rw [sliceBounds_plain]
  simp only [sliceRange_one, pick_run, List.size_toArray]
theorem VRs.cut {z : FZ} {xs : List V} {vs : List Value} (h : VRs z xs vs) (lo hi : Option Int) : VRs z (cutL xs lo hi) (cutL vs lo hi) := by
  unfold cutL
  rw [h.length]
  exact (h.drop _).take _
theorem picked_cut (b : Array UInt8) (lo hi : Option Int) : KBy.picked b lo hi = (cutL b.toList lo hi).toArray := by
  rw [KBc.picked_eq]; unfold cutL; rw [Array.length_toList]

section
variable {c : Cx} {ρ : Loc} {H : Hp} {Q : V → Hp → Prop} {X : XP}
theorem HasItem.bytes {b : Array UInt8} : HasItem c H (.bytes b) "bytes" "bytes.__getitem__" := ⟨fun z ρ s v S h => by cases h; exact typeIs_bytes _ _ _, FB.slot_bytes_getitem.lookup⟩
theorem HasItem.list {a : Addr} {xs : List V} (h : (a, .list xs) ∈ H) : HasItem c H (.ref a) "list" "list.__getitem__" := ⟨fun z ρ s v S hv => by cases hv; obtain ⟨vs, hl, _⟩ := S.hl h; exact hl.typeIs, slot_list_getitem.lookup⟩
theorem HasItem.lst {xs : List V} : HasItem c H (.lst xs) "list" "list.__getitem__" := ⟨fun z ρ s v S hv => by obtain ⟨a, vs, rfl, hl, _⟩ := S.hlz hv; exact hl.typeIs, slot_list_getitem.lookup⟩
theorem HasItem.tup {xs : List V} : HasItem c H (.tup xs) "tuple" "tuple.__getitem__" := ⟨fun z ρ s v S hv => by obtain ⟨a, vs, rfl, hl, _⟩ := S.htz hv; exact hl.typeIs, slot_tuple_getitem.lookup⟩

theorem It1.list {a : Addr} {xs : List V} {i : Int} {x : V} (h : (a, .list xs) ∈ H) (h0 : 0 ≤ i) (h1 : i < 2 ^ 63) (hx : xs[i.toNat]? = some x) (q : Q x H) : Do2 c (.ref a) (.int i) (fun o i => getItem o i) ρ H Q X := fun z s v w S hv hw => by
  cases hv; cases hw
  obtain ⟨vs, hl, hr⟩ := S.hl h
  obtain ⟨val, e, r⟩ := hr.get hx
  exact of (wpAny_getItem_list hl h0 h1 (by simpa using e) (postV (n := s.toks) S r q))
theorem It1.lst {xs : List V} {i : Int} {x : V} (h0 : 0 ≤ i) (h1 : i < 2 ^ 63) (hx : xs[i.toNat]? = some x) (q : Q x H) : Do2 c (.lst xs) (.int i) (fun o i => getItem o i) ρ H Q X := fun z s v w S hv hw => by
  cases hw
  obtain ⟨a, vs, rfl, hl, hr⟩ := S.hlz hv
  obtain ⟨val, e, r⟩ := hr.get hx
  exact of (wpAny_getItem_list hl h0 h1 (by simpa using e) (postV (n := s.toks) S r q))
theorem It1.tup {xs : List V} {i : Int} {x : V} (h0 : 0 ≤ i) (h1 : i < 2 ^ 63) (hx : xs[i.toNat]? = some x) (q : Q x H) : Do2 c (.tup xs) (.int i) (fun o i => getItem o i) ρ H Q X := fun z s v w S hv hw => by
  cases hw
  obtain ⟨a, vs, rfl, hl, hr⟩ := S.htz hv
  obtain ⟨val, e, r⟩ := hr.get hx
  have hlt : i.toNat < vs.length := (List.getElem?_eq_some_iff.mp e).1
  refine of (PyProof.Rows.getItem_tuple hl (by omega) h1 (j := i.toNat) ?_ (by simpa using e) (postV (n := s.toks) S r q))
  have hn : ¬ i < 0 := by omega
  have : i < (vs.length : Int) := by omega
  simp [seqIndex?, hn, h0, this]
theorem It1.bytes {b : Array UInt8} {i : Int} {u : UInt8} (hz : b.size ≤ 1000000) (h0 : 0 ≤ i) (hx : b.toList[i.toNat]? = some u) (q : Q (.int (u.toNat : Int)) H) : Do2 c (.bytes b) (.int i) (fun o i => getItem o i) ρ H Q X := fun z s v w S hv hw => by
  cases hv; cases hw
  rename_i t₁ t₂
  have hlt : i.toNat < b.toList.length := (List.getElem?_eq_some_iff.mp hx).1
  have e : b.toList.getD i.toNat 0 = u := by rw [List.getD_eq_getElem?_getD, hx]; rfl
  have := PySem.W.getItem_bytes (prog := c.p) (w := c.w) (A := c.A) (E := PostX c z false X) (s := s) (t := t₁) (u := t₂) (l := b.toList) (i := i) (Q := PostV c z ρ Q) (by rw [Array.length_toList]; omega) h0 (by omega)
    (by rw [e]; exact postV S (.int _ _) q)
  exact of (by simpa using this)
-- slices
theorem sl_of {a : Addr} {z : FZ} {s : Shared} {lo hi : Option Int} (S : St c z ρ H s) (h : (a, .prop (isSl lo hi)) ∈ H) : ∃ vl vu, s.heap.IsSliceOf a vl vu .none ∧ IsPart vl lo ∧ IsPart vu hi := by
  obtain ⟨o, e, vl, vu, h1, h2, h3, h4⟩ := S.prop h
  exact ⟨vl, vu, ⟨o, e, h1, h2⟩, h3, h4⟩
theorem Sl.lst {a : Addr} {xs : List V} {lo hi : Option Int} (hz : xs.length ≤ sizeLine) (q : Q (.lst (cutL xs lo hi)) H) : Do2 c (.lst xs) (.ref a) (fun o i => getItem o i) ρ ((a, .prop (isSl lo hi)) :: H) Q X := fun z s v w S hv hw => by
  cases hw
  obtain ⟨al, vs, rfl, hl, hr⟩ := S.hlz hv
  obtain ⟨vl, vu, hs, pl, pu⟩ := sl_of S (.head _)
  refine of (wpAny_getItem_list_slice hl hs pl pu .none (by simp) ?_ (by rw [List.size_toArray, hr.length]; exact hz))
  rw [slicePick_eq]
  have S₁ := S.dropH
  exact ⟨_, _, H, FZ.put_le S₁.fresh, S₁.pushZ (n := s.toks) { cls := .type "list", data := .seq (cutL vs lo hi).toArray } rfl, .lst (n := 0) (FZ.put_self ..) rfl rfl ((hr.cut lo hi).mono (FZ.put_le S₁.fresh)), q⟩
theorem Sl.list {a b : Addr} {xs : List V} {lo hi : Option Int} (h : (b, .list xs) ∈ H) (hz : xs.length ≤ sizeLine) (q : Q (.lst (cutL xs lo hi)) H) : Do2 c (.ref b) (.ref a) (fun o i => getItem o i) ρ ((a, .prop (isSl lo hi)) :: H) Q X := fun z s v w S hv hw => by
  cases hw; cases hv
  obtain ⟨vs, hl, hr⟩ := S.hl (.tail _ h)
  obtain ⟨vl, vu, hs, pl, pu⟩ := sl_of S (.head _)
  refine of (wpAny_getItem_list_slice hl hs pl pu .none (by simp) ?_ (by rw [List.size_toArray, hr.length]; exact hz))
  rw [slicePick_eq]
  have S₁ := S.dropH
  exact ⟨_, _, H, FZ.put_le S₁.fresh, S₁.pushZ (n := s.toks) { cls := .type "list", data := .seq (cutL vs lo hi).toArray } rfl, .lst (n := 0) (FZ.put_self ..) rfl rfl ((hr.cut lo hi).mono (FZ.put_le S₁.fresh)), q⟩
theorem Sl.bytes {a : Addr} {b : Array UInt8} {lo hi : Option Int} (hz : b.size ≤ 16777216) (q : Q (.bytes (cutL b.toList lo hi).toArray) H) : Do2 c (.bytes b) (.ref a) (fun o i => getItem o i) ρ ((a, .prop (isSl lo hi)) :: H) Q X := fun z s v w S hv hw => by
  cases hw; cases hv
  obtain ⟨vl, vu, hs, pl, pu⟩ := sl_of S (.head _)
  refine of (getItem_meets (typeIs_bytes _ _ _) (by decide) FB.slot_bytes_getitem FB.entry_bytes_getitem (FB.args_bytes_getitem_2 _ _) (KBc.meets_slice2 b _ _ pl pu) ⟨hs, ?_, fun t' k => ?_⟩)
  · have := KBc.size_picked_le b lo hi
    rw [sizeLine_eq]; omega
  · rw [picked_cut]
    exact postV S.dropH (.bytes _ _) q
end
end
section
open Builtin

namespace BA
theorem slot_len : Slot "bytearray" "__len__" "bytearray.__len__" :=
  .of (owner := "bytearray") (n := "__len__") (by rw [typeLookup_type, builtinLookup_eq_fast]; kernel_rfl) (by decide +kernel) (by decide +kernel) (by decide +kernel)
    (by first | exact .inl (by decide +kernel) | exact .inr (by decide +kernel)) (by rw [isSubtype_type]; kernel_rfl)
theorem entry_len : entryFor table "bytearray.__len__" = some Builtin.«bytearray.__len__» := entryFor_of_tree (by kernel_rfl)
theorem args_len (a : Value) : argsOk "bytearray.__len__" ⟨[a], []⟩ := by unfold argsOk; kernel_rfl
theorem slot_getitem : Slot "bytearray" "__getitem__" "bytearray.__getitem__" :=
  .of (owner := "bytearray") (n := "__getitem__") (by rw [typeLookup_type, builtinLookup_eq_fast]; kernel_rfl) (by decide +kernel) (by decide +kernel) (by decide +kernel)
    (by first | exact .inl (by decide +kernel) | exact .inr (by decide +kernel)) (by rw [isSubtype_type]; kernel_rfl)
theorem entry_getitem : entryFor table "bytearray.__getitem__" = some Builtin.«bytearray.__getitem__» := entryFor_of_tree (by kernel_rfl)
theorem args_getitem (a b : Value) : argsOk "bytearray.__getitem__" ⟨[a, b], []⟩ := by unfold argsOk; kernel_rfl
theorem slot_delitem : Slot "bytearray" "__delitem__" "bytearray.__delitem__" :=
  .of (owner := "bytearray") (n := "__delitem__") (by rw [typeLookup_type, builtinLookup_eq_fast]; kernel_rfl) (by decide +kernel) (by decide +kernel) (by decide +kernel)
    (by first | exact .inl (by decide +kernel) | exact .inr (by decide +kernel)) (by rw [isSubtype_type]; kernel_rfl)
theorem entry_delitem : entryFor table "bytearray.__delitem__" = some Builtin.«bytearray.__delitem__» := entryFor_of_tree (by kernel_rfl)
theorem args_delitem (a b : Value) : argsOk "bytearray.__delitem__" ⟨[a, b], []⟩ := by unfold argsOk; kernel_rfl
theorem slot_iadd : Slot "bytearray" "__iadd__" "bytearray.__iadd__" :=
  .of (owner := "bytearray") (n := "__iadd__") (by rw [typeLookup_type, builtinLookup_eq_fast]; kernel_rfl) (by decide +kernel) (by decide +kernel) (by decide +kernel)
    (by first | exact .inl (by decide +kernel) | exact .inr (by decide +kernel)) (by rw [isSubtype_type]; kernel_rfl)
theorem entry_iadd : entryFor table "bytearray.__iadd__" = some Builtin.«bytearray.__iadd__» := entryFor_of_tree (by kernel_rfl)
theorem args_iadd (a b : Value) : argsOk "bytearray.__iadd__" ⟨[a, b], []⟩ := by unfold argsOk; kernel_rfl
theorem look_buffer : typeLookup (.type "bytearray") "__buffer__" = pure (some (.builtin "bytearray.__buffer__")) := by rw [typeLookup_type, builtinLookup_eq_fast]; kernel_rfl
theorem look_release : typeLookup (.type "bytearray") "__release_buffer__" = pure (some (.builtin "bytearray.__release_buffer__")) := by rw [typeLookup_type, builtinLookup_eq_fast]; kernel_rfl
theorem sub_self : isSubtype (.type "bytearray") (.type "bytearray") = pure true := by rw [isSubtype_type]; kernel_rfl

/-- a bytearray of the heap that nobody holds -/
def Is (h : Heap) (a : Addr) (b : Array UInt8) : Prop := h.get? a = some { cls := .type "bytearray", data := .bytearray b 0 }
theorem Is.ty {s : Shared} {a : Addr} {b : Array UInt8} (h : Is s.heap a b) : s.TypeIs (.ref a) "bytearray" := ⟨_, h, rfl⟩

section
variable {M : Model} {A : Around} {E : Value → Shared → Prop} {s : Shared} {a : Addr} {b : Array UInt8}
theorem payload_ {Q : Array UInt8 → Shared → Prop} (h : Is s.heap a b) (q : Q b s) : wpAny M A (Bytes.payload (.ref a)) Q E s := by
  unfold Bytes.payload Bytes.payload?
  refine wpAny_bind (wpAny_bind (wpAny_load h (wpAny_pure ?_)))
  exact wpAny_pure q
theorem slotIsOwn_ {name : String} {id : String} {Q : Bool → Shared → Prop} (h : Is s.heap a b) (hl : typeLookup (.type "bytearray") (name : Str) = pure (some (.builtin id))) (he : (!id.endsWith ("." ++ name)) = false) (hd : id.dropRight (name.length + 1) = "bytearray") (q : Q true s) :
    wpAny M A (Bytes.slotIsOwn (.ref a) name) Q E s := by
  unfold Bytes.slotIsOwn
  refine wpAny_bind (wpAny_specialOf h.ty hl ?_)
  try dsimp only
  rw [he]
  simp only [Bool.false_eq_true, if_false]
  rw [hd]
  first | exact wpAny_isInstance h.ty sub_self q | exact wpAny_bind (wpAny_pure (wpAny_isInstance h.ty sub_self q))
theorem ownRelease_ {Q : Bool → Shared → Prop} (h : Is s.heap a b) (q : Q false s) : wpAny M A (Bytes.ownRelease (.ref a)) Q E s := by
  unfold Bytes.ownRelease
  exact wpAny_bind (slotIsOwn_ h look_release (by decide +kernel) (by decide +kernel) (wpAny_pure q))
theorem buffer_ {id : String} {full : Bool} {Q : Option (Array UInt8) → Shared → Prop} (h : Is s.heap a b) (q : Q (some b) s) : wpAny M A (Bytes.buffer? id (.ref a) full) Q E s := by
  unfold Bytes.buffer?
  refine wpAny_bind (wpAny_specialOf h.ty look_buffer ?_)
  try dsimp only
  refine wpAny_bind (slotIsOwn_ h look_buffer (by decide +kernel) (by decide +kernel) ?_)
  simp only [Bool.not_true, Bool.false_eq_true, if_false]
  first
    | refine wpAny_bind (wpAny_specialOf h.ty look_buffer ?_)
    | refine wpAny_bind (wpAny_pure (wpAny_bind (wpAny_specialOf h.ty look_buffer ?_)))
  try dsimp only
  refine wpAny_bind (ownRelease_ h ?_)
  simp only [Bool.false_eq_true, if_false]
  first
    | exact wpAny_bind (payload_ h (wpAny_pure q))
    | exact wpAny_bind (wpAny_pure (wpAny_bind (payload_ h (wpAny_pure q))))
theorem bytesLike_ {id : String} {Q : Array UInt8 → Shared → Prop} (h : Is s.heap a b) (q : Q b s) : wpAny M A (Bytes.bytesLike id (.ref a)) Q E s := by
  unfold Bytes.bytesLike
  exact wpAny_bind (buffer_ h (wpAny_pure q))

theorem guard_of {i : String} {args : Args} : (Code.builtin i args).isGuard = guardIds.contains i := by first | rfl | (unfold Code.isGuard; rfl) | (unfold Code.isGuard; split <;> simp_all)
theorem any_no {α : Type} {f : α → Bool} {l : List α} {P : Bool → Prop} (h : ∀ x ∈ l, f x = false) (q : P false) : P (l.any f) := by
  rw [List.any_eq_false.mpr fun x hx => by rw [h x hx]; decide]
  exact q
/-- nobody holds it: no guard and no decoder runs -/
theorem exported_ {Q : Bool → Shared → Prop} (hg : A.guards = some []) (q : Q false s) : wpR M A (Bytes.exported (.ref a)) Q E s := fun Γ p hΓ hc => by
  show Q (((Γ.code, p) :: Γ.below).any _) s
  have hall : guardsOf ((Γ.code, p) :: Γ.below) = [] := by rw [guardsOf_cons]; exact hΓ.2.2.2.1 [] hg
  have hcl : ∀ x ∈ (Γ.code, p) :: Γ.below, isDec x.1 = false := fun x hx => by
    rcases List.mem_cons.mp hx with rfl | hx
    · exact hc.1
    · exact hc.2 x hx
  have gd : ∀ l : List (Code × Pos), guardsOf l = [] → ∀ x ∈ l, x.1.isGuard = false := by
    intro l
    induction l with
    | nil => intro _ x hx; cases hx
    | cons y r ih =>
      intro h x hx
      obtain ⟨cy, py⟩ := y
      rw [guardsOf_cons, List.append_eq_nil_iff] at h
      rcases List.mem_cons.mp hx with rfl | hx
      · have := h.1
        unfold Code.guards at this
        split at this
        · cases this
        · rename_i hn; simpa using hn
      · exact ih h.2 x hx
  refine any_no (P := fun b => Q b s) (fun x hx => ?_) q
  have h1 := hcl x hx
  have h2 := gd _ hall x hx
  obtain ⟨c, p⟩ := x
  dsimp only at h1 h2 ⊢
  split
  · rename_i e; cases e; rw [guard_of] at h2; exact absurd h2 (by decide +kernel)
  · rename_i e; cases e; rw [guard_of] at h2; exact absurd h2 (by decide +kernel)
  · rename_i e; cases e; rw [guard_of] at h2; exact absurd h2 (by decide +kernel)
  · rename_i e; cases e; rw [guard_of] at h2; exact absurd h2 (by decide +kernel)
  · rename_i e; cases e; rw [guard_of] at h2; exact absurd h2 (by decide +kernel)
  · rename_i e; cases e; rw [show Bytes.decodersThatHold.contains _ = false from h1, Bool.and_false]
  · rfl
end
end BA
end
section

section
variable {prog : Program} {w : World} {A : Around} {E : Value → Shared → Prop} {s : Shared}
theorem wpR_call_entry {T : String} {name : Str} {id : String} {b : Builtin} {self : Value} {rest : List Value} {Q : Value → Shared → Prop} (h : Slot T name id) (hT : s.TypeIs self T) (hb : entryFor table id = some b) (hd : Builtin.Bytes.decodersThatHold.contains id = false)
    (hc : wpR (model prog w) A.in1 (b ⟨self :: rest, []⟩) (fun fin s' => ∃ v, fin = .done (.ret v) ∧ Q v s') E s) (ha : argsOk id ⟨self :: rest, []⟩ := by rfl) : wpR (model prog w) A (call (.builtin id) (self :: rest)) Q E s := by
  refine wpR_call (codeR_call_builtin_at (plainId_quiet h.plain _) hd hb ?_)
  rw [Around.under_plainId h.plain]
  refine h.check _ _ _ _ _ _ _ _ hT ha (wpR_mono hc (fun fin s' h' => ?_) fun _ _ h' => h')
  obtain ⟨v, rfl, hv⟩ := h'; exact hv
theorem callSpecialR_slot {self : Value} {T : String} {name : Str} {id : String} {args : List Value} {kw : List (Str × Value)} {Q : Option Value → Shared → Prop} (hT : s.TypeIs self T) (h : Slot T name id)
    (hc : wpR (model prog w) A (call (.builtin id) (self :: args) kw) (fun v => Q (some v)) E s) : wpR (model prog w) A (callSpecial? self name args kw) Q E s := by
  simp only [callSpecial?]
  refine wpR_leaf (wpAny_specialOf hT h.lookup ?_)
  simp only [h.bind]
  exact wpR_holding (wpR_bind (wpR_pure (wpR_bind (wpR_mono hc (fun v s' h' => wpR_pure h') fun _ _ h' => h'))))
end

namespace BA
section
variable {M : Model} {A : Around} {E : Value → Shared → Prop} {s : Shared} {a : Addr} {b : Array UInt8}
theorem exportsOf_ {Q : Nat → Shared → Prop} (h : Is s.heap a b) (q : Q 0 s) : wpAny M A (Builtin.Bytes.exportsOf (.ref a)) Q E s := by
  unfold Builtin.Bytes.exportsOf
  exact wpAny_bind (wpAny_load h (wpAny_pure q))
theorem held_ {Q : Bool → Shared → Prop} (hg : A.guards = some []) (h : Is s.heap a b) (q : Q false s) : wpR M A (Builtin.Bytes.exported (.ref a) <||> (do return (← Builtin.Bytes.exportsOf (.ref a)) > 0)) Q E s := by
  show wpR M A (Builtin.Bytes.exported (.ref a) >>= fun x => _) Q E s
  refine wpR_bind (exported_ hg ?_)
  first
    | exact of (wpAny_bind (exportsOf_ h (wpAny_pure q)))
    | (simp only [Bool.false_eq_true, if_false]; exact of (wpAny_bind (exportsOf_ h (wpAny_pure q))))
theorem checkResize_ {Q : Unit → Shared → Prop} (hg : A.guards = some []) (h : Is s.heap a b) (q : Q () s) : wpR M A (Builtin.Bytes.checkResize (.ref a)) Q E s := by
  unfold Builtin.Bytes.checkResize
  refine wpR_bind (held_ hg h ?_)
  simp only [Bool.false_eq_true, if_false]
  exact wpR_pure q
/-- it is written anew -/
theorem write_ {f : Array UInt8 → Array UInt8} {Q : Unit → Shared → Prop} (h : Is s.heap a b) (hz : (f b).size ≤ 16777216) (q : ∀ h', Is h' a (f b) → Heap.SameBut a s.heap h' → Q () { s with heap := h' }) : wpAny M A (Builtin.Bytes.write (.ref a) f) Q E s := by
  unfold Builtin.Bytes.write updateBytearray
  refine wpAny_bind (wpAny_load h ?_)
  dsimp only
  have he : Is (s.heap.update a (Obj.mapBytearray f)) a (f b) := Heap.get?_update_self _ h rfl
  refine wpAny_bind (wpAny_update h (wpAny_lookBehind he ?_ (q _ he (Heap.SameBut.update ..))))
  unfold Data.pastItsLine
  dsimp only
  rw [if_neg (by rw [sizeLine_eq]; omega)]
end

section
variable {M : Model} {A : Around} {E : Value → Shared → Prop} {s : Shared} {a : Addr} {b : Array UInt8}
theorem ite_no {c : Prop} [Decidable c] {X Y : Prop} (hc : ¬ c) (h : Y) : if c then X else Y := by rw [if_neg hc]; exact h
/-- a part of a slice: the second way is not taken -/
theorem part_ {v : Value} {k : Option Int} {Q : Value → Shared → Prop} {R : Sem Value} (hv : IsPart v k) (q : Q (rawPart k) s) :
    wpAny M A (if (v == .none) = true then pure .none else specialOf v "__index__" >>= fun r => if r.isNone = true then R else asIndex v >>= fun i => pure (rawInt i)) Q E s := by
  cases hv with
  | none => exact wpAny_of_eq (a := Value.none) rfl q
  | int x t =>
    refine wpAny_ite (ite_no (show ¬ ((Value.int _ _ == Value.none) = true) from Bool.false_ne_true) ?_)
    refine wpAny_bind (wpAny_specialOf (T := "int") (typeIs_int _ _ _) PySem.F.slot_int_index.lookup ?_)
    refine wpAny_ite (ite_no (show ¬ (Option.isNone (some _) = true) from Bool.false_ne_true) ?_)
    exact wpAny_bind (wpAny_of_eq rfl (wpAny_pure q))
theorem sliceParts_ {sl : Addr} {l u : Value} {lo hi : Option Int} {Q : Value × Value × Value → Shared → Prop} (h : s.heap.IsSliceOf sl l u .none) (hl : IsPart l lo) (hu : IsPart u hi) (q : Q (rawPart lo, rawPart hi, rawPart none) s) :
    wpAny M A (Builtin.Bytes.sliceParts (.ref sl)) Q E s := by
  obtain ⟨o, ho, hc, hd⟩ := h
  unfold Builtin.Bytes.sliceParts
  refine wpAny_bind (wpAny_field (x := .none) ho hd rfl (wpAny_bind (part_ .none ?_)))
  refine wpAny_ite (ite_no (show ¬ ((Value.none == rawInt 0) = true) from Bool.false_ne_true) ?_)
  refine wpAny_bind (wpAny_field (x := l) ho hd rfl (wpAny_bind (part_ hl ?_)))
  refine wpAny_bind (wpAny_field (x := u) ho hd rfl (wpAny_bind (part_ hu ?_)))
  exact wpAny_pure q
theorem noSub_ {sl : Addr} {l u : Value} {Q : Option Int → Shared → Prop} (h : s.heap.IsSliceOf sl l u .none) (q : Q none s) : wpAny M A (Builtin.Bytes.subscript? (.ref sl)) Q E s := by
  obtain ⟨o, ho, hc, hd⟩ := h
  unfold Builtin.Bytes.subscript?
  exact wpAny_bind (wpAny_specialOf (T := "slice") ⟨o, ho, hc⟩ slice_no_index (wpAny_pure q))
end

section
variable {prog : Program} {w : World} {A : Around} {E : Value → Shared → Prop} {s : Shared} {a : Addr} {b : Array UInt8}
theorem len_ {Q : Value → Shared → Prop} (h : Is s.heap a b) (hz : b.size ≤ 1000000000) (q : Q (.int b.size (s.toks + 1)) { s with toks := s.toks + 1 + 1 }) : wpAny (model prog w) A (call (.builtin "len") [.ref a]) Q E s := by
  refine call_len_meets (S := fun _ R s => Is s.heap a b ∧ R (.ok (.ret (.int b.size s.toks))) { s with toks := s.toks + 1 }) h.ty slot_len entry_len (args_len _) (.of_wp fun prog w A R s hS => ?_) (by omega) (by omega) (fun Q' hq => ⟨h, hq⟩) q
  show wpAny _ _ (Builtin.Bytes.payload (.ref a) >>= fun r => _) _ _ s
  exact wpAny_bind (payload_ hS.1 (wpAny_bind (wpAny_mkInt (wpAny_pure ⟨_, rfl, hS.2⟩))))
theorem item_ {i : Int} {t : Tok} {u : UInt8} {Q : Value → Shared → Prop} (h : Is s.heap a b) (hz : b.size ≤ 1000000000) (h0 : 0 ≤ i) (hx : b[i.toNat]? = some u) (q : Q (.int (u.toNat : Int) s.toks) { s with toks := s.toks + 1 }) : wpAny (model prog w) A (getItem (.ref a) (.int i t)) Q E s := by
  have hlt : i.toNat < b.size := (Array.getElem?_eq_some_iff.mp hx).1
  refine getItem_meets (S := fun _ R s => Is s.heap a b ∧ R (.ok (.ret (.int (u.toNat : Int) s.toks))) { s with toks := s.toks + 1 }) h.ty (by decide) slot_getitem entry_getitem (args_getitem _ _) (.of_wp fun prog w A R s hS => ?_) ⟨h, q⟩
  show wpAny _ _ (Builtin.Bytes.subscript? (.int i t) >>= fun r => _) _ _ s
  refine wpAny_bind ?_
  unfold Builtin.Bytes.subscript?
  refine wpAny_bind (wpAny_specialOf (T := "int") (typeIs_int _ _ _) PySem.F.slot_int_index.lookup ?_)
  refine wpAny_ite (ite_no (show ¬ (Option.isNone (some _) = true) from Bool.false_ne_true) ?_)
  refine wpAny_bind (wpAny_of_eq (a := i) rfl ?_)
  refine wpAny_ite (ite_no (by simp only [Builtin.Bytes.fitsIndex, Bool.not_eq_true', Bool.and_eq_false_iff, decide_eq_false_iff_not]; omega) ?_)
  refine wpAny_pure ?_
  refine wpAny_bind (payload_ hS.1 ?_)
  have e : seqIndex? i b.size = some i.toNat := by
    have hn : ¬ i < 0 := by omega
    have h1 : i < (b.size : Int) := by omega
    simp [seqIndex?, hn, h0, h1]
  rw [e]
  simp only [Option.bind_some, hx]
  exact wpAny_bind (wpAny_mkInt (wpAny_pure ⟨_, rfl, hS.2⟩))
theorem slice_ {sl : Addr} {l u : Value} {lo hi : Option Int} {Q : Value → Shared → Prop} (h : Is s.heap a b) (hz : b.size ≤ 16777216) (hs : s.heap.IsSliceOf sl l u .none) (hl : IsPart l lo) (hu : IsPart u hi)
    (q : Q (.ref s.heap.objs.size) { s with heap := s.heap.push { cls := .type "bytearray", data := .bytearray (cutL b.toList lo hi).toArray 0 } }) : wpAny (model prog w) A (getItem (.ref a) (.ref sl)) Q E s := by
  refine getItem_meets (S := fun _ R s => Is s.heap a b ∧ s.heap.IsSliceOf sl l u .none ∧ R (.ok (.ret (.ref s.heap.objs.size))) { s with heap := s.heap.push { cls := .type "bytearray", data := .bytearray (cutL b.toList lo hi).toArray 0 } }) h.ty (by decide) slot_getitem entry_getitem (args_getitem _ _)
    (.of_wp fun prog w A R s hS => ?_) ⟨h, hs, q⟩
  obtain ⟨hb, hs, hq⟩ := hS
  have hT : s.TypeIs (.ref sl) "slice" := let ⟨o, ho, hc, _⟩ := hs; ⟨o, ho, hc⟩
  show wpAny _ _ (Builtin.Bytes.subscript? (.ref sl) >>= fun r => _) _ _ s
  refine wpAny_bind (noSub_ hs ?_)
  dsimp only
  refine wpAny_bind (wpAny_typeOf hT ?_)
  rw [if_neg (by decide)]
  refine wpAny_bind (sliceParts_ hs hl hu ?_)
  dsimp only
  refine wpAny_bind (payload_ hb ?_)
  refine wpAny_bind (wpAny_of_eq (sliceIndices_raw lo hi none b.size (fun e => nomatch e)) ?_)
  have e : Builtin.Bytes.sliced b (sliceBounds lo hi none b.size).1 (sliceBounds lo hi none b.size).2.1 (sliceBounds lo hi none b.size).2.2 = (cutL b.toList lo hi).toArray := picked_cut b lo hi
  rw [e]
  refine wpAny_bind ?_
  unfold Builtin.Bytes.newBytearray
  refine wpAny_newObj_type (wpAny_pure ⟨_, rfl, hq⟩) ?_
  show (cutL b.toList lo hi).toArray.size ≤ sizeLine
  unfold cutL
  rw [List.size_toArray, List.length_take, List.length_drop, Array.length_toList, sizeLine_eq]; omega
end
end BA
end
section
namespace BA

theorem cutHead (b : Array UInt8) (k : Nat) (hk : k ≤ b.size) : ((b.toList.zipIdx.filterMap fun (x, i) => if Builtin.Bytes.selects 0 k 1 i then none else some x).toArray) = (b.toList.drop k).toArray := by
  congr 1
  have key : ∀ (l : List UInt8) (n : Nat), (l.zipIdx n).filterMap (fun (x, i) => if Builtin.Bytes.selects 0 k 1 i then none else some x) = l.drop (k - n) := by
    intro l
    induction l with
    | nil => intro n; simp
    | cons x r ih =>
      intro n
      rw [List.zipIdx_cons, List.filterMap_cons]
      have hs : Builtin.Bytes.selects 0 k 1 n = decide (n < k) := by
        unfold Builtin.Bytes.selects
        simp [Int.emod_one]
      simp only [hs]
      by_cases h : n < k
      · simp only [h, decide_true, if_true]
        rw [ih (n + 1)]
        obtain ⟨m, hm⟩ : ∃ m, k - n = m + 1 := ⟨k - n - 1, by omega⟩
        rw [hm, List.drop_succ_cons]
        congr 1
        omega
      · simp only [h, decide_false, Bool.false_eq_true, if_false]
        rw [ih (n + 1)]
        have e1 : k - (n + 1) = 0 := by omega
        have e2 : k - n = 0 := by omega
        rw [e1, e2]; rfl
  simpa using key b.toList 0

section
variable {prog : Program} {w : World} {A : Around} {E : Value → Shared → Prop} {s : Shared} {a : Addr} {b : Array UInt8}
/-- the head of it is deleted -/
theorem delHead_ {sl : Addr} {u : Value} {k : Nat} {Q : Unit → Shared → Prop} (hg : A.guards = some []) (h : Is s.heap a b) (hz : b.size ≤ 16777216) (hk : k ≤ b.size) (hs : s.heap.IsSliceOf sl .none u .none) (hu : IsPart u (some (k : Int)))
    (q : ∀ h', Is h' a (b.toList.drop k).toArray → Heap.SameBut a s.heap h' → Q () { s with heap := h' }) : wpR (model prog w) A (delItem (.ref a) (.ref sl)) Q E s := by
  have hT : s.TypeIs (.ref sl) "slice" := let ⟨o, ho, hc, _⟩ := hs; ⟨o, ho, hc⟩
  unfold delItem
  refine wpR_holding ?_
  refine wpR_leaf (wpAny_sequenceKey h.ty (by decide) ?_)
  refine wpR_bind (callSpecialR_slot (name := "__delitem__") h.ty slot_delitem (wpR_call_entry slot_delitem h.ty entry_delitem (by decide +kernel) ?_ (args_delitem _ _)))
  show wpR _ _ (Builtin.Bytes.subscript? (.ref sl) >>= fun r => _) _ _ s
  refine wpR_leaf (noSub_ hs ?_)
  dsimp only
  refine wpR_leaf (wpAny_typeOf hT ?_)
  rw [if_neg (by decide)]
  refine wpR_leaf (sliceParts_ hs .none hu ?_)
  dsimp only
  refine wpR_leaf (payload_ h ?_)
  refine wpR_bind (wpR_of_eq (sliceIndices_raw none (some (k : Int)) none b.size (fun e => nomatch e)) ?_)
  have e : sliceBounds none (some (k : Int)) none b.size = (0, (k : Int), 1) := by
    rw [sliceBounds_plain]
    simp only [Option.elim, clipAt_nat]
    have : min k b.size = k := by omega
    rw [this]; rfl
  rw [e]
  dsimp only
  refine wpR_leaf (wpAny_rule ?_)
  have fin : wpR (model prog w) A.in1 (do
      Builtin.Bytes.write (.ref a) fun b => (b.toList.zipIdx.filterMap fun (x, i) => if Builtin.Bytes.selects 0 k 1 i then none else some x).toArray
      ret .none : Sem Fin) (fun fin s' => ∃ v, fin = .done (.ret v) ∧ wpR (model prog w) A (pure ()) Q E s') E s := by
    refine wpR_leaf (write_ h ?_ fun h' i' s' => wpR_pure ⟨_, rfl, wpR_pure ?_⟩)
    · rw [cutHead b k hk, List.size_toArray, List.length_drop, Array.length_toList]; omega
    · rw [cutHead b k hk] at i'
      exact q h' i' s'
  split
  · exact wpR_bind (checkResize_ hg h fin)
  · exact fin
/-- bytes are put behind it -/
theorem iadd_ {c : Array UInt8} {t : Tok} {Q : Value → Shared → Prop} (hg : A.guards = some []) (h : Is s.heap a b) (hz : b.size + c.size ≤ 16777216)
    (q : ∀ h', Is h' a (b ++ c) → Heap.SameBut a s.heap h' → Q (.ref a) { s with heap := h' }) : wpR (model prog w) A (inplaceOp .Add (.ref a) (.bytes c t)) Q E s := by
  have noR : typeLookup (.type "bytearray") (dunderR "add") = pure none := by rw [typeLookup_type, builtinLookup_eq_fast]; kernel_rfl
  have lookI : typeLookup (.type "bytearray") (dunderI "add") = pure (some (.builtin "bytearray.__iadd__")) := by rw [typeLookup_type, builtinLookup_eq_fast]; kernel_rfl
  have lookA : typeLookup (.type "bytearray") (dunder "add") = pure (some (.builtin "bytearray.__add__")) := by rw [typeLookup_type, builtinLookup_eq_fast]; kernel_rfl
  have noF : fillsNumberSlot (.type "bytearray") "add" = pure false := PySem.fillsNumberSlot_seq (id := "bytearray.__add__") (r := none) lookA (by decide +kernel) noR rfl
  have hfi : fillsInplaceSlot (.type "bytearray") "add" (Operator.Add == .Add) = pure false := by
    unfold fillsInplaceSlot
    show (typeLookup (.type "bytearray") (dunderI "add") >>= fun fi => pure (fi.isSome && !isSeqSlot fi)) = pure false
    rw [lookI, pure_bind]
    rw [show isSeqSlot (some (.builtin "bytearray.__iadd__")) = true by decide +kernel]; rfl
  have hsi : seqSlot? (.type "bytearray") (dunderI "add") = pure (some (.builtin "bytearray.__iadd__")) := PySem.seqSlot_of lookI (by decide +kernel)
  unfold inplaceOp
  refine wpR_holding ?_
  refine wpR_leaf (wpAny_typeOf h.ty ?_)
  refine wpR_bind (wpR_of_eq hfi ?_)
  show wpR (model prog w) A (if false = true then _ else _) Q E s
  rw [if_neg Bool.false_ne_true]
  have two : wpAny (model prog w) A (binaryOp1 "add" (.ref a) (.bytes c t)) (fun r s' => r = none ∧ s' = s) E s := by
    simp only [binaryOp1]
    refine wpAny_bind (wpAny_typeOf h.ty (wpAny_bind (wpAny_typeOf (typeIs_bytes s c t) (wpAny_bind (wpAny_of_eq noF ?_)))))
    simp only [show (Value.type "bytearray" == Value.type "bytes") = false from by decide, Bool.false_eq_true, if_false]
    refine wpAny_bind (wpAny_of_eq KBy.noFill_bytes_add ?_)
    simp only [pure_bind, Bool.false_and, Bool.false_eq_true, if_false, Bool.and_self]
    exact wpAny_pure ⟨rfl, rfl⟩
  refine wpR_leaf (wpAny_mono two (fun r s' hr => ?_) fun _ _ x => x)
  obtain ⟨rfl, rfl⟩ := hr
  dsimp only
  refine wpR_bind (wpR_of_eq hsi ?_)
  dsimp only
  refine wpR_leaf (wpAny_rule ?_)
  refine wpR_call_entry slot_iadd h.ty entry_iadd (by decide +kernel) ?_ (args_iadd _ _)
  show wpR _ _ (Builtin.Bytes.takeBufferQuiet? "bytearray.__iadd__" (.bytes c t) 0 >>= fun r => _) _ _ s'
  have tk : Builtin.Bytes.takeBufferQuiet? "bytearray.__iadd__" (.bytes c t) 0 = pure (some (c, none)) := by
    unfold Builtin.Bytes.takeBufferQuiet? Builtin.Bytes.takeBuffer?
    have bq : ∀ f, Builtin.Bytes.buffer? "bytearray.__iadd__" (.bytes c t) f = pure (some c) := fun f => by
      unfold Builtin.Bytes.buffer?
      rw [KBy.special_eq KBy.look_buffer, KBy.own_buffer, KBy.own_release]
      kernel_rfl
    rw [KBy.special_eq KBy.look_buffer, KBy.own_buffer, bq]
    first | rfl | kernel_rfl
  refine wpR_bind (wpR_of_eq tk ?_)
  dsimp only
  unfold Builtin.Bytes.thenGiveBack
  dsimp only
  have fin : wpR (model prog w) A.in1 (do
      if Builtin.Bytes.tooLong ((← Builtin.Bytes.payload (.ref a)).size + c.size) then unsupported "bytearray.__iadd__:memory"
      Builtin.Bytes.write (.ref a) (· ++ c)
      ret (.ref a) : Sem Fin) (fun fin s' => ∃ v, fin = .done (.ret v) ∧ Q v s') E s' := by
    refine wpR_leaf (payload_ h ?_)
    rw [KBy.tooLong_not hz]
    simp only [Bool.false_eq_true, if_false]
    refine of (wpAny_bind (write_ h (by rw [Array.size_append]; omega) fun h' i' s'' => wpAny_pure ⟨_, rfl, q h' i' s''⟩))
  split
  · rw [show Builtin.Bytes.sameRef (.ref a) (.bytes c t) = false from rfl]
    simp only [Bool.false_eq_true, if_false]
    exact wpR_bind (checkResize_ hg h fin)
  · exact fin
end
end BA
end
section
namespace BA
theorem none_of_ge (h : Heap) : h.get? h.objs.size = none := by
  cases q : h.get? h.objs.size with
  | none => rfl
  | some o => exact absurd (Heap.lt_size q) (Nat.lt_irrefl _)

theorem mro : mroOf (.type "bytearray") = pure [.type "bytearray", .type "object"] := by rw [mroOf_type]; kernel_rfl
theorem look_new : typeLookup (.type "bytearray") "__new__" = pure (some (.builtin "bytearray.__new__")) := by rw [typeLookup_type, builtinLookup_eq_fast]; kernel_rfl
theorem slot_init : Slot "bytearray" "__init__" "bytearray.__init__" :=
  .of (owner := "bytearray") (n := "__init__") (by rw [typeLookup_type, builtinLookup_eq_fast]; kernel_rfl) (by decide +kernel) (by decide +kernel) (by decide +kernel)
    (by first | exact .inl (by decide +kernel) | exact .inr (by decide +kernel)) (by rw [isSubtype_type]; kernel_rfl)
theorem called : TypeCalled "bytearray" "bytearray.__new__" "bytearray.__init__" :=
  ⟨by decide +kernel, by decide +kernel, ⟨_, _, mro⟩, madeBy_type mro look_new (by decide +kernel), by decide +kernel, by rw [isSubtype_type]; kernel_rfl, slot_init⟩
theorem typeCall : checkTypeCall "bytearray" ⟨[], []⟩ = pure () := by kernel_rfl
theorem newCall : checkBuiltinCall "bytearray.__new__" ⟨[.type "bytearray"], []⟩ = pure () := by kernel_rfl
theorem entry_new : entryFor table "bytearray.__new__" = some Builtin.«list.__new__» := entryFor_alias (id' := "list.__new__") (by rw [fastTable_eq_tree]; kernel_rfl) (by decide +kernel) (by decide +kernel) (by rw [fastTable_eq_tree]; kernel_rfl)
theorem entry_init : entryFor table "bytearray.__init__" = some Builtin.«bytearray.__init__» := entryFor_of_tree (by kernel_rfl)
theorem plain_new : plainId "bytearray.__new__" = true := by decide +kernel
theorem bindArgs : Builtin.Bytes.bindOptional "bytearray.__init__" "bytearray" ["source", "encoding", "errors"] [] [] = pure [none, none, none] := by kernel_rfl
theorem args_init (a : Value) : argsOk "bytearray.__init__" ⟨[a], []⟩ := by unfold argsOk; kernel_rfl
set_option maxRecDepth 1000000 in
set_option maxHeartbeats 4000000 in
theorem owner_new : ("bytearray.__new__".splitOn ".__new__").headD "" = "bytearray" := by simp +decide [String.splitOn, String.splitOnAux]

section
variable {prog : Program} {w : World} {A : Around} {E : Value → Shared → Prop} {s : Shared}
theorem code_new {Q₁ : Value → Shared → Prop}
    (h : Q₁ (.ref s.heap.objs.size) { s with heap := s.heap.push { cls := .type "bytearray", data := .bytearray #[] } }) :
    codeAny (model prog w) A (.call (.builtin "bytearray.__new__") ⟨[.type "bytearray"], []⟩) (wants Q₁ E) s := by
  refine codeAny_of_tree ?_
  show wpAny _ A.in1 (do checkBuiltinCall "bytearray.__new__" ⟨[.type "bytearray"], []⟩; again (.builtin "bytearray.__new__" ⟨[.type "bytearray"], []⟩)) _ _ s
  refine wpAny_bind (wpAny_of_eq newCall (wpAny_pure ⟨plainId_quiet plain_new _, codeAny_builtin_stack entry_new rfl fun p st => ?_⟩))
  rw [Around.under_plainId plain_new _]
  have hsub := sub_self
  have hown := owner_new
  obtain ⟨hp, g, d, tk, os⟩ := s
  simp only [hown]
  wp_walk
  exact h
theorem init_ {a : Addr} {Q : Value → Shared → Prop} (hg : A.guards = some []) (h : Is s.heap a #[]) (q : ∀ h', Is h' a #[] → Heap.SameBut a s.heap h' → Q .none { s with heap := h' }) :
    wpR (model prog w) A (Builtin.«bytearray.__init__» ⟨[.ref a], []⟩) (fun fin s' => ∃ v, fin = .done (.ret v) ∧ Q v s') E s := by
  unfold Builtin.«bytearray.__init__»
  dsimp only
  refine wpR_leaf (ownRelease_ h ?_)
  simp only [Bool.false_eq_true, if_false]
  refine wpR_bind (wpR_of_eq bindArgs ?_)
  dsimp only
  refine wpR_bind (wpR_of_eq (a := ()) rfl ?_)
  refine wpR_bind (wpR_of_eq (a := ()) rfl ?_)
  refine wpR_bind (held_ hg h ?_)
  simp only [Bool.false_eq_true, if_false]
  refine of (wpAny_bind (write_ (f := fun _ => #[]) h (by simp) fun h' i' s' => ?_))
  exact wpAny_pure ⟨_, rfl, q h' i' s'⟩
/-- a new one -/
theorem make_ {Q : Value → Shared → Prop} (hg : A.guards = some []) (q : ∀ h' a, s.heap.get? a = none → Is h' a #[] → (∀ b o, s.heap.get? b = some o → h'.get? b = some o) → Q (.ref a) { s with heap := h' }) :
    wpR (model prog w) A (call (.type "bytearray") []) Q E s := by
  obtain ⟨cc, tl, hmro⟩ := called.mro
  have hmade := called.made
  have hsub := called.sub
  refine wpR_call (codeR_of_tree rfl ?_)
  show wpR _ _ (callAny (.type "bytearray") _) _ _ _
  refine wpR_pure ⟨Code.quiet_builtin _ (by decide +kernel), codeR_builtin rfl F.entry_type_call ?_⟩
  rw [Around.under_plain (weight_type_call_type "bytearray" [] []) (units_type_call_type "bytearray" [] [])]
  have h1 := called.notType
  have h2 := called.canCreate
  unfold Builtin.«type.__call__»
  dsimp only
  simp only [h1, h2, Bool.false_eq_true, if_false]
  refine wpR_bind (wpR_of_eq typeCall ?_)
  refine wpR_bind (wpR_of_eq hmro ?_)
  simp only [List.isEmpty_cons, Bool.false_eq_true, if_false]
  refine wpR_bind (wpR_of_eq hmade ?_)
  dsimp only
  refine wpR_bind (wpR_pure ?_)
  refine wpR_bind (wpR_holding (of (wpAny_call (code_new ?_))))
  have e : ∀ b o, s.heap.get? b = some o → (s.heap.push { cls := .type "bytearray", data := .bytearray #[] }).get? b = some o := fun b o e => Heap.get?_push_of_some _ e
  have hx : Is (s.heap.push { cls := .type "bytearray", data := .bytearray #[] }) s.heap.objs.size #[] := Heap.get?_push_size _ rfl
  have hT : ({ s with heap := s.heap.push { cls := .type "bytearray", data := .bytearray #[] } } : Shared).TypeIs (.ref s.heap.objs.size) "bytearray" := ⟨_, hx, rfl⟩
  refine wpR_leaf (wpAny_isInstance hT hsub ?_)
  simp only [Bool.not_true, Bool.false_eq_true, if_false]
  refine wpR_bind (wpR_holding (callSpecialR_slot (name := "__init__") hT slot_init (wpR_call_entry slot_init hT entry_init (by decide +kernel) (init_ hg hx fun h' i' s' => ?_) (args_init _))))
  dsimp only
  refine of (wpAny_pure ?_)
  refine q h' _ (none_of_ge _) i' fun b o hb => ?_
  exact (s'.2 b (Nat.ne_of_lt (Heap.lt_size hb))).trans (e b o hb)
end
end BA
end
section
namespace BA

theorem no_bytes : typeLookup (.type "bytearray") "__bytes__" = pure none := by rw [typeLookup_type, builtinLookup_eq_fast]; kernel_rfl
theorem noIndex : typeLookup (.type "bytearray") "__index__" = pure none := by rw [typeLookup_type, builtinLookup_eq_fast]; kernel_rfl

section
variable {prog : Program} {w : World} {A : Around} {E : Value → Shared → Prop} {s : Shared}
theorem code_toBytes {a : Addr} {b : Array UInt8} {Q : Value → Shared → Prop} (h : Is s.heap a b) (hz : b.size ≤ sizeLine) (q : ∀ t k, Q (.bytes b t) { s with toks := k }) :
    codeAny (model prog w) A (.call (.builtin "bytes.__new__") ⟨[.type "bytes", .ref a], []⟩) (wants Q E) s := by
  refine codeAny_of_tree ?_
  show wpAny _ A.in1 (do checkBuiltinCall "bytes.__new__" ⟨[.type "bytes", .ref a], []⟩; again (.builtin "bytes.__new__" ⟨[.type "bytes", .ref a], []⟩)) _ _ s
  refine wpAny_bind (wpAny_of_eq (F.bm_newCall _) (wpAny_pure ⟨plainId_quiet F.bm_plain _, codeAny_builtin F.bm_entry ?_⟩))
  rw [Around.under_plainId F.bm_plain _]
  unfold Builtin.«bytes.__new__»
  refine wpAny_bind (wpAny_of_eq (a := true) rfl ?_)
  refine bm_if_false rfl ?_
  refine wpAny_bind (wpAny_of_eq F.bm_sub ?_)
  refine bm_if_false rfl ?_
  refine wpAny_bind (wpAny_of_eq (F.bm_bind _) ?_)
  refine wpAny_bind (wpAny_of_eq (a := ()) rfl ?_)
  refine wpAny_bind (wpAny_of_eq (a := ()) rfl ?_)
  refine bm_if_false rfl ?_
  refine wpAny_bind (wpAny_specialOf h.ty no_bytes ?_)
  refine wpAny_bind (wpAny_bind ?_)
  show wpAny _ _ (load a >>= _) _ _ _
  refine wpAny_bind (wpAny_load h ?_)
  refine wpAny_pure (wpAny_pure ?_)
  refine bm_if_false rfl ?_
  refine wpAny_bind (wpAny_specialOf h.ty noIndex ?_)
  refine bm_if_true rfl ?_
  have fin : wpAny (model prog w) A.in1 (Builtin.Bytes.buffer? "bytes.__new__" (.ref a) true) (fun r s' => r = some b ∧ s' = s) (fun e s' => wants Q E (.error e) s') s := buffer_ h ⟨rfl, rfl⟩
  first
    | show wpAny _ _ (Builtin.Bytes.buffer? "bytes.__new__" (.ref a) true >>= _) _ _ _
    | (refine wpAny_bind ?_; show wpAny _ _ (Builtin.Bytes.buffer? "bytes.__new__" (.ref a) true >>= _) _ _ _)
  refine wpAny_bind (wpAny_mono fin (fun r s' hr => ?_) fun _ _ x => x)
  obtain ⟨rfl, rfl⟩ := hr
  dsimp only
  refine wpAny_bind (wpAny_rule ?_)
  refine wpAny_bind (wpAny_mkBytes ?_ hz)
  show wpAny _ _ (if (Value.type "bytes" == Value.type "bytes") = true then _ else _) _ _ _
  refine bm_if_true (by decide) ?_
  first
    | exact wpAny_pure (q _ _)
    | exact wpAny_bind (wpAny_pure (wpAny_pure (q _ _)))
    | exact wpAny_pure (wpAny_pure (q _ _))
theorem toBytes_ {a : Addr} {b : Array UInt8} {Q : Value → Shared → Prop} (h : Is s.heap a b) (hz : b.size ≤ sizeLine) (q : ∀ t k, Q (.bytes b t) { s with toks := k }) : wpAny (model prog w) A (call (.type "bytes") [.ref a]) Q E s := by
  refine callType_codes (Q₁ := fun obj s₁ => s₁.TypeIs obj "bytes" ∧ Q obj s₁) F.bm_called (F.bm_typeCall _) F.entry_object_init
    (code_toBytes h hz fun t k => ⟨PySem.W.typeIs_bytes _ _ _, q t k⟩) fun obj s₁ h₁ => ?_
  exact ⟨h₁.1, F.args_object_init_2 obj _, object_init_meets F.bm_called.init.lookup F.bm_called.made (by decide) prog w A.in1 _ s₁ ⟨h₁.1, rfl, h₁.2⟩⟩

end

/-- the octets of a number as a natural number, the greatest first -/
def natBig (b : Array UInt8) (start size : Nat) : Nat := Builtin.Struct.natOf true (b.extract start (start + size))
def fmtOf (ch : Char) (size : Nat) (big : Bool) : Builtin.Struct.Format := ⟨big, !big, [⟨ch, 1, 0, size⟩], size, 1⟩
theorem fmt_H (t : Tok) : Builtin.Struct.moduleFormat (.str ">H" t) = pure (fmtOf 'H' 2 true) := by kernel_rfl
theorem fmt_I (t : Tok) : Builtin.Struct.moduleFormat (.str ">I" t) = pure (fmtOf 'I' 4 true) := by kernel_rfl
theorem fmt_Q (t : Tok) : Builtin.Struct.moduleFormat (.str ">Q" t) = pure (fmtOf 'Q' 8 true) := by kernel_rfl
theorem fmt_b (t : Tok) : Builtin.Struct.moduleFormat (.str "b" t) = pure (fmtOf 'b' 1 false) := by kernel_rfl
theorem fmt_h (t : Tok) : Builtin.Struct.moduleFormat (.str ">h" t) = pure (fmtOf 'h' 2 true) := by kernel_rfl
theorem fmt_i (t : Tok) : Builtin.Struct.moduleFormat (.str ">i" t) = pure (fmtOf 'i' 4 true) := by kernel_rfl
theorem fmt_q (t : Tok) : Builtin.Struct.moduleFormat (.str ">q" t) = pure (fmtOf 'q' 8 true) := by kernel_rfl
def numAt (ch : Char) (size : Nat) (big : Bool) (b : Array UInt8) (start : Nat) : Int :=
  let n := Builtin.Struct.natOf big (b.extract start (start + size))
  if ch.isLower && n ≥ 2 ^ (8 * size - 1) then (n : Int) - 2 ^ (8 * size) else n
theorem unpacked_one {ch : Char} {size : Nat} {big : Bool} {id : String} {b : Array UInt8} {start : Nat} (h : ch ∈ ['H', 'I', 'Q', 'b', 'h', 'i', 'q']) :
    Builtin.Struct.unpacked id (fmtOf ch size big) b start = (mkInt (numAt ch size big b start) >>= fun v => newTuple [v]) := by
  unfold Builtin.Struct.unpacked fmtOf numAt
  simp only [List.mem_cons, List.not_mem_nil, or_false] at h
  have ht : Builtin.Bytes.tooLong 1 = false := by unfold Builtin.Bytes.tooLong; rw [sizeLine_eq]; decide
  rcases h with rfl | rfl | rfl | rfl | rfl | rfl | rfl <;>
    (simp [ht, List.range']; try rfl)

section
variable {prog : Program} {w : World} {A : Around} {E : Value → Shared → Prop} {s : Shared}
theorem entry_unp : entryFor table "_struct.unpack_from" = some Builtin.«_struct.unpack_from» := entryFor_of_tree (by kernel_rfl)
theorem check_unp (x y z : Value) : checkBuiltinCall "_struct.unpack_from" ⟨[x, y, z], []⟩ = pure () := by kernel_rfl
theorem bind_unp (x y z : Value) : Builtin.Bytes.bindOptional "_struct.unpack_from" "unpack_from" ["", "buffer", "offset"] [x, y, z] [] = pure [some x, some y, some z] := by kernel_rfl
theorem plain_unp : plainId "_struct.unpack_from" = true := by decide +kernel
theorem idx_held (a : Addr) (i : Int) (t : Tok) : Builtin.Bytes.indexHeld [.ref a] (.int i t) = pure i := by
  unfold Builtin.Bytes.indexHeld
  rfl
theorem unp_ {a : Addr} {b : Array UInt8} {ch : Char} {size : Nat} {big : Bool} {fv : Value} {off : Int} {t : Tok} {Q : Value → Shared → Prop} (h : Is s.heap a b) (hf : Builtin.Struct.moduleFormat fv = pure (fmtOf ch size big)) (hm : ch ∈ ['H', 'I', 'Q', 'b', 'h', 'i', 'q'])
    (h0 : 0 ≤ off) (h1 : off.toNat + size ≤ b.size) (hz : b.size ≤ 16777216) (q : ∀ k t, Q (.ref s.heap.objs.size) { s with heap := s.heap.push { cls := .type "tuple", data := .seq #[.int (numAt ch size big b off.toNat) t] }, toks := k }) :
    wpAny (model prog w) A (call (.builtin "_struct.unpack_from") [fv, .ref a, .int off t]) Q E s := by
  refine wpAny_call (codeAny_call_builtin plain_unp entry_unp (wpAny_of_eq (check_unp _ _ _) ?_))
  unfold Builtin.«_struct.unpack_from»
  dsimp only [List.length_cons, List.length_nil]
  refine wpAny_ite (ite_no (by decide) ?_)
  refine bm_if_false rfl ?_
  refine wpAny_bind (wpAny_of_eq (bind_unp _ _ _) ?_)
  dsimp only
  refine wpAny_bind (wpAny_of_eq hf ?_)
  unfold Builtin.Struct.unpackFrom
  refine wpAny_bind (bytesLike_ h ?_)
  dsimp only
  refine wpAny_bind (wpAny_of_eq (idx_held _ _ _) ?_)
  refine bm_if_false (by simp only [Builtin.Bytes.fitsIndex, Bool.not_eq_false', Bool.and_eq_true, decide_eq_true_eq]; omega) ?_
  refine wpAny_bind (wpAny_pure ?_)
  refine wpAny_bind (wpAny_pure ?_)
  refine bm_if_true rfl ?_
  refine wpAny_bind (bytesLike_ h ?_)
  have hp : Builtin.Struct.placeIn "unpack_from" "unpacking" "not enough data to unpack" (fmtOf ch size big) b.size off = pure off.toNat := by
    unfold Builtin.Struct.placeIn
    have e1 : ¬ off < 0 := by omega
    have e2 : ¬ ((b.size : Int) - off < ((fmtOf ch size big).size : Int)) := by show ¬ ((b.size : Int) - off < (size : Int)); omega
    simp only [if_neg e1, if_neg e2]
  refine wpAny_bind (wpAny_of_eq hp ?_)
  refine wpAny_bind ?_
  rw [unpacked_one hm]
  refine wpAny_bind (wpAny_mkInt ?_)
  unfold newTuple
  refine wpAny_newObj_type (wpAny_pure (q _ _)) ?_
  show (1 : Nat) ≤ sizeLine
  rw [sizeLine_eq]; decide
end
end BA
end
section

section
variable {c : Cx} {ρ : Loc} {H : Hp} {Q : V → Hp → Prop} {X : XP}
theorem St.ba {z : FZ} {s : Shared} {a : Addr} {b : Array UInt8} (S : St c z ρ H s) (h : (a, .ba b) ∈ H) : BA.Is s.heap a b := by
  obtain ⟨o, e, r⟩ := S.own _ h
  cases r
  exact e
theorem HasItem.ba {a : Addr} {b : Array UInt8} (h : (a, .ba b) ∈ H) : HasItem c H (.ref a) "bytearray" "bytearray.__getitem__" := ⟨fun z ρ s v S hv => by cases hv; exact (S.ba h).ty, BA.slot_getitem.lookup⟩
theorem It1.ba {a : Addr} {b : Array UInt8} {i : Int} {u : UInt8} (h : (a, .ba b) ∈ H) (hz : b.size ≤ 1000000000) (h0 : 0 ≤ i) (hx : b[i.toNat]? = some u) (q : Q (.int (u.toNat : Int)) H) : Do2 c (.ref a) (.int i) (fun o i => getItem o i) ρ H Q X := fun z s v w S hv hw => by
  cases hv; cases hw
  exact of (BA.item_ (S.ba h) hz h0 hx (postV S (.int _ _) q))
theorem Sl.ba {sa a : Addr} {b : Array UInt8} {lo hi : Option Int} (h : (a, .ba b) ∈ H) (hz : b.size ≤ 16777216) (q : ∀ a', Q (.ref a') ((a', .ba (cutL b.toList lo hi).toArray) :: H)) : Do2 c (.ref a) (.ref sa) (fun o i => getItem o i) ρ ((sa, .prop (isSl lo hi)) :: H) Q X := fun z s v w S hv hw => by
  cases hw; cases hv
  obtain ⟨vl, vu, hs, pl, pu⟩ := sl_of S (.head _)
  refine of (BA.slice_ (S.ba (.tail _ h)) hz hs pl pu ?_)
  have S₁ := S.dropH
  exact ⟨_, z, _, Le.refl z, S₁.pushT (n := s.toks) (ob := .ba (cutL b.toList lo hi).toArray) (.ba _) rfl, .ref _, q _⟩
theorem Cl.lenBa {a : Addr} {b : Array UInt8} (h : (a, .ba b) ∈ H) (hz : b.size ≤ 1000000000) (q : Q (.int b.size) H) : Cl c (.bi "len") [.ref a] [] ρ H Q X := fun z s vf vs ks S hf hv hk => by
  cases hf; cases hk
  obtain _ | ⟨h1, h2⟩ := hv; cases h1; cases h2
  exact of (BA.len_ (S.ba h) hz (postV S (.int _ _) q))
theorem Cl.baNew (q : ∀ a, Q (.ref a) ((a, .ba #[]) :: H)) : Cl c (.ty "bytearray") [] [] ρ H Q X := fun z s vf vs ks S hf hv hk => by
  cases hf; cases hk; cases hv
  refine BA.make_ S.ok.guards fun h' a ha hi hk => ?_
  exact ⟨_, z, _, Le.refl z, S.growT (n := s.toks) hk ha hi (.ba _), .ref _, q _⟩
theorem Cl.bytesBa {a : Addr} {b : Array UInt8} (h : (a, .ba b) ∈ H) (hz : b.size ≤ 16777216) (q : Q (.bytes b) H) : Cl c (.ty "bytes") [.ref a] [] ρ H Q X := fun z s vf vs ks S hf hv hk => by
  cases hf; cases hk
  obtain _ | ⟨h1, h2⟩ := hv; cases h1; cases h2
  exact of (BA.toBytes_ (S.ba h) (by rw [sizeLine_eq]; omega) fun t k => postV S (.bytes _ _) q)
theorem Cl.unp {x : Str} {ch : Char} {size : Nat} {big : Bool} {a : Addr} {b : Array UInt8} {off : Int} (hf : ∀ t, Builtin.Struct.moduleFormat (.str x t) = pure (BA.fmtOf ch size big)) (hm : ch ∈ ['H', 'I', 'Q', 'b', 'h', 'i', 'q']) (h : (a, .ba b) ∈ H) (h0 : 0 ≤ off) (h1 : off.toNat + size ≤ b.size) (hz : b.size ≤ 16777216)
    (q : Q (.tup [.int (BA.numAt ch size big b off.toNat)]) H) : Cl c (.bi "_struct.unpack_from") [.str x, .ref a, .int off] [] ρ H Q X := fun z s vf vs ks S hvf hv hk => by
  cases hvf; cases hk
  obtain _ | ⟨g1, hv⟩ := hv; cases g1
  obtain _ | ⟨g2, hv⟩ := hv; cases g2
  obtain _ | ⟨g3, hv⟩ := hv; cases g3
  cases hv
  refine of (BA.unp_ (S.ba h) (hf _) hm h0 h1 hz fun k t => ?_)
  exact ⟨_, _, H, FZ.put_le S.fresh, S.pushZ (n := k) { cls := .type "tuple", data := .seq #[.int (BA.numAt ch size big b off.toNat) t] } rfl, .tup (n := 0) (vs := [_]) (FZ.put_self ..) rfl rfl (.cons (.int _ _) .nil), q⟩
theorem iaddBa {a : Addr} {b d : Array UInt8} {H' : Hp} (U : Upd a (.ba b) (.ba (b ++ d)) H H') (hz : b.size + d.size ≤ 16777216) (q : Q (.ref a) H') : Do2 c (.ref a) (.bytes d) (inplaceOp .Add) ρ H Q X := fun z s v w S hv hw => by
  cases hv; cases hw
  exact BA.iadd_ S.ok.guards (S.ba U.mem) hz fun h' i k => ⟨_, z, H', Le.refl z, S.upd (n := s.toks) U k i (.ba _), .ref _, q⟩
end

section
variable {c : Cx} {ρ : Loc} {H : Hp} {Q : Fl → Loc → Hp → Prop} {X : XP}
/-- the head of a bytearray is deleted -/
theorem Ex.delHead {o u : Expr} {p1 p2 pos : Pos}
    (h : Ev c o ρ H (fun o H₁ => Ev c u ρ H₁ (fun u H₂ => ∃ a b k H₃, o = .ref a ∧ u = .int (k : Nat) ∧ k ≤ b.size ∧ b.size ≤ 16777216 ∧ Upd a (.ba b) (.ba (b.toList.drop k).toArray) H₂ H₃ ∧ Q .next ρ H₃) X) X) :
    Ex c (.Delete [.Subscript o (.Slice Option.none (some u) Option.none p1) p2] pos) ρ H Q X := fun z s S => by
  rw [arm_exec_Delete]
  refine wpR_at (wpR_bind ?_)
  rw [arm_deleteEach_cons, arm_delete_Subscript]
  refine wpR_bind (wpR_bind (wpR_mono (h z s S) (fun vo s₁ ⟨o', z₁, H₁, le₁, S₁, r₁, h₁⟩ => ?_) fun _ _ x => x))
  refine wpR_bind (wpR_holding (wpR_Slice (wpR_pure (wpR_mono (h₁ z₁ s₁ S₁) (fun vu s₂ ⟨u', z₂, H₂, le₂, S₂, r₂, a, b, k, H₃, e1, e2, hk, hz, U, q⟩ => ?_) fun _ _ => PostX.le le₁))))
  subst e1; subst e2
  refine wpR_pure ?_
  have S₄ := S₂.pushT (n := s₂.toks) (o := { cls := .type "slice", data := .fields #[.none, vu, .none] }) (ob := .prop (isSl Option.none (some (k : Int)))) (.prop ⟨.none, vu, rfl, rfl, .none, r₂.part rfl⟩) rfl
  cases r₁
  obtain ⟨vl, vu', hs, pl, pu⟩ := sl_of S₄ (.head _)
  refine wpR_at (wpR_bind (wpR_holding ?_))
  have hsl : (s₂.heap.push { cls := .type "slice", data := .fields #[.none, vu, .none] }).IsSliceOf s₂.heap.objs.size .none vu .none := ⟨_, Heap.get?_push_size _ rfl, rfl, rfl⟩
  refine BA.delHead_ S.ok.guards (S₄.ba (.tail _ U.mem)) hz hk hsl (r₂.part rfl) fun h' i' k' => ?_
  have S₅ := (S₄.upd (n := s₂.toks) (.tail U) k' i' (.ba _)).dropH
  refine of (wpAny_release ?_)
  rw [arm_deleteEach_nil]
  have fin : PostS c z Q .next { s₂ with heap := h' } := ⟨.next, z₂, ρ, H₃, le₁.trans le₂, S₅, .next, q⟩
  exact wpR_pure (wpR_pure fin)
end
end
section

section
variable {c : Cx} {ρ : Loc} {H : Hp} {Q : V → Hp → Prop} {X : XP}
-- len
theorem Cl.lenList {a : Addr} {xs : List V} (h : (a, .list xs) ∈ H) (hz : xs.length < 2 ^ 62) (q : Q (.int xs.length) H) : Cl c (.bi "len") [.ref a] [] ρ H Q X := fun z s vf vs ks S hf hv hk => by
  cases hf; cases hk
  obtain _ | ⟨h1, h2⟩ := hv; cases h1; cases h2
  obtain ⟨vs, hl, hr⟩ := S.hl h
  refine of (call_len_list hl (by rw [List.size_toArray, hr.length]; omega) ?_)
  rw [List.size_toArray, hr.length]
  exact postV S (.int _ _) q
theorem Cl.lenLst {xs : List V} (hz : xs.length < 2 ^ 62) (q : Q (.int xs.length) H) : Cl c (.bi "len") [.lst xs] [] ρ H Q X := fun z s vf vs ks S hf hv hk => by
  cases hf; cases hk
  obtain _ | ⟨h1, h2⟩ := hv; cases h2
  obtain ⟨a, vs, rfl, hl, hr⟩ := S.hlz h1
  refine of (call_len_list hl (by rw [List.size_toArray, hr.length]; omega) ?_)
  rw [List.size_toArray, hr.length]
  exact postV S (.int _ _) q
theorem Cl.lenTup {xs : List V} (hz : xs.length < 2 ^ 62) (q : Q (.int xs.length) H) : Cl c (.bi "len") [.tup xs] [] ρ H Q X := fun z s vf vs ks S hf hv hk => by
  cases hf; cases hk
  obtain _ | ⟨h1, h2⟩ := hv; cases h2
  obtain ⟨a, vs, rfl, hl, hr⟩ := S.htz h1
  refine of (len_tuple hl (by rw [List.size_toArray, hr.length]; omega) ?_)
  rw [List.size_toArray, hr.length]
  exact postV S (.int _ _) q
theorem Cl.lenBytes {b : Array UInt8} (hz : b.size ≤ 16777216) (q : Q (.int b.size) H) : Cl c (.bi "len") [.bytes b] [] ρ H Q X := fun z s vf vs ks S hf hv hk => by
  cases hf; cases hk
  obtain _ | ⟨h1, h2⟩ := hv; cases h1; cases h2
  exact of (PySem.W.len_bytes (by omega) (postV S (.int _ _) q))
theorem Cl.lenStr {x : Str} (hz : x.length ≤ 16777216) (q : Q (.int x.length) H) : Cl c (.bi "len") [.str x] [] ρ H Q X := fun z s vf vs ks S hf hv hk => by
  cases hf; cases hk
  obtain _ | ⟨h1, h2⟩ := hv; cases h1; cases h2
  first
    | exact of (call_len_str (by omega) (postV S (.int _ _) q))
    | exact of (len_str (by omega) (postV S (.int _ _) q))
-- range
theorem Cl.range {n : Int} (q : Q (.rng 0 n) H) : Cl c (.ty "range") [.int n] [] ρ H Q X := fun z s vf vs ks S hf hv hk => by
  cases hf; cases hk
  obtain _ | ⟨h1, h2⟩ := hv; cases h1; cases h2
  refine of (call_range_1 ?_)
  exact ⟨_, _, H, FZ.put_le S.fresh, S.pushZ (n := s.toks + 1 + 1) { cls := .type "range", data := .fields #[.int 0 s.toks, .int n _, .int 1 (s.toks + 1)] } rfl, .rng (FZ.put_self ..), q⟩
-- bytes of ints
theorem VRs.ints {z : FZ} : ∀ {ns : List Int} {vs : List Value}, VRs z (ns.map V.int) vs → IntsAre vs ns
  | [], _, .nil => .nil
  | _ :: _, _, .cons (.int _ _) r => .cons _ _ r.ints
theorem Cl.bytesInts {ns : List Int} (hh : c.A.handled = none) (hr : ∀ n ∈ ns, 0 ≤ n ∧ n < 256) (hz : ns.length ≤ 1000000) (q : Q (.bytes (byteArr ns)) H) : Cl c (.ty "bytes") [.lst (ns.map V.int)] [] ρ H Q X := fun z s vf vs ks S hf hv hk => by
  cases hf; cases hk
  obtain _ | ⟨h1, h2⟩ := hv; cases h2
  obtain ⟨a, vs, rfl, hl, hv⟩ := S.hlz h1
  have hl' : vs.length = ns.length := by rw [hv.length, List.length_map]
  exact of (call_bytes_ints hl hv.ints hr (by rw [sizeLine_eq]; omega) hh fun h' t k hk => ⟨_, z, H, Le.refl z, S.grow hk, .bytes _ _, q⟩)
-- int.to_bytes
def beBytes (k : Nat) (x : Int) : Array UInt8 := byteArr ((KTBy.little k x).reverse)
theorem of_bInts {b : Array UInt8} {l : List Int} (h : KBw.bInts b = l) : b = byteArr l := by
  subst h
  unfold byteArr KBw.bInts
  apply Array.ext'
  have e : ((fun n : Int => n.toNat.toUInt8) ∘ fun c : UInt8 => ((c.toNat : Nat) : Int)) = id := by funext c; simp
  rw [List.map_map, e, List.map_id]
theorem Mt.toBytes {x : Int} : Mt c H (.int x) "to_bytes" (.bi "int.to_bytes") [.int x] := fun z ρ s v pl Q E S hv q => by
  cases hv
  exact KTBy.method (by simpa using q _ _ s.toks (.bi _) (.cons (.int _ _) .nil))
theorem Cl.toBytes {x : Int} {k : Nat} (hk : k ≤ 8) (h0 : 0 ≤ x) (h1 : x < 256 ^ k) (q : Q (.bytes (beBytes k x)) H) : Cl c (.bi "int.to_bytes") [.int x, .int (k : Int), .str "big"] [] ρ H Q X := fun z s vf vs ks S hf hv hk' => by
  cases hf; cases hk'
  obtain _ | ⟨g1, hv⟩ := hv; cases g1
  obtain _ | ⟨g2, hv⟩ := hv; cases g2
  obtain _ | ⟨g3, hv⟩ := hv; cases g3
  cases hv
  refine of (KTBy.to_big hk rfl h0 h1 fun b t' k' hb hl => ?_)
  rw [of_bInts hb]
  exact postV S (.bytes _ _) q
-- bytes * int
theorem Is.mulBytes {b : List UInt8} {n : Int} (hb : b ≠ []) (hlo : -1048576 ≤ n) (hn : n ≤ 1048576) (hs : b.length ≤ 16) : Is2 c H (binaryOp .Mult) (.bytes b.toArray) (.int n) (.bytes (List.replicate n.toNat b).flatten.toArray) := fun z ρ s v w Q E S hv hw h => by
  cases hv; cases hw
  exact bytes_mul_any hb hlo hn hs fun t' k => h _ _ (.bytes _ _)
-- chr
theorem Cl.chr {i : Int} (h0 : 0 ≤ i) (h1 : i ≤ 0x10FFFF) (q : Q (.str ⟨#[i.toNat]⟩) H) : Cl c (.bi "chr") [.int i] [] ρ H Q X := fun z s vf vs ks S hf hv hk => by
  cases hf; cases hk
  obtain _ | ⟨g1, hv⟩ := hv; cases g1; cases hv
  exact of (P.chr_of_int (by simp only [Bool.or_eq_false_iff, decide_eq_false_iff_not]; omega) (postV S (.str _ _) q))
-- max, min
theorem Cl.max2 {a b : Int} (hh : c.A.handled = none) (q : Q (.int (max a b)) H) : Cl c (.bi "max") [.int a, .int b] [] ρ H Q X := fun z s vf vs ks S hf hv hk => by
  cases hf; cases hk
  obtain _ | ⟨g1, hv⟩ := hv; cases g1
  obtain _ | ⟨g2, hv⟩ := hv; cases g2; cases hv
  rename_i t u
  refine of (max_two_ints hh fun h' tk hk => ⟨_, z, H, Le.refl z, S.grow hk, ?_, q⟩)
  by_cases h : b > a
  · rw [if_pos h, Int.max_eq_right (by omega)]; exact .int _ _
  · rw [if_neg h, Int.max_eq_left (by omega)]; exact .int _ _
theorem Cl.min2 {a b : Int} (hh : c.A.handled = none) (q : Q (.int (min a b)) H) : Cl c (.bi "min") [.int a, .int b] [] ρ H Q X := fun z s vf vs ks S hf hv hk => by
  cases hf; cases hk
  obtain _ | ⟨g1, hv⟩ := hv; cases g1
  obtain _ | ⟨g2, hv⟩ := hv; cases g2; cases hv
  rename_i t u
  refine of (min_two_ints hh fun h' tk hk => ⟨_, z, H, Le.refl z, S.grow hk, ?_, q⟩)
  by_cases h : b < a
  · rw [if_pos h, Int.min_eq_right (by omega)]; exact .int _ _
  · rw [if_neg h, Int.min_eq_left (by omega)]; exact .int _ _
end
end
section

section
variable {c : Cx} {ρ : Loc} {H : Hp} {Q : V → Hp → Prop} {X : XP}
-- sum, max of a list
theorem Cl.sumL {ns : List Int} (hh : c.A.handled = none) (q : Q (.int ns.sum) H) : Cl c (.bi "sum") [.lst (ns.map V.int)] [] ρ H Q X := fun z s vf vs ks S hf hv hk => by
  cases hf; cases hk
  obtain _ | ⟨h1, h2⟩ := hv; cases h2
  obtain ⟨a, vs, rfl, hl, hr⟩ := S.hlz h1
  obtain ⟨xs, e⟩ := hr.ints.allInts.items
  have e2 : xs.toList.map (·.1) = ns := by
    rw [← nums_intItems, ← e, show vs.toArray.toList = vs from rfl, hr.ints.numsOf]
  refine of (sum_intListG (xs := xs) hh (e ▸ hl) fun h' tk t' hk => ⟨_, z, H, Le.refl z, S.grow hk, ?_, q⟩)
  rw [preSum_eq, List.take_of_length_le (by simp), e2]
  exact .int _ _
theorem Cl.sumA {a : Addr} {ns : List Int} (hh : c.A.handled = none) (h : (a, .list (ns.map V.int)) ∈ H) (q : Q (.int ns.sum) H) : Cl c (.bi "sum") [.ref a] [] ρ H Q X := fun z s vf vs ks S hf hv hk => by
  cases hf; cases hk
  obtain _ | ⟨h1, h2⟩ := hv; cases h2; cases h1
  obtain ⟨vs, hl, hr⟩ := S.hl h
  obtain ⟨xs, e⟩ := hr.ints.allInts.items
  have e2 : xs.toList.map (·.1) = ns := by
    rw [← nums_intItems, ← e, show vs.toArray.toList = vs from rfl, hr.ints.numsOf]
  refine of (sum_intListG (xs := xs) hh (e ▸ hl) fun h' tk t' hk => ⟨_, z, H, Le.refl z, S.grow hk, ?_, q⟩)
  rw [preSum_eq, List.take_of_length_le (by simp), e2]
  exact .int _ _
theorem Cl.maxL {ns : List Int} (hh : c.A.handled = none) (hn : ns ≠ []) (q : ∀ m, m ∈ ns → (∀ n ∈ ns, n ≤ m) → Q (.int m) H) : Cl c (.bi "max") [.lst (ns.map V.int)] [] ρ H Q X := fun z s vf vs ks S hf hv hk => by
  cases hf; cases hk
  obtain _ | ⟨h1, h2⟩ := hv; cases h2
  obtain ⟨a, vs, rfl, hl, hr⟩ := S.hlz h1
  obtain ⟨xs, e⟩ := hr.ints.allInts.items
  have e2 : xs.toList.map (·.1) = ns := by
    rw [← nums_intItems, ← e, show vs.toArray.toList = vs from rfl, hr.ints.numsOf]
  have hsz : xs.size = ns.length := by rw [← e2, List.length_map, Array.length_toList]
  have hpos : 0 < xs.size := by rw [hsz]; exact List.length_pos_iff.mpr hn
  have hat : ∀ i, i < ns.length → ns[i]? = some (numAt xs i) := fun i hi => by
    have hi' : i < xs.size := by omega
    rw [← e2, List.getElem?_map, Array.getElem?_toList]
    simp [numAt, hi']
  refine of (max_intList (xs := xs) hh (e ▸ hl) hpos fun v h' tk hP hk => ?_)
  obtain ⟨t, rfl⟩ := intItems_at hP
  obtain ⟨g1, g2⟩ := argBest_gt (numAt xs) (xs.size - 1)
  refine ⟨_, z, H, Le.refl z, S.grow hk, .int _ _, q _ (List.mem_of_getElem? (hat _ (by omega))) fun n hn' => ?_⟩
  obtain ⟨i, hi⟩ := List.getElem?_of_mem hn'
  have hlt : i < ns.length := (List.getElem?_eq_some_iff.mp hi).1
  rw [hat i hlt] at hi
  cases hi
  exact g2 i (by omega)
-- isinstance
inductive TyV : V → String → Prop
  | none : TyV .none "NoneType"
  | bool (b : Bool) : TyV (.bool b) "bool"
  | int (i : Int) : TyV (.int i) "int"
  | str (x : Str) : TyV (.str x) "str"
  | bytes (b : Array UInt8) : TyV (.bytes b) "bytes"
  | lst (xs : List V) : TyV (.lst xs) "list"
  | tup (xs : List V) : TyV (.tup xs) "tuple"
theorem kit_no {K : Frag} {T U : String} {b : Bool} (h1 : (Value.type T == Value.type U) = b) (h2 : kitMeta U = true) (h3 : b = false → subIn K (.type T) (.type U) = some b) : kitOne K (.type T) (.type U) = some b := by
  unfold kitOne
  cases b with
  | true => rw [if_pos h1]
  | false =>
    rw [if_neg (by rw [h1]; decide)]
    show (if kitMeta U = true then subIn K (.type T) (.type U) else Option.none) = some false
    rw [if_pos h2]
    exact h3 rfl
theorem Cl.isi {v : V} {T U : String} {b : Bool} (h : TyV v T) (e : kitOne c.K (.type T) (.type U) = some b) (q : Q (.bool b) H) : Cl c (.bi "isinstance") [v, .ty U] [] ρ H Q X := fun z s vf vs ks S hf hv hk => by
  cases hf; cases hk
  obtain _ | ⟨h1, h2⟩ := hv
  obtain _ | ⟨h2, h3⟩ := h2; cases h3; cases h2
  have fin : ∀ tk, PostV c z ρ Q (.bool b) { s with toks := tk } := fun tk => postV S (.bool _) q
  cases h with
  | none => cases h1; exact of (kia_one kitx_none S.kin trivial e (fun x => nomatch x) fin)
  | bool b => cases h1; exact of (kia_one kitx_bool S.kin trivial e (fun x => nomatch x) fin)
  | int b => cases h1; exact of (kia_one kitx_int S.kin trivial e (fun x => nomatch x) fin)
  | str b => cases h1; exact of (kia_one kitx_str S.kin trivial e (fun x => nomatch x) fin)
  | bytes b => cases h1; exact of (kia_one kitx_bytes S.kin trivial e (fun x => nomatch x) fin)
  | lst xs =>
    obtain ⟨a, vs, rfl, hl, _⟩ := S.hlz h1
    exact of (kia_one kitx_list S.kin hl.typeIs e (fun x => nomatch x) fin)
  | tup xs =>
    obtain ⟨a, vs, rfl, hl, _⟩ := S.htz h1
    exact of (kia_one kitx_tuple S.kin hl.typeIs e (fun x => nomatch x) fin)
theorem Cl.isiD {a : Addr} {es : List (Str × V)} {U : String} {b : Bool} (h : (a, .dict es) ∈ H) (e : kitOne c.K (.type "dict") (.type U) = some b) (q : Q (.bool b) H) : Cl c (.bi "isinstance") [.ref a, .ty U] [] ρ H Q X := fun z s vf vs ks S hf hv hk => by
  cases hf; cases hk
  obtain _ | ⟨h1, h2⟩ := hv
  obtain _ | ⟨h2, h3⟩ := h2; cases h3; cases h2; cases h1
  obtain ⟨o, ho, r⟩ := S.own _ h
  have : KitAt a "dict" s.heap := by cases r; exact ⟨_, ho, rfl⟩
  exact of (kia_one kitx_dict S.kin this e (fun x => nomatch x) fun tk => postV S (.bool _) q)
-- bool()
theorem Cl.bool {b : Bool} (q : Q (.bool b) H) : Cl c (.ty "bool") [.bool b] [] ρ H Q X := fun z s vf vs ks S hf hv hk => by
  cases hf; cases hk
  obtain _ | ⟨h1, h2⟩ := hv; cases h1; cases h2
  exact of (call_bool_bool (postV (n := s.toks) S (.bool _) q))
-- list()
theorem Cl.listL {xs : List V} (hz : xs.length ≤ 1000000) (q : ∀ a, Q (.ref a) ((a, .list xs) :: H)) : Cl c (.ty "list") [.lst xs] [] ρ H Q X := fun z s vf vs ks S hf hv hk => by
  cases hf; cases hk
  obtain _ | ⟨h1, h2⟩ := hv; cases h2
  obtain ⟨a, vs, rfl, ⟨o, ho, hc, n, hd⟩, hr⟩ := S.hlz h1
  refine of (call_list_seq a (.inl rfl) ho hc hd (fun h' c' hk he => ?_) (by rw [List.size_toArray, hr.length, sizeLine_eq]; omega))
  exact ⟨_, z, _, Le.refl z, S.growT (n := s.toks) hk (BA.none_of_ge _) he (.list hr), .ref _, q _⟩
theorem Cl.listA {a : Addr} {xs : List V} (h : (a, .list xs) ∈ H) (hz : xs.length ≤ 1000000) (q : ∀ a, Q (.ref a) ((a, .list xs) :: H)) : Cl c (.ty "list") [.ref a] [] ρ H Q X := fun z s vf vs ks S hf hv hk => by
  cases hf; cases hk
  obtain _ | ⟨h1, h2⟩ := hv; cases h2; cases h1
  obtain ⟨vs, ⟨o, ho, hc, n, hd⟩, hr⟩ := S.hl h
  refine of (call_list_seq a (.inl rfl) ho hc hd (fun h' c' hk he => ?_) (by rw [List.size_toArray, hr.length, sizeLine_eq]; omega))
  exact ⟨_, z, _, Le.refl z, S.growT (n := s.toks) hk (BA.none_of_ge _) he (.list hr), .ref _, q _⟩
-- methods of lists
theorem Mt.list {a : Addr} {xs : List V} {name : Str} {id : String} (h : (a, .list xs) ∈ H) (slot : Slot "list" name id) (ty : typeOf (.builtin id) = pure (.type "method_descriptor")) : Mt c H (.ref a) name (.bi id) [.ref a] := fun z ρ s v pl Q E S hv q => by
  cases hv
  obtain ⟨o, ho, r⟩ := S.own _ h
  cases r with
  | list r =>
    refine getMethod_builtin ⟨_, ho, rfl⟩ PySem.F.plainAttrs_list slot ty (fun b hb => ?_) (by simpa using q _ _ s.toks (.bi _) (.cons (.ref _) .nil))
    cases hb
    exact ⟨_, ho, rfl⟩
theorem Cl.append {a : Addr} {xs : List V} {y : V} {H' : Hp} (U : Upd a (.list xs) (.list (xs ++ [y])) H H') (hz : xs.length ≤ 1000000) (q : Q .none H') : Cl c (.bi "list.append") [.ref a, y] [] ρ H Q X := fun z s vf vs ks S hf hv hk => by
  cases hf; cases hk
  obtain _ | ⟨h1, h2⟩ := hv
  obtain _ | ⟨h2, h3⟩ := h2; cases h3; cases h1
  exact of (append_St S U h2 (by rw [sizeLine_eq]; omega) fun s' S' => ⟨_, z, H', Le.refl z, S', .none, q⟩)
theorem Cl.pop0 {a : Addr} {x : V} {xs : List V} {H' : Hp} (U : Upd a (.list (x :: xs)) (.list xs) H H') (hz : xs.length ≤ 1000000) (q : Q x H') : Cl c (.bi "list.pop") [.ref a, .int 0] [] ρ H Q X := fun z s vf vs ks S hf hv hk => by
  cases hf; cases hk
  obtain _ | ⟨h1, h2⟩ := hv
  obtain _ | ⟨h2, h3⟩ := h2; cases h3; cases h1; cases h2
  obtain ⟨o, ho, r⟩ := S.own _ U.mem
  cases r with
  | list r =>
    cases r with
    | cons r1 r2 =>
      rename_i n v vs
      have hl := r2.length
      refine of (call_meets PySem.F.slot_list_pop ⟨_, ho, rfl⟩ PySem.F.entry_list_pop (PySem.F.args_list_pop_2 _ _)
        (MeetsSeq.list_pop_at a (v :: vs).toArray n 0 _ 0 v (by decide) (by simp [seqIndex?]) (by simp) (by rw [List.size_toArray, List.length_cons, sizeLine_eq]; omega)) ⟨ho, ?_⟩)
      refine ⟨_, z, H', Le.refl z, S.upd (n := s.toks) U (Heap.SameBut.update ..) (Heap.get?_update_self (Obj.mapSeq fun xs => xs.eraseIdxIfInBounds 0) ho rfl) ?_, r1, q⟩
      have e : ((v :: vs).toArray.eraseIdxIfInBounds 0) = vs.toArray := by simp [Array.eraseIdxIfInBounds]
      show OR c.P z (.list xs) { cls := .type "list", data := .seq ((v :: vs).toArray.eraseIdxIfInBounds 0) _ }
      rw [e]
      exact .list r2
theorem Cl.insert0 {a : Addr} {y : V} {xs : List V} {H' : Hp} (U : Upd a (.list xs) (.list (y :: xs)) H H') (hz : xs.length ≤ 1000000) (q : Q .none H') : Cl c (.bi "list.insert") [.ref a, .int 0, y] [] ρ H Q X := fun z s vf vs ks S hf hv hk => by
  cases hf; cases hk
  obtain _ | ⟨h1, h2⟩ := hv
  obtain _ | ⟨h2, h3⟩ := h2; cases h1; cases h2
  obtain _ | ⟨h3, h4⟩ := h3; cases h4
  obtain ⟨o, ho, r⟩ := S.own _ U.mem
  cases r with
  | list r =>
    rename_i vs n
    have hl := r.length
    refine of (call_meets PySem.F.slot_list_insert ⟨_, ho, rfl⟩ PySem.F.entry_list_insert (PySem.F.args_list_insert_3 _ _ _)
      (AutoListH.list_insert_list_int_val_1 a vs.toArray n 0 _ _ (by decide) (by rw [List.size_toArray, sizeLine_eq]; omega)) ⟨ho, ?_⟩)
    refine ⟨_, z, H', Le.refl z, S.upd (n := s.toks) U (Heap.SameBut.update ..) (Heap.get?_update_self (Obj.mapSeq _) ho rfl) ?_, .none, q⟩
    have e : ∀ k : Nat, OR c.P z (.list (y :: xs)) { cls := .type "list", data := .seq ((vs.toArray.extract 0 (min (Int.toNat 0) vs.toArray.size)).push _ ++ vs.toArray.extract (min (Int.toNat 0) vs.toArray.size)) k } := fun k => by
      have e : ∀ v : Value, (vs.toArray.extract 0 (min (Int.toNat 0) vs.toArray.size)).push v ++ vs.toArray.extract (min (Int.toNat 0) vs.toArray.size) = (v :: vs).toArray := fun v => by simp
      rw [e]
      exact .list (.cons h3 r)
    exact e _
end
end
section

theorem call_lookup_method : typeLookup (.type "method") "__call__" = pure (some (.builtin "method.__call__")) := by rw [typeLookup_type, builtinLookup_eq_fast]; kernel_rfl
theorem call_lookup_type : typeLookup (.type "type") "__call__" = pure (some (.builtin "type.__call__")) := by rw [typeLookup_type, builtinLookup_eq_fast]; kernel_rfl
theorem kind_callable : builtinKind "callable" = none := by decide +kernel
theorem plain_callable : plainId "callable" = true := by decide +kernel
theorem entry_callable : entryFor table "callable" = some Builtin.«callable» := entryFor_of_tree (by kernel_rfl)
theorem args_callable (a : Value) : argsOk "callable" ⟨[a], []⟩ := by unfold argsOk; kernel_rfl

section
variable {c : Cx} {ρ : Loc} {H : Hp} {Q : V → Hp → Prop} {X : XP}
-- lists put together
def lsOf (H : Hp) (v : V) (xs : List V) : Prop := v = .lst xs ∨ ∃ a, v = .ref a ∧ (a, .list xs) ∈ H
theorem lsOf.lst {xs : List V} : lsOf H (.lst xs) xs := .inl rfl
theorem lsOf.list {a : Addr} {xs : List V} (h : (a, .list xs) ∈ H) : lsOf H (.ref a) xs := .inr ⟨a, rfl, h⟩
theorem lsOf.get {z : FZ} {s : Shared} {v : V} {val : Value} {xs : List V} (h : lsOf H v xs) (S : St c z ρ H s) (hv : VR z v val) : ∃ a vs, val = .ref a ∧ s.heap.IsList a vs.toArray ∧ VRs z xs vs := by
  rcases h with rfl | ⟨a, rfl, h⟩
  · exact S.hlz hv
  · cases hv
    obtain ⟨vs, hl, hr⟩ := S.hl h
    exact ⟨a, vs, rfl, hl, hr⟩
theorem addLists {v w : V} {xs ys : List V} (h1 : lsOf H v xs) (h2 : lsOf H w ys) (hz : xs.length + ys.length ≤ 1000000) (q : Q (.lst (xs ++ ys)) H) : Do2 c v w (binaryOp .Add) ρ H Q X := fun z s vv vw S hv hw => by
  obtain ⟨l, vs, rfl, hl, hr⟩ := h1.get S hv
  obtain ⟨b, ws, rfl, hb, hs⟩ := h2.get S hw
  obtain ⟨⟨cls, dd, data, sl⟩, ho, hc, n, hd⟩ := id hl
  obtain ⟨⟨cls2, dd2, data2, sl2⟩, ho2, hc2, n2, hd2⟩ := id hb
  simp only at hc hd hc2 hd2
  subst hc hd hc2 hd2
  have e : vs.toArray ++ ws.toArray = (vs ++ ws).toArray := by simp
  have l1 := hr.length
  have l2 := hs.length
  refine of (concat_meets ⟨_, ho, rfl⟩ ⟨_, ho2, rfl⟩ noFill_list_add seq_list_add PySem.F.slot_list_add PySem.F.entry_list_add (PySem.F.args_list_add_2 _ _)
    (list_addW l b vs.toArray ws.toArray n n2 dd dd2 sl sl2 (by rw [List.size_toArray, List.size_toArray, sizeLine_eq]; omega)) ⟨ho, ho2, ?_⟩)
  rw [e]
  exact ⟨_, _, H, FZ.put_le S.fresh, S.pushZ (n := s.toks) { cls := .type "list", data := .seq (vs ++ ws).toArray } rfl, .lst (n := 0) (FZ.put_self ..) rfl rfl ((hr.append hs).mono (FZ.put_le S.fresh)), q⟩
theorem VRs.rep {z : FZ} {x : V} {v : Value} (h : VR z x v) : ∀ n, VRs z (List.replicate n x) (List.replicate n v)
  | 0 => .nil
  | n + 1 => .cons h (VRs.rep h n)
theorem mulList {a : Addr} {x : V} {n : Int} (h : (a, .list [x]) ∈ H) (h0 : 0 ≤ n) (hn : n ≤ 1000000) (q : Q (.lst (List.replicate n.toNat x)) H) : Do2 c (.ref a) (.int n) (binaryOp .Mult) ρ H Q X := fun z s vv vw S hv hw => by
  cases hv; cases hw
  rename_i t
  obtain ⟨o, hl, r⟩ := S.own _ h
  cases r with
  | list r =>
    obtain _ | ⟨r1, r2⟩ := r
    cases r2
    rename_i k v
    refine of (wpAny_binaryOp_repeat_ref (T := "list") (U := "int") (by decide) ⟨_, hl, rfl⟩ (fun s' => typeIs_int s' n t) noFill_list_mul PySem.F.fills_int_mul PySem.F.slot_int_rmul repeat_list PySem.F.slot_int_index.lookup
      (call_meets PySem.F.slot_int_rmul (typeIs_int s n t) PySem.F.entry_int_rmul (PySem.F.args_int_rmul_2 _ _) (int___rmul___int_list n t a [v].toArray k)
        ⟨hl, rfl, ⟨_, hl, rfl⟩, call_meets PySem.F.slot_list_mul ⟨_, hl, rfl⟩ PySem.F.entry_list_mul (PySem.F.args_list_mul_2 _ _)
          (AutoListH.list___mul___list_int_3 a [v].toArray k n t (by simp [Builtin.List.listFitsIndex]; omega) (by simp; omega) (by simp [Builtin.List.listTooLong, sizeLine]; omega))
          ⟨hl, ?_⟩⟩))
    have e : List.foldl (fun x1 x2 => x1 ++ x2) #[] (List.replicate (if ([v].toArray : Array Value).isEmpty = true then 0 else n.toNat) [v].toArray) = (List.replicate n.toNat v).toArray := by
      rw [if_neg (by simp)]
      have key : ∀ (k : Nat) (acc : Array Value), List.foldl (fun x1 x2 => x1 ++ x2) acc (List.replicate k [v].toArray) = acc ++ (List.replicate k v).toArray := by
        intro k
        induction k with
        | zero => intro acc; simp
        | succ k ih => intro acc; rw [List.replicate_succ, List.foldl_cons, ih, List.replicate_succ]; apply Array.ext'; simp
      rw [key]; simp
    rw [e]
    exact ⟨_, _, H, FZ.put_le S.fresh, S.pushZ (n := s.toks) { cls := .type "list", data := .seq (List.replicate n.toNat v).toArray } rfl, .lst (n := 0) (FZ.put_self ..) rfl rfl ((VRs.rep r1 _).mono (FZ.put_le S.fresh)), q⟩
-- a method that is not called
def isMeth (o : Obj) : Prop := o.cls = .type "method"
def boundOK (K : Frag) (C : Addr) (name : Str) (f : Addr) : Bool := plainGet K C name && hasDictIn K C && findIn K (.ref C) name == some (some (.ref f)) && isFn K (.ref f) && specialIn K (.ref f) "__get__" == some (some (.builtin "function.__get__")) && takesIn K (.ref f) == some false && !copiedNames.contains name
theorem Is.bound {a C d f : Addr} {es : List (Str × V)} {name : Str} (hi : (a, .inst C d) ∈ H) (hd : (d, .dict es) ∈ H) (hm : name ∉ es.map (·.1)) (hk : boundOK c.K C name f = true) (q : ∀ m, Q (.ref m) ((m, .prop isMeth) :: H)) :
    Do1 c (.ref a) (fun o => getAttr o name true) ρ H Q X := fun z s o S ho => by
  cases ho
  simp only [boundOK, Bool.and_eq_true, beq_iff_eq, Bool.not_eq_true'] at hk
  obtain ⟨⟨⟨⟨⟨⟨k1, k2⟩, k3⟩, k4⟩, k5⟩, k6⟩, k7⟩ := hk
  obtain ⟨ds, n, I, _, r, nd⟩ := S.inst hi hd
  refine of (get_bind S.kin I (plainGet_of k1).1 (findObj_fn k2 k3 k5 k6 k7 (by show lookIn name (dictOf ds n) = _; rw [lookIn_dict, r.getL_none hm])) (plainGet_of k1).2
    (wpAny_call (fn_get (s := { s with toks := s.toks + 1 }) S.kin (beq_iff_eq.mp k4) (handed_on rfl ?_))))
  exact ⟨_, z, _, Le.refl z, S.pushT (n := s.toks + 1) (o := methodObj (.ref f) (.ref a)) (ob := .prop isMeth) (.prop (show isMeth (methodObj (.ref f) (.ref a)) from rfl)) rfl, .ref _, q _⟩
theorem callable_of {v : Value} {T : String} {g : Value} {E : Value → Shared → Prop} {Q : Value → Shared → Prop} {s : Shared} {prog : Program} {w : World} {A : Around} (hT : s.TypeIs v T) (hl : typeLookup (.type T) "__call__" = pure (some g)) (q : Q (.bool true) s) :
    wpAny (model prog w) A (call (.builtin "callable") [v]) Q E s := by
  refine call_function_meets kind_callable plain_callable entry_callable (args_callable v) (S := fun _ R s => s.TypeIs v T ∧ R (.ok (.ret (.bool true))) s) (.of_wp fun prog w A R s hS => ?_) ⟨hT, q⟩
  show wpAny _ _ (specialOf v "__call__" >>= fun r => ret (.bool r.isSome)) _ _ s
  exact wpAny_bind (wpAny_specialOf hS.1 hl (wpAny_pure ⟨_, rfl, hS.2⟩))
theorem Cl.callableM {m : Addr} (h : (m, .prop isMeth) ∈ H) (q : Q (.bool true) H) : Cl c (.bi "callable") [.ref m] [] ρ H Q X := fun z s vf vs ks S hf hv hk => by
  cases hf; cases hk
  obtain _ | ⟨h1, h2⟩ := hv; cases h1; cases h2
  obtain ⟨o, ho, hp⟩ := S.prop h
  exact of (callable_of ⟨o, ho, hp⟩ call_lookup_method (postV (n := s.toks) S (.bool _) q))
theorem Cl.callableC {C : Addr} (h : typeIn c.K (.ref C) = some (.type "type")) (q : Q (.bool true) H) : Cl c (.bi "callable") [.ref C] [] ρ H Q X := fun z s vf vs ks S hf hv hk => by
  cases hf; cases hk
  obtain _ | ⟨h1, h2⟩ := hv; cases h1; cases h2
  obtain ⟨o, ho, hc⟩ := Option.map_eq_some_iff.mp h
  exact of (callable_of ⟨o, S.kin _ _ ho, hc⟩ call_lookup_type (postV (n := s.toks) S (.bool _) q))
end
end
section

theorem forR {β : Type} {M : Model} {A : Around} {E : Value → Shared → Prop} {f : Nat → β → Sem (ForInStep β)} {Q : β → Shared → Prop} (n : Nat) (I : Nat → β → Shared → Prop)
    (turn : ∀ i b s, i < n → I i b s → wpAny M A (f i b) (fun r s' => ∃ b', r = .yield b' ∧ I (i + 1) b' s') E s) (fin : ∀ b s, I n b s → Q b s) {b : β} {s : Shared} (h : I 0 b s) : wpAny M A (forIn [0:n] b f) Q E s := by
  rw [Std.Legacy.Range.forIn_eq_forIn_range']
  have hsz : ([0:n] : Std.Legacy.Range).size = n := by simp [Std.Legacy.Range.size]
  show wpAny M A (forIn (List.range' 0 ([0:n] : Std.Legacy.Range).size 1) b f) Q E s
  rw [hsz]
  have key : ∀ (k i : Nat) (b : β) (s : Shared), i + k = n → I i b s → wpAny M A (forIn (List.range' i k 1) b f) Q E s := by
    intro k
    induction k with
    | zero => intro i b s hi hI; exact wpAny_pure (fin b s (by rw [← hi]; exact hI))
    | succ k ih =>
      intro i b s hi hI
      rw [List.range'_succ, List.forIn_cons]
      refine wpAny_bind (wpAny_mono (turn i b s (by omega) hI) (fun r s' hr => ?_) fun _ _ x => x)
      obtain ⟨b', rfl, hI'⟩ := hr
      exact ih (i + 1) b' s' (by omega) hI'
  exact key n 0 b s (by omega) h

namespace BJ
theorem slot : Slot "bytes" "join" "bytes.join" :=
  .of (owner := "bytes") (n := "join") (by rw [typeLookup_type, builtinLookup_eq_fast]; kernel_rfl) (by decide +kernel) (by decide +kernel) (by decide +kernel)
    (by first | exact .inl (by decide +kernel) | exact .inr (by decide +kernel)) (by rw [isSubtype_type]; kernel_rfl)
theorem ty : typeOf (.builtin "bytes.join") = pure (.type "method_descriptor") := by show builtinType _ = _; rw [builtinType_eq_fast]; kernel_rfl
theorem entry : entryFor table "bytes.join" = some Builtin.«bytes.join» := entryFor_of_tree (by kernel_rfl)
theorem args (a b : Value) : argsOk "bytes.join" ⟨[a, b], []⟩ := by unfold argsOk; kernel_rfl
theorem take_eq {id : String} {b : Array UInt8} {t : Tok} : Builtin.Bytes.takeBufferQuiet? id (.bytes b t) 0 = pure (some (b, none)) := by
  unfold Builtin.Bytes.takeBufferQuiet? Builtin.Bytes.takeBuffer?
  have bq : ∀ f, Builtin.Bytes.buffer? id (.bytes b t) f = pure (some b) := fun f => by
    unfold Builtin.Bytes.buffer?
    rw [KBy.special_eq KBy.look_buffer, KBy.own_buffer, KBy.own_release]
    kernel_rfl
  rw [KBy.special_eq KBy.look_buffer, KBy.own_buffer, bq]
  first | rfl | kernel_rfl

inductive Bs : List (Array UInt8) → List Value → Prop
  | nil : Bs [] []
  | cons {b : Array UInt8} {t : Tok} {bs : List (Array UInt8)} {vs : List Value} : Bs bs vs → Bs (b :: bs) (.bytes b t :: vs)
theorem Bs.length : ∀ {bs : List (Array UInt8)} {vs : List Value}, Bs bs vs → vs.length = bs.length
  | _, _, .nil => rfl
  | _, _, .cons r => by simp [r.length]
theorem Bs.get : ∀ {bs : List (Array UInt8)} {vs : List Value}, Bs bs vs → ∀ i, i < bs.length → ∃ b t, bs[i]? = some b ∧ vs[i]? = some (.bytes b t)
  | _, _, .nil, i, h => by simp at h
  | _, _, .cons r, 0, _ => ⟨_, _, rfl, rfl⟩
  | _, _, .cons r, i + 1, h => by
    obtain ⟨b, t, h1, h2⟩ := Bs.get r i (by simpa using h)
    exact ⟨b, t, by simpa using h1, by simpa using h2⟩
def cat (bs : List (Array UInt8)) : Array UInt8 := bs.foldl (· ++ ·) #[]
theorem cat_size (bs : List (Array UInt8)) : (cat bs).size = (bs.map Array.size).sum := by
  unfold cat
  have key : ∀ (l : List (Array UInt8)) (acc : Array UInt8), (l.foldl (· ++ ·) acc).size = acc.size + (l.map Array.size).sum := by
    intro l
    induction l with
    | nil => intro acc; simp
    | cons x r ih => intro acc; rw [List.foldl_cons, ih, List.map_cons, List.sum_cons, Array.size_append]; omega
  rw [key]; simp
theorem joined_eq (bs : List (Array UInt8)) : Builtin.Bytes.joined #[] bs = cat bs := by
  unfold Builtin.Bytes.joined cat
  have key : ∀ (l : List (Array UInt8)) (k : Nat) (acc : Array UInt8), (l.zipIdx k).foldl (fun out (p, i) => (if i > 0 then out ++ #[] else out) ++ p) acc = l.foldl (· ++ ·) acc := by
    intro l
    induction l with
    | nil => intro k acc; rfl
    | cons x r ih =>
      intro k acc
      rw [List.zipIdx_cons, List.foldl_cons, List.foldl_cons, ih]
      congr 1
      show (if k > 0 then acc ++ #[] else acc) ++ x = acc ++ x
      split <;> simp
  exact key bs 0 #[]

section
variable {prog : Program} {w : World} {A : Around} {E : Value → Shared → Prop} {s : Shared}
theorem items_ {a : Addr} {vs : List Value} {Q : Option (Array Value) → Shared → Prop} (hl : s.heap.IsList a vs.toArray) (q : Q (some vs.toArray) s) : wpAny (model prog w) A (seqItems? (.ref a)) Q E s := by
  obtain ⟨o, ho, hc, n, hd⟩ := hl
  unfold seqItems?
  refine wpAny_bind (wpAny_load ho ?_)
  rw [hd]
  exact wpAny_pure q
theorem letGo_ : ∀ (taken : List (Value × Option Value)) (keep : List Value) {Q : Unit → Shared → Prop}, (∀ x ∈ taken, x.2 = none) → Q () s → wpAny (model prog w) A (Builtin.Bytes.joinLetGo taken keep) Q E s
  | [], _, _, _, q => wpAny_pure q
  | (x, u) :: rest, keep, Q, h, q => by
    have : u = none := h _ (.head _)
    subst this
    unfold Builtin.Bytes.joinLetGo
    exact wpAny_bind (wpAny_letGo (letGo_ rest keep (fun y hy => h y (.tail _ hy)) q))
/-- what the loop of a join keeps, whatever its turn is written as -/
theorem loop_ {β : Type} {M : Model} {A : Around} {E : Value → Shared → Prop} {s : Shared} {vs : List Value} {bs : List (Array UInt8)} {F : Nat → Array (Array UInt8) × List (Value × Option Value) → Sem (ForInStep (Array (Array UInt8) × List (Value × Option Value)))}
    {T : Array (Array UInt8) × List (Value × Option Value) → Sem β} {Q : β → Shared → Prop} (hb : Bs bs vs) (hz : (cat bs).size ≤ 16777216)
    (turn : ∀ i b0 t0 b, vs.toArray.getD i .none = .bytes b0 t0 → (b.2.any fun x => x.1.onHeap) = false → wpAny M A (F i b) (fun r s' => r = .yield ⟨b.1.push b0, b.2 ++ [(.bytes b0 t0, none)]⟩ ∧ s' = s) E s)
    (fin : ∀ b, Builtin.Bytes.tooLong (b.1.foldl (fun n x => n + x.size) ((#[] : Array UInt8).size * (b.1.size - 1))) = false → Builtin.Bytes.joined #[] b.1.toList = cat bs → (∀ x ∈ b.2, x.2 = none) → wpAny M A (T b) Q E s) :
    wpAny M A (forIn [0:vs.toArray.size] (#[], []) F >>= T) Q E s := by
  have hlen := hb.length
  refine wpAny_bind ?_
  refine forR vs.toArray.size (fun i b s' => s' = s ∧ b.1 = (bs.take i).toArray ∧ (∀ x ∈ b.2, x.2 = none ∧ x.1.onHeap = false)) (fun i b s' hi hI => ?_) (fun b s' hI => ?_) ⟨rfl, by simp, fun x hx => by cases hx⟩
  · obtain ⟨rfl, hp, ht⟩ := hI
    obtain ⟨b0, t0, g1, g2⟩ := hb.get i (by rw [← hlen]; simpa using hi)
    refine wpAny_mono (turn i b0 t0 b (by rw [Array.getD_eq_getD_getElem?]; simp [g2]) ?_) (fun r s' hr => ?_) fun _ _ x => x
    · rw [List.any_eq_false]
      intro x hx'
      rw [(ht x hx').2]; decide
    · obtain ⟨rfl, rfl⟩ := hr
      refine ⟨_, rfl, rfl, ?_, ?_⟩
      · show b.1.push b0 = _
        rw [hp, List.push_toArray, List.take_add_one, g1]; simp
      · intro x hx'
        rcases List.mem_append.mp hx' with h | h
        · exact ht x h
        · rw [List.mem_singleton.mp h]; exact ⟨rfl, rfl⟩
  · obtain ⟨rfl, hp, ht⟩ := hI
    have hp' : b.1 = bs.toArray := by rw [hp, List.take_of_length_le (by rw [List.size_toArray, hlen]; exact Nat.le_refl _)]
    have hfold : Array.foldl (fun n x => n + x.size) ((#[] : Array UInt8).size * (b.1.size - 1)) b.1 = (cat bs).size := by
      rw [hp', cat_size]
      simp
      have key : ∀ (l : List (Array UInt8)) (n : Nat), l.foldl (fun n x => n + x.size) n = n + (l.map Array.size).sum := by
        intro l
        induction l with
        | nil => intro n; simp
        | cons x r ih => intro n; rw [List.foldl_cons, ih, List.map_cons, List.sum_cons]; omega
      rw [key]; simp
    refine fin b (by rw [hfold]; exact KBy.tooLong_not hz) (by rw [hp']; exact joined_eq bs) fun x hx => (ht x hx).1
set_option maxHeartbeats 1000000 in
theorem join_ {a : Addr} {vs : List Value} {bs : List (Array UInt8)} {t : Tok} {Q : Value → Shared → Prop} (hl : s.heap.IsList a vs.toArray) (hb : Bs bs vs) (hz : (cat bs).size ≤ 16777216) (q : ∀ t k, Q (.bytes (cat bs) t) { s with toks := k }) :
    wpAny (model prog w) A (call (.builtin "bytes.join") [.bytes #[] t, .ref a]) Q E s := by
  refine call_meets slot (typeIs_bytes _ _ _) entry (args _ _) (S := fun _ R s => s.heap.IsList a vs.toArray ∧ ∀ t k, R (.ok (.ret (.bytes (cat bs) t))) { s with toks := k }) (.of_wp fun prog w A R s hS => ?_) ⟨hl, q⟩
  obtain ⟨hl, hq⟩ := hS
  show wpAny _ _ (Builtin.Bytes.joinM .bytes ⟨[.bytes #[] t, .ref a], []⟩) _ _ s
  unfold Builtin.Bytes.joinM
  dsimp only
  refine wpAny_bind (wpAny_of_eq (a := (Value.bytes #[] t, Value.ref a)) (by first | rfl | kernel_rfl) ?_)
  dsimp only
  refine wpAny_ite (show if (Builtin.Bytes.Kind.bytes == Builtin.Bytes.Kind.bytes) = true then _ else _ from ?_)
  rw [if_pos (by decide)]
  refine wpAny_bind ?_
  unfold Builtin.Bytes.joinItems
  refine wpAny_bind (wpAny_typeOf hl.typeIs ?_)
  refine wpAny_ite ?_
  rw [if_pos (by decide)]
  refine wpAny_pure ?_
  refine wpAny_bind (items_ hl ?_)
  dsimp only
  refine wpAny_ite ?_
  rw [if_pos (by decide)]
  have hb0 := hb
  have one : ∀ b u, vs = [.bytes b u] → cat bs = b := fun b u e => by
    subst e
    cases hb with
    | cons r => cases r; simp [cat]
  cases hb with
  | nil => ?_
  | cons r => ?_
  rotate_left
  cases r
  · rename_i b u _hh
    rw [one b u rfl] at hq
    refine wpAny_bind (wpAny_of_eq (a := Value.type "bytes") rfl ?_)
    refine bm_if_true (by decide) ?_
    exact wpAny_bind (wpAny_rule (wpAny_pure ⟨_, rfl, hq _ s.toks⟩))
  all_goals
    refine loop_ hb0 hz (fun i b0 t0 b hx hany => ?_) fun b hl1 hj ht => ?_
    · refine wpAny_bind (items_ hl ?_)
      dsimp only
      simp only [show (Builtin.Bytes.Kind.bytes == Builtin.Bytes.Kind.bytearray) = false from by decide, Bool.false_or, hx, hany, Bool.false_eq_true, if_false]
      refine wpAny_bind (wpAny_holding (wpAny_of_eq take_eq ?_))
      dsimp only
      refine wpAny_bind (items_ hl ?_)
      dsimp only
      simp only [bne_self_eq_false, Bool.false_eq_true, if_false]
      exact wpAny_pure ⟨rfl, rfl⟩
    · refine wpAny_bind (wpAny_of_eq (a := (#[] : Array UInt8)) (by first | rfl | kernel_rfl) ?_)
      refine wpAny_ite ?_
      rw [if_neg (by rw [hl1]; decide), hj]
      refine wpAny_bind (wpAny_mkBytes ?_ (by rw [sizeLine_eq]; omega))
      refine wpAny_bind (wpAny_holding (wpAny_point ?_))
      refine wpAny_bind (letGo_ _ _ ht ?_)
      exact wpAny_pure ⟨_, rfl, hq _ _⟩
end
end BJ
end
section
open PySem.SeqAt (EqAt RcAt RcNeAt)

/-- values that are compared piece by piece -/
inductive VD : Nat → V → Prop
  | none {n : Nat} : VD n .none
  | bool {n : Nat} (b : Bool) : VD n (.bool b)
  | int {n : Nat} (i : Int) : VD n (.int i)
  | str {n : Nat} (x : Str) : VD n (.str x)
  | bytes {n : Nat} (b : Array UInt8) : VD n (.bytes b)
  | tup {n : Nat} {xs : List V} (h : ∀ x ∈ xs, VD n x) : VD (n + 1) (.tup xs)
  | lst {n : Nat} {xs : List V} (h : ∀ x ∈ xs, VD n x) : VD (n + 1) (.lst xs)

theorem eqBytes (b : Array UInt8) (t u : Tok) (A : Around) (s : Shared) : EqAt A s (.bytes b t) (.bytes b u) true := fun prog w E Q hq => by
  unfold eqBool
  refine wpAny_holding ?_
  refine wpAny_ite_split (fun _ => wpAny_bind (wpAny_rule (wpAny_pure hq))) (fun _ => ?_)
  refine wpAny_bind (richCompare_gives (op := .Eq) (typeIs_bytes s b t) (typeIs_bytes s b u) FB.slot_bytes_eq FB.entry_bytes_eq (FB.args_bytes_eq_2 _ _) (gives_bytes_eq b b t u) (by simp [Made.takes]) ?_)
  show wpAny _ _ (truthOfDropped (.bool (b.toList == b.toList))) _ _ _
  rw [beq_self_eq_true]
  exact wpAny_truthy_bool hq
theorem all_true {n : Nat} : (List.range n).all (fun _ => true) = true := by simp
theorem VRs.getI {z : FZ} {xs : List V} {vs : List Value} (h : VRs z xs vs) {j : Nat} (hj : j < vs.toArray.size) : ∃ x, x ∈ xs ∧ xs[j]? = some x ∧ VR z x vs.toArray[j] := by
  have hl := h.length
  rw [List.size_toArray] at hj
  obtain ⟨v, e, r⟩ := h.get (i := j) (x := xs[j]'(by omega)) (List.getElem?_eq_getElem (by omega))
  have : vs.toArray[j] = v := by
    rw [List.getElem?_eq_getElem hj] at e
    simpa using e
  exact ⟨_, List.getElem_mem (by omega), List.getElem?_eq_getElem (by omega), this ▸ r⟩
theorem eqV {z : FZ} {s : Shared} (hz : ∀ b o, z b = some o → s.heap.get? b = some o) : ∀ (n : Nat) {A : Around} {v : V} {a b : Value}, VD n v → A.units + n < cLine → VR z v a → VR z v b → EqAt A s a b true := by
  intro n
  induction n with
  | zero =>
    intro A v a b hd hu ha hb
    cases hd with
    | none => cases ha; cases hb; exact .same _
    | bool => cases ha; cases hb; exact .same _
    | int i => cases ha; cases hb; simpa using EqAt.int_int (A := A) (s := s) i _ i _
    | str x => cases ha; cases hb; simpa using EqAt.str_str (A := A) (s := s) x _ x _
    | bytes x => cases ha; cases hb; exact eqBytes x _ _ A s
  | succ n ih =>
    intro A v a b hd hu ha hb
    cases hd with
    | none => cases ha; cases hb; exact .same _
    | bool => cases ha; cases hb; exact .same _
    | int i => cases ha; cases hb; simpa using EqAt.int_int (A := A) (s := s) i _ i _
    | str x => cases ha; cases hb; simpa using EqAt.str_str (A := A) (s := s) x _ x _
    | bytes x => cases ha; cases hb; exact eqBytes x _ _ A s
    | tup h =>
      cases ha with
      | tup e1 c1 d1 r1 =>
        cases hb with
        | tup e2 c2 d2 r2 =>
          rename_i xs vs l o k ws m o2 k2
          by_cases hne : l = m
          · subst hne; exact .same _
          have hsz : vs.toArray.size = ws.toArray.size := by rw [List.size_toArray, List.size_toArray, r1.length, r2.length]
          have key := RcAt.tuples (A := A) (s := s) (e := fun _ => true) ⟨_, hz _ _ e1, c1, _, d1⟩ ⟨_, hz _ _ e2, c2, _, d2⟩ (by omega) fun j h1 h2 => by
            obtain ⟨x, hx, g1, q1⟩ := r1.getI h1
            obtain ⟨y, hy, g2, q2⟩ := r2.getI h2
            rw [g1] at g2; cases g2
            exact ih (h x hx) (by show A.units + 1 + n < cLine; omega) q1 q2
          rw [all_true, Bool.true_and, show (vs.toArray.size == ws.toArray.size) = true from by simp [hsz]] at key
          exact .of_refs hne key
    | lst h =>
      cases ha with
      | lst e1 c1 d1 r1 =>
        cases hb with
        | lst e2 c2 d2 r2 =>
          rename_i xs vs l o k ws m o2 k2
          by_cases hne : l = m
          · subst hne; exact .same _
          have hsz : vs.toArray.size = ws.toArray.size := by rw [List.size_toArray, List.size_toArray, r1.length, r2.length]
          have key := RcAt.lists (A := A) (s := s) (e := fun _ => true) ⟨_, hz _ _ e1, c1, _, d1⟩ ⟨_, hz _ _ e2, c2, _, d2⟩ hsz (by omega) fun j h1 h2 => by
            obtain ⟨x, hx, g1, q1⟩ := r1.getI h1
            obtain ⟨y, hy, g2, q2⟩ := r2.getI h2
            rw [g1] at g2; cases g2
            exact ih (h x hx) (by show A.units + 1 + n < cLine; omega) q1 q2
          rw [all_true] at key
          exact .of_refs hne key

section
variable {c : Cx} {H : Hp}
theorem Is.neTup {xs : List V} (h : ∀ x ∈ xs, VD 12 x) : Is2 c H (compareOp .NotEq) (.tup xs) (.tup xs) (.bool false) := fun z ρ s v w Q E S hv hw q => by
  obtain ⟨l, vs, rfl, hl, hr⟩ := S.htz hv
  obtain ⟨m, ws, rfl, hm, hs⟩ := S.htz hw
  have hu := S.ok.units
  have hsz : vs.toArray.size = ws.toArray.size := by rw [List.size_toArray, List.size_toArray, hr.length, hs.length]
  have key := RcNeAt.tuples (A := c.A) (s := s) (e := fun _ => true) hl hm S.small fun j h1 h2 => by
    obtain ⟨x, hx, g1, q1⟩ := hr.getI h1
    obtain ⟨y, hy, g2, q2⟩ := hs.getI h2
    rw [g1] at g2; cases g2
    exact eqV S.fin 12 (h x hx) (by show c.A.units + 1 + 12 < cLine; omega) q1 q2
  rw [all_true, Bool.true_and, show (vs.toArray.size == ws.toArray.size) = true from by simp [hsz]] at key
  exact key c.p c.w E Q (by simpa using q _ s.toks (.bool false))
theorem Is.eqList {v w : V} {xs : List V} (h1 : lsOf H v xs) (h2 : lsOf H w xs) (h : ∀ x ∈ xs, VD 12 x) : Is2 c H (compareOp .Eq) v w (.bool true) := fun z ρ s vv vw Q E S hv hw q => by
  obtain ⟨l, vs, rfl, hl, hr⟩ := h1.get S hv
  obtain ⟨m, ws, rfl, hm, hs⟩ := h2.get S hw
  have hu := S.ok.units
  have hsz : vs.toArray.size = ws.toArray.size := by rw [List.size_toArray, List.size_toArray, hr.length, hs.length]
  have key := RcAt.lists (A := c.A) (s := s) (e := fun _ => true) hl hm hsz S.small fun j h1 h2 => by
    obtain ⟨x, hx, g1, q1⟩ := hr.getI h1
    obtain ⟨y, hy, g2, q2⟩ := hs.getI h2
    rw [g1] at g2; cases g2
    exact eqV S.fin 12 (h x hx) (by show c.A.units + 1 + 12 < cLine; omega) q1 q2
  rw [all_true] at key
  exact key c.p c.w E Q (by simpa using q _ s.toks (.bool true))
theorem Is.neNil {v w : V} {xs : List V} (h1 : lsOf H v xs) (h2 : lsOf H w []) : Is2 c H (compareOp .NotEq) v w (.bool (decide (xs ≠ []))) := fun z ρ s vv vw Q E S hv hw q => by
  obtain ⟨l, vs, rfl, hl, hr⟩ := h1.get S hv
  obtain ⟨m, ws, rfl, hm, hs⟩ := h2.get S hw
  cases hs
  cases xs with
  | nil =>
    cases hr
    have key := RcNeAt.lists (A := c.A) (s := s) (e := fun _ => true) hl hm rfl S.small fun j h1 h2 => absurd h1 (by simp)
    exact key c.p c.w E Q (by simpa using q _ s.toks (.bool false))
  | cons x r =>
    cases hr
    exact RcNeAt.lists_lengths hl hm (by simp) S.small c.p c.w E Q (by simpa using q _ s.toks (.bool true))
end
end
section

/-- a dict with str keys, in the words of the library -/
inductive KV (z : FZ) : List (Str × V) → List (Str × Value) → Prop
  | nil : KV z [] []
  | cons {x : Str} {v : V} {val : Value} {es : List (Str × V)} {ks : List (Str × Value)} : VR z v val → KV z es ks → KV z ((x, v) :: es) ((x, val) :: ks)
theorem KV.keys {z : FZ} : ∀ {es : List (Str × V)} {ks : List (Str × Value)}, KV z es ks → ks.map (·.1) = es.map (·.1)
  | _, _, .nil => rfl
  | _, _, .cons _ r => by simp [r.keys]
theorem KV.length {z : FZ} {es : List (Str × V)} {ks : List (Str × Value)} (h : KV z es ks) : ks.length = es.length := by
  have := congrArg List.length h.keys
  simpa using this
theorem KV.snoc {z : FZ} {x : Str} {v : V} {val : Value} (h : VR z v val) : ∀ {es : List (Str × V)} {ks : List (Str × Value)}, KV z es ks → KV z (es ++ [(x, v)]) (ks ++ [(x, val)])
  | _, _, .nil => .cons h .nil
  | _, _, .cons h' r => .cons h' (KV.snoc h r)
theorem KV.mono {z z' : FZ} (le : Le z z') : ∀ {es : List (Str × V)} {ks : List (Str × Value)}, KV z es ks → KV z' es ks
  | _, _, .nil => .nil
  | _, _, .cons h r => .cons (h.mono le) (r.mono le)
theorem KV.get {z : FZ} : ∀ {es : List (Str × V)} {ks : List (Str × Value)}, KV z es ks → (es.map (·.1)).Nodup → ∀ {x : Str} {v : V}, (x, v) ∈ es → ∃ val, valueAt ks x = some val ∧ VR z v val
  | _, _, .nil, _, x, v, h => by cases h
  | _, _, .cons (x := y) (es := es) h r, nd, x, v, hm => by
    rw [List.map_cons, List.nodup_cons] at nd
    rcases List.mem_cons.mp hm with e | hm
    · cases e; exact ⟨_, by simp [valueAt], h⟩
    · have hne : y ≠ x := fun e => nd.1 (by rw [show ((y, _) : Str × V).1 = x from e]; exact List.mem_map_of_mem (f := (·.1)) hm)
      obtain ⟨val, e, q⟩ := r.get nd.2 hm
      refine ⟨val, ?_, q⟩
      unfold valueAt at e ⊢
      rw [List.find?_cons]
      simpa [hne] using e
theorem KV.at {z : FZ} : ∀ {es : List (Str × V)} {ks : List (Str × Value)}, KV z es ks → ∀ {i : Nat} {x : Str}, (es.map (·.1))[i]? = some x → ∃ val, ks[i]? = some (x, val)
  | _, _, .nil, i, x, h => by simp at h
  | _, _, .cons h r, 0, x, e => by simp at e; subst e; exact ⟨_, rfl⟩
  | _, _, .cons h r, i + 1, x, e => by
    obtain ⟨val, e'⟩ := r.at (i := i) (by simpa using e)
    exact ⟨val, by simpa using e'⟩
theorem isStrOf_eq {x : Str} {v : Value} (h : Value.isStrOf x v = true) : ∃ t, v = .str x t := Value.isStrOf_shape h
theorem DR.toKV {prog : Program} {w : World} {z : FZ} : ∀ {es : List (Str × V)} {ds : List DictEntry}, DR w.params z es ds → ∃ ks, KV z es ks ∧ Pairs (strKind prog w) ds ks ∧ ∀ e ∈ ds, ∃ k, (strKind prog w).is k e.key = true ∧ e.hash = (strKind prog w).hash k
  | _, _, .nil => ⟨[], .nil, .nil, fun e h => by cases h⟩
  | _, _, .cons (x := x) (t := t) (val := val) h r => by
    obtain ⟨ks, a, b, c⟩ := r.toKV (prog := prog) (w := w)
    refine ⟨(x, val) :: ks, .cons h a, .cons (strKind_is prog w x t) rfl b, fun e he => ?_⟩
    rcases List.mem_cons.mp he with rfl | he
    · exact ⟨x, strKind_is prog w x t, rfl⟩
    · exact c e he
theorem DR.ofKV {prog : Program} {w : World} {z : FZ} : ∀ {ds : List DictEntry} {es : List (Str × V)} {ks : List (Str × Value)}, KV z es ks → Pairs (strKind prog w) ds ks → (∀ e ∈ ds, ∃ k, (strKind prog w).is k e.key = true ∧ e.hash = (strKind prog w).hash k) → DR w.params z es ds
  | _, _, _, .nil, .nil, _ => .nil
  | _, _, _, .cons h a, .cons (e := e) hk hv b, c => by
    have r := DR.ofKV a b fun e he => c e (.tail _ he)
    obtain ⟨k, h1, h2⟩ := c e (.head _)
    obtain ⟨t, e1⟩ := isStrOf_eq hk
    obtain ⟨u, e2⟩ := isStrOf_eq h1
    obtain ⟨hs, key, val⟩ := e
    dsimp only at hk hv h1 h2 e1 e2
    subst e1
    injection e2 with e3
    subst e3 hv h2
    exact .cons h r

section
variable {c : Cx} {ρ : Loc} {H : Hp} {z : FZ} {s : Shared}
def isD (H : Hp) (a : Addr) (es : List (Str × V)) : Prop := (a, .dict es) ∈ H ∨ ∃ n, (a, .dictAt es n) ∈ H
theorem isD.get {a : Addr} {es : List (Str × V)} (h : isD H a es) (S : St c z ρ H s) : ∃ ds n ks, s.heap.get? a = some (dictOf ds n) ∧ KV z es ks ∧ s.heap.DictAt (strKind c.p c.w) a ks n ∧ (es.map (·.1)).Nodup := by
  have key : ∃ ds n, s.heap.get? a = some (dictOf ds n) ∧ DR c.P z es ds ∧ (es.map (·.1)).Nodup := by
    rcases h with h | ⟨n, h⟩
    · obtain ⟨o, e, r⟩ := S.own _ h
      cases r with
      | dict r nd => exact ⟨_, _, e, r, nd⟩
    · obtain ⟨o, e, r⟩ := S.own _ h
      cases r with
      | dictAt r nd => exact ⟨_, _, e, r, nd⟩
  obtain ⟨ds, n, e, r, nd⟩ := key
  obtain ⟨ks, a1, a2, a3⟩ := r.toKV (prog := c.p) (w := c.w)
  exact ⟨ds, n, ks, e, a1, ⟨_, ds.toArray, e, ⟨rfl, rfl, rfl⟩, rfl, fun e he => a3 e (by simpa using he), by simpa using a2, by rw [a1.keys]; exact nd⟩, nd⟩
end

section
variable {c : Cx} {ρ : Loc} {H : Hp} {Q : V → Hp → Prop} {X : XP}
theorem Ev.dictNew {pos : Pos} {C : Addr} {oC : Obj} (hC : c.K.lookup C = some oC) (h1 : sysModules ≤ C) (q : ∀ a, a ≠ sysModules → Q (.ref a) ((a, .dict []) :: H)) : Ev c (.Dict [] [] pos) ρ H Q X := fun z s S =>
  of (wpAny_Dict_empty ⟨_, z, _, Le.refl z, S.pushT (n := s.toks) (o := dictOf [] 0) (ob := .dict []) (.dict (n := 0) .nil List.nodup_nil) rfl, .ref _, q _ (fun e => by
    have h := Heap.lt_size (S.kin _ _ hC)
    rw [e] at h
    exact absurd h (Nat.not_lt.mpr h1))⟩)
theorem HasItem.dict {a : Addr} {es : List (Str × V)} (h : isD H a es) : HasItem c H (.ref a) "dict" "dict.__getitem__" := ⟨fun z ρ s v S hv => by cases hv; obtain ⟨ds, n, ks, e, _⟩ := h.get S; exact ⟨_, e, rfl⟩, slot_dict_getitem.lookup⟩
theorem It1.dict {a : Addr} {es : List (Str × V)} {x : Str} {v : V} (h : isD H a es) (hm : (x, v) ∈ es) (q : Q v H) : Do2 c (.ref a) (.str x) (fun o i => getItem o i) ρ H Q X := fun z s vo vi S ho hi => by
  cases ho; cases hi
  obtain ⟨ds, n, ks, e, kv, da, nd⟩ := h.get S
  obtain ⟨val, e1, r⟩ := kv.get nd hm
  exact of (wpAny_getItem_of (strKind_is _ _ _ _) da.dictOf.mapOf e1 (postV S r q))
/-- an entry of a dict -/
theorem Ex.setItem {o i e : Expr} {p' pos : Pos} {Q : Fl → Loc → Hp → Prop}
    (h : Ev c e ρ H (fun v H₁ => Ev c o ρ H₁ (fun o' H₂ => Ev c i ρ H₂ (fun i' H₃ => ∃ a es x H₄, o' = .ref a ∧ i' = .str x ∧ x ∉ es.map (·.1) ∧ es.length ≤ 1000 ∧ Upd a (.dict es) (.dict (es ++ [(x, v)])) H₃ H₄ ∧ Q .next ρ H₄) X) X) X)
    (hs : ∀ env, swapsWith e (some (.Subscript o i p')) pos.line env = pure false := by intro; rfl) : Ex c (.Assign [.Subscript o i p'] e pos) ρ H Q X := fun z s S => by
  rw [exec_Assign_Subscript o i p' e pos (hs _)]
  refine wpR_at (wpR_bind (wpR_mono (h z s S) (fun v s₁ ⟨v', z₁, H₁, le₁, S₁, r₁, h₁⟩ => ?_) fun _ _ x => x))
  rw [arm_assign_Subscript]
  refine wpR_bind (wpR_bind (wpR_holding (wpR_mono (h₁ z₁ s₁ S₁) (fun ov s₂ ⟨o', z₂, H₂, le₂, S₂, r₂, h₂⟩ => ?_) fun _ _ => PostX.le le₁)))
  refine wpR_bind (wpR_holding (wpR_mono (h₂ z₂ s₂ S₂) (fun iv s₃ ⟨i', z₃, H₃, le₃, S₃, r₃, a, es, x, H₄, e1, e2, hx, hl, U, q⟩ => ?_) fun _ _ => PostX.le (le₁.trans le₂)))
  subst e1; subst e2; cases r₂; cases r₃
  obtain ⟨ds, n, ks, e, kv, da, nd⟩ := isD.get (.inl U.mem) S₃
  refine wpR_at (wpR_bind (wpR_holding (of (wpAny_setItem_pairs (knd := strKind c.p c.w) (strKind_is _ _ _ _) da.dictOf (fun h' hd' hs' => ?_) (by rw [kv.length, sizeLine_eq]; omega)))))
  have hst : stored ks x v = ks ++ [(x, v)] := by
    unfold stored
    rw [if_neg]
    intro hany
    obtain ⟨p, hp, hp'⟩ := List.any_eq_true.mp hany
    have : p.1 = x := by simpa using hp'
    exact hx (by rw [← kv.keys, ← this]; exact List.mem_map_of_mem (f := (·.1)) hp)
  rw [hst] at hd'
  obtain ⟨⟨oc, od, odt, osl⟩, des, ep, ho, ⟨hc1, hc2, hc3⟩, hdt, hk, hp, hn⟩ := hd'
  dsimp only at hc1 hc2 hc3 hdt
  subst hc1 hc2 hc3 hdt
  have kv' : KV z₃ (es ++ [(x, v')]) (ks ++ [(x, v)]) := kv.snoc (r₁.mono (le₂.trans le₃))
  have dr : DR c.P z₃ (es ++ [(x, v')]) des.toList := DR.ofKV kv' hp fun e he => hk e (by simpa using he)
  have S₄ := S₃.upd (n := s₃.toks + 1) U hs' ho (by
    have := OR.dict (n := ep) dr (by rw [List.map_append, List.map_cons, List.map_nil]; exact List.nodup_append.mpr ⟨nd, by simp, fun a ha b hb => by rw [List.mem_singleton.mp hb]; exact fun e => hx (by rw [show x = a from e.symm]; exact ha)⟩)
    simpa [dictOf] using this)
  have fin : PostS c z Q .next { s₃ with heap := h', toks := s₃.toks + 1 } := ⟨.next, z₃, ρ, H₄, (le₁.trans le₂).trans le₃, S₄, .next, q⟩
  exact of (wpAny_release (of (wpAny_pure fin)))
/-- the epoch of a dict is fixed for a while -/
theorem St.epoch {z : FZ} {s : Shared} {a : Addr} {es : List (Str × V)} {H' : Nat → Hp} (S : St c z ρ H s) (U : ∀ n, Upd a (.dict es) (.dictAt es n) H (H' n)) : ∃ n, St c z ρ (H' n) s := by
  obtain ⟨o, e, r⟩ := S.own _ (U 0).mem
  cases r with
  | dict r nd =>
    rename_i ds n
    exact ⟨n, S.upd (n := s.toks) (U n) ⟨rfl, fun _ _ => rfl⟩ e (.dictAt r nd)⟩
theorem Exs.epoch {ss : List Stmt} {a : Addr} {es : List (Str × V)} {H' : Nat → Hp} {Q : Fl → Loc → Hp → Prop} (U : ∀ n, Upd a (.dict es) (.dictAt es n) H (H' n)) (h : ∀ n, Exs c ss ρ (H' n) Q X) : Exs c ss ρ H Q X := fun z s S => by
  obtain ⟨n, S'⟩ := S.epoch U
  exact h n z s S'
end

-- the keys of a dict
def keyIterAt (a : Addr) (k n : Nat) (i : Nat) (o : Obj) : Prop := o.cls = .type "dict_keyiterator" ∧ o.data = .fields #[.ref a, .int i 0, .int k 0, .int n 0]
theorem Iters.dict {a : Addr} {es : List (Str × V)} {n : Nat} : Iters (fun _ => True) (fun H => (a, .dictAt es n) ∈ H) (keyIterAt a es.length n) ((es.map (·.1)).map V.str) where
  mono := fun _ _ _ x => x
  cls := fun i o e => ⟨"dict_keyiterator", e.1, by decide⟩
  item := fun c hh i x hx z ρ H s I Q E S _ hC q => by
    obtain ⟨o, ho, h1, h2⟩ := S.prop (.head _)
    obtain ⟨ob, e, r⟩ := S.own _ (.tail _ hC)
    cases r with
    | dictAt r nd =>
      rename_i ds
      obtain ⟨ks, a1, a2, a3⟩ := r.toKV (prog := c.p) (w := c.w)
      have da : s.heap.DictAt (strKind c.p c.w) a ks n := ⟨_, ds.toArray, e, ⟨rfl, rfl, rfl⟩, rfl, fun e he => a3 e (by simpa using he), by simpa using a2, by rw [a1.keys]; exact nd⟩
      rw [List.getElem?_map] at hx
      obtain ⟨y, hy, rfl⟩ := Option.map_eq_some_iff.mp hx
      obtain ⟨val, hk⟩ := a1.at hy
      refine wpAny_pyNext_dict_item ⟨o, ho, h1, by rw [a1.length]; exact h2⟩ da hk fun key h' hkey ⟨o', ho', h1', h2'⟩ hs' => ?_
      obtain ⟨t, rfl⟩ := isStrOf_eq hkey
      exact q _ _ (S.setP (n := s.toks) hs' ho' ⟨h1', by rw [a1.length] at h2'; exact h2'⟩) (.str _ _)
  done := fun c hh z ρ H s I Q E S _ hC q => by
    obtain ⟨o, ho, h1, h2⟩ := S.prop (.head _)
    obtain ⟨ob, e, r⟩ := S.own _ (.tail _ hC)
    cases r with
    | dictAt r nd =>
      rename_i ds
      obtain ⟨ks, a1, a2, a3⟩ := r.toKV (prog := c.p) (w := c.w)
      have da : s.heap.DictAt (strKind c.p c.w) a ks n := ⟨_, ds.toArray, e, ⟨rfl, rfl, rfl⟩, rfl, fun e he => a3 e (by simpa using he), by simpa using a2, by rw [a1.keys]; exact nd⟩
      refine wpAny_pyNext_dict_end hh ⟨o, ho, h1, by rw [a1.length]; exact h2⟩ da (by simp [a1.length]) fun h' he => q _ (S.endP (n := s.toks) he)
  self := fun c i z ρ H s I Q E S q => by
    obtain ⟨o, ho, h1, h2⟩ := S.prop (.head _)
    exact wpAny_pyIter_keyiter ⟨o, ho, h1, h2⟩ q
theorem It.dict {H : Hp} {a : Addr} {es : List (Str × V)} {n : Nat} (h : (a, .dictAt es n) ∈ H) (hsm : a ≠ sysModules) : It H (.ref a) ((es.map (·.1)).map V.str) (fun H => (a, .dictAt es n) ∈ H) := fun c z ρ s val Q E hh S hv q => by
  cases hv
  obtain ⟨ob, e, r⟩ := S.own _ h
  cases r with
  | dictAt r nd =>
    rename_i ds
    obtain ⟨ks, a1, a2, a3⟩ := r.toKV (prog := c.p) (w := c.w)
    have da : s.heap.DictAt (strKind c.p c.w) a ks n := ⟨_, ds.toArray, e, ⟨rfl, rfl, rfl⟩, rfl, fun e he => a3 e (by simpa using he), by simpa using a2, by rw [a1.keys]; exact nd⟩
    refine wpAny_pyIter_dict (by simpa using hsm) da ?_
    exact q _ _ _ z _ (Le.refl z) Iters.dict trivial (S.pushT (n := s.toks) (ob := .prop (keyIterAt a es.length n 0)) (.prop ⟨rfl, by rw [a1.length]; rfl⟩) rfl)
end
section

-- values that are written in the heap
def readB : Value → Option V
  | .none => some .none
  | .bool b => some (.bool b)
  | .int i _ => some (.int i)
  | .str x _ => some (.str x)
  | .bytes b _ => some (.bytes b)
  | .type n => some (.ty n)
  | .builtin n => some (.bi n)
  | .ref a => some (.ref a)
  | _ => none
def allSome : List (Option V) → Option (List V)
  | [] => some []
  | o :: r => match o, allSome r with
    | some x, some xs => some (x :: xs)
    | _, _ => none
def readV (K : Frag) : Nat → Value → Option V
  | 0, v => readB v
  | n + 1, v => match v with
    | .ref a => match K.lookup a with
      | some ⟨.type "tuple", _, .seq vs _, _⟩ => (allSome (vs.toList.map (readV K n))).map V.tup
      | some ⟨.type "list", _, .seq vs _, _⟩ => (allSome (vs.toList.map (readV K n))).map V.lst
      | _ => some (.ref a)
    | v => readB v
theorem readB_vr {z : FZ} {v : Value} {x : V} (e : readB v = some x) : VR z x v := by
  unfold readB at e
  split at e <;> first | (cases e; constructor) | cases e
theorem allSome_vrs {z : FZ} {f : Value → Option V} (h : ∀ v x, f v = some x → VR z x v) : ∀ {vs : List Value} {xs : List V}, allSome (vs.map f) = some xs → VRs z xs vs
  | [], xs, e => by cases e; exact .nil
  | v :: r, xs, e => by
    rw [List.map_cons] at e
    unfold allSome at e
    split at e
    · rename_i x ys e1 e2
      cases e
      exact .cons (h _ _ e1) (allSome_vrs h e2)
    · cases e
theorem readV_vr {K : Frag} {h : Heap} (X : K.In h) : ∀ (n : Nat) {v : Value} {x : V}, readV K n v = some x → VR h.get? x v
  | 0, v, x, e => readB_vr e
  | n + 1, v, x, e => by
    unfold readV at e
    split at e
    · rename_i a
      split at e
      · rename_i d vs k sl ho
        obtain ⟨xs, e1, rfl⟩ := Option.map_eq_some_iff.mp e
        exact .tup (n := k) (vs := vs.toList) (X _ _ ho) rfl (by simp) (allSome_vrs (fun v x => readV_vr X n) e1)
      · rename_i d vs k sl ho
        obtain ⟨xs, e1, rfl⟩ := Option.map_eq_some_iff.mp e
        exact .lst (n := k) (vs := vs.toList) (X _ _ ho) rfl (by simp) (allSome_vrs (fun v x => readV_vr X n) e1)
      · cases e; exact .ref a
    · exact readB_vr e

-- a dict of the heap with int keys
def keyOK : DictEntry → Bool
  | ⟨h, .int k _, _⟩ => h == hashInt k
  | _ => false
def tabIn (K : Frag) (a : Addr) : Option (Array DictEntry) := match K.lookup a with
  | some ⟨.type "dict", none, .dict es _, sl⟩ => if (sl.size == 0 && es.toList.all keyOK) = true then some es else none
  | _ => none
def tabGet (K : Frag) (a : Addr) (k : Int) : Option Value := (tabIn K a).bind fun es => findBy Value.isInt es k
theorem tabIn_map {K : Frag} {a : Addr} {es : Array DictEntry} {h : Heap} {prog : Program} {w : World} (X : K.In h) (e : tabIn K a = some es) : h.MapOf (intKind prog w) a (findBy Value.isInt es) := by
  unfold tabIn at e
  split at e
  · rename_i es' n sl ho
    split at e
    · rename_i hall
      rw [Bool.and_eq_true] at hall
      obtain ⟨hsl, hall⟩ := hall
      have : sl = #[] := Array.eq_empty_of_size_eq_zero (beq_iff_eq.mp hsl)
      subst this
      cases e
      refine ⟨_, es, n, X _ _ ho, ⟨rfl, rfl, rfl⟩, rfl, fun d hd => ?_, fun k => rfl⟩
      have := List.all_eq_true.mp hall d (by simpa using hd)
      unfold keyOK at this
      split at this
      · rename_i hs k t v
        exact ⟨k, by simp [intKind, Value.isInt], beq_iff_eq.mp this⟩
      · cases this
    · cases e
  · cases e
section
variable {c : Cx} {ρ : Loc} {H : Hp} {Q : V → Hp → Prop} {X : XP}
theorem HasItem.tab {a : Addr} {es : Array DictEntry} (h : tabIn c.K a = some es) : HasItem c H (.ref a) "dict" "dict.__getitem__" := ⟨fun z ρ s v S hv => by
  cases hv
  exact (tabIn_map (prog := c.p) (w := c.w) S.kin h).typeIs, slot_dict_getitem.lookup⟩
theorem It1.tab {a : Addr} {k : Int} {val : Value} {n : Nat} {v : V} (h : tabGet c.K a k = some val) (hv : readV c.K n val = some v) (q : Q v H) : Do2 c (.ref a) (.int k) (fun o i => getItem o i) ρ H Q X := fun z s vo vi S ho hi => by
  cases ho; cases hi
  unfold tabGet at h
  obtain ⟨es, e1, e2⟩ := Option.bind_eq_some_iff.mp h
  refine of (wpAny_getItem_of (knd := intKind c.p c.w) (intKind_is _ _ _ _) (tabIn_map S.kin e1) e2 ?_)
  exact postV S ((readV_vr S.ok.X n hv).mono S.base) q
end
end
section
namespace BD
open Builtin
theorem args2 (a b : Value) : argsOk "bytes.decode" ⟨[a, b], []⟩ := by unfold argsOk; kernel_rfl
section
variable {b : Array UInt8} {c : UInt8} {cs : List UInt8} {t u : Tok} {x : PySem.Str} {n : Nat}
theorem entry_eq : «bytes.decode» ⟨[.bytes (c :: cs).toArray t, .str (PySem.Str.ofString "utf-8") u], []⟩ = (mkStr (PySem.Str.ofString "utf-8") >>= fun _ => mkStr (PySem.Str.ofString "utf-8") >>= fun e => mkStr (PySem.Str.ofString "bytes.decode") >>= fun d =>
    call (.builtin "_codecs.decode.text") [.bytes (c :: cs).toArray t, e, .none, d] >>= fun v => ret v) := by kernel_rfl
theorem entry_eq0 : «bytes.decode» ⟨[.bytes #[] t, .str (PySem.Str.ofString "utf-8") u], []⟩ = (rule "bytes.decode.empty" >>= fun _ => retStr PySem.Str.empty) := by kernel_rfl
theorem meets_decode (hd : ∀ id, _codecs.runDecoder id _codecs.utf8Decoder none true (c :: cs).toArray 0 [] = pure (x.cps, n)) :
    Meets («bytes.decode» ⟨[.bytes (c :: cs).toArray t, .str (PySem.Str.ofString "utf-8") u], []⟩) (fun _ R s => x.length ≤ sizeLine ∧ ∀ t' k, R (.ok (.ret (.str x t'))) { s with toks := k }) := by
  refine .of_wp fun prog w A R s hS => ?_
  obtain ⟨hsz, h⟩ := hS
  rw [entry_eq]
  refine wpAny_bind (wpAny_mkStr ?_ (by decide))
  refine wpAny_bind (wpAny_mkStr ?_ (by decide))
  refine wpAny_bind (wpAny_mkStr ?_ (by decide))
  exact wpAny_bind (call_function_meets KBd.kind_text KBd.plain_text KBd.entry_text (KBd.args_text _ _ _ _) (KBd.meets_text hd) ⟨hsz, wpAny_pure ⟨_, rfl, h _ _⟩⟩)
theorem meets_decode0 :
    Meets («bytes.decode» ⟨[.bytes #[] t, .str (PySem.Str.ofString "utf-8") u], []⟩) (fun _ R s => ∀ t' k, R (.ok (.ret (.str PySem.Str.empty t'))) { s with toks := k }) := by
  refine .of_wp fun prog w A R s h => ?_
  rw [entry_eq0]
  refine wpAny_bind (wpAny_rule ?_)
  show wpAny _ _ (mkStr PySem.Str.empty >>= fun v => ret v) _ _ _
  exact wpAny_bind (wpAny_mkStr (wpAny_pure ⟨_, rfl, h _ _⟩) (by decide))
end
end BD
/-- the octets b spell the text x -/
def Spells (b : Array UInt8) (x : Str) : Prop := (b = #[] ∧ x = Str.empty) ∨ (b ≠ #[] ∧ x.length ≤ 16777216 ∧ ∃ n, ∀ id, Builtin._codecs.runDecoder id Builtin._codecs.utf8Decoder none true b 0 [] = pure (x.cps, n))

section
variable {c : Cx} {ρ : Loc} {H : Hp} {Q : V → Hp → Prop} {X : XP}
theorem Mt.bytes {b : Array UInt8} {name : Str} {id : String} (slot : Slot "bytes" name id) (ty : typeOf (.builtin id) = pure (.type "method_descriptor")) : Mt c H (.bytes b) name (.bi id) [.bytes b] := fun z ρ s v pl Q E S hv q => by
  cases hv
  exact KBd.method_of _ (typeIs_bytes _ _ _) slot ty (fun _ e => nomatch e) (by simpa using q _ _ s.toks (.bi _) (.cons (.bytes _ _) .nil))
theorem Mt.decode {b : Array UInt8} : Mt c H (.bytes b) "decode" (.bi "bytes.decode") [.bytes b] := Mt.bytes FB.slot_bytes_decode FB.type_bytes_decode
theorem Cl.decode {b : Array UInt8} {x : Str} (h : Spells b x) (q : Q (.str x) H) : Cl c (.bi "bytes.decode") [.bytes b, .str "utf-8"] [] ρ H Q X := fun z s vf vs ks S hf hv hk => by
  cases hf; cases hk
  obtain _ | ⟨g1, hv⟩ := hv; cases g1
  obtain _ | ⟨g2, hv⟩ := hv; cases g2; cases hv
  rcases h with ⟨rfl, rfl⟩ | ⟨hb, hz, n, hd⟩
  · exact of (call_meets FB.slot_bytes_decode (typeIs_bytes _ _ _) FB.entry_bytes_decode (BD.args2 _ _) BD.meets_decode0 fun t' k => postV S (.str _ _) q)
  · obtain ⟨l⟩ := b
    cases l with
    | nil => exact absurd rfl hb
    | cons y ys => exact of (call_meets FB.slot_bytes_decode (typeIs_bytes _ _ _) FB.entry_bytes_decode (BD.args2 _ _) (BD.meets_decode hd) ⟨by rw [sizeLine_eq]; exact hz, fun t' k => postV S (.str _ _) q⟩)
-- join
theorem Mt.joinB {b : Array UInt8} : Mt c H (.bytes b) "join" (.bi "bytes.join") [.bytes b] := Mt.bytes BJ.slot BJ.ty
theorem VRs.bs {z : FZ} : ∀ {bs : List (Array UInt8)} {vs : List Value}, VRs z (bs.map V.bytes) vs → BJ.Bs bs vs
  | [], _, .nil => .nil
  | _ :: _, _, .cons (.bytes _ _) r => .cons r.bs
theorem Cl.joinB {bs : List (Array UInt8)} (hz : (BJ.cat bs).size ≤ 16777216) (q : Q (.bytes (BJ.cat bs)) H) : Cl c (.bi "bytes.join") [.bytes #[], .lst (bs.map V.bytes)] [] ρ H Q X := fun z s vf vs ks S hf hv hk => by
  cases hf; cases hk
  obtain _ | ⟨g1, hv⟩ := hv; cases g1
  obtain _ | ⟨g2, hv⟩ := hv; cases hv
  obtain ⟨a, vs, rfl, hl, hr⟩ := S.hlz g2
  exact of (BJ.join_ hl hr.bs hz fun t k => postV S (.bytes _ _) q)
theorem Mt.joinS {x : Str} : Mt c H (.str x) "join" (.bi "str.join") [.str x] := fun z ρ s v pl Q E S hv q => by
  cases hv
  exact getMethod_builtin (typeIs_str _ _ _) PySem.F.plainAttrs_str PySem.F.slot_str_join PySem.F.type_str_join (fun _ e => nomatch e) (by simpa using q _ _ s.toks (.bi _) (.cons (.str _ _) .nil))
theorem VRs.strs {z : FZ} : ∀ {xs : List Str} {vs : List Value}, VRs z (xs.map V.str) vs → ∃ l : List (Str × Tok), vs = strValues l ∧ l.map (·.1) = xs
  | [], _, .nil => ⟨[], rfl, rfl⟩
  | x :: _, _, .cons (.str _ t) r => by
    obtain ⟨l, e, e2⟩ := r.strs
    exact ⟨(x, t) :: l, by rw [e]; rfl, by simp [e2]⟩
theorem Cl.joinS {xs : List Str} (hz : xs.foldl (fun n x => n + x.length) 0 ≤ 16777216) (hg : (Builtin.Str.glued (Str.ofString "") xs).length ≤ 16777216) (q : Q (.str (Builtin.Str.glued (Str.ofString "") xs)) H) : Cl c (.bi "str.join") [.str (Str.ofString ""), .lst (xs.map V.str)] [] ρ H Q X := fun z s vf vs ks S hf hv hk => by
  cases hf; cases hk
  obtain _ | ⟨g1, hv⟩ := hv; cases g1
  obtain _ | ⟨g2, hv⟩ := hv; cases hv
  obtain ⟨a, vs, rfl, hl, hr⟩ := S.hlz g2
  obtain ⟨l, rfl, rfl⟩ := hr.strs
  have e0 : (Str.ofString "").length = 0 := by decide
  have hlong : Builtin.Str.tooLong ((l.map (·.1)).toArray.foldl (· + ·.length + (Str.ofString "").length) 0) = false := by
    have e : (l.map (·.1)).toArray.foldl (· + ·.length + (Str.ofString "").length) 0 = (l.map (·.1)).foldl (fun n x => n + x.length) 0 := by
      rw [List.foldl_toArray]
      congr 1
    rw [e]
    unfold Builtin.Str.tooLong
    rw [decide_eq_false]
    rw [sizeLine_eq]; omega
  refine of (call_meets PySem.F.slot_str_join (typeIs_str _ _ _) PySem.F.entry_str_join (PySem.F.args_str_join_2 _ _) (meets_str_join_list _ _ a l hlong) ⟨hl, ?_⟩)
  match l, hg, q with
  | [], hg, q => exact ⟨by rw [sizeLine_eq]; exact hg, postV S (.str _ _) q⟩
  | [p], hg, q =>
    have e : Builtin.Str.glued (Str.ofString "") ([p].map (·.1)) = p.1 := by
      obtain ⟨⟨x⟩, t⟩ := p
      rfl
    rw [e] at q
    exact postV (n := s.toks) S (.str _ _) q
  | p :: p2 :: r, hg, q => exact ⟨by rw [sizeLine_eq]; exact hg, postV S (.str _ _) q⟩
end
end
section

theorem mem0 {α : Type} {a : α} {l : List α} : a ∈ a :: l := .head _
theorem mem1 {α : Type} {a b : α} {l : List α} (h : a ∈ l) : a ∈ b :: l := .tail _ h
theorem ite_f {A B : Prop} (h : B) : (false = true → A) ∧ (false = false → B) := ⟨nofun, fun _ => h⟩
theorem ite_t {A B : Prop} (h : A) : (true = true → A) ∧ (true = false → B) := ⟨fun _ => h, nofun⟩
theorem ite_d {P : Prop} [Decidable P] {A B : Prop} (h1 : P → A) (h2 : ¬ P → B) : (decide P = true → A) ∧ (decide P = false → B) := ⟨fun h => h1 (of_decide_eq_true h), fun h => h2 (of_decide_eq_false h)⟩
theorem ite_b {b : Bool} {A B : Prop} (h1 : b = true → A) (h2 : b = false → B) : (b = true → A) ∧ (b = false → B) := ⟨h1, h2⟩
/-- a value, and the heap stands -/
def Val (v : V) (H : Hp) (w : V) (H' : Hp) : Prop := w = v ∧ H' = H
def Tst (b : Bool) (H : Hp) (c : Bool) (H' : Hp) : Prop := c = b ∧ H' = H
theorem Val.mk {v : V} {H : Hp} : Val v H v H := ⟨rfl, rfl⟩
theorem Tst.mk {b : Bool} {H : Hp} : Tst b H b H := ⟨rfl, rfl⟩
section
variable {c : Cx} {ρ : Loc} {H : Hp} {X : XP}
theorem Ev.mono {e : Expr} {Q Q' : V → Hp → Prop} {X' : XP} (h : Ev c e ρ H Q' X') (hq : ∀ v H', Q' v H' → Q v H') (hx : ∀ e ρ H, X' e ρ H → X e ρ H) : Ev c e ρ H Q X := fun z s S =>
  wpR_mono (h z s S) (fun _ _ ⟨v, z', H', le, S', r, q⟩ => ⟨v, z', H', le, S', r, hq _ _ q⟩) fun _ _ ⟨cls, z', ρ', H', a, he, le, S', x, q⟩ => ⟨cls, z', ρ', H', a, he, le, S', x, hx _ _ _ q⟩
theorem Ev.val {e : Expr} {Q : V → Hp → Prop} {v : V} (h : Ev c e ρ H (Val v H) X) (q : Q v H) : Ev c e ρ H Q X := h.mono (fun w H' ⟨e1, e2⟩ => by subst e1 e2; exact q) fun _ _ _ x => x
theorem Tt.mono {e : Expr} {Q Q' : Bool → Hp → Prop} {X' : XP} (h : Tt c e ρ H Q' X') (hq : ∀ v H', Q' v H' → Q v H') (hx : ∀ e ρ H, X' e ρ H → X e ρ H) : Tt c e ρ H Q X := fun z s S =>
  wpR_mono (h z s S) (fun _ _ ⟨z', H', le, S', q⟩ => ⟨z', H', le, S', hq _ _ q⟩) fun _ _ ⟨cls, z', ρ', H', a, he, le, S', x, q⟩ => ⟨cls, z', ρ', H', a, he, le, S', x, hx _ _ _ q⟩
theorem Tt.tst {e : Expr} {Q : Bool → Hp → Prop} {v : Bool} (h : Tt c e ρ H (Tst v H) X) (q : Q v H) : Tt c e ρ H Q X := h.mono (fun w H' ⟨e1, e2⟩ => by subst e1 e2; exact q) fun _ _ _ x => x
/-- a chain of two over things that stand -/
theorem Tt.chainV {o₁ o₂ : CmpOp} {l r₁ r₂ : Expr} {pos : Pos} {Q : Bool → Hp → Prop} {a b d : V} {p q : Bool} (hl : Ev c l ρ H (Val a H) X) (h1 : Ev c r₁ ρ H (Val b H) X) (h2 : Ev c r₂ ρ H (Val d H) X)
    (i1 : Is2 c H (compareOp o₁) a b (.bool p)) (i2 : Is2 c H (compareOp o₂) b d (.bool q)) (k : Q (p && q) H) (hm : lastMarks [o₁, o₂] [r₁, r₂] = false := by with_unfolding_all rfl) : Tt c (.Compare l [o₁, o₂] [r₁, r₂] pos) ρ H Q X :=
  Tt.chain (hl.val (h1.val ⟨p, i1, fun e => by subst e; exact k, fun e => by subst e; exact h2.val ⟨q, i2, k⟩⟩)) hm
theorem Tt.andV {x y : Expr} {pos : Pos} {Q : Bool → Hp → Prop} {p q : Bool} (h1 : Tt c x ρ H (Tst p H) X) (h2 : p = true → Tt c y ρ H (Tst q H) X) (k : Q (p && q) H) : Tt c (.BoolOp .And [x, y] pos) ρ H Q X :=
  Tt.and (h1.tst ⟨fun e => by subst e; exact k, fun e => by subst e; exact (h2 rfl).tst k⟩)
theorem Tt.orV {x y : Expr} {pos : Pos} {Q : Bool → Hp → Prop} {p q : Bool} (h1 : Tt c x ρ H (Tst p H) X) (h2 : p = false → Tt c y ρ H (Tst q H) X) (k : Q (p || q) H) : Tt c (.BoolOp .Or [x, y] pos) ρ H Q X :=
  Tt.or (h1.tst ⟨fun e => by subst e; exact k, fun e => by subst e; exact (h2 rfl).tst k⟩)
theorem put_and {x : Str} {v : V} {ρ ρ' : Loc} {P : Loc → Prop} (h : Put x v ρ ρ') (q : P ρ') : ∃ ρ', Put x v ρ ρ' ∧ P ρ' := ⟨ρ', h, q⟩
theorem upd_and {a : Addr} {o o' : AObj} {H H' : Hp} {P : Hp → Prop} (h : Upd a o o' H H') (q : P H') : ∃ H', Upd a o o' H H' ∧ P H' := ⟨H', h, q⟩
theorem range_at {lo : Int} {n i : Nat} {v : V} (h : ((List.range n).map fun i : Nat => V.int (lo + (i : Int)))[i]? = some v) : i < n ∧ v = .int (lo + (i : Int)) := by
  rw [List.getElem?_map] at h
  obtain ⟨j, hj, rfl⟩ := Option.map_eq_some_iff.mp h
  obtain ⟨h1, h2⟩ := List.getElem?_eq_some_iff.mp hj
  rw [List.getElem_range] at h2
  subst h2
  exact ⟨by simpa using h1, rfl⟩
theorem Then.next {rest : List Stmt} {Q : Fl → Loc → Hp → Prop} (h : Exs c rest ρ H Q X) : Then c rest Q X .next ρ H := h
theorem Then.ret {rest : List Stmt} {Q : Fl → Loc → Hp → Prop} {v : V} (h : Q (.ret v) ρ H) : Then c rest Q X (.ret v) ρ H := h
theorem Then.brk {rest : List Stmt} {Q : Fl → Loc → Hp → Prop} (h : Q .brk ρ H) : Then c rest Q X .brk ρ H := h
theorem TurnF.next {q : Addr × AObj} {Inv : Loc → Hp → Prop} {Q : Fl → Loc → Hp → Prop} (h : Inv ρ H) : TurnF q Inv Q .next ρ (q :: H) := ⟨H, .refl _, h⟩
theorem TurnF.ret {q : Addr × AObj} {Inv : Loc → Hp → Prop} {Q : Fl → Loc → Hp → Prop} {v : V} (h : Q (.ret v) ρ H) : TurnF q Inv Q (.ret v) ρ (q :: H) := ⟨H, .refl _, h⟩
theorem LessX.mk {q : Addr × AObj} {e : Value} (h : X e ρ H) : LessX q X e ρ (q :: H) := ⟨H, .refl _, h⟩
theorem Less.mk' {q : Addr × AObj} {Q : Hp → Prop} {H : Hp} (h : Q H) : Less q Q (q :: H) := ⟨H, .refl _, h⟩
end
section
variable {c : Cx} {H : Hp}
theorem Is.powN {a : Int} {k : Nat} (hk : k ≤ 1000000) (ha : a.natAbs < 2 ^ 64) : Is2 c H (binaryOp .Pow) (.int a) (.int (k : Int)) (.int (a ^ k)) := by
  have h := Is.pow (c := c) (H := H) (a := a) (n := (k : Int)) (by omega) (by omega) ha
  rw [Int.toNat_natCast] at h
  exact h
theorem Is.pow2 {k : Nat} (hk : k ≤ 1000000) : Is2 c H (binaryOp .Pow) (.int 2) (.int (k : Int)) (.int ((2 ^ k : Nat) : Int)) := by
  have h := Is.powN (c := c) (H := H) (a := 2) hk (by decide)
  rw [Int.natCast_pow]
  exact h
end
section
variable {c : Cx} {ρ : Loc} {H : Hp} {Q : V → Hp → Prop} {X : XP}
/-- a list of one's own is let stand -/
theorem Ev.frz {x : Str} {pos : Pos} {a : Addr} {xs : List V} {H' : Hp} (h : (x, some (.ref a)) ∈ ρ) (p : H.Perm ((a, .list xs) :: H')) (q : Q (.lst xs) H') : Ev c (.Name x pos) ρ H Q X := fun z s S =>
  wpR_mono ((Ev.loc (Q := Val (.ref a) H) (X := X) h Val.mk) z s S) (fun val s₁ ⟨v, z₁, H₁, le₁, S₁, r₁, e1, e2⟩ => by
    subst e1 e2
    cases r₁
    obtain ⟨z₂, le₂, S₂, r₂⟩ := (S₁.perm p).freeze
    exact ⟨_, z₂, H', le₁.trans le₂, S₂, r₂, q⟩) fun _ _ x => x
end
theorem swaps_true {elt : Expr} {gens : List Comprehension} {scope sc : Scope} {pos tp : Pos} {t : Str} {line : Nat} {env : Env} (hs : env.scope = sc) (h : (sc.kind == .function && sc.names.lookup t == some .local && tp.line == pos.line && !(scope.names.any fun (n, k) => n == t && (k == .local || k == .cell))) = true) :
    swapsWith (.ListComp elt gens scope pos) (some (.Name t tp)) line env = pure true := by
  subst hs
  have e : swapsWith (.ListComp elt gens scope pos) (some (.Name t tp)) line env = pure (env.blockKind == .function && env.kindOf t == some .local && tp.line == pos.line && !(scope.names.any fun (n, k) => n == t && (k == .local || k == .cell))) := rfl
  rw [e]
  have hb : env.blockKind = .function := by
    simp only [Bool.and_eq_true, beq_iff_eq] at h
    unfold Env.blockKind
    rw [h.1.1.1]; rfl
  rw [hb]
  have h' := h
  simp only [Bool.and_eq_true] at h'
  obtain ⟨⟨⟨h1, h2⟩, h3⟩, h4⟩ := h'
  rw [show (env.kindOf t == some NameKind.local) = true from h2, h3, h4]; rfl
/-- a comprehension without tests -/
theorem CompOf.map {c : Cx} {scope : Scope} {cl : List (Str × Addr)} {names : List Str} {target elt : Expr} {H₁ : Hp} {v : V} {ys items : List V} {C : Hp → Prop} (f : V → V) (hit : It H₁ v items C) (hl : items.length ≤ 1000000) (hC : ∀ q, C (q :: H₁)) (hy : ys = items.map f)
    (h : ∀ c₂, Inner c c₂ scope cl → ∀ x ∈ items, ∃ ρ₂, Asg c₂ target x (names.map fun x => (x, none)) ρ₂ ∧ ρ₂.map (·.1) = names ∧ ∀ q₁ q₂, Ev c₂ elt ρ₂ (q₁ :: q₂ :: H₁) (Val (f x) (q₁ :: q₂ :: H₁)) (fun _ _ _ => False)) :
    CompOf c scope cl names target elt [] H₁ v ys where
  it := ⟨items, C, fun _ => true, f, hit, by rw [sizeLine_eq]; omega, hC, by rw [hy, List.filter_eq_self.mpr (fun _ _ => rfl)], fun c₂ I x hx => by
    obtain ⟨ρ₂, h1, h2, h3⟩ := h c₂ I x hx
    exact ⟨ρ₂, h1, h2, fun q₁ q₂ => ⟨Tsts.nil, fun _ => h3 q₁ q₂⟩⟩⟩
theorem Ex.assignCl {c : Cx} {ρ : Loc} {H : Hp} {X : XP} {x : Str} {a : Addr} {p' : Pos} {e : Expr} {pos : Pos} {Q : Fl → Loc → Hp → Prop} (hk : c.env.scope.names.lookup x = some .cell) (hc : c.env.cells.lookup x = some a)
    (h : Ev c e ρ H (fun v H₁ => ∃ H', (∃ o, Upd a (.cell o) (.cell (some v)) H₁ H') ∧ Q .next ρ H') X)
    (hs : ∀ env, swapsWith e (some (.Name x p')) pos.line env = pure false := by intro; rfl) : Ex c (.Assign [.Name x p'] e pos) ρ H Q X :=
  fun z s S => wpR_Assign_Name (wpR_mono (h z s S) (fun val s₁ ⟨v, z₁, H₁, le₁, S₁, r₁, H', ⟨o, U⟩, q⟩ => of (storeCell S₁ hk hc U r₁ fun s' S' => ⟨.next, z₁, ρ, H', le₁, S', .next, q⟩)) fun _ _ x => x) (hs _)
theorem cell_and {a : Addr} {v : V} {H H' : Hp} {P : Hp → Prop} {o : Option V} (h : Upd a (.cell o) (.cell (some v)) H H') (q : P H') : ∃ H', (∃ o, Upd a (.cell o) (.cell (some v)) H H') ∧ P H' := ⟨H', ⟨o, h⟩, q⟩
theorem pow_le8 {i : Nat} (h : i < 4) : 2 ^ i ≤ 8 := by
  have : i = 0 ∨ i = 1 ∨ i = 2 ∨ i = 3 := by omega
  rcases this with rfl | rfl | rfl | rfl <;> decide
end
section

theorem Cl.mono {c : Cx} {f : V} {as : List V} {kw : List (Str × V)} {ρ : Loc} {H : Hp} {Q Q' : V → Hp → Prop} {X X' : XP} (h : Cl c f as kw ρ H Q' X') (hq : ∀ v H', Q' v H' → Q v H') (hx : ∀ e ρ H, X' e ρ H → X e ρ H) : Cl c f as kw ρ H Q X := fun z s vf vs ks S a b d =>
  wpR_mono (h z s vf vs ks S a b d) (fun _ _ ⟨v, z', H', le, S', r, q⟩ => ⟨v, z', H', le, S', r, hq _ _ q⟩) fun _ _ ⟨cls, z', ρ', H', a, he, le, S', x, q⟩ => ⟨cls, z', ρ', H', a, he, le, S', x, hx _ _ _ q⟩
theorem Cl.noX {c : Cx} {f : V} {as : List V} {kw : List (Str × V)} {ρ : Loc} {H : Hp} {Q : V → Hp → Prop} {X : XP} (h : Cl c f as kw ρ H Q (fun _ _ _ => False)) : Cl c f as kw ρ H Q X := h.mono (fun _ _ q => q) fun _ _ _ x => x.elim
/-- a part of what is tracked -/
def Fit (Q : Hp → Prop) (H : Hp) : Prop := ∃ H' G, H.Perm (H' ++ G) ∧ Q H'
theorem Fit.mk {Q : Hp → Prop} {H H' G : Hp} (p : H.Perm (H' ++ G)) (q : Q H') : Fit Q H := ⟨H', G, p, q⟩
theorem Fit.self {Q : Hp → Prop} {H : Hp} (q : Q H) : Fit Q H := ⟨H, [], by simp, q⟩
theorem St.fit {c : Cx} {z : FZ} {ρ : Loc} {H : Hp} {s : Shared} {Q : Hp → Prop} (S : St c z ρ H s) (h : Fit Q H) : ∃ H', St c z ρ H' s ∧ Q H' := by
  obtain ⟨H', G, p, q⟩ := h
  exact ⟨H', S.sub ⟨G, p⟩, q⟩
theorem PostV.fit {c : Cx} {z : FZ} {ρ : Loc} {Q : V → Hp → Prop} {v : Value} {s : Shared} (h : PostV c z ρ (fun v => Fit (Q v)) v s) : PostV c z ρ Q v s := by
  obtain ⟨v, z2, H, l, S, r, q⟩ := h
  obtain ⟨H', S', q⟩ := S.fit q
  exact ⟨v, z2, H', l, S', r, q⟩
theorem PostS.fit {c : Cx} {z : FZ} {Q : Fl → Loc → Hp → Prop} {v : Flow} {s : Shared} (h : PostS c z (fun f ρ => Fit (Q f ρ)) v s) : PostS c z Q v s := by
  obtain ⟨f, z2, ρ, H, l, S, r, q⟩ := h
  obtain ⟨H', S', q⟩ := S.fit q
  exact ⟨f, z2, ρ, H', l, S', r, q⟩
theorem PostX.fit {c : Cx} {z : FZ} {b : Bool} {X : XP} {e : Value} {s : Shared} (h : PostX c z b (fun e ρ => Fit (X e ρ)) e s) : PostX c z b X e s := by
  obtain ⟨cls, z', ρ', H', a, rfl, le, S, x, H₂, G, p, h⟩ := h
  refine ⟨cls, z', ρ', H₂, a, rfl, le, S.sub ⟨G, p⟩, ?_, h⟩
  have sub : ∀ b, b ∈ c.vol H₂ → b ∈ c.vol H' := fun b hb => by
    unfold Cx.vol at hb ⊢
    rcases List.mem_cons.mp hb with h | h
    · exact h ▸ .head _
    · refine .tail _ ?_
      rcases List.mem_append.mp h with h | h
      · exact List.mem_append_left _ h
      · refine List.mem_append_right _ ((p.map (·.1)).mem_iff.mpr ?_)
        rw [List.map_append]; exact List.mem_append_left _ h
  obtain ⟨⟨o1, o2⟩, oe, vs, h1, h2, h3, h4, hc2, h5⟩ := x
  refine ⟨⟨o1, fun h => o2 (sub _ h)⟩, oe, vs, h1, h2, h3, h4, hc2, ?_⟩
  rcases h5 with h | ⟨T, oT, ts, t1, t2, t3, t4⟩
  · exact .inl h
  · exact .inr ⟨T, oT, ts, t1, t2, fun h => t3 (sub _ h), t4⟩
section
variable {c : Cx} {ρ : Loc} {H : Hp} {X : XP}
theorem Ev.fit {e : Expr} {Q : V → Hp → Prop} (h : Ev c e ρ H (fun v => Fit (Q v)) (fun e ρ => Fit (X e ρ))) : Ev c e ρ H Q X := fun z s S => wpR_mono (h z s S) (fun _ _ h => h.fit) fun _ _ h => h.fit
theorem Exs.fit {ss : List Stmt} {Q : Fl → Loc → Hp → Prop} (h : Exs c ss ρ H (fun f ρ => Fit (Q f ρ)) (fun e ρ => Fit (X e ρ))) : Exs c ss ρ H Q X := fun z s S => wpR_mono (h z s S) (fun _ _ h => h.fit) fun _ _ h => h.fit
theorem Ex.fit {ss : Stmt} {Q : Fl → Loc → Hp → Prop} (h : Ex c ss ρ H (fun f ρ => Fit (Q f ρ)) (fun e ρ => Fit (X e ρ))) : Ex c ss ρ H Q X := fun z s S => wpR_mono (h z s S) (fun _ _ h => h.fit) fun _ _ h => h.fit
theorem Cl.fit {f : V} {as : List V} {kw : List (Str × V)} {Q : V → Hp → Prop} (h : Cl c f as kw ρ H (fun v => Fit (Q v)) (fun e ρ => Fit (X e ρ))) : Cl c f as kw ρ H Q X := fun z s vf vs ks S a b d => wpR_mono (h z s vf vs ks S a b d) (fun _ _ h => h.fit) fun _ _ h => h.fit
theorem Cl.sub {f : V} {as : List V} {kw : List (Str × V)} {Q : V → Hp → Prop} {H' G : Hp} (hp : H.Perm (H' ++ G)) (h : Cl c f as kw ρ H' Q X) : Cl c f as kw ρ H Q X := fun z s vf vs ks S => h z s vf vs ks (S.sub ⟨G, hp⟩)
theorem Ev.subH {e : Expr} {Q : V → Hp → Prop} {H' G : Hp} (hp : H.Perm (H' ++ G)) (h : Ev c e ρ H' Q X) : Ev c e ρ H Q X := fun z s S => h z s (S.sub ⟨G, hp⟩)
theorem Exs.perm {ss : List Stmt} {Q : Fl → Loc → Hp → Prop} {H' : Hp} (hp : H.Perm H') (h : Exs c ss ρ H' Q X) : Exs c ss ρ H Q X := fun z s S => h z s (S.perm hp)
theorem Ev.perm {e : Expr} {Q : V → Hp → Prop} {H' : Hp} (hp : H.Perm H') (h : Ev c e ρ H' Q X) : Ev c e ρ H Q X := fun z s S => h z s (S.perm hp)
theorem Cl.perm {f : V} {as : List V} {kw : List (Str × V)} {Q : V → Hp → Prop} {H' : Hp} (hp : H.Perm H') (h : Cl c f as kw ρ H' Q X) : Cl c f as kw ρ H Q X := fun z s vf vs ks S => h z s vf vs ks (S.perm hp)
theorem Ex.exprS {e : Expr} {pos : Pos} {Q : Fl → Loc → Hp → Prop} (h : Ev c e ρ H (fun _ H₁ => Q .next ρ H₁) X) (hs : ∀ env, swapsWith e none pos.line env = pure false := by intro; rfl) : Ex c (.Expr e pos) ρ H Q X :=
  fun z s S => Ex.expr h (by unfold interactive; rw [S.ok.kind]; rfl) (hs _) z s S
theorem Exs.weak {ss : List Stmt} {Q Q' : Fl → Loc → Hp → Prop} {X' : XP} (h : Exs c ss ρ H Q' X') (hq : ∀ f ρ H, Q' f ρ H → Fit (Q f ρ) H) (hx : ∀ e ρ H, X' e ρ H → Fit (X e ρ) H) : Exs c ss ρ H Q X := Exs.fit (h.mono hq hx)
end
theorem attrOK_mk {K : Frag} {C : Addr} {name : Str} {o : Option Value} (h1 : plainGet K C name = true) (h2 : hasDictIn K C = true) (h3 : findIn K (.ref C) name = some o) (h4 : noGet K o = true) : attrOK K C name = true := by
  unfold attrOK; rw [h1, h2, h3]; simpa using h4
theorem setOK_mk {K : Frag} {C : Addr} {name : Str} (h1 : findIn K (.ref C) "__setattr__" = some (some (.builtin "object.__setattr__"))) (h2 : plainOver K C = true) (h3 : takerIn K C name = some none) (h4 : hasDictIn K C = true) : setOK K C name = true := by
  unfold setOK; rw [h1, h2, h3, h4]; rfl
theorem methOK_mk {K : Frag} {C f : Addr} {name : Str} (h1 : plainGet K C name = true) (h2 : findIn K (.ref C) name = some (some (.ref f))) (h3 : isFn K (.ref f) = true) (h4 : keepIn K (.ref f) = true) : methOK K C name f = true := by
  unfold methOK; rw [h1, h2, h3, h4]; simp
theorem itOK_mk {K : Frag} {C f : Addr} {name : Str} (h2 : findIn K (.ref C) name = some (some (.ref f))) (h3 : isFn K (.ref f) = true) : itOK K C name f = true := by
  unfold itOK; rw [h2, h3]; simp
theorem boundOK_mk {K : Frag} {C f : Addr} {name : Str} (h1 : plainGet K C name = true) (h2 : hasDictIn K C = true) (h3 : findIn K (.ref C) name = some (some (.ref f))) (h4 : isFn K (.ref f) = true) (h5 : specialIn K (.ref f) "__get__" = some (some (.builtin "function.__get__")))
    (h6 : takesIn K (.ref f) = some false) (h7 : copiedNames.contains name = false) : boundOK K C name f = true := by
  unfold boundOK; rw [h1, h2, h3, h4, h5, h6, h7]; simp
theorem notKey {x : Str} {es : List (Str × V)} (h : (es.map (·.1)).contains x = false) : x ∉ es.map (·.1) := fun hm => by
  rw [List.contains_iff_mem.mpr hm] at h; cases h
theorem dset_new {x : Str} {v : V} {es : List (Str × V)} (h : (es.map (·.1)).contains x = false) : DSet x v es (es ++ [(x, v)]) := .new (notKey h) rfl
theorem set_and {c : Cx} {a C d : Addr} {es es' : List (Str × V)} {H₂ H₃ : Hp} {name : Str} {v : V} {P : Hp → Prop} (hi : (a, .inst C d) ∈ H₂) (U : Upd d (.dict es) (.dict es') H₂ H₃) (D : DSet name v es es') (k : setOK c.K C name = true) (l : es'.length ≤ 1000) (q : P H₃) :
    ∃ a' C d es es' H₃, V.ref a = .ref a' ∧ (a', .inst C d) ∈ H₂ ∧ Upd d (.dict es) (.dict es') H₂ H₃ ∧ DSet name v es es' ∧ setOK c.K C name = true ∧ es'.length ≤ 1000 ∧ P H₃ := ⟨a, C, d, es, es', H₃, rfl, hi, U, D, k, l, q⟩
theorem set_and2 {c : Cx} {a C d : Addr} {es es' : List (Str × V)} {H₂ H₃ : Hp} {name : Str} {v : V} {P : Hp → Prop} (hi : (a, .inst C d) ∈ H₂) (U : Upd d (.dict es) (.dict es') H₂ H₃) (D : DSet name v es es') (k : setOK c.K C name = true) (l : es'.length ≤ 1000) (q : P H₃) :
    ∃ C d es es' H₃, (a, .inst C d) ∈ H₂ ∧ Upd d (.dict es) (.dict es') H₂ H₃ ∧ DSet name v es es' ∧ setOK c.K C name = true ∧ es'.length ≤ 1000 ∧ P H₃ := ⟨C, d, es, es', H₃, hi, U, D, k, l, q⟩
theorem aug_and {c : Cx} {a : Addr} {v : V} {H : Hp} {name : Str} {P : Addr → V → Prop} (h : Is1 c H (fun o => getAttr o name true) (.ref a) v) (q : P a v) : ∃ a' v, V.ref a = .ref a' ∧ Is1 c H (fun o => getAttr o name true) (.ref a') v ∧ P a' v := ⟨a, v, rfl, h, q⟩
theorem kitCls_of {K : Frag} {cls c : Value} {b : Bool} (e : exmOne K cls c = some b) : kitCls K cls c = some b ∧ subIn K c (.type "BaseException") = some true := by
  unfold exmOne at e
  split at e
  · rename_i h; exact ⟨e, by simpa using h⟩
  · cases e
theorem excC_app {c : Cx} {C : Addr} {bmB bmN : List Value} {newId Bn inN B nid initId : String} (O : c.OK) (q : excIn c.K C bmB newId = true) (e : exmOne c.K (.ref C) (.ref C) = some true)
    (Fn : ExcBaseFacts Bn newId inN bmN) (hBn : bmB.contains (.type Bn) = true) (F : ExcBaseFacts B nid initId bmB) : ExcC c (.ref C) := excC_own O.X q (kitCls_of e).1 e (kitCls_of e).2 Fn hBn F
section
variable {c : Cx} {ρ : Loc} {H : Hp} {Q : Fl → Loc → Hp → Prop} {X : XP}
theorem Ex.raiseO {x : Str} {np pos : Pos}
    (h : Ev c (.Name x np) ρ H (fun v H₁ => ∃ cls, v.val0 = some cls ∧ (c.OK → ExcC c cls) ∧ (c.A.handled = none ∨ ∃ e₀, c.A.handled = some (.ref e₀) ∧ (e₀, .prop excP) ∈ H₁ ∧ cls = .type "StopIteration") ∧ X cls ρ H₁) X) :
    Ex c (.Raise (some (.Name x np)) none pos) ρ H Q X := fun z s S => Ex.raiseN (h.mono (fun v H' ⟨cls, a, b, d, e⟩ => ⟨cls, a, b S.ok, d, e⟩) fun _ _ _ x => x) z s S
/-- a statement that leaves names and heap as written -/
theorem Ex.cut {st : Stmt} {ρ' : Loc} {H' : Hp} (h : Ex c st ρ H (fun f ρ₁ H₁ => f = .next ∧ ρ₁ = ρ' ∧ H₁ = H') X) (q : Q .next ρ' H') : Ex c st ρ H Q X :=
  h.mono (fun f ρ₁ H₁ ⟨a, b, d⟩ => by subst a b d; exact q) fun _ _ _ x => x
/-- a statement that goes on where P holds -/
theorem Ex.cutP {st : Stmt} (P : Loc → Hp → Prop) (h : Ex c st ρ H (fun f ρ₁ H₁ => f = .next ∧ P ρ₁ H₁) X) (q : ∀ ρ' H', P ρ' H' → Q .next ρ' H') : Ex c st ρ H Q X :=
  h.mono (fun f ρ₁ H₁ ⟨a, b⟩ => by subst a; exact q _ _ b) fun _ _ _ x => x
end
theorem Is.isub {c : Cx} {H : Hp} {a b : Int} : Is2 c H (inplaceOp .Sub) (.int a) (.int b) (.int (a - b)) := fun z ρ s v w Q E S hv hw h => by
  cases hv; cases hw; exact PySem.AutoIntOps.isub_0 (h _ _ (.int _ _))
section
variable {c : Cx} {H : Hp} {P : Bool → Prop}
theorem c_lt {a b : Int} (q : P (decide (a < b))) : ∃ t, Is2 c H (compareOp .Lt) (.int a) (.int b) (.bool t) ∧ P t := ⟨_, Is.lt, q⟩
theorem c_le {a b : Int} (q : P (decide (a ≤ b))) : ∃ t, Is2 c H (compareOp .LtE) (.int a) (.int b) (.bool t) ∧ P t := ⟨_, Is.le, q⟩
theorem c_gt {a b : Int} (q : P (decide (b < a))) : ∃ t, Is2 c H (compareOp .Gt) (.int a) (.int b) (.bool t) ∧ P t := ⟨_, Is.gt, q⟩
theorem c_ge {a b : Int} (q : P (decide (b ≤ a))) : ∃ t, Is2 c H (compareOp .GtE) (.int a) (.int b) (.bool t) ∧ P t := ⟨_, Is.ge, q⟩
theorem c_eq {a b : Int} (q : P (decide (a = b))) : ∃ t, Is2 c H (compareOp .Eq) (.int a) (.int b) (.bool t) ∧ P t := ⟨_, Is.eq, q⟩
theorem c_ne {a b : Int} (q : P (decide (a ≠ b))) : ∃ t, Is2 c H (compareOp .NotEq) (.int a) (.int b) (.bool t) ∧ P t := ⟨_, Is.ne, q⟩
theorem c_eqStr {a b : Str} (q : P (a == b)) : ∃ t, Is2 c H (compareOp .Eq) (.str a) (.str b) (.bool t) ∧ P t := ⟨_, Is.eqStr, q⟩
theorem c_neStr {a b : Str} (q : P (a != b)) : ∃ t, Is2 c H (compareOp .NotEq) (.str a) (.str b) (.bool t) ∧ P t := ⟨_, Is.neStr, q⟩
theorem c_eqBytes {a b : Array UInt8} (q : P (a.toList == b.toList)) : ∃ t, Is2 c H (compareOp .Eq) (.bytes a) (.bytes b) (.bool t) ∧ P t := ⟨_, Is.eqBytes, q⟩
theorem c_neBytes {a b : Array UInt8} (q : P (a.toList != b.toList)) : ∃ t, Is2 c H (compareOp .NotEq) (.bytes a) (.bytes b) (.bool t) ∧ P t := ⟨_, Is.neBytes, q⟩
theorem c_neBool {a b : Bool} (q : P (a != b)) : ∃ t, Is2 c H (compareOp .NotEq) (.bool a) (.bool b) (.bool t) ∧ P t := ⟨_, Is.neBool, q⟩
theorem c_isNone {x : V} (q : P x.isNone) : ∃ t, Is2 c H (compareOp .Is) x .none (.bool t) ∧ P t := ⟨_, Is.isNone, q⟩
theorem c_notNone {x : V} (q : P (!x.isNone)) : ∃ t, Is2 c H (compareOp .IsNot) x .none (.bool t) ∧ P t := ⟨_, Is.notNone, q⟩
theorem t_bool {b : Bool} (q : P b) : ∃ t, Tr c H (.bool b) t ∧ P t := ⟨_, Tr.bool, q⟩
theorem t_int {a : Int} (q : P (decide (a ≠ 0))) : ∃ t, Tr c H (.int a) t ∧ P t := ⟨_, Tr.int, q⟩
theorem t_none (q : P false) : ∃ t, Tr c H .none t ∧ P t := ⟨_, Tr.none, q⟩
end
section
variable {c : Cx} {ρ : Loc} {H : Hp} {Q : V → Hp → Prop} {X : XP} {a b : Int}
theorem d_add (q : Q (.int (a + b)) H) : Do2 c (.int a) (.int b) (binaryOp .Add) ρ H Q X := Do2.is Is.add q
theorem d_sub (q : Q (.int (a - b)) H) : Do2 c (.int a) (.int b) (binaryOp .Sub) ρ H Q X := Do2.is Is.sub q
theorem d_mul (h : IntMulOk a b) (q : Q (.int (a * b)) H) : Do2 c (.int a) (.int b) (binaryOp .Mult) ρ H Q X := Do2.is (Is.mul h) q
theorem d_mod (h : b ≠ 0) (q : Q (.int (a.fmod b)) H) : Do2 c (.int a) (.int b) (binaryOp .Mod) ρ H Q X := Do2.is (Is.mod h) q
theorem d_fdiv (h : b ≠ 0) (h2 : b.natAbs < 1073741824) (q : Q (.int (a.fdiv b)) H) : Do2 c (.int a) (.int b) (binaryOp .FloorDiv) ρ H Q X := Do2.is (Is.fdiv h h2) q
theorem d_band (q : Q (.int (Builtin.bitAnd a b)) H) : Do2 c (.int a) (.int b) (binaryOp .BitAnd) ρ H Q X := Do2.is Is.band q
theorem d_bxor (q : Q (.int (Builtin.bitXor a b)) H) : Do2 c (.int a) (.int b) (binaryOp .BitXor) ρ H Q X := Do2.is Is.bxor q
theorem d_neg (q : Q (.int (-a)) H) : Do1 c (.int a) (unaryOp .USub) ρ H Q X := Do1.is Is.neg q
theorem d_iadd (q : Q (.int (a + b)) H) : Do2 c (.int a) (.int b) (inplaceOp .Add) ρ H Q X := Do2.is Is.iadd q
theorem d_isub (q : Q (.int (a - b)) H) : Do2 c (.int a) (.int b) (inplaceOp .Sub) ρ H Q X := Do2.is Is.isub q
end
end
section

theorem caller_clean : Clean ⟨.builtin "claim.caller" {}, none, none, [], none⟩ := ⟨by decide +kernel, fun x hx => nomatch hx⟩

/-- the thread of the call comes to its end -/
theorem threadR {prog : Program} {w : World} {t : Sem Fin} {s : Shared} {R : Result → Shared → Prop} (hreg : s.asleep)
    (h : wpR (model prog w) callerA t (fun fin s' => ∃ f, fin = .done f ∧ (R (.ok f) s' ∧ leftWithCleanup s'.gens = false)) (fun e s' => R (.error e) s' ∧ leftWithCleanup s'.gens = false) s) :
    ∃ n r s' s'', runN (denote table) prog w n s ⟨t, .builtin "claim.caller" {}, default, []⟩ = .halted (outcomeOf r) s' ∧
      schedN (denote table) prog w n (.single s ⟨t, .builtin "claim.caller" {}, default, []⟩) = .halted (outcomeOf r) s' ∧ s'.forget = s''.forget ∧ R r s'' := by
  have main := h ⟨.builtin "claim.caller" {}, none, none, [], none⟩ default caller_in caller_clean
  obtain ⟨n, r, s₁, s₂, hs, hn, hfo, hR⟩ := wp_halts_full (M := model prog w) (R := R) hreg (Sem.wp_mono _ _ _ (fun fin p' s' h' => by
    obtain ⟨f, rfl, hf⟩ := h'
    exact hf) (fun _ _ _ h' => h') _ _ main)
  exact ⟨n, r, s₂, s₁, hn, hs, hfo, hR⟩

/-- a claim about one call, from its walk -/
theorem callFromR {c : ClaimW} {tree : List Value → Sem Fin} {w : World} {s : Shared} {free : Addr → Prop} {gens : Prop} {kept : Heap → Prop} (hz : s.asleep) (hgens : s.gens = #[])
    (spec : ∀ args, c.pre args = true → WData.layableAll args = true → ∀ ord : List DictEntry → List DictEntry, (∀ l, (ord l).Perm l) →
      ∃ vs s₁, layAllW c.records (classAt s.heap) w.params ord args s = some (vs, s₁) ∧
        wpR (model c.prog w) callerA (tree vs) (fun fin s' => ∃ f, fin = .done f ∧ (c.Ends s args vs s₁ (.ok f) s' ∧ s'.os = s.os ∧ AllBare s'.gens ∧ kept s'.heap))
          (fun e s' => c.Ends s args vs s₁ (.error e) s' ∧ s'.os = s.os ∧ AllBare s'.gens ∧ kept s'.heap) s₁) :
    c.CallFrom (fun vs => ⟨tree vs, .builtin "claim.caller" {}, default, []⟩) w free gens kept s := by
  intro args hpre hlay ord hord
  obtain ⟨vs, s₁, hlaid, hcode⟩ := spec args hpre hlay ord hord
  have hal := layAllW_rest _ _ _ hlaid
  obtain ⟨k, r, s', s'', hrun, hsched, hfo, hcase, hos, hkp⟩ := threadR (prog := c.prog) (w := w) (t := tree vs) (s := s₁) (R := fun r s' => c.Ends s args vs s₁ r s' ∧ s'.os = s.os ∧ kept s'.heap) (Shared.asleep_of_life hal.2.2.2 hz)
    (wpR_mono hcode (fun fin s' ⟨f, e, h1, h2, h3, h4⟩ => ⟨f, e, ⟨h1, h2, h4⟩, leftWithCleanup_false_of_bare h3⟩) fun e s' ⟨h1, h2, h3, h4⟩ => ⟨⟨h1, h2, h4⟩, leftWithCleanup_false_of_bare h3⟩)
  obtain ⟨eh, _, _, eo, _⟩ := Shared.forget_eq hfo
  have hcase := hcase.congr eh
  rw [← eh] at hkp
  rw [← eo] at hos
  have hlife : s'.heap.life = s.heap.life := (runN_life _ _ _ hrun).trans hal.2.2.2
  refine ⟨vs, s₁, hlaid, k, _, s', hsched, ?_, (fun _ i x hx => by rw [hgens] at hx; simp at hx), hkp, by rw [hlife], Shared.rest_eq hos⟩
  rcases hcase with ⟨v, rfl, d1, d2, d3, d4, d5⟩ | ⟨e, ob, cls, rfl, d1, d2, d3, d4, d5⟩
  · exact .inl ⟨v, rfl, d1, d2, d3, fun b o y _ => d4 b o y, d5⟩
  · exact .inr ⟨e, ob, cls, rfl, d1, d2, d3, d4, fun b o y _ => d5 b o y⟩

/-- the walk that is wanted: as WalkO, where no decoder runs around -/
abbrev WalkR (q : Program) (loose : List Str) (XP : (Str → Option Value) → Heap → Prop) (YP : World → Heap → Prop) (r : RowW) (d : DefRec) (kwd : List (Str × Expr)) : Prop :=
  ∀ (w : World) (s₀ s₁ : Shared) (mg mb : Str → Option Value), Ground q loose r.records XP w s₀ mg mb s₁.heap → YP w s₁.heap → ∀ (a : Addr) (o : Obj) (pm cd doc dV kV : Value), s₁.heap.get? a = some o →
    o.data = .func { docDef d.name d.params d.body d.scope pm cd doc with defaults := dV, kwdefaults := kV } → s₁.heap.CodeRec cd d.name → Dflts mg s₁.heap d.params kwd dV kV → mg d.name = some (.ref a) → s₁.gens = #[] →
    ∀ (args : List WData) (vals : List Value) (as : List Addr), r.claim.pre args = true → WData.layableAll args = true → ReadsAllW r.records (classAt s₀.heap) s₁.heap vals args as → WellAll w.params s₁.heap vals args → (∀ a ∈ as, (a == sysModules) = false) →
      wpR (model r.prog w) callerA (PySem.call (.ref a) vals) (fun v s' => GoodWG r.claim (classAt s₀.heap) (ExcName.means s₀.heap) args s₁ (.ok (.ret v)) s')
        (fun e s' => GoodWG r.claim (classAt s₀.heap) (ExcName.means s₀.heap) args s₁ (.error e) s') s₁

/-- the head of an open row, with that walk -/
theorem PySem.W.holds_open {r : OpenRow} {q : Program} {loose : List Str} {Xt : Shared → Bool} {XP : (Str → Option Value) → Heap → Prop} {α : Type} {Yf : Shared → α} {Ya : World → α} {YP : World → Heap → Prop} {d : DefRec} {kwd : List (Str × Expr)} {N : Nat}
    (left : LeftO r.prog q loose Xt Yf Ya N) (hY : ∀ w s, Yf s = Ya w → YP w s.heap) (hYk : ∀ w h h', YP w h → (∀ b o, h.get? b = some o → h'.get? b = some o) → YP w h')
    (hX : ∀ s, Xt s = true → XP (s.heap.nsMap mainGlobals) s.heap) (hXk : ∀ mg h h', XP mg h → (∀ b o, h.get? b = some o → h'.get? b = some o) → XP mg h')
    (hdef : defOf q r.name = some (d, kwd)) (hp : r.prog.theDef r.name = some (d.params, d.body, d.scope)) (hk : kwWritten? d.params.kwonlyargs d.params.kw_defaults = some kwd) (hRf : ∀ s, Xt s = true → RecFacts r.records s.heap) (hwr : (!r.writes || r.records.isEmpty) = true)
    (k1 : r.wellSaid = true) (ok : (chainsOk q && opensWell r.prog && (frees r.toRowW && r.within.isEmpty)) = true) (hb : r.prog.bare) (hw : r.toRowW.promised)
    (call : WalkR q loose XP YP r.toRowW d kwd) : r.Holds := by
  have ok' := ok
  simp only [Bool.and_eq_true] at ok
  obtain ⟨⟨hch, o1⟩, k5, k6⟩ := ok
  obtain ⟨hsame, hu, ha, hap, hm⟩ := frees_parts k5
  refine ⟨k1, hw, ⟨hb, o1, by show r.toRowW.makers.map _ = []; rw [hm]; rfl⟩, hw.witness, fun w => ⟨(left.behind hX hch w).1, fun s' hs' => ?_⟩⟩
  obtain ⟨s₀, hf, hg0, s, hT, hz, hgens, hg, G00, y⟩ := (left.behind (XP := fun mg h => XP mg h ∧ RecFacts r.records h) (fun s hs => ⟨hX s hs, hRf s hs⟩) hch w).2 s' hs'
  have G0 : Ground q loose [] XP w s (s.heap.nsMap mainGlobals) (s.heap.nsMap builtinsNs) s.heap := ⟨G00.T, G00.B, G00.D, G00.TE, G00.TD, G00.W, G00.X.1, G00.cls, G00.has, G00.apart, G00.once, G00.K⟩
  have RF := G00.X.2
  have hT' := hT
  refine ⟨s₀, hf, hg0, s, hT, fun n hn => ?_, RF.1, RF.2.1, ?_⟩
  · obtain rfl : n = r.name := by split at hn <;> simp_all
    exact pinned_of_view hg G0 hdef hp hk
  have hgens : s.gens = #[] := Array.eq_empty_of_size_eq_zero (beq_iff_eq.mp hgens)
  have G : Ground q loose r.records XP w s _ _ s.heap := RF.ground G0
  refine callFromR (c := r.toRowW.claim) (tree := fun vs => do match ← nsGet mainNs r.name with
      | some f => do ret (← PySem.call f vs)
      | none => unsupported "claim.caller:no-such-global") hz hgens fun args hpre hlay ord hord => ?_
  obtain ⟨⟨vs, s₁⟩, hlaid⟩ := Option.isSome_iff_exists.mp (layAllW_isSome (P := w.params) (ord := ord) G.has args r.args s (pre_splitW hpre).1)
  have keeps := layAllW_keeps _ _ _ hlaid
  have hal := layAllW_rest _ _ _ hlaid
  obtain ⟨as, hrd, hin, hold⟩ := reads_layAllW hord _ _ _ hlaid hlay s₁.heap (fun _ _ e => e)
  have L : Laid r.records w s s₁ args vs as := ⟨⟨ord, hord, hlaid⟩, hrd, hin, hold, keeps, hal.1.trans hgens, hal.2.2.1⟩
  have G₁ := G.keeps hXk keeps
  obtain ⟨a, o, pm, cd, doc, dV, kV, h1, h2, h3, h4, h5⟩ := G₁.fn hdef
  have h := call w s s₁ _ _ G₁ (hYk _ _ _ (hY w s y) keeps) a o pm cd doc dV kV h2 h3 h4 h5 (defOf_name hdef ▸ h1) L.gens args vs as hpre hlay L.reads L.well (L.low G.low)
  have hi := ident_freeW hu ha hap
  have hwi : r.toRowW.claim.within = [] := List.isEmpty_iff.mp k6
  refine ⟨vs, s₁, hlaid, wpR_leaf (wpAny_nsGet G₁.T.g ?_)⟩
  rw [h1]
  refine wpR_bind (wpR_mono h (fun v s' g => wpR_pure ⟨_, rfl, ?_⟩) fun e s' g => ?_)
  · have z := g.laid (c := r.toRowW.claim) hsame hwi hi L
    exact ⟨z.1, z.2.1, z.2.2, fun q => ⟨namesKept_of hT' hg _ keeps g.2.1.old, noTable hwr q⟩⟩
  · have z := g.laid (c := r.toRowW.claim) hsame hwi hi L
    exact ⟨z.1, z.2.1, z.2.2, fun q => ⟨namesKept_of hT' hg _ keeps g.2.1.old, noTable hwr q⟩⟩
end
open_top hd for PySem.Challenge.rw_dk5006_01
section

def signs : List (Str × Array UInt8) := [(Str.ofString "a", #[97]), (Str.ofString "é", #[195, 169]), (Str.ofString "€", #[226, 130, 172]), (Str.ofString "😀", #[240, 159, 152, 128])]
def signV (p : Str × Array UInt8) : V := .tup [.str p.1, .bytes p.2]
/-- the names of the program -/
def glL : List (String × V) := [
  ("_law_number", .ref 497), ("_law_text", .ref 502), ("_law_message", .ref 507), ("_law_spelled", .ref 512), ("_law_done", .ref 519), ("_law_fed", .ref 526), ("_law_made", .ref 533), ("_law_tight", .ref 540), ("_law_frugal", .ref 547),
  ("_law_signs", .lst (signs.map signV)), ("Unpacker", .ref 445), ("Parts", .ref 481), ("OutOfData", .ref 91), ("BufferFull", .ref 79), ("StackError", .ref 116), ("newlist_hint", .ref 56), ("_MSGPACK_HEADERS", .ref 282),
  ("EX_SKIP", .int 0), ("EX_CONSTRUCT", .int 1), ("EX_READ_ARRAY_HEADER", .int 2), ("EX_READ_MAP_HEADER", .int 3),
  ("TYPE_IMMEDIATE", .int 0), ("TYPE_ARRAY", .int 1), ("TYPE_MAP", .int 2), ("TYPE_RAW", .int 3), ("TYPE_BIN", .int 4), ("TYPE_EXT", .int 5),
  ("unpack_from", .bi "_struct.unpack_from"),
  ("bytes", .ty "bytes"), ("range", .ty "range"), ("len", .bi "len"), ("isinstance", .bi "isinstance"), ("bool", .ty "bool"), ("int", .ty "int"), ("str", .ty "str"), ("list", .ty "list"), ("dict", .ty "dict"),
  ("callable", .bi "callable"), ("bytearray", .ty "bytearray"), ("min", .bi "min"), ("max", .bi "max"), ("sum", .bi "sum"), ("chr", .bi "chr"), ("type", .ty "type"),
  ("StopIteration", .ty "StopIteration"), ("RecursionError", .ty "RecursionError"), ("AssertionError", .ty "AssertionError"), ("ValueError", .ty "ValueError")]
def glT (x : Str) : Option V := (glL.map fun p => (Str.ofString p.1, p.2)).lookup x

namespace Gl
theorem g_law_number : glT "_law_number" = some (.ref 497) := by kernel_rfl
theorem g_law_text : glT "_law_text" = some (.ref 502) := by kernel_rfl
theorem g_law_message : glT "_law_message" = some (.ref 507) := by kernel_rfl
theorem g_law_spelled : glT "_law_spelled" = some (.ref 512) := by kernel_rfl
theorem g_law_done : glT "_law_done" = some (.ref 519) := by kernel_rfl
theorem g_law_fed : glT "_law_fed" = some (.ref 526) := by kernel_rfl
theorem g_law_made : glT "_law_made" = some (.ref 533) := by kernel_rfl
theorem g_law_tight : glT "_law_tight" = some (.ref 540) := by kernel_rfl
theorem g_law_frugal : glT "_law_frugal" = some (.ref 547) := by kernel_rfl
theorem g_law_signs : glT "_law_signs" = some (.lst (signs.map signV)) := by kernel_rfl
theorem g_Unpacker : glT "Unpacker" = some (.ref 445) := by kernel_rfl
theorem g_Parts : glT "Parts" = some (.ref 481) := by kernel_rfl
theorem g_OutOfData : glT "OutOfData" = some (.ref 91) := by kernel_rfl
theorem g_BufferFull : glT "BufferFull" = some (.ref 79) := by kernel_rfl
theorem g_StackError : glT "StackError" = some (.ref 116) := by kernel_rfl
theorem g_newlist_hint : glT "newlist_hint" = some (.ref 56) := by kernel_rfl
theorem g_MSGPACK_HEADERS : glT "_MSGPACK_HEADERS" = some (.ref 282) := by kernel_rfl
theorem g_EX_SKIP : glT "EX_SKIP" = some (.int 0) := by kernel_rfl
theorem g_EX_CONSTRUCT : glT "EX_CONSTRUCT" = some (.int 1) := by kernel_rfl
theorem g_EX_READ_ARRAY_HEADER : glT "EX_READ_ARRAY_HEADER" = some (.int 2) := by kernel_rfl
theorem g_EX_READ_MAP_HEADER : glT "EX_READ_MAP_HEADER" = some (.int 3) := by kernel_rfl
theorem g_TYPE_IMMEDIATE : glT "TYPE_IMMEDIATE" = some (.int 0) := by kernel_rfl
theorem g_TYPE_ARRAY : glT "TYPE_ARRAY" = some (.int 1) := by kernel_rfl
theorem g_TYPE_MAP : glT "TYPE_MAP" = some (.int 2) := by kernel_rfl
theorem g_TYPE_RAW : glT "TYPE_RAW" = some (.int 3) := by kernel_rfl
theorem g_TYPE_BIN : glT "TYPE_BIN" = some (.int 4) := by kernel_rfl
theorem g_TYPE_EXT : glT "TYPE_EXT" = some (.int 5) := by kernel_rfl
theorem g_unpack_from : glT "unpack_from" = some (.bi "_struct.unpack_from") := by kernel_rfl
theorem g_bytes : glT "bytes" = some (.ty "bytes") := by kernel_rfl
theorem g_range : glT "range" = some (.ty "range") := by kernel_rfl
theorem g_len : glT "len" = some (.bi "len") := by kernel_rfl
theorem g_isinstance : glT "isinstance" = some (.bi "isinstance") := by kernel_rfl
theorem g_bool : glT "bool" = some (.ty "bool") := by kernel_rfl
theorem g_int : glT "int" = some (.ty "int") := by kernel_rfl
theorem g_str : glT "str" = some (.ty "str") := by kernel_rfl
theorem g_list : glT "list" = some (.ty "list") := by kernel_rfl
theorem g_dict : glT "dict" = some (.ty "dict") := by kernel_rfl
theorem g_callable : glT "callable" = some (.bi "callable") := by kernel_rfl
theorem g_bytearray : glT "bytearray" = some (.ty "bytearray") := by kernel_rfl
theorem g_min : glT "min" = some (.bi "min") := by kernel_rfl
theorem g_max : glT "max" = some (.bi "max") := by kernel_rfl
theorem g_sum : glT "sum" = some (.bi "sum") := by kernel_rfl
theorem g_chr : glT "chr" = some (.bi "chr") := by kernel_rfl
theorem g_type : glT "type" = some (.ty "type") := by kernel_rfl
theorem g_StopIteration : glT "StopIteration" = some (.ty "StopIteration") := by kernel_rfl
theorem g_RecursionError : glT "RecursionError" = some (.ty "RecursionError") := by kernel_rfl
theorem g_AssertionError : glT "AssertionError" = some (.ty "AssertionError") := by kernel_rfl
theorem g_ValueError : glT "ValueError" = some (.ty "ValueError") := by kernel_rfl
end Gl
theorem sz {n : Nat} (h : n.ble 1000000 = true) : n ≤ sizeLine := by have := Nat.le_of_ble_eq_true h; rw [sizeLine_eq]; omega
theorem Cl.bytes1 {c : Cx} {ρ : Loc} {H : Hp} {Q : V → Hp → Prop} {X : XP} {a : Int} (hh : c.A.handled = none) (h0 : 0 ≤ a) (h1 : a < 256) (q : Q (.bytes (byteArr [a])) H) : Cl c (.ty "bytes") [.lst [.int a]] [] ρ H Q X :=
  Cl.bytesInts (ns := [a]) hh (fun n hn => by rw [List.mem_singleton.mp hn]; exact ⟨h0, h1⟩) (Nat.le_of_ble_eq_true rfl) q
structure Ok (c : Cx) : Prop where
  K : c.K = hd.heap_39 c.w.params
  gl : c.gl = glT
theorem Ok.callee {c c' : Cx} {scope : Scope} {cells : List (Str × Addr)} (B : Ok c) (C : Callee c c' scope cells) : Ok c' := ⟨by rw [C.K, B.K, C.w], by rw [C.gl, B.gl]⟩

theorem Ok.inner {c c' : Cx} {scope : Scope} {cells : List (Str × Addr)} (B : Ok c) (C : Inner c c' scope cells) : Ok c' := ⟨by rw [C.K, B.K, C.w], by rw [C.gl, B.gl]⟩
theorem imul {a b : Int} (h : a.natAbs < 2 ^ 64) : IntMulOk a b := IntMulOk.of_left (intBits_le_iff.mpr h)
/-- a global name -/
theorem Ev.g {c : Cx} {ρ : Loc} {H : Hp} {Q : V → Hp → Prop} {X : XP} {x : Str} {pos : Pos} {v : V} (B : Ok c) (h : glT x = some v) (hk : c.env.scope.names.lookup x = some .globalImplicit) (q : Q v H) (d : (x == ("__debug__" : Str)) = false := by decide) : Ev c (.Name x pos) ρ H Q X :=
  Ev.glob (by rw [B.gl]; exact h) q hk d


end
section

/-- the octets of the parts -/
def flat (ps : List (Array UInt8)) : List UInt8 := (ps.map Array.toList).flatten
theorem flat_cons (q : Array UInt8) (ps : List (Array UInt8)) : flat (q :: ps) = q.toList ++ flat ps := rfl
theorem flat_nil : flat [] = [] := rfl
/-- what a file is asked, and what it gives: R the least it is asked for, S the octets that are due -/
inductive Frug (R S : Nat) : List UInt8 → List (Array UInt8) → List Int → List UInt8 → List (Array UInt8) → Bool → Prop
  | done {u : List UInt8} {ps : List (Array UInt8)} : Frug R S u ps [] u ps false
  | step {u u' : List UInt8} {q : Array UInt8} {ps ps' : List (Array UInt8)} {as : List Int} {need n : Nat} {e : Bool} : u.length < need → need ≤ S → n = max R (need - u.length) → q.size ≠ 0 →
      Frug R S (u ++ q.toList.take n) (if n < q.size then (q.toList.drop n).toArray :: ps else ps) as u' ps' e → Frug R S u (q :: ps) ((n : Int) :: as) u' ps' e
  | last {u : List UInt8} {need n : Nat} : u.length < need → need ≤ S → n = max R (need - u.length) → Frug R S u [] [(n : Int)] u [] true
theorem Frug.trans {R S : Nat} {u u1 u2 : List UInt8} {ps ps1 ps2 : List (Array UInt8)} {as as1 : List Int} {e b : Bool} (h : Frug R S u ps as u1 ps1 b) : b = false → Frug R S u1 ps1 as1 u2 ps2 e → Frug R S u ps (as ++ as1) u2 ps2 e := by
  induction h with
  | done => intro _ k; exact k
  | step a b c d _ ih => intro e k; exact .step a b c d (ih e k)
  | last a b c => intro e; cases e
theorem Frug.flat {R S : Nat} {u u' : List UInt8} {ps ps' : List (Array UInt8)} {as : List Int} {e : Bool} (h : Frug R S u ps as u' ps' e) : u' ++ flat ps' = u ++ flat ps := by
  induction h with
  | done => rfl
  | @step u u' q ps ps' as need n e a b c d _ ih =>
    rw [ih, flat_cons, List.append_assoc]
    congr 1
    split
    · rw [flat_cons, List.toList_toArray, ← List.append_assoc, List.take_append_drop]
    · rename_i h
      rw [List.take_of_length_le (by rw [Array.length_toList]; omega)]
  | last => rfl
theorem Frug.len {R S : Nat} {u u' : List UInt8} {ps ps' : List (Array UInt8)} {as : List Int} {e : Bool} (h : Frug R S u ps as u' ps' e) : u.length ≤ u'.length := by
  induction h with
  | done => exact Nat.le_refl _
  | @step u u' q ps ps' as need n e a b c d _ ih => rw [List.length_append] at ih; omega
  | last => exact Nat.le_refl _
theorem Frug.pre {R S : Nat} {u u' : List UInt8} {ps ps' : List (Array UInt8)} {as : List Int} {e : Bool} (h : Frug R S u ps as u' ps' e) : u <+: u' := by
  induction h with
  | done => exact List.prefix_refl _
  | @step u u' q ps ps' as need n e a b c d _ ih => exact (List.prefix_append ..).trans ih
  | last => exact List.prefix_refl _
theorem Frug.end {R S : Nat} {u u' : List UInt8} {ps ps' : List (Array UInt8)} {as : List Int} {e : Bool} (h : Frug R S u ps as u' ps' e) : e = true → ps' = [] ∧ u'.length < S := by
  induction h with
  | done => intro e; cases e
  | step a b c d _ ih => exact ih
  | last a b c => intro _; exact ⟨rfl, by omega⟩
theorem Frug.asked {R S : Nat} {u u' : List UInt8} {ps ps' : List (Array UInt8)} {as : List Int} {e : Bool} (h : Frug R S u ps as u' ps' e) : ∀ n ∈ as, (R : Int) ≤ n ∧ n ≤ (max R S : Nat) := by
  induction h with
  | done => intro n hn; cases hn
  | step a b c d _ ih =>
    intro n hn
    rcases List.mem_cons.mp hn with rfl | hn
    · exact ⟨by omega, by omega⟩
    · exact ih n hn
  | last a b c =>
    intro n hn
    rw [List.mem_singleton] at hn
    subst hn
    exact ⟨by omega, by omega⟩
theorem Frug.parts {R S : Nat} {u u' : List UInt8} {ps ps' : List (Array UInt8)} {as : List Int} {e : Bool} (h : Frug R S u ps as u' ps' e) : (∀ q ∈ ps, q.size ≠ 0) → ∀ q ∈ ps', q.size ≠ 0 := by
  induction h with
  | done => intro k; exact k
  | @step u u' q ps ps' as need n e a b c d _ ih =>
    intro k
    refine ih fun x hx => ?_
    split at hx
    · rename_i hn
      rcases List.mem_cons.mp hx with rfl | hx
      · rw [List.size_toArray, List.length_drop, Array.length_toList]; omega
      · exact k x (.tail _ hx)
    · exact k x (.tail _ hx)
  | last => intro k; exact k
theorem Frug.one {S : Nat} {u u' : List UInt8} {ps ps' : List (Array UInt8)} {as : List Int} {e : Bool} (h : Frug 1 S u ps as u' ps' e) : u'.length ≤ max u.length S := by
  generalize hR : 1 = R at h
  induction h with
  | done => omega
  | @step u u' q ps ps' as need n e a b c d _ ih =>
    subst hR
    rw [List.length_append] at ih
    have := List.length_take_le n q.toList
    omega
  | last a b c => omega
theorem Frug.asLen {R S : Nat} {u u' : List UInt8} {ps ps' : List (Array UInt8)} {as : List Int} {e : Bool} (hR : 1 ≤ R) (h : Frug R S u ps as u' ps' e) : as.length + (Mine.flat ps').length ≤ (Mine.flat ps).length + (if e then 1 else 0) := by
  induction h with
  | done => simp
  | @step u u' q ps ps' as need n e a b c d _ ih =>
    have hq : q.toList.length = q.size := Array.length_toList
    rw [List.length_cons, flat_cons, List.length_append]
    generalize (if e = true then 1 else 0) = E at ih ⊢
    by_cases hn : n < q.size
    · rw [if_pos hn, flat_cons, List.length_append, List.toList_toArray, List.length_drop] at ih
      omega
    · rw [if_neg hn] at ih
      omega
  | last => simp [flat_nil]

/-- the addresses of a reader and its file -/
structure RA where
  a : Addr
  d : Addr
  ba : Addr
  f : Addr
  fd : Addr
  pl : Addr
  al : Addr
abbrev RA.es (A : RA) (R M i k off : Int) : List (Str × V) :=
  [("file_like", .ref A.f), ("_feeding", .bool false), ("_buffer", .ref A.ba), ("_buff_i", .int i), ("_buf_checkpoint", .int k), ("_max_buffer_size", .int M), ("_read_size", .int R), ("_raw", .bool false),
   ("_strict_map_key", .bool true), ("_unicode_errors", .str "strict"), ("_use_list", .bool true), ("_timestamp", .int 0), ("_list_hook", .none), ("_object_hook", .none), ("_object_pairs_hook", .none), ("_ext_hook", .ref 160),
   ("_max_str_len", .int M), ("_max_bin_len", .int M), ("_max_array_len", .int M), ("_max_map_len", .int (M.fdiv 2)), ("_max_ext_len", .int M), ("_stream_offset", .int off)]
abbrev FH (A : RA) (ps : List (Array UInt8)) (as : List Int) (G : Hp) : Hp :=
  (A.f, .inst 481 A.fd) :: (A.fd, .dict [("parts", .ref A.pl), ("asked", .ref A.al)]) :: (A.pl, .list (ps.map V.bytes)) :: (A.al, .list (as.map V.int)) :: G
abbrev RH (A : RA) (R M : Int) (b : Array UInt8) (i k off : Int) (ps : List (Array UInt8)) (as : List Int) (G : Hp) : Hp :=
  (A.a, .inst 445 A.d) :: (A.d, .dict (A.es R M i k off)) :: (A.ba, .ba b) :: FH A ps as G

/-- what a reader is about: one message -/
structure Task where
  A : RA
  R : Nat
  M : Nat
  S : Nat
  u0 : List UInt8
  ps0 : List (Array UInt8)
  as0 : List Int
  off : Nat
  W : List UInt8
abbrev Task.B (T : Task) : Nat := min T.S T.M
structure Task.OK (T : Task) : Prop where
  R1 : 1 ≤ T.R
  R2 : T.R ≤ 100000
  M1 : 1 ≤ T.M
  M2 : T.M ≤ 104857600
  S1 : T.S ≤ 1000
  W : T.u0 ++ flat T.ps0 <+: T.W
  parts : ∀ q ∈ T.ps0, q.size ≠ 0
  size : T.off + T.u0.length + (flat T.ps0).length ≤ 10000
  asks : T.as0.length ≤ 10000
/-- the heap where p octets of the message are told and m are at hand -/
def Rs (T : Task) (p m : Nat) (G H : Hp) : Prop := ∃ pre u ps as, Frug T.R T.B T.u0 T.ps0 as u ps false ∧ p ≤ u.length ∧ m ≤ u.length ∧ pre.length ≤ T.off ∧
  H = RH T.A T.R T.M (pre ++ u).toArray ((pre.length + p : Nat) : Int) ((pre.length : Nat) : Int) T.off ps (T.as0 ++ as) G
/-- the heap where the file has ended -/
def Ended (T : Task) (G H : Hp) : Prop := ∃ u as, Frug T.R T.B T.u0 T.ps0 as u [] true ∧ H = RH T.A T.R T.M u.toArray 0 0 T.off [] (T.as0 ++ as) G
/-- the heap where the room is full -/
def Fulls (T : Task) (G H : Hp) : Prop := ∃ b i k ps as, H = RH T.A T.R T.M b i k T.off ps as G
theorem clip_nat (len n : Nat) : clipAt len (n : Int) = min n len := by
  unfold clipAt
  omega
theorem cutL_drop {α : Type} (xs : List α) (n : Nat) : cutL xs (some (n : Int)) none = xs.drop n := by
  unfold cutL
  show (xs.drop (clipAt xs.length (n : Int))).take (xs.length - clipAt xs.length (n : Int)) = _
  rw [clip_nat, List.take_of_length_le (by rw [List.length_drop]; omega)]
  by_cases h : n ≤ xs.length
  · rw [Nat.min_eq_left h]
  · rw [Nat.min_eq_right (by omega), List.drop_length, List.drop_eq_nil_of_le (by omega)]
theorem cutL_take {α : Type} (xs : List α) (n : Nat) : cutL xs none (some (n : Int)) = xs.take n := by
  unfold cutL
  show (xs.drop 0).take (clipAt xs.length (n : Int) - 0) = _
  rw [clip_nat, List.drop_zero, Nat.sub_zero]
  by_cases h : n ≤ xs.length
  · rw [Nat.min_eq_left h]
  · rw [Nat.min_eq_right (by omega), List.take_length, List.take_of_length_le (by omega)]
theorem cutL_mid {α : Type} (xs : List α) (i n : Nat) : cutL xs (some (i : Int)) (some ((i + n : Nat) : Int)) = (xs.drop i).take n := by
  unfold cutL
  show (xs.drop (clipAt xs.length (i : Int))).take (clipAt xs.length ((i + n : Nat) : Int) - clipAt xs.length (i : Int)) = _
  rw [clip_nat, clip_nat]
  by_cases h : i ≤ xs.length
  · rw [Nat.min_eq_left h]
    by_cases h2 : i + n ≤ xs.length
    · rw [Nat.min_eq_left h2]; congr 1; omega
    · rw [Nat.min_eq_right (by omega), List.take_of_length_le (by rw [List.length_drop]; omega), List.take_of_length_le (by rw [List.length_drop]; omega)]
  · rw [Nat.min_eq_right (by omega), Nat.min_eq_right (by omega), List.drop_length, List.drop_eq_nil_of_le (by omega)]; simp
end
section

theorem pre_drop {α : Type} (pre u : List α) (p : Nat) : (pre ++ u).drop (pre.length + p) = u.drop p := by
  rw [← List.drop_drop, List.drop_left]
theorem pre_get {α : Type} (pre u : List α) (p : Nat) : (pre ++ u)[pre.length + p]? = u[p]? := by
  rw [List.getElem?_append_right (by omega)]; congr 1; omega
theorem prefix_take {α : Type} {u W : List α} (h : u <+: W) {p n : Nat} (l : p + n ≤ u.length) : (u.drop p).take n = (W.drop p).take n := by
  obtain ⟨t, rfl⟩ := h
  rw [List.drop_append_of_le_length (by omega), List.take_append_of_le_length (by rw [List.length_drop]; omega)]
theorem prefix_get {α : Type} {u W : List α} (h : u <+: W) {p : Nat} (l : p < u.length) : u[p]? = W[p]? := by
  obtain ⟨t, rfl⟩ := h
  rw [List.getElem?_append_left l]
theorem Task.OK.pre {T : Task} (ok : T.OK) {as : List Int} {u : List UInt8} {ps : List (Array UInt8)} {e : Bool} (F : Frug T.R T.B T.u0 T.ps0 as u ps e) : u <+: T.W :=
  (List.prefix_append u (Mine.flat ps)).trans (F.flat ▸ ok.W)
theorem Task.OK.len {T : Task} (ok : T.OK) {as : List Int} {u : List UInt8} {ps : List (Array UInt8)} {e : Bool} (F : Frug T.R T.B T.u0 T.ps0 as u ps e) : T.off + u.length + (Mine.flat ps).length ≤ 10000 := by
  have h := congrArg List.length F.flat
  rw [List.length_append, List.length_append] at h
  have := ok.size
  omega
theorem slice_pre (pre u : List UInt8) (p n : Nat) : (cutL (pre ++ u).toArray.toList (some ((pre.length + p : Nat) : Int)) (some (((pre.length + p : Nat) : Int) + (n : Int)))).toArray = ((u.drop p).take n).toArray := by
  rw [show (((pre.length + p : Nat) : Int) + (n : Int)) = ((pre.length + p + n : Nat) : Int) by omega, cutL_mid, List.toList_toArray, pre_drop]
end
section

namespace Bit
theorem b128 : ∀ b : Fin 256, decide (Builtin.bitAnd ((b.val : Nat) : Int) 128 = 0) = decide (b.val < 128) := by decide +kernel
theorem b224 : ∀ b : Fin 256, decide (Builtin.bitAnd ((b.val : Nat) : Int) 224 = 224) = decide (224 ≤ b.val) := by decide +kernel
theorem b160 : ∀ b : Fin 256, decide (Builtin.bitAnd ((b.val : Nat) : Int) 224 = 160) = decide (160 ≤ b.val ∧ b.val < 192) := by decide +kernel
theorem b144 : ∀ b : Fin 256, decide (Builtin.bitAnd ((b.val : Nat) : Int) 240 = 144) = decide (144 ≤ b.val ∧ b.val < 160) := by decide +kernel
theorem b240 : ∀ b : Fin 256, decide (Builtin.bitAnd ((b.val : Nat) : Int) 240 = 128) = decide (128 ≤ b.val ∧ b.val < 144) := by decide +kernel
theorem x255 : ∀ b : Fin 256, (-1 - Builtin.bitXor ((b.val : Nat) : Int) 255 : Int) = (b.val : Int) - 256 := by decide +kernel
theorem a31 : ∀ b : Fin 32, Builtin.bitAnd (((160 + b.val : Nat)) : Int) 31 = (b.val : Int) := by decide +kernel
theorem a15 : ∀ b : Fin 16, Builtin.bitAnd (((144 + b.val : Nat)) : Int) 15 = (b.val : Int) ∧ Builtin.bitAnd (((128 + b.val : Nat)) : Int) 15 = (b.val : Int) := by decide +kernel
end Bit

/-- what comes with a header -/
inductive HO where
  | val (v : V)
  | seg (o : List UInt8)
inductive HRet : HO → V → Hp → Prop
  | val {v : V} : HRet (.val v) v []
  | seg {o : List UInt8} {a : Addr} : HRet (.seg o) (.ref a) [(a, .ba o.toArray)]
def fmtS : Nat → Str
  | 0 => "" | 1 => ">H" | 2 => ">I" | 3 => ">Q" | 4 => "b" | 5 => ">h" | 6 => ">i" | _ => ">q"
def fmtC : Nat → Char
  | 1 => 'H' | 2 => 'I' | 3 => 'Q' | 4 => 'b' | 5 => 'h' | 6 => 'i' | _ => 'q'
def fmtB : Nat → Bool
  | 4 => false | _ => true
theorem fmtS_ok : ∀ {j : Nat}, j < 8 → j ≠ 0 → ∀ t, Builtin.Struct.moduleFormat (.str (fmtS j) t) = pure (BA.fmtOf (fmtC j) (2 ^ (j % 4)) (fmtB j))
  | 0, _, h, _ => absurd rfl h
  | 1, _, _, t => BA.fmt_H t
  | 2, _, _, t => BA.fmt_I t
  | 3, _, _, t => BA.fmt_Q t
  | 4, _, _, t => BA.fmt_b t
  | 5, _, _, t => BA.fmt_h t
  | 6, _, _, t => BA.fmt_i t
  | 7, _, _, t => BA.fmt_q t
  | j + 8, h, _, _ => absurd h (by omega)
theorem fmtC_ok (j : Nat) : fmtC j ∈ ['H', 'I', 'Q', 'b', 'h', 'i', 'q'] := by unfold fmtC; split <;> decide
theorem fmtS_len : ∀ j : Nat, (fmtS j).length ≤ 2 ∧ ((fmtS j).length = 0 ↔ j = 0)
  | 0 => by decide
  | 1 => by decide
  | 2 => by decide
  | 3 => by decide
  | 4 => by decide
  | 5 => by decide
  | 6 => by decide
  | j + 7 => ⟨show (Str.ofString ">q").length ≤ 2 by decide, fun h => absurd (show (Str.ofString ">q").length = 0 from h) (by decide), fun h => absurd h (by omega)⟩
/-- the number that the octets tell -/
def numSeg (j : Nat) (seg : List UInt8) : Int :=
  let n := Builtin.Struct.natOf (fmtB j) seg.toArray
  if (fmtC j).isLower && n ≥ 2 ^ (8 * 2 ^ (j % 4) - 1) then (n : Int) - 2 ^ (8 * 2 ^ (j % 4)) else n
theorem numAt_eq (j : Nat) (pre u : List UInt8) (p : Nat) : BA.numAt (fmtC j) (2 ^ (j % 4)) (fmtB j) (pre ++ u).toArray (pre.length + p) = numSeg j ((u.drop p).take (2 ^ (j % 4))) := by
  unfold BA.numAt numSeg
  have e : (pre ++ u).toArray.extract (pre.length + p) (pre.length + p + 2 ^ (j % 4)) = ((u.drop p).take (2 ^ (j % 4))).toArray := by
    rw [List.extract_toArray, List.extract_eq_take_drop, pre_drop, Nat.add_sub_cancel_left]
  rw [e]
def numJ (T : Task) (p j : Nat) : Int := if j = 0 then ((T.W.getD (p + 1) 0).toNat : Int) else numSeg j ((T.W.drop (p + 1)).take (2 ^ (j % 4)))
/-- the header at p -/
inductive Hdr (T : Task) (p : Nat) : Nat → Int → Int → HO → Nat → Prop
  | pos {b : Nat} : b < 128 → Hdr T p b 0 0 (.val (.int b)) (p + 1)
  | neg {b : Nat} : 224 ≤ b → Hdr T p b 0 0 (.val (.int ((b : Int) - 256))) (p + 1)
  | str {k : Nat} : k < 32 → k ≤ T.M → Hdr T p (160 + k) 3 k (.seg ((T.W.drop (p + 1)).take k)) (p + 1 + k)
  | arr {k : Nat} : k < 16 → k ≤ T.M → Hdr T p (144 + k) 1 k (.val .none) (p + 1)
  | map {k : Nat} : k < 16 → 2 * k ≤ T.M → Hdr T p (128 + k) 2 k (.val .none) (p + 1)
  | nil : Hdr T p 192 0 0 (.val .none) (p + 1)
  | ff : Hdr T p 194 0 0 (.val (.bool false)) (p + 1)
  | tt : Hdr T p 195 0 0 (.val (.bool true)) (p + 1)
  | bin {k : Nat} : T.W[p + 1]? = some k.toUInt8 → k < 256 → k ≤ T.M → Hdr T p 196 4 k (.seg ((T.W.drop (p + 2)).take k)) (p + 2 + k)
  | num {j : Nat} : j < 8 → Hdr T p (204 + j) 0 0 (.val (.int (numJ T p j))) (p + 1 + 2 ^ (j % 4))
section
variable {T : Task} {p b : Nat} {typ n : Int} {o : HO} {p' : Nat}
theorem Hdr.i_pos (h : Hdr T p b typ n o p') (hb : b < 128) : typ = 0 ∧ n = 0 ∧ o = .val (.int b) ∧ p' = p + 1 := by
  cases h <;> first | exact ⟨rfl, rfl, rfl, rfl⟩ | omega
theorem Hdr.i_neg (h : Hdr T p b typ n o p') (hb : 224 ≤ b) : typ = 0 ∧ n = 0 ∧ o = .val (.int ((b : Int) - 256)) ∧ p' = p + 1 := by
  cases h <;> first | exact ⟨rfl, rfl, rfl, rfl⟩ | omega
theorem Hdr.i_str (h : Hdr T p b typ n o p') (h1 : 160 ≤ b) (h2 : b < 192) : ∃ k, k < 32 ∧ k ≤ T.M ∧ b = 160 + k ∧ typ = 3 ∧ n = k ∧ o = .seg ((T.W.drop (p + 1)).take k) ∧ p' = p + 1 + k := by
  cases h <;> first | exact ⟨_, by assumption, by assumption, rfl, rfl, rfl, rfl, rfl⟩ | omega
theorem Hdr.i_arr (h : Hdr T p b typ n o p') (h1 : 144 ≤ b) (h2 : b < 160) : ∃ k, k < 16 ∧ k ≤ T.M ∧ b = 144 + k ∧ typ = 1 ∧ n = k ∧ o = .val .none ∧ p' = p + 1 := by
  cases h <;> first | exact ⟨_, by assumption, by assumption, rfl, rfl, rfl, rfl, rfl⟩ | omega
theorem Hdr.i_map (h : Hdr T p b typ n o p') (h1 : 128 ≤ b) (h2 : b < 144) : ∃ k, k < 16 ∧ 2 * k ≤ T.M ∧ b = 128 + k ∧ typ = 2 ∧ n = k ∧ o = .val .none ∧ p' = p + 1 := by
  cases h <;> first | exact ⟨_, by assumption, by assumption, rfl, rfl, rfl, rfl, rfl⟩ | omega
theorem Hdr.i_nil (h : Hdr T p b typ n o p') (h1 : b = 192) : typ = 0 ∧ n = 0 ∧ o = .val .none ∧ p' = p + 1 := by
  cases h <;> first | exact ⟨rfl, rfl, rfl, rfl⟩ | omega
theorem Hdr.i_ff (h : Hdr T p b typ n o p') (h1 : b = 194) : typ = 0 ∧ n = 0 ∧ o = .val (.bool false) ∧ p' = p + 1 := by
  cases h <;> first | exact ⟨rfl, rfl, rfl, rfl⟩ | omega
theorem Hdr.i_tt (h : Hdr T p b typ n o p') (h1 : b = 195) : typ = 0 ∧ n = 0 ∧ o = .val (.bool true) ∧ p' = p + 1 := by
  cases h <;> first | exact ⟨rfl, rfl, rfl, rfl⟩ | omega
theorem Hdr.i_bin (h : Hdr T p b typ n o p') (h1 : 196 ≤ b) (h2 : b ≤ 198) : b = 196 ∧ ∃ k, T.W[p + 1]? = some k.toUInt8 ∧ k < 256 ∧ k ≤ T.M ∧ typ = 4 ∧ n = k ∧ o = .seg ((T.W.drop (p + 2)).take k) ∧ p' = p + 2 + k := by
  cases h <;> first | exact ⟨rfl, _, by assumption, by assumption, by assumption, rfl, rfl, rfl, rfl⟩ | omega
theorem Hdr.i_num (h : Hdr T p b typ n o p') (h1 : 202 ≤ b) (h2 : b ≤ 211) : ∃ j, j < 8 ∧ b = 204 + j ∧ typ = 0 ∧ n = 0 ∧ o = .val (.int (numJ T p j)) ∧ p' = p + 1 + 2 ^ (j % 4) := by
  cases h <;> first | exact ⟨_, by assumption, rfl, rfl, rfl, rfl, rfl⟩ | omega
theorem Hdr.i_rest (h : Hdr T p b typ n o p') (h1 : 212 ≤ b ∧ b < 224 ∨ b = 193) : False := by
  cases h <;> omega
theorem Hdr.i_no (h : Hdr T p b typ n o p') (h1 : (199 ≤ b ∧ b ≤ 201) ∨ (212 ≤ b ∧ b < 224) ∨ b = 193) : False := by
  cases h <;> omega
end
theorem tab_item {c : Cx} {ρ : Loc} {H : Hp} {Q : V → Hp → Prop} {X : XP} {a : Addr} {k : Int} {n : Nat} {v : V} (h : (tabGet c.K a k).bind (readV c.K n) = some v) (q : Q v H) :
    ∃ T id, HasItem c H (.ref a) T id ∧ Do2 c (.ref a) (.int k) (fun o i => getItem o i) ρ H Q X := by
  obtain ⟨val, h1, h2⟩ := Option.bind_eq_some_iff.mp h
  have h1' := h1
  unfold tabGet at h1'
  obtain ⟨es, e1, e2⟩ := Option.bind_eq_some_iff.mp h1'
  exact ⟨_, _, HasItem.tab e1, It1.tab h1 h2 q⟩
end
section

theorem Cl.typeStr {c : Cx} {ρ : Loc} {H : Hp} {Q : V → Hp → Prop} {X : XP} {x : Str} (q : Q (.ty "str") H) : Cl c (.ty "type") [.str x] [] ρ H Q X := fun z s vf vs ks S hf hv hk => by
  cases hf; cases hk
  obtain _ | ⟨h1, h2⟩ := hv; cases h1; cases h2
  exact of (call_type_of (typeIs_str _ _ _) rfl (postV (n := s.toks) S (.ty _) q))
theorem Is.notTySame {c : Cx} {H : Hp} {T : String} : Is2 c H (compareOp .IsNot) (.ty T) (.ty T) (.bool false) := fun z ρ s v w Q E S hv hw h => by
  cases hv; cases hw; exact isnot_type_same (h _ s.toks (.bool _))
theorem rot7 {α : Type} {x a b c d e f g : α} {G : List α} : (x :: a :: b :: c :: d :: e :: f :: g :: G).Perm (a :: b :: c :: d :: e :: f :: g :: x :: G) := by
  have h : ([x] ++ [a, b, c, d, e, f, g]).Perm ([a, b, c, d, e, f, g] ++ [x]) := List.perm_append_comm
  exact h.append_right G
theorem RH.rot {x : Addr × AObj} {A : RA} {R M i k off : Int} {b : Array UInt8} {ps : List (Array UInt8)} {as : List Int} {G : Hp} : (x :: RH A R M b i k off ps as G).Perm (RH A R M b i k off ps as (x :: G)) := rot7
theorem Rs.pull {T : Task} {p m : Nat} {x : Addr × AObj} {G H : Hp} (h : Rs T p m G H) : ∃ H', (x :: H).Perm H' ∧ Rs T p m (x :: G) H' := by
  obtain ⟨pre, u, ps, as, F, a, b, d, rfl⟩ := h
  exact ⟨_, RH.rot, pre, u, ps, as, F, a, b, d, rfl⟩
theorem Rs.push {T : Task} {p m : Nat} {x : Addr × AObj} {G H : Hp} (h : Rs T p m (x :: G) H) : ∃ H', H.Perm (x :: H') ∧ Rs T p m G H' := by
  obtain ⟨pre, u, ps, as, F, a, b, d, rfl⟩ := h
  exact ⟨_, RH.rot.symm, pre, u, ps, as, F, a, b, d, rfl⟩
theorem Rs.at {T : Task} {p m : Nat} {G H : Hp} (h : Rs T p m G H) : Rs T p p G H := by
  obtain ⟨pre, u, ps, as, F, a, b, d, rfl⟩ := h
  exact ⟨pre, u, ps, as, F, a, a, d, rfl⟩

/-- one that is no row and no map, at p -/
def Lf (T : Task) (p : Nat) (v : V) (p' : Nat) : Prop := ∃ u8 typ n o, T.W[p]? = some u8 ∧ Hdr T p u8.toNat typ n o p' ∧
  ((typ = 0 ∧ o = .val v) ∨ (typ = 3 ∧ ∃ s x, o = .seg s ∧ Spells s.toArray x ∧ v = .str x) ∨ (typ = 4 ∧ ∃ s, o = .seg s ∧ v = .bytes s.toArray))
theorem Hdr.le {T : Task} {p b : Nat} {typ n : Int} {o : HO} {p' : Nat} (h : Hdr T p b typ n o p') : p + 1 ≤ p' := by
  cases h <;> first | omega | exact Nat.le_add_right _ _
theorem Lf.le {T : Task} {p : Nat} {v : V} {p' : Nat} (h : Lf T p v p') : p + 1 ≤ p' := by
  obtain ⟨_, _, _, _, _, h, _⟩ := h; exact h.le
theorem Hdr.segLen {T : Task} {p b : Nat} {typ n : Int} {s : List UInt8} {p' : Nat} (h : Hdr T p b typ n (.seg s) p') : s.length ≤ 255 := by
  cases h with
  | str h1 h2 => rw [List.length_take]; omega
  | bin h1 h2 h3 => rw [List.length_take]; omega
inductive Chain (T : Task) : Nat → List V → Nat → Prop
  | nil {p : Nat} : Chain T p [] p
  | cons {p p1 p' : Nat} {v : V} {vs : List V} : Lf T p v p1 → Chain T p1 vs p' → Chain T p (v :: vs) p'
theorem Chain.le {T : Task} {p p' : Nat} {vs : List V} (h : Chain T p vs p') : p ≤ p' := by
  induction h with
  | nil => exact Nat.le_refl _
  | cons a _ ih => have := a.le; omega
inductive Pairs (T : Task) : Nat → List (Str × V) → Nat → Prop
  | nil {p : Nat} : Pairs T p [] p
  | cons {p p1 p2 p' : Nat} {x : Str} {v : V} {es : List (Str × V)} : Lf T p (.str x) p1 → Lf T p1 v p2 → Pairs T p2 es p' → Pairs T p ((x, v) :: es) p'
theorem Pairs.le {T : Task} {p p' : Nat} {es : List (Str × V)} (h : Pairs T p es p') : p ≤ p' := by
  induction h with
  | nil => exact Nat.le_refl _
  | cons a b _ ih => have := a.le; have := b.le; omega
/-- what is read -/
inductive Mv where
  | one (v : V)
  | map (es : List (Str × V))
inductive Told : Mv → V → Hp → Hp → Prop
  | one {v : V} {G : Hp} : Told (.one v) v G G
  | map {es : List (Str × V)} {a : Addr} {G : Hp} : a ≠ sysModules → Told (.map es) (.ref a) G ((a, .dict es) :: G)
inductive Msg (T : Task) (p : Nat) : Mv → Nat → Prop
  | lf {v : V} {p' : Nat} : Lf T p v p' → Msg T p (.one v) p'
  | arr {u8 : UInt8} {vs : List V} {p' : Nat} : T.W[p]? = some u8 → Hdr T p u8.toNat 1 (vs.length : Int) (.val .none) (p + 1) → Chain T (p + 1) vs p' → Msg T p (.one (.lst vs)) p'
  | map {u8 : UInt8} {es : List (Str × V)} {p' : Nat} : T.W[p]? = some u8 → Hdr T p u8.toNat 2 (es.length : Int) (.val .none) (p + 1) → Pairs T (p + 1) es p' → (es.map (·.1)).Nodup → Msg T p (.map es) p'
end
section
theorem Hdr.n1 {T : Task} {p b : Nat} {n : Int} {o : HO} {p' : Nat} (h : Hdr T p b 1 n o p') : n < 16 := by cases h; omega
theorem Hdr.n2 {T : Task} {p b : Nat} {n : Int} {o : HO} {p' : Nat} (h : Hdr T p b 2 n o p') : n < 16 := by cases h; omega
theorem Ended.push {T : Task} {x : Addr × AObj} {G H : Hp} (h : Ended T (x :: G) H) : ∃ H', H.Perm (x :: H') ∧ Ended T G H' := by
  obtain ⟨u, as, F, rfl⟩ := h
  exact ⟨_, RH.rot.symm, u, as, F, rfl⟩
theorem Fulls.push {T : Task} {x : Addr × AObj} {G H : Hp} (h : Fulls T (x :: G) H) : ∃ H', H.Perm (x :: H') ∧ Fulls T G H' := by
  obtain ⟨b, i, k, ps, as, rfl⟩ := h
  exact ⟨_, RH.rot.symm, b, i, k, ps, as, rfl⟩
theorem Chain.inv {T : Task} {p p' : Nat} {vs : List V} {i : Nat} (hi : i < vs.length) (h : Chain T p (vs.drop i) p') : ∃ p1, Lf T p vs[i] p1 ∧ Chain T p1 (vs.drop (i + 1)) p' := by
  rw [List.drop_eq_getElem_cons hi] at h
  cases h with
  | cons a b => exact ⟨_, a, b⟩
theorem Chain.end {T : Task} {p p' : Nat} {vs : List V} (h : Chain T p (vs.drop vs.length) p') : p = p' := by
  rw [List.drop_length] at h; cases h; rfl
theorem Pairs.inv {T : Task} {p p' : Nat} {es : List (Str × V)} {i : Nat} (hi : i < es.length) (h : Pairs T p (es.drop i) p') : ∃ p1 p2, Lf T p (.str es[i].1) p1 ∧ Lf T p1 es[i].2 p2 ∧ Pairs T p2 (es.drop (i + 1)) p' := by
  rw [List.drop_eq_getElem_cons hi] at h
  generalize es[i] = e at h ⊢
  cases h with
  | cons a b d => exact ⟨_, _, a, b, d⟩
theorem Pairs.end {T : Task} {p p' : Nat} {es : List (Str × V)} (h : Pairs T p (es.drop es.length) p') : p = p' := by
  rw [List.drop_length] at h; cases h; rfl
theorem take_succ' {α : Type} {l : List α} {i : Nat} (h : i < l.length) : l.take (i + 1) = l.take i ++ [l[i]] := by
  rw [List.take_succ_eq_append_getElem h]
theorem FitX {X : XP} {e : Value} {ρ : Loc} {q : Addr × AObj} {H H' : Hp} (p : H.Perm (q :: H')) (x : X e ρ H') : LessX q X e ρ H := ⟨H', p, x⟩
theorem Cl.posX {c : Cx} {f : V} {as : List V} {kw : List (Str × V)} {ρ : Loc} {H : Hp} {Q : V → Hp → Prop} {X : XP} (h : Cl c f as kw ρ H Q X) : Cl c f as kw ρ H Q X := h
theorem Ex.perm {c : Cx} {ρ : Loc} {H H' : Hp} {Q : Fl → Loc → Hp → Prop} {X : XP} {st : Stmt} (hp : H.Perm H') (h : Ex c st ρ H' Q X) : Ex c st ρ H Q X := fun z s S => h z s (S.perm hp)
end
section
/-- between two messages -/
def Idle (A : RA) (R M off : Nat) (u : List UInt8) (ps : List (Array UInt8)) (as : List Int) (G H : Hp) : Prop :=
  ∃ pre : List UInt8, pre.length ≤ off ∧ H = RH A R M (pre ++ u).toArray ((pre.length : Nat) : Int) ((pre.length : Nat) : Int) off ps as G
def Fin (T : Task) (G H : Hp) : Prop := ∃ u ps as, Frug T.R T.B T.u0 T.ps0 as u ps false ∧ T.S ≤ u.length ∧ Idle T.A T.R T.M (T.off + T.S) (u.drop T.S) ps (T.as0 ++ as) G H
def Idl (T : Task) (G H : Hp) : Prop := Idle T.A T.R T.M T.off T.u0 T.ps0 T.as0 G H
theorem Idl.rs {T : Task} {G H : Hp} (h : Idl T G H) : Rs T 0 0 G H := by
  obtain ⟨pre, h1, rfl⟩ := h
  exact ⟨pre, T.u0, T.ps0, [], .done, Nat.zero_le _, Nat.zero_le _, h1, by rw [List.append_nil]; rfl⟩
theorem Ended.idle {T : Task} {G H : Hp} (h : Ended T G H) : ∃ u as, Frug T.R T.B T.u0 T.ps0 as u [] true ∧ Idle T.A T.R T.M T.off u [] (T.as0 ++ as) G H := by
  obtain ⟨u, as, F, rfl⟩ := h
  exact ⟨u, as, F, [], Nat.zero_le _, rfl⟩
/-- what _consume leaves -/
def Cons (T : Task) (p : Nat) (G H H' : Hp) : Prop := ∃ pre u ps as, Frug T.R T.B T.u0 T.ps0 as u ps false ∧ p ≤ u.length ∧ pre.length ≤ T.off ∧
  H = RH T.A T.R T.M (pre ++ u).toArray ((pre.length + p : Nat) : Int) ((pre.length : Nat) : Int) T.off ps (T.as0 ++ as) G ∧
  H' = RH T.A T.R T.M (pre ++ u).toArray ((pre.length + p : Nat) : Int) ((pre.length + p : Nat) : Int) ((T.off : Int) + (((pre.length + p : Nat) : Int) - ((pre.length : Nat) : Int))) ps (T.as0 ++ as) G
theorem fin_of {T : Task} {G : Hp} {pre u : List UInt8} {ps : List (Array UInt8)} {as : List Int} (F : Frug T.R T.B T.u0 T.ps0 as u ps false) (hp : T.S ≤ u.length) (hpre : pre.length ≤ T.off) :
    Fin T G (RH T.A T.R T.M (pre ++ u).toArray ((pre.length + T.S : Nat) : Int) ((pre.length + T.S : Nat) : Int) ((T.off : Int) + (((pre.length + T.S : Nat) : Int) - ((pre.length : Nat) : Int))) ps (T.as0 ++ as) G) := by
  refine ⟨u, ps, as, F, hp, pre ++ u.take T.S, ?_, ?_⟩
  · rw [List.length_append, List.length_take]; omega
  · have h1 : (pre ++ u.take T.S).length = pre.length + T.S := by rw [List.length_append, List.length_take]; omega
    rw [h1, List.append_assoc, List.take_append_drop, show ((T.off : Int) + (((pre.length + T.S : Nat) : Int) - ((pre.length : Nat) : Int))) = ((T.off + T.S : Nat) : Int) by omega]
theorem Hnd.skip {c : Cx} {Q : Fl → Loc → Hp → Prop} {X : XP} {cls : Value} {ρ : Loc} {H : Hp} {x : Str} {p pos : Pos} {b₀ : Stmt} {suite : List Stmt} {rest : List ExceptHandler} {v : V} {cv : Value}
    (hg : c.gl x = some v) (hk : c.env.scope.names.lookup x = some .globalImplicit) (hv : v.val0 = some cv) (he : exmOne c.K cls cv = some false) (h : Hnd c Q X cls ρ H rest) (d : (x == ("__debug__" : Str)) = false := by decide) :
    Hnd c Q X cls ρ H (.ExceptHandler (some (.Name x p)) none (b₀ :: suite) pos :: rest) :=
  ⟨v, cv, false, hv, he, fun e q₁ q₂ => Ev.glob (c := c.mk' e) hg ⟨rfl, rfl⟩ hk d, nofun, fun _ => h⟩
theorem Hnd.hit {c : Cx} {Q : Fl → Loc → Hp → Prop} {X : XP} {cls : Value} {ρ : Loc} {H : Hp} {x : Str} {p pos : Pos} {b₀ : Stmt} {suite : List Stmt} {rest : List ExceptHandler} {v : V} {cv : Value}
    (hg : c.gl x = some v) (hk : c.env.scope.names.lookup x = some .globalImplicit) (hv : v.val0 = some cv) (he : exmOne c.K cls cv = some true) (hn : cls ≠ .type "StopIteration")
    (h : ∀ e, Exs (c.mk' e) (b₀ :: suite) ρ ((e, .prop excP) :: H) (fun f ρ' H' => Less (e, .prop excP) (Q f ρ') H') (LessX (e, .prop excP) X)) (d : (x == ("__debug__" : Str)) = false := by decide) :
    Hnd c Q X cls ρ H (.ExceptHandler (some (.Name x p)) none (b₀ :: suite) pos :: rest) :=
  ⟨v, cv, true, hv, he, fun e q₁ q₂ => Ev.glob (c := c.mk' e) hg ⟨rfl, rfl⟩ hk d, fun _ => ⟨hn, h⟩, nofun⟩
structure ScIs (c : Cx) (sc : Scope) : Prop where
  eq : c.env.scope = sc
theorem Ended.cons {T : Task} {G : Hp} {u : List UInt8} {as : List Int} (F : Frug T.R T.B T.u0 T.ps0 as u [] true) : Ended T G (RH T.A T.R T.M u.toArray 0 0 ((T.off : Int) + (0 - 0)) [] (T.as0 ++ as) G) :=
  ⟨u, as, F, by rw [show ((T.off : Int) + (0 - 0)) = T.off by omega]⟩
theorem segAll {T : Task} (l : T.S ≤ T.W.length) : ((T.W.drop 0).take T.S) = T.W.take T.S := by rw [List.drop_zero]
theorem fin_short {T : Task} {G : Hp} {u : List UInt8} {as : List Int} : Idle T.A T.R T.M (T.off + u.length) [] [] (T.as0 ++ as) G (RH T.A T.R T.M u.toArray (u.length : Int) (u.length : Int) ((T.off : Int) + ((u.length : Int) - 0)) [] (T.as0 ++ as) G) := by
  refine ⟨u, by omega, ?_⟩
  rw [List.append_nil, show ((T.off : Int) + ((u.length : Int) - 0)) = ((T.off + u.length : Nat) : Int) by omega]
theorem memR {α : Type} {a : α} {l : List α} : a ∈ l ++ [a] := List.mem_append_right _ (.head _)
theorem memL {α : Type} {a b : α} {l : List α} (h : a ∈ l) : a ∈ l ++ [b] := List.mem_append_left _ h
theorem perm_init {α : Type} {a b x d : α} {G : List α} : (a :: b :: x :: d :: G).Perm (x :: d :: a :: G ++ [b]) := by
  have h1 : (a :: b :: x :: d :: G).Perm (x :: d :: a :: b :: G) := by
    have e : ([a, b] ++ [x, d]).Perm ([x, d] ++ [a, b]) := List.perm_append_comm
    exact e.append_right G
  exact h1.trans (List.Perm.cons _ (List.Perm.cons _ (List.Perm.cons _ (List.perm_append_comm (l₁ := [b])))))
theorem dset_n {x : Str} {v : V} {es es' : List (Str × V)} (h : (es.map (·.1)).contains x = false) (e : es ++ [(x, v)] = es') : DSet x v es es' := e ▸ dset_new h
end
section
/-- the values that are spelled at once -/
inductive Lv : V → V → Prop
  | bool (b : Bool) : Lv (.bool b) (.tup [.str "truth", .bool b])
  | int (i : Int) : Lv (.int i) (.tup [.str "number", .int i])
  | str (x : Str) : Lv (.str x) (.tup [.str "text", .str x])
  | bytes (b : Array UInt8) : Lv (.bytes b) (.tup [.str "octets", .bytes b])
def spV : V → V
  | .bool b => .tup [.str "truth", .bool b]
  | .int i => .tup [.str "number", .int i]
  | .str x => .tup [.str "text", .str x]
  | .bytes b => .tup [.str "octets", .bytes b]
  | _ => .none
theorem Lv.eq {v w : V} (h : Lv v w) : w = spV v := by cases h <;> rfl
inductive Sp : Mv → V → Prop
  | lf {v w : V} : Lv v w → Sp (.one v) w
  | lst {xs : List V} : (∀ x ∈ xs, Lv x (spV x)) → xs.length ≤ 16 → Sp (.one (.lst xs)) (.tup [.str "list", .lst (xs.map spV)])
  | map {es : List (Str × V)} : (∀ e ∈ es, Lv e.2 (spV e.2)) → (es.map (·.1)).Nodup → es.length ≤ 16 → Sp (.map es) (.tup [.str "map", .lst (es.map fun e => .tup [.tup [.str "text", .str e.1], spV e.2])])
theorem lookup_nd : ∀ {es : List (Str × V)}, (es.map (·.1)).Nodup → ∀ {e : Str × V}, e ∈ es → es.lookup e.1 = some e.2
  | [], _, e, h => by cases h
  | (x, v) :: r, nd, e, h => by
    rw [List.map_cons, List.nodup_cons] at nd
    rcases List.mem_cons.mp h with rfl | h
    · simp
    · have hne : e.1 ≠ x := fun e2 => nd.1 (e2 ▸ List.mem_map_of_mem (f := (·.1)) h)
      rw [List.lookup_cons, show (e.1 == x) = false from by simpa using hne]
      exact lookup_nd nd.2 h
end
section
theorem Fin.push {T : Task} {x : Addr × AObj} {G H : Hp} (h : Fin T (x :: G) H) : ∃ H', H.Perm (x :: H') ∧ Fin T G H' := by
  obtain ⟨u, ps, as, F, l, pre, h1, rfl⟩ := h
  exact ⟨_, RH.rot.symm, u, ps, as, F, l, pre, h1, rfl⟩
theorem Fin.full {T : Task} {G H : Hp} (h : Fin T G H) : T.S ≤ T.u0.length + (flat T.ps0).length := by
  obtain ⟨u, ps, as, F, l, _⟩ := h
  have := congrArg List.length F.flat
  rw [List.length_append, List.length_append] at this
  omega
theorem Ended.short {T : Task} {G H : Hp} (h : Ended T G H) : T.u0.length + (flat T.ps0).length < T.S := by
  obtain ⟨u, as, F, _⟩ := h
  have := congrArg List.length F.flat
  rw [List.length_append, List.length_append, flat_nil] at this
  have := Nat.lt_of_lt_of_le (F.end rfl).2 (Nat.min_le_left T.S T.M)
  simp only [List.length_nil] at *
  omega
end
section
theorem RH.fit {Q : Hp → Prop} {A : RA} {R M i k off : Int} {b : Array UInt8} {ps : List (Array UInt8)} {as : List Int} {G : Hp} (q : Q G) : Fit Q (RH A R M b i k off ps as G) :=
  .mk (H' := G) (G := [_, _, _, _, _, _, _]) (List.perm_append_comm (l₁ := [_, _, _, _, _, _, _])) q
theorem RH.fit1 {Q : Hp → Prop} {A : RA} {R M i k off : Int} {b : Array UInt8} {ps : List (Array UInt8)} {as : List Int} {x : Addr × AObj} {G : Hp} (q : Q G) : Fit Q (RH A R M b i k off ps as (x :: G)) :=
  .mk (H' := G) (G := [_, _, _, _, _, _, _, _]) (List.perm_append_comm (l₁ := [_, _, _, _, _, _, _, _])) q
theorem RH.fit3 {Q : Hp → Prop} {A : RA} {R M i k off : Int} {b : Array UInt8} {ps : List (Array UInt8)} {as : List Int} {x y w : Addr × AObj} {G : Hp} (q : Q G) : Fit Q (y :: w :: RH A R M b i k off ps as (x :: G)) :=
  .mk (H' := G) (G := [_, _, _, _, _, _, _, _, _, _]) (List.perm_append_comm (l₁ := [_, _, _, _, _, _, _, _, _, _])) q
theorem Fin.drop {Q : Hp → Prop} {T : Task} {G H : Hp} (h : Fin T G H) (q : Q G) : Fit Q H := by
  obtain ⟨u, ps, as, F, l, pre, h1, rfl⟩ := h
  exact RH.fit q
/-- a row of nils -/
def rowL (n : Nat) : List UInt8 := (144 + n).toUInt8 :: List.replicate n 192
theorem rowL_len (n : Nat) : (rowL n).length = n + 1 := by unfold rowL; rw [List.length_cons, List.length_replicate]
theorem flatten_rep (n : Nat) : (List.replicate n [(192 : UInt8)]).flatten = List.replicate n 192 := by
  induction n with
  | zero => rfl
  | succ n ih => rw [List.replicate_succ, List.flatten_cons, ih, List.replicate_succ]; rfl
theorem rowB_eq (n : Nat) : byteArr [144 + (n : Int)] ++ (List.replicate ((n : Int)).toNat [(192 : UInt8)]).flatten.toArray = (rowL n).toArray := by
  rw [Int.toNat_natCast, flatten_rep]
  unfold byteArr rowL
  apply Array.ext'
  simp only [List.map_cons, List.map_nil, Array.toList_append]
  rw [show (144 + (n : Int)).toNat = 144 + n by omega]; rfl
theorem chain_nil {T : Task} : ∀ (n p : Nat), (∀ i < n, T.W[p + i]? = some 192) → Chain T p (List.replicate n .none) (p + n)
  | 0, p, _ => .nil
  | n + 1, p, h => by
    have h0 := h 0 (by omega)
    refine .cons ⟨192, 0, 0, _, h0, .nil, .inl ⟨rfl, rfl⟩⟩ ?_
    have := chain_nil n (p + 1) fun i hi => by
      have := h (i + 1) (by omega)
      rwa [show p + 1 + i = p + (i + 1) by omega]
    rwa [show p + 1 + n = p + (n + 1) by omega] at this
theorem msg_row {T : Task} {n : Nat} (hn : n < 16) (hM : n ≤ T.M) {r : List UInt8} (hW : T.W = rowL n ++ r) : Msg T 0 (.one (.lst (List.replicate n .none))) (n + 1) := by
  have h0 : T.W[0]? = some (144 + n).toUInt8 := by rw [hW]; rfl
  have h1 : (144 + n).toUInt8.toNat = 144 + n := by simp; omega
  refine .arr h0 ?_ ?_
  · rw [h1, List.length_replicate]; exact .arr hn hM
  · have := chain_nil (T := T) n 1 fun i hi => by
      rw [hW]
      unfold rowL
      rw [show 1 + i = i + 1 by omega, List.cons_append, List.getElem?_cons_succ, List.getElem?_append_left (by rw [List.length_replicate]; exact hi), List.getElem?_replicate, if_pos hi]
    rwa [show 1 + n = n + 1 by omega] at this
theorem vd_row (n : Nat) : VD 12 (.lst (List.replicate n .none)) := .lst fun x hx => by rw [List.eq_of_mem_replicate hx]; exact .none
theorem Cl.append' {c : Cx} {ρ : Loc} {H : Hp} {Q : V → Hp → Prop} {X : XP} {a : Addr} {xs zs : List V} {y : V} {H' : Hp} (e : xs ++ [y] = zs) (U : Upd a (.list xs) (.list zs) H H') (hz : xs.length ≤ 1000000) (q : Q .none H') : Cl c (.bi "list.append") [.ref a, y] [] ρ H Q X := by
  subst e; exact Cl.append U hz q
end
section
/-- what a walk of the body of f hands over for the goal R -/
def FnGoal (c : Cx) (f : Addr) (as : List V) (ρ : Loc) (H : Hp) (Q : V → Hp → Prop) (X : XP) (R : Prop) : Prop :=
  ∀ {bs : List (Str × V)} {rest : List Str} {oc : Value} {od : Option Addr} {osl : Array (Option Value)}
    {name qual : Str} {params : Arguments} {body : List Stmt} {scope : Scope} {dV kV doc pm cdv ct : Value} {an : Option Addr}
    (ho : c.K.lookup f = some ⟨oc, od, .func (fnOf name qual params body scope dV kV doc pm an cdv ct), osl⟩) (hcd : codeIn c.K cdv qual = true)
    (hst : fnOK scope (bs.map (·.1) ++ rest) = true)
    (hb : ∀ z vs ks, VRs z as vs → VRs z (([] : List (Str × V)).map (·.2)) ks → ∃ bn, (∀ S, peek c.K S (bindArgs (fnOf name qual params body scope dV kV doc pm an cdv ct) ⟨vs, (([] : List (Str × V)).map (·.1)).zip ks⟩) = some bn) ∧ BR z bs bn)
    (hr : 0 < c.rm)
    (h : ∀ c', Callee c c' scope [] → Exs c' body (locOf bs rest) H (fun fl _ H' => Q fl.val H') (fun e _ H' => X e ρ H')), R
theorem FnGoal.of_clc {c : Cx} {f : Addr} {as : List V} {ρ : Loc} {H : Hp} {Q : V → Hp → Prop} {X : XP} : FnGoal c f as ρ H Q X (ClC c (.ref f) as [] ρ H Q X) :=
  fun ho hcd hst hb hr h => ClC.fn ho hcd hst hb hr h
/-- the call from outside -/
theorem entry_fn {c : Cx} {s : Shared} {f : Addr} {as : List V} {vs : List Value} {ρ : Loc} {Q : V → Hp → Prop} (X0 : c.K.In s.heap) (hh : c.h₀ = s.heap) (lim : s.heap.NoLimit) (hA : c.A = callerA)
    (hd : 301 + 3 * c.rm + 6 < recursionLimit) (hu : 4 + 24 * c.rm + 50 < cLine)
    (gl : ∀ x v, c.gl x = some v → ∀ env : Env, env.globals = mainGlobals → env.builtins = builtinsNs → env.scope.kind = .function → env.kindOf x = some .globalImplicit → ∃ val, Looks c.M c.h₀ (loadName env x) val ∧ VR c.h₀.get? v val)
    (hg : s.gens = #[]) (hos : c.os = s.os) (hvs : VRs s.heap.get? as vs) :
    FnGoal c f as ρ [] Q (fun _ _ _ => False) (wpR c.M c.A (call (.ref f) vs) (fun val s' => ∃ v z' H', VR z' v val ∧ Q v H' ∧ (∀ b o, s.heap.get? b = some o → s'.heap.get? b = some o) ∧ s'.gens = #[] ∧ s'.os = s.os) (fun _ _ => False) s) := by
  intro bs rest oc od osl name qual params body scope dV kV doc pm cdv ct an ho hcd hst hb hr h
  simp only [fnOK, Bool.and_eq_true, decide_eq_true_eq, Bool.not_eq_true', List.all_eq_true] at hst
  obtain ⟨⟨⟨⟨⟨k1, k2⟩, k3⟩, k4⟩, k5⟩, k6⟩ := hst
  obtain ⟨bn, hbn, hbr⟩ := hb s.heap.get? vs [] hvs .nil
  have hkeys := hbr.keys
  have hbind : BindsTo s (fnOf name qual params body scope dV kV doc pm an cdv ct) ⟨vs, []⟩ bn := fun M A E Q q Γ p _ => wp_of_peek X0 q _ (hbn _)
  have hAd : c.A.depth = 301 := by rw [hA]; rfl
  have hAu : c.A.units = 4 := by rw [hA]; rfl
  refine wpR_call ?_
  refine (codeR_call_def (fd := fnOf name qual params body scope dV kV doc pm an cdv ct) (body := body) (binds := bn) (by omega) (X0 _ _ ho) rfl lim (codeRec_of X0 hcd) rfl hbind
    (fun x hx => k4 x hx) (fun x hx => (k5 x.1 (by rw [← hkeys]; exact List.mem_append_left _ (List.mem_map_of_mem hx))).1) (fun h₁ hns hk₁ => ?_) k3 k2 k1)
  show wpR _ (c.A.deeper (envOf qual scope s.heap.objs.size f cdv)) (execs body (envOf qual scope s.heap.objs.size f cdv)) _ _ _
  let c' : Cx := { c with A := c.A.deeper (envOf qual scope s.heap.objs.size f cdv), env := envOf qual scope s.heap.objs.size f cdv, frl := [envOf qual scope s.heap.objs.size f cdv], kp := [], rm := c.rm - 1 }
  have hfr : (c.A.deeper (envOf qual scope s.heap.objs.size f cdv)).frames = some [envOf qual scope s.heap.objs.size f cdv] := by
    show c.A.frames.map _ = _
    rw [hA]; rfl
  have O : c'.Own := ⟨rfl, _, rfl⟩
  have C : Callee c c' scope [] := ⟨rfl, rfl, rfl, rfl, by show c.rm - 1 + 1 = c.rm; omega, rfl, rfl, O, rfl, rfl⟩
  have ok : c'.OK := by
    refine ⟨hh ▸ X0, hh ▸ lim, hfr, fun e he => ?_, k1, ?_, ?_, ?_, ⟨rfl, rfl⟩, gl⟩
    · rw [List.mem_singleton.mp he]
      exact ⟨by rw [show (envOf qual scope s.heap.objs.size f cdv).scope = scope from rfl, k1]; decide, _, rfl, .inl rfl⟩
    · show c.A.guards = some []
      rw [hA]; rfl
    · show c.A.depth + 1 + 3 * (c.rm - 1) + 3 < recursionLimit; omega
    · show c.A.units + 3 + 24 * (c.rm - 1) + 24 < cLine; omega
  have hv : c'.vol [] = [s.heap.objs.size] := rfl
  have S' : St c' s.heap.get? (locOf bs rest) [] { s with heap := h₁, toks := s.toks + bn.length } := by
    refine ⟨ok, fun b o e => hh ▸ e, fun b o e => hk₁ _ _ e, fun a ha => ?_, ?_, (fun _ hq => by cases hq), (fun _ hq => by cases hq), ⟨_, hns, fun x v hx => ?_⟩, ?_, fun q hq => ?_, hg, hos.symm⟩
    · rw [hv, List.mem_singleton] at ha
      subst ha
      exact BA.none_of_ge _
    · rw [hv]; simp
    · unfold locOf at hx
      rcases List.mem_append.mp hx with hx | hx
      · obtain ⟨q, hq, e⟩ := List.mem_map.mp hx
        cases e
        obtain ⟨val, a, b⟩ := hbr.get (x := q.1) (v := q.2) hq
        refine ⟨val, ?_, b⟩
        have nd : (bn.map (·.1)).Nodup := by rw [hkeys]; exact (List.nodup_append.mp k6).1
        refine lookup_of_mem ?_ (List.mem_reverse.mpr a)
        rw [List.map_reverse]
        exact (List.reverse_perm _).nodup_iff.mpr nd
      · obtain ⟨q, hq, e⟩ := List.mem_map.mp hx
        cases e
    · have e : (locOf bs rest).map (·.1) = bs.map (·.1) ++ rest := by
        unfold locOf
        rw [List.map_append, List.map_map, List.map_map]
        congr 1
        exact List.map_id _
      rw [e]; exact k6
    · have e : q.1 ∈ bs.map (·.1) ++ rest := by
        have : (locOf bs rest).map (·.1) = bs.map (·.1) ++ rest := by
          unfold locOf
          rw [List.map_append, List.map_map, List.map_map]
          congr 1
          exact List.map_id _
        rw [← this]; exact List.mem_map_of_mem hq
      obtain ⟨a, b⟩ := k5 q.1 e
      exact ⟨a, by simpa using b⟩
  refine wpR_mono (h c' C _ _ S') (fun fl s' ⟨f', z', ρ', H', le, S'', r, q⟩ => ?_) fun e s' ⟨cls, z', ρ', H', a, he, le, S'', x, q⟩ => q.elim
  have fin : ∀ {v : V} {val : Value}, VR z' v val → Q v H' → ∃ v z' H', VR z' v val ∧ Q v H' ∧ (∀ b o, s.heap.get? b = some o → s'.heap.get? b = some o) ∧ s'.gens = #[] ∧ s'.os = s.os :=
    fun hr q => ⟨_, z', H', hr, q, fun b o e => S''.fin _ _ (le _ _ e), S''.gens, S''.os.trans hos⟩
  cases r with
  | ret r => exact fin r q
  | next => exact fin .none q
  | brk => exact fin .none q
  | cont => exact fin .none q
end
example (P : Params) : PySem.Challenge.rw_dk5006_01 = PySem.Challenge.rw_dk5006_01 → ∃ v, nsIn (hd.heap_39 P) mainGlobals "_law_number" = some (some v) := by
  k_fill
  intro _
  apply Exists.intro
  k_is

section
theorem beBytes_size (k : Nat) (x : Int) : (beBytes k x).size = k := by unfold beBytes; rw [byteArr_size, List.length_reverse, KTBy.little_length]
/-- what _law_number gives -/
def lawNumFrom (n : Int) (i : Nat) : Nat → V
  | 0 => .none
  | k + 1 => if 0 ≤ n ∧ n < 256 ^ 2 ^ i then .bytes (byteArr [204 + (i : Int)] ++ beBytes (2 ^ i) n)
    else if n < 0 ∧ -2 * n ≤ 256 ^ 2 ^ i then .bytes (byteArr [208 + (i : Int)] ++ beBytes (2 ^ i) (n + 256 ^ 2 ^ i)) else lawNumFrom n (i + 1) k
def lawNum (n : Int) : V := if -32 ≤ n ∧ n < 128 then .bytes (byteArr [n.fmod 256]) else lawNumFrom n 0 4
section
variable {c : Cx} {ρ : Loc} {H : Hp} {Q : V → Hp → Prop} {X : XP}
theorem law_number (B : Ok c) (hr : 2 ≤ c.rm) (hh : c.A.handled = none) {n : Int} (q : Q (lawNum n) H) : ClC c (.ref 497) [.int n] [] ρ H Q X := by
  refine' ClC.fn (bs := [("n", .int n)]) (rest := ["k", "size"]) ?ho ?hcd ?hst ?hb (by omega) ?h
  case ho => rw [B.K]; k_is
  case hcd => rw [B.K]; k_is
  case hst => rfl
  case hb =>
    intro z vs ks hv hk
    cases hk
    obtain _ | ⟨g1, hv⟩ := hv; cases hv
    exact ⟨_, fun S => by kernel_rfl, .cons g1 .nil⟩
  intro c' C
  have B' := B.callee C
  have hh' : c'.A.handled = none := C.handled.trans hh
  change Exs c' _ [("n", some (.int n)), ("k", none), ("size", none)] _ _ _
  with_reducible refine Exs.cons ?_
  with_reducible refine Ex.ite ?_
  refine Tt.chainV (a := .int (-32)) (b := .int n) (d := .int 128) (by (with_reducible refine Ev.un ?_; with_reducible refine Ev.int ?_; with_reducible refine d_neg ?_; exact Val.mk)) (by (with_reducible refine Ev.loc mem0 ?_; exact Val.mk)) (by (with_reducible refine Ev.int ?_; exact Val.mk)) Is.le Is.lt ?_
  unfold lawNum at q
  refine ite_b (fun e => ?_) (fun e => ?_)
  · rw [Bool.and_eq_true, decide_eq_true_eq, decide_eq_true_eq] at e
    rw [if_pos e] at q
    with_reducible refine Exs.cons ?_
    with_reducible refine Ex.ret ?_
    refine Ev.call ?_
    refine Ev.g (by assumption) Gl.g_bytes (by rw [Callee.scope (by assumption)]; rfl) ?_
    with_reducible refine ⟨Kp.ty, ?_⟩
    refine Evs.cons ?_
    with_reducible refine Ev.lst ?_
    refine Evs.cons ?_
    with_reducible refine Ev.bin ?_
    with_reducible refine Ev.loc mem0 ?_
    with_reducible refine Ev.int ?_
    with_reducible refine d_mod (by decide) ?_
    with_reducible refine Evs.nil ?_
    refine ⟨sz rfl, ?_⟩
    with_reducible refine Evs.nil ?_
    with_reducible refine EvK.nil ?_
    refine ⟨[], rfl, rfl, ?_⟩
    refine Cl.bytes1 hh' ?_ ?_ ?_
    · exact Int.fmod_nonneg_of_pos n (by decide)
    · exact Int.fmod_lt_of_pos n (by decide)
    · exact q
  · rw [if_neg (by simpa using e)] at q
    with_reducible refine Exs.nil ?_
    with_reducible refine Then.next ?_
    with_reducible refine Exs.cons ?_
    refine Ex.for C.own hh' ?_
    refine Ev.call ?_
    refine Ev.g (by assumption) Gl.g_range (by rw [Callee.scope (by assumption)]; rfl) ?_
    with_reducible refine ⟨Kp.ty, ?_⟩
    refine Evs.cons ?_
    with_reducible refine Ev.int ?_
    with_reducible refine Evs.nil ?_
    with_reducible refine EvK.nil ?_
    refine ⟨[], rfl, rfl, ?_⟩
    refine Cl.range ?_
    refine ⟨_, _, fun i ρ' H' => H' = H ∧ lawNumFrom n 0 4 = lawNumFrom n i (4 - i) ∧ ∃ k s, ρ' = ([("n", some (.int n)), ("k", k), ("size", s)] : Loc), It.range (by decide) (by decide) (by decide) (by decide), ⟨rfl, rfl, _, _, rfl⟩, fun _ _ _ _ => trivial, ?_, ?_⟩
    · intro i v ρ' H' qq hv hI
      obtain ⟨rfl, hl, k, s, rfl⟩ := hI
      obtain ⟨hi, rfl⟩ := range_at hv
      have hi : i < 4 := hi
      obtain ⟨m, hm⟩ : ∃ m, 4 - i = m + 1 := ⟨3 - i, by omega⟩
      have hm' : 4 - (i + 1) = m := by omega
      rw [hm] at hl
      have hs : lawNumFrom n i (m + 1) = if 0 ≤ n ∧ n < 256 ^ 2 ^ i then .bytes (byteArr [204 + (i : Int)] ++ beBytes (2 ^ i) n)
        else if n < 0 ∧ -2 * n ≤ 256 ^ 2 ^ i then .bytes (byteArr [208 + (i : Int)] ++ beBytes (2 ^ i) (n + 256 ^ 2 ^ i)) else lawNumFrom n (i + 1) m := rfl
      rw [hs] at hl
      rw [hl] at q
      have h8 := pow_le8 hi
      rw [Int.zero_add]
      refine' put_and ?put ?go
      case put => with_reducible exact (Put.tail Put.head)
      with_reducible refine Exs.cons ?_
      refine Ex.assign ?_
      with_reducible refine Ev.bin ?_
      with_reducible refine Ev.int ?_
      with_reducible refine Ev.loc (mem1 mem0) ?_
      refine Do2.is (Is.pow2 (by omega)) ?_
      refine put_and (Put.tail (Put.tail Put.head)) ?_
      with_reducible refine Then.next ?_
      with_reducible refine Exs.cons ?_
      with_reducible refine Ex.ite ?_
      refine Tt.chainV (a := .int 0) (b := .int n) (d := .int (256 ^ 2 ^ i)) (by (with_reducible refine Ev.int ?_; exact Val.mk)) (by (with_reducible refine Ev.loc mem0 ?_; exact Val.mk)) (by ((with_reducible refine Ev.bin ?_; with_reducible refine Ev.int ?_; with_reducible refine Ev.loc (mem1 (mem1 mem0)) ?_)); exact Do2.is (Is.powN (by omega) (by decide)) Val.mk) Is.le Is.lt ?_
      refine ite_b (fun e => ?_) (fun e => ?_)
      · rw [Bool.and_eq_true, decide_eq_true_eq, decide_eq_true_eq] at e
        rw [if_pos e] at q
        with_reducible refine Exs.cons ?_
        with_reducible refine Ex.ret ?_
        with_reducible refine Ev.bin ?_
        refine Ev.call ?_
        refine Ev.g (by assumption) Gl.g_bytes (by rw [Callee.scope (by assumption)]; rfl) ?_
        with_reducible refine ⟨Kp.ty, ?_⟩
        refine Evs.cons ?_
        with_reducible refine Ev.lst ?_
        refine Evs.cons ?_
        with_reducible refine Ev.bin ?_
        with_reducible refine Ev.int ?_
        with_reducible refine Ev.loc (mem1 mem0) ?_
        with_reducible refine d_add ?_
        with_reducible refine Evs.nil ?_
        refine ⟨sz rfl, ?_⟩
        with_reducible refine Evs.nil ?_
        with_reducible refine EvK.nil ?_
        refine ⟨[], rfl, rfl, ?_⟩
        refine Cl.bytes1 hh' (by omega) (by omega) ?_
        refine Ev.meth ?_
        with_reducible refine Ev.loc mem0 ?_
        refine ⟨_, _, Mt.toBytes, Kp.bi, ?_⟩
        refine Evs.cons ?_
        with_reducible refine Ev.loc (mem1 (mem1 mem0)) ?_
        refine Evs.cons ?_
        with_reducible refine Ev.str ?_
        with_reducible refine Evs.nil ?_
        with_reducible refine EvK.nil ?_
        refine ⟨[], rfl, rfl, ?_⟩
        refine Cl.toBytes h8 e.1 e.2 ?_
        refine Do2.is (Is.addBytes ?_) ?_
        · rw [beBytes_size, byteArr_size]; simp only [List.length_singleton]; omega
        · with_reducible refine Then.ret ?_
          with_reducible refine Then.ret ?_
          with_reducible refine TurnF.ret ?_
          with_reducible refine Then.ret ?_
          exact q
      · have e' : ¬ (0 ≤ n ∧ n < 256 ^ 2 ^ i) := by simpa using e
        rw [if_neg e'] at q hl
        with_reducible refine Exs.nil ?_
        with_reducible refine Then.next ?_
        with_reducible refine Exs.cons ?_
        with_reducible refine Ex.ite ?_
        refine Tt.andV (p := decide (n < 0)) (q := decide (-2 * n ≤ 256 ^ 2 ^ i)) ?t1 (fun _ => ?t2) ?_
        case t1 => (refine Tt.cmp ?_; with_reducible refine Ev.loc mem0 ?_; with_reducible refine Ev.int ?_; with_reducible refine c_lt ?_; exact Tst.mk)
        case t2 =>
          refine Tt.cmp ?_
          with_reducible refine Ev.bin ?_
          with_reducible refine Ev.un ?_
          with_reducible refine Ev.int ?_
          with_reducible refine d_neg ?_
          with_reducible refine Ev.loc mem0 ?_
          with_reducible refine d_mul (by first | exact IntMulOk.of_left (by decide) | exact IntMulOk.of_right (by decide)) ?_
          with_reducible refine Ev.bin ?_
          with_reducible refine Ev.int ?_
          with_reducible refine Ev.loc (mem1 (mem1 mem0)) ?_
          refine Do2.is (Is.powN (by omega) (by decide)) ?_
          with_reducible refine c_le ?_
          exact Tst.mk
        refine ite_b (fun f => ?_) (fun f => ?_)
        · rw [Bool.and_eq_true, decide_eq_true_eq, decide_eq_true_eq] at f
          rw [if_pos f] at q
          with_reducible refine Exs.cons ?_
          with_reducible refine Ex.ret ?_
          with_reducible refine Ev.bin ?_
          refine Ev.call ?_
          refine Ev.g (by assumption) Gl.g_bytes (by rw [Callee.scope (by assumption)]; rfl) ?_
          with_reducible refine ⟨Kp.ty, ?_⟩
          refine Evs.cons ?_
          with_reducible refine Ev.lst ?_
          refine Evs.cons ?_
          with_reducible refine Ev.bin ?_
          with_reducible refine Ev.int ?_
          with_reducible refine Ev.loc (mem1 mem0) ?_
          with_reducible refine d_add ?_
          with_reducible refine Evs.nil ?_
          refine ⟨sz rfl, ?_⟩
          with_reducible refine Evs.nil ?_
          with_reducible refine EvK.nil ?_
          refine ⟨[], rfl, rfl, ?_⟩
          refine Cl.bytes1 hh' (by omega) (by omega) ?_
          refine Ev.meth ?_
          with_reducible refine Ev.bin ?_
          with_reducible refine Ev.loc mem0 ?_
          with_reducible refine Ev.bin ?_
          with_reducible refine Ev.int ?_
          with_reducible refine Ev.loc (mem1 (mem1 mem0)) ?_
          refine Do2.is (Is.powN (by omega) (by decide)) ?_
          with_reducible refine d_add ?_
          refine ⟨_, _, Mt.toBytes, Kp.bi, ?_⟩
          refine Evs.cons ?_
          with_reducible refine Ev.loc (mem1 (mem1 mem0)) ?_
          refine Evs.cons ?_
          with_reducible refine Ev.str ?_
          with_reducible refine Evs.nil ?_
          with_reducible refine EvK.nil ?_
          refine ⟨[], rfl, rfl, ?_⟩
          refine Cl.toBytes h8 (by omega) (by omega) ?_
          refine Do2.is (Is.addBytes ?_) ?_
          · rw [beBytes_size, byteArr_size]; simp only [List.length_singleton]; omega
          · with_reducible refine Then.ret ?_
            with_reducible refine Then.ret ?_
            with_reducible refine TurnF.ret ?_
            with_reducible refine Then.ret ?_
            exact q
        · rw [if_neg (by simpa using f)] at q hl
          with_reducible refine Exs.nil ?_
          with_reducible refine Then.next ?_
          with_reducible refine Exs.nil ?_
          with_reducible refine TurnF.next ?_
          exact ⟨rfl, by rw [hm']; exact hl, _, _, rfl⟩
    · intro ρ' H' hI
      obtain ⟨rfl, hl, k, s, rfl⟩ := hI
      refine Then.next ?_
      refine Exs.nil ?_
      show Q .none H'
      rw [hl] at q
      exact q
end
def numB (n : Int) : Array UInt8 := match lawNum n with | .bytes b => b | _ => #[]
theorem lawNum_bytes {n : Int} (h0 : -(2 ^ 63) ≤ n) (h1 : n < 2 ^ 64) : lawNum n = .bytes (numB n) ∧ (numB n).size ≤ 9 := by
  have key : ∃ b, lawNum n = .bytes b ∧ b.size ≤ 9 := by
    unfold lawNum
    split
    · exact ⟨_, rfl, by rw [byteArr_size]; simp⟩
    · have step : ∀ i k, i < 4 → (∃ b, lawNumFrom n (i + 1) k = .bytes b ∧ b.size ≤ 9) ∨ (0 ≤ n ∧ n < 256 ^ 2 ^ i) ∨ (n < 0 ∧ -2 * n ≤ 256 ^ 2 ^ i) → ∃ b, lawNumFrom n i (k + 1) = .bytes b ∧ b.size ≤ 9 := by
        intro i k hi h
        have h8 := pow_le8 hi
        unfold lawNumFrom
        split
        · exact ⟨_, rfl, by rw [Array.size_append, byteArr_size, beBytes_size]; simp only [List.length_singleton]; omega⟩
        · split
          · exact ⟨_, rfl, by rw [Array.size_append, byteArr_size, beBytes_size]; simp only [List.length_singleton]; omega⟩
          · rcases h with h | h | h
            · exact h
            · contradiction
            · contradiction
      refine step 0 3 (by decide) (.inl (step 1 2 (by decide) (.inl (step 2 1 (by decide) (.inl (step 3 0 (by decide) ?_))))))
      have e : (256 : Int) ^ 2 ^ 3 = 2 ^ 64 := by decide
      rw [e]
      by_cases h : 0 ≤ n
      · exact .inr (.inl ⟨h, h1⟩)
      · exact .inr (.inr ⟨by omega, by omega⟩)
  obtain ⟨b, e, hb⟩ := key
  have : numB n = b := by unfold numB; rw [e]
  rw [this]
  exact ⟨e, hb⟩
end
section

section
variable {c : Cx} {ρ : Loc} {H : Hp} {Q : V → Hp → Prop} {X : XP}
theorem newlist_hint (B : Ok c) (hr : 1 ≤ c.rm) {n : Int} (q : ∀ a, Q (.ref a) ((a, .list []) :: H)) : ClC c (.ref 56) [.int n] [] ρ H Q X := by
  refine' ClC.fn (bs := [("size", .int n)]) (rest := []) ?ho ?hcd ?hst ?hb (by omega) ?h
  case ho => rw [B.K]; k_is
  case hcd => rw [B.K]; k_is
  case hst => rfl
  case hb =>
    intro z vs ks hv hk
    cases hk
    obtain _ | ⟨g1, hv⟩ := hv; cases hv
    exact ⟨_, fun S => by kernel_rfl, .cons g1 .nil⟩
  intro c' C
  have B' := B.callee C
  change Exs c' _ [("size", some (.int n))] _ _ _
  with_reducible refine Exs.cons ?_
  with_reducible refine Ex.ret ?_
  refine Ev.list ?_
  with_reducible refine Evs.nil ?_
  refine ⟨sz rfl, ?_⟩
  exact fun a => q a

/-- what _law_text tells -/
def textSigns (n : Int) : List (Str × Array UInt8) := (List.range ((n.fdiv 4).fmod 6).toNat).map fun k : Nat => signs.getD ((n + (k : Int) * k).fmod 4).toNat default
def textStr (n : Int) : Str := Builtin.Str.glued (Str.ofString "") ((textSigns n).map (·.1))
def textOct (n : Int) : Array UInt8 := BJ.cat ((textSigns n).map (·.2))
def textV (n : Int) : V := .tup [.tup [.str "text", .str (textStr n)], .bytes (byteArr [160 + ((textOct n).size : Int)] ++ textOct n)]
theorem sign_small (i : Nat) : (signs.getD i default).2.size ≤ 4 ∧ (signs.getD i default).1.length ≤ 1 := by
  match i with
  | 0 => decide
  | 1 => decide
  | 2 => decide
  | 3 => decide
  | n + 4 => exact ⟨Nat.zero_le _, Nat.zero_le _⟩
theorem textSigns_length (n : Int) : (textSigns n).length < 6 := by
  have h0 := Int.fmod_nonneg_of_pos (n.fdiv 4) (show (0 : Int) < 6 by decide)
  have h1 := Int.fmod_lt_of_pos (n.fdiv 4) (show (0 : Int) < 6 by decide)
  unfold textSigns
  rw [List.length_map, List.length_range]; omega
theorem textSigns_small (n : Int) : ∀ p ∈ textSigns n, p.2.size ≤ 4 ∧ p.1.length ≤ 1 := fun p hp => by
  obtain ⟨k, _, rfl⟩ := List.mem_map.mp hp
  exact sign_small _
theorem sum_le {α : Type} {f : α → Nat} {m : Nat} : ∀ {l : List α}, (∀ x ∈ l, f x ≤ m) → (l.map f).sum ≤ m * l.length
  | [], _ => by simp
  | x :: r, h => by
    have h1 := h x (.head _)
    have h2 := sum_le (l := r) fun y hy => h y (.tail _ hy)
    rw [List.map_cons, List.sum_cons, List.length_cons, Nat.mul_add]; omega
theorem textOct_size (n : Int) : (textOct n).size ≤ 20 := by
  unfold textOct
  rw [BJ.cat_size, List.map_map]
  have h := sum_le (f := Array.size ∘ fun x : Str × Array UInt8 => x.2) fun p hp => (textSigns_small n p hp).1
  have := textSigns_length n
  omega
theorem glued_length (xs : List Str) : (Builtin.Str.glued (Str.ofString "") xs).length = (xs.map Str.length).sum := by
  have key : ∀ (l : List Str) (acc : Array Nat), (l.foldl (fun acc p => acc ++ (Str.ofString "").cps ++ p.cps) acc).size = acc.size + (l.map Str.length).sum := by
    intro l
    induction l with
    | nil => intro acc; simp
    | cons x r ih =>
      intro acc
      rw [List.foldl_cons, ih, List.map_cons, List.sum_cons, Array.size_append, Array.size_append]
      have : (Str.ofString "").cps.size = 0 := by decide
      show _ = acc.size + (x.cps.size + _)
      omega
  cases xs with
  | nil => rfl
  | cons x r =>
    show ((r.foldl (fun acc p => acc ++ (Str.ofString "").cps ++ p.cps) x.cps)).size = _
    rw [key]; rfl
theorem foldl_len : ∀ (l : List Str) (n : Nat), l.foldl (fun n x => n + x.length) n = n + (l.map Str.length).sum
  | [], n => by simp
  | x :: r, n => by rw [List.foldl_cons, foldl_len r, List.map_cons, List.sum_cons]; omega
theorem textStr_len (n : Int) : (((textSigns n).map (·.1)).map Str.length).sum ≤ 5 := by
  rw [List.map_map]
  have h := sum_le (f := Str.length ∘ fun x : Str × Array UInt8 => x.1) fun p hp => (textSigns_small n p hp).2
  have := textSigns_length n
  omega
theorem law_text (B : Ok c) (hr : 2 ≤ c.rm) (hh : c.A.handled = none) {n : Int} (q : Q (textV n) H) : ClC c (.ref 502) [.int n] [] ρ H Q (fun _ _ _ => False) := by
  refine' ClC.fnC (p := "number") (x := "number") (rest := ["parts", "octets"]) ?ho ?hcd [] (some (.int n)) (.inl ⟨rfl, rfl, rfl⟩) ?hst ?hcf ?hb (by omega) ?h
  case ho => rw [B.K]; k_is
  case hcd => rw [B.K]; k_is
  case hst => rfl
  case hcf => intro n; rfl
  case hb => intro val S; kernel_rfl
  intro c' a C
  have B' := B.callee C
  have hh' : c'.A.handled = none := C.handled.trans hh
  change Exs c' _ [("parts", none), ("octets", none)] _ _ _
  with_reducible refine Exs.cons ?_
  have hlen : ((n.fdiv 4).fmod 6).toNat < 6 := by
    have h0 := Int.fmod_nonneg_of_pos (n.fdiv 4) (show (0 : Int) < 6 by decide)
    have h1 := Int.fmod_lt_of_pos (n.fdiv 4) (show (0 : Int) < 6 by decide)
    omega
  refine' Ex.assignComp (names := ["k"]) (cl := [("number", a)]) (swaps_true C.scope rfl) hh' ?clos ?ok ?_ ?_
  case clos => exact closure_one (by rw [C.cells]; rfl) rfl
  case ok => rw [C.scope]; rfl
  rotate_left
  · intro _ _; rfl
  refine Ev.call ?_
  refine Ev.g (by assumption) Gl.g_range (by rw [Callee.scope (by assumption)]; rfl) ?_
  with_reducible refine ⟨Kp.ty, ?_⟩
  refine Evs.cons ?_
  with_reducible refine Ev.bin ?_
  with_reducible refine Ev.bin ?_
  refine Ev.cell (by rw [Callee.scope (by assumption)]; rfl) (by rw [Callee.cells (by assumption)]; rfl) mem0 ?_
  with_reducible refine Ev.int ?_
  with_reducible refine d_fdiv (by decide) (by decide) ?_
  with_reducible refine Ev.int ?_
  with_reducible refine d_mod (by decide) ?_
  with_reducible refine Evs.nil ?_
  with_reducible refine EvK.nil ?_
  refine ⟨[], rfl, rfl, ?_⟩
  refine Cl.range ?_
  have hr0 := Int.fmod_nonneg_of_pos (n.fdiv 4) (show (0 : Int) < 6 by decide)
  have hr1 := Int.fmod_lt_of_pos (n.fdiv 4) (show (0 : Int) < 6 by decide)
  refine ⟨(textSigns n).map signV, CompOf.map (fun v => match v with | .int k => signV (signs.getD ((n + k * k).fmod 4).toNat default) | _ => .none) (It.range (by decide) (by decide) (by omega) (by omega)) ?_ (fun _ => trivial) ?_ ?_, ?_⟩
  · simp; omega
  · unfold textSigns
    rw [List.map_map, List.map_map, Int.sub_zero]
    refine List.map_congr_left fun k _ => ?_
    simp only [Function.comp, Int.zero_add]
  · intro c₂ I x hx
    have B₂ := B'.inner I
    obtain ⟨j, hj, rfl⟩ := List.mem_map.mp hx
    have hj : j < 6 := by have := List.mem_range.mp hj; omega
    refine ⟨[("k", some (.int (0 + (j : Int))))], Asg.name Put.head, rfl, fun q₁ q₂ => ?_⟩
    have hf0 := Int.fmod_nonneg_of_pos (n + (0 + (j : Int)) * (0 + (j : Int))) (show (0 : Int) < 4 by decide)
    have hf1 := Int.fmod_lt_of_pos (n + (0 + (j : Int)) * (0 + (j : Int))) (show (0 : Int) < 4 by decide)
    refine Ev.sub ?_
    refine Ev.g (by assumption) Gl.g_law_signs (by rw [Inner.scope (by assumption), Callee.scope (by assumption)]; rfl) ?_
    with_reducible refine Ev.bin ?_
    with_reducible refine Ev.bin ?_
    refine Ev.cell (by rw [Inner.scope (by assumption), Callee.scope (by assumption)]; rfl) (by rw [Inner.cells (by assumption)]; rfl) (mem1 (mem1 mem0)) ?_
    with_reducible refine Ev.bin ?_
    with_reducible refine Ev.loc mem0 ?_
    with_reducible refine Ev.loc mem0 ?_
    refine Do2.is (Is.mul (imul (by omega))) ?_
    with_reducible refine d_add ?_
    with_reducible refine Ev.int ?_
    with_reducible refine d_mod (by decide) ?_
    refine ⟨_, _, HasItem.lst, It1.lst hf0 (by omega) ?_ Val.mk⟩
    rw [List.getElem?_map]
    show _ = some (signV (signs.getD ((n + (0 + (j : Int)) * (0 + (j : Int))).fmod 4).toNat default))
    rw [List.getD_eq_getElem?_getD]
    have hl4 : ((n + (0 + (j : Int)) * (0 + (j : Int))).fmod 4).toNat < signs.length := by show _ < 4; omega
    rw [List.getElem?_eq_getElem hl4]; rfl
  · refine put_and Put.head ?_
    with_reducible refine Then.next ?_
    with_reducible refine Exs.cons ?_
    refine Ex.assign ?_
    refine Ev.meth ?_
    with_reducible refine Ev.bytes ?_
    refine ⟨_, _, Mt.joinB, Kp.bi, ?_⟩
    refine Evs.cons ?_
    refine Ev.comp (names := ["part"]) (cl := []) hh' (closure_none rfl) (by rw [C.scope]; rfl) ?_
    with_reducible refine Ev.loc mem0 ?_
    refine ⟨((textSigns n).map (·.2)).map V.bytes, CompOf.map (fun v => match v with | .tup [_, b] => b | _ => .none) It.lst ?_ (fun _ => trivial) ?_ ?_, ?_⟩
    · unfold textSigns; simp; omega
    · rw [List.map_map, List.map_map]; rfl
    · intro c₂ I x hx
      have B₂ := B'.inner I
      obtain ⟨p, hp, rfl⟩ := List.mem_map.mp hx
      refine ⟨[("part", some (signV p))], Asg.name Put.head, rfl, fun q₁ q₂ => ?_⟩
      refine Ev.sub ?_
      with_reducible refine Ev.loc mem0 ?_
      with_reducible refine Ev.int ?_
      exact ⟨_, _, HasItem.tup, It1.tup (by decide) (by decide) rfl Val.mk⟩
    · with_reducible refine Evs.nil ?_
      with_reducible refine EvK.nil ?_
      refine ⟨[], rfl, rfl, ?_⟩
      have ho := textOct_size n
      have hs := textStr_len n
      refine Cl.joinB (by show (textOct n).size ≤ _; omega) ?_
      refine put_and (Put.tail Put.head) ?_
      with_reducible refine Then.next ?_
      with_reducible refine Exs.cons ?_
      with_reducible refine Ex.ret ?_
      with_reducible refine Ev.tup ?_
      refine Evs.cons ?_
      with_reducible refine Ev.tup ?_
      refine Evs.cons ?_
      with_reducible refine Ev.str ?_
      refine Evs.cons ?_
      refine Ev.meth ?_
      with_reducible refine Ev.str ?_
      refine ⟨_, _, Mt.joinS, Kp.bi, ?_⟩
      refine Evs.cons ?_
      refine Ev.comp (names := ["part"]) (cl := []) hh' (closure_none rfl) (by rw [C.scope]; rfl) ?_
      with_reducible refine Ev.loc mem0 ?_
      refine ⟨((textSigns n).map (·.1)).map V.str, CompOf.map (fun v => match v with | .tup [s, _] => s | _ => .none) It.lst ?_ (fun _ => trivial) ?_ ?_, ?_⟩
      · have := textSigns_length n; rw [List.length_map]; omega
      · rw [List.map_map, List.map_map]; rfl
      · intro c₂ I x hx
        have B₂ := B'.inner I
        obtain ⟨p, hp, rfl⟩ := List.mem_map.mp hx
        refine ⟨[("part", some (signV p))], Asg.name Put.head, rfl, fun q₁ q₂ => ?_⟩
        refine Ev.sub ?_
        with_reducible refine Ev.loc mem0 ?_
        with_reducible refine Ev.int ?_
        exact ⟨_, _, HasItem.tup, It1.tup (by decide) (by decide) rfl Val.mk⟩
      · with_reducible refine Evs.nil ?_
        with_reducible refine EvK.nil ?_
        refine ⟨[], rfl, rfl, ?_⟩
        refine Cl.joinS (by rw [foldl_len]; omega) (by rw [glued_length]; omega) ?_
        with_reducible refine Evs.nil ?_
        refine ⟨sz rfl, ?_⟩
        refine Evs.cons ?_
        with_reducible refine Ev.bin ?_
        refine Ev.call ?_
        refine Ev.g (by assumption) Gl.g_bytes (by rw [Callee.scope (by assumption)]; rfl) ?_
        with_reducible refine ⟨Kp.ty, ?_⟩
        refine Evs.cons ?_
        with_reducible refine Ev.lst ?_
        refine Evs.cons ?_
        with_reducible refine Ev.bin ?_
        with_reducible refine Ev.int ?_
        refine Ev.call ?_
        refine Ev.g (by assumption) Gl.g_len (by rw [Callee.scope (by assumption)]; rfl) ?_
        with_reducible refine ⟨Kp.bi, ?_⟩
        refine Evs.cons ?_
        with_reducible refine Ev.loc (mem1 mem0) ?_
        with_reducible refine Evs.nil ?_
        with_reducible refine EvK.nil ?_
        refine ⟨[], rfl, rfl, ?_⟩
        refine Cl.lenBytes (by show (textOct n).size ≤ _; omega) ?_
        with_reducible refine d_add ?_
        with_reducible refine Evs.nil ?_
        refine ⟨sz rfl, ?_⟩
        with_reducible refine Evs.nil ?_
        with_reducible refine EvK.nil ?_
        refine ⟨[], rfl, rfl, ?_⟩
        refine Cl.bytes1 hh' (by omega) (by show 160 + ((textOct n).size : Int) < 256; omega) ?_
        with_reducible refine Ev.loc (mem1 mem0) ?_
        refine Do2.is (Is.addBytes (by rw [byteArr_size]; show 1 + (textOct n).size ≤ _; omega)) ?_
        with_reducible refine Evs.nil ?_
        refine ⟨sz rfl, ?_⟩
        with_reducible refine Then.ret ?_
        exact ⟨_, Less.mk' q⟩
end
end
section

theorem Cl.bytes2 {c : Cx} {ρ : Loc} {H : Hp} {Q : V → Hp → Prop} {X : XP} {a b : Int} (hh : c.A.handled = none) (h0 : 0 ≤ a) (h1 : a < 256) (h2 : 0 ≤ b) (h3 : b < 256) (q : Q (.bytes (byteArr [a, b])) H) : Cl c (.ty "bytes") [.lst [.int a, .int b]] [] ρ H Q X :=
  Cl.bytesInts (ns := [a, b]) hh (fun n hn => by
    rcases List.mem_cons.mp hn with rfl | hn
    · exact ⟨h0, h1⟩
    · rw [List.mem_singleton.mp hn]; exact ⟨h2, h3⟩) (Nat.le_of_ble_eq_true rfl) q
/-- what _law_message tells -/
def msgNum (n : Int) : Int := if n.fmod 7 = 0 then (n.fdiv 7).fmod (3 * 2 ^ 63) - 2 ^ 63 else (n.fdiv 7).fmod 400 - 150
def msgBody (r : Int) : List Int := (List.range (r.fmod 11).toNat).map fun k : Nat => (r + 53 * (k : Int)).fmod 256
def msgParts (r : Int) : List Int := (List.range (r.fmod 4).toNat).map fun k : Nat => (r.fdiv 4).fmod 70000 - 20 * (k : Int)
def mapPair (r : Int) (k : Nat) : V := .tup [.tup [.str "text", .str ⟨#[(98 - (k : Int)).toNat]⟩], .tup [.str "text", .str (textStr (r.fdiv 3 + (k : Int)))]]
def mapOct (r : Int) : Nat → Array UInt8
  | 0 => byteArr [128 + r.fmod 3]
  | k + 1 => mapOct r k ++ byteArr [161, 98 - (k : Int)] ++ (byteArr [160 + ((textOct (r.fdiv 3 + (k : Int))).size : Int)] ++ textOct (r.fdiv 3 + (k : Int)))
theorem mapOct_size (r : Int) : ∀ k, (mapOct r k).size ≤ 1 + 23 * k
  | 0 => by unfold mapOct; rw [byteArr_size]; exact Nat.le_refl 1
  | k + 1 => by
    have h := mapOct_size r k
    have h2 := textOct_size (r.fdiv 3 + (k : Int))
    unfold mapOct
    rw [Array.size_append, Array.size_append, Array.size_append, byteArr_size, byteArr_size]
    show _ + 2 + (1 + _) ≤ _
    omega
section
variable {c : Cx} {ρ : Loc} {H : Hp} {Q : V → Hp → Prop} {X : XP}
theorem law_message (B : Ok c) (hr : 4 ≤ c.rm) (hh : c.A.handled = none) {n : Int} (q1 : n.fmod 7 < 2 → Q (.tup [.tup [.str "number", .int (msgNum n)], lawNum (msgNum n)]) H) (q2 : n.fmod 7 = 2 → Q (textV (n.fdiv 7)) H)
    (q3 : n.fmod 7 = 3 → Q (.tup [.tup [.str "octets", .bytes (byteArr (msgBody (n.fdiv 7)))], .bytes (byteArr [196, ((byteArr (msgBody (n.fdiv 7))).size : Int)] ++ byteArr (msgBody (n.fdiv 7)))]) H)
    (q4 : n.fmod 7 = 4 → Q (.tup [.tup [.str "list", .lst ((msgParts (n.fdiv 7)).map fun k => .tup [.str "number", .int k])], .bytes (byteArr [144 + ((msgParts (n.fdiv 7)).length : Int)] ++ BJ.cat ((msgParts (n.fdiv 7)).map numB))]) H)
    (q5 : n.fmod 7 = 5 → Q (.tup [.tup [.str "map", .lst ((List.range ((n.fdiv 7).fmod 3).toNat).map (mapPair (n.fdiv 7)))], .bytes (mapOct (n.fdiv 7) ((n.fdiv 7).fmod 3).toNat)]) H)
    (q6 : n.fmod 7 = 6 → Q (.tup [.tup [.str "truth", .bool (decide ((n.fdiv 7).fmod 2 = 1))], .bytes (byteArr [194 + (n.fdiv 7).fmod 2])]) H) : ClC c (.ref 507) [.int n] [] ρ H Q (fun _ _ _ => False) := by
  refine' ClC.fnC (p := "number") (x := "rest") (rest := ["way", "n", "body", "parts", "due", "octets", "k", "told"]) ?ho ?hcd [("number", some (.int n))] none (.inr ⟨by decide, rfl, rfl⟩) ?hst ?hcf ?hb (by omega) ?h
  case ho => rw [B.K]; k_is
  case hcd => rw [B.K]; k_is
  case hst => rfl
  case hcf => intro n; rfl
  case hb => intro val S; kernel_rfl
  intro c' a C
  have B' := B.callee C
  have hh' : c'.A.handled = none := C.handled.trans hh
  have hrm := C.rm
  change Exs c' _ [("number", some (.int n)), ("way", none), ("n", none), ("body", none), ("parts", none), ("due", none), ("octets", none), ("k", none), ("told", none)] _ _ _
  with_reducible refine Exs.cons ?_
  refine Ex.assign ?_
  with_reducible refine Ev.bin ?_
  with_reducible refine Ev.loc mem0 ?_
  with_reducible refine Ev.int ?_
  with_reducible refine d_mod (by decide) ?_
  refine put_and (Put.tail Put.head) ?_
  with_reducible refine Then.next ?_
  with_reducible refine Exs.cons ?_
  refine Ex.assignCl (by rw [Callee.scope (by assumption)]; rfl) (by rw [Callee.cells (by assumption)]; rfl) ?_
  with_reducible refine Ev.bin ?_
  with_reducible refine Ev.loc mem0 ?_
  with_reducible refine Ev.int ?_
  with_reducible refine d_fdiv (by decide) (by decide) ?_
  refine cell_and Upd.head ?_
  with_reducible refine Then.next ?_
  with_reducible refine Exs.cons ?_
  with_reducible refine Ex.ite ?_
  refine Tt.tst (v := decide (n.fmod 7 < 2)) (by (refine Tt.cmp ?_; with_reducible refine Ev.loc (mem1 mem0) ?_; with_reducible refine Ev.int ?_; with_reducible refine c_lt ?_; exact Tst.mk)) ?_
  refine ite_d (fun e => ?_) (fun e => ?_)
  · have q := q1 e
    with_reducible refine Exs.cons ?_
    refine Ex.assign ?_
    refine Ev.val (v := .int (msgNum n)) ?_ ?_
    · with_reducible refine Ev.ifexp ?_
      refine Tt.tst (v := decide (n.fmod 7 = 0)) (by (refine Tt.cmp ?_; with_reducible refine Ev.loc (mem1 mem0) ?_; with_reducible refine Ev.int ?_; with_reducible refine c_eq ?_; exact Tst.mk)) ?_
      unfold msgNum
      refine ite_d (fun f => ?_) (fun f => ?_)
      · rw [if_pos f]
        with_reducible refine Ev.bin ?_
        with_reducible refine Ev.bin ?_
        refine Ev.cell (by rw [Callee.scope (by assumption)]; rfl) (by rw [Callee.cells (by assumption)]; rfl) mem0 ?_
        with_reducible refine Ev.bin ?_
        with_reducible refine Ev.int ?_
        with_reducible refine Ev.bin ?_
        with_reducible refine Ev.int ?_
        with_reducible refine Ev.int ?_
        refine Do2.is (Is.pow (by decide) (by decide) (by decide)) ?_
        with_reducible refine d_mul (by first | exact IntMulOk.of_left (by decide) | exact IntMulOk.of_right (by decide)) ?_
        with_reducible refine d_mod (by decide) ?_
        with_reducible refine Ev.bin ?_
        with_reducible refine Ev.int ?_
        with_reducible refine Ev.int ?_
        refine Do2.is (Is.pow (by decide) (by decide) (by decide)) ?_
        with_reducible refine d_sub ?_
        exact Val.mk
      · rw [if_neg f]
        with_reducible refine Ev.bin ?_
        with_reducible refine Ev.bin ?_
        refine Ev.cell (by rw [Callee.scope (by assumption)]; rfl) (by rw [Callee.cells (by assumption)]; rfl) mem0 ?_
        with_reducible refine Ev.int ?_
        with_reducible refine d_mod (by decide) ?_
        with_reducible refine Ev.int ?_
        with_reducible refine d_sub ?_
        exact Val.mk
    · refine put_and (Put.tail (Put.tail Put.head)) ?_
      with_reducible refine Then.next ?_
      with_reducible refine Exs.cons ?_
      with_reducible refine Ex.ret ?_
      with_reducible refine Ev.tup ?_
      refine Evs.cons ?_
      with_reducible refine Ev.tup ?_
      refine Evs.cons ?_
      with_reducible refine Ev.str ?_
      refine Evs.cons ?_
      with_reducible refine Ev.loc (mem1 (mem1 mem0)) ?_
      with_reducible refine Evs.nil ?_
      refine ⟨sz rfl, ?_⟩
      refine Evs.cons ?_
      refine Ev.call ?_
      refine Ev.g (by assumption) Gl.g_law_number (by rw [Callee.scope (by assumption)]; rfl) ?_
      refine ⟨Kp.ref (by rw [Ok.K (by assumption)]; k_is), ?_⟩
      refine Evs.cons ?_
      with_reducible refine Ev.loc (mem1 (mem1 mem0)) ?_
      with_reducible refine Evs.nil ?_
      with_reducible refine EvK.nil ?_
      refine ⟨[], rfl, rfl, ?_⟩
      refine (law_number B' (by omega) hh' ?_).cl
      with_reducible refine Evs.nil ?_
      refine ⟨sz rfl, ?_⟩
      with_reducible refine Then.ret ?_
      with_reducible refine Then.ret ?_
      exact ⟨_, Less.mk' q⟩
  · with_reducible refine Exs.nil ?_
    with_reducible refine Then.next ?_
    with_reducible refine Exs.cons ?_
    with_reducible refine Ex.ite ?_
    refine Tt.tst (v := decide (n.fmod 7 = 2)) (by (refine Tt.cmp ?_; with_reducible refine Ev.loc (mem1 mem0) ?_; with_reducible refine Ev.int ?_; with_reducible refine c_eq ?_; exact Tst.mk)) ?_
    refine ite_d (fun e2 => ?_) (fun e2 => ?_)
    · have q := q2 e2
      with_reducible refine Exs.cons ?_
      with_reducible refine Ex.ret ?_
      refine Ev.call ?_
      refine Ev.g (by assumption) Gl.g_law_text (by rw [Callee.scope (by assumption)]; rfl) ?_
      refine ⟨Kp.ref (by rw [Ok.K (by assumption)]; k_is), ?_⟩
      refine Evs.cons ?_
      refine Ev.cell (by rw [Callee.scope (by assumption)]; rfl) (by rw [Callee.cells (by assumption)]; rfl) mem0 ?_
      with_reducible refine Evs.nil ?_
      with_reducible refine EvK.nil ?_
      refine ⟨[], rfl, rfl, ?_⟩
      refine (law_text B' (by omega) hh' ?_).cl
      with_reducible refine Then.ret ?_
      with_reducible refine Then.ret ?_
      exact ⟨_, Less.mk' q⟩
    with_reducible refine Exs.nil ?_
    with_reducible refine Then.next ?_
    with_reducible refine Exs.cons ?_
    with_reducible refine Ex.ite ?_
    refine Tt.tst (v := decide (n.fmod 7 = 3)) (by (refine Tt.cmp ?_; with_reducible refine Ev.loc (mem1 mem0) ?_; with_reducible refine Ev.int ?_; with_reducible refine c_eq ?_; exact Tst.mk)) ?_
    refine ite_d (fun e3 => ?_) (fun e3 => ?_)
    · have q := q3 e3
      have hr0 := Int.fmod_nonneg_of_pos (n.fdiv 7) (show (0 : Int) < 11 by decide)
      have hr1 := Int.fmod_lt_of_pos (n.fdiv 7) (show (0 : Int) < 11 by decide)
      have hbl : (msgBody (n.fdiv 7)).length ≤ 10 := by unfold msgBody; rw [List.length_map, List.length_range]; omega
      with_reducible refine Exs.cons ?_
      refine Ex.assign ?_
      refine Ev.call ?_
      refine Ev.g (by assumption) Gl.g_bytes (by rw [Callee.scope (by assumption)]; rfl) ?_
      with_reducible refine ⟨Kp.ty, ?_⟩
      refine Evs.cons ?_
      refine Ev.comp (names := ["k"]) (cl := [("rest", a)]) hh' (closure_one (by rw [C.cells]; rfl) rfl) (by rw [C.scope]; rfl) ?_
      refine Ev.call ?_
      refine Ev.g (by assumption) Gl.g_range (by rw [Callee.scope (by assumption)]; rfl) ?_
      with_reducible refine ⟨Kp.ty, ?_⟩
      refine Evs.cons ?_
      with_reducible refine Ev.bin ?_
      refine Ev.cell (by rw [Callee.scope (by assumption)]; rfl) (by rw [Callee.cells (by assumption)]; rfl) mem0 ?_
      with_reducible refine Ev.int ?_
      with_reducible refine d_mod (by decide) ?_
      with_reducible refine Evs.nil ?_
      with_reducible refine EvK.nil ?_
      refine ⟨[], rfl, rfl, ?_⟩
      refine Cl.range ?_
      refine ⟨(msgBody (n.fdiv 7)).map V.int, CompOf.map (fun v => match v with | .int k => .int ((n.fdiv 7 + 53 * k).fmod 256) | _ => .none) (It.range (by decide) (by decide) (by omega) (by omega)) ?_ (fun _ => trivial) ?_ ?_, ?_⟩
      · simp; omega
      · unfold msgBody
        rw [List.map_map, List.map_map, Int.sub_zero]
        refine List.map_congr_left fun k _ => ?_
        simp only [Function.comp, Int.zero_add]
      · intro c₂ I x hx
        have B₂ := B'.inner I
        obtain ⟨j, hj, rfl⟩ := List.mem_map.mp hx
        refine ⟨[("k", some (.int (0 + (j : Int))))], Asg.name Put.head, rfl, fun q₁ q₂ => ?_⟩
        with_reducible refine Ev.bin ?_
        with_reducible refine Ev.bin ?_
        refine Ev.cell (by rw [Inner.scope (by assumption), Callee.scope (by assumption)]; rfl) (by rw [Inner.cells (by assumption)]; rfl) (mem1 (mem1 mem0)) ?_
        with_reducible refine Ev.bin ?_
        with_reducible refine Ev.int ?_
        with_reducible refine Ev.loc mem0 ?_
        with_reducible refine d_mul (by first | exact IntMulOk.of_left (by decide) | exact IntMulOk.of_right (by decide)) ?_
        with_reducible refine d_add ?_
        with_reducible refine Ev.int ?_
        with_reducible refine d_mod (by decide) ?_
        exact Val.mk
      · with_reducible refine Evs.nil ?_
        with_reducible refine EvK.nil ?_
        refine ⟨[], rfl, rfl, ?_⟩
        refine Cl.bytesInts hh' (fun m hm => ?_) (by omega) ?_
        · obtain ⟨k, _, rfl⟩ := List.mem_map.mp hm
          exact ⟨Int.fmod_nonneg_of_pos _ (by decide), Int.fmod_lt_of_pos _ (by decide)⟩
        refine put_and (Put.tail (Put.tail (Put.tail Put.head))) ?_
        with_reducible refine Then.next ?_
        with_reducible refine Exs.cons ?_
        with_reducible refine Ex.ret ?_
        with_reducible refine Ev.tup ?_
        refine Evs.cons ?_
        with_reducible refine Ev.tup ?_
        refine Evs.cons ?_
        with_reducible refine Ev.str ?_
        refine Evs.cons ?_
        with_reducible refine Ev.loc (mem1 (mem1 (mem1 mem0))) ?_
        with_reducible refine Evs.nil ?_
        refine ⟨sz rfl, ?_⟩
        refine Evs.cons ?_
        with_reducible refine Ev.bin ?_
        refine Ev.call ?_
        refine Ev.g (by assumption) Gl.g_bytes (by rw [Callee.scope (by assumption)]; rfl) ?_
        with_reducible refine ⟨Kp.ty, ?_⟩
        refine Evs.cons ?_
        with_reducible refine Ev.lst ?_
        refine Evs.cons ?_
        with_reducible refine Ev.int ?_
        refine Evs.cons ?_
        refine Ev.call ?_
        refine Ev.g (by assumption) Gl.g_len (by rw [Callee.scope (by assumption)]; rfl) ?_
        with_reducible refine ⟨Kp.bi, ?_⟩
        refine Evs.cons ?_
        with_reducible refine Ev.loc (mem1 (mem1 (mem1 mem0))) ?_
        with_reducible refine Evs.nil ?_
        with_reducible refine EvK.nil ?_
        refine ⟨[], rfl, rfl, ?_⟩
        have hbs : (byteArr (msgBody (n.fdiv 7))).size ≤ 10 := by rw [byteArr_size]; exact hbl
        refine Cl.lenBytes (by omega) ?_
        with_reducible refine Evs.nil ?_
        refine ⟨sz rfl, ?_⟩
        with_reducible refine Evs.nil ?_
        with_reducible refine EvK.nil ?_
        refine ⟨[], rfl, rfl, ?_⟩
        refine Cl.bytes2 hh' (by decide) (by decide) (by omega) (by omega) ?_
        with_reducible refine Ev.loc (mem1 (mem1 (mem1 mem0))) ?_
        refine Do2.is (Is.addBytes (by rw [byteArr_size]; show 2 + (byteArr (msgBody (n.fdiv 7))).size ≤ _; omega)) ?_
        with_reducible refine Evs.nil ?_
        refine ⟨sz rfl, ?_⟩
        with_reducible refine Then.ret ?_
        with_reducible refine Then.ret ?_
        exact ⟨_, Less.mk' q⟩
    with_reducible refine Exs.nil ?_
    with_reducible refine Then.next ?_
    with_reducible refine Exs.cons ?_
    with_reducible refine Ex.ite ?_
    refine Tt.tst (v := decide (n.fmod 7 = 4)) (by (refine Tt.cmp ?_; with_reducible refine Ev.loc (mem1 mem0) ?_; with_reducible refine Ev.int ?_; with_reducible refine c_eq ?_; exact Tst.mk)) ?_
    refine ite_d (fun e4 => ?_) (fun e4 => ?_)
    · have q := q4 e4
      have hr0 := Int.fmod_nonneg_of_pos (n.fdiv 7) (show (0 : Int) < 4 by decide)
      have hr1 := Int.fmod_lt_of_pos (n.fdiv 7) (show (0 : Int) < 4 by decide)
      have hpl : (msgParts (n.fdiv 7)).length ≤ 3 := by unfold msgParts; rw [List.length_map, List.length_range]; omega
      have hpr : ∀ k ∈ msgParts (n.fdiv 7), -100 ≤ k ∧ k < 70000 := fun k hk => by
        obtain ⟨j, hj, rfl⟩ := List.mem_map.mp hk
        have hj := List.mem_range.mp hj
        have h0 := Int.fmod_nonneg_of_pos ((n.fdiv 7).fdiv 4) (show (0 : Int) < 70000 by decide)
        have h1 := Int.fmod_lt_of_pos ((n.fdiv 7).fdiv 4) (show (0 : Int) < 70000 by decide)
        omega
      with_reducible refine Exs.cons ?_
      refine' Ex.assignComp (names := ["k"]) (cl := [("rest", a)]) (swaps_true C.scope rfl) hh' ?clos ?ok ?_ ?_
      case clos => exact closure_one (by rw [C.cells]; rfl) rfl
      case ok => rw [C.scope]; rfl
      rotate_left
      · intro _ _; rfl
      refine Ev.call ?_
      refine Ev.g (by assumption) Gl.g_range (by rw [Callee.scope (by assumption)]; rfl) ?_
      with_reducible refine ⟨Kp.ty, ?_⟩
      refine Evs.cons ?_
      with_reducible refine Ev.bin ?_
      refine Ev.cell (by rw [Callee.scope (by assumption)]; rfl) (by rw [Callee.cells (by assumption)]; rfl) mem0 ?_
      with_reducible refine Ev.int ?_
      with_reducible refine d_mod (by decide) ?_
      with_reducible refine Evs.nil ?_
      with_reducible refine EvK.nil ?_
      refine ⟨[], rfl, rfl, ?_⟩
      refine Cl.range ?_
      refine ⟨(msgParts (n.fdiv 7)).map V.int, CompOf.map (fun v => match v with | .int k => .int (((n.fdiv 7).fdiv 4).fmod 70000 - 20 * k) | _ => .none) (It.range (by decide) (by decide) (by omega) (by omega)) ?_ (fun _ => trivial) ?_ ?_, ?_⟩
      · simp; omega
      · unfold msgParts
        rw [List.map_map, List.map_map, Int.sub_zero]
        refine List.map_congr_left fun k _ => ?_
        simp only [Function.comp, Int.zero_add]
      · intro c₂ I x hx
        have B₂ := B'.inner I
        obtain ⟨j, hj, rfl⟩ := List.mem_map.mp hx
        refine ⟨[("k", some (.int (0 + (j : Int))))], Asg.name Put.head, rfl, fun q₁ q₂ => ?_⟩
        with_reducible refine Ev.bin ?_
        with_reducible refine Ev.bin ?_
        with_reducible refine Ev.bin ?_
        refine Ev.cell (by rw [Inner.scope (by assumption), Callee.scope (by assumption)]; rfl) (by rw [Inner.cells (by assumption)]; rfl) (mem1 (mem1 mem0)) ?_
        with_reducible refine Ev.int ?_
        with_reducible refine d_fdiv (by decide) (by decide) ?_
        with_reducible refine Ev.int ?_
        with_reducible refine d_mod (by decide) ?_
        with_reducible refine Ev.bin ?_
        with_reducible refine Ev.int ?_
        with_reducible refine Ev.loc mem0 ?_
        with_reducible refine d_mul (by first | exact IntMulOk.of_left (by decide) | exact IntMulOk.of_right (by decide)) ?_
        with_reducible refine d_sub ?_
        exact Val.mk
      refine put_and (Put.tail (Put.tail (Put.tail (Put.tail Put.head)))) ?_
      with_reducible refine Then.next ?_
      with_reducible refine Exs.cons ?_
      with_reducible refine Ex.ret ?_
      with_reducible refine Ev.tup ?_
      refine Evs.cons ?_
      with_reducible refine Ev.tup ?_
      refine Evs.cons ?_
      with_reducible refine Ev.str ?_
      refine Evs.cons ?_
      refine Ev.comp (names := ["n"]) (cl := []) hh' (closure_none rfl) (by rw [C.scope]; rfl) ?_
      with_reducible refine Ev.loc (mem1 (mem1 (mem1 (mem1 mem0)))) ?_
      refine ⟨(msgParts (n.fdiv 7)).map fun k => .tup [.str "number", .int k], CompOf.map (fun v => .tup [.str "number", v]) It.lst ?_ (fun _ => trivial) ?_ ?_, ?_⟩
      · rw [List.length_map]; omega
      · rw [List.map_map]; rfl
      · intro c₂ I x hx
        have B₂ := B'.inner I
        obtain ⟨k, hk, rfl⟩ := List.mem_map.mp hx
        refine ⟨[("n", some (.int k))], Asg.name Put.head, rfl, fun q₁ q₂ => ?_⟩
        with_reducible refine Ev.tup ?_
        refine Evs.cons ?_
        with_reducible refine Ev.str ?_
        refine Evs.cons ?_
        with_reducible refine Ev.loc mem0 ?_
        with_reducible refine Evs.nil ?_
        refine ⟨sz rfl, ?_⟩
        exact Val.mk
      with_reducible refine Evs.nil ?_
      refine ⟨sz rfl, ?_⟩
      refine Evs.cons ?_
      with_reducible refine Ev.bin ?_
      refine Ev.call ?_
      refine Ev.g (by assumption) Gl.g_bytes (by rw [Callee.scope (by assumption)]; rfl) ?_
      with_reducible refine ⟨Kp.ty, ?_⟩
      refine Evs.cons ?_
      with_reducible refine Ev.lst ?_
      refine Evs.cons ?_
      with_reducible refine Ev.bin ?_
      with_reducible refine Ev.int ?_
      refine Ev.call ?_
      refine Ev.g (by assumption) Gl.g_len (by rw [Callee.scope (by assumption)]; rfl) ?_
      with_reducible refine ⟨Kp.bi, ?_⟩
      refine Evs.cons ?_
      with_reducible refine Ev.loc (mem1 (mem1 (mem1 (mem1 mem0)))) ?_
      with_reducible refine Evs.nil ?_
      with_reducible refine EvK.nil ?_
      refine ⟨[], rfl, rfl, ?_⟩
      refine Cl.lenLst (by rw [List.length_map]; omega) ?_
      with_reducible refine d_add ?_
      with_reducible refine Evs.nil ?_
      refine ⟨sz rfl, ?_⟩
      with_reducible refine Evs.nil ?_
      with_reducible refine EvK.nil ?_
      refine ⟨[], rfl, rfl, ?_⟩
      refine Cl.bytes1 hh' (by omega) (by rw [List.length_map]; omega) ?_
      rw [List.length_map]
      refine Ev.meth ?_
      with_reducible refine Ev.bytes ?_
      refine ⟨_, _, Mt.joinB, Kp.bi, ?_⟩
      refine Evs.cons ?_
      refine Ev.comp (names := ["n"]) (cl := []) hh' (closure_none rfl) (by rw [C.scope]; rfl) ?_
      with_reducible refine Ev.loc (mem1 (mem1 (mem1 (mem1 mem0)))) ?_
      refine ⟨((msgParts (n.fdiv 7)).map numB).map V.bytes, CompOf.map (fun v => match v with | .int k => .bytes (numB k) | _ => .none) It.lst ?_ (fun _ => trivial) ?_ ?_, ?_⟩
      · rw [List.length_map]; omega
      · rw [List.map_map, List.map_map]; rfl
      · intro c₂ I x hx
        have B₂ := B'.inner I
        obtain ⟨k, hk, rfl⟩ := List.mem_map.mp hx
        have hb := hpr k hk
        refine ⟨[("n", some (.int k))], Asg.name Put.head, rfl, fun q₁ q₂ => ?_⟩
        refine Ev.call ?_
        refine Ev.g (by assumption) Gl.g_law_number (by rw [Inner.scope (by assumption), Callee.scope (by assumption)]; rfl) ?_
        refine ⟨Kp.ref (by rw [Ok.K (by assumption)]; k_is), ?_⟩
        refine Evs.cons ?_
        with_reducible refine Ev.loc mem0 ?_
        with_reducible refine Evs.nil ?_
        with_reducible refine EvK.nil ?_
        refine ⟨[], rfl, rfl, ?_⟩
        refine (law_number B₂ (by rw [I.rm]; omega) (I.handled.trans hh') ?_).cl
        rw [(lawNum_bytes (by omega) (by omega)).1]
        exact Val.mk
      with_reducible refine Evs.nil ?_
      with_reducible refine EvK.nil ?_
      refine ⟨[], rfl, rfl, ?_⟩
      have hcs : (BJ.cat ((msgParts (n.fdiv 7)).map numB)).size ≤ 27 := by
        rw [BJ.cat_size, List.map_map]
        have h := sum_le (f := Array.size ∘ numB) (m := 9) (l := msgParts (n.fdiv 7)) fun k hk => (lawNum_bytes (by have := hpr k hk; omega) (by have := hpr k hk; omega)).2
        omega
      refine Cl.joinB (by omega) ?_
      refine Do2.is (Is.addBytes (by rw [byteArr_size]; show 1 + (BJ.cat ((msgParts (n.fdiv 7)).map numB)).size ≤ _; omega)) ?_
      with_reducible refine Evs.nil ?_
      refine ⟨sz rfl, ?_⟩
      with_reducible refine Then.ret ?_
      with_reducible refine Then.ret ?_
      exact ⟨_, Less.mk' q⟩
    with_reducible refine Exs.nil ?_
    with_reducible refine Then.next ?_
    with_reducible refine Exs.cons ?_
    with_reducible refine Ex.ite ?_
    refine Tt.tst (v := decide (n.fmod 7 = 5)) (by (refine Tt.cmp ?_; with_reducible refine Ev.loc (mem1 mem0) ?_; with_reducible refine Ev.int ?_; with_reducible refine c_eq ?_; exact Tst.mk)) ?_
    refine ite_d (fun e5 => ?_) (fun e5 => ?_)
    · have q := q5 e5
      have hr0 := Int.fmod_nonneg_of_pos (n.fdiv 7) (show (0 : Int) < 3 by decide)
      have hr1 := Int.fmod_lt_of_pos (n.fdiv 7) (show (0 : Int) < 3 by decide)
      with_reducible refine Exs.cons ?_
      refine Ex.assign ?_
      refine Ev.list (Evs.nil ⟨sz rfl, fun d => ?_⟩)
      refine put_and (Put.tail (Put.tail (Put.tail (Put.tail (Put.tail Put.head))))) ?_
      with_reducible refine Then.next ?_
      with_reducible refine Exs.cons ?_
      refine Ex.assign ?_
      refine Ev.call ?_
      refine Ev.g (by assumption) Gl.g_bytes (by rw [Callee.scope (by assumption)]; rfl) ?_
      with_reducible refine ⟨Kp.ty, ?_⟩
      refine Evs.cons ?_
      with_reducible refine Ev.lst ?_
      refine Evs.cons ?_
      with_reducible refine Ev.bin ?_
      with_reducible refine Ev.int ?_
      with_reducible refine Ev.bin ?_
      refine Ev.cell (by rw [Callee.scope (by assumption)]; rfl) (by rw [Callee.cells (by assumption)]; rfl) (mem1 mem0) ?_
      with_reducible refine Ev.int ?_
      with_reducible refine d_mod (by decide) ?_
      with_reducible refine d_add ?_
      with_reducible refine Evs.nil ?_
      refine ⟨sz rfl, ?_⟩
      with_reducible refine Evs.nil ?_
      with_reducible refine EvK.nil ?_
      refine ⟨[], rfl, rfl, ?_⟩
      refine Cl.bytes1 hh' (by omega) (by omega) ?_
      refine put_and (Put.tail (Put.tail (Put.tail (Put.tail (Put.tail (Put.tail Put.head)))))) ?_
      with_reducible refine Then.next ?_
      with_reducible refine Exs.cons ?_
      refine Ex.for C.own hh' ?_
      refine Ev.call ?_
      refine Ev.g (by assumption) Gl.g_range (by rw [Callee.scope (by assumption)]; rfl) ?_
      with_reducible refine ⟨Kp.ty, ?_⟩
      refine Evs.cons ?_
      with_reducible refine Ev.bin ?_
      refine Ev.cell (by rw [Callee.scope (by assumption)]; rfl) (by rw [Callee.cells (by assumption)]; rfl) (mem1 mem0) ?_
      with_reducible refine Ev.int ?_
      with_reducible refine d_mod (by decide) ?_
      with_reducible refine Evs.nil ?_
      with_reducible refine EvK.nil ?_
      refine ⟨[], rfl, rfl, ?_⟩
      refine Cl.range ?_
      refine ⟨_, _, fun i ρ' H' => (∃ x y z : Option V, ρ' = ([("number", some (.int n)), ("way", some (.int (n.fmod 7))), ("n", none), ("body", x), ("parts", none), ("due", some (.ref d)), ("octets", some (.bytes (mapOct (n.fdiv 7) i))), ("k", y), ("told", z)] : Loc)) ∧
        H' = (d, .list ((List.range i).map (mapPair (n.fdiv 7)))) :: (a, .cell (some (.int (n.fdiv 7)))) :: H, It.range (by decide) (by decide) (by omega) (by omega), ⟨⟨none, none, none, rfl⟩, rfl⟩, fun _ _ _ _ => trivial, ?_, ?_⟩
      · intro i v ρ' H' q' hi ⟨⟨x, y, z, e1⟩, e2⟩
        subst e1 e2
        obtain ⟨hlt, rfl⟩ := range_at hi
        rw [Int.zero_add]
        refine put_and (by with_reducible exact (Put.tail (Put.tail (Put.tail (Put.tail (Put.tail (Put.tail (Put.tail Put.head)))))))) ?_
        have hi3 : i < 3 := by omega
        with_reducible refine Exs.cons ?_
        refine Ex.assignT hh' (.cons (.cons .nil)) ?_
        refine Ev.call ?_
        refine Ev.g (by assumption) Gl.g_law_text (by rw [Callee.scope (by assumption)]; rfl) ?_
        refine ⟨Kp.ref (by rw [Ok.K (by assumption)]; k_is), ?_⟩
        refine Evs.cons ?_
        with_reducible refine Ev.bin ?_
        with_reducible refine Ev.bin ?_
        refine Ev.cell (by rw [Callee.scope (by assumption)]; rfl) (by rw [Callee.cells (by assumption)]; rfl) (mem1 (mem1 mem0)) ?_
        with_reducible refine Ev.int ?_
        with_reducible refine d_fdiv (by decide) (by decide) ?_
        with_reducible refine Ev.loc (mem1 (mem1 (mem1 (mem1 (mem1 (mem1 (mem1 mem0))))))) ?_
        with_reducible refine d_add ?_
        with_reducible refine Evs.nil ?_
        with_reducible refine EvK.nil ?_
        refine ⟨[], rfl, rfl, ?_⟩
        refine (law_text B' (by omega) hh' ?_).cl.noX
        refine ⟨_, _, rfl, .cons (by with_reducible exact (Put.tail (Put.tail (Put.tail (Put.tail (Put.tail (Put.tail (Put.tail (Put.tail Put.head))))))))) (.cons (by with_reducible exact (Put.tail (Put.tail (Put.tail Put.head)))) .nil), ?_⟩
        with_reducible refine Then.next ?_
        with_reducible refine Exs.cons ?_
        refine Ex.exprS ?_
        refine Ev.meth ?_
        with_reducible refine Ev.loc (mem1 (mem1 (mem1 (mem1 (mem1 mem0))))) ?_
        refine ⟨_, _, Mt.list (by (with_reducible refine mem1 ?_; with_reducible exact mem0)) slot_list_append type_list_append, Kp.bi, ?_⟩
        refine Evs.cons ?_
        with_reducible refine Ev.tup ?_
        refine Evs.cons ?_
        with_reducible refine Ev.tup ?_
        refine Evs.cons ?_
        with_reducible refine Ev.str ?_
        refine Evs.cons ?_
        refine Ev.call ?_
        refine Ev.g (by assumption) Gl.g_chr (by rw [Callee.scope (by assumption)]; rfl) ?_
        with_reducible refine ⟨Kp.bi, ?_⟩
        refine Evs.cons ?_
        with_reducible refine Ev.bin ?_
        with_reducible refine Ev.int ?_
        with_reducible refine Ev.loc (mem1 (mem1 (mem1 (mem1 (mem1 (mem1 (mem1 mem0))))))) ?_
        with_reducible refine d_sub ?_
        with_reducible refine Evs.nil ?_
        with_reducible refine EvK.nil ?_
        refine ⟨[], rfl, rfl, ?_⟩
        refine Cl.chr (by omega) (by omega) ?_
        with_reducible refine Evs.nil ?_
        refine ⟨sz rfl, ?_⟩
        refine Evs.cons ?_
        with_reducible refine Ev.loc (mem1 (mem1 (mem1 (mem1 (mem1 (mem1 (mem1 (mem1 mem0)))))))) ?_
        with_reducible refine Evs.nil ?_
        refine ⟨sz rfl, ?_⟩
        with_reducible refine Evs.nil ?_
        with_reducible refine EvK.nil ?_
        refine ⟨[], rfl, rfl, ?_⟩
        refine Cl.append (by with_reducible exact (Upd.tail Upd.head)) (by rw [List.length_map, List.length_range]; omega) ?_
        with_reducible refine Then.next ?_
        with_reducible refine Exs.cons ?_
        refine Ex.assign ?_
        with_reducible refine Ev.bin ?_
        with_reducible refine Ev.bin ?_
        with_reducible refine Ev.loc (mem1 (mem1 (mem1 (mem1 (mem1 (mem1 mem0)))))) ?_
        refine Ev.call ?_
        refine Ev.g (by assumption) Gl.g_bytes (by rw [Callee.scope (by assumption)]; rfl) ?_
        with_reducible refine ⟨Kp.ty, ?_⟩
        refine Evs.cons ?_
        with_reducible refine Ev.lst ?_
        refine Evs.cons ?_
        with_reducible refine Ev.int ?_
        refine Evs.cons ?_
        with_reducible refine Ev.bin ?_
        with_reducible refine Ev.int ?_
        with_reducible refine Ev.loc (mem1 (mem1 (mem1 (mem1 (mem1 (mem1 (mem1 mem0))))))) ?_
        with_reducible refine d_sub ?_
        with_reducible refine Evs.nil ?_
        refine ⟨sz rfl, ?_⟩
        with_reducible refine Evs.nil ?_
        with_reducible refine EvK.nil ?_
        refine ⟨[], rfl, rfl, ?_⟩
        refine Cl.bytes2 hh' (by decide) (by decide) (by omega) (by omega) ?_
        have hs1 := mapOct_size (n.fdiv 7) i
        have hs2 := textOct_size ((n.fdiv 7).fdiv 3 + (i : Int))
        refine Do2.is (Is.addBytes (by rw [byteArr_size]; show _ + 2 ≤ _; omega)) ?_
        with_reducible refine Ev.loc (mem1 (mem1 (mem1 mem0))) ?_
        refine Do2.is (Is.addBytes (by rw [Array.size_append, Array.size_append, byteArr_size, byteArr_size]; show _ + 2 + (1 + _) ≤ _; omega)) ?_
        refine put_and (Put.tail (Put.tail (Put.tail (Put.tail (Put.tail (Put.tail Put.head)))))) ?_
        with_reducible refine Then.next ?_
        with_reducible refine Exs.nil ?_
        with_reducible refine TurnF.next ?_
        refine ⟨⟨_, _, _, rfl⟩, ?_⟩
        rw [List.range_succ, List.map_append]; rfl
      · rintro ρ' H' ⟨⟨x, y, z, e1⟩, e2⟩
        subst e1 e2
        rw [List.length_map, List.length_range, Int.sub_zero]
        with_reducible refine Then.next ?_
        with_reducible refine Exs.cons ?_
        with_reducible refine Ex.ret ?_
        refine Ev.tup (Evs.cons (Ev.tup (Evs.cons (Ev.str (Evs.cons (Ev.frz (by (with_reducible refine mem1 ?_; with_reducible refine mem1 ?_; with_reducible refine mem1 ?_; with_reducible refine mem1 ?_; with_reducible refine mem1 ?_; with_reducible exact mem0)) (.refl _) (Evs.nil ⟨sz rfl, ?_⟩)))))))
        refine Evs.cons ?_
        with_reducible refine Ev.loc (mem1 (mem1 (mem1 (mem1 (mem1 (mem1 mem0)))))) ?_
        with_reducible refine Evs.nil ?_
        refine ⟨sz rfl, ?_⟩
        with_reducible refine Then.ret ?_
        with_reducible refine Then.ret ?_
        exact ⟨_, Less.mk' q⟩
    have h0 := Int.fmod_nonneg_of_pos n (show (0 : Int) < 7 by decide)
    have h1 := Int.fmod_lt_of_pos n (show (0 : Int) < 7 by decide)
    have q := q6 (by omega)
    have hr0 := Int.fmod_nonneg_of_pos (n.fdiv 7) (show (0 : Int) < 2 by decide)
    have hr1 := Int.fmod_lt_of_pos (n.fdiv 7) (show (0 : Int) < 2 by decide)
    with_reducible refine Exs.nil ?_
    with_reducible refine Then.next ?_
    with_reducible refine Exs.cons ?_
    with_reducible refine Ex.ret ?_
    with_reducible refine Ev.tup ?_
    refine Evs.cons ?_
    with_reducible refine Ev.tup ?_
    refine Evs.cons ?_
    with_reducible refine Ev.str ?_
    refine Evs.cons ?_
    refine Ev.cmp ?_
    with_reducible refine Ev.bin ?_
    refine Ev.cell (by rw [Callee.scope (by assumption)]; rfl) (by rw [Callee.cells (by assumption)]; rfl) mem0 ?_
    with_reducible refine Ev.int ?_
    with_reducible refine d_mod (by decide) ?_
    with_reducible refine Ev.int ?_
    refine Do2.is Is.eq ?_
    with_reducible refine Evs.nil ?_
    refine ⟨sz rfl, ?_⟩
    refine Evs.cons ?_
    refine Ev.call ?_
    refine Ev.g (by assumption) Gl.g_bytes (by rw [Callee.scope (by assumption)]; rfl) ?_
    with_reducible refine ⟨Kp.ty, ?_⟩
    refine Evs.cons ?_
    with_reducible refine Ev.lst ?_
    refine Evs.cons ?_
    with_reducible refine Ev.bin ?_
    with_reducible refine Ev.int ?_
    with_reducible refine Ev.bin ?_
    refine Ev.cell (by rw [Callee.scope (by assumption)]; rfl) (by rw [Callee.cells (by assumption)]; rfl) mem0 ?_
    with_reducible refine Ev.int ?_
    with_reducible refine d_mod (by decide) ?_
    with_reducible refine d_add ?_
    with_reducible refine Evs.nil ?_
    refine ⟨sz rfl, ?_⟩
    with_reducible refine Evs.nil ?_
    with_reducible refine EvK.nil ?_
    refine ⟨[], rfl, rfl, ?_⟩
    refine Cl.bytes1 hh' (by omega) (by omega) ?_
    with_reducible refine Evs.nil ?_
    refine ⟨sz rfl, ?_⟩
    with_reducible refine Then.ret ?_
    exact ⟨_, Less.mk' q⟩
end
end
section

theorem perm_made {α : Type} {a b c d : α} {G : List α} : (a :: b :: c :: d :: G).Perm (c :: d :: b :: a :: G) := by
  have h := (List.reverse_perm [a, b, c, d])
  have h1 : ([a, b, c, d] : List α).Perm [c, d, b, a] := by
    have e1 : ([a, b, c, d] : List α).Perm ([c, d] ++ [a, b]) := List.perm_append_comm (l₁ := [a, b]) (l₂ := [c, d])
    exact e1.trans ((List.Perm.swap b a []).append_left [c, d])
  exact h1.append_right G

section
variable {c : Cx} {ρ : Loc} {H : Hp} {Q : V → Hp → Prop} {X : XP}
/-- Parts is made -/
theorem parts_make (B : Ok c) (hr : 2 ≤ c.rm) {ps : List (Array UInt8)} (hz : ps.length ≤ 1000) (q : ∀ A : RA, Q (.ref A.f) (FH A ps [] H)) : Cl c (.ref 481) [.lst (ps.map V.bytes)] [] ρ H Q X := by
  refine Cl.fit ?_
  refine' Cl.make ?hm ?hi ?hf (by omega) ?_
  case hi => rw [B.K]; k_is
  case hm => rw [B.K]; k_is
  case hf => rw [B.K]; k_is
  intro c₂ U x d
  have B₂ : Ok c₂ := ⟨by rw [U.K, B.K, U.w], by rw [U.gl, B.gl]⟩
  have hrm := U.rm
  refine' ClC.fn (bs := [("self", .ref x), ("parts", .lst (ps.map V.bytes))]) (rest := []) ?ho ?hcd ?hst ?hb (by omega) ?h
  case ho => rw [B₂.K]; k_is
  case hcd => rw [B₂.K]; k_is
  case hst => rfl
  case hb => intro z vs ks hv hk; cases hk; obtain _ | ⟨g1, hv⟩ := hv; obtain _ | ⟨g2, hv⟩ := hv; cases hv; exact ⟨_, fun S => by kernel_rfl, .cons g1 (.cons g2 .nil)⟩
  intro c' C
  have B' := B₂.callee C
  change Exs c' _ [("self", some (.ref x)), ("parts", some (.lst (ps.map V.bytes)))] _ _ _
  with_reducible refine Exs.cons ?_
  refine Ex.setAttr ?_
  refine Ev.call ?_
  refine Ev.g (by assumption) Gl.g_list (by rw [Callee.scope (by assumption)]; rfl) ?_
  with_reducible refine ⟨Kp.ty, ?_⟩
  refine Evs.cons ?_
  with_reducible refine Ev.loc (mem1 mem0) ?_
  with_reducible refine Evs.nil ?_
  with_reducible refine EvK.nil ?_
  refine ⟨[], rfl, rfl, ?_⟩
  refine Cl.listL (by rw [List.length_map]; omega) fun pl => ?_
  with_reducible refine Ev.loc mem0 ?_
  refine' set_and (mem1 mem0) (Upd.tail (Upd.tail Upd.head)) (dset_new rfl) ?w4_12 (Nat.le_of_ble_eq_true rfl) ?wq_12
  case w4_12 => (rw [Ok.K (by assumption)]; refine' setOK_mk ?ka_12 ?kb_12 ?kc_12 ?kd_12; (case kc_12 => k_is); (case ka_12 => k_is); (case kb_12 => k_is); (case kd_12 => k_is))
  with_reducible refine Then.next ?_
  with_reducible refine Exs.cons ?_
  refine Ex.setAttr ?_
  refine Ev.list (Evs.nil ⟨sz rfl, fun al => ?_⟩)
  with_reducible refine Ev.loc mem0 ?_
  refine' set_and (mem1 (mem1 mem0)) (Upd.tail (Upd.tail (Upd.tail Upd.head))) (dset_new rfl) ?w4_17 (Nat.le_of_ble_eq_true rfl) ?wq_17
  case w4_17 => (rw [Ok.K (by assumption)]; refine' setOK_mk ?ka_17 ?kb_17 ?kc_17 ?kd_17; (case kc_17 => k_is); (case ka_17 => k_is); (case kb_17 => k_is); (case kd_17 => k_is))
  with_reducible refine Then.next ?_
  with_reducible refine Exs.nil ?_
  exact ⟨rfl, .mk (G := []) (by rw [List.append_nil]; exact perm_made) (q ⟨0, 0, 0, x, d, pl, al⟩)⟩

/-- Parts.read -/
theorem parts_read (B : Ok c) (hr : 1 ≤ c.rm) {A : RA} {R M i k off : Int} {b : Array UInt8} {ps : List (Array UInt8)} {as : List Int} {G : Hp} {n : Nat} (hz : ps.length ≤ 100000) (hz1 : ∀ p ∈ ps, p.size ≤ 100000) (hz2 : as.length ≤ 100000)
    (q0 : ps = [] → Q (.bytes #[]) (RH A R M b i k off [] (as ++ [(n : Int)]) G))
    (q1 : ∀ p ps', ps = p :: ps' → Q (.bytes (p.toList.take n).toArray) (RH A R M b i k off (if n < p.size then (p.toList.drop n).toArray :: ps' else ps') (as ++ [(n : Int)]) G)) :
    ClC c (.ref 471) [.ref A.f, .int n] [] ρ (RH A R M b i k off ps as G) Q X := by
  refine' ClC.fn (bs := [("self", .ref A.f), ("size", .int n)]) (rest := ["part"]) ?ho ?hcd ?hst ?hb (by omega) ?h
  case ho => rw [B.K]; k_is
  case hcd => rw [B.K]; k_is
  case hst => rfl
  case hb => intro z vs ks hv hk; cases hk; obtain _ | ⟨g1, hv⟩ := hv; obtain _ | ⟨g2, hv⟩ := hv; cases hv; exact ⟨_, fun S => by rw [B.K]; kernel_rfl, .cons g1 (.cons g2 .nil)⟩
  intro c' C
  have B' := B.callee C
  change Exs c' _ [("self", some (.ref A.f)), ("size", some (.int n)), ("part", none)] _ _ _
  with_reducible refine Exs.cons ?_
  refine Ex.exprS ?_
  refine Ev.meth ?_
  refine Ev.attr ?_
  with_reducible refine Ev.loc mem0 ?_
  refine' Do1.is (Is.attr (mem1 (mem1 (mem1 mem0))) (mem1 (mem1 (mem1 (mem1 mem0)))) (mem1 mem0) ?w4_25 rfl) ?wq_25
  case w4_25 => (rw [Ok.K (by assumption)]; refine' attrOK_mk ?ka_25 ?kb_25 ?kc_25 ?kd_25; (case kc_25 => k_is); (case ka_25 => k_is); (case kb_25 => k_is); (case kd_25 => k_is))
  refine ⟨_, _, Mt.list (by (with_reducible refine mem1 ?_; with_reducible refine mem1 ?_; with_reducible refine mem1 ?_; with_reducible refine mem1 ?_; with_reducible refine mem1 ?_; with_reducible refine mem1 ?_; with_reducible exact mem0)) slot_list_append type_list_append, Kp.bi, ?_⟩
  refine Evs.cons ?_
  with_reducible refine Ev.loc (mem1 mem0) ?_
  with_reducible refine Evs.nil ?_
  with_reducible refine EvK.nil ?_
  refine ⟨[], rfl, rfl, ?_⟩
  refine Cl.append (by with_reducible exact (Upd.tail (Upd.tail (Upd.tail (Upd.tail (Upd.tail (Upd.tail Upd.head))))))) (by rw [List.length_map]; omega) ?_
  with_reducible refine Then.next ?_
  with_reducible refine Exs.cons ?_
  with_reducible refine Ex.ite ?_
  refine Tt.tst (v := decide ((n : Int) < 0)) (by (refine Tt.cmp ?_; with_reducible refine Ev.loc (mem1 mem0) ?_; with_reducible refine Ev.int ?_; with_reducible refine c_lt ?_; exact Tst.mk)) ?_
  refine ite_d (fun e => by omega) (fun e => ?_)
  with_reducible refine Exs.nil ?_
  with_reducible refine Then.next ?_
  with_reducible refine Exs.cons ?_
  refine Ex.assign ?_
  with_reducible refine Ev.ifexp ?_
  refine Tt.val ?_
  refine Ev.attr ?_
  with_reducible refine Ev.loc mem0 ?_
  refine' Do1.is (Is.attr (mem1 (mem1 (mem1 mem0))) (mem1 (mem1 (mem1 (mem1 mem0)))) mem0 ?w4_48 rfl) ?wq_48
  case w4_48 => (rw [Ok.K (by assumption)]; refine' attrOK_mk ?ka_48 ?kb_48 ?kc_48 ?kd_48; (case kc_48 => k_is); (case ka_48 => k_is); (case kb_48 => k_is); (case kd_48 => k_is))
  refine ⟨_, Tr.list (by (with_reducible refine mem1 ?_; with_reducible refine mem1 ?_; with_reducible refine mem1 ?_; with_reducible refine mem1 ?_; with_reducible refine mem1 ?_; with_reducible exact mem0)) (by rw [List.length_map]; omega), ?_⟩
  refine ite_d (fun e1 => ?_) (fun e1 => ?_)
  · cases ps with
    | nil => exact absurd rfl e1
    | cons p ps' =>
      have q1 := q1 p ps' rfl
      have hp := hz1 p (.head _)
      have hl : ps'.length < 100000 := hz
      refine Ev.meth ?_
      refine Ev.attr ?_
      with_reducible refine Ev.loc mem0 ?_
      refine' Do1.is (Is.attr (mem1 (mem1 (mem1 mem0))) (mem1 (mem1 (mem1 (mem1 mem0)))) mem0 ?w4_53 rfl) ?wq_53
      case w4_53 => (rw [Ok.K (by assumption)]; refine' attrOK_mk ?ka_53 ?kb_53 ?kc_53 ?kd_53; (case kc_53 => k_is); (case ka_53 => k_is); (case kb_53 => k_is); (case kd_53 => k_is))
      refine ⟨_, _, Mt.list (by (with_reducible refine mem1 ?_; with_reducible refine mem1 ?_; with_reducible refine mem1 ?_; with_reducible refine mem1 ?_; with_reducible refine mem1 ?_; with_reducible exact mem0)) PySem.F.slot_list_pop PySem.F.type_list_pop, Kp.bi, ?_⟩
      refine Evs.cons ?_
      with_reducible refine Ev.int ?_
      with_reducible refine Evs.nil ?_
      with_reducible refine EvK.nil ?_
      refine ⟨[], rfl, rfl, ?_⟩
      rw [List.map_cons]
      refine Cl.pop0 (by with_reducible exact (Upd.tail (Upd.tail (Upd.tail (Upd.tail (Upd.tail Upd.head)))))) (by rw [List.length_map]; omega) ?_
      refine put_and (Put.tail (Put.tail Put.head)) ?_
      with_reducible refine Then.next ?_
      with_reducible refine Exs.cons ?_
      with_reducible refine Ex.ite ?_
      refine Tt.tst (v := decide ((n : Int) < p.size)) ?_ ?_
      · refine Tt.cmp ?_
        refine Ev.call ?_
        refine Ev.g (by assumption) Gl.g_len (by rw [Callee.scope (by assumption)]; rfl) ?_
        with_reducible refine ⟨Kp.bi, ?_⟩
        refine Evs.cons ?_
        with_reducible refine Ev.loc (mem1 (mem1 mem0)) ?_
        with_reducible refine Evs.nil ?_
        with_reducible refine EvK.nil ?_
        refine ⟨[], rfl, rfl, ?_⟩
        refine Cl.lenBytes (by omega) ?_
        with_reducible refine Ev.loc (mem1 mem0) ?_
        with_reducible refine c_gt ?_
        exact Tst.mk
      refine ite_d (fun e2 => ?_) (fun e2 => ?_)
      · rw [if_pos (by omega)] at q1
        with_reducible refine Exs.cons ?_
        refine Ex.exprS ?_
        refine Ev.meth ?_
        refine Ev.attr ?_
        with_reducible refine Ev.loc mem0 ?_
        refine' Do1.is (Is.attr (mem1 (mem1 (mem1 mem0))) (mem1 (mem1 (mem1 (mem1 mem0)))) mem0 ?w4_81 rfl) ?wq_81
        case w4_81 => (rw [Ok.K (by assumption)]; refine' attrOK_mk ?ka_81 ?kb_81 ?kc_81 ?kd_81; (case kc_81 => k_is); (case ka_81 => k_is); (case kb_81 => k_is); (case kd_81 => k_is))
        refine ⟨_, _, Mt.list (by (with_reducible refine mem1 ?_; with_reducible refine mem1 ?_; with_reducible refine mem1 ?_; with_reducible refine mem1 ?_; with_reducible refine mem1 ?_; with_reducible exact mem0)) PySem.F.slot_list_insert PySem.F.type_list_insert, Kp.bi, ?_⟩
        refine Evs.cons ?_
        with_reducible refine Ev.int ?_
        refine Evs.cons ?_
        refine Ev.slice ?_
        with_reducible refine Ev.loc (mem1 (mem1 mem0)) ?_
        refine EvO.some ?_
        with_reducible refine Ev.loc (mem1 mem0) ?_
        refine EvO.none ⟨_, _, _, _, rfl, rfl, fun sa => ⟨HasItem.bytes, Sl.bytes (by omega) ?_⟩⟩
        with_reducible refine Evs.nil ?_
        with_reducible refine EvK.nil ?_
        refine ⟨[], rfl, rfl, ?_⟩
        refine Cl.insert0 (by with_reducible exact (Upd.tail (Upd.tail (Upd.tail (Upd.tail (Upd.tail Upd.head)))))) (by rw [List.length_map]; omega) ?_
        with_reducible refine Then.next ?_
        with_reducible refine Exs.nil ?_
        with_reducible refine Then.next ?_
        with_reducible refine Exs.cons ?_
        with_reducible refine Ex.ret ?_
        refine Ev.slice ?_
        with_reducible refine Ev.loc (mem1 (mem1 mem0)) ?_
        refine EvO.none (EvO.some ?_)
        with_reducible refine Ev.loc (mem1 mem0) ?_
        refine ⟨_, _, _, _, rfl, rfl, fun sa => ⟨HasItem.bytes, Sl.bytes (by omega) ?_⟩⟩
        rw [cutL_drop, cutL_take]
        (unfold RH FH at q1; rw [List.map_append] at q1)
        with_reducible refine Then.ret ?_
        exact q1
      · rw [if_neg (by omega)] at q1
        with_reducible refine Exs.nil ?_
        with_reducible refine Then.next ?_
        with_reducible refine Exs.cons ?_
        with_reducible refine Ex.ret ?_
        refine Ev.slice ?_
        with_reducible refine Ev.loc (mem1 (mem1 mem0)) ?_
        refine EvO.none (EvO.some ?_)
        with_reducible refine Ev.loc (mem1 mem0) ?_
        refine ⟨_, _, _, _, rfl, rfl, fun sa => ⟨HasItem.bytes, Sl.bytes (by omega) ?_⟩⟩
        rw [cutL_take]
        (unfold RH FH at q1; rw [List.map_append] at q1)
        with_reducible refine Then.ret ?_
        exact q1
  · have e2 : ps = [] := by
      cases ps with
      | nil => rfl
      | cons p ps' => exact absurd (by simp) e1
    subst e2
    have q0 := q0 rfl
    (unfold RH FH at q0; rw [List.map_append] at q0)
    with_reducible refine Ev.bytes ?_
    refine put_and (Put.tail (Put.tail Put.head)) ?_
    with_reducible refine Then.next ?_
    with_reducible refine Exs.cons ?_
    with_reducible refine Ex.ite ?_
    refine Tt.tst (v := false) ?_ ?_
    · refine Tt.cmp ?_
      refine Ev.call ?_
      refine Ev.g (by assumption) Gl.g_len (by rw [Callee.scope (by assumption)]; rfl) ?_
      with_reducible refine ⟨Kp.bi, ?_⟩
      refine Evs.cons ?_
      with_reducible refine Ev.loc (mem1 (mem1 mem0)) ?_
      with_reducible refine Evs.nil ?_
      with_reducible refine EvK.nil ?_
      refine ⟨[], rfl, rfl, ?_⟩
      refine Cl.lenBytes (by decide) ?_
      with_reducible refine Ev.loc (mem1 mem0) ?_
      with_reducible refine c_gt ?_
      refine ⟨?_, rfl⟩
      exact decide_eq_false (show ¬ ((n : Int) < 0) by omega)
    refine ite_f ?_
    with_reducible refine Exs.nil ?_
    with_reducible refine Then.next ?_
    with_reducible refine Exs.cons ?_
    with_reducible refine Ex.ret ?_
    refine Ev.slice ?_
    with_reducible refine Ev.loc (mem1 (mem1 mem0)) ?_
    refine EvO.none (EvO.some ?_)
    with_reducible refine Ev.loc (mem1 mem0) ?_
    refine ⟨_, _, _, _, rfl, rfl, fun sa => ⟨HasItem.bytes, Sl.bytes (by decide) ?_⟩⟩
    rw [cutL_take, show List.take n (#[] : Array UInt8).toList = [] from List.take_nil]
    with_reducible refine Then.ret ?_
    exact q0
/-- Parts.write -/
theorem parts_write (B : Ok c) (hr : 1 ≤ c.rm) {A : RA} {R M i k off : Int} {b : Array UInt8} {ps : List (Array UInt8)} {as : List Int} {G : Hp} {p : Array UInt8} (hz : ps.length ≤ 100000)
    (q : Q .none (RH A R M b i k off (ps ++ [p]) as G)) : ClC c (.ref 478) [.ref A.f, .bytes p] [] ρ (RH A R M b i k off ps as G) Q X := by
  refine' ClC.fn (bs := [("self", .ref A.f), ("part", .bytes p)]) (rest := []) ?ho ?hcd ?hst ?hb (by omega) ?h
  case ho => rw [B.K]; k_is
  case hcd => rw [B.K]; k_is
  case hst => rfl
  case hb => intro z vs ks hv hk; cases hk; obtain _ | ⟨g1, hv⟩ := hv; obtain _ | ⟨g2, hv⟩ := hv; cases hv; exact ⟨_, fun S => by kernel_rfl, .cons g1 (.cons g2 .nil)⟩
  intro c' C
  have B' := B.callee C
  change Exs c' _ [("self", some (.ref A.f)), ("part", some (.bytes p))] _ _ _
  with_reducible refine Exs.cons ?_
  refine Ex.exprS ?_
  refine Ev.meth ?_
  refine Ev.attr ?_
  with_reducible refine Ev.loc mem0 ?_
  refine' Do1.is (Is.attr (mem1 (mem1 (mem1 mem0))) (mem1 (mem1 (mem1 (mem1 mem0)))) mem0 ?w4_139 rfl) ?wq_139
  case w4_139 => (rw [Ok.K (by assumption)]; refine' attrOK_mk ?ka_139 ?kb_139 ?kc_139 ?kd_139; (case kc_139 => k_is); (case ka_139 => k_is); (case kb_139 => k_is); (case kd_139 => k_is))
  refine ⟨_, _, Mt.list (by (with_reducible refine mem1 ?_; with_reducible refine mem1 ?_; with_reducible refine mem1 ?_; with_reducible refine mem1 ?_; with_reducible refine mem1 ?_; with_reducible exact mem0)) slot_list_append type_list_append, Kp.bi, ?_⟩
  refine Evs.cons ?_
  with_reducible refine Ev.loc (mem1 mem0) ?_
  with_reducible refine Evs.nil ?_
  with_reducible refine EvK.nil ?_
  refine ⟨[], rfl, rfl, ?_⟩
  refine Cl.append (by with_reducible exact (Upd.tail (Upd.tail (Upd.tail (Upd.tail (Upd.tail Upd.head)))))) (by rw [List.length_map]; omega) ?_
  (unfold RH FH at q; rw [List.map_append] at q)
  with_reducible refine Then.next ?_
  with_reducible refine Exs.nil ?_
  exact q
end
end
section

namespace Exc
variable {c : Cx} (B : Ok c) (O : c.OK)
include B O
theorem out : ExcC c (.ref 91) := by
  refine' excC_app (bmB := [.type "Exception", .type "BaseException", .type "object"]) (newId := "Exception.__new__") O ?q ?e PySem.F.excBase_Exception rfl PySem.F.excBase_Exception
  case q => rw [B.K]; k_exc
  case e => rw [B.K]; kts_exm
theorem full : ExcC c (.ref 79) := by
  refine' excC_app (bmB := [.type "Exception", .type "BaseException", .type "object"]) (newId := "Exception.__new__") O ?q ?e PySem.F.excBase_Exception rfl PySem.F.excBase_Exception
  case q => rw [B.K]; k_exc
  case e => rw [B.K]; kts_exm
end Exc
section
variable {c : Cx} {ρ : Loc} {H : Hp} {Q : V → Hp → Prop} {X : XP}
/-- Unpacker._reserve -/
theorem reserve (B : Ok c) (hr : 2 ≤ c.rm) (hh : c.A.handled = none) {T : Task} (ok : T.OK) {p m n : Nat} {G : Hp} (hH : Rs T p m G H) (hS : p + n ≤ T.S) {kw : List (Str × V)} {rs : Bool} (hkw : kw = ([("raise_outofdata", .bool rs)] : List (Str × V)) ∨ (kw = [] ∧ rs = true))
    (q : ∀ H', Rs T p (p + n) G H' → Q .none H') (qe : rs = false → ∀ H' u as, Frug T.R T.B T.u0 T.ps0 as u [] true → p ≤ u.length → u.length < p + n → H' = RH T.A T.R T.M u.toArray p 0 T.off [] (T.as0 ++ as) G → Q .none H')
    (xe : rs = true → ∀ H', Ended T G H' → X (.ref 91) ρ H') (xf : T.M < T.S → ∀ H', Fulls T G H' → X (.ref 79) ρ H') : ClC c (.ref 378) [.ref T.A.a, .int n] kw ρ H Q X := by
  obtain ⟨pre, u, ps, as, F, hp, hm, hpre, rfl⟩ := hH
  refine' ClC.fn (bs := [("self", .ref T.A.a), ("n", .int n), ("raise_outofdata", .bool rs)]) (rest := ["remain_bytes", "to_read_bytes", "read_data"]) ?ho ?hcd ?hst ?hb (by omega) ?h
  case ho => rw [B.K]; k_is
  case hcd => rw [B.K]; k_is
  case hst => rfl
  case hb =>
    intro z vs ks hv hk; obtain _ | ⟨g1, hv⟩ := hv; obtain _ | ⟨g2, hv⟩ := hv; cases hv
    rcases hkw with rfl | ⟨rfl, rfl⟩
    · obtain _ | ⟨g3, hk⟩ := hk; cases hk
      exact ⟨_, fun S => by rw [B.K]; kernel_rfl, .cons g1 (.cons g2 (.cons g3 .nil))⟩
    · cases hk
      exact ⟨_, fun S => by rw [B.K]; kernel_rfl, .cons g1 (.cons g2 (.cons (.bool _) .nil))⟩
  intro c' C
  have B' := B.callee C
  have hh' : c'.A.handled = none := C.handled.trans hh
  have hsz : (pre ++ u).toArray.size = pre.length + u.length := by simp
  have hfl := congrArg List.length F.flat
  rw [List.length_append, List.length_append] at hfl
  have hsize := ok.size
  change Exs c' _ [("self", some (.ref T.A.a)), ("n", some (.int n)), ("raise_outofdata", some (.bool rs)), ("remain_bytes", none), ("to_read_bytes", none), ("read_data", none)] _ _ _
  with_reducible refine Exs.cons ?_
  refine Ex.assign ?_
  refine Ev.val (v := .int ((u.length : Int) - p - n)) ?_ ?_
  · with_reducible refine Ev.bin ?_
    with_reducible refine Ev.bin ?_
    refine Ev.call ?_
    refine Ev.g (by assumption) Gl.g_len (by rw [Callee.scope (by assumption)]; rfl) ?_
    with_reducible refine ⟨Kp.bi, ?_⟩
    refine Evs.cons ?_
    refine Ev.attr ?_
    with_reducible refine Ev.loc mem0 ?_
    refine' Do1.is (Is.attr mem0 (mem1 mem0) (mem1 (mem1 mem0)) ?w4_11 rfl) ?wq_11
    case w4_11 => (rw [Ok.K (by assumption)]; refine' attrOK_mk ?ka_11 ?kb_11 ?kc_11 ?kd_11; (case kc_11 => k_is); (case ka_11 => k_is); (case kb_11 => k_is); (case kd_11 => k_is))
    with_reducible refine Evs.nil ?_
    with_reducible refine EvK.nil ?_
    refine ⟨[], rfl, rfl, ?_⟩
    refine Cl.lenBa (by (with_reducible refine mem1 ?_; with_reducible refine mem1 ?_; with_reducible exact mem0)) (by omega) ?_
    refine Ev.attr ?_
    with_reducible refine Ev.loc mem0 ?_
    refine' Do1.is (Is.attr mem0 (mem1 mem0) (mem1 (mem1 (mem1 mem0))) ?w4_18 rfl) ?wq_18
    case w4_18 => (rw [Ok.K (by assumption)]; refine' attrOK_mk ?ka_18 ?kb_18 ?kc_18 ?kd_18; (case kc_18 => k_is); (case ka_18 => k_is); (case kb_18 => k_is); (case kd_18 => k_is))
    with_reducible refine d_sub ?_
    with_reducible refine Ev.loc (mem1 mem0) ?_
    with_reducible refine d_sub ?_
    refine ⟨?_, rfl⟩
    rw [hsz]; congr 1; omega
  refine put_and (Put.tail (Put.tail (Put.tail Put.head))) ?_
  with_reducible refine Then.next ?_
  with_reducible refine Exs.cons ?_
  with_reducible refine Ex.ite ?_
  refine Tt.tst (v := decide (p + n ≤ u.length)) ?_ ?_
  · refine Tt.cmp ?_
    with_reducible refine Ev.loc (mem1 (mem1 (mem1 mem0))) ?_
    with_reducible refine Ev.int ?_
    with_reducible refine c_ge ?_
    exact ⟨decide_eq_decide.mpr (by omega), rfl⟩
  refine ite_d (fun e => ?_) (fun e => ?_)
  · with_reducible refine Exs.cons ?_
    with_reducible refine Ex.retNone ?_
    with_reducible refine Then.ret ?_
    with_reducible refine Then.ret ?_
    exact q _ ⟨pre, u, ps, as, F, hp, e, hpre, rfl⟩
  with_reducible refine Exs.nil ?_
  with_reducible refine Then.next ?_
  with_reducible refine Exs.cons ?_
  with_reducible refine Ex.ite ?_
  refine Tt.tst (v := false) (by (refine Tt.val ?_; refine Ev.attr ?_; with_reducible refine Ev.loc mem0 ?_; refine' Do1.is (Is.attr mem0 (mem1 mem0) (mem1 mem0) ?w4_41 rfl) ?wq_41; (case w4_41 => (rw [Ok.K (by assumption)]; refine' attrOK_mk ?ka_41 ?kb_41 ?kc_41 ?kd_41; (case kc_41 => k_is); (case ka_41 => k_is); (case kb_41 => k_is); (case kd_41 => k_is))); with_reducible refine t_bool ?_; exact Tst.mk)) ?_
  refine ite_f ?_
  with_reducible refine Exs.nil ?_
  with_reducible refine Then.next ?_
  with_reducible refine Exs.cons ?_
  refine Ex.cut (ρ' := [("self", some (.ref T.A.a)), ("n", some (.int n)), ("raise_outofdata", some (.bool rs)), ("remain_bytes", some (.int ((u.length : Int) - p - n))), ("to_read_bytes", none), ("read_data", none)])
    (H' := RH T.A T.R T.M u.toArray p 0 T.off ps (T.as0 ++ as) G) ?_ ?_
  · refine Ex.ite ?_
    refine Tt.tst (v := decide (0 < pre.length)) ?_ ?_
    · refine Tt.cmp ?_
      refine Ev.attr ?_
      with_reducible refine Ev.loc mem0 ?_
      refine' Do1.is (Is.attr mem0 (mem1 mem0) (mem1 (mem1 (mem1 (mem1 mem0)))) ?w4_50 rfl) ?wq_50
      case w4_50 => (rw [Ok.K (by assumption)]; refine' attrOK_mk ?ka_50 ?kb_50 ?kc_50 ?kd_50; (case kc_50 => k_is); (case ka_50 => k_is); (case kb_50 => k_is); (case kd_50 => k_is))
      with_reducible refine Ev.int ?_
      with_reducible refine c_gt ?_
      exact ⟨decide_eq_decide.mpr (by omega), rfl⟩
    refine ite_d (fun e => ?_) (fun e => ?_)
    · with_reducible refine Exs.cons ?_
      refine Ex.delHead ?_
      refine Ev.attr ?_
      with_reducible refine Ev.loc mem0 ?_
      refine' Do1.is (Is.attr mem0 (mem1 mem0) (mem1 (mem1 mem0)) ?w4_56 rfl) ?wq_56
      case w4_56 => (rw [Ok.K (by assumption)]; refine' attrOK_mk ?ka_56 ?kb_56 ?kc_56 ?kd_56; (case kc_56 => k_is); (case ka_56 => k_is); (case kb_56 => k_is); (case kd_56 => k_is))
      refine Ev.attr ?_
      with_reducible refine Ev.loc mem0 ?_
      refine' Do1.is (Is.attr mem0 (mem1 mem0) (mem1 (mem1 (mem1 (mem1 mem0)))) ?w4_59 rfl) ?wq_59
      case w4_59 => (rw [Ok.K (by assumption)]; refine' attrOK_mk ?ka_59 ?kb_59 ?kc_59 ?kd_59; (case kc_59 => k_is); (case ka_59 => k_is); (case kb_59 => k_is); (case kd_59 => k_is))
      refine ⟨_, (pre ++ u).toArray, pre.length, _, rfl, rfl, by omega, by omega, by with_reducible exact (Upd.tail (Upd.tail Upd.head)), ?_⟩
      with_reducible refine Then.next ?_
      with_reducible refine Exs.cons ?_
      refine Ex.augAttr ?_
      with_reducible refine Ev.loc mem0 ?_
      refine' aug_and (Is.attr mem0 (mem1 mem0) (mem1 (mem1 (mem1 mem0))) ?w4_65 rfl) ?wq_65
      case w4_65 => (rw [Ok.K (by assumption)]; refine' attrOK_mk ?ka_65 ?kb_65 ?kc_65 ?kd_65; (case kc_65 => k_is); (case ka_65 => k_is); (case kb_65 => k_is); (case kd_65 => k_is))
      refine Ev.attr ?_
      with_reducible refine Ev.loc mem0 ?_
      refine' Do1.is (Is.attr mem0 (mem1 mem0) (mem1 (mem1 (mem1 (mem1 mem0)))) ?w4_68 rfl) ?wq_68
      case w4_68 => (rw [Ok.K (by assumption)]; refine' attrOK_mk ?ka_68 ?kb_68 ?kc_68 ?kd_68; (case kc_68 => k_is); (case ka_68 => k_is); (case kb_68 => k_is); (case kd_68 => k_is))
      with_reducible refine d_isub ?_
      refine' set_and2 mem0 (Upd.tail Upd.head) (DSet.put (DPut.tail (DPut.tail (DPut.tail DPut.head)))) ?w4_70 (Nat.le_of_ble_eq_true rfl) ?wq_70
      case w4_70 => (rw [Ok.K (by assumption)]; refine' setOK_mk ?ka_70 ?kb_70 ?kc_70 ?kd_70; (case kc_70 => k_is); (case ka_70 => k_is); (case kb_70 => k_is); (case kd_70 => k_is))
      with_reducible refine Then.next ?_
      with_reducible refine Exs.cons ?_
      refine Ex.setAttr ?_
      with_reducible refine Ev.int ?_
      with_reducible refine Ev.loc mem0 ?_
      refine' set_and mem0 (Upd.tail Upd.head) (DSet.put (DPut.tail (DPut.tail (DPut.tail (DPut.tail DPut.head))))) ?w4_76 (Nat.le_of_ble_eq_true rfl) ?wq_76
      case w4_76 => (rw [Ok.K (by assumption)]; refine' setOK_mk ?ka_76 ?kb_76 ?kc_76 ?kd_76; (case kc_76 => k_is); (case ka_76 => k_is); (case kb_76 => k_is); (case kd_76 => k_is))
      with_reducible refine Then.next ?_
      with_reducible refine Exs.nil ?_
      refine ⟨rfl, rfl, ?_⟩
      rw [show ((pre ++ u).toArray.toList.drop pre.length).toArray = u.toArray by simp, show (((pre.length + p : Nat) : Int) - (pre.length : Int)) = p by omega]
    · have : pre = [] := List.eq_nil_of_length_eq_zero (by omega)
      subst this
      with_reducible refine Exs.nil ?_
      refine ⟨rfl, rfl, ?_⟩
      rw [show ([] : List UInt8).length + p = p from Nat.zero_add p]; rfl
  have hua : u.toArray.size = u.length := by simp
  with_reducible refine Then.next ?_
  with_reducible refine Exs.cons ?_
  refine Ex.assign ?_
  with_reducible refine Ev.un ?_
  with_reducible refine Ev.loc (mem1 (mem1 (mem1 mem0))) ?_
  with_reducible refine d_neg ?_
  refine put_and (Put.tail (Put.tail (Put.tail Put.head))) ?_
  with_reducible refine Then.next ?_
  with_reducible refine Exs.cons ?_
  with_reducible refine Ex.ite ?_
  refine Tt.tst (v := decide (T.M < p + n)) ?_ ?_
  · refine Tt.cmp ?_
    with_reducible refine Ev.bin ?_
    with_reducible refine Ev.loc (mem1 (mem1 (mem1 mem0))) ?_
    refine Ev.call ?_
    refine Ev.g (by assumption) Gl.g_len (by rw [Callee.scope (by assumption)]; rfl) ?_
    with_reducible refine ⟨Kp.bi, ?_⟩
    refine Evs.cons ?_
    refine Ev.attr ?_
    with_reducible refine Ev.loc mem0 ?_
    refine' Do1.is (Is.attr mem0 (mem1 mem0) (mem1 (mem1 mem0)) ?w4_99 rfl) ?wq_99
    case w4_99 => (rw [Ok.K (by assumption)]; refine' attrOK_mk ?ka_99 ?kb_99 ?kc_99 ?kd_99; (case kc_99 => k_is); (case ka_99 => k_is); (case kb_99 => k_is); (case kd_99 => k_is))
    with_reducible refine Evs.nil ?_
    with_reducible refine EvK.nil ?_
    refine ⟨[], rfl, rfl, ?_⟩
    refine Cl.lenBa (by (with_reducible refine mem1 ?_; with_reducible refine mem1 ?_; with_reducible exact mem0)) (by omega) ?_
    with_reducible refine d_add ?_
    refine Ev.attr ?_
    with_reducible refine Ev.loc mem0 ?_
    refine' Do1.is (Is.attr mem0 (mem1 mem0) (mem1 (mem1 (mem1 (mem1 (mem1 mem0))))) ?w4_107 rfl) ?wq_107
    case w4_107 => (rw [Ok.K (by assumption)]; refine' attrOK_mk ?ka_107 ?kb_107 ?kc_107 ?kd_107; (case kc_107 => k_is); (case ka_107 => k_is); (case kb_107 => k_is); (case kd_107 => k_is))
    with_reducible refine c_gt ?_
    exact ⟨decide_eq_decide.mpr (by omega), rfl⟩
  refine ite_d (fun e2 => ?_) (fun e2 => ?_)
  · with_reducible refine Exs.cons ?_
    refine Ex.raiseO ?_
    refine Ev.g (by assumption) Gl.g_BufferFull (by rw [Callee.scope (by assumption)]; rfl) ?_
    exact ⟨_, rfl, Exc.full B', .inl hh', xf (by omega) _ ⟨_, _, _, _, _, rfl⟩⟩
  with_reducible refine Exs.nil ?_
  with_reducible refine Then.next ?_
  with_reducible refine Exs.cons ?_
  refine Ex.cutP (fun ρ' H' => ∃ u2 as2 ps2 e v0 v1 v2, Frug T.R T.B T.u0 T.ps0 as2 u2 ps2 e ∧ p ≤ u2.length ∧ (e = false → p + n ≤ u2.length) ∧ (e = true → u2.length < p + n) ∧
    ρ' = ([("self", some (.ref T.A.a)), ("n", some (.int n)), ("raise_outofdata", some (.bool rs)), ("remain_bytes", some (.int v0)), ("to_read_bytes", v1), ("read_data", v2)] : Loc) ∧
    H' = RH T.A T.R T.M u2.toArray p 0 T.off ps2 (T.as0 ++ as2) G) ?_ ?_
  · refine Ex.while C.own (fun k ρ' H' => ∃ u2 as2 ps2 v1 v2, Frug T.R T.B T.u0 T.ps0 as2 u2 ps2 false ∧ p ≤ u2.length ∧ k = p + n - u2.length ∧
      ρ' = ([("self", some (.ref T.A.a)), ("n", some (.int n)), ("raise_outofdata", some (.bool rs)), ("remain_bytes", some (.int ((p : Int) + n - u2.length))), ("to_read_bytes", v1), ("read_data", v2)] : Loc) ∧
      H' = RH T.A T.R T.M u2.toArray p 0 T.off ps2 (T.as0 ++ as2) G) (p + n - u.length) ⟨u, as, ps, none, none, F, hp, rfl, ?_, rfl⟩ ?_
    · rw [show -((u.length : Int) - p - n) = (p : Int) + n - u.length by omega]
    rintro k ρ' H' ⟨u2, as2, ps2, v1, v2, F2, hp2, hk, rfl, rfl⟩
    refine Tt.tst (v := decide (u2.length < p + n)) ?_ ?_
    · refine Tt.cmp ?_
      with_reducible refine Ev.loc (mem1 (mem1 (mem1 mem0))) ?_
      with_reducible refine Ev.int ?_
      with_reducible refine c_gt ?_
      exact ⟨decide_eq_decide.mpr (by omega), rfl⟩
    refine ite_d (fun e3 => ?_) (fun e3 => ?_)
    · have hfl2 := congrArg List.length F2.flat
      rw [List.length_append, List.length_append] at hfl2
      have hua2 : u2.toArray.size = u2.length := by simp
      have hps2 := F2.parts ok.parts
      have hsum : ∀ (l : List (Array UInt8)), (∀ q ∈ l, q.size ≠ 0) → l.length ≤ (flat l).length ∧ ∀ q ∈ l, q.size ≤ (flat l).length := fun l => by
        induction l with
        | nil => intro _; exact ⟨Nat.le_refl 0, nofun⟩
        | cons x l ih =>
          intro h
          obtain ⟨a, b⟩ := ih fun q hq => h q (.tail _ hq)
          have hx := h x (.head _)
          have hl : (flat (x :: l)).length = x.size + (flat l).length := by rw [flat_cons, List.length_append]; rfl
          refine ⟨by rw [hl, List.length_cons]; omega, fun q hq => ?_⟩
          rcases List.mem_cons.mp hq with rfl | hq
          · omega
          · have := b q hq; omega
      obtain ⟨hs1, hs2⟩ := hsum ps2 hps2
      have has := F2.asLen ok.R1
      have has0 := ok.asks
      with_reducible refine Exs.cons ?_
      refine Ex.assign ?_
      have hR2 := ok.R2
      have hS1 := ok.S1
      refine Ev.val (v := .int ((max T.R (p + n - u2.length) : Nat) : Int)) ?_ ?_
      · refine Ev.call ?_
        refine Ev.g (by assumption) Gl.g_max (by rw [Callee.scope (by assumption)]; rfl) ?_
        with_reducible refine ⟨Kp.bi, ?_⟩
        refine Evs.cons ?_
        refine Ev.attr ?_
        with_reducible refine Ev.loc mem0 ?_
        refine' Do1.is (Is.attr mem0 (mem1 mem0) (mem1 (mem1 (mem1 (mem1 (mem1 (mem1 mem0)))))) ?w4_126 rfl) ?wq_126
        case w4_126 => (rw [Ok.K (by assumption)]; refine' attrOK_mk ?ka_126 ?kb_126 ?kc_126 ?kd_126; (case kc_126 => k_is); (case ka_126 => k_is); (case kb_126 => k_is); (case kd_126 => k_is))
        refine Evs.cons ?_
        with_reducible refine Ev.loc (mem1 (mem1 (mem1 mem0))) ?_
        with_reducible refine Evs.nil ?_
        with_reducible refine EvK.nil ?_
        refine ⟨[], rfl, rfl, ?_⟩
        refine Cl.max2 hh' ⟨?_, rfl⟩
        congr 1; omega
      refine put_and (Put.tail (Put.tail (Put.tail (Put.tail Put.head)))) ?_
      with_reducible refine Then.next ?_
      with_reducible refine Exs.cons ?_
      refine Ex.assign ?_
      refine Ev.meth ?_
      refine Ev.attr ?_
      with_reducible refine Ev.loc mem0 ?_
      refine' Do1.is (Is.attr mem0 (mem1 mem0) mem0 ?w4_139 rfl) ?wq_139
      case w4_139 => (rw [Ok.K (by assumption)]; refine' attrOK_mk ?ka_139 ?kb_139 ?kc_139 ?kd_139; (case kc_139 => k_is); (case ka_139 => k_is); (case kb_139 => k_is); (case kd_139 => k_is))
      refine' ⟨_, _, Mt.inst (mem1 (mem1 (mem1 mem0))) (mem1 (mem1 (mem1 (mem1 mem0)))) (notKey rfl) ?w4_140, Kp.ref ?w5_140, ?wq_140⟩
      case w4_140 => (rw [Ok.K (by assumption)]; refine' methOK_mk ?ka_140 ?kb_140 ?kc_140 ?kd_140; (case kb_140 => k_is); (case ka_140 => k_is); (case kc_140 => k_is); (case kd_140 => k_is))
      case w5_140 => (rw [Ok.K (by assumption)]; k_is)
      refine Evs.cons ?_
      with_reducible refine Ev.loc (mem1 (mem1 (mem1 (mem1 mem0)))) ?_
      with_reducible refine Evs.nil ?_
      with_reducible refine EvK.nil ?_
      refine ⟨[], rfl, rfl, ?_⟩
      refine (parts_read B' (by have := C.rm; omega) (by omega) (fun q hq => by have := hs2 q hq; omega) (by rw [List.length_append]; simp only [Bool.false_eq_true, if_false] at has; omega) ?_ ?_).cl
      · rintro rfl
        refine put_and (Put.tail (Put.tail (Put.tail (Put.tail (Put.tail Put.head))))) ?_
        with_reducible refine Then.next ?_
        with_reducible refine Exs.cons ?_
        with_reducible refine Ex.ite ?_
        refine Tt.tst (v := true) ?_ ?_
        · refine Tt.not (Tt.val ?_)
          with_reducible refine Ev.loc (mem1 (mem1 (mem1 (mem1 (mem1 mem0))))) ?_
          exact ⟨_, Tr.bytes (by decide), rfl, rfl⟩
        refine ite_t ?_
        with_reducible refine Exs.cons ?_
        with_reducible refine Ex.brk ?_
        refine ⟨rfl, u2, as2 ++ [((max T.R (p + n - u2.length) : Nat) : Int)], [], true, _, _, _, F2.trans rfl (.last (need := p + n) e3 (Nat.le_min.mpr ⟨hS, by omega⟩) rfl), hp2, nofun, fun _ => e3, rfl, ?_⟩
        rw [List.append_assoc]
      · rintro x ps3 rfl
        have hx0 := hps2 x (.head _)
        have hx1 := hs2 x (.head _)
        have hmin : (x.toList.take (max T.R (p + n - u2.length))).toArray.size = min (max T.R (p + n - u2.length)) x.size := by simp
        refine put_and (Put.tail (Put.tail (Put.tail (Put.tail (Put.tail Put.head))))) ?_
        with_reducible refine Then.next ?_
        with_reducible refine Exs.cons ?_
        with_reducible refine Ex.ite ?_
        refine Tt.tst (v := false) ?_ ?_
        · refine Tt.not (Tt.val ?_)
          with_reducible refine Ev.loc (mem1 (mem1 (mem1 (mem1 (mem1 mem0))))) ?_
          refine ⟨_, Tr.bytes (by omega), ?_, rfl⟩
          rw [decide_eq_true (show (x.toList.take (max T.R (p + n - u2.length))).toArray.size ≠ 0 by omega)]; rfl
        refine ite_f ?_
        with_reducible refine Exs.nil ?_
        with_reducible refine Then.next ?_
        with_reducible refine Exs.cons ?_
        refine Ex.assert hh' ?_
        refine Tt.tst (v := true) ?_ ?_
        · refine Tt.val ?_
          refine Ev.call ?_
          refine Ev.g (by assumption) Gl.g_isinstance (by rw [Callee.scope (by assumption)]; rfl) ?_
          with_reducible refine ⟨Kp.bi, ?_⟩
          refine Evs.cons ?_
          with_reducible refine Ev.loc (mem1 (mem1 (mem1 (mem1 (mem1 mem0))))) ?_
          refine Evs.cons ?_
          refine Ev.g (by assumption) Gl.g_bytes (by rw [Callee.scope (by assumption)]; rfl) ?_
          with_reducible refine Evs.nil ?_
          with_reducible refine EvK.nil ?_
          refine ⟨[], rfl, rfl, ?_⟩
          refine Cl.isi (.bytes _) (kit_no (b := true) rfl (by kernel_rfl) nofun) ?_
          with_reducible refine t_bool ?_
          exact Tst.mk
        refine ite_t ?_
        with_reducible refine Then.next ?_
        with_reducible refine Exs.cons ?_
        refine Ex.augAttr ?_
        with_reducible refine Ev.loc mem0 ?_
        refine' aug_and (Is.attr mem0 (mem1 mem0) (mem1 (mem1 mem0)) ?w4_176 rfl) ?wq_176
        case w4_176 => (rw [Ok.K (by assumption)]; refine' attrOK_mk ?ka_176 ?kb_176 ?kc_176 ?kd_176; (case kc_176 => k_is); (case ka_176 => k_is); (case kb_176 => k_is); (case kd_176 => k_is))
        with_reducible refine Ev.loc (mem1 (mem1 (mem1 (mem1 (mem1 mem0))))) ?_
        refine iaddBa (by with_reducible exact (Upd.tail (Upd.tail Upd.head))) (by omega) ?_
        refine' set_and2 mem0 (Upd.tail Upd.head) (DSet.put (DPut.tail (DPut.tail DPut.head))) ?w4_179 (Nat.le_of_ble_eq_true rfl) ?wq_179
        case w4_179 => (rw [Ok.K (by assumption)]; refine' setOK_mk ?ka_179 ?kb_179 ?kc_179 ?kd_179; (case kc_179 => k_is); (case ka_179 => k_is); (case kb_179 => k_is); (case kd_179 => k_is))
        with_reducible refine Then.next ?_
        with_reducible refine Exs.cons ?_
        refine Ex.aug (mem1 (mem1 (mem1 mem0))) ?_
        refine Ev.call ?_
        refine Ev.g (by assumption) Gl.g_len (by rw [Callee.scope (by assumption)]; rfl) ?_
        with_reducible refine ⟨Kp.bi, ?_⟩
        refine Evs.cons ?_
        with_reducible refine Ev.loc (mem1 (mem1 (mem1 (mem1 (mem1 mem0))))) ?_
        with_reducible refine Evs.nil ?_
        with_reducible refine EvK.nil ?_
        refine ⟨[], rfl, rfl, ?_⟩
        refine Cl.lenBytes (by omega) ?_
        with_reducible refine d_isub ?_
        refine put_and (Put.tail (Put.tail (Put.tail Put.head))) ?_
        with_reducible refine Then.next ?_
        with_reducible refine Exs.nil ?_
        have hl3 : (u2 ++ x.toList.take (max T.R (p + n - u2.length))).length = u2.length + (x.toList.take (max T.R (p + n - u2.length))).toArray.size := by rw [List.length_append, List.size_toArray]
        have hl4 : 0 < (x.toList.take (max T.R (p + n - u2.length))).toArray.size := by omega
        refine ⟨_, ?_, u2 ++ x.toList.take (max T.R (p + n - u2.length)), as2 ++ [((max T.R (p + n - u2.length) : Nat) : Int)], _, some (.int ((max T.R (p + n - u2.length) : Nat) : Int)), some (.bytes (x.toList.take (max T.R (p + n - u2.length))).toArray), F2.trans rfl (.step (need := p + n) e3 (Nat.le_min.mpr ⟨hS, by omega⟩) rfl hx0 .done), by omega, rfl, ?_, ?_⟩
        · rw [hl3]; omega
        · rw [hl3, show ((p : Int) + n - u2.length - ((x.toList.take (max T.R (p + n - u2.length))).toArray.size : Int)) = (p : Int) + n - ((u2.length + (x.toList.take (max T.R (p + n - u2.length))).toArray.size : Nat) : Int) by omega]
        · rw [List.append_assoc, List.append_toArray]
    · exact ⟨rfl, u2, as2, ps2, false, _, v1, v2, F2, hp2, fun _ => by omega, nofun, rfl, rfl⟩
  · rintro ρ' H' ⟨u2, as2, ps2, e, v0, v1, v2, F2, hp2, he0, he1, rfl, rfl⟩
    have hfl2 := congrArg List.length F2.flat
    rw [List.length_append, List.length_append] at hfl2
    have hua2 : u2.toArray.size = u2.length := by simp
    with_reducible refine Then.next ?_
    with_reducible refine Exs.cons ?_
    refine Ex.ite (Tt.andV (p := decide (u2.length < p + n)) (q := rs) ?_ ?_ ?_)
    · refine Tt.cmp ?_
      refine Ev.call ?_
      refine Ev.g (by assumption) Gl.g_len (by rw [Callee.scope (by assumption)]; rfl) ?_
      with_reducible refine ⟨Kp.bi, ?_⟩
      refine Evs.cons ?_
      refine Ev.attr ?_
      with_reducible refine Ev.loc mem0 ?_
      refine' Do1.is (Is.attr mem0 (mem1 mem0) (mem1 (mem1 mem0)) ?w4_204 rfl) ?wq_204
      case w4_204 => (rw [Ok.K (by assumption)]; refine' attrOK_mk ?ka_204 ?kb_204 ?kc_204 ?kd_204; (case kc_204 => k_is); (case ka_204 => k_is); (case kb_204 => k_is); (case kd_204 => k_is))
      with_reducible refine Evs.nil ?_
      with_reducible refine EvK.nil ?_
      refine ⟨[], rfl, rfl, ?_⟩
      refine Cl.lenBa (by (with_reducible refine mem1 ?_; with_reducible refine mem1 ?_; with_reducible exact mem0)) (by omega) ?_
      with_reducible refine Ev.bin ?_
      with_reducible refine Ev.loc (mem1 mem0) ?_
      refine Ev.attr ?_
      with_reducible refine Ev.loc mem0 ?_
      refine' Do1.is (Is.attr mem0 (mem1 mem0) (mem1 (mem1 (mem1 mem0))) ?w4_213 rfl) ?wq_213
      case w4_213 => (rw [Ok.K (by assumption)]; refine' attrOK_mk ?ka_213 ?kb_213 ?kc_213 ?kd_213; (case kc_213 => k_is); (case ka_213 => k_is); (case kb_213 => k_is); (case kd_213 => k_is))
      with_reducible refine d_add ?_
      with_reducible refine c_lt ?_
      exact ⟨decide_eq_decide.mpr (by omega), rfl⟩
    · intro _
      refine Tt.val ?_
      with_reducible refine Ev.loc (mem1 (mem1 mem0)) ?_
      with_reducible refine t_bool ?_
      exact Tst.mk
    refine ite_b (fun e4 => ?_) (fun e4 => ?_)
    · rw [Bool.and_eq_true] at e4
      have e5 := of_decide_eq_true e4.1
      have e6 : e = true := by
        cases e with
        | true => rfl
        | false => have := he0 rfl; omega
      subst e6
      obtain ⟨rfl, _⟩ := F2.end rfl
      with_reducible refine Exs.cons ?_
      refine Ex.setAttr ?_
      with_reducible refine Ev.int ?_
      with_reducible refine Ev.loc mem0 ?_
      refine' set_and mem0 (Upd.tail Upd.head) (DSet.put (DPut.tail (DPut.tail (DPut.tail DPut.head)))) ?w4_222 (Nat.le_of_ble_eq_true rfl) ?wq_222
      case w4_222 => (rw [Ok.K (by assumption)]; refine' setOK_mk ?ka_222 ?kb_222 ?kc_222 ?kd_222; (case kc_222 => k_is); (case ka_222 => k_is); (case kb_222 => k_is); (case kd_222 => k_is))
      with_reducible refine Then.next ?_
      with_reducible refine Exs.cons ?_
      refine Ex.raiseO ?_
      refine Ev.g (by assumption) Gl.g_OutOfData (by rw [Callee.scope (by assumption)]; rfl) ?_
      exact ⟨_, rfl, Exc.out B', .inl hh', xe e4.2 _ ⟨u2, as2, F2, rfl⟩⟩
    · with_reducible refine Exs.nil ?_
      with_reducible refine Then.next ?_
      with_reducible refine Exs.nil ?_
      cases e with
      | true =>
        have e5 := he1 rfl
        obtain ⟨rfl, _⟩ := F2.end rfl
        rw [decide_eq_true e5, Bool.true_and] at e4
        exact qe e4 _ u2 as2 F2 hp2 e5 rfl
      | false =>
        refine q _ ⟨[], u2, ps2, as2, F2, hp2, he0 rfl, Nat.zero_le _, ?_⟩
        rw [show ([] : List UInt8).length + p = p from Nat.zero_add p]; rfl
end
end
section

section
variable {c : Cx} {ρ : Loc} {H : Hp} {Q : V → Hp → Prop} {X : XP}
/-- Unpacker._read -/
theorem read (B : Ok c) (hr : 3 ≤ c.rm) (hh : c.A.handled = none) {T : Task} (ok : T.OK) {p m n : Nat} {G : Hp} (hH : Rs T p m G H) (hS : p + n ≤ T.S) {kw : List (Str × V)} {rs : Bool} (hkw : kw = ([("raise_outofdata", .bool rs)] : List (Str × V)) ∨ (kw = [] ∧ rs = true))
    (q : ∀ a' H', Rs T (p + n) (p + n) G H' → Q (.ref a') ((a', .ba ((T.W.drop p).take n).toArray) :: H'))
    (qe : rs = false → ∀ a' u as, Frug T.R T.B T.u0 T.ps0 as u [] true → p ≤ u.length → u.length < p + n → Q (.ref a') ((a', .ba (u.drop p).toArray) :: RH T.A T.R T.M u.toArray (u.length : Int) 0 T.off [] (T.as0 ++ as) G))
    (xe : rs = true → ∀ H', Ended T G H' → X (.ref 91) ρ H') (xf : T.M < T.S → ∀ H', Fulls T G H' → X (.ref 79) ρ H') : ClC c (.ref 370) [.ref T.A.a, .int n] kw ρ H Q X := by
  have hH0 := hH
  obtain ⟨pre, u, ps, as, F, hp, hm, hpre, rfl⟩ := hH0
  refine' ClC.fn (bs := [("self", .ref T.A.a), ("n", .int n), ("raise_outofdata", .bool rs)]) (rest := ["i", "ret"]) ?ho ?hcd ?hst ?hb (by omega) ?h
  case ho => rw [B.K]; k_is
  case hcd => rw [B.K]; k_is
  case hst => rfl
  case hb =>
    intro z vs ks hv hk; obtain _ | ⟨g1, hv⟩ := hv; obtain _ | ⟨g2, hv⟩ := hv; cases hv
    rcases hkw with rfl | ⟨rfl, rfl⟩
    · obtain _ | ⟨g3, hk⟩ := hk; cases hk
      exact ⟨_, fun S => by rw [B.K]; kernel_rfl, .cons g1 (.cons g2 (.cons g3 .nil))⟩
    · cases hk
      exact ⟨_, fun S => by rw [B.K]; kernel_rfl, .cons g1 (.cons g2 (.cons (.bool _) .nil))⟩
  intro c' C
  have B' := B.callee C
  have hh' : c'.A.handled = none := C.handled.trans hh
  change Exs c' _ [("self", some (.ref T.A.a)), ("n", some (.int n)), ("raise_outofdata", some (.bool rs)), ("i", none), ("ret", none)] _ _ _
  with_reducible refine Exs.cons ?_
  refine Ex.exprS ?_
  refine Ev.meth ?_
  with_reducible refine Ev.loc mem0 ?_
  refine' ⟨_, _, Mt.inst mem0 (mem1 mem0) (notKey rfl) ?w4_5, Kp.ref ?w5_5, ?wq_5⟩
  case w4_5 => (rw [Ok.K (by assumption)]; refine' methOK_mk ?ka_5 ?kb_5 ?kc_5 ?kd_5; (case kb_5 => k_is); (case ka_5 => k_is); (case kc_5 => k_is); (case kd_5 => k_is))
  case w5_5 => (rw [Ok.K (by assumption)]; k_is)
  refine Evs.cons ?_
  with_reducible refine Ev.loc (mem1 mem0) ?_
  with_reducible refine Evs.nil ?_
  with_reducible refine EvK.cons ?_
  with_reducible refine Ev.loc (mem1 (mem1 mem0)) ?_
  with_reducible refine EvK.nil ?_
  refine ⟨([("raise_outofdata", .bool rs)] : List (Str × V)), rfl, rfl, ?_⟩
  refine (reserve B' (by have := C.rm; omega) hh' ok hH hS (.inl rfl) ?_ ?_ ?ae ?af).cl
  case ae => exact xe
  case af => exact xf
  · rintro H' ⟨pre, u, ps, as, F, hp, hm, hpre, rfl⟩
    have hlen := ok.len F
    with_reducible refine Then.next ?_
    with_reducible refine Exs.cons ?_
    refine Ex.assign ?_
    refine Ev.attr ?_
    with_reducible refine Ev.loc mem0 ?_
    refine' Do1.is (Is.attr mem0 (mem1 mem0) (mem1 (mem1 (mem1 mem0))) ?w4_17 rfl) ?wq_17
    case w4_17 => (rw [Ok.K (by assumption)]; refine' attrOK_mk ?ka_17 ?kb_17 ?kc_17 ?kd_17; (case kc_17 => k_is); (case ka_17 => k_is); (case kb_17 => k_is); (case kd_17 => k_is))
    refine put_and (Put.tail (Put.tail (Put.tail Put.head))) ?_
    with_reducible refine Then.next ?_
    with_reducible refine Exs.cons ?_
    refine Ex.assign ?_
    refine Ev.slice ?_
    refine Ev.attr ?_
    with_reducible refine Ev.loc mem0 ?_
    refine' Do1.is (Is.attr mem0 (mem1 mem0) (mem1 (mem1 mem0)) ?w4_25 rfl) ?wq_25
    case w4_25 => (rw [Ok.K (by assumption)]; refine' attrOK_mk ?ka_25 ?kb_25 ?kc_25 ?kd_25; (case kc_25 => k_is); (case ka_25 => k_is); (case kb_25 => k_is); (case kd_25 => k_is))
    refine EvO.some ?_
    with_reducible refine Ev.loc (mem1 (mem1 (mem1 mem0))) ?_
    refine EvO.some ?_
    with_reducible refine Ev.bin ?_
    with_reducible refine Ev.loc (mem1 (mem1 (mem1 mem0))) ?_
    with_reducible refine Ev.loc (mem1 mem0) ?_
    with_reducible refine d_add ?_
    refine ⟨_, _, _, _, rfl, rfl, fun sa => ⟨HasItem.ba (by (with_reducible refine mem1 ?_; with_reducible refine mem1 ?_; with_reducible refine mem1 ?_; with_reducible exact mem0)), Sl.ba (by (with_reducible refine mem1 ?_; with_reducible refine mem1 ?_; with_reducible exact mem0)) (by rw [List.size_toArray, List.length_append]; omega) fun a' => ?_⟩⟩
    rw [slice_pre, prefix_take (ok.pre F) hm]
    refine put_and (Put.tail (Put.tail (Put.tail (Put.tail Put.head)))) ?_
    with_reducible refine Then.next ?_
    with_reducible refine Exs.cons ?_
    refine Ex.setAttr ?_
    with_reducible refine Ev.bin ?_
    with_reducible refine Ev.loc (mem1 (mem1 (mem1 mem0))) ?_
    refine Ev.call ?_
    refine Ev.g (by assumption) Gl.g_len (by rw [Callee.scope (by assumption)]; rfl) ?_
    with_reducible refine ⟨Kp.bi, ?_⟩
    refine Evs.cons ?_
    with_reducible refine Ev.loc (mem1 (mem1 (mem1 (mem1 mem0)))) ?_
    with_reducible refine Evs.nil ?_
    with_reducible refine EvK.nil ?_
    refine ⟨[], rfl, rfl, ?_⟩
    have hsz : ((T.W.drop p).take n).toArray.size = n := by
      rw [← prefix_take (ok.pre F) hm, List.size_toArray, List.length_take, List.length_drop]; omega
    refine Cl.lenBa (by with_reducible exact mem0) (by have := ok.S1; omega) ?_
    rw [hsz]
    with_reducible refine d_add ?_
    with_reducible refine Ev.loc mem0 ?_
    refine' set_and (mem1 mem0) (Upd.tail (Upd.tail Upd.head)) (DSet.put (DPut.tail (DPut.tail (DPut.tail DPut.head)))) ?w4_50 (Nat.le_of_ble_eq_true rfl) ?wq_50
    case w4_50 => (rw [Ok.K (by assumption)]; refine' setOK_mk ?ka_50 ?kb_50 ?kc_50 ?kd_50; (case kc_50 => k_is); (case ka_50 => k_is); (case kb_50 => k_is); (case kd_50 => k_is))
    with_reducible refine Then.next ?_
    with_reducible refine Exs.cons ?_
    with_reducible refine Ex.ret ?_
    with_reducible refine Ev.loc (mem1 (mem1 (mem1 (mem1 mem0)))) ?_
    with_reducible refine Then.ret ?_
    refine q a' _ ⟨pre, u, ps, as, F, by omega, hm, hpre, ?_⟩
    rw [show (((pre.length + p : Nat) : Int) + (n : Int)) = ((pre.length + (p + n) : Nat) : Int) by omega]
  · rintro rfl H' u as F hp hu rfl
    have hlen := ok.len F
    with_reducible refine Then.next ?_
    with_reducible refine Exs.cons ?_
    refine Ex.assign ?_
    refine Ev.attr ?_
    with_reducible refine Ev.loc mem0 ?_
    refine' Do1.is (Is.attr mem0 (mem1 mem0) (mem1 (mem1 (mem1 mem0))) ?w4_61 rfl) ?wq_61
    case w4_61 => (rw [Ok.K (by assumption)]; refine' attrOK_mk ?ka_61 ?kb_61 ?kc_61 ?kd_61; (case kc_61 => k_is); (case ka_61 => k_is); (case kb_61 => k_is); (case kd_61 => k_is))
    refine put_and (Put.tail (Put.tail (Put.tail Put.head))) ?_
    with_reducible refine Then.next ?_
    with_reducible refine Exs.cons ?_
    refine Ex.assign ?_
    refine Ev.slice ?_
    refine Ev.attr ?_
    with_reducible refine Ev.loc mem0 ?_
    refine' Do1.is (Is.attr mem0 (mem1 mem0) (mem1 (mem1 mem0)) ?w4_69 rfl) ?wq_69
    case w4_69 => (rw [Ok.K (by assumption)]; refine' attrOK_mk ?ka_69 ?kb_69 ?kc_69 ?kd_69; (case kc_69 => k_is); (case ka_69 => k_is); (case kb_69 => k_is); (case kd_69 => k_is))
    refine EvO.some ?_
    with_reducible refine Ev.loc (mem1 (mem1 (mem1 mem0))) ?_
    refine EvO.some ?_
    with_reducible refine Ev.bin ?_
    with_reducible refine Ev.loc (mem1 (mem1 (mem1 mem0))) ?_
    with_reducible refine Ev.loc (mem1 mem0) ?_
    with_reducible refine d_add ?_
    refine ⟨_, _, _, _, rfl, rfl, fun sa => ⟨HasItem.ba (by (with_reducible refine mem1 ?_; with_reducible refine mem1 ?_; with_reducible refine mem1 ?_; with_reducible exact mem0)), Sl.ba (by (with_reducible refine mem1 ?_; with_reducible refine mem1 ?_; with_reducible exact mem0)) (by rw [List.size_toArray]; omega) fun a' => ?_⟩⟩
    rw [show (cutL u.toArray.toList (some (p : Int)) (some ((p : Int) + (n : Int)))).toArray = (u.drop p).toArray by
      rw [show ((p : Int) + (n : Int)) = ((p + n : Nat) : Int) by omega, cutL_mid, List.toList_toArray, List.take_of_length_le (by rw [List.length_drop]; omega)]]
    refine put_and (Put.tail (Put.tail (Put.tail (Put.tail Put.head)))) ?_
    with_reducible refine Then.next ?_
    with_reducible refine Exs.cons ?_
    refine Ex.setAttr ?_
    with_reducible refine Ev.bin ?_
    with_reducible refine Ev.loc (mem1 (mem1 (mem1 mem0))) ?_
    refine Ev.call ?_
    refine Ev.g (by assumption) Gl.g_len (by rw [Callee.scope (by assumption)]; rfl) ?_
    with_reducible refine ⟨Kp.bi, ?_⟩
    refine Evs.cons ?_
    with_reducible refine Ev.loc (mem1 (mem1 (mem1 (mem1 mem0)))) ?_
    with_reducible refine Evs.nil ?_
    with_reducible refine EvK.nil ?_
    refine ⟨[], rfl, rfl, ?_⟩
    refine Cl.lenBa (by with_reducible exact mem0) (by rw [List.size_toArray, List.length_drop]; omega) ?_
    with_reducible refine d_add ?_
    with_reducible refine Ev.loc mem0 ?_
    refine' set_and (mem1 mem0) (Upd.tail (Upd.tail Upd.head)) (DSet.put (DPut.tail (DPut.tail (DPut.tail DPut.head)))) ?w4_94 (Nat.le_of_ble_eq_true rfl) ?wq_94
    case w4_94 => (rw [Ok.K (by assumption)]; refine' setOK_mk ?ka_94 ?kb_94 ?kc_94 ?kd_94; (case kc_94 => k_is); (case ka_94 => k_is); (case kb_94 => k_is); (case kd_94 => k_is))
    with_reducible refine Then.next ?_
    with_reducible refine Exs.cons ?_
    with_reducible refine Ex.ret ?_
    with_reducible refine Ev.loc (mem1 (mem1 (mem1 (mem1 mem0)))) ?_
    with_reducible refine Then.ret ?_
    have := qe rfl a' u as F hp hu
    rw [show ((p : Int) + ((u.drop p).toArray.size : Int)) = (u.length : Int) by rw [List.size_toArray, List.length_drop]; omega]
    exact this
end
end
section

theorem headers_num (P : Params) : ∀ j : _root_.Fin 8, (tabGet (hd.heap_39 P) 282 ((204 + j.val : Nat) : Int)).bind (readV (hd.heap_39 P) 3) = some (.tup [.int ((2 ^ (j.val % 4) : Nat) : Int), .str (fmtS j.val)]) := by
  rintro ⟨j, hj⟩
  have : j = 0 ∨ j = 1 ∨ j = 2 ∨ j = 3 ∨ j = 4 ∨ j = 5 ∨ j = 6 ∨ j = 7 := by omega
  rcases this with rfl | rfl | rfl | rfl | rfl | rfl | rfl | rfl <;> kernel_rfl
theorem headers_num' (P : Params) {j : Nat} (hj : j < 8) : (tabGet (hd.heap_39 P) 282 ((204 + j : Nat) : Int)).bind (readV (hd.heap_39 P) 3) = some (.tup [.int ((2 ^ (j % 4) : Nat) : Int), .str (fmtS j)]) := headers_num P ⟨j, hj⟩
theorem headers_bin (P : Params) : (tabGet (hd.heap_39 P) 282 ((196 : Nat) : Int)).bind (readV (hd.heap_39 P) 3) = some (.tup [.int 1, .str (fmtS 0), .int 4]) := by kernel_rfl
section
variable {c : Cx} {ρ : Loc} {H : Hp} {Q : V → Hp → Prop} {X : XP}
/-- Unpacker._read_header -/
theorem read_header (B : Ok c) (hr : 4 ≤ c.rm) (hh : c.A.handled = none) {T : Task} (ok : T.OK) {p m : Nat} {G : Hp} (hH : Rs T p m G H) {u8 : UInt8} (hu8 : T.W[p]? = some u8) {typ n : Int} {o : HO} {p' : Nat} (hdr : Hdr T p u8.toNat typ n o p') (hS : p' ≤ T.S) (hS1 : p + 1 ≤ T.S)
    (q : ∀ v E H', HRet o v E → Rs T p' p' G H' → Q (.tup [.int typ, .int n, v]) (E ++ H'))
    (xe : ∀ H', Ended T G H' → X (.ref 91) ρ H') (xf : T.M < T.S → ∀ H', Fulls T G H' → X (.ref 79) ρ H') : ClC c (.ref 385) [.ref T.A.a] [] ρ H Q X := by
  have hH0 := hH
  obtain ⟨pre, u, ps, as, F, hp, hm, hpre, rfl⟩ := hH0
  refine' ClC.fn (bs := [("self", .ref T.A.a)]) (rest := ["typ", "n", "obj", "b", "size", "fmt", "L"]) ?ho ?hcd ?hst ?hb (by omega) ?h
  case ho => rw [B.K]; k_is
  case hcd => rw [B.K]; k_is
  case hst => rfl
  case hb =>
    intro z vs ks hv hk; obtain _ | ⟨g1, hv⟩ := hv; cases hv; cases hk
    exact ⟨_, fun S => by kernel_rfl, .cons g1 .nil⟩
  intro c' C
  have B' := B.callee C
  have hh' : c'.A.handled = none := C.handled.trans hh
  have hrm := C.rm
  change Exs c' _ [("self", some (.ref T.A.a)), ("typ", none), ("n", none), ("obj", none), ("b", none), ("size", none), ("fmt", none), ("L", none)] _ _ _
  with_reducible refine Exs.cons ?_
  refine Ex.assign ?_
  refine Ev.g (by assumption) Gl.g_TYPE_IMMEDIATE (by rw [Callee.scope (by assumption)]; rfl) ?_
  refine put_and (Put.tail Put.head) ?_
  with_reducible refine Then.next ?_
  with_reducible refine Exs.cons ?_
  refine Ex.assign ?_
  with_reducible refine Ev.int ?_
  refine put_and (Put.tail (Put.tail Put.head)) ?_
  with_reducible refine Then.next ?_
  with_reducible refine Exs.cons ?_
  refine Ex.assign ?_
  with_reducible refine Ev.none ?_
  refine put_and (Put.tail (Put.tail (Put.tail Put.head))) ?_
  with_reducible refine Then.next ?_
  with_reducible refine Exs.cons ?_
  refine Ex.exprS ?_
  refine Ev.meth ?_
  with_reducible refine Ev.loc mem0 ?_
  refine' ⟨_, _, Mt.inst mem0 (mem1 mem0) (notKey rfl) ?w4_20, Kp.ref ?w5_20, ?wq_20⟩
  case w4_20 => (rw [Ok.K (by assumption)]; refine' methOK_mk ?ka_20 ?kb_20 ?kc_20 ?kd_20; (case kb_20 => k_is); (case ka_20 => k_is); (case kc_20 => k_is); (case kd_20 => k_is))
  case w5_20 => (rw [Ok.K (by assumption)]; k_is)
  refine Evs.cons ?_
  with_reducible refine Ev.int ?_
  with_reducible refine Evs.nil ?_
  with_reducible refine EvK.nil ?_
  refine ⟨[], rfl, rfl, ?_⟩
  refine (reserve B' (by omega) hh' ok hH hS1 (n := 1) (.inr ⟨rfl, rfl⟩) ?_ nofun (fun _ => ?ae) ?af).cl
  case ae => exact xe
  case af => exact xf
  rintro H' ⟨pre, u, ps, as, F, hp, hm, hpre, rfl⟩
  have hlen := ok.len F
  have hN := u8.toNat_lt
  with_reducible refine Then.next ?_
  with_reducible refine Exs.cons ?_
  refine Ex.assign ?_
  refine Ev.sub ?_
  refine Ev.attr ?_
  with_reducible refine Ev.loc mem0 ?_
  refine' Do1.is (Is.attr mem0 (mem1 mem0) (mem1 (mem1 mem0)) ?w4_32 rfl) ?wq_32
  case w4_32 => (rw [Ok.K (by assumption)]; refine' attrOK_mk ?ka_32 ?kb_32 ?kc_32 ?kd_32; (case kc_32 => k_is); (case ka_32 => k_is); (case kb_32 => k_is); (case kd_32 => k_is))
  refine Ev.attr ?_
  with_reducible refine Ev.loc mem0 ?_
  refine' Do1.is (Is.attr mem0 (mem1 mem0) (mem1 (mem1 (mem1 mem0))) ?w4_35 rfl) ?wq_35
  case w4_35 => (rw [Ok.K (by assumption)]; refine' attrOK_mk ?ka_35 ?kb_35 ?kc_35 ?kd_35; (case kc_35 => k_is); (case ka_35 => k_is); (case kb_35 => k_is); (case kd_35 => k_is))
  refine ⟨_, _, HasItem.ba (by (with_reducible refine mem1 ?_; with_reducible refine mem1 ?_; with_reducible exact mem0)), It1.ba (u := u8) (by (with_reducible refine mem1 ?_; with_reducible refine mem1 ?_; with_reducible exact mem0)) (by rw [List.size_toArray, List.length_append]; omega) (by omega) ?_ ?_⟩
  · rw [Int.toNat_natCast, List.getElem?_toArray, pre_get, prefix_get (ok.pre F) (by omega)]; exact hu8
  refine put_and (Put.tail (Put.tail (Put.tail (Put.tail Put.head)))) ?_
  with_reducible refine Then.next ?_
  with_reducible refine Exs.cons ?_
  refine Ex.augAttr ?_
  with_reducible refine Ev.loc mem0 ?_
  refine' aug_and (Is.attr mem0 (mem1 mem0) (mem1 (mem1 (mem1 mem0))) ?w4_43 rfl) ?wq_43
  case w4_43 => (rw [Ok.K (by assumption)]; refine' attrOK_mk ?ka_43 ?kb_43 ?kc_43 ?kd_43; (case kc_43 => k_is); (case ka_43 => k_is); (case kb_43 => k_is); (case kd_43 => k_is))
  with_reducible refine Ev.int ?_
  with_reducible refine d_iadd ?_
  refine' set_and2 mem0 (Upd.tail Upd.head) (DSet.put (DPut.tail (DPut.tail (DPut.tail DPut.head)))) ?w4_46 (Nat.le_of_ble_eq_true rfl) ?wq_46
  case w4_46 => (rw [Ok.K (by assumption)]; refine' setOK_mk ?ka_46 ?kb_46 ?kc_46 ?kd_46; (case kc_46 => k_is); (case ka_46 => k_is); (case kb_46 => k_is); (case kd_46 => k_is))
  with_reducible refine Then.next ?_
  with_reducible refine Exs.cons ?_
  with_reducible refine Ex.ite ?_
  rw [show (((pre.length + p : Nat) : Int) + 1) = ((pre.length + (p + 1) : Nat) : Int) by omega]
  have hR1 : ∀ G, Rs T (p + 1) (p + 1) G (RH T.A T.R T.M (pre ++ u).toArray ((pre.length + (p + 1) : Nat) : Int) pre.length T.off ps (T.as0 ++ as) G) := fun G => ⟨pre, u, ps, as, F, hm, hm, hpre, rfl⟩
  refine Tt.tst (v := decide (u8.toNat < 128)) ?_ ?_
  · refine Tt.cmp ?_
    with_reducible refine Ev.bin ?_
    with_reducible refine Ev.loc (mem1 (mem1 (mem1 (mem1 mem0)))) ?_
    with_reducible refine Ev.int ?_
    with_reducible refine d_band ?_
    with_reducible refine Ev.int ?_
    with_reducible refine c_eq ?_
    exact ⟨Bit.b128 ⟨u8.toNat, hN⟩, rfl⟩
  refine ite_d (fun e1 => ?_) (fun e1 => ?_)
  · obtain ⟨rfl, rfl, rfl, rfl⟩ := hdr.i_pos e1
    with_reducible refine Exs.cons ?_
    refine Ex.assign ?_
    with_reducible refine Ev.loc (mem1 (mem1 (mem1 (mem1 mem0)))) ?_
    refine put_and (Put.tail (Put.tail (Put.tail Put.head))) ?_
    with_reducible refine Then.next ?_
    with_reducible refine Exs.nil ?_
    with_reducible refine Then.next ?_
    with_reducible refine Exs.cons ?_
    with_reducible refine Ex.ret ?_
    with_reducible refine Ev.tup ?_
    refine Evs.cons ?_
    with_reducible refine Ev.loc (mem1 mem0) ?_
    refine Evs.cons ?_
    with_reducible refine Ev.loc (mem1 (mem1 mem0)) ?_
    refine Evs.cons ?_
    with_reducible refine Ev.loc (mem1 (mem1 (mem1 mem0))) ?_
    with_reducible refine Evs.nil ?_
    refine ⟨sz rfl, ?_⟩
    with_reducible refine Then.ret ?_
    exact q _ _ _ .val (hR1 G)
  with_reducible refine Exs.cons ?_
  with_reducible refine Ex.ite ?_
  refine Tt.tst (v := decide (224 ≤ u8.toNat)) ?_ ?_
  · refine Tt.cmp ?_
    with_reducible refine Ev.bin ?_
    with_reducible refine Ev.loc (mem1 (mem1 (mem1 (mem1 mem0)))) ?_
    with_reducible refine Ev.int ?_
    with_reducible refine d_band ?_
    with_reducible refine Ev.int ?_
    with_reducible refine c_eq ?_
    exact ⟨Bit.b224 ⟨u8.toNat, hN⟩, rfl⟩
  refine ite_d (fun e2 => ?_) (fun e2 => ?_)
  · obtain ⟨rfl, rfl, rfl, rfl⟩ := hdr.i_neg e2
    have e : (-1 - Builtin.bitXor ((u8.toNat : Nat) : Int) 255 : Int) = (u8.toNat : Int) - 256 := Bit.x255 ⟨u8.toNat, hN⟩
    with_reducible refine Exs.cons ?_
    refine Ex.assign ?_
    with_reducible refine Ev.bin ?_
    with_reducible refine Ev.un ?_
    with_reducible refine Ev.int ?_
    with_reducible refine d_neg ?_
    with_reducible refine Ev.bin ?_
    with_reducible refine Ev.loc (mem1 (mem1 (mem1 (mem1 mem0)))) ?_
    with_reducible refine Ev.int ?_
    with_reducible refine d_bxor ?_
    with_reducible refine d_sub ?_
    refine put_and (Put.tail (Put.tail (Put.tail Put.head))) ?_
    with_reducible refine Then.next ?_
    with_reducible refine Exs.nil ?_
    with_reducible refine Then.next ?_
    with_reducible refine Exs.nil ?_
    with_reducible refine Then.next ?_
    with_reducible refine Exs.cons ?_
    with_reducible refine Ex.ret ?_
    with_reducible refine Ev.tup ?_
    refine Evs.cons ?_
    with_reducible refine Ev.loc (mem1 mem0) ?_
    refine Evs.cons ?_
    with_reducible refine Ev.loc (mem1 (mem1 mem0)) ?_
    refine Evs.cons ?_
    with_reducible refine Ev.loc (mem1 (mem1 (mem1 mem0))) ?_
    with_reducible refine Evs.nil ?_
    refine ⟨sz rfl, ?_⟩
    with_reducible refine Then.ret ?_
    rw [e]
    exact q _ _ _ .val (hR1 G)
  with_reducible refine Exs.cons ?_
  with_reducible refine Ex.ite ?_
  refine Tt.tst (v := decide (160 ≤ u8.toNat ∧ u8.toNat < 192)) ?_ ?_
  · refine Tt.cmp ?_
    with_reducible refine Ev.bin ?_
    with_reducible refine Ev.loc (mem1 (mem1 (mem1 (mem1 mem0)))) ?_
    with_reducible refine Ev.int ?_
    with_reducible refine d_band ?_
    with_reducible refine Ev.int ?_
    with_reducible refine c_eq ?_
    exact ⟨Bit.b160 ⟨u8.toNat, hN⟩, rfl⟩
  refine ite_d (fun e3 => ?_) (fun e3 => ?_)
  · obtain ⟨k, hk, hkM, hb, rfl, rfl, rfl, rfl⟩ := hdr.i_str e3.1 e3.2
    have e : Builtin.bitAnd ((u8.toNat : Nat) : Int) 31 = (k : Int) := by rw [hb]; exact Bit.a31 ⟨k, hk⟩
    with_reducible refine Exs.cons ?_
    refine Ex.assign ?_
    with_reducible refine Ev.bin ?_
    with_reducible refine Ev.loc (mem1 (mem1 (mem1 (mem1 mem0)))) ?_
    with_reducible refine Ev.int ?_
    with_reducible refine d_band ?_
    refine put_and (Put.tail (Put.tail Put.head)) ?_
    with_reducible refine Then.next ?_
    with_reducible refine Exs.cons ?_
    refine Ex.assign ?_
    refine Ev.g (by assumption) Gl.g_TYPE_RAW (by rw [Callee.scope (by assumption)]; rfl) ?_
    refine put_and (Put.tail Put.head) ?_
    with_reducible refine Then.next ?_
    with_reducible refine Exs.cons ?_
    with_reducible refine Ex.ite ?_
    rw [e]
    refine Tt.tst (v := false) ?_ ?_
    · refine Tt.cmp ?_
      with_reducible refine Ev.loc (mem1 (mem1 mem0)) ?_
      refine Ev.attr ?_
      with_reducible refine Ev.loc mem0 ?_
      refine' Do1.is (Is.attr mem0 (mem1 mem0) (mem1 (mem1 (mem1 (mem1 (mem1 (mem1 (mem1 (mem1 (mem1 (mem1 (mem1 (mem1 (mem1 (mem1 (mem1 (mem1 mem0)))))))))))))))) ?w4_142 rfl) ?wq_142
      case w4_142 => (rw [Ok.K (by assumption)]; refine' attrOK_mk ?ka_142 ?kb_142 ?kc_142 ?kd_142; (case kc_142 => k_is); (case ka_142 => k_is); (case kb_142 => k_is); (case kd_142 => k_is))
      with_reducible refine c_gt ?_
      exact ⟨decide_eq_false (by omega), rfl⟩
    refine ite_f ?_
    with_reducible refine Exs.nil ?_
    with_reducible refine Then.next ?_
    with_reducible refine Exs.cons ?_
    refine Ex.assign ?_
    refine Ev.meth ?_
    with_reducible refine Ev.loc mem0 ?_
    refine' ⟨_, _, Mt.inst mem0 (mem1 mem0) (notKey rfl) ?w4_150, Kp.ref ?w5_150, ?wq_150⟩
    case w4_150 => (rw [Ok.K (by assumption)]; refine' methOK_mk ?ka_150 ?kb_150 ?kc_150 ?kd_150; (case kb_150 => k_is); (case ka_150 => k_is); (case kc_150 => k_is); (case kd_150 => k_is))
    case w5_150 => (rw [Ok.K (by assumption)]; k_is)
    refine Evs.cons ?_
    with_reducible refine Ev.loc (mem1 (mem1 mem0)) ?_
    with_reducible refine Evs.nil ?_
    with_reducible refine EvK.nil ?_
    refine ⟨[], rfl, rfl, ?_⟩
    refine (read B' (by omega) hh' ok (hR1 G) hS (.inr ⟨rfl, rfl⟩) ?_ nofun (fun _ => ?ae) ?af).cl
    case ae => exact xe
    case af => exact xf
    rintro a' H' R
    refine put_and (Put.tail (Put.tail (Put.tail Put.head))) ?_
    with_reducible refine Then.next ?_
    with_reducible refine Exs.nil ?_
    with_reducible refine Then.next ?_
    with_reducible refine Exs.nil ?_
    with_reducible refine Then.next ?_
    with_reducible refine Exs.nil ?_
    with_reducible refine Then.next ?_
    with_reducible refine Exs.cons ?_
    with_reducible refine Ex.ret ?_
    with_reducible refine Ev.tup ?_
    refine Evs.cons ?_
    with_reducible refine Ev.loc (mem1 mem0) ?_
    refine Evs.cons ?_
    with_reducible refine Ev.loc (mem1 (mem1 mem0)) ?_
    refine Evs.cons ?_
    with_reducible refine Ev.loc (mem1 (mem1 (mem1 mem0))) ?_
    with_reducible refine Evs.nil ?_
    refine ⟨sz rfl, ?_⟩
    with_reducible refine Then.ret ?_
    exact q _ [(a', _)] _ .seg R
  with_reducible refine Exs.cons ?_
  with_reducible refine Ex.ite ?_
  refine Tt.tst (v := decide (144 ≤ u8.toNat ∧ u8.toNat < 160)) ?_ ?_
  · refine Tt.cmp ?_
    with_reducible refine Ev.bin ?_
    with_reducible refine Ev.loc (mem1 (mem1 (mem1 (mem1 mem0)))) ?_
    with_reducible refine Ev.int ?_
    with_reducible refine d_band ?_
    with_reducible refine Ev.int ?_
    with_reducible refine c_eq ?_
    exact ⟨Bit.b144 ⟨u8.toNat, hN⟩, rfl⟩
  refine ite_d (fun e4 => ?_) (fun e4 => ?_)
  · obtain ⟨k, hk, hkM, hb, rfl, rfl, rfl, rfl⟩ := hdr.i_arr e4.1 e4.2
    have e : Builtin.bitAnd ((u8.toNat : Nat) : Int) 15 = (k : Int) := by rw [hb]; exact (Bit.a15 ⟨k, hk⟩).1
    with_reducible refine Exs.cons ?_
    refine Ex.assign ?_
    with_reducible refine Ev.bin ?_
    with_reducible refine Ev.loc (mem1 (mem1 (mem1 (mem1 mem0)))) ?_
    with_reducible refine Ev.int ?_
    with_reducible refine d_band ?_
    refine put_and (Put.tail (Put.tail Put.head)) ?_
    with_reducible refine Then.next ?_
    with_reducible refine Exs.cons ?_
    refine Ex.assign ?_
    refine Ev.g (by assumption) Gl.g_TYPE_ARRAY (by rw [Callee.scope (by assumption)]; rfl) ?_
    refine put_and (Put.tail Put.head) ?_
    with_reducible refine Then.next ?_
    with_reducible refine Exs.cons ?_
    with_reducible refine Ex.ite ?_
    rw [e]
    refine Tt.tst (v := false) ?_ ?_
    · refine Tt.cmp ?_
      with_reducible refine Ev.loc (mem1 (mem1 mem0)) ?_
      refine Ev.attr ?_
      with_reducible refine Ev.loc mem0 ?_
      refine' Do1.is (Is.attr mem0 (mem1 mem0) (mem1 (mem1 (mem1 (mem1 (mem1 (mem1 (mem1 (mem1 (mem1 (mem1 (mem1 (mem1 (mem1 (mem1 (mem1 (mem1 (mem1 (mem1 mem0)))))))))))))))))) ?w4_204 rfl) ?wq_204
      case w4_204 => (rw [Ok.K (by assumption)]; refine' attrOK_mk ?ka_204 ?kb_204 ?kc_204 ?kd_204; (case kc_204 => k_is); (case ka_204 => k_is); (case kb_204 => k_is); (case kd_204 => k_is))
      with_reducible refine c_gt ?_
      exact ⟨decide_eq_false (by omega), rfl⟩
    refine ite_f ?_
    with_reducible refine Exs.nil ?_
    with_reducible refine Then.next ?_
    with_reducible refine Exs.nil ?_
    with_reducible refine Then.next ?_
    with_reducible refine Exs.nil ?_
    with_reducible refine Then.next ?_
    with_reducible refine Exs.nil ?_
    with_reducible refine Then.next ?_
    with_reducible refine Exs.nil ?_
    with_reducible refine Then.next ?_
    with_reducible refine Exs.cons ?_
    with_reducible refine Ex.ret ?_
    with_reducible refine Ev.tup ?_
    refine Evs.cons ?_
    with_reducible refine Ev.loc (mem1 mem0) ?_
    refine Evs.cons ?_
    with_reducible refine Ev.loc (mem1 (mem1 mem0)) ?_
    refine Evs.cons ?_
    with_reducible refine Ev.loc (mem1 (mem1 (mem1 mem0))) ?_
    with_reducible refine Evs.nil ?_
    refine ⟨sz rfl, ?_⟩
    with_reducible refine Then.ret ?_
    exact q _ _ _ .val (hR1 G)
  with_reducible refine Exs.cons ?_
  with_reducible refine Ex.ite ?_
  refine Tt.tst (v := decide (128 ≤ u8.toNat ∧ u8.toNat < 144)) ?_ ?_
  · refine Tt.cmp ?_
    with_reducible refine Ev.bin ?_
    with_reducible refine Ev.loc (mem1 (mem1 (mem1 (mem1 mem0)))) ?_
    with_reducible refine Ev.int ?_
    with_reducible refine d_band ?_
    with_reducible refine Ev.int ?_
    with_reducible refine c_eq ?_
    exact ⟨Bit.b240 ⟨u8.toNat, hN⟩, rfl⟩
  refine ite_d (fun e5 => ?_) (fun e5 => ?_)
  · obtain ⟨k, hk, hkM, hb, rfl, rfl, rfl, rfl⟩ := hdr.i_map e5.1 e5.2
    have e : Builtin.bitAnd ((u8.toNat : Nat) : Int) 15 = (k : Int) := by rw [hb]; exact (Bit.a15 ⟨k, hk⟩).2
    have hfd : ((T.M : Nat) : Int).fdiv 2 = (T.M : Int) / 2 := Int.fdiv_eq_ediv_of_nonneg _ (by decide)
    with_reducible refine Exs.cons ?_
    refine Ex.assign ?_
    with_reducible refine Ev.bin ?_
    with_reducible refine Ev.loc (mem1 (mem1 (mem1 (mem1 mem0)))) ?_
    with_reducible refine Ev.int ?_
    with_reducible refine d_band ?_
    refine put_and (Put.tail (Put.tail Put.head)) ?_
    with_reducible refine Then.next ?_
    with_reducible refine Exs.cons ?_
    refine Ex.assign ?_
    refine Ev.g (by assumption) Gl.g_TYPE_MAP (by rw [Callee.scope (by assumption)]; rfl) ?_
    refine put_and (Put.tail Put.head) ?_
    with_reducible refine Then.next ?_
    with_reducible refine Exs.cons ?_
    with_reducible refine Ex.ite ?_
    rw [e]
    refine Tt.tst (v := false) ?_ ?_
    · refine Tt.cmp ?_
      with_reducible refine Ev.loc (mem1 (mem1 mem0)) ?_
      refine Ev.attr ?_
      with_reducible refine Ev.loc mem0 ?_
      refine' Do1.is (Is.attr mem0 (mem1 mem0) (mem1 (mem1 (mem1 (mem1 (mem1 (mem1 (mem1 (mem1 (mem1 (mem1 (mem1 (mem1 (mem1 (mem1 (mem1 (mem1 (mem1 (mem1 (mem1 mem0))))))))))))))))))) ?w4_256 rfl) ?wq_256
      case w4_256 => (rw [Ok.K (by assumption)]; refine' attrOK_mk ?ka_256 ?kb_256 ?kc_256 ?kd_256; (case kc_256 => k_is); (case ka_256 => k_is); (case kb_256 => k_is); (case kd_256 => k_is))
      with_reducible refine c_gt ?_
      exact ⟨decide_eq_false (by rw [hfd]; omega), rfl⟩
    refine ite_f ?_
    with_reducible refine Exs.nil ?_
    with_reducible refine Then.next ?_
    with_reducible refine Exs.nil ?_
    with_reducible refine Then.next ?_
    with_reducible refine Exs.nil ?_
    with_reducible refine Then.next ?_
    with_reducible refine Exs.nil ?_
    with_reducible refine Then.next ?_
    with_reducible refine Exs.nil ?_
    with_reducible refine Then.next ?_
    with_reducible refine Exs.nil ?_
    with_reducible refine Then.next ?_
    with_reducible refine Exs.cons ?_
    with_reducible refine Ex.ret ?_
    with_reducible refine Ev.tup ?_
    refine Evs.cons ?_
    with_reducible refine Ev.loc (mem1 mem0) ?_
    refine Evs.cons ?_
    with_reducible refine Ev.loc (mem1 (mem1 mem0)) ?_
    refine Evs.cons ?_
    with_reducible refine Ev.loc (mem1 (mem1 (mem1 mem0))) ?_
    with_reducible refine Evs.nil ?_
    refine ⟨sz rfl, ?_⟩
    with_reducible refine Then.ret ?_
    exact q _ _ _ .val (hR1 G)
  with_reducible refine Exs.cons ?_
  with_reducible refine Ex.ite ?_
  refine Tt.tst (v := decide (u8.toNat = 192)) ?_ ?_
  · refine Tt.cmp ?_
    with_reducible refine Ev.loc (mem1 (mem1 (mem1 (mem1 mem0)))) ?_
    with_reducible refine Ev.int ?_
    with_reducible refine c_eq ?_
    exact ⟨decide_eq_decide.mpr (by omega), rfl⟩
  refine ite_d (fun e6 => ?_) (fun e6 => ?_)
  · obtain ⟨rfl, rfl, rfl, rfl⟩ := hdr.i_nil e6
    with_reducible refine Exs.cons ?_
    refine Ex.assign ?_
    with_reducible refine Ev.none ?_
    refine put_and (Put.tail (Put.tail (Put.tail Put.head))) ?_
    with_reducible refine Then.next ?_
    with_reducible refine Exs.nil ?_
    with_reducible refine Then.next ?_
    with_reducible refine Exs.nil ?_
    with_reducible refine Then.next ?_
    with_reducible refine Exs.nil ?_
    with_reducible refine Then.next ?_
    with_reducible refine Exs.nil ?_
    with_reducible refine Then.next ?_
    with_reducible refine Exs.nil ?_
    with_reducible refine Then.next ?_
    with_reducible refine Exs.nil ?_
    with_reducible refine Then.next ?_
    with_reducible refine Exs.cons ?_
    with_reducible refine Ex.ret ?_
    with_reducible refine Ev.tup ?_
    refine Evs.cons ?_
    with_reducible refine Ev.loc (mem1 mem0) ?_
    refine Evs.cons ?_
    with_reducible refine Ev.loc (mem1 (mem1 mem0)) ?_
    refine Evs.cons ?_
    with_reducible refine Ev.loc (mem1 (mem1 (mem1 mem0))) ?_
    with_reducible refine Evs.nil ?_
    refine ⟨sz rfl, ?_⟩
    with_reducible refine Then.ret ?_
    exact q _ _ _ .val (hR1 G)
  with_reducible refine Exs.cons ?_
  with_reducible refine Ex.ite ?_
  refine Tt.tst (v := decide (u8.toNat = 194)) ?_ ?_
  · refine Tt.cmp ?_
    with_reducible refine Ev.loc (mem1 (mem1 (mem1 (mem1 mem0)))) ?_
    with_reducible refine Ev.int ?_
    with_reducible refine c_eq ?_
    exact ⟨decide_eq_decide.mpr (by omega), rfl⟩
  refine ite_d (fun e7 => ?_) (fun e7 => ?_)
  · obtain ⟨rfl, rfl, rfl, rfl⟩ := hdr.i_ff e7
    with_reducible refine Exs.cons ?_
    refine Ex.assign ?_
    with_reducible refine Ev.bool ?_
    refine put_and (Put.tail (Put.tail (Put.tail Put.head))) ?_
    with_reducible refine Then.next ?_
    with_reducible refine Exs.nil ?_
    with_reducible refine Then.next ?_
    with_reducible refine Exs.nil ?_
    with_reducible refine Then.next ?_
    with_reducible refine Exs.nil ?_
    with_reducible refine Then.next ?_
    with_reducible refine Exs.nil ?_
    with_reducible refine Then.next ?_
    with_reducible refine Exs.nil ?_
    with_reducible refine Then.next ?_
    with_reducible refine Exs.nil ?_
    with_reducible refine Then.next ?_
    with_reducible refine Exs.nil ?_
    with_reducible refine Then.next ?_
    with_reducible refine Exs.cons ?_
    with_reducible refine Ex.ret ?_
    with_reducible refine Ev.tup ?_
    refine Evs.cons ?_
    with_reducible refine Ev.loc (mem1 mem0) ?_
    refine Evs.cons ?_
    with_reducible refine Ev.loc (mem1 (mem1 mem0)) ?_
    refine Evs.cons ?_
    with_reducible refine Ev.loc (mem1 (mem1 (mem1 mem0))) ?_
    with_reducible refine Evs.nil ?_
    refine ⟨sz rfl, ?_⟩
    with_reducible refine Then.ret ?_
    exact q _ _ _ .val (hR1 G)
  with_reducible refine Exs.cons ?_
  with_reducible refine Ex.ite ?_
  refine Tt.tst (v := decide (u8.toNat = 195)) ?_ ?_
  · refine Tt.cmp ?_
    with_reducible refine Ev.loc (mem1 (mem1 (mem1 (mem1 mem0)))) ?_
    with_reducible refine Ev.int ?_
    with_reducible refine c_eq ?_
    exact ⟨decide_eq_decide.mpr (by omega), rfl⟩
  refine ite_d (fun e8 => ?_) (fun e8 => ?_)
  · obtain ⟨rfl, rfl, rfl, rfl⟩ := hdr.i_tt e8
    with_reducible refine Exs.cons ?_
    refine Ex.assign ?_
    with_reducible refine Ev.bool ?_
    refine put_and (Put.tail (Put.tail (Put.tail Put.head))) ?_
    with_reducible refine Then.next ?_
    with_reducible refine Exs.nil ?_
    with_reducible refine Then.next ?_
    with_reducible refine Exs.nil ?_
    with_reducible refine Then.next ?_
    with_reducible refine Exs.nil ?_
    with_reducible refine Then.next ?_
    with_reducible refine Exs.nil ?_
    with_reducible refine Then.next ?_
    with_reducible refine Exs.nil ?_
    with_reducible refine Then.next ?_
    with_reducible refine Exs.nil ?_
    with_reducible refine Then.next ?_
    with_reducible refine Exs.nil ?_
    with_reducible refine Then.next ?_
    with_reducible refine Exs.nil ?_
    with_reducible refine Then.next ?_
    with_reducible refine Exs.cons ?_
    with_reducible refine Ex.ret ?_
    with_reducible refine Ev.tup ?_
    refine Evs.cons ?_
    with_reducible refine Ev.loc (mem1 mem0) ?_
    refine Evs.cons ?_
    with_reducible refine Ev.loc (mem1 (mem1 mem0)) ?_
    refine Evs.cons ?_
    with_reducible refine Ev.loc (mem1 (mem1 (mem1 mem0))) ?_
    with_reducible refine Evs.nil ?_
    refine ⟨sz rfl, ?_⟩
    with_reducible refine Then.ret ?_
    exact q _ _ _ .val (hR1 G)
  with_reducible refine Exs.cons ?_
  refine Ex.ite (Tt.chainV (p := decide (196 ≤ (u8.toNat : Int))) (q := decide ((u8.toNat : Int) ≤ 198)) (a := .int 196) (b := .int u8.toNat) (d := .int 198) (by (with_reducible refine Ev.int ?_; exact Val.mk)) (by (with_reducible refine Ev.loc (mem1 (mem1 (mem1 (mem1 mem0)))) ?_; exact Val.mk)) (by (with_reducible refine Ev.int ?_; exact Val.mk)) Is.le Is.le ?_)
  refine ite_b (fun e9 => ?_) (fun e9 => ?_)
  · simp only [Bool.and_eq_true, decide_eq_true_eq] at e9
    obtain ⟨hb, k, hk1, hk2, hkM, rfl, rfl, rfl, rfl⟩ := hdr.i_bin (by omega) (by omega)
    have hk3 : k.toUInt8.toNat = k := by simp; omega
    rw [hb]
    with_reducible refine Exs.cons ?_
    refine Ex.assignT hh' (.cons (.cons (.cons .nil))) ?_
    refine Ev.sub ?_
    refine Ev.g (by assumption) Gl.g_MSGPACK_HEADERS (by rw [Callee.scope (by assumption)]; rfl) ?_
    with_reducible refine Ev.loc (mem1 (mem1 (mem1 (mem1 mem0)))) ?_
    refine tab_item (n := 3) (by rw [B'.K]; exact headers_bin _) ?_
    refine ⟨_, _, rfl, .cons (by with_reducible exact (Put.tail (Put.tail (Put.tail (Put.tail (Put.tail Put.head)))))) (.cons (by with_reducible exact (Put.tail (Put.tail (Put.tail (Put.tail (Put.tail (Put.tail Put.head))))))) (.cons (by with_reducible exact (Put.tail Put.head)) .nil)), ?_⟩
    with_reducible refine Then.next ?_
    with_reducible refine Exs.cons ?_
    refine Ex.exprS ?_
    refine Ev.meth ?_
    with_reducible refine Ev.loc mem0 ?_
    refine' ⟨_, _, Mt.inst mem0 (mem1 mem0) (notKey rfl) ?w4_412, Kp.ref ?w5_412, ?wq_412⟩
    case w4_412 => (rw [Ok.K (by assumption)]; refine' methOK_mk ?ka_412 ?kb_412 ?kc_412 ?kd_412; (case kb_412 => k_is); (case ka_412 => k_is); (case kc_412 => k_is); (case kd_412 => k_is))
    case w5_412 => (rw [Ok.K (by assumption)]; k_is)
    refine Evs.cons ?_
    with_reducible refine Ev.loc (mem1 (mem1 (mem1 (mem1 (mem1 mem0))))) ?_
    with_reducible refine Evs.nil ?_
    with_reducible refine EvK.nil ?_
    refine ⟨[], rfl, rfl, ?_⟩
    refine (reserve B' (by omega) hh' ok (hR1 G) (n := 1) (by omega) (.inr ⟨rfl, rfl⟩) ?_ nofun (fun _ => ?ae) ?af).cl
    case ae => exact xe
    case af => exact xf
    rintro H' ⟨pre, u, ps, as, F, hp, hm, hpre, rfl⟩
    have hlen := ok.len F
    with_reducible refine Then.next ?_
    with_reducible refine Exs.cons ?_
    with_reducible refine Ex.ite ?_
    refine Tt.tst (v := false) ?_ ?_
    · refine Tt.cmp ?_
      refine Ev.call ?_
      refine Ev.g (by assumption) Gl.g_len (by rw [Callee.scope (by assumption)]; rfl) ?_
      with_reducible refine ⟨Kp.bi, ?_⟩
      refine Evs.cons ?_
      with_reducible refine Ev.loc (mem1 (mem1 (mem1 (mem1 (mem1 (mem1 mem0)))))) ?_
      with_reducible refine Evs.nil ?_
      with_reducible refine EvK.nil ?_
      refine ⟨[], rfl, rfl, ?_⟩
      refine Cl.lenStr (by decide) ?_
      with_reducible refine Ev.int ?_
      with_reducible refine c_gt ?_
      exact ⟨by decide, rfl⟩
    refine ite_f ?_
    with_reducible refine Exs.cons ?_
    refine Ex.assign ?_
    refine Ev.sub ?_
    refine Ev.attr ?_
    with_reducible refine Ev.loc mem0 ?_
    refine' Do1.is (Is.attr mem0 (mem1 mem0) (mem1 (mem1 mem0)) ?w4_437 rfl) ?wq_437
    case w4_437 => (rw [Ok.K (by assumption)]; refine' attrOK_mk ?ka_437 ?kb_437 ?kc_437 ?kd_437; (case kc_437 => k_is); (case ka_437 => k_is); (case kb_437 => k_is); (case kd_437 => k_is))
    refine Ev.attr ?_
    with_reducible refine Ev.loc mem0 ?_
    refine' Do1.is (Is.attr mem0 (mem1 mem0) (mem1 (mem1 (mem1 mem0))) ?w4_440 rfl) ?wq_440
    case w4_440 => (rw [Ok.K (by assumption)]; refine' attrOK_mk ?ka_440 ?kb_440 ?kc_440 ?kd_440; (case kc_440 => k_is); (case ka_440 => k_is); (case kb_440 => k_is); (case kd_440 => k_is))
    refine ⟨_, _, HasItem.ba (by (with_reducible refine mem1 ?_; with_reducible refine mem1 ?_; with_reducible exact mem0)), It1.ba (u := k.toUInt8) (by (with_reducible refine mem1 ?_; with_reducible refine mem1 ?_; with_reducible exact mem0)) (by rw [List.size_toArray, List.length_append]; omega) (by omega) ?_ ?_⟩
    · rw [Int.toNat_natCast, List.getElem?_toArray, pre_get, prefix_get (ok.pre F) (by omega)]; exact hk1
    rw [hk3]
    refine put_and (Put.tail (Put.tail Put.head)) ?_
    with_reducible refine Then.next ?_
    with_reducible refine Exs.nil ?_
    with_reducible refine Then.next ?_
    with_reducible refine Exs.cons ?_
    refine Ex.augAttr ?_
    with_reducible refine Ev.loc mem0 ?_
    refine' aug_and (Is.attr mem0 (mem1 mem0) (mem1 (mem1 (mem1 mem0))) ?w4_450 rfl) ?wq_450
    case w4_450 => (rw [Ok.K (by assumption)]; refine' attrOK_mk ?ka_450 ?kb_450 ?kc_450 ?kd_450; (case kc_450 => k_is); (case ka_450 => k_is); (case kb_450 => k_is); (case kd_450 => k_is))
    with_reducible refine Ev.loc (mem1 (mem1 (mem1 (mem1 (mem1 mem0))))) ?_
    with_reducible refine d_iadd ?_
    refine' set_and2 mem0 (Upd.tail Upd.head) (DSet.put (DPut.tail (DPut.tail (DPut.tail DPut.head)))) ?w4_453 (Nat.le_of_ble_eq_true rfl) ?wq_453
    case w4_453 => (rw [Ok.K (by assumption)]; refine' setOK_mk ?ka_453 ?kb_453 ?kc_453 ?kd_453; (case kc_453 => k_is); (case ka_453 => k_is); (case kb_453 => k_is); (case kd_453 => k_is))
    with_reducible refine Then.next ?_
    with_reducible refine Exs.cons ?_
    with_reducible refine Ex.ite ?_
    rw [show (((pre.length + (p + 1) : Nat) : Int) + 1) = ((pre.length + (p + 2) : Nat) : Int) by omega]
    refine Tt.tst (v := false) ?_ ?_
    · refine Tt.cmp ?_
      with_reducible refine Ev.loc (mem1 (mem1 mem0)) ?_
      refine Ev.attr ?_
      with_reducible refine Ev.loc mem0 ?_
      refine' Do1.is (Is.attr mem0 (mem1 mem0) (mem1 (mem1 (mem1 (mem1 (mem1 (mem1 (mem1 (mem1 (mem1 (mem1 (mem1 (mem1 (mem1 (mem1 (mem1 (mem1 (mem1 mem0))))))))))))))))) ?w4_461 rfl) ?wq_461
      case w4_461 => (rw [Ok.K (by assumption)]; refine' attrOK_mk ?ka_461 ?kb_461 ?kc_461 ?kd_461; (case kc_461 => k_is); (case ka_461 => k_is); (case kb_461 => k_is); (case kd_461 => k_is))
      with_reducible refine c_gt ?_
      exact ⟨decide_eq_false (by omega), rfl⟩
    refine ite_f ?_
    with_reducible refine Exs.nil ?_
    with_reducible refine Then.next ?_
    with_reducible refine Exs.cons ?_
    refine Ex.assign ?_
    refine Ev.meth ?_
    with_reducible refine Ev.loc mem0 ?_
    refine' ⟨_, _, Mt.inst mem0 (mem1 mem0) (notKey rfl) ?w4_469, Kp.ref ?w5_469, ?wq_469⟩
    case w4_469 => (rw [Ok.K (by assumption)]; refine' methOK_mk ?ka_469 ?kb_469 ?kc_469 ?kd_469; (case kb_469 => k_is); (case ka_469 => k_is); (case kc_469 => k_is); (case kd_469 => k_is))
    case w5_469 => (rw [Ok.K (by assumption)]; k_is)
    refine Evs.cons ?_
    with_reducible refine Ev.loc (mem1 (mem1 mem0)) ?_
    with_reducible refine Evs.nil ?_
    with_reducible refine EvK.nil ?_
    refine ⟨[], rfl, rfl, ?_⟩
    have hR2 : Rs T (p + 2) (p + 2) G (RH T.A T.R T.M (pre ++ u).toArray ((pre.length + (p + 2) : Nat) : Int) pre.length T.off ps (T.as0 ++ as) G) := ⟨pre, u, ps, as, F, hm, hm, hpre, rfl⟩
    refine (read B' (by omega) hh' ok hR2 hS (.inr ⟨rfl, rfl⟩) ?_ nofun (fun _ => ?ae) ?af).cl
    case ae => exact xe
    case af => exact xf
    rintro a' H' R
    refine put_and (Put.tail (Put.tail (Put.tail Put.head))) ?_
    with_reducible refine Then.next ?_
    with_reducible refine Exs.nil ?_
    with_reducible refine Then.next ?_
    with_reducible refine Exs.nil ?_
    with_reducible refine Then.next ?_
    with_reducible refine Exs.nil ?_
    with_reducible refine Then.next ?_
    with_reducible refine Exs.nil ?_
    with_reducible refine Then.next ?_
    with_reducible refine Exs.nil ?_
    with_reducible refine Then.next ?_
    with_reducible refine Exs.nil ?_
    with_reducible refine Then.next ?_
    with_reducible refine Exs.nil ?_
    with_reducible refine Then.next ?_
    with_reducible refine Exs.nil ?_
    with_reducible refine Then.next ?_
    with_reducible refine Exs.nil ?_
    with_reducible refine Then.next ?_
    with_reducible refine Exs.cons ?_
    with_reducible refine Ex.ret ?_
    with_reducible refine Ev.tup ?_
    refine Evs.cons ?_
    with_reducible refine Ev.loc (mem1 mem0) ?_
    refine Evs.cons ?_
    with_reducible refine Ev.loc (mem1 (mem1 mem0)) ?_
    refine Evs.cons ?_
    with_reducible refine Ev.loc (mem1 (mem1 (mem1 mem0))) ?_
    with_reducible refine Evs.nil ?_
    refine ⟨sz rfl, ?_⟩
    with_reducible refine Then.ret ?_
    exact q _ [(a', _)] _ .seg R
  with_reducible refine Exs.cons ?_
  refine Ex.ite (Tt.chainV (p := decide (199 ≤ (u8.toNat : Int))) (q := decide ((u8.toNat : Int) ≤ 201)) (a := .int 199) (b := .int u8.toNat) (d := .int 201) (by (with_reducible refine Ev.int ?_; exact Val.mk)) (by (with_reducible refine Ev.loc (mem1 (mem1 (mem1 (mem1 mem0)))) ?_; exact Val.mk)) (by (with_reducible refine Ev.int ?_; exact Val.mk)) Is.le Is.le ?_)
  refine ite_b (fun e10 => ?_) (fun e10 => ?_)
  · simp only [Bool.and_eq_true, decide_eq_true_eq] at e10
    exact (hdr.i_no (.inl (by omega))).elim
  with_reducible refine Exs.cons ?_
  refine Ex.ite (Tt.chainV (p := decide (202 ≤ (u8.toNat : Int))) (q := decide ((u8.toNat : Int) ≤ 211)) (a := .int 202) (b := .int u8.toNat) (d := .int 211) (by (with_reducible refine Ev.int ?_; exact Val.mk)) (by (with_reducible refine Ev.loc (mem1 (mem1 (mem1 (mem1 mem0)))) ?_; exact Val.mk)) (by (with_reducible refine Ev.int ?_; exact Val.mk)) Is.le Is.le ?_)
  refine ite_b (fun e11 => ?_) (fun e11 => ?_)
  · simp only [Bool.and_eq_true, decide_eq_true_eq] at e11
    obtain ⟨j, hj, hb, rfl, rfl, rfl, rfl⟩ := hdr.i_num (by omega) (by omega)
    have hpw : 2 ^ (j % 4) ≤ 8 := pow_le8 (Nat.mod_lt _ (by decide))
    rw [hb]
    with_reducible refine Exs.cons ?_
    refine Ex.assignT hh' (.cons (.cons .nil)) ?_
    refine Ev.sub ?_
    refine Ev.g (by assumption) Gl.g_MSGPACK_HEADERS (by rw [Callee.scope (by assumption)]; rfl) ?_
    with_reducible refine Ev.loc (mem1 (mem1 (mem1 (mem1 mem0)))) ?_
    refine tab_item (n := 3) (by rw [B'.K]; exact headers_num' _ hj) ?_
    refine ⟨_, _, rfl, .cons (by with_reducible exact (Put.tail (Put.tail (Put.tail (Put.tail (Put.tail Put.head)))))) (.cons (by with_reducible exact (Put.tail (Put.tail (Put.tail (Put.tail (Put.tail (Put.tail Put.head))))))) .nil), ?_⟩
    with_reducible refine Then.next ?_
    with_reducible refine Exs.cons ?_
    refine Ex.exprS ?_
    refine Ev.meth ?_
    with_reducible refine Ev.loc mem0 ?_
    refine' ⟨_, _, Mt.inst mem0 (mem1 mem0) (notKey rfl) ?w4_532, Kp.ref ?w5_532, ?wq_532⟩
    case w4_532 => (rw [Ok.K (by assumption)]; refine' methOK_mk ?ka_532 ?kb_532 ?kc_532 ?kd_532; (case kb_532 => k_is); (case ka_532 => k_is); (case kc_532 => k_is); (case kd_532 => k_is))
    case w5_532 => (rw [Ok.K (by assumption)]; k_is)
    refine Evs.cons ?_
    with_reducible refine Ev.loc (mem1 (mem1 (mem1 (mem1 (mem1 mem0))))) ?_
    with_reducible refine Evs.nil ?_
    with_reducible refine EvK.nil ?_
    refine ⟨[], rfl, rfl, ?_⟩
    refine (reserve B' (by omega) hh' ok (hR1 G) (n := 2 ^ (j % 4)) hS (.inr ⟨rfl, rfl⟩) ?_ nofun (fun _ => ?ae) ?af).cl
    case ae => exact xe
    case af => exact xf
    rintro H' ⟨pre, u, ps, as, F, hp, hm, hpre, rfl⟩
    have hlen := ok.len F
    obtain ⟨hf1, hf2⟩ := fmtS_len j
    with_reducible refine Then.next ?_
    with_reducible refine Exs.cons ?_
    with_reducible refine Ex.ite ?_
    refine Tt.tst (v := decide (j ≠ 0)) ?_ ?_
    · refine Tt.cmp ?_
      refine Ev.call ?_
      refine Ev.g (by assumption) Gl.g_len (by rw [Callee.scope (by assumption)]; rfl) ?_
      with_reducible refine ⟨Kp.bi, ?_⟩
      refine Evs.cons ?_
      with_reducible refine Ev.loc (mem1 (mem1 (mem1 (mem1 (mem1 (mem1 mem0)))))) ?_
      with_reducible refine Evs.nil ?_
      with_reducible refine EvK.nil ?_
      refine ⟨[], rfl, rfl, ?_⟩
      refine Cl.lenStr (by omega) ?_
      with_reducible refine Ev.int ?_
      with_reducible refine c_gt ?_
      exact ⟨decide_eq_decide.mpr (by omega), rfl⟩
    have hR2 : Rs T (p + 1 + 2 ^ (j % 4)) (p + 1 + 2 ^ (j % 4)) G (RH T.A T.R T.M (pre ++ u).toArray ((pre.length + (p + 1 + 2 ^ (j % 4)) : Nat) : Int) pre.length T.off ps (T.as0 ++ as) G) := ⟨pre, u, ps, as, F, hm, hm, hpre, rfl⟩
    have hadd : (((pre.length + (p + 1) : Nat) : Int) + ((2 ^ (j % 4) : Nat) : Int)) = ((pre.length + (p + 1 + 2 ^ (j % 4)) : Nat) : Int) := by omega
    refine ite_d (fun e12 => ?_) (fun e12 => ?_)
    · with_reducible refine Exs.cons ?_
      refine Ex.assign ?_
      refine Ev.sub ?_
      refine Ev.call ?_
      refine Ev.g (by assumption) Gl.g_unpack_from (by rw [Callee.scope (by assumption)]; rfl) ?_
      with_reducible refine ⟨Kp.bi, ?_⟩
      refine Evs.cons ?_
      with_reducible refine Ev.loc (mem1 (mem1 (mem1 (mem1 (mem1 (mem1 mem0)))))) ?_
      refine Evs.cons ?_
      refine Ev.attr ?_
      with_reducible refine Ev.loc mem0 ?_
      refine' Do1.is (Is.attr mem0 (mem1 mem0) (mem1 (mem1 mem0)) ?w4_563 rfl) ?wq_563
      case w4_563 => (rw [Ok.K (by assumption)]; refine' attrOK_mk ?ka_563 ?kb_563 ?kc_563 ?kd_563; (case kc_563 => k_is); (case ka_563 => k_is); (case kb_563 => k_is); (case kd_563 => k_is))
      refine Evs.cons ?_
      refine Ev.attr ?_
      with_reducible refine Ev.loc mem0 ?_
      refine' Do1.is (Is.attr mem0 (mem1 mem0) (mem1 (mem1 (mem1 mem0))) ?w4_567 rfl) ?wq_567
      case w4_567 => (rw [Ok.K (by assumption)]; refine' attrOK_mk ?ka_567 ?kb_567 ?kc_567 ?kd_567; (case kc_567 => k_is); (case ka_567 => k_is); (case kb_567 => k_is); (case kd_567 => k_is))
      with_reducible refine Evs.nil ?_
      with_reducible refine EvK.nil ?_
      refine ⟨[], rfl, rfl, ?_⟩
      refine Cl.unp (fmtS_ok hj e12) (fmtC_ok j) (by (with_reducible refine mem1 ?_; with_reducible refine mem1 ?_; with_reducible exact mem0)) (by omega) (by rw [Int.toNat_natCast, List.size_toArray, List.length_append]; omega) (by rw [List.size_toArray, List.length_append]; omega) ?_
      rw [Int.toNat_natCast, numAt_eq, prefix_take (ok.pre F) hm, show numSeg j ((T.W.drop (p + 1)).take (2 ^ (j % 4))) = numJ T p j by unfold numJ; rw [if_neg e12]]
      with_reducible refine Ev.int ?_
      refine ⟨_, _, HasItem.tup, It1.tup (by decide) (by decide) rfl ?_⟩
      refine put_and (Put.tail (Put.tail (Put.tail Put.head))) ?_
      with_reducible refine Then.next ?_
      with_reducible refine Exs.nil ?_
      with_reducible refine Then.next ?_
      with_reducible refine Exs.cons ?_
      refine Ex.augAttr ?_
      with_reducible refine Ev.loc mem0 ?_
      refine' aug_and (Is.attr mem0 (mem1 mem0) (mem1 (mem1 (mem1 mem0))) ?w4_580 rfl) ?wq_580
      case w4_580 => (rw [Ok.K (by assumption)]; refine' attrOK_mk ?ka_580 ?kb_580 ?kc_580 ?kd_580; (case kc_580 => k_is); (case ka_580 => k_is); (case kb_580 => k_is); (case kd_580 => k_is))
      with_reducible refine Ev.loc (mem1 (mem1 (mem1 (mem1 (mem1 mem0))))) ?_
      with_reducible refine d_iadd ?_
      refine' set_and2 mem0 (Upd.tail Upd.head) (DSet.put (DPut.tail (DPut.tail (DPut.tail DPut.head)))) ?w4_583 (Nat.le_of_ble_eq_true rfl) ?wq_583
      case w4_583 => (rw [Ok.K (by assumption)]; refine' setOK_mk ?ka_583 ?kb_583 ?kc_583 ?kd_583; (case kc_583 => k_is); (case ka_583 => k_is); (case kb_583 => k_is); (case kd_583 => k_is))
      with_reducible refine Then.next ?_
      with_reducible refine Exs.nil ?_
      with_reducible refine Then.next ?_
      with_reducible refine Exs.nil ?_
      with_reducible refine Then.next ?_
      with_reducible refine Exs.nil ?_
      with_reducible refine Then.next ?_
      with_reducible refine Exs.nil ?_
      with_reducible refine Then.next ?_
      with_reducible refine Exs.nil ?_
      with_reducible refine Then.next ?_
      with_reducible refine Exs.nil ?_
      with_reducible refine Then.next ?_
      with_reducible refine Exs.nil ?_
      with_reducible refine Then.next ?_
      with_reducible refine Exs.nil ?_
      with_reducible refine Then.next ?_
      with_reducible refine Exs.nil ?_
      with_reducible refine Then.next ?_
      with_reducible refine Exs.nil ?_
      with_reducible refine Then.next ?_
      with_reducible refine Exs.nil ?_
      with_reducible refine Then.next ?_
      with_reducible refine Exs.cons ?_
      with_reducible refine Ex.ret ?_
      with_reducible refine Ev.tup ?_
      refine Evs.cons ?_
      with_reducible refine Ev.loc (mem1 mem0) ?_
      refine Evs.cons ?_
      with_reducible refine Ev.loc (mem1 (mem1 mem0)) ?_
      refine Evs.cons ?_
      with_reducible refine Ev.loc (mem1 (mem1 (mem1 mem0))) ?_
      with_reducible refine Evs.nil ?_
      refine ⟨sz rfl, ?_⟩
      with_reducible refine Then.ret ?_
      rw [hadd]
      exact q _ _ _ .val hR2
    · have : j = 0 := by omega
      subst this
      with_reducible refine Exs.cons ?_
      refine Ex.assign ?_
      refine Ev.sub ?_
      refine Ev.attr ?_
      with_reducible refine Ev.loc mem0 ?_
      refine' Do1.is (Is.attr mem0 (mem1 mem0) (mem1 (mem1 mem0)) ?w4_624 rfl) ?wq_624
      case w4_624 => (rw [Ok.K (by assumption)]; refine' attrOK_mk ?ka_624 ?kb_624 ?kc_624 ?kd_624; (case kc_624 => k_is); (case ka_624 => k_is); (case kb_624 => k_is); (case kd_624 => k_is))
      refine Ev.attr ?_
      with_reducible refine Ev.loc mem0 ?_
      refine' Do1.is (Is.attr mem0 (mem1 mem0) (mem1 (mem1 (mem1 mem0))) ?w4_627 rfl) ?wq_627
      case w4_627 => (rw [Ok.K (by assumption)]; refine' attrOK_mk ?ka_627 ?kb_627 ?kc_627 ?kd_627; (case kc_627 => k_is); (case ka_627 => k_is); (case kb_627 => k_is); (case kd_627 => k_is))
      have hw : T.W[p + 1]? = some (T.W.getD (p + 1) 0) := by
        rw [List.getD_eq_getElem?_getD]
        have hm' : p + 1 < u.length := hm
        rw [← prefix_get (ok.pre F) hm', List.getElem?_eq_getElem hm']; rfl
      refine ⟨_, _, HasItem.ba (by (with_reducible refine mem1 ?_; with_reducible refine mem1 ?_; with_reducible exact mem0)), It1.ba (u := T.W.getD (p + 1) 0) (by (with_reducible refine mem1 ?_; with_reducible refine mem1 ?_; with_reducible exact mem0)) (by rw [List.size_toArray, List.length_append]; omega) (by omega) ?_ ?_⟩
      · rw [Int.toNat_natCast, List.getElem?_toArray, pre_get, prefix_get (ok.pre F) hm]; exact hw
      refine put_and (Put.tail (Put.tail (Put.tail Put.head))) ?_
      with_reducible refine Then.next ?_
      with_reducible refine Exs.nil ?_
      with_reducible refine Then.next ?_
      with_reducible refine Exs.cons ?_
      refine Ex.augAttr ?_
      with_reducible refine Ev.loc mem0 ?_
      refine' aug_and (Is.attr mem0 (mem1 mem0) (mem1 (mem1 (mem1 mem0))) ?w4_637 rfl) ?wq_637
      case w4_637 => (rw [Ok.K (by assumption)]; refine' attrOK_mk ?ka_637 ?kb_637 ?kc_637 ?kd_637; (case kc_637 => k_is); (case ka_637 => k_is); (case kb_637 => k_is); (case kd_637 => k_is))
      with_reducible refine Ev.loc (mem1 (mem1 (mem1 (mem1 (mem1 mem0))))) ?_
      with_reducible refine d_iadd ?_
      refine' set_and2 mem0 (Upd.tail Upd.head) (DSet.put (DPut.tail (DPut.tail (DPut.tail DPut.head)))) ?w4_640 (Nat.le_of_ble_eq_true rfl) ?wq_640
      case w4_640 => (rw [Ok.K (by assumption)]; refine' setOK_mk ?ka_640 ?kb_640 ?kc_640 ?kd_640; (case kc_640 => k_is); (case ka_640 => k_is); (case kb_640 => k_is); (case kd_640 => k_is))
      with_reducible refine Then.next ?_
      with_reducible refine Exs.nil ?_
      with_reducible refine Then.next ?_
      with_reducible refine Exs.nil ?_
      with_reducible refine Then.next ?_
      with_reducible refine Exs.nil ?_
      with_reducible refine Then.next ?_
      with_reducible refine Exs.nil ?_
      with_reducible refine Then.next ?_
      with_reducible refine Exs.nil ?_
      with_reducible refine Then.next ?_
      with_reducible refine Exs.nil ?_
      with_reducible refine Then.next ?_
      with_reducible refine Exs.nil ?_
      with_reducible refine Then.next ?_
      with_reducible refine Exs.nil ?_
      with_reducible refine Then.next ?_
      with_reducible refine Exs.nil ?_
      with_reducible refine Then.next ?_
      with_reducible refine Exs.nil ?_
      with_reducible refine Then.next ?_
      with_reducible refine Exs.nil ?_
      with_reducible refine Then.next ?_
      with_reducible refine Exs.cons ?_
      with_reducible refine Ex.ret ?_
      with_reducible refine Ev.tup ?_
      refine Evs.cons ?_
      with_reducible refine Ev.loc (mem1 mem0) ?_
      refine Evs.cons ?_
      with_reducible refine Ev.loc (mem1 (mem1 mem0)) ?_
      refine Evs.cons ?_
      with_reducible refine Ev.loc (mem1 (mem1 (mem1 mem0))) ?_
      with_reducible refine Evs.nil ?_
      refine ⟨sz rfl, ?_⟩
      with_reducible refine Then.ret ?_
      rw [hadd]
      exact q _ _ _ .val hR2
  exfalso
  simp only [Bool.and_eq_false_iff, decide_eq_false_iff_not] at e9 e10 e11
  exact hdr.i_rest (by omega)
end
end
section

section
variable {c : Cx} {ρ : Loc} {H : Hp} {Q : V → Hp → Prop} {X : XP}
/-- Unpacker._unpack of one that is no row and no map -/
theorem unpack_leaf (B : Ok c) (hr : 5 ≤ c.rm) (hh : c.A.handled = none) {T : Task} (ok : T.OK) {p m : Nat} {G : Hp} (hH : Rs T p m G H) {v : V} {p' : Nat} (hL : Lf T p v p') (hS : p' ≤ T.S) {ex : Int} (hex : ex = 0 ∨ ex = 1)
    (q : ∀ H', Rs T p' p' G H' → Q (if ex = 0 then .none else v) H')
    (xe : ∀ H', Ended T G H' → X (.ref 91) ρ H') (xf : T.M < T.S → ∀ H', Fulls T G H' → X (.ref 79) ρ H') : ClC c (.ref 393) [.ref T.A.a, .int ex] [] ρ H Q X := by
  have hH0 := hH
  obtain ⟨pre, u, ps, as, F, hp, hm, hpre, rfl⟩ := hH0
  have hle := hL.le
  obtain ⟨u8, typ, n, o, hu8, hdr, hk⟩ := hL
  refine' ClC.fn (bs := [("self", .ref T.A.a), ("execute", .int ex)]) (rest := ["typ", "n", "obj", "i", "ret", "pairs", "_", "key", "ts"]) ?ho ?hcd ?hst ?hb (by omega) ?h
  case ho => rw [B.K]; k_is
  case hcd => rw [B.K]; k_is
  case hst => rfl
  case hb =>
    intro z vs ks hv hk; obtain _ | ⟨g1, hv⟩ := hv; obtain _ | ⟨g2, hv⟩ := hv; cases hv; cases hk
    exact ⟨_, fun S => by rw [B.K]; kernel_rfl, .cons g1 (.cons g2 .nil)⟩
  intro c' C
  have B' := B.callee C
  have hh' : c'.A.handled = none := C.handled.trans hh
  have hrm := C.rm
  have e2 : ¬ ex = 2 := by omega
  have e3 : ¬ ex = 3 := by omega
  change Exs c' _ [("self", some (.ref T.A.a)), ("execute", some (.int ex)), ("typ", none), ("n", none), ("obj", none), ("i", none), ("ret", none), ("pairs", none), ("_", none), ("key", none), ("ts", none)] _ _ _
  refine Exs.fit ?_
  with_reducible refine Exs.cons ?_
  refine Ex.assignT hh' (.cons (.cons (.cons .nil))) ?_
  refine Ev.meth ?_
  with_reducible refine Ev.loc mem0 ?_
  refine' ⟨_, _, Mt.inst mem0 (mem1 mem0) (notKey rfl) ?w4_4, Kp.ref ?w5_4, ?wq_4⟩
  case w4_4 => (rw [Ok.K (by assumption)]; refine' methOK_mk ?ka_4 ?kb_4 ?kc_4 ?kd_4; (case kb_4 => k_is); (case ka_4 => k_is); (case kc_4 => k_is); (case kd_4 => k_is))
  case w5_4 => (rw [Ok.K (by assumption)]; k_is)
  with_reducible refine Evs.nil ?_
  with_reducible refine EvK.nil ?_
  refine ⟨[], rfl, rfl, ?_⟩
  refine (read_header B' (by omega) hh' ok hH hu8 hdr hS (by omega) ?_ (fun H' E => ?ae) (fun hM H' E => ?af)).cl
  case ae => exact .self (xe H' E)
  case af => exact .self (xf hM H' E)
  intro w E H' hret R
  refine ⟨_, _, rfl, .cons (by with_reducible exact (Put.tail (Put.tail Put.head))) (.cons (by with_reducible exact (Put.tail (Put.tail (Put.tail Put.head)))) (.cons (by with_reducible exact (Put.tail (Put.tail (Put.tail (Put.tail Put.head))))) .nil)), ?_⟩
  with_reducible refine Then.next ?_
  with_reducible refine Exs.cons ?_
  have ht1 : ¬ typ = 1 := by omega
  have ht2 : ¬ typ = 2 := by omega
  refine Ex.ite (Tt.tst (v := false) ?_ (ite_f ?_))
  · refine Tt.cmp ?_
    with_reducible refine Ev.loc (mem1 mem0) ?_
    refine Ev.g (by assumption) Gl.g_EX_READ_ARRAY_HEADER (by rw [Callee.scope (by assumption)]; rfl) ?_
    with_reducible refine c_eq ?_
    exact ⟨decide_eq_false e2, rfl⟩
  with_reducible refine Exs.nil ?_
  with_reducible refine Then.next ?_
  with_reducible refine Exs.cons ?_
  refine Ex.ite (Tt.tst (v := false) ?_ (ite_f ?_))
  · refine Tt.cmp ?_
    with_reducible refine Ev.loc (mem1 mem0) ?_
    refine Ev.g (by assumption) Gl.g_EX_READ_MAP_HEADER (by rw [Callee.scope (by assumption)]; rfl) ?_
    with_reducible refine c_eq ?_
    exact ⟨decide_eq_false e3, rfl⟩
  with_reducible refine Exs.nil ?_
  with_reducible refine Then.next ?_
  with_reducible refine Exs.cons ?_
  refine Ex.ite (Tt.tst (v := false) ?_ (ite_f ?_))
  · refine Tt.cmp ?_
    with_reducible refine Ev.loc (mem1 (mem1 mem0)) ?_
    refine Ev.g (by assumption) Gl.g_TYPE_ARRAY (by rw [Callee.scope (by assumption)]; rfl) ?_
    with_reducible refine c_eq ?_
    exact ⟨decide_eq_false ht1, rfl⟩
  with_reducible refine Exs.nil ?_
  with_reducible refine Then.next ?_
  with_reducible refine Exs.cons ?_
  refine Ex.ite (Tt.tst (v := false) ?_ (ite_f ?_))
  · refine Tt.cmp ?_
    with_reducible refine Ev.loc (mem1 (mem1 mem0)) ?_
    refine Ev.g (by assumption) Gl.g_TYPE_MAP (by rw [Callee.scope (by assumption)]; rfl) ?_
    with_reducible refine c_eq ?_
    exact ⟨decide_eq_false ht2, rfl⟩
  with_reducible refine Exs.nil ?_
  with_reducible refine Then.next ?_
  with_reducible refine Exs.cons ?_
  refine Ex.ite (Tt.tst (v := decide (ex = 0)) ?_ (ite_d (fun e0 => ?_) (fun e0 => ?_)))
  · refine Tt.cmp ?_
    with_reducible refine Ev.loc (mem1 mem0) ?_
    refine Ev.g (by assumption) Gl.g_EX_SKIP (by rw [Callee.scope (by assumption)]; rfl) ?_
    with_reducible refine c_eq ?_
    exact Tst.mk
  · with_reducible refine Exs.cons ?_
    with_reducible refine Ex.retNone ?_
    with_reducible refine Then.ret ?_
    with_reducible refine Then.ret ?_
    have := q _ R
    rw [if_pos e0] at this
    exact .mk List.perm_append_comm this
  have q := fun H' R => q H' R
  rw [if_neg e0] at q
  with_reducible refine Exs.nil ?_
  with_reducible refine Then.next ?_
  with_reducible refine Exs.cons ?_
  have R' := R
  obtain ⟨pre, u, ps, as, F, hp, hm, hpre, rfl⟩ := R
  rcases hk with ⟨rfl, rfl⟩ | ⟨rfl, sg, x, rfl, hsp, rfl⟩ | ⟨rfl, sg, rfl, rfl⟩
  · cases hret
    refine Ex.ite (Tt.tst (v := false) ?_ (ite_f ?_))
    · refine Tt.cmp ?_
      with_reducible refine Ev.loc (mem1 (mem1 mem0)) ?_
      refine Ev.g (by assumption) Gl.g_TYPE_RAW (by rw [Callee.scope (by assumption)]; rfl) ?_
      with_reducible refine c_eq ?_
      exact Tst.mk
    with_reducible refine Exs.nil ?_
    with_reducible refine Then.next ?_
    with_reducible refine Exs.cons ?_
    refine Ex.ite (Tt.tst (v := false) ?_ (ite_f ?_))
    · refine Tt.cmp ?_
      with_reducible refine Ev.loc (mem1 (mem1 mem0)) ?_
      refine Ev.g (by assumption) Gl.g_TYPE_BIN (by rw [Callee.scope (by assumption)]; rfl) ?_
      with_reducible refine c_eq ?_
      exact Tst.mk
    with_reducible refine Exs.nil ?_
    with_reducible refine Then.next ?_
    with_reducible refine Exs.cons ?_
    refine Ex.ite (Tt.tst (v := false) ?_ (ite_f ?_))
    · refine Tt.cmp ?_
      with_reducible refine Ev.loc (mem1 (mem1 mem0)) ?_
      refine Ev.g (by assumption) Gl.g_TYPE_EXT (by rw [Callee.scope (by assumption)]; rfl) ?_
      with_reducible refine c_eq ?_
      exact Tst.mk
    with_reducible refine Exs.nil ?_
    with_reducible refine Then.next ?_
    with_reducible refine Exs.cons ?_
    refine Ex.assert hh' (Tt.tst (v := true) ?_ (ite_t ?_))
    · refine Tt.cmp ?_
      with_reducible refine Ev.loc (mem1 (mem1 mem0)) ?_
      refine Ev.g (by assumption) Gl.g_TYPE_IMMEDIATE (by rw [Callee.scope (by assumption)]; rfl) ?_
      with_reducible refine c_eq ?_
      exact Tst.mk
    with_reducible refine Then.next ?_
    with_reducible refine Exs.cons ?_
    with_reducible refine Ex.ret ?_
    with_reducible refine Ev.loc (mem1 (mem1 (mem1 (mem1 mem0)))) ?_
    with_reducible refine Then.ret ?_
    exact .self (q _ R')
  · cases hret
    rw [List.singleton_append]
    have hsl := hdr.segLen
    refine Ex.ite (Tt.tst (v := true) ?_ (ite_t ?_))
    · refine Tt.cmp ?_
      with_reducible refine Ev.loc (mem1 (mem1 mem0)) ?_
      refine Ev.g (by assumption) Gl.g_TYPE_RAW (by rw [Callee.scope (by assumption)]; rfl) ?_
      with_reducible refine c_eq ?_
      exact Tst.mk
    with_reducible refine Exs.cons ?_
    refine Ex.ite (Tt.tst (v := false) ?_ (ite_f ?_))
    · refine Tt.val ?_
      refine Ev.attr ?_
      with_reducible refine Ev.loc mem0 ?_
      refine' Do1.is (Is.attr (mem1 mem0) (mem1 (mem1 mem0)) (mem1 (mem1 (mem1 (mem1 (mem1 (mem1 (mem1 mem0))))))) ?w4_89 rfl) ?wq_89
      case w4_89 => (rw [Ok.K (by assumption)]; refine' attrOK_mk ?ka_89 ?kb_89 ?kc_89 ?kd_89; (case kc_89 => k_is); (case ka_89 => k_is); (case kb_89 => k_is); (case kd_89 => k_is))
      with_reducible refine t_bool ?_
      exact Tst.mk
    with_reducible refine Exs.cons ?_
    refine Ex.assign ?_
    with_reducible refine Ev.ifexp ?_
    refine Tt.tst (v := true) ?_ (ite_t ?_)
    · refine Tt.cmp ?_
      refine Ev.attr ?_
      with_reducible refine Ev.loc mem0 ?_
      refine' Do1.is (Is.attr (mem1 mem0) (mem1 (mem1 mem0)) (mem1 (mem1 (mem1 (mem1 (mem1 (mem1 (mem1 (mem1 (mem1 mem0))))))))) ?w4_97 rfl) ?wq_97
      case w4_97 => (rw [Ok.K (by assumption)]; refine' attrOK_mk ?ka_97 ?kb_97 ?kc_97 ?kd_97; (case kc_97 => k_is); (case ka_97 => k_is); (case kb_97 => k_is); (case kd_97 => k_is))
      with_reducible refine Ev.str ?_
      with_reducible refine c_eqStr ?_
      exact Tst.mk
    refine Ev.meth ?_
    refine Ev.call ?_
    refine Ev.g (by assumption) Gl.g_bytes (by rw [Callee.scope (by assumption)]; rfl) ?_
    with_reducible refine ⟨Kp.ty, ?_⟩
    refine Evs.cons ?_
    with_reducible refine Ev.loc (mem1 (mem1 (mem1 (mem1 mem0)))) ?_
    with_reducible refine Evs.nil ?_
    with_reducible refine EvK.nil ?_
    refine ⟨[], rfl, rfl, ?_⟩
    refine Cl.bytesBa (by with_reducible exact mem0) (by rw [List.size_toArray]; omega) ?_
    refine ⟨_, _, Mt.decode, Kp.bi, ?_⟩
    refine Evs.cons ?_
    with_reducible refine Ev.str ?_
    with_reducible refine Evs.nil ?_
    with_reducible refine EvK.nil ?_
    refine ⟨[], rfl, rfl, ?_⟩
    refine Cl.decode hsp ?_
    refine put_and (Put.tail (Put.tail (Put.tail (Put.tail Put.head)))) ?_
    with_reducible refine Then.next ?_
    with_reducible refine Exs.nil ?_
    with_reducible refine Then.next ?_
    with_reducible refine Exs.cons ?_
    with_reducible refine Ex.ret ?_
    with_reducible refine Ev.loc (mem1 (mem1 (mem1 (mem1 mem0)))) ?_
    with_reducible refine Then.ret ?_
    with_reducible refine Then.ret ?_
    exact .mk (List.perm_append_comm (l₁ := [_])) (q _ R')
  · cases hret
    rw [List.singleton_append]
    have hsl := hdr.segLen
    refine Ex.ite (Tt.tst (v := false) ?_ (ite_f ?_))
    · refine Tt.cmp ?_
      with_reducible refine Ev.loc (mem1 (mem1 mem0)) ?_
      refine Ev.g (by assumption) Gl.g_TYPE_RAW (by rw [Callee.scope (by assumption)]; rfl) ?_
      with_reducible refine c_eq ?_
      exact Tst.mk
    with_reducible refine Exs.nil ?_
    with_reducible refine Then.next ?_
    with_reducible refine Exs.cons ?_
    refine Ex.ite (Tt.tst (v := true) ?_ (ite_t ?_))
    · refine Tt.cmp ?_
      with_reducible refine Ev.loc (mem1 (mem1 mem0)) ?_
      refine Ev.g (by assumption) Gl.g_TYPE_BIN (by rw [Callee.scope (by assumption)]; rfl) ?_
      with_reducible refine c_eq ?_
      exact Tst.mk
    with_reducible refine Exs.cons ?_
    with_reducible refine Ex.ret ?_
    refine Ev.call ?_
    refine Ev.g (by assumption) Gl.g_bytes (by rw [Callee.scope (by assumption)]; rfl) ?_
    with_reducible refine ⟨Kp.ty, ?_⟩
    refine Evs.cons ?_
    with_reducible refine Ev.loc (mem1 (mem1 (mem1 (mem1 mem0)))) ?_
    with_reducible refine Evs.nil ?_
    with_reducible refine EvK.nil ?_
    refine ⟨[], rfl, rfl, ?_⟩
    refine Cl.bytesBa (by with_reducible exact mem0) (by rw [List.size_toArray]; omega) ?_
    with_reducible refine Then.ret ?_
    with_reducible refine Then.ret ?_
    exact .mk (List.perm_append_comm (l₁ := [_])) (q _ R')
end
end
section

section
variable {c : Cx} {ρ : Loc} {H : Hp} {Q : V → Hp → Prop} {X : XP}
/-- Unpacker._unpack of a row -/
theorem unpack_arr (B : Ok c) (hr : 6 ≤ c.rm) (hh : c.A.handled = none) {T : Task} (ok : T.OK) {p m : Nat} {G : Hp} (hH : Rs T p m G H) {u8 : UInt8} (hu8 : T.W[p]? = some u8) {vs : List V} (hdr : Hdr T p u8.toNat 1 (vs.length : Int) (.val .none) (p + 1)) {p' : Nat} (hC : Chain T (p + 1) vs p') (hS : p' ≤ T.S) {ex : Int} (hex : ex = 0 ∨ ex = 1)
    (q : ∀ H', Rs T p' p' G H' → Q (if ex = 0 then .none else .lst vs) H')
    (xe : ∀ H', Ended T G H' → X (.ref 91) ρ H') (xf : T.M < T.S → ∀ H', Fulls T G H' → X (.ref 79) ρ H') : ClC c (.ref 393) [.ref T.A.a, .int ex] [] ρ H Q X := by
  have hH0 := hH
  obtain ⟨pre, u, ps, as, F, hp, hm, hpre, rfl⟩ := hH0
  have hle := hC.le
  have hvs : vs.length < 16 := by have := hdr.n1; omega
  refine' ClC.fn (bs := [("self", .ref T.A.a), ("execute", .int ex)]) (rest := ["typ", "n", "obj", "i", "ret", "pairs", "_", "key", "ts"]) ?ho ?hcd ?hst ?hb (by omega) ?h
  case ho => rw [B.K]; k_is
  case hcd => rw [B.K]; k_is
  case hst => rfl
  case hb =>
    intro z vs ks hv hk; obtain _ | ⟨g1, hv⟩ := hv; obtain _ | ⟨g2, hv⟩ := hv; cases hv; cases hk
    exact ⟨_, fun S => by rw [B.K]; kernel_rfl, .cons g1 (.cons g2 .nil)⟩
  intro c' C
  have B' := B.callee C
  have hh' : c'.A.handled = none := C.handled.trans hh
  have hrm := C.rm
  have e2 : ¬ ex = 2 := by omega
  have e3 : ¬ ex = 3 := by omega
  change Exs c' _ [("self", some (.ref T.A.a)), ("execute", some (.int ex)), ("typ", none), ("n", none), ("obj", none), ("i", none), ("ret", none), ("pairs", none), ("_", none), ("key", none), ("ts", none)] _ _ _
  refine Exs.fit ?_
  with_reducible refine Exs.cons ?_
  refine Ex.assignT hh' (.cons (.cons (.cons .nil))) ?_
  refine Ev.meth ?_
  with_reducible refine Ev.loc mem0 ?_
  refine' ⟨_, _, Mt.inst mem0 (mem1 mem0) (notKey rfl) ?w4_4, Kp.ref ?w5_4, ?wq_4⟩
  case w4_4 => (rw [Ok.K (by assumption)]; refine' methOK_mk ?ka_4 ?kb_4 ?kc_4 ?kd_4; (case kb_4 => k_is); (case ka_4 => k_is); (case kc_4 => k_is); (case kd_4 => k_is))
  case w5_4 => (rw [Ok.K (by assumption)]; k_is)
  with_reducible refine Evs.nil ?_
  with_reducible refine EvK.nil ?_
  refine ⟨[], rfl, rfl, ?_⟩
  refine (read_header B' (by omega) hh' ok hH hu8 hdr (by omega) (by omega) ?_ (fun H' E => ?ae) (fun hM H' E => ?af)).cl
  case ae => exact .self (xe H' E)
  case af => exact .self (xf hM H' E)
  intro w E H' hret R
  cases hret
  rw [List.nil_append]
  refine ⟨_, _, rfl, .cons (by with_reducible exact (Put.tail (Put.tail Put.head))) (.cons (by with_reducible exact (Put.tail (Put.tail (Put.tail Put.head)))) (.cons (by with_reducible exact (Put.tail (Put.tail (Put.tail (Put.tail Put.head))))) .nil)), ?_⟩
  with_reducible refine Then.next ?_
  with_reducible refine Exs.cons ?_
  refine Ex.ite (Tt.tst (v := false) ?_ (ite_f ?_))
  · refine Tt.cmp ?_
    with_reducible refine Ev.loc (mem1 mem0) ?_
    refine Ev.g (by assumption) Gl.g_EX_READ_ARRAY_HEADER (by rw [Callee.scope (by assumption)]; rfl) ?_
    with_reducible refine c_eq ?_
    exact ⟨decide_eq_false e2, rfl⟩
  with_reducible refine Exs.nil ?_
  with_reducible refine Then.next ?_
  with_reducible refine Exs.cons ?_
  refine Ex.ite (Tt.tst (v := false) ?_ (ite_f ?_))
  · refine Tt.cmp ?_
    with_reducible refine Ev.loc (mem1 mem0) ?_
    refine Ev.g (by assumption) Gl.g_EX_READ_MAP_HEADER (by rw [Callee.scope (by assumption)]; rfl) ?_
    with_reducible refine c_eq ?_
    exact ⟨decide_eq_false e3, rfl⟩
  with_reducible refine Exs.nil ?_
  with_reducible refine Then.next ?_
  with_reducible refine Exs.cons ?_
  refine Ex.ite (Tt.tst (v := true) ?_ (ite_t ?_))
  · refine Tt.cmp ?_
    with_reducible refine Ev.loc (mem1 (mem1 mem0)) ?_
    refine Ev.g (by assumption) Gl.g_TYPE_ARRAY (by rw [Callee.scope (by assumption)]; rfl) ?_
    with_reducible refine c_eq ?_
    exact Tst.mk
  with_reducible refine Exs.cons ?_
  refine Ex.ite (Tt.tst (v := decide (ex = 0)) ?_ (ite_d (fun e0 => ?_) (fun e0 => ?_)))
  · refine Tt.cmp ?_
    with_reducible refine Ev.loc (mem1 mem0) ?_
    refine Ev.g (by assumption) Gl.g_EX_SKIP (by rw [Callee.scope (by assumption)]; rfl) ?_
    with_reducible refine c_eq ?_
    exact Tst.mk
  · rw [if_pos e0] at q
    with_reducible refine Exs.cons ?_
    refine Ex.for C.own hh' ?_
    refine Ev.call ?_
    refine Ev.g (by assumption) Gl.g_range (by rw [Callee.scope (by assumption)]; rfl) ?_
    with_reducible refine ⟨Kp.ty, ?_⟩
    refine Evs.cons ?_
    with_reducible refine Ev.loc (mem1 (mem1 (mem1 mem0))) ?_
    with_reducible refine Evs.nil ?_
    with_reducible refine EvK.nil ?_
    refine ⟨[], rfl, rfl, ?_⟩
    refine Cl.range ?_
    refine ⟨_, _, fun i ρ' H' => ∃ iv pi, ρ' = ([("self", some (.ref T.A.a)), ("execute", some (.int ex)), ("typ", some (.int 1)), ("n", some (.int vs.length)), ("obj", some .none), ("i", iv), ("ret", none), ("pairs", none), ("_", none), ("key", none), ("ts", none)] : Loc) ∧
      Chain T pi (vs.drop i) p' ∧ Rs T pi pi G H', It.range (by decide) (by decide) (by omega) (by omega), ⟨none, p + 1, rfl, hC, R⟩, fun _ _ _ _ => trivial, ?_, ?_⟩
    · intro i v ρ' H1 q' hi ⟨iv, pi, e1, hCi, Ri⟩
      subst e1
      obtain ⟨hlt, rfl⟩ := range_at hi
      have hlt : i < vs.length := by omega
      obtain ⟨p1, hL, hC1⟩ := hCi.inv hlt
      have := hC1.le
      obtain ⟨pre, u, ps, as, F, hp, hm, hpre, rfl⟩ := Ri
      refine put_and (by with_reducible exact (Put.tail (Put.tail (Put.tail (Put.tail (Put.tail Put.head)))))) ?_
      with_reducible refine Exs.cons ?_
      refine Ex.exprS ?_
      refine Ev.meth ?_
      with_reducible refine Ev.loc mem0 ?_
      refine' ⟨_, _, Mt.inst (mem1 mem0) (mem1 (mem1 mem0)) (notKey rfl) ?w4_50, Kp.ref ?w5_50, ?wq_50⟩
      case w4_50 => (rw [Ok.K (by assumption)]; refine' methOK_mk ?ka_50 ?kb_50 ?kc_50 ?kd_50; (case kb_50 => k_is); (case ka_50 => k_is); (case kc_50 => k_is); (case kd_50 => k_is))
      case w5_50 => (rw [Ok.K (by assumption)]; k_is)
      refine Evs.cons ?_
      refine Ev.g (by assumption) Gl.g_EX_SKIP (by rw [Callee.scope (by assumption)]; rfl) ?_
      with_reducible refine Evs.nil ?_
      with_reducible refine EvK.nil ?_
      refine ⟨[], rfl, rfl, ?_⟩
      refine Cl.perm RH.rot ?_
      refine (unpack_leaf B' (by omega) hh' ok (G := q' :: G) ⟨pre, u, ps, as, F, hp, hm, hpre, rfl⟩ hL (by omega) (.inl rfl) ?_ ?_ ?_).cl
      · intro H2 R2
        obtain ⟨H3, pm, R3⟩ := R2.push
        with_reducible refine Then.next ?_
        with_reducible refine Exs.nil ?_
        exact ⟨H3, pm, _, p1, rfl, hC1, R3⟩
      · intro H2 E2
        obtain ⟨H3, pm, E3⟩ := E2.push
        exact ⟨H3, pm, .self (xe _ E3)⟩
      · intro hM H2 E2
        obtain ⟨H3, pm, E3⟩ := E2.push
        exact ⟨H3, pm, .self (xf hM _ E3)⟩
    · rintro ρ' H1 ⟨iv, pi, e1, hCi, Ri⟩
      subst e1
      rw [List.length_map, List.length_range, Int.sub_zero, Int.toNat_natCast] at hCi
      obtain rfl := hCi.end
      with_reducible refine Then.next ?_
      with_reducible refine Exs.cons ?_
      with_reducible refine Ex.retNone ?_
      with_reducible refine Then.ret ?_
      with_reducible refine Then.ret ?_
      with_reducible refine Then.ret ?_
      exact .self (q _ Ri)
  · rw [if_neg e0] at q
    with_reducible refine Exs.nil ?_
    with_reducible refine Then.next ?_
    with_reducible refine Exs.cons ?_
    refine Ex.assign ?_
    refine Ev.call ?_
    refine Ev.g (by assumption) Gl.g_newlist_hint (by rw [Callee.scope (by assumption)]; rfl) ?_
    refine ⟨Kp.ref (by rw [Ok.K (by assumption)]; k_is), ?_⟩
    refine Evs.cons ?_
    refine Ev.call ?_
    refine Ev.g (by assumption) Gl.g_min (by rw [Callee.scope (by assumption)]; rfl) ?_
    with_reducible refine ⟨Kp.bi, ?_⟩
    refine Evs.cons ?_
    with_reducible refine Ev.loc (mem1 (mem1 (mem1 mem0))) ?_
    refine Evs.cons ?_
    with_reducible refine Ev.int ?_
    with_reducible refine Evs.nil ?_
    with_reducible refine EvK.nil ?_
    refine ⟨[], rfl, rfl, ?_⟩
    refine Cl.min2 hh' ?_
    with_reducible refine Evs.nil ?_
    with_reducible refine EvK.nil ?_
    refine ⟨[], rfl, rfl, ?_⟩
    refine (newlist_hint B' (by omega) fun l => ?_).cl
    refine put_and (Put.tail (Put.tail (Put.tail (Put.tail (Put.tail (Put.tail Put.head)))))) ?_
    with_reducible refine Then.next ?_
    with_reducible refine Exs.cons ?_
    obtain ⟨H1, pm1, R1⟩ := R.pull (x := (l, .list []))
    refine Ex.perm pm1 ?_
    refine Ex.for C.own hh' ?_
    refine Ev.call ?_
    refine Ev.g (by assumption) Gl.g_range (by rw [Callee.scope (by assumption)]; rfl) ?_
    with_reducible refine ⟨Kp.ty, ?_⟩
    refine Evs.cons ?_
    with_reducible refine Ev.loc (mem1 (mem1 (mem1 mem0))) ?_
    with_reducible refine Evs.nil ?_
    with_reducible refine EvK.nil ?_
    refine ⟨[], rfl, rfl, ?_⟩
    refine Cl.range ?_
    refine ⟨_, _, fun i ρ' H' => ∃ iv pi, ρ' = ([("self", some (.ref T.A.a)), ("execute", some (.int ex)), ("typ", some (.int 1)), ("n", some (.int vs.length)), ("obj", some .none), ("i", iv), ("ret", some (.ref l)), ("pairs", none), ("_", none), ("key", none), ("ts", none)] : Loc) ∧
      Chain T pi (vs.drop i) p' ∧ Rs T pi pi ((l, .list (vs.take i)) :: G) H', It.range (by decide) (by decide) (by omega) (by omega), ⟨none, p + 1, rfl, hC, R1⟩, fun _ _ _ _ => trivial, ?_, ?_⟩
    · intro i v ρ' H1 q' hi ⟨iv, pi, e1, hCi, Ri⟩
      subst e1
      obtain ⟨hlt, rfl⟩ := range_at hi
      have hlt : i < vs.length := by omega
      obtain ⟨p1, hL, hC1⟩ := hCi.inv hlt
      have := hC1.le
      obtain ⟨pre, u, ps, as, F, hp, hm, hpre, rfl⟩ := Ri
      refine put_and (by with_reducible exact (Put.tail (Put.tail (Put.tail (Put.tail (Put.tail Put.head)))))) ?_
      with_reducible refine Exs.cons ?_
      refine Ex.exprS ?_
      refine Ev.meth ?_
      with_reducible refine Ev.loc (mem1 (mem1 (mem1 (mem1 (mem1 (mem1 mem0)))))) ?_
      refine ⟨_, _, Mt.list (by (with_reducible refine mem1 ?_; with_reducible refine mem1 ?_; with_reducible refine mem1 ?_; with_reducible refine mem1 ?_; with_reducible refine mem1 ?_; with_reducible refine mem1 ?_; with_reducible refine mem1 ?_; with_reducible refine mem1 ?_; with_reducible exact mem0)) slot_list_append type_list_append, Kp.bi, ?_⟩
      refine Evs.cons ?_
      refine Ev.meth ?_
      with_reducible refine Ev.loc mem0 ?_
      refine' ⟨_, _, Mt.inst (mem1 mem0) (mem1 (mem1 mem0)) (notKey rfl) ?w4_105, Kp.ref ?w5_105, ?wq_105⟩
      case w4_105 => (rw [Ok.K (by assumption)]; refine' methOK_mk ?ka_105 ?kb_105 ?kc_105 ?kd_105; (case kb_105 => k_is); (case ka_105 => k_is); (case kc_105 => k_is); (case kd_105 => k_is))
      case w5_105 => (rw [Ok.K (by assumption)]; k_is)
      refine Evs.cons ?_
      refine Ev.g (by assumption) Gl.g_EX_CONSTRUCT (by rw [Callee.scope (by assumption)]; rfl) ?_
      with_reducible refine Evs.nil ?_
      with_reducible refine EvK.nil ?_
      refine ⟨[], rfl, rfl, ?_⟩
      refine Cl.perm RH.rot ?_
      refine (unpack_leaf B' (by omega) hh' ok (G := q' :: (l, .list (vs.take i)) :: G) ⟨pre, u, ps, as, F, hp, hm, hpre, rfl⟩ hL (by omega) (.inr rfl) ?_ ?_ ?_).cl
      · intro H2 R2
        obtain ⟨pre, u, ps, as, F, hp, hm, hpre, rfl⟩ := R2
        rw [if_neg (show ¬ (1 : Int) = 0 by decide)]
        with_reducible refine Evs.nil ?_
        with_reducible refine EvK.nil ?_
        refine ⟨[], rfl, rfl, ?_⟩
        refine Cl.append (by with_reducible exact (Upd.tail (Upd.tail (Upd.tail (Upd.tail (Upd.tail (Upd.tail (Upd.tail (Upd.tail Upd.head))))))))) (by rw [List.length_take]; omega) ?_
        with_reducible refine Then.next ?_
        with_reducible refine Exs.nil ?_
        refine ⟨_, RH.rot.symm, _, p1, rfl, hC1, ?_⟩
        rw [take_succ' hlt]
        exact ⟨pre, u, ps, as, F, hp, hm, hpre, rfl⟩
      · intro H2 E2
        obtain ⟨H3, pm, E3⟩ := E2.push
        obtain ⟨H4, pm4, E4⟩ := E3.push
        exact ⟨H3, pm, .mk (G := [(l, _)]) (pm4.trans (List.perm_append_comm (l₁ := [_]))) (xe _ E4)⟩
      · intro hM H2 E2
        obtain ⟨H3, pm, E3⟩ := E2.push
        obtain ⟨H4, pm4, E4⟩ := E3.push
        exact ⟨H3, pm, .mk (G := [(l, _)]) (pm4.trans (List.perm_append_comm (l₁ := [_]))) (xf hM _ E4)⟩
    · rintro ρ' H1 ⟨iv, pi, e1, hCi, Ri⟩
      subst e1
      rw [List.length_map, List.length_range, Int.sub_zero, Int.toNat_natCast] at hCi Ri
      obtain rfl := hCi.end
      rw [List.take_length] at Ri
      obtain ⟨pre, u, ps, as, F, hp, hm, hpre, rfl⟩ := Ri
      with_reducible refine Then.next ?_
      with_reducible refine Exs.cons ?_
      refine Ex.ite (Tt.tst (v := false) ?_ (ite_f ?_))
      · refine Tt.cmp ?_
        refine Ev.attr ?_
        with_reducible refine Ev.loc mem0 ?_
        refine' Do1.is (Is.attr mem0 (mem1 mem0) (mem1 (mem1 (mem1 (mem1 (mem1 (mem1 (mem1 (mem1 (mem1 (mem1 (mem1 (mem1 mem0)))))))))))) ?w4_122 rfl) ?wq_122
        case w4_122 => (rw [Ok.K (by assumption)]; refine' attrOK_mk ?ka_122 ?kb_122 ?kc_122 ?kd_122; (case kc_122 => k_is); (case ka_122 => k_is); (case kb_122 => k_is); (case kd_122 => k_is))
        with_reducible refine Ev.none ?_
        with_reducible refine c_notNone ?_
        exact Tst.mk
      with_reducible refine Exs.nil ?_
      with_reducible refine Then.next ?_
      with_reducible refine Exs.cons ?_
      with_reducible refine Ex.ret ?_
      with_reducible refine Ev.ifexp ?_
      refine Tt.tst (v := true) ?_ (ite_t ?_)
      · refine Tt.val ?_
        refine Ev.attr ?_
        with_reducible refine Ev.loc mem0 ?_
        refine' Do1.is (Is.attr mem0 (mem1 mem0) (mem1 (mem1 (mem1 (mem1 (mem1 (mem1 (mem1 (mem1 (mem1 (mem1 mem0)))))))))) ?w4_132 rfl) ?wq_132
        case w4_132 => (rw [Ok.K (by assumption)]; refine' attrOK_mk ?ka_132 ?kb_132 ?kc_132 ?kd_132; (case kc_132 => k_is); (case ka_132 => k_is); (case kb_132 => k_is); (case kd_132 => k_is))
        with_reducible refine t_bool ?_
        exact Tst.mk
      refine Ev.frz (by (with_reducible refine mem1 ?_; with_reducible refine mem1 ?_; with_reducible refine mem1 ?_; with_reducible refine mem1 ?_; with_reducible refine mem1 ?_; with_reducible refine mem1 ?_; with_reducible exact mem0)) RH.rot.symm ?_
      with_reducible refine Then.ret ?_
      with_reducible refine Then.ret ?_
      exact .self (q _ ⟨pre, u, ps, as, F, hp, hm, hpre, rfl⟩)
end
end
section

section
variable {c : Cx} {ρ : Loc} {H : Hp} {Q : V → Hp → Prop} {X : XP}
/-- Unpacker._unpack of a map -/
theorem unpack_map (B : Ok c) (hr : 6 ≤ c.rm) (hh : c.A.handled = none) {T : Task} (ok : T.OK) {p m : Nat} {G : Hp} (hH : Rs T p m G H) {u8 : UInt8} (hu8 : T.W[p]? = some u8) {es : List (Str × V)} (hdr : Hdr T p u8.toNat 2 (es.length : Int) (.val .none) (p + 1)) {p' : Nat} (hC : Pairs T (p + 1) es p') (hnd : (es.map (·.1)).Nodup) (hS : p' ≤ T.S) {ex : Int} (hex : ex = 0 ∨ ex = 1)
    (q0 : ex = 0 → ∀ H', Rs T p' p' G H' → Q .none H') (q1 : ex = 1 → ∀ d H', d ≠ sysModules → Rs T p' p' ((d, .dict es) :: G) H' → Q (.ref d) H')
    (xe : ∀ H', Ended T G H' → X (.ref 91) ρ H') (xf : T.M < T.S → ∀ H', Fulls T G H' → X (.ref 79) ρ H') : ClC c (.ref 393) [.ref T.A.a, .int ex] [] ρ H Q X := by
  have hH0 := hH
  obtain ⟨pre, u, ps, as, F, hp, hm, hpre, rfl⟩ := hH0
  have hle := hC.le
  have hvs : es.length < 16 := by have := hdr.n2; omega
  refine' ClC.fn (bs := [("self", .ref T.A.a), ("execute", .int ex)]) (rest := ["typ", "n", "obj", "i", "ret", "pairs", "_", "key", "ts"]) ?ho ?hcd ?hst ?hb (by omega) ?h
  case ho => rw [B.K]; k_is
  case hcd => rw [B.K]; k_is
  case hst => rfl
  case hb =>
    intro z vs ks hv hk; obtain _ | ⟨g1, hv⟩ := hv; obtain _ | ⟨g2, hv⟩ := hv; cases hv; cases hk
    exact ⟨_, fun S => by rw [B.K]; kernel_rfl, .cons g1 (.cons g2 .nil)⟩
  intro c' C
  have B' := B.callee C
  have hh' : c'.A.handled = none := C.handled.trans hh
  have hrm := C.rm
  have e2 : ¬ ex = 2 := by omega
  have e3 : ¬ ex = 3 := by omega
  change Exs c' _ [("self", some (.ref T.A.a)), ("execute", some (.int ex)), ("typ", none), ("n", none), ("obj", none), ("i", none), ("ret", none), ("pairs", none), ("_", none), ("key", none), ("ts", none)] _ _ _
  refine Exs.fit ?_
  with_reducible refine Exs.cons ?_
  refine Ex.assignT hh' (.cons (.cons (.cons .nil))) ?_
  refine Ev.meth ?_
  with_reducible refine Ev.loc mem0 ?_
  refine' ⟨_, _, Mt.inst mem0 (mem1 mem0) (notKey rfl) ?w4_4, Kp.ref ?w5_4, ?wq_4⟩
  case w4_4 => (rw [Ok.K (by assumption)]; refine' methOK_mk ?ka_4 ?kb_4 ?kc_4 ?kd_4; (case kb_4 => k_is); (case ka_4 => k_is); (case kc_4 => k_is); (case kd_4 => k_is))
  case w5_4 => (rw [Ok.K (by assumption)]; k_is)
  with_reducible refine Evs.nil ?_
  with_reducible refine EvK.nil ?_
  refine ⟨[], rfl, rfl, ?_⟩
  refine (read_header B' (by omega) hh' ok hH hu8 hdr (by omega) (by omega) ?_ (fun H' E => ?ae) (fun hM H' E => ?af)).cl
  case ae => exact .self (xe H' E)
  case af => exact .self (xf hM H' E)
  intro w E H' hret R
  cases hret
  rw [List.nil_append]
  refine ⟨_, _, rfl, .cons (by with_reducible exact (Put.tail (Put.tail Put.head))) (.cons (by with_reducible exact (Put.tail (Put.tail (Put.tail Put.head)))) (.cons (by with_reducible exact (Put.tail (Put.tail (Put.tail (Put.tail Put.head))))) .nil)), ?_⟩
  with_reducible refine Then.next ?_
  with_reducible refine Exs.cons ?_
  refine Ex.ite (Tt.tst (v := false) ?_ (ite_f ?_))
  · refine Tt.cmp ?_
    with_reducible refine Ev.loc (mem1 mem0) ?_
    refine Ev.g (by assumption) Gl.g_EX_READ_ARRAY_HEADER (by rw [Callee.scope (by assumption)]; rfl) ?_
    with_reducible refine c_eq ?_
    exact ⟨decide_eq_false e2, rfl⟩
  with_reducible refine Exs.nil ?_
  with_reducible refine Then.next ?_
  with_reducible refine Exs.cons ?_
  refine Ex.ite (Tt.tst (v := false) ?_ (ite_f ?_))
  · refine Tt.cmp ?_
    with_reducible refine Ev.loc (mem1 mem0) ?_
    refine Ev.g (by assumption) Gl.g_EX_READ_MAP_HEADER (by rw [Callee.scope (by assumption)]; rfl) ?_
    with_reducible refine c_eq ?_
    exact ⟨decide_eq_false e3, rfl⟩
  with_reducible refine Exs.nil ?_
  with_reducible refine Then.next ?_
  with_reducible refine Exs.cons ?_
  refine Ex.ite (Tt.tst (v := false) ?_ (ite_f ?_))
  · refine Tt.cmp ?_
    with_reducible refine Ev.loc (mem1 (mem1 mem0)) ?_
    refine Ev.g (by assumption) Gl.g_TYPE_ARRAY (by rw [Callee.scope (by assumption)]; rfl) ?_
    with_reducible refine c_eq ?_
    exact Tst.mk
  with_reducible refine Exs.nil ?_
  with_reducible refine Then.next ?_
  with_reducible refine Exs.cons ?_
  refine Ex.ite (Tt.tst (v := true) ?_ (ite_t ?_))
  · refine Tt.cmp ?_
    with_reducible refine Ev.loc (mem1 (mem1 mem0)) ?_
    refine Ev.g (by assumption) Gl.g_TYPE_MAP (by rw [Callee.scope (by assumption)]; rfl) ?_
    with_reducible refine c_eq ?_
    exact Tst.mk
  with_reducible refine Exs.cons ?_
  refine Ex.ite (Tt.tst (v := decide (ex = 0)) ?_ (ite_d (fun e0 => ?_) (fun e0 => ?_)))
  · refine Tt.cmp ?_
    with_reducible refine Ev.loc (mem1 mem0) ?_
    refine Ev.g (by assumption) Gl.g_EX_SKIP (by rw [Callee.scope (by assumption)]; rfl) ?_
    with_reducible refine c_eq ?_
    exact Tst.mk
  · have q := q0 e0
    with_reducible refine Exs.cons ?_
    refine Ex.for C.own hh' ?_
    refine Ev.call ?_
    refine Ev.g (by assumption) Gl.g_range (by rw [Callee.scope (by assumption)]; rfl) ?_
    with_reducible refine ⟨Kp.ty, ?_⟩
    refine Evs.cons ?_
    with_reducible refine Ev.loc (mem1 (mem1 (mem1 mem0))) ?_
    with_reducible refine Evs.nil ?_
    with_reducible refine EvK.nil ?_
    refine ⟨[], rfl, rfl, ?_⟩
    refine Cl.range ?_
    refine ⟨_, _, fun i ρ' H' => ∃ iv pi, ρ' = ([("self", some (.ref T.A.a)), ("execute", some (.int ex)), ("typ", some (.int 2)), ("n", some (.int es.length)), ("obj", some .none), ("i", iv), ("ret", none), ("pairs", none), ("_", none), ("key", none), ("ts", none)] : Loc) ∧
      Pairs T pi (es.drop i) p' ∧ Rs T pi pi G H', It.range (by decide) (by decide) (by omega) (by omega), ⟨none, p + 1, rfl, hC, R⟩, fun _ _ _ _ => trivial, ?_, ?_⟩
    · intro i v ρ' H1 q' hi ⟨iv, pi, e1, hCi, Ri⟩
      subst e1
      obtain ⟨hlt, rfl⟩ := range_at hi
      have hlt : i < es.length := by omega
      obtain ⟨p1, p2, hL, hL2, hC1⟩ := hCi.inv hlt
      have := hC1.le
      have := hL2.le
      obtain ⟨pre, u, ps, as, F, hp, hm, hpre, rfl⟩ := Ri
      refine put_and (by with_reducible exact (Put.tail (Put.tail (Put.tail (Put.tail (Put.tail Put.head)))))) ?_
      with_reducible refine Exs.cons ?_
      refine Ex.exprS ?_
      refine Ev.meth ?_
      with_reducible refine Ev.loc mem0 ?_
      refine' ⟨_, _, Mt.inst (mem1 mem0) (mem1 (mem1 mem0)) (notKey rfl) ?w4_57, Kp.ref ?w5_57, ?wq_57⟩
      case w4_57 => (rw [Ok.K (by assumption)]; refine' methOK_mk ?ka_57 ?kb_57 ?kc_57 ?kd_57; (case kb_57 => k_is); (case ka_57 => k_is); (case kc_57 => k_is); (case kd_57 => k_is))
      case w5_57 => (rw [Ok.K (by assumption)]; k_is)
      refine Evs.cons ?_
      refine Ev.g (by assumption) Gl.g_EX_SKIP (by rw [Callee.scope (by assumption)]; rfl) ?_
      with_reducible refine Evs.nil ?_
      with_reducible refine EvK.nil ?_
      refine ⟨[], rfl, rfl, ?_⟩
      refine Cl.perm RH.rot ?_
      refine (unpack_leaf B' (by omega) hh' ok (G := q' :: G) ⟨pre, u, ps, as, F, hp, hm, hpre, rfl⟩ hL (by omega) (.inl rfl) ?_ ?_ ?_).cl
      · intro H2 R2
        obtain ⟨pre, u, ps, as, F, hp, hm, hpre, rfl⟩ := R2
        with_reducible refine Then.next ?_
        with_reducible refine Exs.cons ?_
        refine Ex.exprS ?_
        refine Ev.meth ?_
        with_reducible refine Ev.loc mem0 ?_
        refine' ⟨_, _, Mt.inst mem0 (mem1 mem0) (notKey rfl) ?w4_68, Kp.ref ?w5_68, ?wq_68⟩
        case w4_68 => (rw [Ok.K (by assumption)]; refine' methOK_mk ?ka_68 ?kb_68 ?kc_68 ?kd_68; (case kb_68 => k_is); (case ka_68 => k_is); (case kc_68 => k_is); (case kd_68 => k_is))
        case w5_68 => (rw [Ok.K (by assumption)]; k_is)
        refine Evs.cons ?_
        refine Ev.g (by assumption) Gl.g_EX_SKIP (by rw [Callee.scope (by assumption)]; rfl) ?_
        with_reducible refine Evs.nil ?_
        with_reducible refine EvK.nil ?_
        refine ⟨[], rfl, rfl, ?_⟩
        refine (unpack_leaf B' (by omega) hh' ok (G := q' :: G) ⟨pre, u, ps, as, F, hp, hm, hpre, rfl⟩ hL2 (by omega) (.inl rfl) ?_ ?_ ?_).cl
        · intro H2 R2
          obtain ⟨H3, pm, R3⟩ := R2.push
          with_reducible refine Then.next ?_
          with_reducible refine Exs.nil ?_
          exact ⟨H3, pm, _, p2, rfl, hC1, R3⟩
        · intro H2 E2
          obtain ⟨H3, pm, E3⟩ := E2.push
          exact ⟨H3, pm, .self (xe _ E3)⟩
        · intro hM H2 E2
          obtain ⟨H3, pm, E3⟩ := E2.push
          exact ⟨H3, pm, .self (xf hM _ E3)⟩
      · intro H2 E2
        obtain ⟨H3, pm, E3⟩ := E2.push
        exact ⟨H3, pm, .self (xe _ E3)⟩
      · intro hM H2 E2
        obtain ⟨H3, pm, E3⟩ := E2.push
        exact ⟨H3, pm, .self (xf hM _ E3)⟩
    · rintro ρ' H1 ⟨iv, pi, e1, hCi, Ri⟩
      subst e1
      rw [List.length_map, List.length_range, Int.sub_zero, Int.toNat_natCast] at hCi
      obtain rfl := hCi.end
      with_reducible refine Then.next ?_
      with_reducible refine Exs.cons ?_
      with_reducible refine Ex.retNone ?_
      with_reducible refine Then.ret ?_
      with_reducible refine Then.ret ?_
      with_reducible refine Then.ret ?_
      exact .self (q _ Ri)
  · have q := q1 (by omega)
    obtain ⟨pre, u, ps, as, F, hp, hm, hpre, rfl⟩ := R
    with_reducible refine Exs.nil ?_
    with_reducible refine Then.next ?_
    with_reducible refine Exs.cons ?_
    refine Ex.ite (Tt.tst (v := false) ?_ (ite_f ?_))
    · refine Tt.cmp ?_
      refine Ev.attr ?_
      with_reducible refine Ev.loc mem0 ?_
      refine' Do1.is (Is.attr mem0 (mem1 mem0) (mem1 (mem1 (mem1 (mem1 (mem1 (mem1 (mem1 (mem1 (mem1 (mem1 (mem1 (mem1 (mem1 (mem1 mem0)))))))))))))) ?w4_88 rfl) ?wq_88
      case w4_88 => (rw [Ok.K (by assumption)]; refine' attrOK_mk ?ka_88 ?kb_88 ?kc_88 ?kd_88; (case kc_88 => k_is); (case ka_88 => k_is); (case kb_88 => k_is); (case kd_88 => k_is))
      with_reducible refine Ev.none ?_
      with_reducible refine c_notNone ?_
      exact Tst.mk
    with_reducible refine Exs.cons ?_
    refine Ex.assign ?_
    refine' Ev.dictNew (C := 445) ?hC (by decide) fun d hd => ?q
    case hC => rw [B'.K]; k_is
    refine put_and (Put.tail (Put.tail (Put.tail (Put.tail (Put.tail (Put.tail Put.head)))))) ?_
    with_reducible refine Then.next ?_
    with_reducible refine Exs.cons ?_
    have R1 : Rs T (p + 1) (p + 1) ((d, .dict (es.take 0)) :: G) (RH T.A T.R T.M (pre ++ u).toArray ((pre.length + (p + 1) : Nat) : Int) pre.length T.off ps (T.as0 ++ as) ((d, .dict (es.take 0)) :: G)) := ⟨pre, u, ps, as, F, hp, hm, hpre, rfl⟩
    refine Ex.perm RH.rot ?_
    refine Ex.for C.own hh' ?_
    refine Ev.call ?_
    refine Ev.g (by assumption) Gl.g_range (by rw [Callee.scope (by assumption)]; rfl) ?_
    with_reducible refine ⟨Kp.ty, ?_⟩
    refine Evs.cons ?_
    with_reducible refine Ev.loc (mem1 (mem1 (mem1 mem0))) ?_
    with_reducible refine Evs.nil ?_
    with_reducible refine EvK.nil ?_
    refine ⟨[], rfl, rfl, ?_⟩
    refine Cl.range ?_
    refine ⟨_, _, fun i ρ' H' => ∃ iv kv pi, ρ' = ([("self", some (.ref T.A.a)), ("execute", some (.int ex)), ("typ", some (.int 2)), ("n", some (.int es.length)), ("obj", some .none), ("i", none), ("ret", some (.ref d)), ("pairs", none), ("_", iv), ("key", kv), ("ts", none)] : Loc) ∧
      Pairs T pi (es.drop i) p' ∧ Rs T pi pi ((d, .dict (es.take i)) :: G) H', It.range (by decide) (by decide) (by omega) (by omega), ⟨none, none, p + 1, rfl, hC, R1⟩, fun _ _ _ _ => trivial, ?_, ?_⟩
    · intro i v ρ' H1 q' hi ⟨iv, kv, pi, e1, hCi, Ri⟩
      subst e1
      obtain ⟨hlt, rfl⟩ := range_at hi
      have hlt : i < es.length := by omega
      obtain ⟨p1, p2, hL, hL2, hC1⟩ := hCi.inv hlt
      have := hC1.le
      have := hL2.le
      obtain ⟨pre, u, ps, as, F, hp, hm, hpre, rfl⟩ := Ri
      refine put_and (by with_reducible exact (Put.tail (Put.tail (Put.tail (Put.tail (Put.tail (Put.tail (Put.tail (Put.tail Put.head))))))))) ?_
      with_reducible refine Exs.cons ?_
      refine Ex.assign ?_
      refine Ev.meth ?_
      with_reducible refine Ev.loc mem0 ?_
      refine' ⟨_, _, Mt.inst (mem1 mem0) (mem1 (mem1 mem0)) (notKey rfl) ?w4_109, Kp.ref ?w5_109, ?wq_109⟩
      case w4_109 => (rw [Ok.K (by assumption)]; refine' methOK_mk ?ka_109 ?kb_109 ?kc_109 ?kd_109; (case kb_109 => k_is); (case ka_109 => k_is); (case kc_109 => k_is); (case kd_109 => k_is))
      case w5_109 => (rw [Ok.K (by assumption)]; k_is)
      refine Evs.cons ?_
      refine Ev.g (by assumption) Gl.g_EX_CONSTRUCT (by rw [Callee.scope (by assumption)]; rfl) ?_
      with_reducible refine Evs.nil ?_
      with_reducible refine EvK.nil ?_
      refine ⟨[], rfl, rfl, ?_⟩
      refine Cl.perm RH.rot ?_
      refine (unpack_leaf B' (by omega) hh' ok (G := q' :: (d, .dict (es.take i)) :: G) ⟨pre, u, ps, as, F, hp, hm, hpre, rfl⟩ hL (by omega) (.inr rfl) ?_ ?_ ?_).cl
      · intro H2 R2
        obtain ⟨pre, u, ps, as, F, hp, hm, hpre, rfl⟩ := R2
        rw [if_neg (show ¬ (1 : Int) = 0 by decide)]
        refine put_and (Put.tail (Put.tail (Put.tail (Put.tail (Put.tail (Put.tail (Put.tail (Put.tail (Put.tail Put.head))))))))) ?_
        with_reducible refine Then.next ?_
        with_reducible refine Exs.cons ?_
        with_reducible refine Ex.ite ?_
        refine Tt.and3 (Tt.tst (v := true) ?_ ⟨nofun, fun _ => ?_⟩)
        · refine Tt.val ?_
          refine Ev.attr ?_
          with_reducible refine Ev.loc mem0 ?_
          refine' Do1.is (Is.attr mem0 (mem1 mem0) (mem1 (mem1 (mem1 (mem1 (mem1 (mem1 (mem1 (mem1 mem0)))))))) ?w4_121 rfl) ?wq_121
          case w4_121 => (rw [Ok.K (by assumption)]; refine' attrOK_mk ?ka_121 ?kb_121 ?kc_121 ?kd_121; (case kc_121 => k_is); (case ka_121 => k_is); (case kb_121 => k_is); (case kd_121 => k_is))
          with_reducible refine t_bool ?_
          exact Tst.mk
        refine Tt.and (Tt.tst (v := false) ?_ ⟨fun _ => ite_f ?_, nofun⟩)
        · refine Tt.cmp ?_
          refine Ev.call ?_
          refine Ev.g (by assumption) Gl.g_type (by rw [Callee.scope (by assumption)]; rfl) ?_
          with_reducible refine ⟨Kp.ty, ?_⟩
          refine Evs.cons ?_
          with_reducible refine Ev.loc (mem1 (mem1 (mem1 (mem1 (mem1 (mem1 (mem1 (mem1 (mem1 mem0))))))))) ?_
          with_reducible refine Evs.nil ?_
          with_reducible refine EvK.nil ?_
          refine ⟨[], rfl, rfl, ?_⟩
          refine Cl.typeStr ?_
          refine Ev.g (by assumption) Gl.g_str (by rw [Callee.scope (by assumption)]; rfl) ?_
          exact ⟨_, Is.notTySame, Tst.mk⟩
        with_reducible refine Exs.nil ?_
        with_reducible refine Then.next ?_
        with_reducible refine Exs.cons ?_
        refine Ex.setItem ?_
        refine Ev.meth ?_
        with_reducible refine Ev.loc mem0 ?_
        refine' ⟨_, _, Mt.inst mem0 (mem1 mem0) (notKey rfl) ?w4_137, Kp.ref ?w5_137, ?wq_137⟩
        case w4_137 => (rw [Ok.K (by assumption)]; refine' methOK_mk ?ka_137 ?kb_137 ?kc_137 ?kd_137; (case kb_137 => k_is); (case ka_137 => k_is); (case kc_137 => k_is); (case kd_137 => k_is))
        case w5_137 => (rw [Ok.K (by assumption)]; k_is)
        refine Evs.cons ?_
        refine Ev.g (by assumption) Gl.g_EX_CONSTRUCT (by rw [Callee.scope (by assumption)]; rfl) ?_
        with_reducible refine Evs.nil ?_
        with_reducible refine EvK.nil ?_
        refine ⟨[], rfl, rfl, ?_⟩
        refine (unpack_leaf B' (by omega) hh' ok (G := q' :: (d, .dict (es.take i)) :: G) ⟨pre, u, ps, as, F, hp, hm, hpre, rfl⟩ hL2 (by omega) (.inr rfl) ?_ ?_ ?_).cl
        · intro H2 R2
          obtain ⟨pre, u, ps, as, F, hp, hm, hpre, rfl⟩ := R2
          rw [if_neg (show ¬ (1 : Int) = 0 by decide)]
          with_reducible refine Ev.loc (mem1 (mem1 (mem1 (mem1 (mem1 (mem1 mem0)))))) ?_
          with_reducible refine Ev.loc (mem1 (mem1 (mem1 (mem1 (mem1 (mem1 (mem1 (mem1 (mem1 mem0))))))))) ?_
          refine ⟨d, es.take i, es[i].1, _, rfl, rfl, ?_, by rw [List.length_take]; omega, by with_reducible exact (Upd.tail (Upd.tail (Upd.tail (Upd.tail (Upd.tail (Upd.tail (Upd.tail (Upd.tail Upd.head)))))))), ?_⟩
          · intro hmem
            rw [List.map_take] at hmem
            have hnd2 := hnd
            rw [← List.take_append_drop i (es.map (·.1)), List.nodup_append] at hnd2
            refine hnd2.2.2 _ hmem _ ?_ rfl
            rw [List.drop_eq_getElem_cons (by rw [List.length_map]; exact hlt)]
            rw [List.getElem_map]
            exact .head _
          with_reducible refine Then.next ?_
          with_reducible refine Exs.nil ?_
          refine ⟨_, RH.rot.symm, _, _, p2, rfl, hC1, ?_⟩
          rw [take_succ' hlt]
          exact ⟨pre, u, ps, as, F, hp, hm, hpre, rfl⟩
        · intro H2 E2
          obtain ⟨H3, pm, E3⟩ := E2.push
          obtain ⟨H4, pm4, E4⟩ := E3.push
          exact ⟨H3, pm, .mk (G := [(d, _)]) (pm4.trans (List.perm_append_comm (l₁ := [_]))) (xe _ E4)⟩
        · intro hM H2 E2
          obtain ⟨H3, pm, E3⟩ := E2.push
          obtain ⟨H4, pm4, E4⟩ := E3.push
          exact ⟨H3, pm, .mk (G := [(d, _)]) (pm4.trans (List.perm_append_comm (l₁ := [_]))) (xf hM _ E4)⟩
      · intro H2 E2
        obtain ⟨H3, pm, E3⟩ := E2.push
        obtain ⟨H4, pm4, E4⟩ := E3.push
        exact ⟨H3, pm, .mk (G := [(d, _)]) (pm4.trans (List.perm_append_comm (l₁ := [_]))) (xe _ E4)⟩
      · intro hM H2 E2
        obtain ⟨H3, pm, E3⟩ := E2.push
        obtain ⟨H4, pm4, E4⟩ := E3.push
        exact ⟨H3, pm, .mk (G := [(d, _)]) (pm4.trans (List.perm_append_comm (l₁ := [_]))) (xf hM _ E4)⟩
    · rintro ρ' H1 ⟨iv, kv, pi, e1, hCi, Ri⟩
      subst e1
      rw [List.length_map, List.length_range, Int.sub_zero, Int.toNat_natCast] at hCi Ri
      obtain rfl := hCi.end
      rw [List.take_length] at Ri
      have Ri' := Ri
      obtain ⟨pre, u, ps, as, F, hp, hm, hpre, rfl⟩ := Ri
      with_reducible refine Then.next ?_
      with_reducible refine Exs.cons ?_
      refine Ex.ite (Tt.tst (v := false) ?_ (ite_f ?_))
      · refine Tt.cmp ?_
        refine Ev.attr ?_
        with_reducible refine Ev.loc mem0 ?_
        refine' Do1.is (Is.attr mem0 (mem1 mem0) (mem1 (mem1 (mem1 (mem1 (mem1 (mem1 (mem1 (mem1 (mem1 (mem1 (mem1 (mem1 (mem1 mem0))))))))))))) ?w4_153 rfl) ?wq_153
        case w4_153 => (rw [Ok.K (by assumption)]; refine' attrOK_mk ?ka_153 ?kb_153 ?kc_153 ?kd_153; (case kc_153 => k_is); (case ka_153 => k_is); (case kb_153 => k_is); (case kd_153 => k_is))
        with_reducible refine Ev.none ?_
        with_reducible refine c_notNone ?_
        exact Tst.mk
      with_reducible refine Exs.nil ?_
      with_reducible refine Then.next ?_
      with_reducible refine Exs.nil ?_
      with_reducible refine Then.next ?_
      with_reducible refine Exs.cons ?_
      with_reducible refine Ex.ret ?_
      with_reducible refine Ev.loc (mem1 (mem1 (mem1 (mem1 (mem1 (mem1 mem0)))))) ?_
      with_reducible refine Then.ret ?_
      with_reducible refine Then.ret ?_
      exact .self (q d _ hd Ri')
end
end
section

section
variable {c : Cx} {ρ : Loc} {H : Hp} {Q : V → Hp → Prop} {X : XP}
theorem unpack_msg (B : Ok c) (hr : 6 ≤ c.rm) (hh : c.A.handled = none) {T : Task} (ok : T.OK) {p m : Nat} {G : Hp} (hH : Rs T p m G H) {mv : Mv} {p' : Nat} (hM : Msg T p mv p') (hS : p' ≤ T.S) {ex : Int} (hex : ex = 0 ∨ ex = 1)
    (q0 : ex = 0 → ∀ H', Rs T p' p' G H' → Q .none H') (q1 : ex = 1 → ∀ v G' H', Told mv v G G' → Rs T p' p' G' H' → Q v H')
    (xe : ∀ H', Ended T G H' → X (.ref 91) ρ H') (xf : T.M < T.S → ∀ H', Fulls T G H' → X (.ref 79) ρ H') : ClC c (.ref 393) [.ref T.A.a, .int ex] [] ρ H Q X := by
  cases hM with
  | lf h =>
    refine unpack_leaf B (by omega) hh ok hH h hS hex (fun H' R => ?_) xe xf
    rcases hex with rfl | rfl
    · exact q0 rfl _ R
    · exact q1 rfl _ _ _ .one R
  | arr h1 h2 h3 =>
    refine unpack_arr B (by omega) hh ok hH h1 h2 h3 hS hex (fun H' R => ?_) xe xf
    rcases hex with rfl | rfl
    · exact q0 rfl _ R
    · exact q1 rfl _ _ _ .one R
  | map h1 h2 h3 h4 => exact unpack_map B (by omega) hh ok hH h1 h2 h3 h4 hS hex (fun e H' R => q0 e _ R) (fun e d H' hd R => q1 e _ _ _ (.map hd) R) xe xf
/-- Unpacker._consume -/
theorem consume (B : Ok c) (hr : 1 ≤ c.rm) {A : RA} {R M i k off : Int} {b : Array UInt8} {ps : List (Array UInt8)} {as : List Int} {G : Hp} (q : Q .none (RH A R M b i i (off + (i - k)) ps as G)) : ClC c (.ref 341) [.ref A.a] [] ρ (RH A R M b i k off ps as G) Q X := by
  refine' ClC.fn (bs := [("self", .ref A.a)]) (rest := []) ?ho ?hcd ?hst ?hb (by omega) ?h
  case ho => rw [B.K]; k_is
  case hcd => rw [B.K]; k_is
  case hst => rfl
  case hb =>
    intro z vs ks hv hk; obtain _ | ⟨g1, hv⟩ := hv; cases hv; cases hk
    exact ⟨_, fun S => by kernel_rfl, .cons g1 .nil⟩
  intro c' C
  have B' := B.callee C
  change Exs c' _ [("self", some (.ref A.a))] _ _ _
  with_reducible refine Exs.cons ?_
  refine Ex.augAttr ?_
  with_reducible refine Ev.loc mem0 ?_
  refine' aug_and (Is.attr mem0 (mem1 mem0) (mem1 (mem1 (mem1 (mem1 (mem1 (mem1 (mem1 (mem1 (mem1 (mem1 (mem1 (mem1 (mem1 (mem1 (mem1 (mem1 (mem1 (mem1 (mem1 (mem1 (mem1 mem0))))))))))))))))))))) ?w4_4 rfl) ?wq_4
  case w4_4 => (rw [Ok.K (by assumption)]; refine' attrOK_mk ?ka_4 ?kb_4 ?kc_4 ?kd_4; (case kc_4 => k_is); (case ka_4 => k_is); (case kb_4 => k_is); (case kd_4 => k_is))
  with_reducible refine Ev.bin ?_
  refine Ev.attr ?_
  with_reducible refine Ev.loc mem0 ?_
  refine' Do1.is (Is.attr mem0 (mem1 mem0) (mem1 (mem1 (mem1 mem0))) ?w4_8 rfl) ?wq_8
  case w4_8 => (rw [Ok.K (by assumption)]; refine' attrOK_mk ?ka_8 ?kb_8 ?kc_8 ?kd_8; (case kc_8 => k_is); (case ka_8 => k_is); (case kb_8 => k_is); (case kd_8 => k_is))
  refine Ev.attr ?_
  with_reducible refine Ev.loc mem0 ?_
  refine' Do1.is (Is.attr mem0 (mem1 mem0) (mem1 (mem1 (mem1 (mem1 mem0)))) ?w4_11 rfl) ?wq_11
  case w4_11 => (rw [Ok.K (by assumption)]; refine' attrOK_mk ?ka_11 ?kb_11 ?kc_11 ?kd_11; (case kc_11 => k_is); (case ka_11 => k_is); (case kb_11 => k_is); (case kd_11 => k_is))
  with_reducible refine d_sub ?_
  with_reducible refine d_iadd ?_
  refine' set_and2 mem0 (Upd.tail Upd.head) (DSet.put (DPut.tail (DPut.tail (DPut.tail (DPut.tail (DPut.tail (DPut.tail (DPut.tail (DPut.tail (DPut.tail (DPut.tail (DPut.tail (DPut.tail (DPut.tail (DPut.tail (DPut.tail (DPut.tail (DPut.tail (DPut.tail (DPut.tail (DPut.tail (DPut.tail DPut.head)))))))))))))))))))))) ?w4_14 (Nat.le_of_ble_eq_true rfl) ?wq_14
  case w4_14 => (rw [Ok.K (by assumption)]; refine' setOK_mk ?ka_14 ?kb_14 ?kc_14 ?kd_14; (case kc_14 => k_is); (case ka_14 => k_is); (case kb_14 => k_is); (case kd_14 => k_is))
  with_reducible refine Then.next ?_
  with_reducible refine Exs.cons ?_
  refine Ex.setAttr ?_
  refine Ev.attr ?_
  with_reducible refine Ev.loc mem0 ?_
  refine' Do1.is (Is.attr mem0 (mem1 mem0) (mem1 (mem1 (mem1 mem0))) ?w4_20 rfl) ?wq_20
  case w4_20 => (rw [Ok.K (by assumption)]; refine' attrOK_mk ?ka_20 ?kb_20 ?kc_20 ?kd_20; (case kc_20 => k_is); (case ka_20 => k_is); (case kb_20 => k_is); (case kd_20 => k_is))
  with_reducible refine Ev.loc mem0 ?_
  refine' set_and mem0 (Upd.tail Upd.head) (DSet.put (DPut.tail (DPut.tail (DPut.tail (DPut.tail DPut.head))))) ?w4_22 (Nat.le_of_ble_eq_true rfl) ?wq_22
  case w4_22 => (rw [Ok.K (by assumption)]; refine' setOK_mk ?ka_22 ?kb_22 ?kc_22 ?kd_22; (case kc_22 => k_is); (case ka_22 => k_is); (case kb_22 => k_is); (case kd_22 => k_is))
  with_reducible refine Then.next ?_
  with_reducible refine Exs.nil ?_
  exact q
/-- Unpacker.tell -/
theorem tell (B : Ok c) (hr : 1 ≤ c.rm) {A : RA} {R M i k off : Int} {b : Array UInt8} {ps : List (Array UInt8)} {as : List Int} {G : Hp} (q : Q (.int off) (RH A R M b i k off ps as G)) : ClC c (.ref 442) [.ref A.a] [] ρ (RH A R M b i k off ps as G) Q X := by
  refine' ClC.fn (bs := [("self", .ref A.a)]) (rest := []) ?ho ?hcd ?hst ?hb (by omega) ?h
  case ho => rw [B.K]; k_is
  case hcd => rw [B.K]; k_is
  case hst => rfl
  case hb =>
    intro z vs ks hv hk; obtain _ | ⟨g1, hv⟩ := hv; cases hv; cases hk
    exact ⟨_, fun S => by kernel_rfl, .cons g1 .nil⟩
  intro c' C
  have B' := B.callee C
  change Exs c' _ [("self", some (.ref A.a))] _ _ _
  with_reducible refine Exs.cons ?_
  with_reducible refine Ex.ret ?_
  refine Ev.attr ?_
  with_reducible refine Ev.loc mem0 ?_
  refine' Do1.is (Is.attr mem0 (mem1 mem0) (mem1 (mem1 (mem1 (mem1 (mem1 (mem1 (mem1 (mem1 (mem1 (mem1 (mem1 (mem1 (mem1 (mem1 (mem1 (mem1 (mem1 (mem1 (mem1 (mem1 (mem1 mem0))))))))))))))))))))) ?w4_29 rfl) ?wq_29
  case w4_29 => (rw [Ok.K (by assumption)]; refine' attrOK_mk ?ka_29 ?kb_29 ?kc_29 ?kd_29; (case kc_29 => k_is); (case ka_29 => k_is); (case kb_29 => k_is); (case kd_29 => k_is))
  with_reducible refine Then.ret ?_
  exact q
/-- Unpacker.__iter__ -/
theorem iter (B : Ok c) (hr : 1 ≤ c.rm) {a : Addr} (q : Q (.ref a) H) : ClC c (.ref 400) [.ref a] [] ρ H Q X := by
  refine' ClC.fn (bs := [("self", .ref a)]) (rest := []) ?ho ?hcd ?hst ?hb (by omega) ?h
  case ho => rw [B.K]; k_is
  case hcd => rw [B.K]; k_is
  case hst => rfl
  case hb =>
    intro z vs ks hv hk; obtain _ | ⟨g1, hv⟩ := hv; cases hv; cases hk
    exact ⟨_, fun S => by kernel_rfl, .cons g1 .nil⟩
  intro c' C
  have B' := B.callee C
  change Exs c' _ [("self", some (.ref a))] _ _ _
  with_reducible refine Exs.cons ?_
  with_reducible refine Ex.ret ?_
  with_reducible refine Ev.loc mem0 ?_
  with_reducible refine Then.ret ?_
  exact q
/-- Unpacker.feed of a reader with a file -/
theorem feed (B : Ok c) (hr : 1 ≤ c.rm) (hh : c.A.handled = none) {A : RA} {R M i k off : Int} {b x : Array UInt8} {ps : List (Array UInt8)} {as : List Int} {G : Hp} (q : X (.type "AssertionError") ρ (RH A R M b i k off ps as G)) : ClC c (.ref 334) [.ref A.a, .bytes x] [] ρ (RH A R M b i k off ps as G) Q X := by
  refine' ClC.fn (bs := [("self", .ref A.a), ("next_bytes", .bytes x)]) (rest := ["view"]) ?ho ?hcd ?hst ?hb (by omega) ?h
  case ho => rw [B.K]; k_is
  case hcd => rw [B.K]; k_is
  case hst => rfl
  case hb =>
    intro z vs ks hv hk; obtain _ | ⟨g1, hv⟩ := hv; obtain _ | ⟨g2, hv⟩ := hv; cases hv; cases hk
    exact ⟨_, fun S => by kernel_rfl, .cons g1 (.cons g2 .nil)⟩
  intro c' C
  have B' := B.callee C
  have hh' : c'.A.handled = none := C.handled.trans hh
  change Exs c' _ [("self", some (.ref A.a)), ("next_bytes", some (.bytes x)), ("view", none)] _ _ _
  with_reducible refine Exs.cons ?_
  refine Ex.assert hh' (Tt.tst (v := false) ?_ ⟨nofun, fun _ => q⟩)
  refine Tt.val ?_
  refine Ev.attr ?_
  with_reducible refine Ev.loc mem0 ?_
  refine' Do1.is (Is.attr mem0 (mem1 mem0) (mem1 mem0) ?w4_38 rfl) ?wq_38
  case w4_38 => (rw [Ok.K (by assumption)]; refine' attrOK_mk ?ka_38 ?kb_38 ?kc_38 ?kd_38; (case kc_38 => k_is); (case ka_38 => k_is); (case kb_38 => k_is); (case kd_38 => k_is))
  with_reducible refine t_bool ?_
  exact Tst.mk
/-- Unpacker.unpack -/
theorem unpack (B : Ok c) (hr : 7 ≤ c.rm) (hh : c.A.handled = none) {T : Task} (ok : T.OK) {G : Hp} (hH : Idl T G H) {mv : Mv} (hM : Msg T 0 mv T.S)
    (q : ∀ v G' H', Told mv v G G' → Fin T G' H' → Q v H')
    (xe : ∀ H', Ended T G H' → X (.ref 91) ρ H') (xf : T.M < T.S → ∀ H', Fulls T G H' → X (.ref 79) ρ H') : ClC c (.ref 421) [.ref T.A.a] [] ρ H Q X := by
  have hH0 := hH
  obtain ⟨pre, hpre, rfl⟩ := hH0
  refine' ClC.fn (bs := [("self", .ref T.A.a)]) (rest := ["ret"]) ?ho ?hcd ?hst ?hb (by omega) ?h
  case ho => rw [B.K]; k_is
  case hcd => rw [B.K]; k_is
  case hst => rfl
  case hb =>
    intro z vs ks hv hk; obtain _ | ⟨g1, hv⟩ := hv; cases hv; cases hk
    exact ⟨_, fun S => by kernel_rfl, .cons g1 .nil⟩
  intro c' C
  have B' := B.callee C
  have hh' : c'.A.handled = none := C.handled.trans hh
  have hrm := C.rm
  change Exs c' _ [("self", some (.ref T.A.a)), ("ret", none)] _ _ _
  with_reducible refine Exs.cons ?_
  refine Ex.try C.own ?_
  with_reducible refine Exs.cons ?_
  refine Ex.assign ?_
  refine Ev.meth ?_
  with_reducible refine Ev.loc mem0 ?_
  refine' ⟨_, _, Mt.inst mem0 (mem1 mem0) (notKey rfl) ?w4_45, Kp.ref ?w5_45, ?wq_45⟩
  case w4_45 => (rw [Ok.K (by assumption)]; refine' methOK_mk ?ka_45 ?kb_45 ?kc_45 ?kd_45; (case kb_45 => k_is); (case ka_45 => k_is); (case kc_45 => k_is); (case kd_45 => k_is))
  case w5_45 => (rw [Ok.K (by assumption)]; k_is)
  refine Evs.cons ?_
  refine Ev.g (by assumption) Gl.g_EX_CONSTRUCT (by rw [Callee.scope (by assumption)]; rfl) ?_
  with_reducible refine Evs.nil ?_
  with_reducible refine EvK.nil ?_
  refine ⟨[], rfl, rfl, ?_⟩
  refine (unpack_msg B' (by omega) hh' ok hH.rs hM (Nat.le_refl _) (.inr rfl) nofun ?_ ?_ ?_).cl
  · intro _ v G' H' told R
    obtain ⟨pre, u, ps, as, F, hp, hm, hpre, rfl⟩ := R
    refine put_and (Put.tail Put.head) ?_
    with_reducible refine Then.next ?_
    with_reducible refine Exs.nil ?_
    with_reducible refine Then.next ?_
    with_reducible refine Exs.cons ?_
    refine Ex.exprS ?_
    refine Ev.meth ?_
    with_reducible refine Ev.loc mem0 ?_
    refine' ⟨_, _, Mt.inst mem0 (mem1 mem0) (notKey rfl) ?w4_59, Kp.ref ?w5_59, ?wq_59⟩
    case w4_59 => (rw [Ok.K (by assumption)]; refine' methOK_mk ?ka_59 ?kb_59 ?kc_59 ?kd_59; (case kb_59 => k_is); (case ka_59 => k_is); (case kc_59 => k_is); (case kd_59 => k_is))
    case w5_59 => (rw [Ok.K (by assumption)]; k_is)
    with_reducible refine Evs.nil ?_
    with_reducible refine EvK.nil ?_
    refine ⟨[], rfl, rfl, ?_⟩
    refine (consume B' (by omega) ?_).cl
    with_reducible refine Then.next ?_
    with_reducible refine Exs.cons ?_
    with_reducible refine Ex.ret ?_
    with_reducible refine Ev.loc (mem1 mem0) ?_
    with_reducible refine Then.ret ?_
    exact q v G' _ told (fin_of F hp hpre)
  · intro H' E
    exact Hnd.skip (by rw [B'.gl]; exact Gl.g_RecursionError) (by rw [C.scope]; rfl) rfl (by rw [B'.K]; kts_exm) (xe _ E)
  · intro hM H' E
    exact Hnd.skip (by rw [B'.gl]; exact Gl.g_RecursionError) (by rw [C.scope]; rfl) rfl (by rw [B'.K]; kts_exm) (xf hM _ E)
/-- Unpacker.skip -/
theorem skip (B : Ok c) (hr : 7 ≤ c.rm) (hh : c.A.handled = none) {T : Task} (ok : T.OK) {G : Hp} (hH : Idl T G H) {mv : Mv} (hM : Msg T 0 mv T.S)
    (q : ∀ H', Fin T G H' → Q .none H')
    (xe : ∀ H', Ended T G H' → X (.ref 91) ρ H') (xf : T.M < T.S → ∀ H', Fulls T G H' → X (.ref 79) ρ H') : ClC c (.ref 414) [.ref T.A.a] [] ρ H Q X := by
  have hH0 := hH
  obtain ⟨pre, hpre, rfl⟩ := hH0
  refine' ClC.fn (bs := [("self", .ref T.A.a)]) (rest := []) ?ho ?hcd ?hst ?hb (by omega) ?h
  case ho => rw [B.K]; k_is
  case hcd => rw [B.K]; k_is
  case hst => rfl
  case hb =>
    intro z vs ks hv hk; obtain _ | ⟨g1, hv⟩ := hv; cases hv; cases hk
    exact ⟨_, fun S => by kernel_rfl, .cons g1 .nil⟩
  intro c' C
  have B' := B.callee C
  have hh' : c'.A.handled = none := C.handled.trans hh
  have hrm := C.rm
  change Exs c' _ [("self", some (.ref T.A.a))] _ _ _
  with_reducible refine Exs.cons ?_
  refine Ex.try C.own ?_
  with_reducible refine Exs.cons ?_
  refine Ex.exprS ?_
  refine Ev.meth ?_
  with_reducible refine Ev.loc mem0 ?_
  refine' ⟨_, _, Mt.inst mem0 (mem1 mem0) (notKey rfl) ?w4_73, Kp.ref ?w5_73, ?wq_73⟩
  case w4_73 => (rw [Ok.K (by assumption)]; refine' methOK_mk ?ka_73 ?kb_73 ?kc_73 ?kd_73; (case kb_73 => k_is); (case ka_73 => k_is); (case kc_73 => k_is); (case kd_73 => k_is))
  case w5_73 => (rw [Ok.K (by assumption)]; k_is)
  refine Evs.cons ?_
  refine Ev.g (by assumption) Gl.g_EX_SKIP (by rw [Callee.scope (by assumption)]; rfl) ?_
  with_reducible refine Evs.nil ?_
  with_reducible refine EvK.nil ?_
  refine ⟨[], rfl, rfl, ?_⟩
  refine (unpack_msg B' (by omega) hh' ok hH.rs hM (Nat.le_refl _) (.inl rfl) ?_ nofun ?_ ?_).cl
  · intro _ H' R
    obtain ⟨pre, u, ps, as, F, hp, hm, hpre, rfl⟩ := R
    with_reducible refine Then.next ?_
    with_reducible refine Exs.nil ?_
    with_reducible refine Then.next ?_
    with_reducible refine Exs.cons ?_
    refine Ex.exprS ?_
    refine Ev.meth ?_
    with_reducible refine Ev.loc mem0 ?_
    refine' ⟨_, _, Mt.inst mem0 (mem1 mem0) (notKey rfl) ?w4_86, Kp.ref ?w5_86, ?wq_86⟩
    case w4_86 => (rw [Ok.K (by assumption)]; refine' methOK_mk ?ka_86 ?kb_86 ?kc_86 ?kd_86; (case kb_86 => k_is); (case ka_86 => k_is); (case kc_86 => k_is); (case kd_86 => k_is))
    case w5_86 => (rw [Ok.K (by assumption)]; k_is)
    with_reducible refine Evs.nil ?_
    with_reducible refine EvK.nil ?_
    refine ⟨[], rfl, rfl, ?_⟩
    refine (consume B' (by omega) ?_).cl
    with_reducible refine Then.next ?_
    with_reducible refine Exs.nil ?_
    exact q _ (fin_of F hp hpre)
  · intro H' E
    exact Hnd.skip (by rw [B'.gl]; exact Gl.g_RecursionError) (by rw [C.scope]; rfl) rfl (by rw [B'.K]; kts_exm) (xe _ E)
  · intro hM H' E
    exact Hnd.skip (by rw [B'.gl]; exact Gl.g_RecursionError) (by rw [C.scope]; rfl) rfl (by rw [B'.K]; kts_exm) (xf hM _ E)
end
end
section

section
variable {c : Cx} {ρ : Loc} {H : Hp} {Q : V → Hp → Prop} {X : XP}
/-- Unpacker.__next__ -/
theorem next (B : Ok c) (hr : 7 ≤ c.rm) (hh : c.A.handled = none) {T : Task} (ok : T.OK) {G : Hp} (hH : Idl T G H) {mv : Mv} (hM : Msg T 0 mv T.S)
    (q : ∀ v G' H', Told mv v G G' → Fin T G' H' → Q v H')
    (xe : ∀ H', Ended T G H' → X (.type "StopIteration") ρ H') (xf : T.M < T.S → ∀ H', Fulls T G H' → X (.ref 79) ρ H') : ClC c (.ref 407) [.ref T.A.a] [] ρ H Q X := by
  have hH0 := hH
  obtain ⟨pre, hpre, rfl⟩ := hH0
  refine' ClC.fn (bs := [("self", .ref T.A.a)]) (rest := ["ret"]) ?ho ?hcd ?hst ?hb (by omega) ?h
  case ho => rw [B.K]; k_is
  case hcd => rw [B.K]; k_is
  case hst => rfl
  case hb =>
    intro z vs ks hv hk; obtain _ | ⟨g1, hv⟩ := hv; cases hv; cases hk
    exact ⟨_, fun S => by kernel_rfl, .cons g1 .nil⟩
  intro c' C
  have B' := B.callee C
  have hh' : c'.A.handled = none := C.handled.trans hh
  have hrm := C.rm
  change Exs c' _ [("self", some (.ref T.A.a)), ("ret", none)] _ _ _
  with_reducible refine Exs.cons ?_
  refine Ex.try C.own ?_
  with_reducible refine Exs.cons ?_
  refine Ex.assign ?_
  refine Ev.meth ?_
  with_reducible refine Ev.loc mem0 ?_
  refine' ⟨_, _, Mt.inst mem0 (mem1 mem0) (notKey rfl) ?w4_6, Kp.ref ?w5_6, ?wq_6⟩
  case w4_6 => (rw [Ok.K (by assumption)]; refine' methOK_mk ?ka_6 ?kb_6 ?kc_6 ?kd_6; (case kb_6 => k_is); (case ka_6 => k_is); (case kc_6 => k_is); (case kd_6 => k_is))
  case w5_6 => (rw [Ok.K (by assumption)]; k_is)
  refine Evs.cons ?_
  refine Ev.g (by assumption) Gl.g_EX_CONSTRUCT (by rw [Callee.scope (by assumption)]; rfl) ?_
  with_reducible refine Evs.nil ?_
  with_reducible refine EvK.nil ?_
  refine ⟨[], rfl, rfl, ?_⟩
  refine (unpack_msg B' (by omega) hh' ok hH.rs hM (Nat.le_refl _) (.inr rfl) nofun ?_ ?_ ?_).cl
  · intro _ v G' H' told R
    obtain ⟨pre, u, ps, as, F, hp, hm, hpre, rfl⟩ := R
    refine put_and (Put.tail Put.head) ?_
    with_reducible refine Then.next ?_
    with_reducible refine Exs.cons ?_
    refine Ex.exprS ?_
    refine Ev.meth ?_
    with_reducible refine Ev.loc mem0 ?_
    refine' ⟨_, _, Mt.inst mem0 (mem1 mem0) (notKey rfl) ?w4_18, Kp.ref ?w5_18, ?wq_18⟩
    case w4_18 => (rw [Ok.K (by assumption)]; refine' methOK_mk ?ka_18 ?kb_18 ?kc_18 ?kd_18; (case kb_18 => k_is); (case ka_18 => k_is); (case kc_18 => k_is); (case kd_18 => k_is))
    case w5_18 => (rw [Ok.K (by assumption)]; k_is)
    with_reducible refine Evs.nil ?_
    with_reducible refine EvK.nil ?_
    refine ⟨[], rfl, rfl, ?_⟩
    refine (consume B' (by omega) ?_).cl
    with_reducible refine Then.next ?_
    with_reducible refine Exs.cons ?_
    with_reducible refine Ex.ret ?_
    with_reducible refine Ev.loc (mem1 mem0) ?_
    with_reducible refine Then.ret ?_
    with_reducible refine Then.ret ?_
    exact q v G' _ told (fin_of F hp hpre)
  · intro H' E
    obtain ⟨u, as, F, rfl⟩ := E
    refine Hnd.hit (by rw [B'.gl]; exact Gl.g_OutOfData) (by rw [C.scope]; rfl) rfl (by rw [B'.K]; kts_exm) nofun fun e => ?_
    have Bm : Ok (c'.mk' e) := ⟨B'.K, B'.gl⟩
    have hsc : ScIs (c'.mk' e) _ := ⟨C.scope⟩
    have hrm' : (c'.mk' e).rm = c'.rm := rfl
    clear B B' C
    with_reducible refine Exs.cons ?_
    refine Ex.exprS ?_
    refine Ev.meth ?_
    with_reducible refine Ev.loc mem0 ?_
    refine' ⟨_, _, Mt.inst (mem1 mem0) (mem1 (mem1 mem0)) (notKey rfl) ?w4_32, Kp.ref ?w5_32, ?wq_32⟩
    case w4_32 => (rw [Ok.K (by assumption)]; refine' methOK_mk ?ka_32 ?kb_32 ?kc_32 ?kd_32; (case kb_32 => k_is); (case ka_32 => k_is); (case kc_32 => k_is); (case kd_32 => k_is))
    case w5_32 => (rw [Ok.K (by assumption)]; k_is)
    with_reducible refine Evs.nil ?_
    with_reducible refine EvK.nil ?_
    refine ⟨[], rfl, rfl, ?_⟩
    refine Cl.perm RH.rot ?_
    refine (consume Bm (by omega) ?_).cl
    with_reducible refine Then.next ?_
    with_reducible refine Exs.cons ?_
    refine Ex.raiseO ?_
    refine Ev.g (by assumption) Gl.g_StopIteration (by rw [ScIs.eq (by assumption)]; rfl) ?_
    exact ⟨_, rfl, fun _ => excC_stop, .inr ⟨e, rfl, by (with_reducible refine mem1 ?_; with_reducible refine mem1 ?_; with_reducible refine mem1 ?_; with_reducible refine mem1 ?_; with_reducible refine mem1 ?_; with_reducible refine mem1 ?_; with_reducible refine mem1 ?_; with_reducible exact mem0), rfl⟩, _, RH.rot.symm, xe _ (.cons F)⟩
  · intro hM H' E
    exact Hnd.skip (by rw [B'.gl]; exact Gl.g_OutOfData) (by rw [C.scope]; rfl) rfl (by rw [B'.K]; kts_exm) (Hnd.skip (by rw [B'.gl]; exact Gl.g_RecursionError) (by rw [C.scope]; rfl) rfl (by rw [B'.K]; kts_exm) (xf hM _ E))
/-- Unpacker.read_bytes -/
theorem read_bytes (B : Ok c) (hr : 4 ≤ c.rm) (hh : c.A.handled = none) {T : Task} (ok : T.OK) {G : Hp} (hH : Idl T G H)
    (q : ∀ H', Fin T G H' → Q (.bytes (T.W.take T.S).toArray) H')
    (qe : ∀ u as H', Frug T.R T.B T.u0 T.ps0 as u [] true → Idle T.A T.R T.M (T.off + u.length) [] [] (T.as0 ++ as) G H' → Q (.bytes u.toArray) H')
    (xf : T.M < T.S → ∀ H', Fulls T G H' → X (.ref 79) ρ H') : ClC c (.ref 362) [.ref T.A.a, .int T.S] [] ρ H Q X := by
  have hH0 := hH
  obtain ⟨pre, hpre, rfl⟩ := hH0
  refine' ClC.fn (bs := [("self", .ref T.A.a), ("n", .int T.S)]) (rest := ["ret"]) ?ho ?hcd ?hst ?hb (by omega) ?h
  case ho => rw [B.K]; k_is
  case hcd => rw [B.K]; k_is
  case hst => rfl
  case hb =>
    intro z vs ks hv hk; obtain _ | ⟨g1, hv⟩ := hv; obtain _ | ⟨g2, hv⟩ := hv; cases hv; cases hk
    exact ⟨_, fun S => by kernel_rfl, .cons g1 (.cons g2 .nil)⟩
  intro c' C
  have B' := B.callee C
  have hh' : c'.A.handled = none := C.handled.trans hh
  have hrm := C.rm
  have hS1 := ok.S1
  change Exs c' _ [("self", some (.ref T.A.a)), ("n", some (.int T.S)), ("ret", none)] _ _ _
  refine Exs.fit ?_
  with_reducible refine Exs.cons ?_
  refine Ex.assign ?_
  refine Ev.meth ?_
  with_reducible refine Ev.loc mem0 ?_
  refine' ⟨_, _, Mt.inst mem0 (mem1 mem0) (notKey rfl) ?w4_44, Kp.ref ?w5_44, ?wq_44⟩
  case w4_44 => (rw [Ok.K (by assumption)]; refine' methOK_mk ?ka_44 ?kb_44 ?kc_44 ?kd_44; (case kb_44 => k_is); (case ka_44 => k_is); (case kc_44 => k_is); (case kd_44 => k_is))
  case w5_44 => (rw [Ok.K (by assumption)]; k_is)
  refine Evs.cons ?_
  with_reducible refine Ev.loc (mem1 mem0) ?_
  with_reducible refine Evs.nil ?_
  with_reducible refine EvK.cons ?_
  with_reducible refine Ev.bool ?_
  with_reducible refine EvK.nil ?_
  refine ⟨([("raise_outofdata", .bool false)] : List (Str × V)), rfl, rfl, ?_⟩
  refine (Mine.read B' (by omega) hh' ok hH.rs (n := T.S) (by omega) (.inl rfl) ?_ ?_ nofun ?_).cl
  · intro a' H' R
    rw [Nat.zero_add, List.drop_zero] at *
    obtain ⟨pre, u, ps, as, F, hp, hm, hpre, rfl⟩ := R
    refine put_and (Put.tail (Put.tail Put.head)) ?_
    with_reducible refine Then.next ?_
    with_reducible refine Exs.cons ?_
    refine Ex.exprS ?_
    refine Ev.meth ?_
    with_reducible refine Ev.loc mem0 ?_
    refine' ⟨_, _, Mt.inst (mem1 mem0) (mem1 (mem1 mem0)) (notKey rfl) ?w4_57, Kp.ref ?w5_57, ?wq_57⟩
    case w4_57 => (rw [Ok.K (by assumption)]; refine' methOK_mk ?ka_57 ?kb_57 ?kc_57 ?kd_57; (case kb_57 => k_is); (case ka_57 => k_is); (case kc_57 => k_is); (case kd_57 => k_is))
    case w5_57 => (rw [Ok.K (by assumption)]; k_is)
    with_reducible refine Evs.nil ?_
    with_reducible refine EvK.nil ?_
    refine ⟨[], rfl, rfl, ?_⟩
    refine Cl.perm RH.rot ?_
    refine (consume B' (by omega) ?_).cl
    with_reducible refine Then.next ?_
    with_reducible refine Exs.cons ?_
    with_reducible refine Ex.ret ?_
    refine Ev.call ?_
    refine Ev.g (by assumption) Gl.g_bytes (by rw [Callee.scope (by assumption)]; rfl) ?_
    with_reducible refine ⟨Kp.ty, ?_⟩
    refine Evs.cons ?_
    with_reducible refine Ev.loc (mem1 (mem1 mem0)) ?_
    with_reducible refine Evs.nil ?_
    with_reducible refine EvK.nil ?_
    refine ⟨[], rfl, rfl, ?_⟩
    refine Cl.bytesBa (by (with_reducible refine mem1 ?_; with_reducible refine mem1 ?_; with_reducible refine mem1 ?_; with_reducible refine mem1 ?_; with_reducible refine mem1 ?_; with_reducible refine mem1 ?_; with_reducible refine mem1 ?_; with_reducible exact mem0)) (by rw [List.size_toArray, List.length_take]; omega) ?_
    with_reducible refine Then.ret ?_
    exact .mk (G := [_]) (RH.rot.symm.trans (List.perm_append_comm (l₁ := [_]))) (q _ (fin_of F hp hpre))
  · rintro - a' u as F hp hu
    rw [List.drop_zero]
    refine put_and (Put.tail (Put.tail Put.head)) ?_
    with_reducible refine Then.next ?_
    with_reducible refine Exs.cons ?_
    refine Ex.exprS ?_
    refine Ev.meth ?_
    with_reducible refine Ev.loc mem0 ?_
    refine' ⟨_, _, Mt.inst (mem1 mem0) (mem1 (mem1 mem0)) (notKey rfl) ?w4_80, Kp.ref ?w5_80, ?wq_80⟩
    case w4_80 => (rw [Ok.K (by assumption)]; refine' methOK_mk ?ka_80 ?kb_80 ?kc_80 ?kd_80; (case kb_80 => k_is); (case ka_80 => k_is); (case kc_80 => k_is); (case kd_80 => k_is))
    case w5_80 => (rw [Ok.K (by assumption)]; k_is)
    with_reducible refine Evs.nil ?_
    with_reducible refine EvK.nil ?_
    refine ⟨[], rfl, rfl, ?_⟩
    refine Cl.perm RH.rot ?_
    refine (consume B' (by omega) ?_).cl
    with_reducible refine Then.next ?_
    with_reducible refine Exs.cons ?_
    with_reducible refine Ex.ret ?_
    refine Ev.call ?_
    refine Ev.g (by assumption) Gl.g_bytes (by rw [Callee.scope (by assumption)]; rfl) ?_
    with_reducible refine ⟨Kp.ty, ?_⟩
    refine Evs.cons ?_
    with_reducible refine Ev.loc (mem1 (mem1 mem0)) ?_
    with_reducible refine Evs.nil ?_
    with_reducible refine EvK.nil ?_
    refine ⟨[], rfl, rfl, ?_⟩
    refine Cl.bytesBa (by (with_reducible refine mem1 ?_; with_reducible refine mem1 ?_; with_reducible refine mem1 ?_; with_reducible refine mem1 ?_; with_reducible refine mem1 ?_; with_reducible refine mem1 ?_; with_reducible refine mem1 ?_; with_reducible exact mem0)) (by rw [List.size_toArray]; omega) ?_
    with_reducible refine Then.ret ?_
    exact .mk (G := [_]) (RH.rot.symm.trans (List.perm_append_comm (l₁ := [_]))) (qe u as _ F fin_short)
  · intro hM H' E
    exact .self (xf hM _ E)
end
end
section

section
variable {c : Cx} {ρ : Loc} {H : Hp} {Q : V → Hp → Prop} {X : XP}
theorem isi_no {c : Cx} {ρ : Loc} {H : Hp} {X : XP} {Q : V → Hp → Prop} {v : V} {T U : String} (B : Ok c) (h : TyV v T) (h1 : (Value.type T == Value.type U) = false) (h2 : kitMeta U = true) (h3 : subIn (hd.heap_39 c.w.params) (.type T) (.type U) = some false) (q : Q (.bool false) H) : Cl c (.bi "isinstance") [v, .ty U] [] ρ H Q X :=
  Cl.isi h (kit_no (b := false) h1 h2 fun _ => by rw [B.K]; exact h3) q
theorem isi_yes {c : Cx} {ρ : Loc} {H : Hp} {X : XP} {Q : V → Hp → Prop} {v : V} {T : String} (h : TyV v T) (h2 : kitMeta T = true) (q : Q (.bool true) H) : Cl c (.bi "isinstance") [v, .ty T] [] ρ H Q X :=
  Cl.isi h (kit_no (b := true) (by simp) h2 nofun) q
theorem isi_dno {c : Cx} {ρ : Loc} {H : Hp} {X : XP} {Q : V → Hp → Prop} {a : Addr} {es : List (Str × V)} {U : String} (B : Ok c) (h : (a, .dict es) ∈ H) (h1 : (Value.type "dict" == Value.type U) = false) (h2 : kitMeta U = true) (h3 : subIn (hd.heap_39 c.w.params) (.type "dict") (.type U) = some false) (q : Q (.bool false) H) : Cl c (.bi "isinstance") [.ref a, .ty U] [] ρ H Q X :=
  Cl.isiD h (kit_no (b := false) h1 h2 fun _ => by rw [B.K]; exact h3) q
/-- _law_spelled of one that is spelled at once -/
theorem spelled_leaf (B : Ok c) (hr : 1 ≤ c.rm) {v w : V} (hv : Lv v w) (q : Q w H) : ClC c (.ref 512) [v] [] ρ H Q X := by
  refine' ClC.fnC (p := "one") (x := "one") (rest := []) ?ho ?hcd [] (some v) (.inl ⟨rfl, rfl, rfl⟩) ?hst ?hcf ?hb (by omega) ?h
  case ho => rw [B.K]; k_is
  case hcd => rw [B.K]; k_is
  case hst => rfl
  case hcf => intro n; rfl
  case hb => intro val S; kernel_rfl
  intro c' a C
  have B' := B.callee C
  change Exs c' _ [] _ _ _
  cases hv with
  | bool b =>
    with_reducible refine Exs.cons ?_
    with_reducible refine Ex.ite ?_
    refine Tt.tst (v := true) ?_ (ite_t ?_)
    · refine Tt.val ?_
      refine Ev.call ?_
      refine Ev.g (by assumption) Gl.g_isinstance (by rw [Callee.scope (by assumption)]; rfl) ?_
      with_reducible refine ⟨Kp.bi, ?_⟩
      refine Evs.cons ?_
      refine Ev.cell (by rw [Callee.scope (by assumption)]; rfl) (by rw [Callee.cells (by assumption)]; rfl) mem0 ?_
      refine Evs.cons ?_
      refine Ev.g (by assumption) Gl.g_bool (by rw [Callee.scope (by assumption)]; rfl) ?_
      with_reducible refine Evs.nil ?_
      with_reducible refine EvK.nil ?_
      refine ⟨[], rfl, rfl, ?_⟩
      refine isi_yes (.bool _) (by kernel_rfl) ?_
      with_reducible refine t_bool ?_
      exact Tst.mk
    with_reducible refine Exs.cons ?_
    with_reducible refine Ex.ret ?_
    with_reducible refine Ev.tup ?_
    refine Evs.cons ?_
    with_reducible refine Ev.str ?_
    refine Evs.cons ?_
    refine Ev.cell (by rw [Callee.scope (by assumption)]; rfl) (by rw [Callee.cells (by assumption)]; rfl) mem0 ?_
    with_reducible refine Evs.nil ?_
    refine ⟨sz rfl, ?_⟩
    with_reducible refine Then.ret ?_
    with_reducible refine Then.ret ?_
    exact ⟨_, Less.mk' q⟩
  | int i =>
    with_reducible refine Exs.cons ?_
    refine Ex.ite (Tt.tst (v := false) ?_ (ite_f ?_))
    · refine Tt.val ?_
      refine Ev.call ?_
      refine Ev.g (by assumption) Gl.g_isinstance (by rw [Callee.scope (by assumption)]; rfl) ?_
      with_reducible refine ⟨Kp.bi, ?_⟩
      refine Evs.cons ?_
      refine Ev.cell (by rw [Callee.scope (by assumption)]; rfl) (by rw [Callee.cells (by assumption)]; rfl) mem0 ?_
      refine Evs.cons ?_
      refine Ev.g (by assumption) Gl.g_bool (by rw [Callee.scope (by assumption)]; rfl) ?_
      with_reducible refine Evs.nil ?_
      with_reducible refine EvK.nil ?_
      refine ⟨[], rfl, rfl, ?_⟩
      refine isi_no B' (.int _) (by decide) (by kernel_rfl) (by k_is) ?_
      with_reducible refine t_bool ?_
      exact Tst.mk
    with_reducible refine Exs.nil ?_
    with_reducible refine Then.next ?_
    with_reducible refine Exs.cons ?_
    refine Ex.ite (Tt.tst (v := true) ?_ (ite_t ?_))
    · refine Tt.val ?_
      refine Ev.call ?_
      refine Ev.g (by assumption) Gl.g_isinstance (by rw [Callee.scope (by assumption)]; rfl) ?_
      with_reducible refine ⟨Kp.bi, ?_⟩
      refine Evs.cons ?_
      refine Ev.cell (by rw [Callee.scope (by assumption)]; rfl) (by rw [Callee.cells (by assumption)]; rfl) mem0 ?_
      refine Evs.cons ?_
      refine Ev.g (by assumption) Gl.g_int (by rw [Callee.scope (by assumption)]; rfl) ?_
      with_reducible refine Evs.nil ?_
      with_reducible refine EvK.nil ?_
      refine ⟨[], rfl, rfl, ?_⟩
      refine isi_yes (.int _) (by kernel_rfl) ?_
      with_reducible refine t_bool ?_
      exact Tst.mk
    with_reducible refine Exs.cons ?_
    with_reducible refine Ex.ret ?_
    with_reducible refine Ev.tup ?_
    refine Evs.cons ?_
    with_reducible refine Ev.str ?_
    refine Evs.cons ?_
    refine Ev.cell (by rw [Callee.scope (by assumption)]; rfl) (by rw [Callee.cells (by assumption)]; rfl) mem0 ?_
    with_reducible refine Evs.nil ?_
    refine ⟨sz rfl, ?_⟩
    with_reducible refine Then.ret ?_
    with_reducible refine Then.ret ?_
    exact ⟨_, Less.mk' q⟩
  | str x =>
    with_reducible refine Exs.cons ?_
    refine Ex.ite (Tt.tst (v := false) ?_ (ite_f ?_))
    · refine Tt.val ?_
      refine Ev.call ?_
      refine Ev.g (by assumption) Gl.g_isinstance (by rw [Callee.scope (by assumption)]; rfl) ?_
      with_reducible refine ⟨Kp.bi, ?_⟩
      refine Evs.cons ?_
      refine Ev.cell (by rw [Callee.scope (by assumption)]; rfl) (by rw [Callee.cells (by assumption)]; rfl) mem0 ?_
      refine Evs.cons ?_
      refine Ev.g (by assumption) Gl.g_bool (by rw [Callee.scope (by assumption)]; rfl) ?_
      with_reducible refine Evs.nil ?_
      with_reducible refine EvK.nil ?_
      refine ⟨[], rfl, rfl, ?_⟩
      refine isi_no B' (.str _) (by decide) (by kernel_rfl) (by k_is) ?_
      with_reducible refine t_bool ?_
      exact Tst.mk
    with_reducible refine Exs.nil ?_
    with_reducible refine Then.next ?_
    with_reducible refine Exs.cons ?_
    refine Ex.ite (Tt.tst (v := false) ?_ (ite_f ?_))
    · refine Tt.val ?_
      refine Ev.call ?_
      refine Ev.g (by assumption) Gl.g_isinstance (by rw [Callee.scope (by assumption)]; rfl) ?_
      with_reducible refine ⟨Kp.bi, ?_⟩
      refine Evs.cons ?_
      refine Ev.cell (by rw [Callee.scope (by assumption)]; rfl) (by rw [Callee.cells (by assumption)]; rfl) mem0 ?_
      refine Evs.cons ?_
      refine Ev.g (by assumption) Gl.g_int (by rw [Callee.scope (by assumption)]; rfl) ?_
      with_reducible refine Evs.nil ?_
      with_reducible refine EvK.nil ?_
      refine ⟨[], rfl, rfl, ?_⟩
      refine isi_no B' (.str _) (by decide) (by kernel_rfl) (by k_is) ?_
      with_reducible refine t_bool ?_
      exact Tst.mk
    with_reducible refine Exs.nil ?_
    with_reducible refine Then.next ?_
    with_reducible refine Exs.cons ?_
    refine Ex.ite (Tt.tst (v := true) ?_ (ite_t ?_))
    · refine Tt.val ?_
      refine Ev.call ?_
      refine Ev.g (by assumption) Gl.g_isinstance (by rw [Callee.scope (by assumption)]; rfl) ?_
      with_reducible refine ⟨Kp.bi, ?_⟩
      refine Evs.cons ?_
      refine Ev.cell (by rw [Callee.scope (by assumption)]; rfl) (by rw [Callee.cells (by assumption)]; rfl) mem0 ?_
      refine Evs.cons ?_
      refine Ev.g (by assumption) Gl.g_str (by rw [Callee.scope (by assumption)]; rfl) ?_
      with_reducible refine Evs.nil ?_
      with_reducible refine EvK.nil ?_
      refine ⟨[], rfl, rfl, ?_⟩
      refine isi_yes (.str _) (by kernel_rfl) ?_
      with_reducible refine t_bool ?_
      exact Tst.mk
    with_reducible refine Exs.cons ?_
    with_reducible refine Ex.ret ?_
    with_reducible refine Ev.tup ?_
    refine Evs.cons ?_
    with_reducible refine Ev.str ?_
    refine Evs.cons ?_
    refine Ev.cell (by rw [Callee.scope (by assumption)]; rfl) (by rw [Callee.cells (by assumption)]; rfl) mem0 ?_
    with_reducible refine Evs.nil ?_
    refine ⟨sz rfl, ?_⟩
    with_reducible refine Then.ret ?_
    with_reducible refine Then.ret ?_
    exact ⟨_, Less.mk' q⟩
  | bytes b =>
    with_reducible refine Exs.cons ?_
    refine Ex.ite (Tt.tst (v := false) ?_ (ite_f ?_))
    · refine Tt.val ?_
      refine Ev.call ?_
      refine Ev.g (by assumption) Gl.g_isinstance (by rw [Callee.scope (by assumption)]; rfl) ?_
      with_reducible refine ⟨Kp.bi, ?_⟩
      refine Evs.cons ?_
      refine Ev.cell (by rw [Callee.scope (by assumption)]; rfl) (by rw [Callee.cells (by assumption)]; rfl) mem0 ?_
      refine Evs.cons ?_
      refine Ev.g (by assumption) Gl.g_bool (by rw [Callee.scope (by assumption)]; rfl) ?_
      with_reducible refine Evs.nil ?_
      with_reducible refine EvK.nil ?_
      refine ⟨[], rfl, rfl, ?_⟩
      refine isi_no B' (.bytes _) (by decide) (by kernel_rfl) (by k_is) ?_
      with_reducible refine t_bool ?_
      exact Tst.mk
    with_reducible refine Exs.nil ?_
    with_reducible refine Then.next ?_
    with_reducible refine Exs.cons ?_
    refine Ex.ite (Tt.tst (v := false) ?_ (ite_f ?_))
    · refine Tt.val ?_
      refine Ev.call ?_
      refine Ev.g (by assumption) Gl.g_isinstance (by rw [Callee.scope (by assumption)]; rfl) ?_
      with_reducible refine ⟨Kp.bi, ?_⟩
      refine Evs.cons ?_
      refine Ev.cell (by rw [Callee.scope (by assumption)]; rfl) (by rw [Callee.cells (by assumption)]; rfl) mem0 ?_
      refine Evs.cons ?_
      refine Ev.g (by assumption) Gl.g_int (by rw [Callee.scope (by assumption)]; rfl) ?_
      with_reducible refine Evs.nil ?_
      with_reducible refine EvK.nil ?_
      refine ⟨[], rfl, rfl, ?_⟩
      refine isi_no B' (.bytes _) (by decide) (by kernel_rfl) (by k_is) ?_
      with_reducible refine t_bool ?_
      exact Tst.mk
    with_reducible refine Exs.nil ?_
    with_reducible refine Then.next ?_
    with_reducible refine Exs.cons ?_
    refine Ex.ite (Tt.tst (v := false) ?_ (ite_f ?_))
    · refine Tt.val ?_
      refine Ev.call ?_
      refine Ev.g (by assumption) Gl.g_isinstance (by rw [Callee.scope (by assumption)]; rfl) ?_
      with_reducible refine ⟨Kp.bi, ?_⟩
      refine Evs.cons ?_
      refine Ev.cell (by rw [Callee.scope (by assumption)]; rfl) (by rw [Callee.cells (by assumption)]; rfl) mem0 ?_
      refine Evs.cons ?_
      refine Ev.g (by assumption) Gl.g_str (by rw [Callee.scope (by assumption)]; rfl) ?_
      with_reducible refine Evs.nil ?_
      with_reducible refine EvK.nil ?_
      refine ⟨[], rfl, rfl, ?_⟩
      refine isi_no B' (.bytes _) (by decide) (by kernel_rfl) (by k_is) ?_
      with_reducible refine t_bool ?_
      exact Tst.mk
    with_reducible refine Exs.nil ?_
    with_reducible refine Then.next ?_
    with_reducible refine Exs.cons ?_
    refine Ex.ite (Tt.tst (v := true) ?_ (ite_t ?_))
    · refine Tt.val ?_
      refine Ev.call ?_
      refine Ev.g (by assumption) Gl.g_isinstance (by rw [Callee.scope (by assumption)]; rfl) ?_
      with_reducible refine ⟨Kp.bi, ?_⟩
      refine Evs.cons ?_
      refine Ev.cell (by rw [Callee.scope (by assumption)]; rfl) (by rw [Callee.cells (by assumption)]; rfl) mem0 ?_
      refine Evs.cons ?_
      refine Ev.g (by assumption) Gl.g_bytes (by rw [Callee.scope (by assumption)]; rfl) ?_
      with_reducible refine Evs.nil ?_
      with_reducible refine EvK.nil ?_
      refine ⟨[], rfl, rfl, ?_⟩
      refine isi_yes (.bytes _) (by kernel_rfl) ?_
      with_reducible refine t_bool ?_
      exact Tst.mk
    with_reducible refine Exs.cons ?_
    with_reducible refine Ex.ret ?_
    with_reducible refine Ev.tup ?_
    refine Evs.cons ?_
    with_reducible refine Ev.str ?_
    refine Evs.cons ?_
    refine Ev.cell (by rw [Callee.scope (by assumption)]; rfl) (by rw [Callee.cells (by assumption)]; rfl) mem0 ?_
    with_reducible refine Evs.nil ?_
    refine ⟨sz rfl, ?_⟩
    with_reducible refine Then.ret ?_
    with_reducible refine Then.ret ?_
    exact ⟨_, Less.mk' q⟩
end
section
variable {c : Cx} {ρ : Loc} {H : Hp} {Q : V → Hp → Prop} {X : XP}
/-- _law_spelled of a list -/
theorem spelled_list (B : Ok c) (hr : 2 ≤ c.rm) (hh : c.A.handled = none) {xs : List V} (hx : ∀ x ∈ xs, Lv x (spV x)) (hl : xs.length ≤ 16) (q : Q (.tup [.str "list", .lst (xs.map spV)]) H) : ClC c (.ref 512) [.lst xs] [] ρ H Q X := by
  refine' ClC.fnC (p := "one") (x := "one") (rest := []) ?ho ?hcd [] (some (.lst xs)) (.inl ⟨rfl, rfl, rfl⟩) ?hst ?hcf ?hb (by omega) ?h
  case ho => rw [B.K]; k_is
  case hcd => rw [B.K]; k_is
  case hst => rfl
  case hcf => intro n; rfl
  case hb => intro val S; kernel_rfl
  intro c' a C
  have B' := B.callee C
  have hh' : c'.A.handled = none := C.handled.trans hh
  have hrm := C.rm
  change Exs c' _ [] _ _ _
  with_reducible refine Exs.cons ?_
  refine Ex.ite (Tt.tst (v := false) ?_ (ite_f ?_))
  · refine Tt.val ?_
    refine Ev.call ?_
    refine Ev.g (by assumption) Gl.g_isinstance (by rw [Callee.scope (by assumption)]; rfl) ?_
    with_reducible refine ⟨Kp.bi, ?_⟩
    refine Evs.cons ?_
    refine Ev.cell (by rw [Callee.scope (by assumption)]; rfl) (by rw [Callee.cells (by assumption)]; rfl) mem0 ?_
    refine Evs.cons ?_
    refine Ev.g (by assumption) Gl.g_bool (by rw [Callee.scope (by assumption)]; rfl) ?_
    with_reducible refine Evs.nil ?_
    with_reducible refine EvK.nil ?_
    refine ⟨[], rfl, rfl, ?_⟩
    refine isi_no B' (.lst _) (by decide) (by kernel_rfl) (by k_is) ?_
    with_reducible refine t_bool ?_
    exact Tst.mk
  with_reducible refine Exs.nil ?_
  with_reducible refine Then.next ?_
  with_reducible refine Exs.cons ?_
  refine Ex.ite (Tt.tst (v := false) ?_ (ite_f ?_))
  · refine Tt.val ?_
    refine Ev.call ?_
    refine Ev.g (by assumption) Gl.g_isinstance (by rw [Callee.scope (by assumption)]; rfl) ?_
    with_reducible refine ⟨Kp.bi, ?_⟩
    refine Evs.cons ?_
    refine Ev.cell (by rw [Callee.scope (by assumption)]; rfl) (by rw [Callee.cells (by assumption)]; rfl) mem0 ?_
    refine Evs.cons ?_
    refine Ev.g (by assumption) Gl.g_int (by rw [Callee.scope (by assumption)]; rfl) ?_
    with_reducible refine Evs.nil ?_
    with_reducible refine EvK.nil ?_
    refine ⟨[], rfl, rfl, ?_⟩
    refine isi_no B' (.lst _) (by decide) (by kernel_rfl) (by k_is) ?_
    with_reducible refine t_bool ?_
    exact Tst.mk
  with_reducible refine Exs.nil ?_
  with_reducible refine Then.next ?_
  with_reducible refine Exs.cons ?_
  refine Ex.ite (Tt.tst (v := false) ?_ (ite_f ?_))
  · refine Tt.val ?_
    refine Ev.call ?_
    refine Ev.g (by assumption) Gl.g_isinstance (by rw [Callee.scope (by assumption)]; rfl) ?_
    with_reducible refine ⟨Kp.bi, ?_⟩
    refine Evs.cons ?_
    refine Ev.cell (by rw [Callee.scope (by assumption)]; rfl) (by rw [Callee.cells (by assumption)]; rfl) mem0 ?_
    refine Evs.cons ?_
    refine Ev.g (by assumption) Gl.g_str (by rw [Callee.scope (by assumption)]; rfl) ?_
    with_reducible refine Evs.nil ?_
    with_reducible refine EvK.nil ?_
    refine ⟨[], rfl, rfl, ?_⟩
    refine isi_no B' (.lst _) (by decide) (by kernel_rfl) (by k_is) ?_
    with_reducible refine t_bool ?_
    exact Tst.mk
  with_reducible refine Exs.nil ?_
  with_reducible refine Then.next ?_
  with_reducible refine Exs.cons ?_
  refine Ex.ite (Tt.tst (v := false) ?_ (ite_f ?_))
  · refine Tt.val ?_
    refine Ev.call ?_
    refine Ev.g (by assumption) Gl.g_isinstance (by rw [Callee.scope (by assumption)]; rfl) ?_
    with_reducible refine ⟨Kp.bi, ?_⟩
    refine Evs.cons ?_
    refine Ev.cell (by rw [Callee.scope (by assumption)]; rfl) (by rw [Callee.cells (by assumption)]; rfl) mem0 ?_
    refine Evs.cons ?_
    refine Ev.g (by assumption) Gl.g_bytes (by rw [Callee.scope (by assumption)]; rfl) ?_
    with_reducible refine Evs.nil ?_
    with_reducible refine EvK.nil ?_
    refine ⟨[], rfl, rfl, ?_⟩
    refine isi_no B' (.lst _) (by decide) (by kernel_rfl) (by k_is) ?_
    with_reducible refine t_bool ?_
    exact Tst.mk
  with_reducible refine Exs.nil ?_
  with_reducible refine Then.next ?_
  with_reducible refine Exs.cons ?_
  refine Ex.ite (Tt.tst (v := true) ?_ (ite_t ?_))
  · refine Tt.val ?_
    refine Ev.call ?_
    refine Ev.g (by assumption) Gl.g_isinstance (by rw [Callee.scope (by assumption)]; rfl) ?_
    with_reducible refine ⟨Kp.bi, ?_⟩
    refine Evs.cons ?_
    refine Ev.cell (by rw [Callee.scope (by assumption)]; rfl) (by rw [Callee.cells (by assumption)]; rfl) mem0 ?_
    refine Evs.cons ?_
    refine Ev.g (by assumption) Gl.g_list (by rw [Callee.scope (by assumption)]; rfl) ?_
    with_reducible refine Evs.nil ?_
    with_reducible refine EvK.nil ?_
    refine ⟨[], rfl, rfl, ?_⟩
    refine isi_yes (.lst _) (by kernel_rfl) ?_
    with_reducible refine t_bool ?_
    exact Tst.mk
  with_reducible refine Exs.cons ?_
  with_reducible refine Ex.ret ?_
  with_reducible refine Ev.tup ?_
  refine Evs.cons ?_
  with_reducible refine Ev.str ?_
  refine Evs.cons ?_
  refine Ev.comp (names := ["part"]) (cl := []) hh' (closure_none rfl) (by rw [C.scope]; rfl) ?_
  refine Ev.cell (by rw [Callee.scope (by assumption)]; rfl) (by rw [Callee.cells (by assumption)]; rfl) mem0 ?_
  refine ⟨xs.map spV, CompOf.map spV It.lst (by omega) (fun _ => trivial) rfl ?_, ?_⟩
  · intro c₂ I x hx'
    have B₂ := B'.inner I
    have hv := hx x hx'
    refine ⟨[("part", some x)], Asg.name Put.head, rfl, fun q₁ q₂ => ?_⟩
    refine Ev.call ?_
    refine Ev.g (by assumption) Gl.g_law_spelled (by rw [Inner.scope (by assumption), Callee.scope (by assumption)]; rfl) ?_
    refine ⟨Kp.ref (by rw [Ok.K (by assumption)]; k_is), ?_⟩
    refine Evs.cons ?_
    with_reducible refine Ev.loc mem0 ?_
    with_reducible refine Evs.nil ?_
    with_reducible refine EvK.nil ?_
    refine ⟨[], rfl, rfl, ?_⟩
    refine (spelled_leaf B₂ (by rw [I.rm]; omega) hv ?_).cl
    exact Val.mk
  with_reducible refine Evs.nil ?_
  refine ⟨sz rfl, ?_⟩
  with_reducible refine Then.ret ?_
  with_reducible refine Then.ret ?_
  exact ⟨_, Less.mk' q⟩
/-- _law_spelled of a map -/
theorem spelled_map (B : Ok c) (hr : 2 ≤ c.rm) (hh : c.A.handled = none) {d : Addr} (hd : d ≠ sysModules) {es : List (Str × V)} (hx : ∀ e ∈ es, Lv e.2 (spV e.2)) (hnd : (es.map (·.1)).Nodup) (hl : es.length ≤ 16)
    (q : Q (.tup [.str "map", .lst (es.map fun e => .tup [.tup [.str "text", .str e.1], spV e.2])]) H) : ClC c (.ref 512) [.ref d] [] ρ ((d, .dict es) :: H) Q X := by
  refine' ClC.fnC (p := "one") (x := "one") (rest := []) ?ho ?hcd [] (some (.ref d)) (.inl ⟨rfl, rfl, rfl⟩) ?hst ?hcf ?hb (by omega) ?h
  case ho => rw [B.K]; k_is
  case hcd => rw [B.K]; k_is
  case hst => rfl
  case hcf => intro n; rfl
  case hb => intro val S; kernel_rfl
  intro c' a C
  have B' := B.callee C
  have hh' : c'.A.handled = none := C.handled.trans hh
  have hrm := C.rm
  change Exs c' _ [] _ _ _
  refine Exs.fit ?_
  with_reducible refine Exs.cons ?_
  refine Ex.ite (Tt.tst (v := false) ?_ (ite_f ?_))
  · refine Tt.val ?_
    refine Ev.call ?_
    refine Ev.g (by assumption) Gl.g_isinstance (by rw [Callee.scope (by assumption)]; rfl) ?_
    with_reducible refine ⟨Kp.bi, ?_⟩
    refine Evs.cons ?_
    refine Ev.cell (by rw [Callee.scope (by assumption)]; rfl) (by rw [Callee.cells (by assumption)]; rfl) mem0 ?_
    refine Evs.cons ?_
    refine Ev.g (by assumption) Gl.g_bool (by rw [Callee.scope (by assumption)]; rfl) ?_
    with_reducible refine Evs.nil ?_
    with_reducible refine EvK.nil ?_
    refine ⟨[], rfl, rfl, ?_⟩
    refine isi_dno B' (by (with_reducible refine mem1 ?_; with_reducible exact mem0)) (by decide) (by kernel_rfl) (by k_is) ?_
    with_reducible refine t_bool ?_
    exact Tst.mk
  with_reducible refine Exs.nil ?_
  with_reducible refine Then.next ?_
  with_reducible refine Exs.cons ?_
  refine Ex.ite (Tt.tst (v := false) ?_ (ite_f ?_))
  · refine Tt.val ?_
    refine Ev.call ?_
    refine Ev.g (by assumption) Gl.g_isinstance (by rw [Callee.scope (by assumption)]; rfl) ?_
    with_reducible refine ⟨Kp.bi, ?_⟩
    refine Evs.cons ?_
    refine Ev.cell (by rw [Callee.scope (by assumption)]; rfl) (by rw [Callee.cells (by assumption)]; rfl) mem0 ?_
    refine Evs.cons ?_
    refine Ev.g (by assumption) Gl.g_int (by rw [Callee.scope (by assumption)]; rfl) ?_
    with_reducible refine Evs.nil ?_
    with_reducible refine EvK.nil ?_
    refine ⟨[], rfl, rfl, ?_⟩
    refine isi_dno B' (by (with_reducible refine mem1 ?_; with_reducible exact mem0)) (by decide) (by kernel_rfl) (by k_is) ?_
    with_reducible refine t_bool ?_
    exact Tst.mk
  with_reducible refine Exs.nil ?_
  with_reducible refine Then.next ?_
  with_reducible refine Exs.cons ?_
  refine Ex.ite (Tt.tst (v := false) ?_ (ite_f ?_))
  · refine Tt.val ?_
    refine Ev.call ?_
    refine Ev.g (by assumption) Gl.g_isinstance (by rw [Callee.scope (by assumption)]; rfl) ?_
    with_reducible refine ⟨Kp.bi, ?_⟩
    refine Evs.cons ?_
    refine Ev.cell (by rw [Callee.scope (by assumption)]; rfl) (by rw [Callee.cells (by assumption)]; rfl) mem0 ?_
    refine Evs.cons ?_
    refine Ev.g (by assumption) Gl.g_str (by rw [Callee.scope (by assumption)]; rfl) ?_
    with_reducible refine Evs.nil ?_
    with_reducible refine EvK.nil ?_
    refine ⟨[], rfl, rfl, ?_⟩
    refine isi_dno B' (by (with_reducible refine mem1 ?_; with_reducible exact mem0)) (by decide) (by kernel_rfl) (by k_is) ?_
    with_reducible refine t_bool ?_
    exact Tst.mk
  with_reducible refine Exs.nil ?_
  with_reducible refine Then.next ?_
  with_reducible refine Exs.cons ?_
  refine Ex.ite (Tt.tst (v := false) ?_ (ite_f ?_))
  · refine Tt.val ?_
    refine Ev.call ?_
    refine Ev.g (by assumption) Gl.g_isinstance (by rw [Callee.scope (by assumption)]; rfl) ?_
    with_reducible refine ⟨Kp.bi, ?_⟩
    refine Evs.cons ?_
    refine Ev.cell (by rw [Callee.scope (by assumption)]; rfl) (by rw [Callee.cells (by assumption)]; rfl) mem0 ?_
    refine Evs.cons ?_
    refine Ev.g (by assumption) Gl.g_bytes (by rw [Callee.scope (by assumption)]; rfl) ?_
    with_reducible refine Evs.nil ?_
    with_reducible refine EvK.nil ?_
    refine ⟨[], rfl, rfl, ?_⟩
    refine isi_dno B' (by (with_reducible refine mem1 ?_; with_reducible exact mem0)) (by decide) (by kernel_rfl) (by k_is) ?_
    with_reducible refine t_bool ?_
    exact Tst.mk
  with_reducible refine Exs.nil ?_
  with_reducible refine Then.next ?_
  with_reducible refine Exs.cons ?_
  refine Ex.ite (Tt.tst (v := false) ?_ (ite_f ?_))
  · refine Tt.val ?_
    refine Ev.call ?_
    refine Ev.g (by assumption) Gl.g_isinstance (by rw [Callee.scope (by assumption)]; rfl) ?_
    with_reducible refine ⟨Kp.bi, ?_⟩
    refine Evs.cons ?_
    refine Ev.cell (by rw [Callee.scope (by assumption)]; rfl) (by rw [Callee.cells (by assumption)]; rfl) mem0 ?_
    refine Evs.cons ?_
    refine Ev.g (by assumption) Gl.g_list (by rw [Callee.scope (by assumption)]; rfl) ?_
    with_reducible refine Evs.nil ?_
    with_reducible refine EvK.nil ?_
    refine ⟨[], rfl, rfl, ?_⟩
    refine isi_dno B' (by (with_reducible refine mem1 ?_; with_reducible exact mem0)) (by decide) (by kernel_rfl) (by k_is) ?_
    with_reducible refine t_bool ?_
    exact Tst.mk
  with_reducible refine Exs.nil ?_
  with_reducible refine Then.next ?_
  with_reducible refine Exs.cons ?_
  refine Ex.ite (Tt.tst (v := true) ?_ (ite_t ?_))
  · refine Tt.val ?_
    refine Ev.call ?_
    refine Ev.g (by assumption) Gl.g_isinstance (by rw [Callee.scope (by assumption)]; rfl) ?_
    with_reducible refine ⟨Kp.bi, ?_⟩
    refine Evs.cons ?_
    refine Ev.cell (by rw [Callee.scope (by assumption)]; rfl) (by rw [Callee.cells (by assumption)]; rfl) mem0 ?_
    refine Evs.cons ?_
    refine Ev.g (by assumption) Gl.g_dict (by rw [Callee.scope (by assumption)]; rfl) ?_
    with_reducible refine Evs.nil ?_
    with_reducible refine EvK.nil ?_
    refine ⟨[], rfl, rfl, ?_⟩
    refine Cl.isiD (by (with_reducible refine mem1 ?_; with_reducible exact mem0)) (kit_no (b := true) (by decide) (by kernel_rfl) nofun) ?_
    with_reducible refine t_bool ?_
    exact Tst.mk
  refine Exs.epoch (a := d) (es := es) (H' := fun n => (a, .cell (some (.ref d))) :: (d, .dictAt es n) :: H) (fun n => .tail .head) fun n => ?_
  with_reducible refine Exs.cons ?_
  with_reducible refine Ex.ret ?_
  with_reducible refine Ev.tup ?_
  refine Evs.cons ?_
  with_reducible refine Ev.str ?_
  refine Evs.cons ?_
  refine Ev.comp (names := ["key"]) (cl := [("one", a)]) hh' (closure_one (by rw [C.cells]; rfl) rfl) (by rw [C.scope]; rfl) ?_
  refine Ev.cell (by rw [Callee.scope (by assumption)]; rfl) (by rw [Callee.cells (by assumption)]; rfl) mem0 ?_
  refine ⟨es.map fun e => .tup [.tup [.str "text", .str e.1], spV e.2], CompOf.map (fun v => match v with | .str x => .tup [.tup [.str "text", .str x], spV ((es.lookup x).getD .none)] | _ => .none) (It.dict (by (with_reducible refine mem1 ?_; with_reducible exact mem0)) hd) (by rw [List.length_map, List.length_map]; omega) (fun _ => by (with_reducible refine mem1 ?_; with_reducible refine mem1 ?_; with_reducible exact mem0)) ?_ ?_, ?_⟩
  · rw [List.map_map, List.map_map]
    refine List.map_congr_left fun e he => ?_
    show _ = V.tup [.tup [.str "text", .str e.1], spV ((es.lookup e.1).getD .none)]
    rw [lookup_nd hnd he]; rfl
  · intro c₂ I x hx'
    have B₂ := B'.inner I
    obtain ⟨k, hk, rfl⟩ := List.mem_map.mp hx'
    obtain ⟨e, he, rfl⟩ := List.mem_map.mp hk
    have hlk : es.lookup e.1 = some e.2 := lookup_nd hnd he
    refine ⟨[("key", some (.str e.1))], Asg.name Put.head, rfl, fun q₁ q₂ => ?_⟩
    with_reducible refine Ev.tup ?_
    refine Evs.cons ?_
    refine Ev.call ?_
    refine Ev.g (by assumption) Gl.g_law_spelled (by rw [Inner.scope (by assumption), Callee.scope (by assumption)]; rfl) ?_
    refine ⟨Kp.ref (by rw [Ok.K (by assumption)]; k_is), ?_⟩
    refine Evs.cons ?_
    with_reducible refine Ev.loc mem0 ?_
    with_reducible refine Evs.nil ?_
    with_reducible refine EvK.nil ?_
    refine ⟨[], rfl, rfl, ?_⟩
    refine (spelled_leaf B₂ (by rw [I.rm]; omega) (.str _) ?_).cl
    refine Evs.cons ?_
    refine Ev.call ?_
    refine Ev.g (by assumption) Gl.g_law_spelled (by rw [Inner.scope (by assumption), Callee.scope (by assumption)]; rfl) ?_
    refine ⟨Kp.ref (by rw [Ok.K (by assumption)]; k_is), ?_⟩
    refine Evs.cons ?_
    refine Ev.sub ?_
    refine Ev.cell (by rw [Inner.scope (by assumption), Callee.scope (by assumption)]; rfl) (by rw [Inner.cells (by assumption)]; rfl) (mem1 (mem1 mem0)) ?_
    with_reducible refine Ev.loc mem0 ?_
    refine ⟨_, _, HasItem.dict (es := es) (.inr ⟨n, by (with_reducible refine mem1 ?_; with_reducible refine mem1 ?_; with_reducible refine mem1 ?_; with_reducible exact mem0)⟩), It1.dict (es := es) (v := e.2) (.inr ⟨n, by (with_reducible refine mem1 ?_; with_reducible refine mem1 ?_; with_reducible refine mem1 ?_; with_reducible exact mem0)⟩) he ?_⟩
    with_reducible refine Evs.nil ?_
    with_reducible refine EvK.nil ?_
    refine ⟨[], rfl, rfl, ?_⟩
    refine (spelled_leaf B₂ (by rw [I.rm]; omega) (hx e he) ?_).cl
    with_reducible refine Evs.nil ?_
    refine ⟨sz rfl, ?_⟩
    show Val (V.tup [.tup [.str "text", .str e.1], spV ((es.lookup e.1).getD .none)]) _ _ _
    rw [hlk]
    exact Val.mk
  with_reducible refine Evs.nil ?_
  refine ⟨sz rfl, ?_⟩
  with_reducible refine Then.ret ?_
  with_reducible refine Then.ret ?_
  exact .mk (H' := (a, .cell (some (.ref d))) :: H) (G := [(d, .dictAt es n)]) ((List.Perm.cons _ (List.perm_append_comm (l₁ := [_]))) ) ⟨_, Less.mk' q⟩
end
end
section

section
variable {c : Cx} {ρ : Loc} {H : Hp} {Q : V → Hp → Prop} {X : XP}
theorem spelled_told (B : Ok c) (hr : 2 ≤ c.rm) (hh : c.A.handled = none) {T : Task} {mv : Mv} {due v : V} {G G' : Hp} (told : Told mv v G G') (sp : Sp mv due) (F : Fin T G' H) (q : ∀ H', Fin T G H' → Q due H') : Cl c (.ref 512) [v] [] ρ H Q X := by
  cases sp with
  | lf h =>
    cases told
    exact (spelled_leaf B (by omega) h (q _ F)).cl
  | lst h1 h2 =>
    cases told
    exact (spelled_list B hr hh h1 h2 (q _ F)).cl
  | map h1 h2 h3 =>
    cases told with
    | map hd =>
      obtain ⟨H', p, F'⟩ := F.push
      exact .perm p (spelled_map B hr hh hd h1 h2 h3 (q _ F')).cl
theorem hit_short {c : Cx} (B : Ok c) {Q : Fl → Loc → Hp → Prop} {X : XP} {ρ : Loc} {H : Hp} {x : Str} {p pos p2 p3 : Pos} {k : Nat} {w : Str} (hx : c.gl x = some (.ref 91)) (hk : c.env.scope.names.lookup x = some .globalImplicit) (d : (x == ("__debug__" : Str)) = false) (he : exmOne c.K (.ref 91) (.ref 91) = some true) (q : Q (.ret (.str w)) ρ H) :
    Hnd c Q X (.ref 91) ρ H [.ExceptHandler (some (.Name x p)) none [.Return (some (.Constant (.str w) k p2)) p3] pos] :=
  Hnd.hit hx hk rfl he nofun (fun e => Exs.cons (Ex.ret (Ev.str ⟨H, .refl _, q⟩))) d
/-- _law_done -/
theorem law_done (B : Ok c) (hr : 9 ≤ c.rm) (hh : c.A.handled = none) {T : Task} (ok : T.OK) {G : Hp} (hH : Idl T G H) {mv : Mv} {due : V} (hM : Msg T 0 mv T.S) (hs : T.S ≤ T.u0.length + (flat T.ps0).length → Sp mv due) (hMx : T.S ≤ T.M)
    {way : Int} (hw : way = 0 ∨ way = 1 ∨ way = 2 ∨ way = 3) (hc : way = 3 → T.S ≤ T.u0.length + (flat T.ps0).length)
    (q : ∀ H', Fin T G H' → Q (if way = 2 then .tup [.str "skipped", .none] else if way = 3 then .tup [.str "octets", .bytes (T.W.take T.S).toArray] else due) H')
    (qe : ∀ H', Ended T G H' → Q (if way = 1 then .str "end" else .str "short") H') : ClC c (.ref 519) [.ref T.A.a, .int way, .int T.S] [] ρ H Q X := by
  have hH0 := hH
  obtain ⟨pre, hpre, rfl⟩ := hH0
  refine' ClC.fn (bs := [("used", .ref T.A.a), ("way", .int way), ("size", .int T.S)]) (rest := ["one"]) ?ho ?hcd ?hst ?hb (by omega) ?h
  case ho => rw [B.K]; k_is
  case hcd => rw [B.K]; k_is
  case hst => rfl
  case hb =>
    intro z vs ks hv hk; obtain _ | ⟨g1, hv⟩ := hv; obtain _ | ⟨g2, hv⟩ := hv; obtain _ | ⟨g3, hv⟩ := hv; cases hv; cases hk
    exact ⟨_, fun S => by kernel_rfl, .cons g1 (.cons g2 (.cons g3 .nil))⟩
  intro c' C
  have B' := B.callee C
  have hh' : c'.A.handled = none := C.handled.trans hh
  have hrm := C.rm
  have hx : c'.gl "OutOfData" = some (.ref 91) := by rw [B'.gl]; exact Gl.g_OutOfData
  have hlk : c'.env.scope.names.lookup ("OutOfData" : Str) = some .globalImplicit := by rw [C.scope]; rfl
  have hex : exmOne c'.K (.ref 91) (.ref 91) = some true := by rw [B'.K]; kts_exm
  change Exs c' _ [("used", some (.ref T.A.a)), ("way", some (.int way)), ("size", some (.int T.S)), ("one", none)] _ _ _
  with_reducible refine Exs.cons ?_
  refine Ex.try C.own ?_
  with_reducible refine Exs.cons ?_
  refine Ex.ite (Tt.tst (v := decide (way = 1)) ?_ (ite_d (fun e1 => ?_) (fun e1 => ?_)))
  · refine Tt.cmp ?_
    with_reducible refine Ev.loc (mem1 mem0) ?_
    with_reducible refine Ev.int ?_
    with_reducible refine c_eq ?_
    exact Tst.mk
  · rw [if_pos e1] at qe
    rw [if_neg (by omega), if_neg (by omega)] at q
    with_reducible refine Exs.cons ?_
    refine Ex.forOwn C.own ?_
    with_reducible refine Ev.loc mem0 ?_
    refine' ⟨T.A.a, 445, T.A.d, _, 400, 407, rfl, ?m1, ?m2, ?i1, ?i2, ?cl⟩
    case m1 => with_reducible exact mem0
    case m2 => (with_reducible refine mem1 ?_; with_reducible exact mem0)
    case i1 => rw [B'.K]; exact itOK_mk (by k_is) (by k_is)
    case i2 => rw [B'.K]; exact itOK_mk (by k_is) (by k_is)
    refine (iter B' (by omega) ?_).cl
    refine ⟨rfl, by with_reducible exact mem0, ⟨_, by (with_reducible refine mem1 ?_; with_reducible exact mem0)⟩, ?_⟩
    refine (next B' (by omega) hh' ok hH hM ?_ ?_ ?_).cl
    · intro v G' H' told F
      refine put_and (by with_reducible exact (Put.tail (Put.tail (Put.tail Put.head)))) ?_
      with_reducible refine Exs.cons ?_
      with_reducible refine Ex.ret ?_
      refine Ev.call ?_
      refine Ev.g (by assumption) Gl.g_law_spelled (by rw [Callee.scope (by assumption)]; rfl) ?_
      refine ⟨Kp.ref (by rw [Ok.K (by assumption)]; k_is), ?_⟩
      refine Evs.cons ?_
      with_reducible refine Ev.loc (mem1 (mem1 (mem1 mem0))) ?_
      with_reducible refine Evs.nil ?_
      with_reducible refine EvK.nil ?_
      refine ⟨[], rfl, rfl, ?_⟩
      exact spelled_told B' (by omega) hh' told (hs F.full) F fun H'' F' => q _ F'
    · intro H' E
      refine .inl ⟨rfl, ?_⟩
      with_reducible refine Then.next ?_
      with_reducible refine Exs.cons ?_
      with_reducible refine Ex.ret ?_
      with_reducible refine Ev.str ?_
      with_reducible refine Then.ret ?_
      with_reducible refine Then.ret ?_
      with_reducible refine Then.ret ?_
      exact qe _ E
    · intro hlt; omega
  with_reducible refine Exs.nil ?_
  with_reducible refine Then.next ?_
  with_reducible refine Exs.cons ?_
  rw [if_neg e1] at qe
  refine Ex.ite (Tt.tst (v := decide (way = 2)) ?_ (ite_d (fun e2 => ?_) (fun e2 => ?_)))
  · refine Tt.cmp ?_
    with_reducible refine Ev.loc (mem1 mem0) ?_
    with_reducible refine Ev.int ?_
    with_reducible refine c_eq ?_
    exact Tst.mk
  · rw [if_pos e2] at q
    with_reducible refine Exs.cons ?_
    with_reducible refine Ex.ret ?_
    with_reducible refine Ev.tup ?_
    refine Evs.cons ?_
    with_reducible refine Ev.str ?_
    refine Evs.cons ?_
    refine Ev.meth ?_
    with_reducible refine Ev.loc mem0 ?_
    refine' ⟨_, _, Mt.inst mem0 (mem1 mem0) (notKey rfl) ?w4_46, Kp.ref ?w5_46, ?wq_46⟩
    case w4_46 => (rw [Ok.K (by assumption)]; refine' methOK_mk ?ka_46 ?kb_46 ?kc_46 ?kd_46; (case kb_46 => k_is); (case ka_46 => k_is); (case kc_46 => k_is); (case kd_46 => k_is))
    case w5_46 => (rw [Ok.K (by assumption)]; k_is)
    with_reducible refine Evs.nil ?_
    with_reducible refine EvK.nil ?_
    refine ⟨[], rfl, rfl, ?_⟩
    refine (skip B' (by omega) hh' ok hH hM ?_ ?_ ?_).cl
    · intro H' F
      with_reducible refine Evs.nil ?_
      refine ⟨sz rfl, ?_⟩
      with_reducible refine Then.ret ?_
      with_reducible refine Then.ret ?_
      with_reducible refine Then.ret ?_
      exact q _ F
    · intro H' E
      exact hit_short B' hx hlk (by decide) hex (qe _ E)
    · intro hlt; omega
  with_reducible refine Exs.nil ?_
  with_reducible refine Then.next ?_
  with_reducible refine Exs.cons ?_
  rw [if_neg e2] at q
  refine Ex.ite (Tt.tst (v := decide (way = 3)) ?_ (ite_d (fun e3 => ?_) (fun e3 => ?_)))
  · refine Tt.cmp ?_
    with_reducible refine Ev.loc (mem1 mem0) ?_
    with_reducible refine Ev.int ?_
    with_reducible refine c_eq ?_
    exact Tst.mk
  · rw [if_pos e3] at q
    with_reducible refine Exs.cons ?_
    with_reducible refine Ex.ret ?_
    refine Ev.call ?_
    refine Ev.g (by assumption) Gl.g_law_spelled (by rw [Callee.scope (by assumption)]; rfl) ?_
    refine ⟨Kp.ref (by rw [Ok.K (by assumption)]; k_is), ?_⟩
    refine Evs.cons ?_
    refine Ev.meth ?_
    with_reducible refine Ev.loc mem0 ?_
    refine' ⟨_, _, Mt.inst mem0 (mem1 mem0) (notKey rfl) ?w4_70, Kp.ref ?w5_70, ?wq_70⟩
    case w4_70 => (rw [Ok.K (by assumption)]; refine' methOK_mk ?ka_70 ?kb_70 ?kc_70 ?kd_70; (case kb_70 => k_is); (case ka_70 => k_is); (case kc_70 => k_is); (case kd_70 => k_is))
    case w5_70 => (rw [Ok.K (by assumption)]; k_is)
    refine Evs.cons ?_
    with_reducible refine Ev.loc (mem1 (mem1 mem0)) ?_
    with_reducible refine Evs.nil ?_
    with_reducible refine EvK.nil ?_
    refine ⟨[], rfl, rfl, ?_⟩
    refine (read_bytes B' (by omega) hh' ok hH ?_ ?_ ?_).cl
    · intro H' F
      with_reducible refine Evs.nil ?_
      with_reducible refine EvK.nil ?_
      refine ⟨[], rfl, rfl, ?_⟩
      refine (spelled_leaf B' (by omega) (.bytes _) ?_).cl
      with_reducible refine Then.ret ?_
      with_reducible refine Then.ret ?_
      with_reducible refine Then.ret ?_
      exact q _ F
    · intro u as H' F _
      have h1 := congrArg List.length F.flat
      rw [List.length_append, List.length_append, flat_nil, List.length_nil] at h1
      have h2 := Nat.lt_of_lt_of_le (F.end rfl).2 (Nat.min_le_left T.S T.M)
      have h3 := hc e3
      omega
    · intro hlt; omega
  rw [if_neg e3] at q
  with_reducible refine Exs.nil ?_
  with_reducible refine Then.next ?_
  with_reducible refine Exs.cons ?_
  with_reducible refine Ex.ret ?_
  refine Ev.call ?_
  refine Ev.g (by assumption) Gl.g_law_spelled (by rw [Callee.scope (by assumption)]; rfl) ?_
  refine ⟨Kp.ref (by rw [Ok.K (by assumption)]; k_is), ?_⟩
  refine Evs.cons ?_
  refine Ev.meth ?_
  with_reducible refine Ev.loc mem0 ?_
  refine' ⟨_, _, Mt.inst mem0 (mem1 mem0) (notKey rfl) ?w4_92, Kp.ref ?w5_92, ?wq_92⟩
  case w4_92 => (rw [Ok.K (by assumption)]; refine' methOK_mk ?ka_92 ?kb_92 ?kc_92 ?kd_92; (case kb_92 => k_is); (case ka_92 => k_is); (case kc_92 => k_is); (case kd_92 => k_is))
  case w5_92 => (rw [Ok.K (by assumption)]; k_is)
  with_reducible refine Evs.nil ?_
  with_reducible refine EvK.nil ?_
  refine ⟨[], rfl, rfl, ?_⟩
  refine (unpack B' (by omega) hh' ok hH hM ?_ ?_ ?_).cl
  · intro v G' H' told F
    with_reducible refine Evs.nil ?_
    with_reducible refine EvK.nil ?_
    refine ⟨[], rfl, rfl, ?_⟩
    refine spelled_told B' (by omega) hh' told (hs F.full) F fun H'' F' => ?_
    with_reducible refine Then.ret ?_
    with_reducible refine Then.ret ?_
    exact q _ F'
  · intro H' E
    exact hit_short B' hx hlk (by decide) hex (qe _ E)
  · intro hlt; omega
/-- _law_fed -/
theorem law_fed (B : Ok c) (hr : 2 ≤ c.rm) (hh : c.A.handled = none) {A : RA} {R M i k off : Int} {b : Array UInt8} {ps : List (Array UInt8)} {as : List Int} {G : Hp} (q : Q (.str "refused") (RH A R M b i k off ps as G)) : ClC c (.ref 526) [.ref A.a] [] ρ (RH A R M b i k off ps as G) Q X := by
  refine' ClC.fn (bs := [("used", .ref A.a)]) (rest := []) ?ho ?hcd ?hst ?hb (by omega) ?h
  case ho => rw [B.K]; k_is
  case hcd => rw [B.K]; k_is
  case hst => rfl
  case hb =>
    intro z vs ks hv hk; obtain _ | ⟨g1, hv⟩ := hv; cases hv; cases hk
    exact ⟨_, fun S => by kernel_rfl, .cons g1 .nil⟩
  intro c' C
  have B' := B.callee C
  have hh' : c'.A.handled = none := C.handled.trans hh
  have hrm := C.rm
  change Exs c' _ [("used", some (.ref A.a))] _ _ _
  with_reducible refine Exs.cons ?_
  refine Ex.try C.own ?_
  with_reducible refine Exs.cons ?_
  refine Ex.exprS ?_
  refine Ev.meth ?_
  with_reducible refine Ev.loc mem0 ?_
  refine' ⟨_, _, Mt.inst mem0 (mem1 mem0) (notKey rfl) ?w4_106, Kp.ref ?w5_106, ?wq_106⟩
  case w4_106 => (rw [Ok.K (by assumption)]; refine' methOK_mk ?ka_106 ?kb_106 ?kc_106 ?kd_106; (case kb_106 => k_is); (case ka_106 => k_is); (case kc_106 => k_is); (case kd_106 => k_is))
  case w5_106 => (rw [Ok.K (by assumption)]; k_is)
  refine Evs.cons ?_
  with_reducible refine Ev.bytes ?_
  with_reducible refine Evs.nil ?_
  with_reducible refine EvK.nil ?_
  refine ⟨[], rfl, rfl, ?_⟩
  refine (feed B' (by omega) hh' ?_).cl
  refine Hnd.hit (by rw [B'.gl]; exact Gl.g_AssertionError) (by rw [C.scope]; rfl) rfl (by rw [B'.K]; kts_exm) nofun fun e => ?_
  exact Exs.cons (Ex.ret (Ev.str ⟨_, .refl _, q⟩))
end
end
section


section
variable {c : Cx} {ρ : Loc} {H : Hp} {Q : V → Hp → Prop} {X : XP}
/-- Unpacker(file, ..) -/
theorem unpacker_make (B : Ok c) (hr : 4 ≤ c.rm) (hh : c.A.handled = none) {A : RA} {ps : List (Array UInt8)} {as : List Int} {R0 M : Nat} (hM : 1 ≤ M) {kw : List (Str × V)}
    (hkw : (kw = ([("read_size", .int R0)] : List (Str × V)) ∧ M = 104857600) ∨ (kw = [] ∧ R0 = 0 ∧ M = 104857600) ∨ kw = ([("read_size", .int R0), ("max_buffer_size", .int M)] : List (Str × V)))
    (q : R0 ≤ M → ∀ a d ba, Q (.ref a) (RH ⟨a, d, ba, A.f, A.fd, A.pl, A.al⟩ (if R0 = 0 then min M 16384 else R0 : Nat) M #[] 0 0 0 ps as H))
    (qx : M < R0 → X (.type "ValueError") ρ H) : Cl c (.ref 445) [.ref A.f] kw ρ (FH A ps as H) Q X := by
  refine Cl.fit ?_
  refine' Cl.make ?hm ?hi ?hf (by omega) ?_
  case hi => rw [B.K]; k_is
  case hm => rw [B.K]; k_is
  case hf => rw [B.K]; k_is
  intro c₂ U x d
  have B₂ : Ok c₂ := ⟨by rw [U.K, B.K, U.w], by rw [U.gl, B.gl]⟩
  have hrm := U.rm
  have hh₂ : c₂.A.handled = none := U.handled.trans hh
  refine' ClC.fn (bs := [("self", .ref x), ("file_like", .ref A.f), ("read_size", .int R0), ("use_list", .bool true), ("raw", .bool false), ("timestamp", .int 0), ("strict_map_key", .bool true), ("object_hook", .none), ("object_pairs_hook", .none), ("list_hook", .none),
    ("unicode_errors", .none), ("max_buffer_size", .int M), ("ext_hook", .ref 160), ("max_str_len", .int (-1)), ("max_bin_len", .int (-1)), ("max_array_len", .int (-1)), ("max_map_len", .int (-1)), ("max_ext_len", .int (-1))]) (rest := []) ?ho ?hcd ?hst ?hb (by omega) ?h
  case ho => rw [B₂.K]; k_is
  case hcd => rw [B₂.K]; k_is
  case hst => rfl
  case hb =>
    intro z vs ks hv hk; obtain _ | ⟨g1, hv⟩ := hv; obtain _ | ⟨g2, hv⟩ := hv; cases hv
    rcases hkw with ⟨rfl, rfl⟩ | ⟨rfl, rfl, rfl⟩ | rfl
    · obtain _ | ⟨g3, hk⟩ := hk; cases hk
      refine' ⟨_, fun S => ?e, .cons g1 (.cons g2 (.cons g3 (.cons (.bool _) (.cons (.bool _) (.cons (.int 0 800) (.cons (.bool _) (.cons .none (.cons .none (.cons .none (.cons .none (.cons (.int _ 801) (.cons (.ref _) (.cons (.int _ 803) (.cons (.int _ 805) (.cons (.int _ 807) (.cons (.int _ 809) (.cons (.int _ 811) .nil)))))))))))))))))⟩
      case e => rw [B₂.K]; kernel_rfl
    · cases hk
      refine' ⟨_, fun S => ?e, .cons g1 (.cons g2 (.cons (.int _ 799) (.cons (.bool _) (.cons (.bool _) (.cons (.int 0 800) (.cons (.bool _) (.cons .none (.cons .none (.cons .none (.cons .none (.cons (.int _ 801) (.cons (.ref _) (.cons (.int _ 803) (.cons (.int _ 805) (.cons (.int _ 807) (.cons (.int _ 809) (.cons (.int _ 811) .nil)))))))))))))))))⟩
      case e => rw [B₂.K]; kernel_rfl
    · obtain _ | ⟨g3, hk⟩ := hk; obtain _ | ⟨g4, hk⟩ := hk; cases hk
      refine' ⟨_, fun S => ?e, .cons g1 (.cons g2 (.cons g3 (.cons (.bool _) (.cons (.bool _) (.cons (.int 0 800) (.cons (.bool _) (.cons .none (.cons .none (.cons .none (.cons .none (.cons g4 (.cons (.ref _) (.cons (.int _ 803) (.cons (.int _ 805) (.cons (.int _ 807) (.cons (.int _ 809) (.cons (.int _ 811) .nil)))))))))))))))))⟩
      case e => rw [B₂.K]; kernel_rfl
  intro c' C
  have B' := B₂.callee C
  have hh' : c'.A.handled = none := C.handled.trans hh₂
  change Exs c' _ [("self", some (.ref x)), ("file_like", some (.ref A.f)), ("read_size", some (.int R0)), ("use_list", some (.bool true)), ("raw", some (.bool false)), ("timestamp", some (.int 0)), ("strict_map_key", some (.bool true)), ("object_hook", some .none), ("object_pairs_hook", some .none), ("list_hook", some .none),
    ("unicode_errors", some .none), ("max_buffer_size", some (.int M)), ("ext_hook", some (.ref 160)), ("max_str_len", some (.int (-1))), ("max_bin_len", some (.int (-1))), ("max_array_len", some (.int (-1))), ("max_map_len", some (.int (-1))), ("max_ext_len", some (.int (-1)))] _ _ _
  refine Exs.fit ?_
  with_reducible refine Exs.cons ?_
  refine Ex.ite (Tt.tst (v := true) ?_ (ite_t ?_))
  · refine Tt.cmp ?_
    with_reducible refine Ev.loc (mem1 (mem1 (mem1 (mem1 (mem1 (mem1 (mem1 (mem1 (mem1 (mem1 mem0)))))))))) ?_
    with_reducible refine Ev.none ?_
    with_reducible refine c_isNone ?_
    exact Tst.mk
  with_reducible refine Exs.cons ?_
  refine Ex.assign ?_
  with_reducible refine Ev.str ?_
  refine put_and (Put.tail (Put.tail (Put.tail (Put.tail (Put.tail (Put.tail (Put.tail (Put.tail (Put.tail (Put.tail Put.head)))))))))) ?_
  with_reducible refine Then.next ?_
  with_reducible refine Exs.nil ?_
  with_reducible refine Then.next ?_
  with_reducible refine Exs.cons ?_
  with_reducible refine Ex.ite ?_
  refine Tt.tst (v := false) ?_ (ite_f ?_)
  · refine Tt.cmp ?_
    with_reducible refine Ev.loc (mem1 mem0) ?_
    with_reducible refine Ev.none ?_
    with_reducible refine c_isNone ?_
    exact Tst.mk
  with_reducible refine Exs.cons ?_
  refine Ex.ite (Tt.not (Tt.val ?_))
  refine Ev.call ?_
  refine Ev.g (by assumption) Gl.g_callable (by rw [Callee.scope (by assumption)]; rfl) ?_
  with_reducible refine ⟨Kp.bi, ?_⟩
  refine Evs.cons ?_
  refine Ev.attr ?_
  with_reducible refine Ev.loc (mem1 mem0) ?_
  refine Is.bound (f := 471) (by (with_reducible refine mem1 ?_; with_reducible refine mem1 ?_; with_reducible exact mem0)) (by (with_reducible refine mem1 ?_; with_reducible refine mem1 ?_; with_reducible refine mem1 ?_; with_reducible exact mem0)) (notKey rfl) (by rw [B'.K]; exact boundOK_mk (by k_is) (by k_is) (by k_is) (by k_is) (by k_is) (by k_is) (by decide)) fun m => ?_
  with_reducible refine Evs.nil ?_
  with_reducible refine EvK.nil ?_
  refine ⟨[], rfl, rfl, ?_⟩
  refine Cl.callableM (by with_reducible exact mem0) ?_
  with_reducible refine t_bool ?_
  refine ite_f ?_
  with_reducible refine Exs.nil ?_
  with_reducible refine Then.next ?_
  with_reducible refine Exs.cons ?_
  refine Ex.setAttr ?_
  with_reducible refine Ev.loc (mem1 mem0) ?_
  with_reducible refine Ev.loc mem0 ?_
  refine' set_and (mem1 mem0) (Upd.tail (Upd.tail Upd.head)) ?w3_39 ?w4_39 ?w5_39 ?wq_39
  case w3_39 => (refine' dset_n ?wh_39 ?we_39; (case wh_39 => rfl); (case we_39 => (simp only [List.cons_append, List.nil_append]; rfl)))
  case w4_39 => (rw [Ok.K (by assumption)]; refine' setOK_mk ?ka_39 ?kb_39 ?kc_39 ?kd_39; (case kc_39 => k_is); (case ka_39 => k_is); (case kb_39 => k_is); (case kd_39 => k_is))
  case w5_39 => exact Nat.le_of_ble_eq_true rfl
  with_reducible refine Then.next ?_
  with_reducible refine Exs.cons ?_
  refine Ex.setAttr ?_
  with_reducible refine Ev.bool ?_
  with_reducible refine Ev.loc mem0 ?_
  refine' set_and (mem1 mem0) (Upd.tail (Upd.tail Upd.head)) ?w3_45 ?w4_45 ?w5_45 ?wq_45
  case w3_45 => (refine' dset_n ?wh_45 ?we_45; (case wh_45 => rfl); (case we_45 => (simp only [List.cons_append, List.nil_append]; rfl)))
  case w4_45 => (rw [Ok.K (by assumption)]; refine' setOK_mk ?ka_45 ?kb_45 ?kc_45 ?kd_45; (case kc_45 => k_is); (case ka_45 => k_is); (case kb_45 => k_is); (case kd_45 => k_is))
  case w5_45 => exact Nat.le_of_ble_eq_true rfl
  with_reducible refine Then.next ?_
  with_reducible refine Exs.nil ?_
  with_reducible refine Then.next ?_
  with_reducible refine Exs.cons ?_
  refine Ex.setAttr ?_
  refine Ev.call ?_
  refine Ev.g (by assumption) Gl.g_bytearray (by rw [Callee.scope (by assumption)]; rfl) ?_
  with_reducible refine ⟨Kp.ty, ?_⟩
  with_reducible refine Evs.nil ?_
  with_reducible refine EvK.nil ?_
  refine ⟨[], rfl, rfl, ?_⟩
  refine Cl.baNew fun ba => ?_
  with_reducible refine Ev.loc mem0 ?_
  refine' set_and (mem1 (mem1 mem0)) (Upd.tail (Upd.tail (Upd.tail Upd.head))) ?w3_58 ?w4_58 ?w5_58 ?wq_58
  case w3_58 => (refine' dset_n ?wh_58 ?we_58; (case wh_58 => rfl); (case we_58 => (simp only [List.cons_append, List.nil_append]; rfl)))
  case w4_58 => (rw [Ok.K (by assumption)]; refine' setOK_mk ?ka_58 ?kb_58 ?kc_58 ?kd_58; (case kc_58 => k_is); (case ka_58 => k_is); (case kb_58 => k_is); (case kd_58 => k_is))
  case w5_58 => exact Nat.le_of_ble_eq_true rfl
  with_reducible refine Then.next ?_
  with_reducible refine Exs.cons ?_
  refine Ex.setAttr ?_
  with_reducible refine Ev.int ?_
  with_reducible refine Ev.loc mem0 ?_
  refine' set_and (mem1 (mem1 mem0)) (Upd.tail (Upd.tail (Upd.tail Upd.head))) ?w3_64 ?w4_64 ?w5_64 ?wq_64
  case w3_64 => (refine' dset_n ?wh_64 ?we_64; (case wh_64 => rfl); (case we_64 => (simp only [List.cons_append, List.nil_append]; rfl)))
  case w4_64 => (rw [Ok.K (by assumption)]; refine' setOK_mk ?ka_64 ?kb_64 ?kc_64 ?kd_64; (case kc_64 => k_is); (case ka_64 => k_is); (case kb_64 => k_is); (case kd_64 => k_is))
  case w5_64 => exact Nat.le_of_ble_eq_true rfl
  with_reducible refine Then.next ?_
  with_reducible refine Exs.cons ?_
  refine Ex.setAttr ?_
  with_reducible refine Ev.int ?_
  with_reducible refine Ev.loc mem0 ?_
  refine' set_and (mem1 (mem1 mem0)) (Upd.tail (Upd.tail (Upd.tail Upd.head))) ?w3_70 ?w4_70 ?w5_70 ?wq_70
  case w3_70 => (refine' dset_n ?wh_70 ?we_70; (case wh_70 => rfl); (case we_70 => (simp only [List.cons_append, List.nil_append]; rfl)))
  case w4_70 => (rw [Ok.K (by assumption)]; refine' setOK_mk ?ka_70 ?kb_70 ?kc_70 ?kd_70; (case kc_70 => k_is); (case ka_70 => k_is); (case kb_70 => k_is); (case kd_70 => k_is))
  case w5_70 => exact Nat.le_of_ble_eq_true rfl
  with_reducible refine Then.next ?_
  with_reducible refine Exs.cons ?_
  with_reducible refine Ex.ite ?_
  refine Tt.tst (v := false) ?_ (ite_f ?_)
  · refine Tt.not (Tt.val ?_)
    with_reducible refine Ev.loc (mem1 (mem1 (mem1 (mem1 (mem1 (mem1 (mem1 (mem1 (mem1 (mem1 (mem1 mem0))))))))))) ?_
    with_reducible refine t_int ?_
    exact ⟨by rw [decide_eq_true (show (M : Int) ≠ 0 by omega)]; rfl, rfl⟩
  with_reducible refine Exs.nil ?_
  with_reducible refine Then.next ?_
  with_reducible refine Exs.cons ?_
  with_reducible refine Ex.ite ?_
  refine Tt.tst (v := true) ?_ (ite_t ?_)
  · refine Tt.cmp ?_
    with_reducible refine Ev.loc (mem1 (mem1 (mem1 (mem1 (mem1 (mem1 (mem1 (mem1 (mem1 (mem1 (mem1 (mem1 (mem1 mem0))))))))))))) ?_
    with_reducible refine Ev.un ?_
    with_reducible refine Ev.int ?_
    with_reducible refine d_neg ?_
    with_reducible refine c_eq ?_
    exact ⟨by decide, rfl⟩
  with_reducible refine Exs.cons ?_
  refine Ex.assign ?_
  with_reducible refine Ev.loc (mem1 (mem1 (mem1 (mem1 (mem1 (mem1 (mem1 (mem1 (mem1 (mem1 (mem1 mem0))))))))))) ?_
  refine put_and (Put.tail (Put.tail (Put.tail (Put.tail (Put.tail (Put.tail (Put.tail (Put.tail (Put.tail (Put.tail (Put.tail (Put.tail (Put.tail Put.head))))))))))))) ?_
  with_reducible refine Then.next ?_
  with_reducible refine Exs.nil ?_
  with_reducible refine Then.next ?_
  with_reducible refine Exs.cons ?_
  with_reducible refine Ex.ite ?_
  refine Tt.tst (v := true) ?_ (ite_t ?_)
  · refine Tt.cmp ?_
    with_reducible refine Ev.loc (mem1 (mem1 (mem1 (mem1 (mem1 (mem1 (mem1 (mem1 (mem1 (mem1 (mem1 (mem1 (mem1 (mem1 mem0)))))))))))))) ?_
    with_reducible refine Ev.un ?_
    with_reducible refine Ev.int ?_
    with_reducible refine d_neg ?_
    with_reducible refine c_eq ?_
    exact ⟨by decide, rfl⟩
  with_reducible refine Exs.cons ?_
  refine Ex.assign ?_
  with_reducible refine Ev.loc (mem1 (mem1 (mem1 (mem1 (mem1 (mem1 (mem1 (mem1 (mem1 (mem1 (mem1 mem0))))))))))) ?_
  refine put_and (Put.tail (Put.tail (Put.tail (Put.tail (Put.tail (Put.tail (Put.tail (Put.tail (Put.tail (Put.tail (Put.tail (Put.tail (Put.tail (Put.tail Put.head)))))))))))))) ?_
  with_reducible refine Then.next ?_
  with_reducible refine Exs.nil ?_
  with_reducible refine Then.next ?_
  with_reducible refine Exs.cons ?_
  with_reducible refine Ex.ite ?_
  refine Tt.tst (v := true) ?_ (ite_t ?_)
  · refine Tt.cmp ?_
    with_reducible refine Ev.loc (mem1 (mem1 (mem1 (mem1 (mem1 (mem1 (mem1 (mem1 (mem1 (mem1 (mem1 (mem1 (mem1 (mem1 (mem1 mem0))))))))))))))) ?_
    with_reducible refine Ev.un ?_
    with_reducible refine Ev.int ?_
    with_reducible refine d_neg ?_
    with_reducible refine c_eq ?_
    exact ⟨by decide, rfl⟩
  with_reducible refine Exs.cons ?_
  refine Ex.assign ?_
  with_reducible refine Ev.loc (mem1 (mem1 (mem1 (mem1 (mem1 (mem1 (mem1 (mem1 (mem1 (mem1 (mem1 mem0))))))))))) ?_
  refine put_and (Put.tail (Put.tail (Put.tail (Put.tail (Put.tail (Put.tail (Put.tail (Put.tail (Put.tail (Put.tail (Put.tail (Put.tail (Put.tail (Put.tail (Put.tail Put.head))))))))))))))) ?_
  with_reducible refine Then.next ?_
  with_reducible refine Exs.nil ?_
  with_reducible refine Then.next ?_
  with_reducible refine Exs.cons ?_
  with_reducible refine Ex.ite ?_
  refine Tt.tst (v := true) ?_ (ite_t ?_)
  · refine Tt.cmp ?_
    with_reducible refine Ev.loc (mem1 (mem1 (mem1 (mem1 (mem1 (mem1 (mem1 (mem1 (mem1 (mem1 (mem1 (mem1 (mem1 (mem1 (mem1 (mem1 mem0)))))))))))))))) ?_
    with_reducible refine Ev.un ?_
    with_reducible refine Ev.int ?_
    with_reducible refine d_neg ?_
    with_reducible refine c_eq ?_
    exact ⟨by decide, rfl⟩
  with_reducible refine Exs.cons ?_
  refine Ex.assign ?_
  with_reducible refine Ev.bin ?_
  with_reducible refine Ev.loc (mem1 (mem1 (mem1 (mem1 (mem1 (mem1 (mem1 (mem1 (mem1 (mem1 (mem1 mem0))))))))))) ?_
  with_reducible refine Ev.int ?_
  with_reducible refine d_fdiv (by decide) (by decide) ?_
  refine put_and (Put.tail (Put.tail (Put.tail (Put.tail (Put.tail (Put.tail (Put.tail (Put.tail (Put.tail (Put.tail (Put.tail (Put.tail (Put.tail (Put.tail (Put.tail (Put.tail Put.head)))))))))))))))) ?_
  with_reducible refine Then.next ?_
  with_reducible refine Exs.nil ?_
  with_reducible refine Then.next ?_
  with_reducible refine Exs.cons ?_
  with_reducible refine Ex.ite ?_
  refine Tt.tst (v := true) ?_ (ite_t ?_)
  · refine Tt.cmp ?_
    with_reducible refine Ev.loc (mem1 (mem1 (mem1 (mem1 (mem1 (mem1 (mem1 (mem1 (mem1 (mem1 (mem1 (mem1 (mem1 (mem1 (mem1 (mem1 (mem1 mem0))))))))))))))))) ?_
    with_reducible refine Ev.un ?_
    with_reducible refine Ev.int ?_
    with_reducible refine d_neg ?_
    with_reducible refine c_eq ?_
    exact ⟨by decide, rfl⟩
  with_reducible refine Exs.cons ?_
  refine Ex.assign ?_
  with_reducible refine Ev.loc (mem1 (mem1 (mem1 (mem1 (mem1 (mem1 (mem1 (mem1 (mem1 (mem1 (mem1 mem0))))))))))) ?_
  refine put_and (Put.tail (Put.tail (Put.tail (Put.tail (Put.tail (Put.tail (Put.tail (Put.tail (Put.tail (Put.tail (Put.tail (Put.tail (Put.tail (Put.tail (Put.tail (Put.tail (Put.tail Put.head))))))))))))))))) ?_
  with_reducible refine Then.next ?_
  with_reducible refine Exs.nil ?_
  with_reducible refine Then.next ?_
  with_reducible refine Exs.cons ?_
  refine Ex.setAttr ?_
  with_reducible refine Ev.loc (mem1 (mem1 (mem1 (mem1 (mem1 (mem1 (mem1 (mem1 (mem1 (mem1 (mem1 mem0))))))))))) ?_
  with_reducible refine Ev.loc mem0 ?_
  refine' set_and (mem1 (mem1 mem0)) (Upd.tail (Upd.tail (Upd.tail Upd.head))) ?w3_160 ?w4_160 ?w5_160 ?wq_160
  case w3_160 => (refine' dset_n ?wh_160 ?we_160; (case wh_160 => rfl); (case we_160 => (simp only [List.cons_append, List.nil_append]; rfl)))
  case w4_160 => (rw [Ok.K (by assumption)]; refine' setOK_mk ?ka_160 ?kb_160 ?kc_160 ?kd_160; (case kc_160 => k_is); (case ka_160 => k_is); (case kb_160 => k_is); (case kd_160 => k_is))
  case w5_160 => exact Nat.le_of_ble_eq_true rfl
  with_reducible refine Then.next ?_
  with_reducible refine Exs.cons ?_
  with_reducible refine Ex.ite ?_
  refine Tt.tst (v := decide (M < R0)) ?_ (ite_d (fun e1 => ?_) (fun e1 => ?_))
  · refine Tt.cmp ?_
    with_reducible refine Ev.loc (mem1 (mem1 mem0)) ?_
    refine Ev.attr ?_
    with_reducible refine Ev.loc mem0 ?_
    refine' Do1.is (Is.attr (mem1 (mem1 mem0)) (mem1 (mem1 (mem1 mem0))) (mem1 (mem1 (mem1 (mem1 (mem1 mem0))))) ?w4_168 rfl) ?wq_168
    case w4_168 => (rw [Ok.K (by assumption)]; refine' attrOK_mk ?ka_168 ?kb_168 ?kc_168 ?kd_168; (case kc_168 => k_is); (case ka_168 => k_is); (case kb_168 => k_is); (case kd_168 => k_is))
    with_reducible refine c_gt ?_
    exact ⟨decide_eq_decide.mpr (by omega), rfl⟩
  · with_reducible refine Exs.cons ?_
    exact Ex.raiseB PySem.F.excCall_ValueError PySem.F.excRaise_ValueError hh' (by rw [B'.gl]; exact Gl.g_ValueError) (by rw [C.scope]; rfl) (.mk (H' := H) (G := [_, _, _, _, _, _, _, _]) (List.perm_append_comm (l₁ := [_, _, _, _, _, _, _, _])) (.self (qx e1)))
  with_reducible refine Exs.nil ?_
  with_reducible refine Then.next ?_
  with_reducible refine Exs.cons ?_
  refine Ex.setAttr ?_
  refine Ev.val (v := .int ((if R0 = 0 then min M 16384 else R0 : Nat) : Int)) ?_ ?_
  · refine Ev.or ?_
    with_reducible refine Ev.loc (mem1 (mem1 mem0)) ?_
    refine t_int ?_
    refine ite_d (fun e2 => ?_) (fun e2 => ?_)
    · rw [if_neg (by omega)]; exact Val.mk
    · rw [if_pos (by omega)]
      refine Ev.call ?_
      refine Ev.g (by assumption) Gl.g_min (by rw [Callee.scope (by assumption)]; rfl) ?_
      with_reducible refine ⟨Kp.bi, ?_⟩
      refine Evs.cons ?_
      refine Ev.attr ?_
      with_reducible refine Ev.loc mem0 ?_
      refine' Do1.is (Is.attr (mem1 (mem1 mem0)) (mem1 (mem1 (mem1 mem0))) (mem1 (mem1 (mem1 (mem1 (mem1 mem0))))) ?w4_181 rfl) ?wq_181
      case w4_181 => (rw [Ok.K (by assumption)]; refine' attrOK_mk ?ka_181 ?kb_181 ?kc_181 ?kd_181; (case kc_181 => k_is); (case ka_181 => k_is); (case kb_181 => k_is); (case kd_181 => k_is))
      refine Evs.cons ?_
      with_reducible refine Ev.bin ?_
      with_reducible refine Ev.int ?_
      with_reducible refine Ev.int ?_
      with_reducible refine d_mul (by first | exact IntMulOk.of_left (by decide) | exact IntMulOk.of_right (by decide)) ?_
      with_reducible refine Evs.nil ?_
      with_reducible refine EvK.nil ?_
      refine ⟨[], rfl, rfl, ?_⟩
      refine Cl.min2 hh' ⟨?_, rfl⟩
      congr 1; omega
  with_reducible refine Ev.loc mem0 ?_
  refine' set_and (mem1 (mem1 mem0)) (Upd.tail (Upd.tail (Upd.tail Upd.head))) ?w3_191 ?w4_191 ?w5_191 ?wq_191
  case w3_191 => (refine' dset_n ?wh_191 ?we_191; (case wh_191 => rfl); (case we_191 => (simp only [List.cons_append, List.nil_append]; rfl)))
  case w4_191 => (rw [Ok.K (by assumption)]; refine' setOK_mk ?ka_191 ?kb_191 ?kc_191 ?kd_191; (case kc_191 => k_is); (case ka_191 => k_is); (case kb_191 => k_is); (case kd_191 => k_is))
  case w5_191 => exact Nat.le_of_ble_eq_true rfl
  with_reducible refine Then.next ?_
  with_reducible refine Exs.cons ?_
  refine Ex.setAttr ?_
  refine Ev.call ?_
  refine Ev.g (by assumption) Gl.g_bool (by rw [Callee.scope (by assumption)]; rfl) ?_
  with_reducible refine ⟨Kp.ty, ?_⟩
  refine Evs.cons ?_
  with_reducible refine Ev.loc (mem1 (mem1 (mem1 (mem1 mem0)))) ?_
  with_reducible refine Evs.nil ?_
  with_reducible refine EvK.nil ?_
  refine ⟨[], rfl, rfl, ?_⟩
  refine Cl.bool ?_
  with_reducible refine Ev.loc mem0 ?_
  refine' set_and (mem1 (mem1 mem0)) (Upd.tail (Upd.tail (Upd.tail Upd.head))) ?w3_204 ?w4_204 ?w5_204 ?wq_204
  case w3_204 => (refine' dset_n ?wh_204 ?we_204; (case wh_204 => rfl); (case we_204 => (simp only [List.cons_append, List.nil_append]; rfl)))
  case w4_204 => (rw [Ok.K (by assumption)]; refine' setOK_mk ?ka_204 ?kb_204 ?kc_204 ?kd_204; (case kc_204 => k_is); (case ka_204 => k_is); (case kb_204 => k_is); (case kd_204 => k_is))
  case w5_204 => exact Nat.le_of_ble_eq_true rfl
  with_reducible refine Then.next ?_
  with_reducible refine Exs.cons ?_
  refine Ex.setAttr ?_
  refine Ev.call ?_
  refine Ev.g (by assumption) Gl.g_bool (by rw [Callee.scope (by assumption)]; rfl) ?_
  with_reducible refine ⟨Kp.ty, ?_⟩
  refine Evs.cons ?_
  with_reducible refine Ev.loc (mem1 (mem1 (mem1 (mem1 (mem1 (mem1 mem0)))))) ?_
  with_reducible refine Evs.nil ?_
  with_reducible refine EvK.nil ?_
  refine ⟨[], rfl, rfl, ?_⟩
  refine Cl.bool ?_
  with_reducible refine Ev.loc mem0 ?_
  refine' set_and (mem1 (mem1 mem0)) (Upd.tail (Upd.tail (Upd.tail Upd.head))) ?w3_217 ?w4_217 ?w5_217 ?wq_217
  case w3_217 => (refine' dset_n ?wh_217 ?we_217; (case wh_217 => rfl); (case we_217 => (simp only [List.cons_append, List.nil_append]; rfl)))
  case w4_217 => (rw [Ok.K (by assumption)]; refine' setOK_mk ?ka_217 ?kb_217 ?kc_217 ?kd_217; (case kc_217 => k_is); (case ka_217 => k_is); (case kb_217 => k_is); (case kd_217 => k_is))
  case w5_217 => exact Nat.le_of_ble_eq_true rfl
  with_reducible refine Then.next ?_
  with_reducible refine Exs.cons ?_
  refine Ex.setAttr ?_
  with_reducible refine Ev.loc (mem1 (mem1 (mem1 (mem1 (mem1 (mem1 (mem1 (mem1 (mem1 (mem1 mem0)))))))))) ?_
  with_reducible refine Ev.loc mem0 ?_
  refine' set_and (mem1 (mem1 mem0)) (Upd.tail (Upd.tail (Upd.tail Upd.head))) ?w3_223 ?w4_223 ?w5_223 ?wq_223
  case w3_223 => (refine' dset_n ?wh_223 ?we_223; (case wh_223 => rfl); (case we_223 => (simp only [List.cons_append, List.nil_append]; rfl)))
  case w4_223 => (rw [Ok.K (by assumption)]; refine' setOK_mk ?ka_223 ?kb_223 ?kc_223 ?kd_223; (case kc_223 => k_is); (case ka_223 => k_is); (case kb_223 => k_is); (case kd_223 => k_is))
  case w5_223 => exact Nat.le_of_ble_eq_true rfl
  with_reducible refine Then.next ?_
  with_reducible refine Exs.cons ?_
  refine Ex.setAttr ?_
  with_reducible refine Ev.loc (mem1 (mem1 (mem1 mem0))) ?_
  with_reducible refine Ev.loc mem0 ?_
  refine' set_and (mem1 (mem1 mem0)) (Upd.tail (Upd.tail (Upd.tail Upd.head))) ?w3_229 ?w4_229 ?w5_229 ?wq_229
  case w3_229 => (refine' dset_n ?wh_229 ?we_229; (case wh_229 => rfl); (case we_229 => (simp only [List.cons_append, List.nil_append]; rfl)))
  case w4_229 => (rw [Ok.K (by assumption)]; refine' setOK_mk ?ka_229 ?kb_229 ?kc_229 ?kd_229; (case kc_229 => k_is); (case ka_229 => k_is); (case kb_229 => k_is); (case kd_229 => k_is))
  case w5_229 => exact Nat.le_of_ble_eq_true rfl
  with_reducible refine Then.next ?_
  with_reducible refine Exs.cons ?_
  with_reducible refine Ex.ite ?_
  refine Tt.not (Tt.chainV (p := decide ((0 : Int) ≤ 0)) (q := decide ((0 : Int) ≤ 2)) (a := .int 0) (b := .int 0) (d := .int 2) (by (with_reducible refine Ev.int ?_; exact Val.mk)) (by (with_reducible refine Ev.loc (mem1 (mem1 (mem1 (mem1 (mem1 mem0))))) ?_; exact Val.mk)) (by (with_reducible refine Ev.int ?_; exact Val.mk)) Is.le Is.le (ite_f ?_))
  with_reducible refine Exs.nil ?_
  with_reducible refine Then.next ?_
  with_reducible refine Exs.cons ?_
  refine Ex.setAttr ?_
  with_reducible refine Ev.loc (mem1 (mem1 (mem1 (mem1 (mem1 mem0))))) ?_
  with_reducible refine Ev.loc mem0 ?_
  refine' set_and (mem1 (mem1 mem0)) (Upd.tail (Upd.tail (Upd.tail Upd.head))) ?w3_245 ?w4_245 ?w5_245 ?wq_245
  case w3_245 => (refine' dset_n ?wh_245 ?we_245; (case wh_245 => rfl); (case we_245 => (simp only [List.cons_append, List.nil_append]; rfl)))
  case w4_245 => (rw [Ok.K (by assumption)]; refine' setOK_mk ?ka_245 ?kb_245 ?kc_245 ?kd_245; (case kc_245 => k_is); (case ka_245 => k_is); (case kb_245 => k_is); (case kd_245 => k_is))
  case w5_245 => exact Nat.le_of_ble_eq_true rfl
  with_reducible refine Then.next ?_
  with_reducible refine Exs.cons ?_
  refine Ex.setAttr ?_
  with_reducible refine Ev.loc (mem1 (mem1 (mem1 (mem1 (mem1 (mem1 (mem1 (mem1 (mem1 mem0))))))))) ?_
  with_reducible refine Ev.loc mem0 ?_
  refine' set_and (mem1 (mem1 mem0)) (Upd.tail (Upd.tail (Upd.tail Upd.head))) ?w3_251 ?w4_251 ?w5_251 ?wq_251
  case w3_251 => (refine' dset_n ?wh_251 ?we_251; (case wh_251 => rfl); (case we_251 => (simp only [List.cons_append, List.nil_append]; rfl)))
  case w4_251 => (rw [Ok.K (by assumption)]; refine' setOK_mk ?ka_251 ?kb_251 ?kc_251 ?kd_251; (case kc_251 => k_is); (case ka_251 => k_is); (case kb_251 => k_is); (case kd_251 => k_is))
  case w5_251 => exact Nat.le_of_ble_eq_true rfl
  with_reducible refine Then.next ?_
  with_reducible refine Exs.cons ?_
  refine Ex.setAttr ?_
  with_reducible refine Ev.loc (mem1 (mem1 (mem1 (mem1 (mem1 (mem1 (mem1 mem0))))))) ?_
  with_reducible refine Ev.loc mem0 ?_
  refine' set_and (mem1 (mem1 mem0)) (Upd.tail (Upd.tail (Upd.tail Upd.head))) ?w3_257 ?w4_257 ?w5_257 ?wq_257
  case w3_257 => (refine' dset_n ?wh_257 ?we_257; (case wh_257 => rfl); (case we_257 => (simp only [List.cons_append, List.nil_append]; rfl)))
  case w4_257 => (rw [Ok.K (by assumption)]; refine' setOK_mk ?ka_257 ?kb_257 ?kc_257 ?kd_257; (case kc_257 => k_is); (case ka_257 => k_is); (case kb_257 => k_is); (case kd_257 => k_is))
  case w5_257 => exact Nat.le_of_ble_eq_true rfl
  with_reducible refine Then.next ?_
  with_reducible refine Exs.cons ?_
  refine Ex.setAttr ?_
  with_reducible refine Ev.loc (mem1 (mem1 (mem1 (mem1 (mem1 (mem1 (mem1 (mem1 mem0)))))))) ?_
  with_reducible refine Ev.loc mem0 ?_
  refine' set_and (mem1 (mem1 mem0)) (Upd.tail (Upd.tail (Upd.tail Upd.head))) ?w3_263 ?w4_263 ?w5_263 ?wq_263
  case w3_263 => (refine' dset_n ?wh_263 ?we_263; (case wh_263 => rfl); (case we_263 => (simp only [List.cons_append, List.nil_append]; rfl)))
  case w4_263 => (rw [Ok.K (by assumption)]; refine' setOK_mk ?ka_263 ?kb_263 ?kc_263 ?kd_263; (case kc_263 => k_is); (case ka_263 => k_is); (case kb_263 => k_is); (case kd_263 => k_is))
  case w5_263 => exact Nat.le_of_ble_eq_true rfl
  with_reducible refine Then.next ?_
  with_reducible refine Exs.cons ?_
  refine Ex.setAttr ?_
  with_reducible refine Ev.loc (mem1 (mem1 (mem1 (mem1 (mem1 (mem1 (mem1 (mem1 (mem1 (mem1 (mem1 (mem1 mem0)))))))))))) ?_
  with_reducible refine Ev.loc mem0 ?_
  refine' set_and (mem1 (mem1 mem0)) (Upd.tail (Upd.tail (Upd.tail Upd.head))) ?w3_269 ?w4_269 ?w5_269 ?wq_269
  case w3_269 => (refine' dset_n ?wh_269 ?we_269; (case wh_269 => rfl); (case we_269 => (simp only [List.cons_append, List.nil_append]; rfl)))
  case w4_269 => (rw [Ok.K (by assumption)]; refine' setOK_mk ?ka_269 ?kb_269 ?kc_269 ?kd_269; (case kc_269 => k_is); (case ka_269 => k_is); (case kb_269 => k_is); (case kd_269 => k_is))
  case w5_269 => exact Nat.le_of_ble_eq_true rfl
  with_reducible refine Then.next ?_
  with_reducible refine Exs.cons ?_
  refine Ex.setAttr ?_
  with_reducible refine Ev.loc (mem1 (mem1 (mem1 (mem1 (mem1 (mem1 (mem1 (mem1 (mem1 (mem1 (mem1 (mem1 (mem1 mem0))))))))))))) ?_
  with_reducible refine Ev.loc mem0 ?_
  refine' set_and (mem1 (mem1 mem0)) (Upd.tail (Upd.tail (Upd.tail Upd.head))) ?w3_275 ?w4_275 ?w5_275 ?wq_275
  case w3_275 => (refine' dset_n ?wh_275 ?we_275; (case wh_275 => rfl); (case we_275 => (simp only [List.cons_append, List.nil_append]; rfl)))
  case w4_275 => (rw [Ok.K (by assumption)]; refine' setOK_mk ?ka_275 ?kb_275 ?kc_275 ?kd_275; (case kc_275 => k_is); (case ka_275 => k_is); (case kb_275 => k_is); (case kd_275 => k_is))
  case w5_275 => exact Nat.le_of_ble_eq_true rfl
  with_reducible refine Then.next ?_
  with_reducible refine Exs.cons ?_
  refine Ex.setAttr ?_
  with_reducible refine Ev.loc (mem1 (mem1 (mem1 (mem1 (mem1 (mem1 (mem1 (mem1 (mem1 (mem1 (mem1 (mem1 (mem1 (mem1 mem0)))))))))))))) ?_
  with_reducible refine Ev.loc mem0 ?_
  refine' set_and (mem1 (mem1 mem0)) (Upd.tail (Upd.tail (Upd.tail Upd.head))) ?w3_281 ?w4_281 ?w5_281 ?wq_281
  case w3_281 => (refine' dset_n ?wh_281 ?we_281; (case wh_281 => rfl); (case we_281 => (simp only [List.cons_append, List.nil_append]; rfl)))
  case w4_281 => (rw [Ok.K (by assumption)]; refine' setOK_mk ?ka_281 ?kb_281 ?kc_281 ?kd_281; (case kc_281 => k_is); (case ka_281 => k_is); (case kb_281 => k_is); (case kd_281 => k_is))
  case w5_281 => exact Nat.le_of_ble_eq_true rfl
  with_reducible refine Then.next ?_
  with_reducible refine Exs.cons ?_
  refine Ex.setAttr ?_
  with_reducible refine Ev.loc (mem1 (mem1 (mem1 (mem1 (mem1 (mem1 (mem1 (mem1 (mem1 (mem1 (mem1 (mem1 (mem1 (mem1 (mem1 mem0))))))))))))))) ?_
  with_reducible refine Ev.loc mem0 ?_
  refine' set_and (mem1 (mem1 mem0)) (Upd.tail (Upd.tail (Upd.tail Upd.head))) ?w3_287 ?w4_287 ?w5_287 ?wq_287
  case w3_287 => (refine' dset_n ?wh_287 ?we_287; (case wh_287 => rfl); (case we_287 => (simp only [List.cons_append, List.nil_append]; rfl)))
  case w4_287 => (rw [Ok.K (by assumption)]; refine' setOK_mk ?ka_287 ?kb_287 ?kc_287 ?kd_287; (case kc_287 => k_is); (case ka_287 => k_is); (case kb_287 => k_is); (case kd_287 => k_is))
  case w5_287 => exact Nat.le_of_ble_eq_true rfl
  with_reducible refine Then.next ?_
  with_reducible refine Exs.cons ?_
  refine Ex.setAttr ?_
  with_reducible refine Ev.loc (mem1 (mem1 (mem1 (mem1 (mem1 (mem1 (mem1 (mem1 (mem1 (mem1 (mem1 (mem1 (mem1 (mem1 (mem1 (mem1 mem0)))))))))))))))) ?_
  with_reducible refine Ev.loc mem0 ?_
  refine' set_and (mem1 (mem1 mem0)) (Upd.tail (Upd.tail (Upd.tail Upd.head))) ?w3_293 ?w4_293 ?w5_293 ?wq_293
  case w3_293 => (refine' dset_n ?wh_293 ?we_293; (case wh_293 => rfl); (case we_293 => (simp only [List.cons_append, List.nil_append]; rfl)))
  case w4_293 => (rw [Ok.K (by assumption)]; refine' setOK_mk ?ka_293 ?kb_293 ?kc_293 ?kd_293; (case kc_293 => k_is); (case ka_293 => k_is); (case kb_293 => k_is); (case kd_293 => k_is))
  case w5_293 => exact Nat.le_of_ble_eq_true rfl
  with_reducible refine Then.next ?_
  with_reducible refine Exs.cons ?_
  refine Ex.setAttr ?_
  with_reducible refine Ev.loc (mem1 (mem1 (mem1 (mem1 (mem1 (mem1 (mem1 (mem1 (mem1 (mem1 (mem1 (mem1 (mem1 (mem1 (mem1 (mem1 (mem1 mem0))))))))))))))))) ?_
  with_reducible refine Ev.loc mem0 ?_
  refine' set_and (mem1 (mem1 mem0)) (Upd.tail (Upd.tail (Upd.tail Upd.head))) ?w3_299 ?w4_299 ?w5_299 ?wq_299
  case w3_299 => (refine' dset_n ?wh_299 ?we_299; (case wh_299 => rfl); (case we_299 => (simp only [List.cons_append, List.nil_append]; rfl)))
  case w4_299 => (rw [Ok.K (by assumption)]; refine' setOK_mk ?ka_299 ?kb_299 ?kc_299 ?kd_299; (case kc_299 => k_is); (case ka_299 => k_is); (case kb_299 => k_is); (case kd_299 => k_is))
  case w5_299 => exact Nat.le_of_ble_eq_true rfl
  with_reducible refine Then.next ?_
  with_reducible refine Exs.cons ?_
  refine Ex.setAttr ?_
  with_reducible refine Ev.int ?_
  with_reducible refine Ev.loc mem0 ?_
  refine' set_and (mem1 (mem1 mem0)) (Upd.tail (Upd.tail (Upd.tail Upd.head))) ?w3_305 ?w4_305 ?w5_305 ?wq_305
  case w3_305 => (refine' dset_n ?wh_305 ?we_305; (case wh_305 => rfl); (case we_305 => (simp only [List.cons_append, List.nil_append]; rfl)))
  case w4_305 => (rw [Ok.K (by assumption)]; refine' setOK_mk ?ka_305 ?kb_305 ?kc_305 ?kd_305; (case kc_305 => k_is); (case ka_305 => k_is); (case kb_305 => k_is); (case kd_305 => k_is))
  case w5_305 => exact Nat.le_of_ble_eq_true rfl
  with_reducible refine Then.next ?_
  with_reducible refine Exs.cons ?_
  with_reducible refine Ex.ite ?_
  refine Tt.and (Tt.tst (v := false) ?_ ⟨fun _ => ite_f ?_, nofun⟩)
  · refine Tt.cmp ?_
    with_reducible refine Ev.loc (mem1 (mem1 (mem1 (mem1 (mem1 (mem1 (mem1 (mem1 (mem1 mem0))))))))) ?_
    with_reducible refine Ev.none ?_
    with_reducible refine c_notNone ?_
    exact Tst.mk
  with_reducible refine Exs.nil ?_
  with_reducible refine Then.next ?_
  with_reducible refine Exs.cons ?_
  refine Ex.ite (Tt.and (Tt.tst (v := false) ?_ ⟨fun _ => ite_f ?_, nofun⟩))
  · refine Tt.cmp ?_
    with_reducible refine Ev.loc (mem1 (mem1 (mem1 (mem1 (mem1 (mem1 (mem1 mem0))))))) ?_
    with_reducible refine Ev.none ?_
    with_reducible refine c_notNone ?_
    exact Tst.mk
  with_reducible refine Exs.nil ?_
  with_reducible refine Then.next ?_
  with_reducible refine Exs.cons ?_
  refine Ex.ite (Tt.and (Tt.tst (v := false) ?_ ⟨fun _ => ite_f ?_, nofun⟩))
  · refine Tt.cmp ?_
    with_reducible refine Ev.loc (mem1 (mem1 (mem1 (mem1 (mem1 (mem1 (mem1 (mem1 mem0)))))))) ?_
    with_reducible refine Ev.none ?_
    with_reducible refine c_notNone ?_
    exact Tst.mk
  with_reducible refine Exs.nil ?_
  with_reducible refine Then.next ?_
  with_reducible refine Exs.cons ?_
  refine Ex.ite (Tt.and (Tt.tst (v := false) ?_ ⟨fun _ => ite_f ?_, nofun⟩))
  · refine Tt.cmp ?_
    with_reducible refine Ev.loc (mem1 (mem1 (mem1 (mem1 (mem1 (mem1 (mem1 mem0))))))) ?_
    with_reducible refine Ev.none ?_
    with_reducible refine c_notNone ?_
    exact Tst.mk
  with_reducible refine Exs.nil ?_
  with_reducible refine Then.next ?_
  with_reducible refine Exs.cons ?_
  refine Ex.ite (Tt.not (Tt.val ?_))
  refine Ev.call ?_
  refine Ev.g (by assumption) Gl.g_callable (by rw [Callee.scope (by assumption)]; rfl) ?_
  with_reducible refine ⟨Kp.bi, ?_⟩
  refine Evs.cons ?_
  with_reducible refine Ev.loc (mem1 (mem1 (mem1 (mem1 (mem1 (mem1 (mem1 (mem1 (mem1 (mem1 (mem1 (mem1 mem0)))))))))))) ?_
  with_reducible refine Evs.nil ?_
  with_reducible refine EvK.nil ?_
  refine ⟨[], rfl, rfl, ?_⟩
  refine' Cl.callableC ?ty ?_
  case ty => rw [B'.K]; k_is
  with_reducible refine t_bool ?_
  refine ite_f ?_
  with_reducible refine Exs.nil ?_
  with_reducible refine Then.next ?_
  with_reducible refine Exs.nil ?_
  refine Fit.mk (H' := RH ⟨x, d, ba, A.f, A.fd, A.pl, A.al⟩ ((if R0 = 0 then min M 16384 else R0 : Nat) : Int) M #[] 0 0 0 ps as H) (G := [(m, .prop isMeth)]) ?_ ⟨rfl, .self (q (by omega) x d ba)⟩
  exact perm_init
end
end
section

section
variable {c : Cx} {ρ : Loc} {H : Hp} {Q : V → Hp → Prop} {X : XP}
/-- _law_made -/
theorem law_made (B : Ok c) (hr : 6 ≤ c.rm) (hh : c.A.handled = none) {R0 M : Nat} (hM : 1 ≤ M) (q : Q (.bool (decide (R0 ≤ M))) H) : ClC c (.ref 533) [.int R0, .int M] [] ρ H Q X := by
  refine' ClC.fn (bs := [("least", .int R0), ("room", .int M)]) (rest := []) ?ho ?hcd ?hst ?hb (by omega) ?h
  case ho => rw [B.K]; k_is
  case hcd => rw [B.K]; k_is
  case hst => rfl
  case hb =>
    intro z vs ks hv hk; obtain _ | ⟨g1, hv⟩ := hv; obtain _ | ⟨g2, hv⟩ := hv; cases hv; cases hk
    exact ⟨_, fun S => by kernel_rfl, .cons g1 (.cons g2 .nil)⟩
  intro c' C
  have B' := B.callee C
  have hh' : c'.A.handled = none := C.handled.trans hh
  have hrm := C.rm
  change Exs c' _ [("least", some (.int R0)), ("room", some (.int M))] _ _ _
  refine Exs.fit ?_
  with_reducible refine Exs.cons ?_
  refine Ex.try C.own ?_
  with_reducible refine Exs.cons ?_
  refine Ex.exprS ?_
  refine Ev.call ?_
  refine Ev.g (by assumption) Gl.g_Unpacker (by rw [Callee.scope (by assumption)]; rfl) ?_
  refine ⟨Kp.ref (by rw [Ok.K (by assumption)]; k_is), ?_⟩
  refine Evs.cons ?_
  refine Ev.call ?_
  refine Ev.g (by assumption) Gl.g_Parts (by rw [Callee.scope (by assumption)]; rfl) ?_
  refine ⟨Kp.ref (by rw [Ok.K (by assumption)]; k_is), ?_⟩
  refine Evs.cons ?_
  with_reducible refine Ev.lst ?_
  with_reducible refine Evs.nil ?_
  refine ⟨sz rfl, ?_⟩
  with_reducible refine Evs.nil ?_
  with_reducible refine EvK.nil ?_
  refine ⟨[], rfl, rfl, ?_⟩
  refine parts_make B' (by omega) (ps := []) (by decide) fun A => ?_
  with_reducible refine Evs.nil ?_
  with_reducible refine EvK.cons ?_
  with_reducible refine Ev.loc mem0 ?_
  with_reducible refine EvK.cons ?_
  with_reducible refine Ev.loc (mem1 mem0) ?_
  with_reducible refine EvK.nil ?_
  refine ⟨([("read_size", .int R0), ("max_buffer_size", .int M)] : List (Str × V)), rfl, rfl, ?_⟩
  refine unpacker_make B' (by omega) hh' hM (.inr (.inr rfl)) (fun hle a d ba => ?_) fun hlt => ?_
  · with_reducible refine Then.next ?_
    with_reducible refine Exs.nil ?_
    with_reducible refine Then.next ?_
    with_reducible refine Exs.cons ?_
    with_reducible refine Ex.ret ?_
    with_reducible refine Ev.bool ?_
    with_reducible refine Then.ret ?_
    rw [decide_eq_true hle] at q
    exact RH.fit q
  · rw [decide_eq_false (by omega)] at q
    refine Hnd.hit (by rw [B'.gl]; exact Gl.g_ValueError) (by rw [C.scope]; rfl) rfl (by rw [B'.K]; kts_exm) nofun fun e => ?_
    exact Exs.cons (Ex.ret (Ev.bool ⟨H, .refl _, .self q⟩))
/-- _law_tight -/
theorem law_tight (B : Ok c) (hr : 9 ≤ c.rm) (hh : c.A.handled = none) {n M : Nat} (hn : n < 16) (hM : 1 ≤ M) (hM2 : M ≤ 100) (hnM : n ≤ M) (q : Q (.int (if n + 1 ≤ M then 2 else 0)) H) : ClC c (.ref 540) [.int n, .int M] [] ρ H Q X := by
  refine' ClC.fn (bs := [("count", .int n), ("room", .int M)]) (rest := ["row", "used", "told"]) ?ho ?hcd ?hst ?hb (by omega) ?h
  case ho => rw [B.K]; k_is
  case hcd => rw [B.K]; k_is
  case hst => rfl
  case hb =>
    intro z vs ks hv hk; obtain _ | ⟨g1, hv⟩ := hv; obtain _ | ⟨g2, hv⟩ := hv; cases hv; cases hk
    exact ⟨_, fun S => by kernel_rfl, .cons g1 (.cons g2 .nil)⟩
  intro c' C
  have B' := B.callee C
  have hh' : c'.A.handled = none := C.handled.trans hh
  have hrm := C.rm
  change Exs c' _ [("count", some (.int n)), ("room", some (.int M)), ("row", none), ("used", none), ("told", none)] _ _ _
  refine Exs.fit ?_
  with_reducible refine Exs.cons ?_
  refine Ex.assign ?_
  refine Ev.val (v := .bytes (rowL n).toArray) ?_ ?_
  · with_reducible refine Ev.bin ?_
    refine Ev.call ?_
    refine Ev.g (by assumption) Gl.g_bytes (by rw [Callee.scope (by assumption)]; rfl) ?_
    with_reducible refine ⟨Kp.ty, ?_⟩
    refine Evs.cons ?_
    with_reducible refine Ev.lst ?_
    refine Evs.cons ?_
    with_reducible refine Ev.bin ?_
    with_reducible refine Ev.int ?_
    with_reducible refine Ev.loc mem0 ?_
    with_reducible refine d_add ?_
    with_reducible refine Evs.nil ?_
    refine ⟨sz rfl, ?_⟩
    with_reducible refine Evs.nil ?_
    with_reducible refine EvK.nil ?_
    refine ⟨[], rfl, rfl, ?_⟩
    refine Cl.bytes1 hh' (by omega) (by omega) ?_
    with_reducible refine Ev.bin ?_
    with_reducible refine Ev.bytes ?_
    with_reducible refine Ev.loc mem0 ?_
    refine Do2.is (Is.mulBytes (b := [192]) (n := n) nofun (by omega) (by omega) (by decide)) ?_
    refine Do2.is (Is.addBytes ?_) ⟨by rw [rowB_eq], rfl⟩
    rw [byteArr_size, Int.toNat_natCast, flatten_rep, List.size_toArray, List.length_replicate]
    show 1 + n ≤ _; omega
  have hrl : (rowL n).toArray.size = n + 1 := by rw [List.size_toArray, rowL_len]
  refine put_and (Put.tail (Put.tail Put.head)) ?_
  with_reducible refine Then.next ?_
  with_reducible refine Exs.cons ?_
  refine Ex.assign ?_
  refine Ev.call ?_
  refine Ev.g (by assumption) Gl.g_Unpacker (by rw [Callee.scope (by assumption)]; rfl) ?_
  refine ⟨Kp.ref (by rw [Ok.K (by assumption)]; k_is), ?_⟩
  refine Evs.cons ?_
  refine Ev.call ?_
  refine Ev.g (by assumption) Gl.g_Parts (by rw [Callee.scope (by assumption)]; rfl) ?_
  refine ⟨Kp.ref (by rw [Ok.K (by assumption)]; k_is), ?_⟩
  refine Evs.cons ?_
  with_reducible refine Ev.lst ?_
  refine Evs.cons ?_
  with_reducible refine Ev.bin ?_
  with_reducible refine Ev.loc (mem1 (mem1 mem0)) ?_
  with_reducible refine Ev.loc (mem1 (mem1 mem0)) ?_
  refine Do2.is (Is.addBytes (by omega)) ?_
  with_reducible refine Evs.nil ?_
  refine ⟨sz rfl, ?_⟩
  with_reducible refine Evs.nil ?_
  with_reducible refine EvK.nil ?_
  refine ⟨[], rfl, rfl, ?_⟩
  refine parts_make B' (by omega) (ps := [(rowL n).toArray ++ (rowL n).toArray]) (Nat.le_of_ble_eq_true rfl) fun A => ?_
  with_reducible refine Evs.nil ?_
  with_reducible refine EvK.cons ?_
  with_reducible refine Ev.int ?_
  with_reducible refine EvK.cons ?_
  with_reducible refine Ev.loc (mem1 mem0) ?_
  with_reducible refine EvK.nil ?_
  refine ⟨([("read_size", .int (1 : Nat)), ("max_buffer_size", .int M)] : List (Str × V)), rfl, rfl, ?_⟩
  refine unpacker_make B' (by omega) hh' hM (.inr (.inr rfl)) (fun hle a d ba => ?_) fun hlt => by omega
  rw [if_neg (show ¬ (1 = 0) by decide)]
  refine put_and (Put.tail (Put.tail (Put.tail Put.head))) ?_
  with_reducible refine Then.next ?_
  with_reducible refine Exs.cons ?_
  refine Ex.assign ?_
  refine Ev.list (Evs.nil ⟨sz rfl, fun t => ?_⟩)
  refine put_and (Put.tail (Put.tail (Put.tail (Put.tail Put.head)))) ?_
  with_reducible refine Then.next ?_
  with_reducible refine Exs.cons ?_
  refine Ex.perm RH.rot ?_
  have hfl : flat [(rowL n).toArray ++ (rowL n).toArray] = rowL n ++ rowL n := by simp [flat]
  let T1 : Task := { A := ⟨a, d, ba, A.f, A.fd, A.pl, A.al⟩, R := 1, M := M, S := n + 1, u0 := [], ps0 := [(rowL n).toArray ++ (rowL n).toArray], as0 := [], off := 0, W := rowL n ++ rowL n }
  have hl1 : (rowL n).length = n + 1 := rowL_len n
  have ok1 : T1.OK := {
    R1 := Nat.le_refl 1, R2 := (show 1 ≤ 100000 by decide), M1 := hM, M2 := (by show M ≤ 104857600; omega), S1 := (by show n + 1 ≤ 1000; omega)
    W := (by show [] ++ flat [_] <+: rowL n ++ rowL n; rw [hfl]; exact List.prefix_refl _)
    parts := (fun p hp => by rw [List.mem_singleton.mp hp, Array.size_append, hrl]; omega)
    size := (by show 0 + 0 + (flat [_]).length ≤ 10000; rw [hfl, List.length_append, hl1]; omega)
    asks := Nat.zero_le _ }
  have hId : Idl T1 ((t, .list []) :: H) (RH ⟨a, d, ba, A.f, A.fd, A.pl, A.al⟩ ((1 : Nat) : Int) M #[] 0 0 0 [(rowL n).toArray ++ (rowL n).toArray] [] ((t, .list []) :: H)) := ⟨[], Nat.zero_le _, rfl⟩
  have hex : exmOne c'.K (.ref 79) (.ref 79) = some true := by rw [B'.K]; kts_exm
  refine Ex.try C.own ?_
  with_reducible refine Exs.cons ?_
  refine Ex.exprS ?_
  refine Ev.meth ?_
  with_reducible refine Ev.loc (mem1 (mem1 (mem1 (mem1 mem0)))) ?_
  refine ⟨_, _, Mt.list (by (with_reducible refine mem1 ?_; with_reducible refine mem1 ?_; with_reducible refine mem1 ?_; with_reducible refine mem1 ?_; with_reducible refine mem1 ?_; with_reducible refine mem1 ?_; with_reducible refine mem1 ?_; with_reducible exact mem0)) slot_list_append type_list_append, Kp.bi, ?_⟩
  refine Evs.cons ?_
  refine Ev.meth ?_
  with_reducible refine Ev.loc (mem1 (mem1 (mem1 mem0))) ?_
  refine' ⟨_, _, Mt.inst mem0 (mem1 mem0) (notKey rfl) ?w4_95, Kp.ref ?w5_95, ?wq_95⟩
  case w4_95 => (rw [Ok.K (by assumption)]; refine' methOK_mk ?ka_95 ?kb_95 ?kc_95 ?kd_95; (case kb_95 => k_is); (case ka_95 => k_is); (case kc_95 => k_is); (case kd_95 => k_is))
  case w5_95 => (rw [Ok.K (by assumption)]; k_is)
  with_reducible refine Evs.nil ?_
  with_reducible refine EvK.nil ?_
  refine ⟨[], rfl, rfl, ?_⟩
  refine (unpack B' (by omega) hh' ok1 (T := T1) hId (msg_row hn hnM rfl) ?_ ?_ ?_).cl
  · intro v G' H' told F
    cases told
    obtain ⟨u, ps, as, F1, l, pre, hpre, rfl⟩ := F
    have ho := F1.one
    have hnM1 : n + 1 ≤ M := by
      have h1 : n + 1 ≤ u.length := l
      have h2 : u.length ≤ max 0 (min (n + 1) M) := ho
      omega
    have hfl1 : u ++ flat ps = rowL n ++ rowL n := F1.flat.trans hfl
    have hul : u.length = n + 1 := by
      have h1 : n + 1 ≤ u.length := l
      have h2 : u.length ≤ max 0 (min (n + 1) M) := ho
      omega
    obtain ⟨hu1, hu2⟩ := List.append_inj hfl1 (by rw [hul, hl1])
    let T2 : Task := { A := ⟨a, d, ba, A.f, A.fd, A.pl, A.al⟩, R := 1, M := M, S := n + 1, u0 := u.drop (n + 1), ps0 := ps, as0 := [] ++ as, off := 0 + (n + 1), W := rowL n }
    have hd0 : u.drop (n + 1) = [] := List.drop_eq_nil_of_le (by omega)
    have ok2 : T2.OK := {
      R1 := Nat.le_refl 1, R2 := (show 1 ≤ 100000 by decide), M1 := hM, M2 := (by show M ≤ 104857600; omega), S1 := (by show n + 1 ≤ 1000; omega)
      W := (by show u.drop (n + 1) ++ flat ps <+: rowL n; rw [hd0, List.nil_append, hu2]; exact List.prefix_refl _)
      parts := F1.parts ok1.parts
      size := (by show 0 + (n + 1) + (u.drop (n + 1)).length + (flat ps).length ≤ 10000; rw [hd0, hu2, hl1]; simp only [List.length_nil]; omega)
      asks := (by
        have h1 : as.length + (flat ps).length ≤ (flat [(rowL n).toArray ++ (rowL n).toArray]).length + 0 := F1.asLen (Nat.le_refl 1)
        rw [hfl, List.length_append, hl1] at h1
        show ([] ++ as).length ≤ 10000
        rw [List.nil_append]; omega) }
    with_reducible refine Evs.nil ?_
    with_reducible refine EvK.nil ?_
    refine ⟨[], rfl, rfl, ?_⟩
    refine Cl.append' (zs := [.lst (List.replicate n .none)]) rfl (by with_reducible exact (Upd.tail (Upd.tail (Upd.tail (Upd.tail (Upd.tail (Upd.tail (Upd.tail Upd.head)))))))) (by decide) ?_
    with_reducible refine Then.next ?_
    with_reducible refine Exs.cons ?_
    refine Ex.exprS ?_
    refine Ev.meth ?_
    with_reducible refine Ev.loc (mem1 (mem1 (mem1 (mem1 mem0)))) ?_
    refine ⟨_, _, Mt.list (by (with_reducible refine mem1 ?_; with_reducible refine mem1 ?_; with_reducible refine mem1 ?_; with_reducible refine mem1 ?_; with_reducible refine mem1 ?_; with_reducible refine mem1 ?_; with_reducible refine mem1 ?_; with_reducible exact mem0)) slot_list_append type_list_append, Kp.bi, ?_⟩
    refine Evs.cons ?_
    refine Ev.meth ?_
    with_reducible refine Ev.loc (mem1 (mem1 (mem1 mem0))) ?_
    refine' ⟨_, _, Mt.inst mem0 (mem1 mem0) (notKey rfl) ?w4_112, Kp.ref ?w5_112, ?wq_112⟩
    case w4_112 => (rw [Ok.K (by assumption)]; refine' methOK_mk ?ka_112 ?kb_112 ?kc_112 ?kd_112; (case kb_112 => k_is); (case ka_112 => k_is); (case kc_112 => k_is); (case kd_112 => k_is))
    case w5_112 => (rw [Ok.K (by assumption)]; k_is)
    with_reducible refine Evs.nil ?_
    with_reducible refine EvK.nil ?_
    refine ⟨[], rfl, rfl, ?_⟩
    refine (unpack B' (by omega) hh' ok2 (T := T2) (G := (t, .list [.lst (List.replicate n .none)]) :: H) ⟨pre, hpre, rfl⟩ (msg_row hn hnM (r := []) (by rw [List.append_nil])) ?_ ?_ ?_).cl
    · intro v G' H' told F
      cases told
      obtain ⟨u, ps, as, F2, l, pre, hpre, rfl⟩ := F
      with_reducible refine Evs.nil ?_
      with_reducible refine EvK.nil ?_
      refine ⟨[], rfl, rfl, ?_⟩
      refine Cl.append' (zs := [.lst (List.replicate n .none), .lst (List.replicate n .none)]) rfl (by with_reducible exact (Upd.tail (Upd.tail (Upd.tail (Upd.tail (Upd.tail (Upd.tail (Upd.tail Upd.head)))))))) (Nat.le_of_ble_eq_true rfl) ?_
      with_reducible refine Then.next ?_
      with_reducible refine Exs.nil ?_
      with_reducible refine Then.next ?_
      with_reducible refine Exs.cons ?_
      with_reducible refine Ex.ret ?_
      with_reducible refine Ev.ifexp ?_
      refine Tt.cmp ?_
      with_reducible refine Ev.loc (mem1 (mem1 (mem1 (mem1 mem0)))) ?_
      refine Ev.lst (Evs.cons (Ev.bin (Ev.list (Evs.cons (Ev.none (Evs.nil ⟨sz rfl, fun l1 => ?_⟩))))))
      with_reducible refine Ev.loc mem0 ?_
      refine mulList (by with_reducible exact mem0) (by omega) (by omega) ?_
      refine Evs.cons (Ev.bin (Ev.list (Evs.cons (Ev.none (Evs.nil ⟨sz rfl, fun l2 => ?_⟩)))))
      with_reducible refine Ev.loc mem0 ?_
      refine mulList (by with_reducible exact mem0) (by omega) (by omega) ?_
      refine Evs.nil ⟨sz rfl, ?_⟩
      rw [Int.toNat_natCast]
      refine ⟨true, Is.eqList (xs := [.lst (List.replicate n .none), .lst (List.replicate n .none)]) (.list (by (with_reducible refine mem1 ?_; with_reducible refine mem1 ?_; with_reducible refine mem1 ?_; with_reducible refine mem1 ?_; with_reducible refine mem1 ?_; with_reducible refine mem1 ?_; with_reducible refine mem1 ?_; with_reducible refine mem1 ?_; with_reducible refine mem1 ?_; with_reducible exact mem0))) .lst (fun x hx => ?_), ite_t ?_⟩
      · rcases List.mem_cons.mp hx with rfl | hx
        · exact vd_row n
        · rw [List.mem_singleton.mp hx]; exact vd_row n
      with_reducible refine Ev.int ?_
      with_reducible refine Then.ret ?_
      rw [if_pos hnM1] at q
      exact RH.fit3 q
    · intro H' E
      have := E.short
      have h1 : (u.drop (n + 1)).length + (flat ps).length < n + 1 := this
      rw [hu2, hl1] at h1
      omega
    · intro hlt
      have : M < n + 1 := hlt
      omega
  · intro H' E
    have := E.short
    have h1 : ([] : List UInt8).length + (flat [(rowL n).toArray ++ (rowL n).toArray]).length < n + 1 := this
    rw [hfl, List.length_append, hl1] at h1
    omega
  · intro hlt H' E
    have hlt : M < n + 1 := hlt
    rw [if_neg (by omega)] at q
    obtain ⟨b, i, k, ps, as, rfl⟩ := E
    refine Hnd.hit (by rw [B'.gl]; exact Gl.g_BufferFull) (by rw [C.scope]; rfl) rfl hex nofun fun e => ?_
    have Bm : Ok (c'.mk' e) := ⟨B'.K, B'.gl⟩
    have hsc : ScIs (c'.mk' e) _ := ⟨C.scope⟩
    clear hex hId ok1
    clear B B' C
    with_reducible refine Exs.cons ?_
    with_reducible refine Ex.ret ?_
    refine Ev.call ?_
    refine Ev.g (by assumption) Gl.g_len (by rw [ScIs.eq (by assumption)]; rfl) ?_
    with_reducible refine ⟨Kp.bi, ?_⟩
    refine Evs.cons ?_
    with_reducible refine Ev.loc (mem1 (mem1 (mem1 (mem1 mem0)))) ?_
    with_reducible refine Evs.nil ?_
    with_reducible refine EvK.nil ?_
    refine ⟨[], rfl, rfl, ?_⟩
    refine Cl.lenList (xs := []) (by (with_reducible refine mem1 ?_; with_reducible refine mem1 ?_; with_reducible refine mem1 ?_; with_reducible refine mem1 ?_; with_reducible refine mem1 ?_; with_reducible refine mem1 ?_; with_reducible refine mem1 ?_; with_reducible refine mem1 ?_; with_reducible exact mem0)) (by decide) ?_
    with_reducible refine Then.ret ?_
    exact ⟨_, .refl _, RH.fit1 q⟩
end
end
section

section
variable {c : Cx} {ρ : Loc} {H : Hp} {Q : V → Hp → Prop} {X : XP}
/-- _law_frugal -/
theorem law_frugal (B : Ok c) (hr : 1 ≤ c.rm) (hh : c.A.handled = none) {R S off due : Nat} {u u' : List UInt8} {ps ps' : List (Array UInt8)} {as : List Int} {e : Bool} (F : Frug R S u ps as u' ps' e) (hS : off + S ≤ due) (hR : 1 ≤ R)
    (hz : ps.length ≤ 100000) (hz1 : ∀ p ∈ ps, p.size ≤ 100000) (hz2 : as.length ≤ 100000)
    (q : Q (.bool true) H) : ClC c (.ref 547) [.lst (as.map V.int), .lst (ps.map V.bytes), .int ((off + u.length : Nat) : Int), .int due] [] ρ H Q X := by
  refine' ClC.fn (bs := [("asked", .lst (as.map V.int)), ("lying", .lst (ps.map V.bytes)), ("given", .int ((off + u.length : Nat) : Int)), ("due", .int due)]) (rest := ["over", "size", "part"]) ?ho ?hcd ?hst ?hb (by omega) ?h
  case ho => rw [B.K]; k_is
  case hcd => rw [B.K]; k_is
  case hst => rfl
  case hb =>
    intro z vs ks hv hk; obtain _ | ⟨g1, hv⟩ := hv; obtain _ | ⟨g2, hv⟩ := hv; obtain _ | ⟨g3, hv⟩ := hv; obtain _ | ⟨g4, hv⟩ := hv; cases hv; cases hk
    exact ⟨_, fun S => by kernel_rfl, .cons g1 (.cons g2 (.cons g3 (.cons g4 .nil)))⟩
  intro c' C
  have B' := B.callee C
  have hh' : c'.A.handled = none := C.handled.trans hh
  change Exs c' _ [("asked", some (.lst (as.map V.int))), ("lying", some (.lst (ps.map V.bytes))), ("given", some (.int ((off + u.length : Nat) : Int))), ("due", some (.int due)), ("over", none), ("size", none), ("part", none)] _ _ _
  with_reducible refine Exs.cons ?_
  refine Ex.assign ?_
  with_reducible refine Ev.bool ?_
  refine put_and (Put.tail (Put.tail (Put.tail (Put.tail Put.head)))) ?_
  with_reducible refine Then.next ?_
  with_reducible refine Exs.cons ?_
  refine Ex.for C.own hh' ?_
  with_reducible refine Ev.loc mem0 ?_
  refine ⟨_, _, fun i ρ' H' => ∃ u2 ps2 v1 v2 ov, ρ' = ([("asked", some (.lst (as.map V.int))), ("lying", some (.lst (ps2.map V.bytes))), ("given", some (.int ((off + u2.length : Nat) : Int))), ("due", some (.int due)), ("over", some (.bool ov)), ("size", v1), ("part", v2)] : Loc) ∧
    H' = H ∧ (ov = true → as.drop i = []) ∧ (ov = false → ∃ e, Frug R S u2 ps2 (as.drop i) u' ps' e) ∧ ps2.length ≤ 100000 ∧ (∀ p ∈ ps2, p.size ≤ 100000), It.lst, ⟨u, ps, none, none, false, rfl, rfl, nofun, fun _ => ⟨e, F⟩, hz, hz1⟩, fun _ _ _ _ => trivial, ?_, ?_⟩
  · intro i v ρ' H1 q' hi ⟨u2, ps2, v1, v2, ov, e1, e2, ho1, ho2, hz, hz1⟩
    subst e1 e2
    rw [List.getElem?_map] at hi
    obtain ⟨a, ha, rfl⟩ := Option.map_eq_some_iff.mp hi
    obtain ⟨hlt, hae⟩ := List.getElem?_eq_some_iff.mp ha
    have hdr : as.drop i = a :: as.drop (i + 1) := by rw [List.drop_eq_getElem_cons hlt, hae]
    cases ov with
    | true => rw [ho1 rfl] at hdr; cases hdr
    | false =>
      obtain ⟨e, F2⟩ := ho2 rfl
      rw [hdr] at F2
      generalize has : as.drop (i + 1) = as2 at F2
      refine put_and (by with_reducible exact (Put.tail (Put.tail (Put.tail (Put.tail (Put.tail Put.head)))))) ?_
      generalize hps : ps2 = ps3 at F2
      cases F2 with
      | @step _ _ x ps4 _ _ need n _ h1 h2 h3 h4 F3 =>
        subst hps
        have hx1 := hz1 x (.head _)
        have hz' : ps4.length + 1 ≤ 100000 := hz
        with_reducible refine Exs.cons ?_
        refine Ex.ite (Tt.orV (p := false) (q := false) ?_ (fun _ => ?_) (ite_f ?_))
        · refine Tt.val ?_
          with_reducible refine Ev.loc (mem1 (mem1 (mem1 (mem1 mem0)))) ?_
          with_reducible refine t_bool ?_
          exact Tst.mk
        · refine Tt.cmp ?_
          with_reducible refine Ev.loc (mem1 (mem1 mem0)) ?_
          with_reducible refine Ev.loc (mem1 (mem1 (mem1 mem0))) ?_
          with_reducible refine c_ge ?_
          exact ⟨decide_eq_false (by omega), rfl⟩
        with_reducible refine Exs.nil ?_
        with_reducible refine Then.next ?_
        with_reducible refine Exs.cons ?_
        refine Ex.assign ?_
        with_reducible refine Ev.bytes ?_
        refine put_and (Put.tail (Put.tail (Put.tail (Put.tail (Put.tail (Put.tail Put.head)))))) ?_
        with_reducible refine Then.next ?_
        with_reducible refine Exs.cons ?_
        with_reducible refine Ex.ite ?_
        refine Tt.cmp ?_
        with_reducible refine Ev.loc (mem1 mem0) ?_
        with_reducible refine Ev.lst ?_
        with_reducible refine Evs.nil ?_
        refine ⟨sz rfl, ?_⟩
        refine ⟨_, Is.neNil .lst .lst, ?_⟩
        refine ite_d (fun _ => ?_) (fun hne => absurd (by simp) hne)
        with_reducible refine Exs.cons ?_
        refine Ex.assign ?_
        refine Ev.val (v := .bytes (x.toList.take n).toArray) ?_ ?_
        · refine Ev.slice ?_
          refine Ev.sub ?_
          with_reducible refine Ev.loc (mem1 mem0) ?_
          with_reducible refine Ev.int ?_
          refine ⟨_, _, HasItem.lst, It1.lst (x := .bytes x) (by decide) (by decide) rfl ?_⟩
          refine EvO.none (EvO.some ?_)
          with_reducible refine Ev.loc (mem1 (mem1 (mem1 (mem1 (mem1 mem0))))) ?_
          refine ⟨_, _, _, _, rfl, rfl, fun sa => ⟨HasItem.bytes, Sl.bytes (by omega) ?_⟩⟩
          rw [cutL_take]
          exact Val.mk
        refine put_and (Put.tail (Put.tail (Put.tail (Put.tail (Put.tail (Put.tail Put.head)))))) ?_
        with_reducible refine Then.next ?_
        with_reducible refine Exs.cons ?_
        refine Ex.assign ?_
        with_reducible refine Ev.bin ?_
        refine Ev.val (v := .lst (if n < x.size then [.bytes (x.toList.drop n).toArray] else [])) ?_ ?_
        · with_reducible refine Ev.ifexp ?_
          refine Tt.tst (v := decide (n < x.size)) ?_ (ite_d (fun e3 => ?_) (fun e3 => ?_))
          · refine Tt.cmp ?_
            refine Ev.call ?_
            refine Ev.g (by assumption) Gl.g_len (by rw [Callee.scope (by assumption)]; rfl) ?_
            with_reducible refine ⟨Kp.bi, ?_⟩
            refine Evs.cons ?_
            refine Ev.sub ?_
            with_reducible refine Ev.loc (mem1 mem0) ?_
            with_reducible refine Ev.int ?_
            refine ⟨_, _, HasItem.lst, It1.lst (x := .bytes x) (by decide) (by decide) rfl ?_⟩
            with_reducible refine Evs.nil ?_
            with_reducible refine EvK.nil ?_
            refine ⟨[], rfl, rfl, ?_⟩
            refine Cl.lenBytes (by omega) ?_
            with_reducible refine Ev.loc (mem1 (mem1 (mem1 (mem1 (mem1 mem0))))) ?_
            with_reducible refine c_gt ?_
            exact ⟨decide_eq_decide.mpr (by omega), rfl⟩
          · rw [if_pos e3]
            with_reducible refine Ev.lst ?_
            refine Evs.cons ?_
            refine Ev.slice ?_
            refine Ev.sub ?_
            with_reducible refine Ev.loc (mem1 mem0) ?_
            with_reducible refine Ev.int ?_
            refine ⟨_, _, HasItem.lst, It1.lst (x := .bytes x) (by decide) (by decide) rfl ?_⟩
            refine EvO.some ?_
            with_reducible refine Ev.loc (mem1 (mem1 (mem1 (mem1 (mem1 mem0))))) ?_
            refine EvO.none ⟨_, _, _, _, rfl, rfl, fun sa => ⟨HasItem.bytes, Sl.bytes (by omega) ?_⟩⟩
            rw [cutL_drop]
            with_reducible refine Evs.nil ?_
            refine ⟨sz rfl, ?_⟩
            exact Val.mk
          · rw [if_neg e3]
            with_reducible refine Ev.lst ?_
            with_reducible refine Evs.nil ?_
            refine ⟨sz rfl, ?_⟩
            exact Val.mk
        refine Ev.slice ?_
        with_reducible refine Ev.loc (mem1 mem0) ?_
        refine EvO.some ?_
        with_reducible refine Ev.int ?_
        refine EvO.none ⟨_, _, _, _, rfl, rfl, fun sa => ⟨HasItem.lst, Sl.lst (by rw [sizeLine_eq, List.length_map]; omega) ?_⟩⟩
        rw [show cutL (List.map V.bytes (x :: ps4)) (some 1) none = ps4.map V.bytes from cutL_drop (List.map V.bytes (x :: ps4)) 1]
        refine addLists .lst .lst (by rw [List.length_map]; split <;> simp <;> omega) ?_
        refine put_and (Put.tail Put.head) ?_
        with_reducible refine Then.next ?_
        with_reducible refine Exs.nil ?_
        with_reducible refine Then.next ?_
        with_reducible refine Exs.cons ?_
        refine Ex.assign ?_
        refine Ev.cmp ?_
        with_reducible refine Ev.loc (mem1 (mem1 (mem1 (mem1 (mem1 (mem1 mem0)))))) ?_
        with_reducible refine Ev.bytes ?_
        refine Do2.is Is.eqBytes ?_
        have hsz : (x.toList.take n).toArray.size = min n x.size := by simp
        refine put_and (Put.tail (Put.tail (Put.tail (Put.tail Put.head)))) ?_
        with_reducible refine Then.next ?_
        with_reducible refine Exs.cons ?_
        refine Ex.assign ?_
        with_reducible refine Ev.bin ?_
        with_reducible refine Ev.loc (mem1 (mem1 mem0)) ?_
        refine Ev.call ?_
        refine Ev.g (by assumption) Gl.g_len (by rw [Callee.scope (by assumption)]; rfl) ?_
        with_reducible refine ⟨Kp.bi, ?_⟩
        refine Evs.cons ?_
        with_reducible refine Ev.loc (mem1 (mem1 (mem1 (mem1 (mem1 (mem1 mem0)))))) ?_
        with_reducible refine Evs.nil ?_
        with_reducible refine EvK.nil ?_
        refine ⟨[], rfl, rfl, ?_⟩
        refine Cl.lenBytes (by omega) ?_
        with_reducible refine d_add ?_
        refine put_and (Put.tail (Put.tail Put.head)) ?_
        with_reducible refine Then.next ?_
        with_reducible refine Exs.nil ?_
        with_reducible refine TurnF.next ?_
        have hne : (x.toList.take n).toArray.toList ≠ [] := fun h => by
          have := congrArg List.length h
          rw [List.toList_toArray, List.length_take, Array.length_toList, List.length_nil] at this
          omega
        have hgl : (if n < x.size then [V.bytes (x.toList.drop n).toArray] else []) ++ ps4.map V.bytes = (if n < x.size then (x.toList.drop n).toArray :: ps4 else ps4).map V.bytes := by split <;> rfl
        have hgg : (((off + u2.length : Nat) : Int) + ((x.toList.take n).toArray.size : Int)) = ((off + (u2 ++ x.toList.take n).length : Nat) : Int) := by
          rw [List.length_append, ← List.size_toArray (as := x.toList.take n)]; omega
        refine ⟨u2 ++ x.toList.take n, if n < x.size then (x.toList.drop n).toArray :: ps4 else ps4, some (.int (n : Int)), some (.bytes (x.toList.take n).toArray), ((x.toList.take n).toArray.toList == (#[] : Array UInt8).toList), ?_, rfl, fun h => ?_, fun _ => ⟨e, ?_⟩, ?_, ?_⟩
        · rw [hgl, hgg]
        · exact absurd (by simpa using h) hne
        · subst has; exact F3
        · split <;> first | (rw [List.length_cons]; omega) | omega
        · intro p hp
          split at hp
          · rcases List.mem_cons.mp hp with rfl | hp
            · rw [List.size_toArray, List.length_drop, Array.length_toList]; omega
            · exact hz1 p (.tail _ hp)
          · exact hz1 p (.tail _ hp)
      | last h1 h2 h3 =>
        subst hps
        with_reducible refine Exs.cons ?_
        refine Ex.ite (Tt.orV (p := false) (q := false) ?_ (fun _ => ?_) (ite_f ?_))
        · refine Tt.val ?_
          with_reducible refine Ev.loc (mem1 (mem1 (mem1 (mem1 mem0)))) ?_
          with_reducible refine t_bool ?_
          exact Tst.mk
        · refine Tt.cmp ?_
          with_reducible refine Ev.loc (mem1 (mem1 mem0)) ?_
          with_reducible refine Ev.loc (mem1 (mem1 (mem1 mem0))) ?_
          with_reducible refine c_ge ?_
          exact ⟨decide_eq_false (by omega), rfl⟩
        with_reducible refine Exs.nil ?_
        with_reducible refine Then.next ?_
        with_reducible refine Exs.cons ?_
        refine Ex.assign ?_
        with_reducible refine Ev.bytes ?_
        refine put_and (Put.tail (Put.tail (Put.tail (Put.tail (Put.tail (Put.tail Put.head)))))) ?_
        with_reducible refine Then.next ?_
        with_reducible refine Exs.cons ?_
        with_reducible refine Ex.ite ?_
        refine Tt.cmp ?_
        with_reducible refine Ev.loc (mem1 mem0) ?_
        with_reducible refine Ev.lst ?_
        with_reducible refine Evs.nil ?_
        refine ⟨sz rfl, ?_⟩
        refine ⟨_, Is.neNil .lst .lst, ?_⟩
        refine ite_d (fun hne => absurd rfl hne) (fun _ => ?_)
        with_reducible refine Exs.nil ?_
        with_reducible refine Then.next ?_
        with_reducible refine Exs.cons ?_
        refine Ex.assign ?_
        refine Ev.cmp ?_
        with_reducible refine Ev.loc (mem1 (mem1 (mem1 (mem1 (mem1 (mem1 mem0)))))) ?_
        with_reducible refine Ev.bytes ?_
        refine Do2.is Is.eqBytes ?_
        refine put_and (Put.tail (Put.tail (Put.tail (Put.tail Put.head)))) ?_
        with_reducible refine Then.next ?_
        with_reducible refine Exs.cons ?_
        refine Ex.assign ?_
        with_reducible refine Ev.bin ?_
        with_reducible refine Ev.loc (mem1 (mem1 mem0)) ?_
        refine Ev.call ?_
        refine Ev.g (by assumption) Gl.g_len (by rw [Callee.scope (by assumption)]; rfl) ?_
        with_reducible refine ⟨Kp.bi, ?_⟩
        refine Evs.cons ?_
        with_reducible refine Ev.loc (mem1 (mem1 (mem1 (mem1 (mem1 (mem1 mem0)))))) ?_
        with_reducible refine Evs.nil ?_
        with_reducible refine EvK.nil ?_
        refine ⟨[], rfl, rfl, ?_⟩
        refine Cl.lenBytes (by decide) ?_
        with_reducible refine d_add ?_
        refine put_and (Put.tail (Put.tail Put.head)) ?_
        with_reducible refine Then.next ?_
        with_reducible refine Exs.nil ?_
        with_reducible refine TurnF.next ?_
        exact ⟨u', [], _, _, true, rfl, rfl, fun _ => has, nofun, by decide, nofun⟩
  · rintro ρ' H' ⟨u2, ps2, v1, v2, ov, e1, e2, ho1, ho2, hz, hz1⟩
    subst e1 e2
    with_reducible refine Then.next ?_
    with_reducible refine Exs.cons ?_
    with_reducible refine Ex.ret ?_
    with_reducible refine Ev.bool ?_
    with_reducible refine Then.ret ?_
    exact q
end
end
section
theorem little_fold : ∀ (k : Nat) (x : Int), 0 ≤ x → x < 256 ^ k → ((KTBy.little k x).map fun n => n.toNat.toUInt8).foldr (fun b n => n * 256 + b.toNat) 0 = x.toNat
  | 0, x, h0, h1 => by
    have : x = 0 := by rw [Int.pow_zero] at h1; omega
    subst this; rfl
  | k + 1, x, h0, h1 => by
    have h2 : x / 256 < 256 ^ k := by
      rw [Int.pow_succ] at h1
      exact Int.ediv_lt_of_lt_mul (by decide) h1
    have ih := little_fold k (x / 256) (Int.ediv_nonneg h0 (by decide)) h2
    show ((((KTBy.little k (x / 256)).map fun n => n.toNat.toUInt8).foldr (fun b n => n * 256 + b.toNat) 0) * 256 + (x % 256).toNat.toUInt8.toNat) = x.toNat
    rw [ih]
    have : (x % 256).toNat.toUInt8.toNat = (x % 256).toNat := by
      simp; omega
    rw [this]
    omega
theorem natOf_be {k : Nat} {x : Int} (h0 : 0 ≤ x) (h1 : x < 256 ^ k) : Builtin.Struct.natOf true (beBytes k x) = x.toNat := by
  rw [← little_fold k x h0 h1]
  unfold Builtin.Struct.natOf Builtin.Memoryview.littleEndian beBytes byteArr
  rw [if_pos rfl, List.map_reverse, ← List.reverse_toArray, Array.reverse_reverse, List.foldr_toArray]
theorem natOf_one {b : UInt8} {e : Bool} : Builtin.Struct.natOf e #[b] = b.toNat := by
  unfold Builtin.Struct.natOf Builtin.Memoryview.littleEndian
  cases e <;> simp
theorem beBytes_one {x : Int} : beBytes 1 x = #[(x % 256).toNat.toUInt8] := rfl

/-- l lies at p -/
def Sg (T : Task) (p : Nat) (l : List UInt8) : Prop := ∃ r, T.W.drop p = l ++ r
section
variable {T : Task} {p : Nat} {l l1 l2 : List UInt8}
theorem Sg.get (h : Sg T p l) {i : Nat} {b : UInt8} (e : l[i]? = some b) : T.W[p + i]? = some b := by
  obtain ⟨r, h⟩ := h
  rw [← List.getElem?_drop, h, List.getElem?_append_left (List.getElem?_eq_some_iff.mp e).1]; exact e
theorem Sg.take (h : Sg T p l) : (T.W.drop p).take l.length = l := by
  obtain ⟨r, h⟩ := h
  rw [h, List.take_left]
theorem Sg.left (h : Sg T p (l1 ++ l2)) : Sg T p l1 := by
  obtain ⟨r, h⟩ := h
  exact ⟨l2 ++ r, by rw [h, List.append_assoc]⟩
theorem Sg.right (h : Sg T p (l1 ++ l2)) : Sg T (p + l1.length) l2 := by
  obtain ⟨r, h⟩ := h
  exact ⟨r, by rw [← List.drop_drop, h, List.append_assoc, List.drop_left]⟩
end
theorem lawNumFrom_cases {n : Int} : ∀ {k i : Nat} {b : Array UInt8}, lawNumFrom n i k = .bytes b → ∃ j, i ≤ j ∧ j < i + k ∧
    ((0 ≤ n ∧ n < 256 ^ 2 ^ j ∧ b = byteArr [204 + (j : Int)] ++ beBytes (2 ^ j) n) ∨ (n < 0 ∧ -2 * n ≤ 256 ^ 2 ^ j ∧ b = byteArr [208 + (j : Int)] ++ beBytes (2 ^ j) (n + 256 ^ 2 ^ j)))
  | 0, i, b, h => by unfold lawNumFrom at h; cases h
  | k + 1, i, b, h => by
    unfold lawNumFrom at h
    split at h
    · rename_i h1; cases h; exact ⟨i, Nat.le_refl _, by omega, .inl ⟨h1.1, h1.2, rfl⟩⟩
    · split at h
      · rename_i h1; cases h; exact ⟨i, Nat.le_refl _, by omega, .inr ⟨h1.1, h1.2, rfl⟩⟩
      · obtain ⟨j, h1, h2, h3⟩ := lawNumFrom_cases h
        exact ⟨j, by omega, by omega, h3⟩
theorem byteArr_one {b : Int} : (byteArr [b]).toList = [b.toNat.toUInt8] := rfl
theorem u8n {n : Nat} (h : n < 256) : n.toUInt8.toNat = n := by simp; omega
theorem num_lf {T : Task} {p : Nat} {n : Int} (h0 : -(2 ^ 63) ≤ n) (h1 : n < 2 ^ 64) (hs : Sg T p (numB n).toList) : Lf T p (.int n) (p + (numB n).size) := by
  have hb := (lawNum_bytes h0 h1).1
  unfold lawNum at hb
  split at hb
  · rename_i hr
    have hb : numB n = byteArr [n.fmod 256] := by injection hb with hb; exact hb.symm
    rw [hb, byteArr_one] at hs
    have hg := hs.get (i := 0) rfl
    have hf : n.fmod 256 = n % 256 := Int.fmod_eq_emod_of_nonneg _ (by decide)
    have hv : (n.fmod 256).toNat.toUInt8.toNat = (n.fmod 256).toNat := u8n (by omega)
    rw [hb, byteArr_size]
    refine ⟨_, 0, 0, .val (.int n), hg, ?_, .inl ⟨rfl, rfl⟩⟩
    rw [hv]
    by_cases hn : 0 ≤ n
    · have e : n = (((n.fmod 256).toNat : Nat) : Int) := by omega
      have := Hdr.pos (T := T) (p := p) (b := (n.fmod 256).toNat) (by omega)
      rw [← e] at this
      exact this
    · have e : n = (((n.fmod 256).toNat : Nat) : Int) - 256 := by omega
      have := Hdr.neg (T := T) (p := p) (b := (n.fmod 256).toNat) (by omega)
      rw [← e] at this
      exact this
  · obtain ⟨j, _, hj, hc⟩ := lawNumFrom_cases hb
    have hj : j < 4 := by omega
    have hp8 : 2 ^ j ≤ 8 := pow_le8 hj
    rcases hc with ⟨a1, a2, e⟩ | ⟨a1, a2, e⟩
    · rw [e, Array.toList_append, byteArr_one] at hs
      have hg := hs.get (i := 0) rfl
      have hv : ((204 + (j : Int)).toNat.toUInt8).toNat = 204 + j := by rw [u8n (by omega)]; omega
      have hsg := hs.right
      have htk := hsg.take
      have hlen : (beBytes (2 ^ j) n).toList.length = 2 ^ j := by rw [Array.length_toList, beBytes_size]
      rw [hlen] at htk
      refine ⟨_, 0, 0, .val (.int n), hg, ?_, .inl ⟨rfl, rfl⟩⟩
      rw [hv, e, Array.size_append, byteArr_size, beBytes_size]
      have key : numJ T p j = n := by
        unfold numJ
        by_cases hj0 : j = 0
        · subst hj0
          rw [if_pos rfl]
          have := hsg.get (i := 0) (b := (n % 256).toNat.toUInt8) (by rw [show 2 ^ 0 = 1 from rfl, beBytes_one]; rfl)
          rw [List.getD_eq_getElem?_getD, show p + 1 = p + [(204 + ((0 : Nat) : Int)).toNat.toUInt8].length + 0 from rfl, this]
          have a2 : n < 256 := a2
          show (((n % 256).toNat.toUInt8.toNat : Nat) : Int) = n
          rw [u8n (by omega)]; omega
        · rw [if_neg hj0]
          have hjm : j % 4 = j := Nat.mod_eq_of_lt hj
          rw [hjm]
          have htk' : (T.W.drop (p + 1)).take (2 ^ j) = (beBytes (2 ^ j) n).toList := htk
          rw [htk']
          unfold numSeg
          have hB : fmtB j = true := by unfold fmtB; split <;> first | rfl | omega
          have hC : (fmtC j).isLower = false := by
            have : j = 1 ∨ j = 2 ∨ j = 3 := by omega
            rcases this with rfl | rfl | rfl <;> decide
          rw [hB, hC, Array.toArray_toList, natOf_be a1 a2]
          simp only [Bool.false_and, Bool.false_eq_true, if_false]
          omega
      have := Hdr.num (T := T) (p := p) (j := j) (by omega)
      rw [key, Nat.mod_eq_of_lt hj, Nat.add_assoc] at this
      exact this
    · rw [e, Array.toList_append, byteArr_one] at hs
      have hg := hs.get (i := 0) rfl
      have hv : ((208 + (j : Int)).toNat.toUInt8).toNat = 204 + (4 + j) := by rw [u8n (by omega)]; omega
      have hsg := hs.right
      have htk := hsg.take
      have hlen : (beBytes (2 ^ j) (n + 256 ^ 2 ^ j)).toList.length = 2 ^ j := by rw [Array.length_toList, beBytes_size]
      rw [hlen] at htk
      have htk' : (T.W.drop (p + 1)).take (2 ^ j) = (beBytes (2 ^ j) (n + 256 ^ 2 ^ j)).toList := htk
      refine ⟨_, 0, 0, .val (.int n), hg, ?_, .inl ⟨rfl, rfl⟩⟩
      rw [hv, e, Array.size_append, byteArr_size, beBytes_size]
      have hx1 : n + 256 ^ 2 ^ j < 256 ^ 2 ^ j := by omega
      have hx0 : 0 ≤ n + 256 ^ 2 ^ j := by omega
      have hjm : (4 + j) % 4 = j := by omega
      have hnat : Builtin.Struct.natOf (fmtB (4 + j)) (beBytes (2 ^ j) (n + 256 ^ 2 ^ j)) = (n + 256 ^ 2 ^ j).toNat := by
        rw [← natOf_be hx0 hx1]
        by_cases hj0 : j = 0
        · subst hj0
          rw [show 2 ^ 0 = 1 from rfl, beBytes_one, natOf_one, natOf_one]
        · have hB : fmtB (4 + j) = true := by unfold fmtB; split <;> first | rfl | omega
          rw [hB]
      have hC : (fmtC (4 + j)).isLower = true := by
        have : j = 0 ∨ j = 1 ∨ j = 2 ∨ j = 3 := by omega
        rcases this with rfl | rfl | rfl | rfl <;> decide
      have key : numJ T p (4 + j) = n := by
        unfold numJ
        rw [if_neg (by omega), hjm, htk']
        unfold numSeg
        rw [hC, Array.toArray_toList, hnat, hjm]
        have hge : (n + 256 ^ 2 ^ j).toNat ≥ 2 ^ (8 * 2 ^ j - 1) ∧ (2 : Int) ^ (8 * 2 ^ j) = 256 ^ 2 ^ j := by
          have : j = 0 ∨ j = 1 ∨ j = 2 ∨ j = 3 := by omega
          rcases this with rfl | rfl | rfl | rfl
          · exact ⟨by simp only [Nat.reducePow, Nat.reduceMul, Nat.reduceSub, Int.reducePow] at *; omega, by decide⟩
          · exact ⟨by simp only [Nat.reducePow, Nat.reduceMul, Nat.reduceSub, Int.reducePow] at *; omega, by decide⟩
          · exact ⟨by simp only [Nat.reducePow, Nat.reduceMul, Nat.reduceSub, Int.reducePow] at *; omega, by decide⟩
          · exact ⟨by simp only [Nat.reducePow, Nat.reduceMul, Nat.reduceSub, Int.reducePow] at *; omega, by decide⟩
        simp only [Bool.true_and]
        rw [if_pos (decide_eq_true hge.1), hge.2]
        omega
      have := Hdr.num (T := T) (p := p) (j := 4 + j) (by omega)
      rw [key, hjm, Nat.add_assoc] at this
      exact this
end
section
def signsOf (a cnt : Nat) : List (Str × Array UInt8) := (List.range cnt).map fun k => signs.getD ((a + k * k) % 4) default
theorem textSigns_eq (n : Int) : textSigns n = signsOf (n.fmod 4).toNat ((n.fdiv 4).fmod 6).toNat := by
  unfold textSigns signsOf
  refine List.map_congr_left fun k _ => ?_
  congr 1
  have h1 : (n + (k : Int) * k).fmod 4 = (n + (k : Int) * k) % 4 := Int.fmod_eq_emod_of_nonneg _ (by decide)
  have h2 : n.fmod 4 = n % 4 := Int.fmod_eq_emod_of_nonneg _ (by decide)
  rw [h1, h2]
  have h3 : ((k * k : Nat) : Int) = (k : Int) * k := by rw [Int.natCast_mul]
  generalize (k : Int) * k = m at *
  omega
def spellsAt (a cnt : Nat) : Prop := Spells (BJ.cat ((signsOf a cnt).map (·.2))) (Builtin.Str.glued (Str.ofString "") ((signsOf a cnt).map (·.1)))
theorem spells_fin : ∀ a : _root_.Fin 4, ∀ cnt : _root_.Fin 6, spellsAt a.val cnt.val := by
  have key : ∀ (b : Array UInt8) (x : Str), b.isEmpty = false → x.length.ble 16777216 = true → (∀ id, Builtin._codecs.runDecoder id Builtin._codecs.utf8Decoder none true b 0 [] = pure (x.cps, b.size)) → Spells b x := fun b x h1 h2 h3 => .inr ⟨fun e => (by subst e; cases h1), Nat.le_of_ble_eq_true h2, _, h3⟩
  rintro ⟨a, ha⟩ ⟨cnt, hc⟩
  have ha : a = 0 ∨ a = 1 ∨ a = 2 ∨ a = 3 := by omega
  have hc : cnt = 0 ∨ cnt = 1 ∨ cnt = 2 ∨ cnt = 3 ∨ cnt = 4 ∨ cnt = 5 := by omega
  rcases hc with rfl | rfl | rfl | rfl | rfl | rfl
  · exact .inl ⟨rfl, rfl⟩
  all_goals
    rcases ha with rfl | rfl | rfl | rfl <;>
      exact key _ _ (by kernel_rfl) (by kernel_rfl) (fun id => by kernel_rfl)
theorem spells_text (n : Int) : Spells (textOct n) (textStr n) := by
  unfold textOct textStr
  rw [textSigns_eq]
  have h4 : n.fmod 4 = n % 4 := Int.fmod_eq_emod_of_nonneg _ (by decide)
  have h6 : (n.fdiv 4).fmod 6 = (n.fdiv 4) % 6 := Int.fmod_eq_emod_of_nonneg _ (by decide)
  exact spells_fin ⟨(n.fmod 4).toNat, by omega⟩ ⟨((n.fdiv 4).fmod 6).toNat, by omega⟩
theorem spells_one : ∀ k : Nat, k < 3 → Spells #[(98 - (k : Int)).toNat.toUInt8] ⟨#[(98 - (k : Int)).toNat]⟩ := by
  have key : ∀ (b : Array UInt8) (x : Str), b.isEmpty = false → x.length.ble 16777216 = true → (∀ id, Builtin._codecs.runDecoder id Builtin._codecs.utf8Decoder none true b 0 [] = pure (x.cps, b.size)) → Spells b x := fun b x h1 h2 h3 => .inr ⟨fun e => (by subst e; cases h1), Nat.le_of_ble_eq_true h2, _, h3⟩
  intro k hk
  have : k = 0 ∨ k = 1 ∨ k = 2 := by omega
  rcases this with rfl | rfl | rfl <;> exact key _ _ (by kernel_rfl) (by kernel_rfl) (fun id => by kernel_rfl)
section
variable {T : Task} {p : Nat}
theorem i2u {n : Nat} : ((n : Int)).toNat.toUInt8 = n.toUInt8 := by rw [Int.toNat_natCast]
/-- a short text -/
theorem str_lf {o : List UInt8} {x : Str} (ho : o.length < 32) (hM : 100 ≤ T.M) (hs : Sg T p ((160 + o.length).toUInt8 :: o)) (hsp : Spells o.toArray x) : Lf T p (.str x) (p + (1 + o.length)) := by
  have hg := hs.get (i := 0) rfl
  have hr : Sg T (p + 1) o := Sg.right (l1 := [(160 + o.length).toUInt8]) (l2 := o) hs
  have ht := hr.take
  refine ⟨_, 3, (o.length : Int), .seg o, hg, ?_, .inr (.inl ⟨rfl, o, x, rfl, hsp, rfl⟩)⟩
  rw [u8n (by omega)]
  have := Hdr.str (T := T) (p := p) (k := o.length) ho (by omega)
  rw [ht, Nat.add_assoc] at this
  exact this
theorem text_lf {n : Int} (hM : 100 ≤ T.M) (hs : Sg T p (byteArr [160 + ((textOct n).size : Int)] ++ textOct n).toList) : Lf T p (.str (textStr n)) (p + (1 + (textOct n).size)) := by
  have h20 := textOct_size n
  have e : (textOct n).toList.length = (textOct n).size := Array.length_toList
  have := str_lf (T := T) (p := p) (o := (textOct n).toList) (x := textStr n) (by omega) hM (by
    rw [Array.toList_append, byteArr_one] at hs
    rw [e]
    rwa [show (160 + ((textOct n).size : Int)).toNat = 160 + (textOct n).size by omega] at hs) (by rw [Array.toArray_toList]; exact spells_text n)
  rwa [e] at this
theorem bin_lf {b : Array UInt8} (hb : b.size < 100) (hM : 100 ≤ T.M) (hs : Sg T p (byteArr [196, (b.size : Int)] ++ b).toList) : Lf T p (.bytes b) (p + (2 + b.size)) := by
  rw [Array.toList_append] at hs
  have e1 : (byteArr [196, (b.size : Int)]).toList = [196, b.size.toUInt8] := by unfold byteArr; simp
  rw [e1] at hs
  have hg := hs.get (i := 0) rfl
  have hg1 := hs.get (i := 1) rfl
  have hr : Sg T (p + 2) b.toList := hs.right
  have ht := hr.take
  rw [Array.length_toList] at ht
  refine ⟨_, 4, (b.size : Int), .seg b.toList, hg, ?_, .inr (.inr ⟨rfl, b.toList, rfl, by rw [Array.toArray_toList]⟩)⟩
  have := Hdr.bin (T := T) (p := p) (k := b.size) hg1 (by omega) (by omega)
  rw [ht, Nat.add_assoc] at this
  exact this
theorem chain_num : ∀ {ns : List Int} {p : Nat}, (∀ n ∈ ns, -(2 ^ 63) ≤ n ∧ n < 2 ^ 64) → Sg T p (ns.map fun n => (numB n).toList).flatten → Chain T p (ns.map V.int) (p + (ns.map fun n => (numB n).size).sum)
  | [], p, _, _ => .nil
  | n :: ns, p, h, hs => by
    rw [List.map_cons, List.flatten_cons] at hs
    have h1 := h n (.head _)
    refine .cons (num_lf h1.1 h1.2 hs.left) ?_
    have hr := hs.right
    rw [Array.length_toList] at hr
    have := chain_num (fun m hm => h m (.tail _ hm)) hr
    rw [List.map_cons, List.sum_cons, ← Nat.add_assoc]
    exact this
end
theorem cat_toList (bs : List (Array UInt8)) : (BJ.cat bs).toList = (bs.map Array.toList).flatten := by
  have key : ∀ (bs : List (Array UInt8)) (acc : Array UInt8), (bs.foldl (· ++ ·) acc).toList = acc.toList ++ (bs.map Array.toList).flatten := by
    intro bs
    induction bs with
    | nil => intro acc; simp
    | cons b bs ih => intro acc; rw [List.foldl_cons, ih, Array.toList_append, List.map_cons, List.flatten_cons, List.append_assoc]
  rw [BJ.cat, key]; rfl
-- maps
def entL (r : Int) (k : Nat) : List UInt8 := [161, (98 - (k : Int)).toNat.toUInt8] ++ (byteArr [160 + ((textOct (r.fdiv 3 + (k : Int))).size : Int)] ++ textOct (r.fdiv 3 + (k : Int))).toList
def ent (r : Int) (k : Nat) : Str × V := (⟨#[(98 - (k : Int)).toNat]⟩, .str (textStr (r.fdiv 3 + (k : Int))))
theorem mapOct_list (r : Int) : ∀ k, (mapOct r k).toList = (128 + r.fmod 3).toNat.toUInt8 :: ((List.range k).map (entL r)).flatten
  | 0 => rfl
  | k + 1 => by
    unfold mapOct
    rw [Array.toList_append, Array.toList_append, mapOct_list r k, List.range_succ, List.map_append, List.flatten_append, List.append_assoc]
    have e : (byteArr [161, 98 - (k : Int)]).toList = [161, (98 - (k : Int)).toNat.toUInt8] := rfl
    rw [e, List.cons_append]
    congr 2
    show _ = entL r k ++ []
    rw [List.append_nil]; rfl
theorem pairs_map {T : Task} (hM : 100 ≤ T.M) (r : Int) : ∀ {ks : List Nat} {p : Nat}, (∀ k ∈ ks, k < 3) → Sg T p (ks.map (entL r)).flatten → Pairs T p (ks.map (ent r)) (p + ((ks.map (entL r)).flatten).length)
  | [], p, _, _ => .nil
  | k :: ks, p, h, hs => by
    have hk := h k (.head _)
    rw [List.map_cons, List.flatten_cons] at hs
    have he := hs.left
    have hsub : (98 - (k : Int)).toNat < 256 := by omega
    have hl1 : Lf T p (.str ⟨#[(98 - (k : Int)).toNat]⟩) (p + 2) := by
      have := str_lf (T := T) (p := p) (o := [(98 - (k : Int)).toNat.toUInt8]) (x := ⟨#[(98 - (k : Int)).toNat]⟩) (show 1 < 32 by decide) hM (Sg.left (l2 := _) he) (spells_one k hk)
      exact this
    have hl2 := text_lf (n := r.fdiv 3 + (k : Int)) hM (Sg.right (l1 := [161, (98 - (k : Int)).toNat.toUInt8]) he)
    have hlen : (entL r k).length = 2 + (1 + (textOct (r.fdiv 3 + (k : Int))).size) := by
      have h1 : (byteArr [160 + ((textOct (r.fdiv 3 + (k : Int))).size : Int)] ++ textOct (r.fdiv 3 + (k : Int))).toList.length = 1 + (textOct (r.fdiv 3 + (k : Int))).size := by
        rw [Array.length_toList, Array.size_append, byteArr_size]; rfl
      unfold entL
      rw [List.length_append, h1]; rfl
    have hl2 : Lf T (p + 2) (.str (textStr (r.fdiv 3 + (k : Int)))) (p + (2 + (1 + (textOct (r.fdiv 3 + (k : Int))).size))) := by
      rw [← Nat.add_assoc]; exact hl2
    refine .cons hl1 hl2 ?_
    have := pairs_map hM r (fun m hm => h m (.tail _ hm)) hs.right
    rw [List.map_cons, List.flatten_cons, List.length_append]
    rw [hlen] at this ⊢
    rw [show p + (2 + (1 + (textOct (r.fdiv 3 + (k : Int))).size) + ((ks.map (entL r)).flatten).length) = p + (2 + (1 + (textOct (r.fdiv 3 + (k : Int))).size)) + ((ks.map (entL r)).flatten).length by omega]
    exact this
end
section
def msgDue (n : Int) : V :=
  if n.fmod 7 < 2 then .tup [.str "number", .int (msgNum n)] else if n.fmod 7 = 2 then .tup [.str "text", .str (textStr (n.fdiv 7))]
  else if n.fmod 7 = 3 then .tup [.str "octets", .bytes (byteArr (msgBody (n.fdiv 7)))] else if n.fmod 7 = 4 then .tup [.str "list", .lst ((msgParts (n.fdiv 7)).map fun k => .tup [.str "number", .int k])]
  else if n.fmod 7 = 5 then .tup [.str "map", .lst ((List.range ((n.fdiv 7).fmod 3).toNat).map (mapPair (n.fdiv 7)))] else .tup [.str "truth", .bool (decide ((n.fdiv 7).fmod 2 = 1))]
def msgOct (n : Int) : Array UInt8 :=
  if n.fmod 7 < 2 then numB (msgNum n) else if n.fmod 7 = 2 then byteArr [160 + ((textOct (n.fdiv 7)).size : Int)] ++ textOct (n.fdiv 7)
  else if n.fmod 7 = 3 then byteArr [196, ((byteArr (msgBody (n.fdiv 7))).size : Int)] ++ byteArr (msgBody (n.fdiv 7)) else if n.fmod 7 = 4 then byteArr [144 + ((msgParts (n.fdiv 7)).length : Int)] ++ BJ.cat ((msgParts (n.fdiv 7)).map numB)
  else if n.fmod 7 = 5 then mapOct (n.fdiv 7) ((n.fdiv 7).fmod 3).toNat else byteArr [194 + (n.fdiv 7).fmod 2]
theorem msgNum_in (n : Int) : -(2 ^ 63) ≤ msgNum n ∧ msgNum n < 2 ^ 64 := by
  unfold msgNum
  split
  · have h0 := Int.fmod_nonneg_of_pos (n.fdiv 7) (show (0 : Int) < 3 * 2 ^ 63 by decide)
    have h1 := Int.fmod_lt_of_pos (n.fdiv 7) (show (0 : Int) < 3 * 2 ^ 63 by decide)
    omega
  · have h0 := Int.fmod_nonneg_of_pos (n.fdiv 7) (show (0 : Int) < 400 by decide)
    have h1 := Int.fmod_lt_of_pos (n.fdiv 7) (show (0 : Int) < 400 by decide)
    omega
theorem msgParts_in (r : Int) : (msgParts r).length ≤ 3 ∧ ∀ k ∈ msgParts r, -100 ≤ k ∧ k < 70000 := by
  have h0 := Int.fmod_nonneg_of_pos r (show (0 : Int) < 4 by decide)
  have h1 := Int.fmod_lt_of_pos r (show (0 : Int) < 4 by decide)
  refine ⟨by unfold msgParts; rw [List.length_map, List.length_range]; omega, fun k hk => ?_⟩
  obtain ⟨j, hj, rfl⟩ := List.mem_map.mp hk
  have hj := List.mem_range.mp hj
  have h2 := Int.fmod_nonneg_of_pos (r.fdiv 4) (show (0 : Int) < 70000 by decide)
  have h3 := Int.fmod_lt_of_pos (r.fdiv 4) (show (0 : Int) < 70000 by decide)
  omega
theorem msgBody_len (r : Int) : (byteArr (msgBody r)).size ≤ 10 := by
  have h0 := Int.fmod_nonneg_of_pos r (show (0 : Int) < 11 by decide)
  have h1 := Int.fmod_lt_of_pos r (show (0 : Int) < 11 by decide)
  rw [byteArr_size]; unfold msgBody; rw [List.length_map, List.length_range]; omega
theorem law_message' {c : Cx} {ρ : Loc} {H : Hp} {Q : V → Hp → Prop} {X : XP} (B : Ok c) (hr : 4 ≤ c.rm) (hh : c.A.handled = none) {n : Int} (q : Q (.tup [msgDue n, .bytes (msgOct n)]) H) : Cl c (.ref 507) [.int n] [] ρ H Q X := by
  unfold msgDue msgOct at q
  have h0 := Int.fmod_nonneg_of_pos n (show (0 : Int) < 7 by decide)
  refine (law_message B hr hh (fun e => ?_) (fun e => ?_) (fun e => ?_) (fun e => ?_) (fun e => ?_) (fun e => ?_)).cl.noX
  · rw [if_pos e, if_pos e] at q
    rw [(lawNum_bytes (msgNum_in n).1 (msgNum_in n).2).1]; exact q
  · rw [if_neg (by omega), if_pos e, if_neg (by omega), if_pos e] at q; exact q
  · rw [if_neg (by omega), if_neg (by omega), if_pos e, if_neg (by omega), if_neg (by omega), if_pos e] at q; exact q
  · rw [if_neg (by omega), if_neg (by omega), if_neg (by omega), if_pos e, if_neg (by omega), if_neg (by omega), if_neg (by omega), if_pos e] at q; exact q
  · rw [if_neg (by omega), if_neg (by omega), if_neg (by omega), if_neg (by omega), if_pos e, if_neg (by omega), if_neg (by omega), if_neg (by omega), if_neg (by omega), if_pos e] at q; exact q
  · rw [if_neg (by omega), if_neg (by omega), if_neg (by omega), if_neg (by omega), if_neg (by omega), if_neg (by omega), if_neg (by omega), if_neg (by omega), if_neg (by omega), if_neg (by omega)] at q; exact q
theorem Msg.le {T : Task} {p : Nat} {mv : Mv} {p' : Nat} (h : Msg T p mv p') : p + 1 ≤ p' := by
  cases h with
  | lf h => exact h.le
  | arr _ _ h => exact h.le
  | map _ _ h _ => exact h.le
theorem msg_vd (n : Int) : ∃ xs, msgDue n = .tup xs ∧ ∀ x ∈ xs, VD 12 x := by
  have two : ∀ (a b : V), VD 12 a → VD 12 b → ∀ x ∈ [a, b], VD 12 x := fun a b ha hb x hx => by
    rcases List.mem_cons.mp hx with rfl | hx
    · exact ha
    · rw [List.mem_singleton.mp hx]; exact hb
  have two' : ∀ {m : Nat} (a b : V), VD m a → VD m b → ∀ x ∈ [a, b], VD m x := fun a b ha hb x hx => by
    rcases List.mem_cons.mp hx with rfl | hx
    · exact ha
    · rw [List.mem_singleton.mp hx]; exact hb
  unfold msgDue
  split
  · exact ⟨_, rfl, two _ _ (.str _) (.int _)⟩
  split
  · exact ⟨_, rfl, two _ _ (.str _) (.str _)⟩
  split
  · exact ⟨_, rfl, two _ _ (.str _) (.bytes _)⟩
  split
  · refine ⟨_, rfl, two _ _ (.str _) (.lst fun x hx => ?_)⟩
    obtain ⟨k, _, rfl⟩ := List.mem_map.mp hx
    exact .tup (two' _ _ (.str _) (.int _))
  split
  · refine ⟨_, rfl, two _ _ (.str _) (.lst fun x hx => ?_)⟩
    obtain ⟨k, _, rfl⟩ := List.mem_map.mp hx
    exact .tup (two' _ _ (.tup (two' _ _ (.str _) (.str _))) (.tup (two' _ _ (.str _) (.str _))))
  · exact ⟨_, rfl, two _ _ (.str _) (.bool _)⟩
theorem msgOct_le (n : Int) : (msgOct n).size ≤ 100 := by
  unfold msgOct
  split
  · have := (lawNum_bytes (msgNum_in n).1 (msgNum_in n).2).2; omega
  split
  · rw [Array.size_append, byteArr_size]; have := textOct_size (n.fdiv 7); show 1 + _ ≤ _; omega
  split
  · rw [Array.size_append, byteArr_size]; have := msgBody_len (n.fdiv 7); show 2 + _ ≤ _; omega
  split
  · rw [Array.size_append, byteArr_size, BJ.cat_size, List.map_map]
    obtain ⟨h1, h2⟩ := msgParts_in (n.fdiv 7)
    have h := sum_le (f := Array.size ∘ numB) (m := 9) (l := msgParts (n.fdiv 7)) fun k hk => (lawNum_bytes (by have := h2 k hk; omega) (by have := h2 k hk; omega)).2
    show 1 + _ ≤ _
    omega
  split
  · have h1 := Int.fmod_lt_of_pos (n.fdiv 7) (show (0 : Int) < 3 by decide)
    have := mapOct_size (n.fdiv 7) ((n.fdiv 7).fmod 3).toNat
    omega
  · rw [byteArr_size]; show 1 ≤ _; omega
/-- what is written is told -/
theorem msg_ok {T : Task} {n : Int} (hM : 100 ≤ T.M) {r : List UInt8} (hW : T.W = (msgOct n).toList ++ r) : ∃ mv, Msg T 0 mv (msgOct n).size ∧ Sp mv (msgDue n) := by
  have h7 := Int.fmod_nonneg_of_pos n (show (0 : Int) < 7 by decide)
  have h77 := Int.fmod_lt_of_pos n (show (0 : Int) < 7 by decide)
  have hs : Sg T 0 (msgOct n).toList := ⟨r, by rw [List.drop_zero]; exact hW⟩
  unfold msgOct at hs ⊢
  unfold msgDue
  split
  · rename_i e
    rw [if_pos e] at hs
    have h := num_lf (msgNum_in n).1 (msgNum_in n).2 hs
    rw [Nat.zero_add] at h
    exact ⟨_, .lf h, .lf (.int _)⟩
  rename_i e1; rw [if_neg e1] at hs
  split
  · rename_i e
    rw [if_pos e] at hs
    have h := text_lf hM hs
    rw [Nat.zero_add] at h
    rw [Array.size_append, byteArr_size]
    exact ⟨_, .lf h, .lf (.str _)⟩
  rename_i e2; rw [if_neg e2] at hs
  split
  · rename_i e
    rw [if_pos e] at hs
    have h := bin_lf (by have := msgBody_len (n.fdiv 7); omega) hM hs
    rw [Nat.zero_add] at h
    rw [Array.size_append, byteArr_size]
    exact ⟨_, .lf h, .lf (.bytes _)⟩
  rename_i e3; rw [if_neg e3] at hs
  split
  · rename_i e
    rw [if_pos e] at hs
    obtain ⟨h1, h2⟩ := msgParts_in (n.fdiv 7)
    rw [Array.toList_append, byteArr_one, cat_toList, List.map_map] at hs
    have hg := hs.get (i := 0) rfl
    have hr := hs.right
    have hv : ((144 + ((msgParts (n.fdiv 7)).length : Int)).toNat.toUInt8).toNat = 144 + (msgParts (n.fdiv 7)).length := by rw [u8n (by omega)]; omega
    have hc := chain_num (T := T) (p := 0 + 1) (ns := msgParts (n.fdiv 7)) (fun k hk => by have := h2 k hk; omega) hr
    have hh := Hdr.arr (T := T) (p := 0) (k := (msgParts (n.fdiv 7)).length) (by omega) (by omega)
    rw [← hv] at hh
    rw [Array.size_append, byteArr_size, BJ.cat_size, List.map_map]
    refine ⟨_, .arr hg (vs := (msgParts (n.fdiv 7)).map V.int) (by rw [List.length_map]; exact hh) hc, ?_⟩
    have hsp := Sp.lst (xs := (msgParts (n.fdiv 7)).map V.int) (fun x hx => by obtain ⟨k, _, rfl⟩ := List.mem_map.mp hx; exact .int k) (by rw [List.length_map]; omega)
    rw [List.map_map] at hsp
    exact hsp
  rename_i e4; rw [if_neg e4] at hs
  split
  · rename_i e
    rw [if_pos e] at hs
    have hr0 := Int.fmod_nonneg_of_pos (n.fdiv 7) (show (0 : Int) < 3 by decide)
    have hr1 := Int.fmod_lt_of_pos (n.fdiv 7) (show (0 : Int) < 3 by decide)
    have hsz : (mapOct (n.fdiv 7) ((n.fdiv 7).fmod 3).toNat).size = 1 + (((List.range ((n.fdiv 7).fmod 3).toNat).map (entL (n.fdiv 7))).flatten).length := by
      rw [← Array.length_toList, mapOct_list, List.length_cons, Nat.add_comm]
    rw [mapOct_list] at hs
    have hg := hs.get (i := 0) rfl
    have hr : Sg T 1 ((List.range ((n.fdiv 7).fmod 3).toNat).map (entL (n.fdiv 7))).flatten := Sg.right (l1 := [_]) hs
    have hv : ((128 + (n.fdiv 7).fmod 3).toNat.toUInt8).toNat = 128 + ((n.fdiv 7).fmod 3).toNat := by rw [u8n (by omega)]; omega
    have hp := pairs_map hM (n.fdiv 7) (fun k hk => by have := List.mem_range.mp hk; omega) hr
    have hh := Hdr.map (T := T) (p := 0) (k := ((n.fdiv 7).fmod 3).toNat) (by omega) (by omega)
    rw [← hv] at hh
    have hkeys : (((List.range ((n.fdiv 7).fmod 3).toNat).map (ent (n.fdiv 7))).map (·.1)).Nodup := by
      have hk2 : ∀ c : _root_.Fin 3, ((List.range c.val).map fun k : Nat => (⟨#[(98 - (k : Int)).toNat]⟩ : Str)).Nodup := by decide
      rw [List.map_map]
      exact hk2 ⟨((n.fdiv 7).fmod 3).toNat, by omega⟩
    rw [hsz]
    refine ⟨_, .map hg (es := (List.range ((n.fdiv 7).fmod 3).toNat).map (ent (n.fdiv 7))) (by rw [List.length_map, List.length_range]; exact hh) hp hkeys, ?_⟩
    have hsp := Sp.map (es := (List.range ((n.fdiv 7).fmod 3).toNat).map (ent (n.fdiv 7))) (fun x hx => by obtain ⟨k, _, rfl⟩ := List.mem_map.mp hx; exact .str _) hkeys (by rw [List.length_map, List.length_range]; omega)
    rw [List.map_map] at hsp
    exact hsp
  · rename_i e5
    rw [if_neg e5] at hs
    rw [byteArr_one] at hs
    have hg := hs.get (i := 0) rfl
    rw [byteArr_size]
    have hr0 := Int.fmod_nonneg_of_pos (n.fdiv 7) (show (0 : Int) < 2 by decide)
    have hr1 := Int.fmod_lt_of_pos (n.fdiv 7) (show (0 : Int) < 2 by decide)
    by_cases h1 : (n.fdiv 7).fmod 2 = 1
    · rw [decide_eq_true h1]
      rw [h1] at hg
      exact ⟨_, .lf ⟨195, 0, 0, _, hg, .tt, .inl ⟨rfl, rfl⟩⟩, .lf (.bool _)⟩
    · rw [decide_eq_false h1]
      rw [show (n.fdiv 7).fmod 2 = 0 by omega] at hg
      exact ⟨_, .lf ⟨194, 0, 0, _, hg, .ff, .inl ⟨rfl, rfl⟩⟩, .lf (.bool _)⟩
end
section
/-- a comprehension with one test -/
theorem CompOf.filter {c : Cx} {scope : Scope} {cl : List (Str × Addr)} {names : List Str} {target elt t : Expr} {H₁ : Hp} {v : V} {ys items : List V} {C : Hp → Prop} (p : V → Bool) (f : V → V) (hit : It H₁ v items C) (hl : items.length ≤ 1000000) (hC : ∀ q, C (q :: H₁)) (hy : ys = (items.filter p).map f)
    (h : ∀ c₂, Inner c c₂ scope cl → ∀ x ∈ items, ∃ ρ₂, Asg c₂ target x (names.map fun x => (x, none)) ρ₂ ∧ ρ₂.map (·.1) = names ∧ ∀ q₁ q₂, Tt c₂ t ρ₂ (q₁ :: q₂ :: H₁) (Tst (p x) (q₁ :: q₂ :: H₁)) (fun _ _ _ => False) ∧ Ev c₂ elt ρ₂ (q₁ :: q₂ :: H₁) (Val (f x) (q₁ :: q₂ :: H₁)) (fun _ _ _ => False)) :
    CompOf c scope cl names target elt [t] H₁ v ys where
  it := ⟨items, C, p, f, hit, by rw [sizeLine_eq]; omega, hC, hy, fun c₂ I x hx => by
    obtain ⟨ρ₂, h1, h2, h3⟩ := h c₂ I x hx
    exact ⟨ρ₂, h1, h2, fun q₁ q₂ => ⟨Tsts.one (h3 q₁ q₂).1, fun _ => (h3 q₁ q₂).2⟩⟩⟩
section
variable {M : Model} {A : Around} {E : Value → Shared → Prop} {s : Shared} {env : Env}
theorem wpR_And3 {x y w : Expr} {pos : Pos} {Q : Value → Shared → Prop} (h : wpR M A (eval x env) (fun v s₁ => wpR M A (truthy v) (fun t s₂ => if t then wpR M A (eval (.BoolOp .And [y, w] pos) env) Q E s₂ else Q v s₂) E s₁) E s) : wpR M A (eval (.BoolOp .And [x, y, w] pos) env) Q E s := by
  show wpR M A (eval x env >>= _) Q E s
  refine wpR_bind (wpR_mono h (fun v s₁ h₁ => wpR_at (wpR_bind (wpR_holding (wpR_mono h₁ (fun t s₂ h₂ => ?_) fun _ _ x => x)))) fun _ _ x => x)
  cases t with
  | false => exact wpR_pure h₂
  | true => exact h₂
end
theorem Ev.and3 {c : Cx} {ρ : Loc} {H : Hp} {Q : V → Hp → Prop} {X : XP} {x y w : Expr} {pos : Pos} (h : Ev c x ρ H (fun a H₁ => ∃ t, Tr c H₁ a t ∧ (t = false → Q a H₁) ∧ (t = true → Ev c (.BoolOp .And [y, w] pos) ρ H₁ Q X)) X) : Ev c (.BoolOp .And [x, y, w] pos) ρ H Q X :=
  fun z s S => wpR_And3 (wpR_mono (h z s S) (fun val s₁ ⟨a, z₁, H₁, le₁, S₁, r₁, t, ht, h1, h2⟩ => of (ht z₁ ρ s₁ _ _ _ S₁ r₁ fun n => by
    cases t with
    | false => exact PostV.le le₁ (postV S₁ r₁ (h1 rfl))
    | true => exact carryV le₁ (h2 rfl z₁ _ (S₁.toks n)))) fun _ _ x => x)
-- the parts that the octets come in
theorem flat_append (a b : List (Array UInt8)) : flat (a ++ b) = flat a ++ flat b := by unfold flat; rw [List.map_append, List.flatten_append]
theorem flat_filter : ∀ l : List (Array UInt8), flat (l.filter fun q => decide (q.size ≠ 0)) = flat l
  | [] => rfl
  | q :: l => by
    rw [List.filter_cons]
    split
    · rw [flat_cons, flat_cons, flat_filter l]
    · rename_i h
      have : q.toList = [] := by
        have : q.size = 0 := by simpa using h
        exact List.eq_nil_of_length_eq_zero (by rw [Array.length_toList]; exact this)
      rw [flat_cons, this, flat_filter l]; rfl
theorem flat_len (l : List (Array UInt8)) : (flat l).length = (l.map Array.size).sum := by
  unfold flat
  rw [List.length_flatten, List.map_map]
  rfl
theorem flat_sub : ∀ {l : List (Array UInt8)}, (∀ q ∈ l, q.size ≠ 0) → l.length ≤ (flat l).length ∧ ∀ q ∈ l, q.size ≤ (flat l).length
  | [], _ => ⟨Nat.le_refl 0, nofun⟩
  | x :: l, h => by
    obtain ⟨a, b⟩ := flat_sub fun q hq => h q (.tail _ hq)
    have hx := h x (.head _)
    have hl : (flat (x :: l)).length = x.size + (flat l).length := by rw [flat_cons, List.length_append]; rfl
    refine ⟨by rw [hl, List.length_cons]; omega, fun q hq => ?_⟩
    rcases List.mem_cons.mp hq with rfl | hq
    · omega
    · have := b q hq; omega
theorem sum_cast : ∀ l : List (Array UInt8), (l.map fun q => (q.size : Int)).sum = (((l.map Array.size).sum : Nat) : Int)
  | [] => rfl
  | q :: l => by rw [List.map_cons, List.sum_cons, List.map_cons, List.sum_cons, sum_cast l]; omega
theorem ne_empty (b : Array UInt8) : (b.toList != (#[] : Array UInt8).toList) = decide (b.size ≠ 0) := by
  have : b.toList = [] ↔ b.size = 0 := ⟨fun h => by rw [← Array.length_toList, h]; rfl, fun h => List.eq_nil_of_length_eq_zero (by rw [Array.length_toList]; exact h)⟩
  by_cases h : b.size = 0
  · rw [this.mpr h, h]; rfl
  · rw [decide_eq_true h]
    have h2 : b.toList ≠ [] := fun e => h (this.mp e)
    simpa using h2
theorem flat_singleton (l : List UInt8) : flat [l.toArray] = l := by simp [flat]
/-- a piece that the loop takes -/
theorem piece (w : List UInt8) (cm : Nat) (x : Int) (h : 0 ≤ x) : (cutL w (some (cm : Int)) (some ((cm : Int) + 1 + x))).toArray = ((w.drop cm).take (1 + x.toNat)).toArray := by
  rw [show ((cm : Int) + 1 + x) = ((cm + (1 + x.toNat) : Nat) : Int) by omega, cutL_mid]
def leastOf (ns : List Int) : Nat := ((ns.headD 0).fmod 10).toNat
theorem leastOf_lt (ns : List Int) : leastOf ns < 10 := by
  unfold leastOf
  have h0 := Int.fmod_nonneg_of_pos (ns.headD 0) (show (0 : Int) < 10 by decide)
  have h1 := Int.fmod_lt_of_pos (ns.headD 0) (show (0 : Int) < 10 by decide)
  omega
theorem leastOf_eq {n : Int} {ns : List Int} : ((leastOf (n :: ns) : Nat) : Int) = n.fmod 10 := by
  unfold leastOf
  have h0 := Int.fmod_nonneg_of_pos n (show (0 : Int) < 10 by decide)
  show ((n.fmod 10).toNat : Int) = _
  omega
end
section
def restOf (ns : List Int) (k : Nat) : List UInt8 := flat ((ns.map msgOct).drop k)
def placeOf (ns : List Int) (k : Nat) : Nat := (flat ((ns.map msgOct).take k)).length
def curDue (ns : List Int) (k : Nat) : V := match ns[k]? with | some n => msgDue n | none => .str "none"
def curOct (ns : List Int) (k : Nat) : Array UInt8 := match ns[k]? with | some n => msgOct n | none => #[192]
theorem cur_in {ns : List Int} {k : Nat} (h : k < ns.length) : curDue ns k = msgDue ns[k] ∧ curOct ns k = msgOct ns[k] := by
  unfold curDue curOct; rw [List.getElem?_eq_getElem h]; exact ⟨rfl, rfl⟩
theorem cur_out {ns : List Int} {k : Nat} (h : ¬ k < ns.length) : curDue ns k = .str "none" ∧ curOct ns k = #[192] := by
  unfold curDue curOct; rw [List.getElem?_eq_none (by omega)]; exact ⟨rfl, rfl⟩
theorem curOct_le (ns : List Int) (k : Nat) : (curOct ns k).size ≤ 100 := by
  by_cases h : k < ns.length
  · rw [(cur_in h).2]; exact msgOct_le _
  · rw [(cur_out h).2]; show 1 ≤ 100; decide
theorem rest_in {ns : List Int} {k : Nat} (h : k < ns.length) : restOf ns k = (curOct ns k).toList ++ restOf ns (k + 1) := by
  unfold restOf
  rw [(cur_in h).2, List.drop_eq_getElem_cons (by rw [List.length_map]; exact h), flat_cons, List.getElem_map]
theorem rest_out {ns : List Int} {k : Nat} (h : ¬ k < ns.length) : restOf ns k = [] := by
  unfold restOf
  rw [List.drop_eq_nil_of_le (by rw [List.length_map]; omega)]; rfl
theorem place_succ {ns : List Int} {k : Nat} (h : k < ns.length) : placeOf ns (k + 1) = placeOf ns k + (curOct ns k).size := by
  unfold placeOf
  rw [(cur_in h).2, take_succ' (by rw [List.length_map]; exact h), flat_append, List.length_append, List.getElem_map]
  congr 1
  simp [flat]
theorem place_rest (ns : List Int) (k : Nat) : placeOf ns k + (restOf ns k).length = (flat (ns.map msgOct)).length := by
  unfold placeOf restOf
  rw [← List.length_append, ← flat_append, List.take_append_drop]
/-- where the loop is -/
structure LoopSt (Rn : Nat) (ns : List Int) (longest : Int) (L0 t seen : Nat) (u : List UInt8) (ps : List (Array UInt8)) (as : List Int) (L : List (Array UInt8)) : Prop where
  le : seen ≤ ns.length
  rest : u ++ flat ps ++ flat L = restOf ns seen
  n1 : ∀ q ∈ ps, q.size ≠ 0
  n2 : ∀ q ∈ L, q.size ≠ 0
  asked : ∀ n ∈ as, (Rn : Int) ≤ n ∧ n ≤ max (Rn : Int) longest
  bound : as.length + (flat ps).length + (flat L).length ≤ 1000 + t
  count : (seen + (L0 - L.length) = t ∧ L.length ≤ L0) ∨ (seen = ns.length ∧ L = [])
def turnTask (A : RA) (Rn : Nat) (ns : List Int) (seen : Nat) (u : List UInt8) (ps : List (Array UInt8)) (as : List Int) : Task :=
  { A := A, R := Rn, M := 104857600, S := (curOct ns seen).size, u0 := u, ps0 := ps, as0 := as, off := placeOf ns seen, W := if seen < ns.length then restOf ns seen else [192] }
section
variable {A : RA} {Rn : Nat} {ns : List Int} {longest : Int} {L0 t seen : Nat} {u : List UInt8} {ps : List (Array UInt8)} {as : List Int} {L : List (Array UInt8)}
theorem LoopSt.lens (h : LoopSt Rn ns longest L0 t seen u ps as L) : u.length + (flat ps).length + (flat L).length = (restOf ns seen).length := by
  have := congrArg List.length h.rest
  rw [List.length_append, List.length_append] at this
  exact this
theorem turn_ok (h : LoopSt Rn ns longest L0 t seen u ps as L) (hR : 1 ≤ Rn ∧ Rn ≤ 16384) (hw : (flat (ns.map msgOct)).length ≤ 1000) (ht : t ≤ 30) : (turnTask A Rn ns seen u ps as).OK where
  R1 := hR.1
  R2 := Nat.le_trans hR.2 (by decide)
  M1 := (by show 1 ≤ 104857600; decide)
  M2 := Nat.le_refl _
  S1 := Nat.le_trans (curOct_le ns seen) (by decide)
  W := by
    show u ++ flat ps <+: (if seen < ns.length then restOf ns seen else [192])
    split
    · rw [← h.rest]; exact List.prefix_append _ _
    · rename_i hn
      have := h.lens
      rw [rest_out hn] at this
      have h1 : (u ++ flat ps).length = 0 := by rw [List.length_append]; simp only [List.length_nil] at this; omega
      rw [List.eq_nil_of_length_eq_zero h1]; exact List.nil_prefix
  parts := h.n1
  size := by
    show placeOf ns seen + u.length + (flat ps).length ≤ 10000
    have h1 := place_rest ns seen
    have h2 := h.lens
    omega
  asks := by
    show as.length ≤ 10000
    have := h.bound
    omega
theorem turn_msg (h : LoopSt Rn ns longest L0 t seen u ps as L) : ∃ mv, Msg (turnTask A Rn ns seen u ps as) 0 mv (turnTask A Rn ns seen u ps as).S ∧ ((turnTask A Rn ns seen u ps as).S ≤ u.length + (flat ps).length → Sp mv (curDue ns seen)) := by
  by_cases hn : seen < ns.length
  · have hW : (turnTask A Rn ns seen u ps as).W = (msgOct ns[seen]).toList ++ restOf ns (seen + 1) := by
      show (if seen < ns.length then restOf ns seen else [192]) = _
      rw [if_pos hn, rest_in hn, (cur_in hn).2]
    obtain ⟨mv, h1, h2⟩ := msg_ok (T := turnTask A Rn ns seen u ps as) (by show 100 ≤ 104857600; decide) hW
    refine ⟨mv, ?_, fun _ => ?_⟩
    · show Msg _ 0 mv (curOct ns seen).size
      rw [(cur_in hn).2]; exact h1
    · rw [(cur_in hn).1]; exact h2
  · refine ⟨.one .none, ?_, fun hle => ?_⟩
    · show Msg _ 0 _ (curOct ns seen).size
      rw [(cur_out hn).2]
      have hW : (turnTask A Rn ns seen u ps as).W[0]? = some 192 := by
        show (if seen < ns.length then restOf ns seen else [192])[0]? = _
        rw [if_neg hn]; rfl
      exact .lf ⟨192, 0, 0, _, hW, .nil, .inl ⟨rfl, rfl⟩⟩
    · have := h.lens
      rw [rest_out hn] at this
      have hle : (curOct ns seen).size ≤ u.length + (flat ps).length := hle
      rw [(cur_out hn).2] at hle
      have hle : 1 ≤ u.length + (flat ps).length := hle
      simp only [List.length_nil] at this
      omega
theorem asked_more {as' u' ps' e} {T : Task} (hT : T = turnTask A Rn ns seen u ps as) (h : LoopSt Rn ns longest L0 t seen u ps as L) (hR : 1 ≤ Rn ∧ Rn ≤ 16384) (hlong : ∀ n ∈ ns, ((msgOct n).size : Int) ≤ longest) (F : Frug T.R T.B T.u0 T.ps0 as' u' ps' e) : ∀ n ∈ as ++ as', (Rn : Int) ≤ n ∧ n ≤ max (Rn : Int) longest := by
  subst hT
  intro n hn
  rcases List.mem_append.mp hn with hn | hn
  · exact h.asked n hn
  · have hS : ((min (curOct ns seen).size 104857600 : Nat) : Int) ≤ max (Rn : Int) longest := by
      by_cases hk : seen < ns.length
      · rw [(cur_in hk).2]
        have := hlong ns[seen] (List.getElem_mem hk)
        omega
      · rw [(cur_out hk).2]
        show ((min 1 104857600 : Nat) : Int) ≤ _
        omega
    have := F.asked n hn
    have h2 : n ≤ ((max Rn (min (curOct ns seen).size 104857600) : Nat) : Int) := this.2
    exact ⟨this.1, by omega⟩
theorem turn_told {as' u' ps'} (h : LoopSt Rn ns longest L0 t seen u ps as L) (hR : 1 ≤ Rn ∧ Rn ≤ 16384) (hlong : ∀ n ∈ ns, ((msgOct n).size : Int) ≤ longest)
    (F : Frug (turnTask A Rn ns seen u ps as).R (turnTask A Rn ns seen u ps as).B u ps as' u' ps' false) (hS : (curOct ns seen).size ≤ u'.length) :
    seen < ns.length ∧ LoopSt Rn ns longest L0 (t + 1) (seen + 1) (u'.drop (curOct ns seen).size) ps' (as ++ as') L := by
  have hfl : u' ++ flat ps' = u ++ flat ps := F.flat
  have hlf := congrArg List.length hfl
  rw [List.length_append, List.length_append] at hlf
  have hl := h.lens
  have hk : seen < ns.length := by
    by_cases hk : seen < ns.length
    · exact hk
    · rw [rest_out hk] at hl
      rw [(cur_out hk).2] at hS
      have hS : 1 ≤ u'.length := hS
      simp only [List.length_nil] at hl
      omega
  refine ⟨hk, hk, ?_, F.parts h.n1, h.n2, asked_more rfl h hR hlong F, ?_, ?_⟩
  · have hr := h.rest
    rw [← hfl, rest_in hk] at hr
    have e : u' = u'.take (curOct ns seen).size ++ u'.drop (curOct ns seen).size := (List.take_append_drop ..).symm
    rw [e, List.append_assoc, List.append_assoc] at hr
    have := (List.append_inj hr (by rw [List.length_take, Array.length_toList (xs := curOct ns seen)]; omega)).2
    rw [← List.append_assoc] at this
    exact this
  · have := F.asLen hR.1
    have hb := h.bound
    rw [List.length_append]
    simp only [Bool.false_eq_true, if_false] at this
    omega
  · rcases h.count with ⟨h1, h2⟩ | ⟨h1, h2⟩
    · exact .inl ⟨by omega, h2⟩
    · omega
theorem turn_short {as' u'} (h : LoopSt Rn ns longest L0 t seen u ps as L) (hR : 1 ≤ Rn ∧ Rn ≤ 16384) (hlong : ∀ n ∈ ns, ((msgOct n).size : Int) ≤ longest)
    (F : Frug (turnTask A Rn ns seen u ps as).R (turnTask A Rn ns seen u ps as).B u ps as' u' [] true) :
    placeOf ns seen + u'.length = placeOf ns seen + u.length + (flat ps).length ∧ u'.length < (curOct ns seen).size ∧
    (L = [] → LoopSt Rn ns longest L0 (t + 1) seen u' [] (as ++ as') []) ∧ (∀ q L', L = q :: L' → LoopSt Rn ns longest L0 (t + 1) seen u' [q] (as ++ as') L') := by
  have hfl : u' ++ flat [] = u ++ flat ps := F.flat
  have hlf := congrArg List.length hfl
  rw [List.length_append, List.length_append, flat_nil, List.length_nil] at hlf
  have hl := h.lens
  have hlt : u'.length < (curOct ns seen).size := Nat.lt_of_lt_of_le (F.end rfl).2 (Nat.min_le_left _ _)
  have hal := F.asLen hR.1
  simp only [if_true, flat_nil, List.length_nil] at hal
  have hb := h.bound
  refine ⟨by omega, hlt, fun e => ?_, fun q L' e => ?_⟩
  · subst e
    refine ⟨h.le, ?_, nofun, nofun, asked_more rfl h hR hlong F, ?_, .inr ⟨?_, rfl⟩⟩
    · rw [hfl]; exact h.rest
    · rw [List.length_append]; simp only [flat_nil, List.length_nil]; omega
    · by_cases hk : seen < ns.length
      · rw [rest_in hk, List.length_append, Array.length_toList (xs := curOct ns seen)] at hl
        simp only [flat_nil, List.length_nil] at hl
        omega
      · have := h.le; omega
  · subst e
    refine ⟨h.le, ?_, ?_, fun x hx => h.n2 x (.tail _ hx), asked_more rfl h hR hlong F, ?_, ?_⟩
    · have hr := h.rest
      rw [← hfl, flat_nil, List.append_nil, flat_cons] at hr
      rw [← hr, flat_cons, flat_nil, List.append_nil, List.append_assoc]
    · intro x hx
      rw [List.mem_singleton.mp hx]
      exact h.n2 q (.head _)
    · rw [flat_cons, List.length_append] at hb
      rw [List.length_append, flat_cons, flat_nil, List.append_nil]
      omega
    · rcases h.count with ⟨h1, h2⟩ | ⟨h1, h2⟩
      · rw [List.length_cons] at h1 h2
        exact .inl ⟨by omega, by omega⟩
      · cases h2
theorem turn_end (h : LoopSt Rn ns longest L0 t seen u ps as L) (ht : t = ns.length + L0 + 1) : seen = ns.length ∧ u = [] ∧ flat ps = [] ∧ ps = [] := by
  have hs : seen = ns.length ∧ L = [] := by
    rcases h.count with ⟨h1, h2⟩ | h1
    · have := h.le; omega
    · exact h1
  obtain ⟨rfl, rfl⟩ := hs
  have hl := h.lens
  rw [rest_out (by omega)] at hl
  simp only [flat_nil, List.length_nil] at hl
  have h1 := flat_sub h.n1
  exact ⟨rfl, List.eq_nil_of_length_eq_zero (by omega), List.eq_nil_of_length_eq_zero (by omega), List.eq_nil_of_length_eq_zero (by omega)⟩
end
end
section

section
variable {c : Cx} {ρ : Loc} {H : Hp} {Q : V → Hp → Prop} {X : XP}
/-- law -/
theorem law_walk (B : Ok c) (hr : 20 ≤ c.rm) (hh : c.A.handled = none) {ns0 : List Int} (hl0 : ns0.length ≤ 63) (q : Q (.bool true) H) {R : Prop} (fn : FnGoal c 552 [.lst (ns0.map V.int)] ρ H Q X R) : R := by
  refine' fn (bs := [("script", .lst (ns0.map V.int))]) (rest := ["numbers", "number", "messages", "due", "octets", "wire", "longest", "parts", "come", "part", "later", "file", "written", "least", "used", "place", "seen", "turn", "size", "way", "lying", "asks", "found", "room", "more"]) ?ho ?hcd ?hst ?hb (by omega) ?h
  case ho => rw [B.K]; k_is
  case hcd => rw [B.K]; k_is
  case hst => rfl
  case hb =>
    intro z vs ks hv hk; obtain _ | ⟨g1, hv⟩ := hv; cases hv; cases hk
    exact ⟨_, fun S => by kernel_rfl, .cons g1 .nil⟩
  intro c' C
  have B' := B.callee C
  have hh' : c'.A.handled = none := C.handled.trans hh
  have hrm := C.rm
  change Exs c' _ [("script", some (.lst (ns0.map V.int))), ("numbers", none), ("number", none), ("messages", none), ("due", none), ("octets", none), ("wire", none), ("longest", none), ("parts", none), ("come", none), ("part", none), ("later", none), ("file", none), ("written", none), ("least", none), ("used", none), ("place", none), ("seen", none), ("turn", none), ("size", none), ("way", none), ("lying", none), ("asks", none), ("found", none), ("room", none), ("more", none)] _ _ _
  refine Exs.fit ?_
  with_reducible refine Exs.cons ?_
  refine Ex.assign ?_
  refine Ev.slice ?_
  with_reducible refine Ev.loc mem0 ?_
  refine EvO.none (EvO.some ?_)
  with_reducible refine Ev.int ?_
  refine ⟨_, _, _, _, rfl, rfl, fun sa => ⟨HasItem.lst, Sl.lst (by rw [sizeLine_eq, List.length_map]; omega) ?_⟩⟩
  rw [show cutL (List.map V.int ns0) none (some 10) = (ns0.take 10).map V.int from (cutL_take _ 10).trans List.map_take.symm]
  have hns : (ns0.take 10).length ≤ 10 := by rw [List.length_take]; omega
  generalize ns0.take 10 = ns at hns
  refine put_and (Put.tail Put.head) ?_
  with_reducible refine Then.next ?_
  with_reducible refine Exs.cons ?_
  refine' Ex.assignComp (names := ["number"]) (cl := []) (swaps_true C.scope rfl) hh' ?clos ?ok ?_ ?_
  case clos => exact closure_none rfl
  case ok => rw [C.scope]; rfl
  rotate_left
  · intro _ _; rfl
  with_reducible refine Ev.loc (mem1 mem0) ?_
  refine ⟨ns.map fun n => .tup [msgDue n, .bytes (msgOct n)], CompOf.map (fun v => match v with | .int n => .tup [msgDue n, .bytes (msgOct n)] | _ => .none) It.lst (by rw [List.length_map]; omega) (fun _ => trivial) (by rw [List.map_map]; rfl) ?_, ?_⟩
  · intro c₂ I x hx
    have B₂ := B'.inner I
    obtain ⟨n, hn, rfl⟩ := List.mem_map.mp hx
    refine ⟨[("number", some (.int n))], Asg.name Put.head, rfl, fun q₁ q₂ => ?_⟩
    refine Ev.call ?_
    refine Ev.g (by assumption) Gl.g_law_message (by rw [Inner.scope (by assumption), Callee.scope (by assumption)]; rfl) ?_
    refine ⟨Kp.ref (by rw [Ok.K (by assumption)]; k_is), ?_⟩
    refine Evs.cons ?_
    with_reducible refine Ev.loc mem0 ?_
    with_reducible refine Evs.nil ?_
    with_reducible refine EvK.nil ?_
    refine ⟨[], rfl, rfl, ?_⟩
    refine law_message' B₂ (by rw [I.rm]; omega) (I.handled.trans hh') ?_
    exact Val.mk
  refine put_and (Put.tail (Put.tail (Put.tail Put.head))) ?_
  with_reducible refine Then.next ?_
  with_reducible refine Exs.cons ?_
  refine Ex.assign ?_
  refine Ev.meth ?_
  with_reducible refine Ev.bytes ?_
  refine ⟨_, _, Mt.joinB, Kp.bi, ?_⟩
  refine Evs.cons ?_
  refine Ev.comp (names := ["due", "octets"]) (cl := []) hh' (closure_none rfl) (by rw [C.scope]; rfl) ?_
  with_reducible refine Ev.loc (mem1 (mem1 (mem1 mem0))) ?_
  refine ⟨(ns.map msgOct).map V.bytes, CompOf.map (fun v => match v with | .tup [_, b] => b | _ => .none) It.lst (by rw [List.length_map]; omega) (fun _ => trivial) (by rw [List.map_map, List.map_map]; rfl) ?_, ?_⟩
  · intro c₂ I x hx
    have B₂ := B'.inner I
    obtain ⟨n, hn, rfl⟩ := List.mem_map.mp hx
    refine ⟨_, Asg.tup (I.handled.trans hh') (.cons (.cons .nil)) (.cons Put.head (.cons (.tail .head) .nil)), rfl, fun q₁ q₂ => ?_⟩
    with_reducible refine Ev.loc (mem1 mem0) ?_
    exact Val.mk
  with_reducible refine Evs.nil ?_
  with_reducible refine EvK.nil ?_
  refine ⟨[], rfl, rfl, ?_⟩
  have hwire : (BJ.cat (ns.map msgOct)).size ≤ 1000 := by
    rw [BJ.cat_size, List.map_map]
    have := sum_le (f := Array.size ∘ msgOct) (m := 100) (l := ns) fun n _ => msgOct_le n
    omega
  refine Cl.joinB (by omega) ?_
  refine put_and (Put.tail (Put.tail (Put.tail (Put.tail (Put.tail (Put.tail Put.head)))))) ?_
  with_reducible refine Then.next ?_
  with_reducible refine Exs.cons ?_
  refine Ex.assign ?_
  refine Ev.call ?_
  refine Ev.g (by assumption) Gl.g_max (by rw [Callee.scope (by assumption)]; rfl) ?_
  with_reducible refine ⟨Kp.bi, ?_⟩
  refine Evs.cons ?_
  with_reducible refine Ev.bin ?_
  refine Ev.comp (names := ["due", "octets"]) (cl := []) hh' (closure_none rfl) (by rw [C.scope]; rfl) ?_
  with_reducible refine Ev.loc (mem1 (mem1 (mem1 mem0))) ?_
  refine ⟨(ns.map fun n => ((msgOct n).size : Int)).map V.int, CompOf.map (fun v => match v with | .tup [_, .bytes b] => .int b.size | _ => .none) It.lst (by rw [List.length_map]; omega) (fun _ => trivial) (by rw [List.map_map, List.map_map]; rfl) ?_, ?_⟩
  · intro c₂ I x hx
    have B₂ := B'.inner I
    obtain ⟨n, hn, rfl⟩ := List.mem_map.mp hx
    have hle := msgOct_le n
    refine ⟨_, Asg.tup (I.handled.trans hh') (.cons (.cons .nil)) (.cons Put.head (.cons (.tail .head) .nil)), rfl, fun q₁ q₂ => ?_⟩
    refine Ev.call ?_
    refine Ev.g (by assumption) Gl.g_len (by rw [Inner.scope (by assumption), Callee.scope (by assumption)]; rfl) ?_
    with_reducible refine ⟨Kp.bi, ?_⟩
    refine Evs.cons ?_
    with_reducible refine Ev.loc (mem1 mem0) ?_
    with_reducible refine Evs.nil ?_
    with_reducible refine EvK.nil ?_
    refine ⟨[], rfl, rfl, ?_⟩
    refine Cl.lenBytes (by omega) ?_
    exact Val.mk
  with_reducible refine Ev.lst ?_
  refine Evs.cons ?_
  with_reducible refine Ev.int ?_
  with_reducible refine Evs.nil ?_
  refine ⟨sz rfl, ?_⟩
  refine addLists .lst .lst (by rw [List.length_map, List.length_map]; simp; omega) ?_
  rw [show List.map V.int (ns.map fun n => ((msgOct n).size : Int)) ++ [V.int 0] = ((ns.map fun n => ((msgOct n).size : Int)) ++ [0]).map V.int by rw [List.map_append]; rfl]
  with_reducible refine Evs.nil ?_
  with_reducible refine EvK.nil ?_
  refine ⟨[], rfl, rfl, ?_⟩
  refine Cl.maxL hh' (by simp) fun longest hlm hlong => ?_
  refine put_and (Put.tail (Put.tail (Put.tail (Put.tail (Put.tail (Put.tail (Put.tail Put.head))))))) ?_
  with_reducible refine Then.next ?_
  with_reducible refine Exs.cons ?_
  refine Ex.assign ?_
  refine Ev.list (Evs.nil ⟨sz rfl, fun pl => ?_⟩)
  refine put_and (Put.tail (Put.tail (Put.tail (Put.tail (Put.tail (Put.tail (Put.tail (Put.tail Put.head)))))))) ?_
  with_reducible refine Then.next ?_
  with_reducible refine Exs.cons ?_
  refine Ex.assign ?_
  with_reducible refine Ev.int ?_
  refine put_and (Put.tail (Put.tail (Put.tail (Put.tail (Put.tail (Put.tail (Put.tail (Put.tail (Put.tail Put.head))))))))) ?_
  with_reducible refine Then.next ?_
  with_reducible refine Exs.cons ?_
  have hwl : flat (ns.map msgOct) = (BJ.cat (ns.map msgOct)).toList := (cat_toList _).symm
  generalize hw : BJ.cat (ns.map msgOct) = wire at hwire hwl
  refine Ex.for C.own hh' ?_
  with_reducible refine Ev.loc (mem1 mem0) ?_
  refine ⟨_, _, fun i ρ' H' => ∃ (nv pv : Option V) (cm : Nat) (P : List (Array UInt8)), ρ' = ([("script", some (.lst (ns0.map V.int))), ("numbers", some (.lst (ns.map V.int))), ("number", nv), ("messages", some (.lst (ns.map fun n => .tup [msgDue n, .bytes (msgOct n)]))), ("due", none), ("octets", none), ("wire", some (.bytes wire)), ("longest", some (.int longest)), ("parts", some (.ref pl)), ("come", some (.int cm)), ("part", pv), ("later", none), ("file", none), ("written", none), ("least", none), ("used", none), ("place", none), ("seen", none), ("turn", none), ("size", none), ("way", none), ("lying", none), ("asks", none), ("found", none), ("room", none), ("more", none)] : Loc) ∧
    H' = (pl, .list (P.map V.bytes)) :: H ∧ P.length = i ∧ cm ≤ wire.size ∧ flat P ++ wire.toList.drop cm = wire.toList, It.lst, ⟨none, none, 0, [], rfl, rfl, rfl, Nat.zero_le _, by rw [List.drop_zero]; rfl⟩, fun _ _ _ _ => trivial, ?_, ?_⟩
  · intro i v ρ' H1 q' hi ⟨nv, pv, cm, P, e1, e2, hP, hcm, hfl⟩
    subst e1 e2
    rw [List.getElem?_map] at hi
    obtain ⟨n, hn, rfl⟩ := Option.map_eq_some_iff.mp hi
    have hlt : i < ns.length := (List.getElem?_eq_some_iff.mp hn).1
    refine put_and (by with_reducible exact (Put.tail (Put.tail Put.head))) ?_
    have h0 := Int.fmod_nonneg_of_pos (n.fdiv 3) (show (0 : Int) < 13 by decide)
    have h1 := Int.fmod_lt_of_pos (n.fdiv 3) (show (0 : Int) < 13 by decide)
    with_reducible refine Exs.cons ?_
    refine Ex.assign ?_
    refine Ev.val (v := .bytes ((wire.toList.drop cm).take (1 + ((n.fdiv 3).fmod 13).toNat)).toArray) ?_ ?_
    · refine Ev.slice ?_
      with_reducible refine Ev.loc (mem1 (mem1 (mem1 (mem1 (mem1 (mem1 mem0)))))) ?_
      refine EvO.some ?_
      with_reducible refine Ev.loc (mem1 (mem1 (mem1 (mem1 (mem1 (mem1 (mem1 (mem1 (mem1 mem0))))))))) ?_
      refine EvO.some ?_
      with_reducible refine Ev.bin ?_
      with_reducible refine Ev.bin ?_
      with_reducible refine Ev.loc (mem1 (mem1 (mem1 (mem1 (mem1 (mem1 (mem1 (mem1 (mem1 mem0))))))))) ?_
      with_reducible refine Ev.int ?_
      with_reducible refine d_add ?_
      with_reducible refine Ev.bin ?_
      with_reducible refine Ev.bin ?_
      with_reducible refine Ev.loc (mem1 (mem1 mem0)) ?_
      with_reducible refine Ev.int ?_
      with_reducible refine d_fdiv (by decide) (by decide) ?_
      with_reducible refine Ev.int ?_
      with_reducible refine d_mod (by decide) ?_
      with_reducible refine d_add ?_
      refine ⟨_, _, _, _, rfl, rfl, fun sa => ⟨HasItem.bytes, Sl.bytes (by omega) ?_⟩⟩
      rw [piece _ _ _ h0]
      exact Val.mk
    have hsz : ((wire.toList.drop cm).take (1 + ((n.fdiv 3).fmod 13).toNat)).length = min (1 + ((n.fdiv 3).fmod 13).toNat) (wire.size - cm) := by rw [List.length_take, List.length_drop, Array.length_toList]
    refine put_and (Put.tail (Put.tail (Put.tail (Put.tail (Put.tail (Put.tail (Put.tail (Put.tail (Put.tail (Put.tail Put.head)))))))))) ?_
    with_reducible refine Then.next ?_
    with_reducible refine Exs.cons ?_
    refine Ex.assign ?_
    with_reducible refine Ev.bin ?_
    with_reducible refine Ev.loc (mem1 (mem1 (mem1 (mem1 (mem1 (mem1 (mem1 (mem1 (mem1 mem0))))))))) ?_
    refine Ev.call ?_
    refine Ev.g (by assumption) Gl.g_len (by rw [Callee.scope (by assumption)]; rfl) ?_
    with_reducible refine ⟨Kp.bi, ?_⟩
    refine Evs.cons ?_
    with_reducible refine Ev.loc (mem1 (mem1 (mem1 (mem1 (mem1 (mem1 (mem1 (mem1 (mem1 (mem1 mem0)))))))))) ?_
    with_reducible refine Evs.nil ?_
    with_reducible refine EvK.nil ?_
    refine ⟨[], rfl, rfl, ?_⟩
    refine Cl.lenBytes (by rw [List.size_toArray, hsz]; omega) ?_
    with_reducible refine d_add ?_
    refine put_and (Put.tail (Put.tail (Put.tail (Put.tail (Put.tail (Put.tail (Put.tail (Put.tail (Put.tail Put.head))))))))) ?_
    with_reducible refine Then.next ?_
    with_reducible refine Exs.cons ?_
    refine Ex.exprS ?_
    refine Ev.meth ?_
    with_reducible refine Ev.loc (mem1 (mem1 (mem1 (mem1 (mem1 (mem1 (mem1 (mem1 mem0)))))))) ?_
    refine ⟨_, _, Mt.list (by (with_reducible refine mem1 ?_; with_reducible exact mem0)) slot_list_append type_list_append, Kp.bi, ?_⟩
    refine Evs.cons ?_
    with_reducible refine Ev.loc (mem1 (mem1 (mem1 (mem1 (mem1 (mem1 (mem1 (mem1 (mem1 (mem1 mem0)))))))))) ?_
    with_reducible refine Evs.nil ?_
    with_reducible refine EvK.nil ?_
    refine ⟨[], rfl, rfl, ?_⟩
    refine Cl.append' (zs := (P ++ [((wire.toList.drop cm).take (1 + ((n.fdiv 3).fmod 13).toNat)).toArray]).map V.bytes) (by rw [List.map_append]; rfl) (by with_reducible exact (Upd.tail Upd.head)) (by rw [List.length_map]; omega) ?_
    with_reducible refine Then.next ?_
    with_reducible refine Exs.nil ?_
    with_reducible refine TurnF.next ?_
    refine ⟨some (.int n), some (.bytes ((wire.toList.drop cm).take (1 + ((n.fdiv 3).fmod 13).toNat)).toArray), cm + ((wire.toList.drop cm).take (1 + ((n.fdiv 3).fmod 13).toNat)).length, P ++ [((wire.toList.drop cm).take (1 + ((n.fdiv 3).fmod 13).toNat)).toArray], ?_, rfl, by rw [List.length_append, hP]; rfl, by omega, ?_⟩
    · rw [List.size_toArray]; rfl
    · rw [flat_append, flat_singleton, List.append_assoc]
      refine Eq.trans ?_ hfl
      congr 1
      rw [← List.drop_drop]
      by_cases hle : 1 + ((n.fdiv 3).fmod 13).toNat ≤ (wire.toList.drop cm).length
      · rw [List.length_take, Nat.min_eq_left hle, List.take_append_drop]
      · rw [List.take_of_length_le (by omega), List.drop_length, List.append_nil]
  rintro ρ' H1 ⟨nv, pv, cm, P, e1, e2, hP, hcm, hfl⟩
  subst e1 e2
  rw [List.length_map] at hP
  with_reducible refine Then.next ?_
  with_reducible refine Exs.cons ?_
  refine' Ex.assignComp (names := ["part"]) (cl := []) (swaps_true C.scope rfl) hh' ?clos ?ok ?_ ?_
  case clos => exact closure_none rfl
  case ok => rw [C.scope]; rfl
  rotate_left
  · intro _ _; rfl
  have hwt : wire.toList.length = wire.size := Array.length_toList
  refine Ev.val (v := .lst ((P ++ [(wire.toList.drop cm).toArray]).map V.bytes)) ?_ ?_
  · with_reducible refine Ev.bin ?_
    with_reducible refine Ev.loc (mem1 (mem1 (mem1 (mem1 (mem1 (mem1 (mem1 (mem1 mem0)))))))) ?_
    with_reducible refine Ev.lst ?_
    refine Evs.cons ?_
    refine Ev.slice ?_
    with_reducible refine Ev.loc (mem1 (mem1 (mem1 (mem1 (mem1 (mem1 mem0)))))) ?_
    refine EvO.some ?_
    with_reducible refine Ev.loc (mem1 (mem1 (mem1 (mem1 (mem1 (mem1 (mem1 (mem1 (mem1 mem0))))))))) ?_
    refine EvO.none ⟨_, _, _, _, rfl, rfl, fun sa => ⟨HasItem.bytes, Sl.bytes (by omega) ?_⟩⟩
    rw [cutL_drop]
    with_reducible refine Evs.nil ?_
    refine ⟨sz rfl, ?_⟩
    refine addLists (.list (by with_reducible exact mem0)) .lst (by rw [List.length_map]; simp; omega) ?_
    rw [List.map_append]
    exact Val.mk
  have hflP : flat ((P ++ [(wire.toList.drop cm).toArray]).filter fun q => decide (q.size ≠ 0)) = wire.toList := by rw [flat_filter, flat_append, flat_singleton]; exact hfl
  have hneP : ∀ q ∈ (P ++ [(wire.toList.drop cm).toArray]).filter (fun q => decide (q.size ≠ 0)), q.size ≠ 0 := fun q hq => by simpa using (List.mem_filter.mp hq).2
  have hlenP : (P ++ [(wire.toList.drop cm).toArray]).length ≤ 11 := by rw [List.length_append]; show _ + 1 ≤ _; omega
  generalize P ++ [(wire.toList.drop cm).toArray] = P0 at hflP hneP hlenP
  generalize hPP : (P0.filter fun q => decide (q.size ≠ 0)) = PP at hflP hneP
  refine ⟨PP.map V.bytes, CompOf.filter (fun v => match v with | .bytes b => decide (b.size ≠ 0) | _ => false) (fun v => v) It.lst (by rw [List.length_map]; omega) (fun _ => trivial) ?_ ?_, ?_⟩
  · rw [List.map_id', ← hPP, List.filter_map]; rfl
  · intro c₂ I x hx
    have B₂ := B'.inner I
    obtain ⟨b, hb, rfl⟩ := List.mem_map.mp hx
    refine ⟨[("part", some (.bytes b))], Asg.name Put.head, rfl, fun q₁ q₂ => ⟨?_, ?_⟩⟩
    · refine Tt.cmp ?_
      with_reducible refine Ev.loc mem0 ?_
      with_reducible refine Ev.bytes ?_
      with_reducible refine c_neBytes ?_
      exact ⟨ne_empty b, rfl⟩
    · with_reducible refine Ev.loc mem0 ?_
      exact Val.mk
  obtain ⟨hpp1, hpp2⟩ := flat_sub hneP
  have hPl : PP.length ≤ 11 := by rw [← hPP]; exact Nat.le_trans (List.length_filter_le _ _) hlenP
  clear hPP hfl hlenP
  clear hP
  refine put_and (Put.tail (Put.tail (Put.tail (Put.tail (Put.tail (Put.tail (Put.tail (Put.tail Put.head)))))))) ?_
  with_reducible refine Then.next ?_
  with_reducible refine Exs.cons ?_
  refine Ex.assign ?_
  refine Ev.val (v := .lst ((PP.drop (PP.length - PP.length / 3)).map V.bytes)) ?_ ?_
  · refine Ev.slice ?_
    with_reducible refine Ev.loc (mem1 (mem1 (mem1 (mem1 (mem1 (mem1 (mem1 (mem1 mem0)))))))) ?_
    refine EvO.some ?_
    with_reducible refine Ev.bin ?_
    refine Ev.call ?_
    refine Ev.g (by assumption) Gl.g_len (by rw [Callee.scope (by assumption)]; rfl) ?_
    with_reducible refine ⟨Kp.bi, ?_⟩
    refine Evs.cons ?_
    with_reducible refine Ev.loc (mem1 (mem1 (mem1 (mem1 (mem1 (mem1 (mem1 (mem1 mem0)))))))) ?_
    with_reducible refine Evs.nil ?_
    with_reducible refine EvK.nil ?_
    refine ⟨[], rfl, rfl, ?_⟩
    refine Cl.lenLst (by rw [List.length_map]; omega) ?_
    with_reducible refine Ev.bin ?_
    refine Ev.call ?_
    refine Ev.g (by assumption) Gl.g_len (by rw [Callee.scope (by assumption)]; rfl) ?_
    with_reducible refine ⟨Kp.bi, ?_⟩
    refine Evs.cons ?_
    with_reducible refine Ev.loc (mem1 (mem1 (mem1 (mem1 (mem1 (mem1 (mem1 (mem1 mem0)))))))) ?_
    with_reducible refine Evs.nil ?_
    with_reducible refine EvK.nil ?_
    refine ⟨[], rfl, rfl, ?_⟩
    refine Cl.lenLst (by rw [List.length_map]; omega) ?_
    with_reducible refine Ev.int ?_
    with_reducible refine d_fdiv (by decide) (by decide) ?_
    with_reducible refine d_sub ?_
    rw [List.length_map]
    have hfd : ((PP.length : Nat) : Int).fdiv 3 = (PP.length : Int) / 3 := Int.fdiv_eq_ediv_of_nonneg _ (by decide)
    rw [hfd, show ((PP.length : Int) - (PP.length : Int) / 3) = ((PP.length - PP.length / 3 : Nat) : Int) by omega]
    refine EvO.none ⟨_, _, _, _, rfl, rfl, fun sa => ⟨HasItem.lst, Sl.lst (by rw [sizeLine_eq, List.length_map]; omega) ?_⟩⟩
    rw [cutL_drop, List.map_drop]
    exact Val.mk
  refine put_and (Put.tail (Put.tail (Put.tail (Put.tail (Put.tail (Put.tail (Put.tail (Put.tail (Put.tail (Put.tail (Put.tail Put.head))))))))))) ?_
  with_reducible refine Then.next ?_
  with_reducible refine Exs.cons ?_
  refine Ex.assign ?_
  refine Ev.call ?_
  refine Ev.g (by assumption) Gl.g_Parts (by rw [Callee.scope (by assumption)]; rfl) ?_
  refine ⟨Kp.ref (by rw [Ok.K (by assumption)]; k_is), ?_⟩
  refine Evs.cons ?_
  refine Ev.val (v := .lst ((PP.take (PP.length - PP.length / 3)).map V.bytes)) ?_ ?_
  · refine Ev.slice ?_
    with_reducible refine Ev.loc (mem1 (mem1 (mem1 (mem1 (mem1 (mem1 (mem1 (mem1 mem0)))))))) ?_
    refine EvO.none (EvO.some ?_)
    with_reducible refine Ev.bin ?_
    refine Ev.call ?_
    refine Ev.g (by assumption) Gl.g_len (by rw [Callee.scope (by assumption)]; rfl) ?_
    with_reducible refine ⟨Kp.bi, ?_⟩
    refine Evs.cons ?_
    with_reducible refine Ev.loc (mem1 (mem1 (mem1 (mem1 (mem1 (mem1 (mem1 (mem1 mem0)))))))) ?_
    with_reducible refine Evs.nil ?_
    with_reducible refine EvK.nil ?_
    refine ⟨[], rfl, rfl, ?_⟩
    refine Cl.lenLst (by rw [List.length_map]; omega) ?_
    refine Ev.call ?_
    refine Ev.g (by assumption) Gl.g_len (by rw [Callee.scope (by assumption)]; rfl) ?_
    with_reducible refine ⟨Kp.bi, ?_⟩
    refine Evs.cons ?_
    with_reducible refine Ev.loc (mem1 (mem1 (mem1 (mem1 (mem1 (mem1 (mem1 (mem1 (mem1 (mem1 (mem1 mem0))))))))))) ?_
    with_reducible refine Evs.nil ?_
    with_reducible refine EvK.nil ?_
    refine ⟨[], rfl, rfl, ?_⟩
    refine Cl.lenLst (by rw [List.length_map, List.length_drop]; omega) ?_
    with_reducible refine d_sub ?_
    rw [List.length_map, List.length_map, List.length_drop, show ((PP.length : Int) - ((PP.length - (PP.length - PP.length / 3) : Nat) : Int)) = ((PP.length - PP.length / 3 : Nat) : Int) by omega]
    refine ⟨_, _, _, _, rfl, rfl, fun sa => ⟨HasItem.lst, Sl.lst (by rw [sizeLine_eq, List.length_map]; omega) ?_⟩⟩
    rw [cutL_take, List.map_take]
    exact Val.mk
  have hcut : flat (PP.take (PP.length - PP.length / 3)) ++ flat (PP.drop (PP.length - PP.length / 3)) = wire.toList := by rw [← flat_append, List.take_append_drop]; exact hflP
  have hn1 : ∀ q ∈ PP.take (PP.length - PP.length / 3), q.size ≠ 0 := fun q hq => hneP q (List.mem_of_mem_take hq)
  have hn2 : ∀ q ∈ PP.drop (PP.length - PP.length / 3), q.size ≠ 0 := fun q hq => hneP q (List.mem_of_mem_drop hq)
  have hl1 : (PP.take (PP.length - PP.length / 3)).length ≤ 11 := by rw [List.length_take]; omega
  have hl2 : (PP.drop (PP.length - PP.length / 3)).length ≤ 11 := by rw [List.length_drop]; omega
  generalize PP.take (PP.length - PP.length / 3) = PT at hcut hn1 hl1
  generalize PP.drop (PP.length - PP.length / 3) = LT at hcut hn2 hl2
  have hcl := congrArg List.length hcut
  rw [List.length_append, hwt] at hcl
  with_reducible refine Evs.nil ?_
  with_reducible refine EvK.nil ?_
  refine ⟨[], rfl, rfl, ?_⟩
  refine parts_make B' (by omega) (by omega) fun A => ?_
  refine put_and (Put.tail (Put.tail (Put.tail (Put.tail (Put.tail (Put.tail (Put.tail (Put.tail (Put.tail (Put.tail (Put.tail (Put.tail Put.head)))))))))))) ?_
  with_reducible refine Then.next ?_
  with_reducible refine Exs.cons ?_
  refine Ex.assign ?_
  refine Ev.val (v := .int ((flat PT).length : Nat)) ?_ ?_
  · with_reducible refine Ev.bin ?_
    refine Ev.call ?_
    refine Ev.g (by assumption) Gl.g_len (by rw [Callee.scope (by assumption)]; rfl) ?_
    with_reducible refine ⟨Kp.bi, ?_⟩
    refine Evs.cons ?_
    with_reducible refine Ev.loc (mem1 (mem1 (mem1 (mem1 (mem1 (mem1 mem0)))))) ?_
    with_reducible refine Evs.nil ?_
    with_reducible refine EvK.nil ?_
    refine ⟨[], rfl, rfl, ?_⟩
    refine Cl.lenBytes (by omega) ?_
    refine Ev.call ?_
    refine Ev.g (by assumption) Gl.g_sum (by rw [Callee.scope (by assumption)]; rfl) ?_
    with_reducible refine ⟨Kp.bi, ?_⟩
    refine Evs.cons ?_
    refine Ev.comp (names := ["part"]) (cl := []) hh' (closure_none rfl) (by rw [C.scope]; rfl) ?_
    with_reducible refine Ev.loc (mem1 (mem1 (mem1 (mem1 (mem1 (mem1 (mem1 (mem1 (mem1 (mem1 (mem1 mem0))))))))))) ?_
    refine ⟨(LT.map fun q => (q.size : Int)).map V.int, CompOf.map (fun v => match v with | .bytes b => .int b.size | _ => .none) It.lst (by rw [List.length_map]; omega) (fun _ => trivial) (by rw [List.map_map, List.map_map]; rfl) ?_, ?_⟩
    · intro c₂ I x hx
      have B₂ := B'.inner I
      obtain ⟨b, hb, rfl⟩ := List.mem_map.mp hx
      have hbs := (flat_sub hn2).2 b hb
      refine ⟨[("part", some (.bytes b))], Asg.name Put.head, rfl, fun q₁ q₂ => ?_⟩
      refine Ev.call ?_
      refine Ev.g (by assumption) Gl.g_len (by rw [Inner.scope (by assumption), Callee.scope (by assumption)]; rfl) ?_
      with_reducible refine ⟨Kp.bi, ?_⟩
      refine Evs.cons ?_
      with_reducible refine Ev.loc mem0 ?_
      with_reducible refine Evs.nil ?_
      with_reducible refine EvK.nil ?_
      refine ⟨[], rfl, rfl, ?_⟩
      refine Cl.lenBytes (by omega) ?_
      exact Val.mk
    with_reducible refine Evs.nil ?_
    with_reducible refine EvK.nil ?_
    refine ⟨[], rfl, rfl, ?_⟩
    refine Cl.sumL hh' ?_
    with_reducible refine d_sub ?_
    refine ⟨?_, rfl⟩
    have hfl := flat_len LT
    rw [sum_cast]
    congr 1; omega
  refine put_and (Put.tail (Put.tail (Put.tail (Put.tail (Put.tail (Put.tail (Put.tail (Put.tail (Put.tail (Put.tail (Put.tail (Put.tail (Put.tail Put.head))))))))))))) ?_
  with_reducible refine Then.next ?_
  with_reducible refine Exs.cons ?_
  refine Ex.assign ?_
  refine Ev.val (v := .int (leastOf ns : Nat)) ?_ ?_
  · refine Ev.ifexp ?_
    refine Tt.cmp ?_
    with_reducible refine Ev.loc (mem1 mem0) ?_
    with_reducible refine Ev.lst ?_
    with_reducible refine Evs.nil ?_
    refine ⟨sz rfl, ?_⟩
    refine ⟨_, Is.neNil .lst .lst, ?_⟩
    refine ite_d (fun hne => ?_) (fun hne => ?_)
    · cases ns with
      | nil => exact absurd rfl hne
      | cons n ns =>
        with_reducible refine Ev.bin ?_
        refine Ev.sub ?_
        with_reducible refine Ev.loc (mem1 mem0) ?_
        with_reducible refine Ev.int ?_
        refine ⟨_, _, HasItem.lst, It1.lst (x := .int n) (by decide) (by decide) rfl ?_⟩
        with_reducible refine Ev.int ?_
        with_reducible refine d_mod (by decide) ?_
        exact ⟨by rw [leastOf_eq], rfl⟩
    · cases ns with
      | nil =>
        with_reducible refine Ev.int ?_
        exact Val.mk
      | cons n ns => exact absurd (by simp) hne
  have hR0 := leastOf_lt ns
  generalize hRn : (if leastOf ns = 0 then 16384 else leastOf ns : Nat) = Rn
  have hRn1 : 1 ≤ Rn ∧ Rn ≤ 16384 := by rw [← hRn]; split <;> omega
  refine put_and (Put.tail (Put.tail (Put.tail (Put.tail (Put.tail (Put.tail (Put.tail (Put.tail (Put.tail (Put.tail (Put.tail (Put.tail (Put.tail (Put.tail Put.head)))))))))))))) ?_
  with_reducible refine Then.next ?_
  with_reducible refine Exs.cons ?_
  refine Ex.assign ?_
  refine Ev.mono (Q' := fun v H' => ∃ a d ba, v = .ref a ∧ H' = RH ⟨a, d, ba, A.f, A.fd, A.pl, A.al⟩ (Rn : Nat) (104857600 : Nat) #[] 0 0 0 PT [] ((pl, .list (P.map V.bytes)) :: H)) ?hev ?hgo (fun _ _ _ x => x)
  case hev =>
    refine Ev.ifexp (Tt.tst (v := decide (0 < leastOf ns)) ?_ (ite_d (fun e => ?_) (fun e => ?_)))
    · refine Tt.cmp ?_
      with_reducible refine Ev.loc (mem1 (mem1 (mem1 (mem1 (mem1 (mem1 (mem1 (mem1 (mem1 (mem1 (mem1 (mem1 (mem1 (mem1 mem0)))))))))))))) ?_
      with_reducible refine Ev.int ?_
      with_reducible refine c_gt ?_
      exact ⟨decide_eq_decide.mpr (by omega), rfl⟩
    · refine Ev.call ?_
      refine Ev.g (by assumption) Gl.g_Unpacker (by rw [Callee.scope (by assumption)]; rfl) ?_
      refine ⟨Kp.ref (by rw [Ok.K (by assumption)]; k_is), ?_⟩
      refine Evs.cons ?_
      with_reducible refine Ev.loc (mem1 (mem1 (mem1 (mem1 (mem1 (mem1 (mem1 (mem1 (mem1 (mem1 (mem1 (mem1 mem0)))))))))))) ?_
      with_reducible refine Evs.nil ?_
      with_reducible refine EvK.cons ?_
      with_reducible refine Ev.loc (mem1 (mem1 (mem1 (mem1 (mem1 (mem1 (mem1 (mem1 (mem1 (mem1 (mem1 (mem1 (mem1 (mem1 mem0)))))))))))))) ?_
      with_reducible refine EvK.nil ?_
      refine ⟨([("read_size", .int (leastOf ns : Nat))] : List (Str × V)), rfl, rfl, ?_⟩
      refine unpacker_make B' (by omega) hh' (M := 104857600) (by decide) (.inl ⟨rfl, rfl⟩) (fun hle a d ba => ?_) fun hlt => by omega
      rw [if_neg (by omega)] at hRn ⊢
      rw [hRn]
      exact ⟨a, d, ba, rfl, rfl⟩
    · have e0 : leastOf ns = 0 := by omega
      refine Ev.call ?_
      refine Ev.g (by assumption) Gl.g_Unpacker (by rw [Callee.scope (by assumption)]; rfl) ?_
      refine ⟨Kp.ref (by rw [Ok.K (by assumption)]; k_is), ?_⟩
      refine Evs.cons ?_
      with_reducible refine Ev.loc (mem1 (mem1 (mem1 (mem1 (mem1 (mem1 (mem1 (mem1 (mem1 (mem1 (mem1 (mem1 mem0)))))))))))) ?_
      with_reducible refine Evs.nil ?_
      with_reducible refine EvK.nil ?_
      refine ⟨[], rfl, rfl, ?_⟩
      refine unpacker_make B' (by omega) hh' (M := 104857600) (R0 := 0) (by decide) (.inr (.inl ⟨rfl, rfl, rfl⟩)) (fun hle a d ba => ?_) fun hlt => by omega
      rw [if_pos e0] at hRn
      subst hRn
      exact ⟨a, d, ba, rfl, rfl⟩
  rintro v H1 ⟨a, d, ba, rfl, rfl⟩
  refine put_and (Put.tail (Put.tail (Put.tail (Put.tail (Put.tail (Put.tail (Put.tail (Put.tail (Put.tail (Put.tail (Put.tail (Put.tail (Put.tail (Put.tail (Put.tail Put.head))))))))))))))) ?_
  with_reducible refine Then.next ?_
  with_reducible refine Exs.cons ?_
  refine Ex.assign ?_
  refine Ev.val (v := .int (Rn : Nat)) ?_ ?_
  · refine Ev.ifexp (Tt.tst (v := decide (0 < leastOf ns)) ?_ (ite_d (fun e => ?_) (fun e => ?_)))
    · refine Tt.cmp ?_
      with_reducible refine Ev.loc (mem1 (mem1 (mem1 (mem1 (mem1 (mem1 (mem1 (mem1 (mem1 (mem1 (mem1 (mem1 (mem1 (mem1 mem0)))))))))))))) ?_
      with_reducible refine Ev.int ?_
      with_reducible refine c_gt ?_
      exact ⟨decide_eq_decide.mpr (by omega), rfl⟩
    · rw [if_neg (by omega)] at hRn
      subst hRn
      with_reducible refine Ev.loc (mem1 (mem1 (mem1 (mem1 (mem1 (mem1 (mem1 (mem1 (mem1 (mem1 (mem1 (mem1 (mem1 (mem1 mem0)))))))))))))) ?_
      exact Val.mk
    · rw [if_pos (by omega)] at hRn
      subst hRn
      with_reducible refine Ev.int ?_
      exact Val.mk
  refine put_and (Put.tail (Put.tail (Put.tail (Put.tail (Put.tail (Put.tail (Put.tail (Put.tail (Put.tail (Put.tail (Put.tail (Put.tail (Put.tail (Put.tail Put.head)))))))))))))) ?_
  with_reducible refine Then.next ?_
  with_reducible refine Exs.cons ?_
  refine Ex.assign ?_
  with_reducible refine Ev.int ?_
  refine put_and (Put.tail (Put.tail (Put.tail (Put.tail (Put.tail (Put.tail (Put.tail (Put.tail (Put.tail (Put.tail (Put.tail (Put.tail (Put.tail (Put.tail (Put.tail (Put.tail Put.head)))))))))))))))) ?_
  with_reducible refine Then.next ?_
  with_reducible refine Exs.cons ?_
  refine Ex.assign ?_
  with_reducible refine Ev.int ?_
  refine put_and (Put.tail (Put.tail (Put.tail (Put.tail (Put.tail (Put.tail (Put.tail (Put.tail (Put.tail (Put.tail (Put.tail (Put.tail (Put.tail (Put.tail (Put.tail (Put.tail (Put.tail Put.head))))))))))))))))) ?_
  with_reducible refine Then.next ?_
  with_reducible refine Exs.cons ?_
  have hp0 : placeOf ns 0 = 0 := rfl
  have hwl2 : (flat (ns.map msgOct)).length ≤ 1000 := by rw [hwl, hwt]; exact hwire
  have hlong2 : ∀ n ∈ ns, ((msgOct n).size : Int) ≤ longest := fun n hn => hlong _ (List.mem_append_left _ (List.mem_map.mpr ⟨n, hn, rfl⟩))
  have hst0 : LoopSt Rn ns longest LT.length 0 0 [] PT [] LT := by
    refine ⟨Nat.zero_le _, ?_, hn1, hn2, nofun, ?_, .inl ⟨by omega, Nat.le_refl _⟩⟩
    · rw [List.nil_append, hcut, ← hwl]; rfl
    · simp only [List.length_nil]; omega
  refine Ex.for C.own hh' ?_
  refine Ev.call ?_
  refine Ev.g (by assumption) Gl.g_range (by rw [Callee.scope (by assumption)]; rfl) ?_
  with_reducible refine ⟨Kp.ty, ?_⟩
  refine Evs.cons ?_
  with_reducible refine Ev.bin ?_
  with_reducible refine Ev.bin ?_
  refine Ev.call ?_
  refine Ev.g (by assumption) Gl.g_len (by rw [Callee.scope (by assumption)]; rfl) ?_
  with_reducible refine ⟨Kp.bi, ?_⟩
  refine Evs.cons ?_
  with_reducible refine Ev.loc (mem1 (mem1 (mem1 mem0))) ?_
  with_reducible refine Evs.nil ?_
  with_reducible refine EvK.nil ?_
  refine ⟨[], rfl, rfl, ?_⟩
  refine Cl.lenLst (by rw [List.length_map]; omega) ?_
  refine Ev.call ?_
  refine Ev.g (by assumption) Gl.g_len (by rw [Callee.scope (by assumption)]; rfl) ?_
  with_reducible refine ⟨Kp.bi, ?_⟩
  refine Evs.cons ?_
  with_reducible refine Ev.loc (mem1 (mem1 (mem1 (mem1 (mem1 (mem1 (mem1 (mem1 (mem1 (mem1 (mem1 mem0))))))))))) ?_
  with_reducible refine Evs.nil ?_
  with_reducible refine EvK.nil ?_
  refine ⟨[], rfl, rfl, ?_⟩
  refine Cl.lenLst (by rw [List.length_map]; omega) ?_
  with_reducible refine d_add ?_
  with_reducible refine Ev.int ?_
  with_reducible refine d_add ?_
  with_reducible refine Evs.nil ?_
  with_reducible refine EvK.nil ?_
  refine ⟨[], rfl, rfl, ?_⟩
  refine Cl.range ?_
  rw [List.length_map, List.length_map, show ((ns.length : Int) + (LT.length : Int) + 1) = ((ns.length + LT.length + 1 : Nat) : Int) by omega]
  refine ⟨_, _, fun i ρ' H' => ∃ (dv ov tv sv wv lv av fv : Option V) (seen : Nat) (u : List UInt8) (ps : List (Array UInt8)) (as : List Int) (L : List (Array UInt8)), ρ' = ([("script", some (.lst (ns0.map V.int))), ("numbers", some (.lst (ns.map V.int))), ("number", nv), ("messages", some (.lst (ns.map fun n => .tup [msgDue n, .bytes (msgOct n)]))), ("due", dv), ("octets", ov), ("wire", some (.bytes wire)), ("longest", some (.int longest)), ("parts", some (.lst (PP.map V.bytes))), ("come", some (.int cm)), ("part", pv), ("later", some (.lst (L.map V.bytes))), ("file", some (.ref A.f)), ("written", some (.int ((placeOf ns seen + u.length + (flat ps).length : Nat) : Int))), ("least", some (.int (Rn : Nat))), ("used", some (.ref a)), ("place", some (.int ((placeOf ns seen : Nat) : Int))), ("seen", some (.int ((seen : Nat) : Int))), ("turn", tv), ("size", sv), ("way", wv), ("lying", lv), ("asks", av), ("found", fv), ("room", none), ("more", none)] : Loc) ∧
    LoopSt Rn ns longest LT.length i seen u ps as L ∧ Idle ⟨a, d, ba, A.f, A.fd, A.pl, A.al⟩ Rn 104857600 (placeOf ns seen) u ps as ((pl, .list (P.map V.bytes)) :: H) H', It.range (by decide) (by decide) (by omega) (by omega), ⟨none, none, none, none, none, none, none, none, 0, [], PT, [], LT, ?_, hst0, [], Nat.zero_le _, rfl⟩, fun _ _ _ _ => trivial, ?_, ?_⟩
  · rw [show placeOf ns 0 + ([] : List UInt8).length + (flat PT).length = (flat PT).length by rw [hp0]; simp]
    rfl
  · rintro i v ρ' H1 q' hi ⟨dv, ov, tv, sv, wv, lv, av, fv, seen, u, ps, as, L, e1, hst, pre, hpre, e2⟩
    subst e1 e2
    obtain ⟨hlt, rfl⟩ := range_at hi
    rw [Int.zero_add]
    have ht : i ≤ 30 := by omega
    have hlens := hst.lens
    have hplr := place_rest ns seen
    have hbnd := hst.bound
    obtain ⟨hps1, hps2⟩ := flat_sub hst.n1
    obtain ⟨hL1, hL2⟩ := flat_sub hst.n2
    have hsle := hst.le
    refine put_and (by with_reducible exact (Put.tail (Put.tail (Put.tail (Put.tail (Put.tail (Put.tail (Put.tail (Put.tail (Put.tail (Put.tail (Put.tail (Put.tail (Put.tail (Put.tail (Put.tail (Put.tail (Put.tail (Put.tail Put.head))))))))))))))))))) ?_
    with_reducible refine Exs.cons ?_
    refine Ex.assignT hh' (.cons (.cons .nil)) ?_
    refine Ev.val (v := .tup [curDue ns seen, .bytes (curOct ns seen)]) ?_ ?_
    · refine Ev.ifexp (Tt.tst (v := decide (seen < ns.length)) ?_ (ite_d (fun e => ?_) (fun e => ?_)))
      · refine Tt.cmp ?_
        with_reducible refine Ev.loc (mem1 (mem1 (mem1 (mem1 (mem1 (mem1 (mem1 (mem1 (mem1 (mem1 (mem1 (mem1 (mem1 (mem1 (mem1 (mem1 (mem1 mem0))))))))))))))))) ?_
        refine Ev.call ?_
        refine Ev.g (by assumption) Gl.g_len (by rw [Callee.scope (by assumption)]; rfl) ?_
        with_reducible refine ⟨Kp.bi, ?_⟩
        refine Evs.cons ?_
        with_reducible refine Ev.loc (mem1 (mem1 (mem1 mem0))) ?_
        with_reducible refine Evs.nil ?_
        with_reducible refine EvK.nil ?_
        refine ⟨[], rfl, rfl, ?_⟩
        refine Cl.lenLst (by rw [List.length_map]; omega) ?_
        with_reducible refine c_lt ?_
        exact ⟨decide_eq_decide.mpr (by rw [List.length_map]; omega), rfl⟩
      · refine Ev.sub ?_
        with_reducible refine Ev.loc (mem1 (mem1 (mem1 mem0))) ?_
        with_reducible refine Ev.loc (mem1 (mem1 (mem1 (mem1 (mem1 (mem1 (mem1 (mem1 (mem1 (mem1 (mem1 (mem1 (mem1 (mem1 (mem1 (mem1 (mem1 mem0))))))))))))))))) ?_
        refine ⟨_, _, HasItem.lst, It1.lst (x := .tup [msgDue ns[seen], .bytes (msgOct ns[seen])]) (by omega) (by omega) (by rw [Int.toNat_natCast, List.getElem?_map, List.getElem?_eq_getElem e]; rfl) ?_⟩
        exact ⟨by rw [(cur_in e).1, (cur_in e).2], rfl⟩
      · with_reducible refine Ev.tup ?_
        refine Evs.cons ?_
        with_reducible refine Ev.str ?_
        refine Evs.cons ?_
        with_reducible refine Ev.bytes ?_
        with_reducible refine Evs.nil ?_
        refine ⟨sz rfl, ?_⟩
        exact ⟨by rw [(cur_out e).1, (cur_out e).2], rfl⟩
    refine ⟨_, _, rfl, .cons (by with_reducible exact (Put.tail (Put.tail (Put.tail (Put.tail Put.head))))) (.cons (by with_reducible exact (Put.tail (Put.tail (Put.tail (Put.tail (Put.tail Put.head)))))) .nil), ?_⟩
    have hsz := curOct_le ns seen
    with_reducible refine Then.next ?_
    with_reducible refine Exs.cons ?_
    refine Ex.assign ?_
    refine Ev.call ?_
    refine Ev.g (by assumption) Gl.g_len (by rw [Callee.scope (by assumption)]; rfl) ?_
    with_reducible refine ⟨Kp.bi, ?_⟩
    refine Evs.cons ?_
    with_reducible refine Ev.loc (mem1 (mem1 (mem1 (mem1 (mem1 mem0))))) ?_
    with_reducible refine Evs.nil ?_
    with_reducible refine EvK.nil ?_
    refine ⟨[], rfl, rfl, ?_⟩
    refine Cl.lenBytes (by omega) ?_
    refine put_and (Put.tail (Put.tail (Put.tail (Put.tail (Put.tail (Put.tail (Put.tail (Put.tail (Put.tail (Put.tail (Put.tail (Put.tail (Put.tail (Put.tail (Put.tail (Put.tail (Put.tail (Put.tail (Put.tail Put.head))))))))))))))))))) ?_
    with_reducible refine Then.next ?_
    with_reducible refine Exs.cons ?_
    refine Ex.assign ?_
    with_reducible refine Ev.bin ?_
    with_reducible refine Ev.bin ?_
    with_reducible refine Ev.loc (mem1 (mem1 (mem1 (mem1 (mem1 (mem1 (mem1 (mem1 (mem1 (mem1 (mem1 (mem1 (mem1 (mem1 (mem1 (mem1 (mem1 (mem1 mem0)))))))))))))))))) ?_
    refine Ev.call ?_
    refine Ev.g (by assumption) Gl.g_sum (by rw [Callee.scope (by assumption)]; rfl) ?_
    with_reducible refine ⟨Kp.bi, ?_⟩
    refine Evs.cons ?_
    with_reducible refine Ev.loc (mem1 mem0) ?_
    with_reducible refine Evs.nil ?_
    with_reducible refine EvK.nil ?_
    refine ⟨[], rfl, rfl, ?_⟩
    refine Cl.sumL hh' ?_
    with_reducible refine d_add ?_
    with_reducible refine Ev.int ?_
    with_reducible refine d_mod (by decide) ?_
    generalize hw0 : ((i : Int) + ns.sum).fmod 4 = w0
    have hw00 := Int.fmod_nonneg_of_pos ((i : Int) + ns.sum) (show (0 : Int) < 4 by decide)
    have hw01 := Int.fmod_lt_of_pos ((i : Int) + ns.sum) (show (0 : Int) < 4 by decide)
    rw [hw0] at hw00 hw01
    refine put_and (Put.tail (Put.tail (Put.tail (Put.tail (Put.tail (Put.tail (Put.tail (Put.tail (Put.tail (Put.tail (Put.tail (Put.tail (Put.tail (Put.tail (Put.tail (Put.tail (Put.tail (Put.tail (Put.tail (Put.tail Put.head)))))))))))))))))))) ?_
    with_reducible refine Then.next ?_
    with_reducible refine Exs.cons ?_
    refine Ex.cutP (fun ρ₁ H₁ => ∃ w1 : Int, (w1 = 0 ∨ w1 = 1 ∨ w1 = 2 ∨ w1 = 3) ∧ (w1 = 3 → (curOct ns seen).size ≤ u.length + (flat ps).length) ∧ ρ₁ = ([("script", some (.lst (ns0.map V.int))), ("numbers", some (.lst (ns.map V.int))), ("number", nv), ("messages", some (.lst (ns.map fun n => .tup [msgDue n, .bytes (msgOct n)]))), ("due", some (curDue ns seen)), ("octets", some (.bytes (curOct ns seen))), ("wire", some (.bytes wire)), ("longest", some (.int longest)), ("parts", some (.lst (PP.map V.bytes))), ("come", some (.int cm)), ("part", pv), ("later", some (.lst (L.map V.bytes))), ("file", some (.ref A.f)), ("written", some (.int ((placeOf ns seen + u.length + (flat ps).length : Nat) : Int))), ("least", some (.int (Rn : Nat))), ("used", some (.ref a)), ("place", some (.int ((placeOf ns seen : Nat) : Int))), ("seen", some (.int ((seen : Nat) : Int))), ("turn", some (.int i)), ("size", some (.int (curOct ns seen).size)), ("way", some (.int w1)), ("lying", lv), ("asks", av), ("found", fv), ("room", none), ("more", none)] : Loc) ∧
      H₁ = q' :: RH ⟨a, d, ba, A.f, A.fd, A.pl, A.al⟩ (Rn : Nat) (104857600 : Nat) (pre ++ u).toArray ((pre.length : Nat) : Int) ((pre.length : Nat) : Int) ((placeOf ns seen : Nat) : Int) ps as ((pl, .list (P.map V.bytes)) :: H)) ?_ ?_
    · refine Ex.ite (Tt.andV (p := decide (w0 = 3)) (q := decide (placeOf ns seen + u.length + (flat ps).length < placeOf ns seen + (curOct ns seen).size)) ?_ ?_ ?_)
      · refine Tt.cmp ?_
        with_reducible refine Ev.loc (mem1 (mem1 (mem1 (mem1 (mem1 (mem1 (mem1 (mem1 (mem1 (mem1 (mem1 (mem1 (mem1 (mem1 (mem1 (mem1 (mem1 (mem1 (mem1 (mem1 mem0)))))))))))))))))))) ?_
        with_reducible refine Ev.int ?_
        with_reducible refine c_eq ?_
        exact Tst.mk
      · intro _
        refine Tt.cmp ?_
        with_reducible refine Ev.bin ?_
        with_reducible refine Ev.loc (mem1 (mem1 (mem1 (mem1 (mem1 (mem1 (mem1 (mem1 (mem1 (mem1 (mem1 (mem1 (mem1 (mem1 (mem1 (mem1 mem0)))))))))))))))) ?_
        with_reducible refine Ev.loc (mem1 (mem1 (mem1 (mem1 (mem1 (mem1 (mem1 (mem1 (mem1 (mem1 (mem1 (mem1 (mem1 (mem1 (mem1 (mem1 (mem1 (mem1 (mem1 mem0))))))))))))))))))) ?_
        with_reducible refine d_add ?_
        with_reducible refine Ev.loc (mem1 (mem1 (mem1 (mem1 (mem1 (mem1 (mem1 (mem1 (mem1 (mem1 (mem1 (mem1 (mem1 mem0))))))))))))) ?_
        with_reducible refine c_gt ?_
        exact ⟨decide_eq_decide.mpr (by omega), rfl⟩
      refine ite_b (fun e => ?_) (fun e => ?_)
      · with_reducible refine Exs.cons ?_
        refine Ex.assign ?_
        with_reducible refine Ev.int ?_
        refine put_and (Put.tail (Put.tail (Put.tail (Put.tail (Put.tail (Put.tail (Put.tail (Put.tail (Put.tail (Put.tail (Put.tail (Put.tail (Put.tail (Put.tail (Put.tail (Put.tail (Put.tail (Put.tail (Put.tail (Put.tail Put.head)))))))))))))))))))) ?_
        with_reducible refine Then.next ?_
        with_reducible refine Exs.nil ?_
        exact ⟨rfl, 0, .inl rfl, by omega, rfl, rfl⟩
      · with_reducible refine Exs.nil ?_
        refine ⟨rfl, w0, by omega, fun e3 => ?_, rfl, rfl⟩
        rw [decide_eq_true e3, Bool.true_and] at e
        have := of_decide_eq_false e
        omega
    rintro ρ₁ H₁ ⟨w1, hw1, hc1, rfl, rfl⟩
    with_reducible refine Then.next ?_
    with_reducible refine Exs.cons ?_
    refine' Ex.assignComp (names := ["part"]) (cl := []) (swaps_true C.scope rfl) hh' ?clos ?ok ?_ ?_
    case clos => exact closure_none rfl
    case ok => rw [C.scope]; rfl
    rotate_left
    · intro _ _; rfl
    refine Ev.attr ?_
    with_reducible refine Ev.loc (mem1 (mem1 (mem1 (mem1 (mem1 (mem1 (mem1 (mem1 (mem1 (mem1 (mem1 (mem1 mem0)))))))))))) ?_
    refine' Do1.is (Is.attr (mem1 (mem1 (mem1 (mem1 mem0)))) (mem1 (mem1 (mem1 (mem1 (mem1 mem0))))) mem0 ?w4_390 rfl) ?wq_390
    case w4_390 => (rw [Ok.K (by assumption)]; refine' attrOK_mk ?ka_390 ?kb_390 ?kc_390 ?kd_390; (case kc_390 => k_is); (case ka_390 => k_is); (case kb_390 => k_is); (case kd_390 => k_is))
    refine ⟨ps.map V.bytes, CompOf.map (fun v => v) (It.list (by (with_reducible refine mem1 ?_; with_reducible refine mem1 ?_; with_reducible refine mem1 ?_; with_reducible refine mem1 ?_; with_reducible refine mem1 ?_; with_reducible refine mem1 ?_; with_reducible exact mem0))) (by rw [List.length_map]; omega) (fun _ => by (with_reducible refine mem1 ?_; with_reducible refine mem1 ?_; with_reducible refine mem1 ?_; with_reducible refine mem1 ?_; with_reducible refine mem1 ?_; with_reducible refine mem1 ?_; with_reducible refine mem1 ?_; with_reducible exact mem0)) (by rw [List.map_id']) ?_, ?_⟩
    · intro c₂ I x hx
      have B₂ := B'.inner I
      refine ⟨[("part", some x)], Asg.name Put.head, rfl, fun q₁ q₂ => ?_⟩
      with_reducible refine Ev.loc mem0 ?_
      exact Val.mk
    refine put_and (Put.tail (Put.tail (Put.tail (Put.tail (Put.tail (Put.tail (Put.tail (Put.tail (Put.tail (Put.tail (Put.tail (Put.tail (Put.tail (Put.tail (Put.tail (Put.tail (Put.tail (Put.tail (Put.tail (Put.tail (Put.tail Put.head))))))))))))))))))))) ?_
    with_reducible refine Then.next ?_
    with_reducible refine Exs.cons ?_
    refine Ex.assign ?_
    refine Ev.call ?_
    refine Ev.g (by assumption) Gl.g_len (by rw [Callee.scope (by assumption)]; rfl) ?_
    with_reducible refine ⟨Kp.bi, ?_⟩
    refine Evs.cons ?_
    refine Ev.attr ?_
    with_reducible refine Ev.loc (mem1 (mem1 (mem1 (mem1 (mem1 (mem1 (mem1 (mem1 (mem1 (mem1 (mem1 (mem1 mem0)))))))))))) ?_
    refine' Do1.is (Is.attr (mem1 (mem1 (mem1 (mem1 mem0)))) (mem1 (mem1 (mem1 (mem1 (mem1 mem0))))) (mem1 mem0) ?w4_404 rfl) ?wq_404
    case w4_404 => (rw [Ok.K (by assumption)]; refine' attrOK_mk ?ka_404 ?kb_404 ?kc_404 ?kd_404; (case kc_404 => k_is); (case ka_404 => k_is); (case kb_404 => k_is); (case kd_404 => k_is))
    with_reducible refine Evs.nil ?_
    with_reducible refine EvK.nil ?_
    refine ⟨[], rfl, rfl, ?_⟩
    refine Cl.lenList (by (with_reducible refine mem1 ?_; with_reducible refine mem1 ?_; with_reducible refine mem1 ?_; with_reducible refine mem1 ?_; with_reducible refine mem1 ?_; with_reducible refine mem1 ?_; with_reducible refine mem1 ?_; with_reducible exact mem0)) (by rw [List.length_map]; omega) ?_
    rw [List.length_map]
    refine put_and (Put.tail (Put.tail (Put.tail (Put.tail (Put.tail (Put.tail (Put.tail (Put.tail (Put.tail (Put.tail (Put.tail (Put.tail (Put.tail (Put.tail (Put.tail (Put.tail (Put.tail (Put.tail (Put.tail (Put.tail (Put.tail (Put.tail Put.head)))))))))))))))))))))) ?_
    with_reducible refine Then.next ?_
    with_reducible refine Exs.cons ?_
    refine Ex.assign ?_
    refine Ev.call ?_
    refine Ev.g (by assumption) Gl.g_law_done (by rw [Callee.scope (by assumption)]; rfl) ?_
    refine ⟨Kp.ref (by rw [Ok.K (by assumption)]; k_is), ?_⟩
    refine Evs.cons ?_
    with_reducible refine Ev.loc (mem1 (mem1 (mem1 (mem1 (mem1 (mem1 (mem1 (mem1 (mem1 (mem1 (mem1 (mem1 (mem1 (mem1 (mem1 mem0))))))))))))))) ?_
    refine Evs.cons ?_
    with_reducible refine Ev.loc (mem1 (mem1 (mem1 (mem1 (mem1 (mem1 (mem1 (mem1 (mem1 (mem1 (mem1 (mem1 (mem1 (mem1 (mem1 (mem1 (mem1 (mem1 (mem1 (mem1 mem0)))))))))))))))))))) ?_
    refine Evs.cons ?_
    with_reducible refine Ev.loc (mem1 (mem1 (mem1 (mem1 (mem1 (mem1 (mem1 (mem1 (mem1 (mem1 (mem1 (mem1 (mem1 (mem1 (mem1 (mem1 (mem1 (mem1 (mem1 mem0))))))))))))))))))) ?_
    with_reducible refine Evs.nil ?_
    with_reducible refine EvK.nil ?_
    refine ⟨[], rfl, rfl, ?_⟩
    refine Cl.perm RH.rot ?_
    obtain ⟨mv, hM, hs⟩ := turn_msg (A := ⟨a, d, ba, A.f, A.fd, A.pl, A.al⟩) hst
    refine (law_done B' (by omega) hh' (turn_ok hst hRn1 hwl2 ht) (T := turnTask ⟨a, d, ba, A.f, A.fd, A.pl, A.al⟩ Rn ns seen u ps as) (G := q' :: (pl, .list (P.map V.bytes)) :: H) ⟨pre, hpre, rfl⟩ hM hs (by show (curOct ns seen).size ≤ 104857600; omega) hw1 hc1 ?_ ?_).cl
    · intro H2 hF
      obtain ⟨fnd, hfv⟩ : ∃ fnd, fnd = (if w1 = 2 then V.tup [.str "skipped", .none] else if w1 = 3 then V.tup [.str "octets", .bytes ((turnTask ⟨a, d, ba, A.f, A.fd, A.pl, A.al⟩ Rn ns seen u ps as).W.take (turnTask ⟨a, d, ba, A.f, A.fd, A.pl, A.al⟩ Rn ns seen u ps as).S).toArray] else curDue ns seen) := ⟨_, rfl⟩
      rw [← hfv]
      obtain ⟨u', ps', as', F, hS, pre, hpre, eH⟩ := hF
      obtain ⟨hk, hst'⟩ := turn_told hst hRn1 hlong2 F hS
      have hps : placeOf ns seen + (curOct ns seen).size = placeOf ns (seen + 1) := (place_succ hk).symm
      have eH : H2 = RH ⟨a, d, ba, A.f, A.fd, A.pl, A.al⟩ (Rn : Nat) (104857600 : Nat) (pre ++ u'.drop (curOct ns seen).size).toArray ((pre.length : Nat) : Int) ((pre.length : Nat) : Int) ((placeOf ns (seen + 1) : Nat) : Int) ps' (as ++ as') (q' :: (pl, .list (P.map V.bytes)) :: H) := by rw [← hps]; exact eH
      subst eH
      have hpre : pre.length ≤ placeOf ns (seen + 1) := by rw [← hps]; exact hpre
      have F : Frug Rn (min (curOct ns seen).size 104857600) u ps as' u' ps' false := F
      have hal := F.asLen hRn1.1
      simp only [Bool.false_eq_true, if_false] at hal
      have hfl : u' ++ flat ps' = u ++ flat ps := F.flat
      have hfl2 := congrArg List.length hfl
      rw [List.length_append, List.length_append] at hfl2
      have hS : (curOct ns seen).size ≤ u'.length := hS
      have hWS : ((turnTask ⟨a, d, ba, A.f, A.fd, A.pl, A.al⟩ Rn ns seen u ps as).W.take (turnTask ⟨a, d, ba, A.f, A.fd, A.pl, A.al⟩ Rn ns seen u ps as).S).toArray = curOct ns seen := by
        show ((if seen < ns.length then restOf ns seen else [192]).take (curOct ns seen).size).toArray = _
        rw [if_pos hk, rest_in hk, List.take_left' (Array.length_toList (xs := curOct ns seen)), Array.toArray_toList]
      have hfnd : ∃ xs, fnd = .tup xs ∧ ∀ x ∈ xs, VD 12 x := by
        have two : ∀ (a b : V), VD 12 a → VD 12 b → ∀ x ∈ [a, b], VD 12 x := fun a b ha hb x hx => by
          rcases List.mem_cons.mp hx with rfl | hx
          · exact ha
          · rw [List.mem_singleton.mp hx]; exact hb
        rw [hfv]
        split
        · exact ⟨_, rfl, two _ _ (.str _) .none⟩
        split
        · exact ⟨_, rfl, two _ _ (.str _) (.bytes _)⟩
        · rw [(cur_in hk).1]; exact msg_vd _
      refine put_and (Put.tail (Put.tail (Put.tail (Put.tail (Put.tail (Put.tail (Put.tail (Put.tail (Put.tail (Put.tail (Put.tail (Put.tail (Put.tail (Put.tail (Put.tail (Put.tail (Put.tail (Put.tail (Put.tail (Put.tail (Put.tail (Put.tail (Put.tail Put.head))))))))))))))))))))))) ?_
      with_reducible refine Then.next ?_
      with_reducible refine Exs.cons ?_
      refine Ex.ite (Tt.not (Tt.val ?_))
      refine Ev.call ?_
      refine Ev.g (by assumption) Gl.g_law_frugal (by rw [Callee.scope (by assumption)]; rfl) ?_
      refine ⟨Kp.ref (by rw [Ok.K (by assumption)]; k_is), ?_⟩
      refine Evs.cons ?_
      refine Ev.slice ?_
      refine Ev.attr ?_
      with_reducible refine Ev.loc (mem1 (mem1 (mem1 (mem1 (mem1 (mem1 (mem1 (mem1 (mem1 (mem1 (mem1 (mem1 mem0)))))))))))) ?_
      refine' Do1.is (Is.attr (mem1 (mem1 (mem1 mem0))) (mem1 (mem1 (mem1 (mem1 mem0)))) (mem1 mem0) ?w4_435 rfl) ?wq_435
      case w4_435 => (rw [Ok.K (by assumption)]; refine' attrOK_mk ?ka_435 ?kb_435 ?kc_435 ?kd_435; (case kc_435 => k_is); (case ka_435 => k_is); (case kb_435 => k_is); (case kd_435 => k_is))
      refine EvO.some ?_
      with_reducible refine Ev.loc (mem1 (mem1 (mem1 (mem1 (mem1 (mem1 (mem1 (mem1 (mem1 (mem1 (mem1 (mem1 (mem1 (mem1 (mem1 (mem1 (mem1 (mem1 (mem1 (mem1 (mem1 (mem1 mem0)))))))))))))))))))))) ?_
      refine EvO.none ⟨_, _, _, _, rfl, rfl, fun sa => ⟨HasItem.list (by (with_reducible refine mem1 ?_; with_reducible refine mem1 ?_; with_reducible refine mem1 ?_; with_reducible refine mem1 ?_; with_reducible refine mem1 ?_; with_reducible refine mem1 ?_; with_reducible refine mem1 ?_; with_reducible exact mem0)), Sl.list (by (with_reducible refine mem1 ?_; with_reducible refine mem1 ?_; with_reducible refine mem1 ?_; with_reducible refine mem1 ?_; with_reducible refine mem1 ?_; with_reducible refine mem1 ?_; with_reducible exact mem0)) (by rw [sizeLine_eq, List.length_map, List.length_append]; omega) ?_⟩⟩
      rw [show cutL (List.map V.int (as ++ as')) (some (as.length : Int)) none = as'.map V.int by rw [cutL_drop, List.map_append]; exact List.drop_left' (by rw [List.length_map])]
      refine Evs.cons ?_
      with_reducible refine Ev.loc (mem1 (mem1 (mem1 (mem1 (mem1 (mem1 (mem1 (mem1 (mem1 (mem1 (mem1 (mem1 (mem1 (mem1 (mem1 (mem1 (mem1 (mem1 (mem1 (mem1 (mem1 mem0))))))))))))))))))))) ?_
      refine Evs.cons ?_
      refine Ev.val (v := .int ((placeOf ns seen + u.length : Nat) : Int)) ?_ ?_
      · with_reducible refine Ev.bin ?_
        with_reducible refine Ev.loc (mem1 (mem1 (mem1 (mem1 (mem1 (mem1 (mem1 (mem1 (mem1 (mem1 (mem1 (mem1 (mem1 mem0))))))))))))) ?_
        refine Ev.call ?_
        refine Ev.g (by assumption) Gl.g_sum (by rw [Callee.scope (by assumption)]; rfl) ?_
        with_reducible refine ⟨Kp.bi, ?_⟩
        refine Evs.cons ?_
        refine Ev.comp (names := ["part"]) (cl := []) hh' (closure_none rfl) (by rw [C.scope]; rfl) ?_
        with_reducible refine Ev.loc (mem1 (mem1 (mem1 (mem1 (mem1 (mem1 (mem1 (mem1 (mem1 (mem1 (mem1 (mem1 (mem1 (mem1 (mem1 (mem1 (mem1 (mem1 (mem1 (mem1 (mem1 mem0))))))))))))))))))))) ?_
        refine ⟨(ps.map fun q => (q.size : Int)).map V.int, CompOf.map (fun v => match v with | .bytes b => .int b.size | _ => .none) It.lst (by rw [List.length_map]; omega) (fun _ => trivial) (by rw [List.map_map, List.map_map]; rfl) ?_, ?_⟩
        · intro c₂ I x hx
          have B₂ := B'.inner I
          obtain ⟨b, hb, rfl⟩ := List.mem_map.mp hx
          have hbs := hps2 b hb
          refine ⟨[("part", some (.bytes b))], Asg.name Put.head, rfl, fun q₁ q₂ => ?_⟩
          refine Ev.call ?_
          refine Ev.g (by assumption) Gl.g_len (by rw [Inner.scope (by assumption), Callee.scope (by assumption)]; rfl) ?_
          with_reducible refine ⟨Kp.bi, ?_⟩
          refine Evs.cons ?_
          with_reducible refine Ev.loc mem0 ?_
          with_reducible refine Evs.nil ?_
          with_reducible refine EvK.nil ?_
          refine ⟨[], rfl, rfl, ?_⟩
          refine Cl.lenBytes (by omega) ?_
          exact Val.mk
        with_reducible refine Evs.nil ?_
        with_reducible refine EvK.nil ?_
        refine ⟨[], rfl, rfl, ?_⟩
        refine Cl.sumL hh' ?_
        with_reducible refine d_sub ?_
        refine ⟨?_, rfl⟩
        have hfl := flat_len ps
        rw [sum_cast]
        congr 1; omega
      refine Evs.cons ?_
      refine Ev.val (v := .int ((placeOf ns seen + (curOct ns seen).size : Nat) : Int)) ?_ ?_
      · with_reducible refine Ev.bin ?_
        with_reducible refine Ev.loc (mem1 (mem1 (mem1 (mem1 (mem1 (mem1 (mem1 (mem1 (mem1 (mem1 (mem1 (mem1 (mem1 (mem1 (mem1 (mem1 mem0)))))))))))))))) ?_
        with_reducible refine Ev.loc (mem1 (mem1 (mem1 (mem1 (mem1 (mem1 (mem1 (mem1 (mem1 (mem1 (mem1 (mem1 (mem1 (mem1 (mem1 (mem1 (mem1 (mem1 (mem1 mem0))))))))))))))))))) ?_
        with_reducible refine d_add ?_
        exact ⟨by congr 1, rfl⟩
      with_reducible refine Evs.nil ?_
      with_reducible refine EvK.nil ?_
      refine ⟨[], rfl, rfl, ?_⟩
      refine (law_frugal B' (by omega) hh' F (off := placeOf ns seen) (due := placeOf ns seen + (curOct ns seen).size) (Nat.add_le_add_left (Nat.min_le_left _ _) _) hRn1.1 (by omega) (fun p hp => by have := hps2 p hp; omega) (by omega) ?_).cl
      with_reducible refine t_bool ?_
      refine ite_f ?_
      with_reducible refine Exs.nil ?_
      with_reducible refine Then.next ?_
      with_reducible refine Exs.cons ?_
      refine Ex.ite (Tt.tst (v := true) ?_ (ite_t ?_))
      · refine Tt.cmp ?_
        with_reducible refine Ev.bin ?_
        with_reducible refine Ev.loc (mem1 (mem1 (mem1 (mem1 (mem1 (mem1 (mem1 (mem1 (mem1 (mem1 (mem1 (mem1 (mem1 (mem1 (mem1 (mem1 mem0)))))))))))))))) ?_
        with_reducible refine Ev.loc (mem1 (mem1 (mem1 (mem1 (mem1 (mem1 (mem1 (mem1 (mem1 (mem1 (mem1 (mem1 (mem1 (mem1 (mem1 (mem1 (mem1 (mem1 (mem1 mem0))))))))))))))))))) ?_
        with_reducible refine d_add ?_
        with_reducible refine Ev.loc (mem1 (mem1 (mem1 (mem1 (mem1 (mem1 (mem1 (mem1 (mem1 (mem1 (mem1 (mem1 (mem1 mem0))))))))))))) ?_
        with_reducible refine c_le ?_
        exact ⟨decide_eq_true (by omega), rfl⟩
      with_reducible refine Exs.cons ?_
      refine Ex.ite (Tt.tst (v := false) ?_ (ite_f ?_))
      · refine Tt.cmp ?_
        with_reducible refine Ev.loc (mem1 (mem1 (mem1 (mem1 (mem1 (mem1 (mem1 (mem1 (mem1 (mem1 (mem1 (mem1 (mem1 (mem1 (mem1 (mem1 (mem1 (mem1 (mem1 (mem1 (mem1 (mem1 (mem1 mem0))))))))))))))))))))))) ?_
        refine Ev.val (v := fnd) ?_ ?_
        · refine Ev.ifexp (Tt.tst (v := decide (w1 = 2)) ?_ (ite_d (fun e => ?_) (fun e => ?_)))
          · refine Tt.cmp ?_
            with_reducible refine Ev.loc (mem1 (mem1 (mem1 (mem1 (mem1 (mem1 (mem1 (mem1 (mem1 (mem1 (mem1 (mem1 (mem1 (mem1 (mem1 (mem1 (mem1 (mem1 (mem1 (mem1 mem0)))))))))))))))))))) ?_
            with_reducible refine Ev.int ?_
            with_reducible refine c_eq ?_
            exact Tst.mk
          · with_reducible refine Ev.tup ?_
            refine Evs.cons ?_
            with_reducible refine Ev.str ?_
            refine Evs.cons ?_
            with_reducible refine Ev.none ?_
            with_reducible refine Evs.nil ?_
            refine ⟨sz rfl, ?_⟩
            exact ⟨by rw [hfv, if_pos e], rfl⟩
          · refine Ev.ifexp (Tt.tst (v := decide (w1 = 3)) ?_ (ite_d (fun e' => ?_) (fun e' => ?_)))
            · refine Tt.cmp ?_
              with_reducible refine Ev.loc (mem1 (mem1 (mem1 (mem1 (mem1 (mem1 (mem1 (mem1 (mem1 (mem1 (mem1 (mem1 (mem1 (mem1 (mem1 (mem1 (mem1 (mem1 (mem1 (mem1 mem0)))))))))))))))))))) ?_
              with_reducible refine Ev.int ?_
              with_reducible refine c_eq ?_
              exact Tst.mk
            · with_reducible refine Ev.tup ?_
              refine Evs.cons ?_
              with_reducible refine Ev.str ?_
              refine Evs.cons ?_
              with_reducible refine Ev.loc (mem1 (mem1 (mem1 (mem1 (mem1 mem0))))) ?_
              with_reducible refine Evs.nil ?_
              refine ⟨sz rfl, ?_⟩
              exact ⟨by rw [hfv, if_neg e, if_pos e', hWS], rfl⟩
            · with_reducible refine Ev.loc (mem1 (mem1 (mem1 (mem1 mem0)))) ?_
              exact ⟨by rw [hfv, if_neg e, if_neg e'], rfl⟩
        obtain ⟨xs, e, hv⟩ := hfnd
        rw [e]
        exact ⟨false, Is.neTup hv, rfl, rfl⟩
      with_reducible refine Exs.nil ?_
      with_reducible refine Then.next ?_
      with_reducible refine Exs.cons ?_
      refine Ex.assign ?_
      with_reducible refine Ev.bin ?_
      with_reducible refine Ev.loc (mem1 (mem1 (mem1 (mem1 (mem1 (mem1 (mem1 (mem1 (mem1 (mem1 (mem1 (mem1 (mem1 (mem1 (mem1 (mem1 mem0)))))))))))))))) ?_
      with_reducible refine Ev.loc (mem1 (mem1 (mem1 (mem1 (mem1 (mem1 (mem1 (mem1 (mem1 (mem1 (mem1 (mem1 (mem1 (mem1 (mem1 (mem1 (mem1 (mem1 (mem1 mem0))))))))))))))))))) ?_
      with_reducible refine d_add ?_
      refine put_and (Put.tail (Put.tail (Put.tail (Put.tail (Put.tail (Put.tail (Put.tail (Put.tail (Put.tail (Put.tail (Put.tail (Put.tail (Put.tail (Put.tail (Put.tail (Put.tail Put.head)))))))))))))))) ?_
      with_reducible refine Then.next ?_
      with_reducible refine Exs.cons ?_
      refine Ex.assign ?_
      with_reducible refine Ev.bin ?_
      with_reducible refine Ev.loc (mem1 (mem1 (mem1 (mem1 (mem1 (mem1 (mem1 (mem1 (mem1 (mem1 (mem1 (mem1 (mem1 (mem1 (mem1 (mem1 (mem1 mem0))))))))))))))))) ?_
      with_reducible refine Ev.int ?_
      with_reducible refine d_add ?_
      refine put_and (Put.tail (Put.tail (Put.tail (Put.tail (Put.tail (Put.tail (Put.tail (Put.tail (Put.tail (Put.tail (Put.tail (Put.tail (Put.tail (Put.tail (Put.tail (Put.tail (Put.tail Put.head))))))))))))))))) ?_
      with_reducible refine Then.next ?_
      with_reducible refine Exs.nil ?_
      with_reducible refine Then.next ?_
      with_reducible refine Exs.cons ?_
      with_reducible refine Ex.ite ?_
      refine Tt.tst (v := false) ?_ (ite_f ?_)
      · refine Tt.cmp ?_
        refine Ev.meth ?_
        with_reducible refine Ev.loc (mem1 (mem1 (mem1 (mem1 (mem1 (mem1 (mem1 (mem1 (mem1 (mem1 (mem1 (mem1 (mem1 (mem1 (mem1 mem0))))))))))))))) ?_
        refine' ⟨_, _, Mt.inst mem0 (mem1 mem0) (notKey rfl) ?w4_529, Kp.ref ?w5_529, ?wq_529⟩
        case w4_529 => (rw [Ok.K (by assumption)]; refine' methOK_mk ?ka_529 ?kb_529 ?kc_529 ?kd_529; (case kb_529 => k_is); (case ka_529 => k_is); (case kc_529 => k_is); (case kd_529 => k_is))
        case w5_529 => (rw [Ok.K (by assumption)]; k_is)
        with_reducible refine Evs.nil ?_
        with_reducible refine EvK.nil ?_
        refine ⟨[], rfl, rfl, ?_⟩
        refine (tell B' (by omega) ?_).cl
        with_reducible refine Ev.loc (mem1 (mem1 (mem1 (mem1 (mem1 (mem1 (mem1 (mem1 (mem1 (mem1 (mem1 (mem1 (mem1 (mem1 (mem1 (mem1 mem0)))))))))))))))) ?_
        with_reducible refine c_ne ?_
        exact ⟨decide_eq_false (by omega), rfl⟩
      with_reducible refine Exs.nil ?_
      with_reducible refine Then.next ?_
      with_reducible refine Exs.nil ?_
      have h1 : (((placeOf ns seen : Nat) : Int) + ((curOct ns seen).size : Int)) = ((placeOf ns (seen + 1) : Nat) : Int) := by omega
      have hdl : (u'.drop (curOct ns seen).size).length = u'.length - (curOct ns seen).size := List.length_drop
      have h2 : ((placeOf ns seen + u.length + (flat ps).length : Nat) : Int) = ((placeOf ns (seen + 1) + (u'.drop (curOct ns seen).size).length + (flat ps').length : Nat) : Int) := by omega
      refine ⟨_, RH.rot.symm, some (curDue ns seen), some (.bytes (curOct ns seen)), some (.int i), some (.int (curOct ns seen).size), some (.int w1), some (.lst (ps.map V.bytes)), some (.int as.length), some fnd, seen + 1, u'.drop (curOct ns seen).size, ps', as ++ as', L, ?_, hst', pre, hpre, rfl⟩
      rw [h1, h2]; rfl
    · intro H2 hE
      obtain ⟨fnd, hfv⟩ : ∃ fnd, fnd = (if w1 = 1 then V.str "end" else V.str "short") := ⟨_, rfl⟩
      rw [← hfv]
      obtain ⟨u', as', F, pre, hpre, eH⟩ := hE.idle
      obtain ⟨hpl, hult, hnil, hcons⟩ := turn_short hst hRn1 hlong2 F
      have eH : H2 = RH ⟨a, d, ba, A.f, A.fd, A.pl, A.al⟩ (Rn : Nat) (104857600 : Nat) (pre ++ u').toArray ((pre.length : Nat) : Int) ((pre.length : Nat) : Int) ((placeOf ns seen : Nat) : Int) [] (as ++ as') (q' :: (pl, .list (P.map V.bytes)) :: H) := eH
      subst eH
      have hpre : pre.length ≤ placeOf ns seen := hpre
      have F : Frug Rn (min (curOct ns seen).size 104857600) u ps as' u' [] true := F
      have hal := F.asLen hRn1.1
      simp only [if_true, flat_nil, List.length_nil] at hal
      have hfs : ∃ x, fnd = .str x := by
        rw [hfv]; split
        · exact ⟨_, rfl⟩
        · exact ⟨_, rfl⟩
      refine put_and (Put.tail (Put.tail (Put.tail (Put.tail (Put.tail (Put.tail (Put.tail (Put.tail (Put.tail (Put.tail (Put.tail (Put.tail (Put.tail (Put.tail (Put.tail (Put.tail (Put.tail (Put.tail (Put.tail (Put.tail (Put.tail (Put.tail (Put.tail Put.head))))))))))))))))))))))) ?_
      with_reducible refine Then.next ?_
      with_reducible refine Exs.cons ?_
      refine Ex.ite (Tt.not (Tt.val ?_))
      refine Ev.call ?_
      refine Ev.g (by assumption) Gl.g_law_frugal (by rw [Callee.scope (by assumption)]; rfl) ?_
      refine ⟨Kp.ref (by rw [Ok.K (by assumption)]; k_is), ?_⟩
      refine Evs.cons ?_
      refine Ev.slice ?_
      refine Ev.attr ?_
      with_reducible refine Ev.loc (mem1 (mem1 (mem1 (mem1 (mem1 (mem1 (mem1 (mem1 (mem1 (mem1 (mem1 (mem1 mem0)))))))))))) ?_
      refine' Do1.is (Is.attr (mem1 (mem1 (mem1 mem0))) (mem1 (mem1 (mem1 (mem1 mem0)))) (mem1 mem0) ?w4_548 rfl) ?wq_548
      case w4_548 => (rw [Ok.K (by assumption)]; refine' attrOK_mk ?ka_548 ?kb_548 ?kc_548 ?kd_548; (case kc_548 => k_is); (case ka_548 => k_is); (case kb_548 => k_is); (case kd_548 => k_is))
      refine EvO.some ?_
      with_reducible refine Ev.loc (mem1 (mem1 (mem1 (mem1 (mem1 (mem1 (mem1 (mem1 (mem1 (mem1 (mem1 (mem1 (mem1 (mem1 (mem1 (mem1 (mem1 (mem1 (mem1 (mem1 (mem1 (mem1 mem0)))))))))))))))))))))) ?_
      refine EvO.none ⟨_, _, _, _, rfl, rfl, fun sa => ⟨HasItem.list (by (with_reducible refine mem1 ?_; with_reducible refine mem1 ?_; with_reducible refine mem1 ?_; with_reducible refine mem1 ?_; with_reducible refine mem1 ?_; with_reducible refine mem1 ?_; with_reducible refine mem1 ?_; with_reducible exact mem0)), Sl.list (by (with_reducible refine mem1 ?_; with_reducible refine mem1 ?_; with_reducible refine mem1 ?_; with_reducible refine mem1 ?_; with_reducible refine mem1 ?_; with_reducible refine mem1 ?_; with_reducible exact mem0)) (by rw [sizeLine_eq, List.length_map, List.length_append]; omega) ?_⟩⟩
      rw [show cutL (List.map V.int (as ++ as')) (some (as.length : Int)) none = as'.map V.int by rw [cutL_drop, List.map_append]; exact List.drop_left' (by rw [List.length_map])]
      refine Evs.cons ?_
      with_reducible refine Ev.loc (mem1 (mem1 (mem1 (mem1 (mem1 (mem1 (mem1 (mem1 (mem1 (mem1 (mem1 (mem1 (mem1 (mem1 (mem1 (mem1 (mem1 (mem1 (mem1 (mem1 (mem1 mem0))))))))))))))))))))) ?_
      refine Evs.cons ?_
      refine Ev.val (v := .int ((placeOf ns seen + u.length : Nat) : Int)) ?_ ?_
      · with_reducible refine Ev.bin ?_
        with_reducible refine Ev.loc (mem1 (mem1 (mem1 (mem1 (mem1 (mem1 (mem1 (mem1 (mem1 (mem1 (mem1 (mem1 (mem1 mem0))))))))))))) ?_
        refine Ev.call ?_
        refine Ev.g (by assumption) Gl.g_sum (by rw [Callee.scope (by assumption)]; rfl) ?_
        with_reducible refine ⟨Kp.bi, ?_⟩
        refine Evs.cons ?_
        refine Ev.comp (names := ["part"]) (cl := []) hh' (closure_none rfl) (by rw [C.scope]; rfl) ?_
        with_reducible refine Ev.loc (mem1 (mem1 (mem1 (mem1 (mem1 (mem1 (mem1 (mem1 (mem1 (mem1 (mem1 (mem1 (mem1 (mem1 (mem1 (mem1 (mem1 (mem1 (mem1 (mem1 (mem1 mem0))))))))))))))))))))) ?_
        refine ⟨(ps.map fun q => (q.size : Int)).map V.int, CompOf.map (fun v => match v with | .bytes b => .int b.size | _ => .none) It.lst (by rw [List.length_map]; omega) (fun _ => trivial) (by rw [List.map_map, List.map_map]; rfl) ?_, ?_⟩
        · intro c₂ I x hx
          have B₂ := B'.inner I
          obtain ⟨b, hb, rfl⟩ := List.mem_map.mp hx
          have hbs := hps2 b hb
          refine ⟨[("part", some (.bytes b))], Asg.name Put.head, rfl, fun q₁ q₂ => ?_⟩
          refine Ev.call ?_
          refine Ev.g (by assumption) Gl.g_len (by rw [Inner.scope (by assumption), Callee.scope (by assumption)]; rfl) ?_
          with_reducible refine ⟨Kp.bi, ?_⟩
          refine Evs.cons ?_
          with_reducible refine Ev.loc mem0 ?_
          with_reducible refine Evs.nil ?_
          with_reducible refine EvK.nil ?_
          refine ⟨[], rfl, rfl, ?_⟩
          refine Cl.lenBytes (by omega) ?_
          exact Val.mk
        with_reducible refine Evs.nil ?_
        with_reducible refine EvK.nil ?_
        refine ⟨[], rfl, rfl, ?_⟩
        refine Cl.sumL hh' ?_
        with_reducible refine d_sub ?_
        refine ⟨?_, rfl⟩
        have hfl := flat_len ps
        rw [sum_cast]
        congr 1; omega
      refine Evs.cons ?_
      refine Ev.val (v := .int ((placeOf ns seen + (curOct ns seen).size : Nat) : Int)) ?_ ?_
      · with_reducible refine Ev.bin ?_
        with_reducible refine Ev.loc (mem1 (mem1 (mem1 (mem1 (mem1 (mem1 (mem1 (mem1 (mem1 (mem1 (mem1 (mem1 (mem1 (mem1 (mem1 (mem1 mem0)))))))))))))))) ?_
        with_reducible refine Ev.loc (mem1 (mem1 (mem1 (mem1 (mem1 (mem1 (mem1 (mem1 (mem1 (mem1 (mem1 (mem1 (mem1 (mem1 (mem1 (mem1 (mem1 (mem1 (mem1 mem0))))))))))))))))))) ?_
        with_reducible refine d_add ?_
        exact ⟨by congr 1, rfl⟩
      with_reducible refine Evs.nil ?_
      with_reducible refine EvK.nil ?_
      refine ⟨[], rfl, rfl, ?_⟩
      refine (law_frugal B' (by omega) hh' F (off := placeOf ns seen) (due := placeOf ns seen + (curOct ns seen).size) (Nat.add_le_add_left (Nat.min_le_left _ _) _) hRn1.1 (by omega) (fun p hp => by have := hps2 p hp; omega) (by omega) ?_).cl
      with_reducible refine t_bool ?_
      refine ite_f ?_
      with_reducible refine Exs.nil ?_
      with_reducible refine Then.next ?_
      with_reducible refine Exs.cons ?_
      refine Ex.ite (Tt.tst (v := false) ?_ (ite_f ?_))
      · refine Tt.cmp ?_
        with_reducible refine Ev.bin ?_
        with_reducible refine Ev.loc (mem1 (mem1 (mem1 (mem1 (mem1 (mem1 (mem1 (mem1 (mem1 (mem1 (mem1 (mem1 (mem1 (mem1 (mem1 (mem1 mem0)))))))))))))))) ?_
        with_reducible refine Ev.loc (mem1 (mem1 (mem1 (mem1 (mem1 (mem1 (mem1 (mem1 (mem1 (mem1 (mem1 (mem1 (mem1 (mem1 (mem1 (mem1 (mem1 (mem1 (mem1 mem0))))))))))))))))))) ?_
        with_reducible refine d_add ?_
        with_reducible refine Ev.loc (mem1 (mem1 (mem1 (mem1 (mem1 (mem1 (mem1 (mem1 (mem1 (mem1 (mem1 (mem1 (mem1 mem0))))))))))))) ?_
        with_reducible refine c_le ?_
        exact ⟨decide_eq_false (by omega), rfl⟩
      with_reducible refine Exs.cons ?_
      refine Ex.ite (Tt.tst (v := false) ?_ (ite_f ?_))
      · refine Tt.cmp ?_
        with_reducible refine Ev.loc (mem1 (mem1 (mem1 (mem1 (mem1 (mem1 (mem1 (mem1 (mem1 (mem1 (mem1 (mem1 (mem1 (mem1 (mem1 (mem1 (mem1 (mem1 (mem1 (mem1 (mem1 (mem1 (mem1 mem0))))))))))))))))))))))) ?_
        refine Ev.val (v := fnd) ?_ ?_
        · refine Ev.ifexp (Tt.tst (v := decide (w1 = 1)) ?_ (ite_d (fun e => ?_) (fun e => ?_)))
          · refine Tt.cmp ?_
            with_reducible refine Ev.loc (mem1 (mem1 (mem1 (mem1 (mem1 (mem1 (mem1 (mem1 (mem1 (mem1 (mem1 (mem1 (mem1 (mem1 (mem1 (mem1 (mem1 (mem1 (mem1 (mem1 mem0)))))))))))))))))))) ?_
            with_reducible refine Ev.int ?_
            with_reducible refine c_eq ?_
            exact Tst.mk
          · with_reducible refine Ev.str ?_
            exact ⟨by rw [hfv, if_pos e], rfl⟩
          · with_reducible refine Ev.str ?_
            exact ⟨by rw [hfv, if_neg e], rfl⟩
        obtain ⟨x, e⟩ := hfs
        rw [e]
        exact c_neStr ⟨by simp, rfl⟩
      with_reducible refine Exs.nil ?_
      with_reducible refine Then.next ?_
      with_reducible refine Exs.cons ?_
      refine Ex.ite (Tt.cmp ?_)
      with_reducible refine Ev.loc (mem1 (mem1 (mem1 (mem1 (mem1 (mem1 (mem1 (mem1 (mem1 (mem1 (mem1 mem0))))))))))) ?_
      with_reducible refine Ev.lst ?_
      with_reducible refine Evs.nil ?_
      refine ⟨sz rfl, ?_⟩
      refine ⟨_, Is.neNil .lst .lst, ?_⟩
      cases L with
      | nil =>
        refine ite_d (fun hne => absurd rfl hne) (fun _ => ?_)
        with_reducible refine Exs.nil ?_
        with_reducible refine Then.next ?_
        with_reducible refine Exs.nil ?_
        with_reducible refine Then.next ?_
        with_reducible refine Exs.cons ?_
        with_reducible refine Ex.ite ?_
        refine Tt.tst (v := false) ?_ (ite_f ?_)
        · refine Tt.cmp ?_
          refine Ev.meth ?_
          with_reducible refine Ev.loc (mem1 (mem1 (mem1 (mem1 (mem1 (mem1 (mem1 (mem1 (mem1 (mem1 (mem1 (mem1 (mem1 (mem1 (mem1 mem0))))))))))))))) ?_
          refine' ⟨_, _, Mt.inst mem0 (mem1 mem0) (notKey rfl) ?w4_616, Kp.ref ?w5_616, ?wq_616⟩
          case w4_616 => (rw [Ok.K (by assumption)]; refine' methOK_mk ?ka_616 ?kb_616 ?kc_616 ?kd_616; (case kb_616 => k_is); (case ka_616 => k_is); (case kc_616 => k_is); (case kd_616 => k_is))
          case w5_616 => (rw [Ok.K (by assumption)]; k_is)
          with_reducible refine Evs.nil ?_
          with_reducible refine EvK.nil ?_
          refine ⟨[], rfl, rfl, ?_⟩
          refine (tell B' (by omega) ?_).cl
          with_reducible refine Ev.loc (mem1 (mem1 (mem1 (mem1 (mem1 (mem1 (mem1 (mem1 (mem1 (mem1 (mem1 (mem1 (mem1 (mem1 (mem1 (mem1 mem0)))))))))))))))) ?_
          with_reducible refine c_ne ?_
          exact ⟨decide_eq_false (by omega), rfl⟩
        with_reducible refine Exs.nil ?_
        with_reducible refine Then.next ?_
        with_reducible refine Exs.nil ?_
        have h2 : ((placeOf ns seen + u.length + (flat ps).length : Nat) : Int) = ((placeOf ns seen + u'.length + (flat []).length : Nat) : Int) := by rw [flat_nil, List.length_nil]; omega
        refine ⟨_, RH.rot.symm, some (curDue ns seen), some (.bytes (curOct ns seen)), some (.int i), some (.int (curOct ns seen).size), some (.int w1), some (.lst (ps.map V.bytes)), some (.int as.length), some fnd, seen, u', [], as ++ as', [], ?_, hnil rfl, pre, hpre, rfl⟩
        rw [h2]
      | cons q2 L' =>
        refine ite_d (fun _ => ?_) (fun hne => absurd (by simp) hne)
        have hq2 := hL2 q2 (.head _)
        have hL1' : L'.length + 1 ≤ (flat (q2 :: L')).length := hL1
        with_reducible refine Exs.cons ?_
        refine Ex.assign ?_
        with_reducible refine Ev.bin ?_
        with_reducible refine Ev.loc (mem1 (mem1 (mem1 (mem1 (mem1 (mem1 (mem1 (mem1 (mem1 (mem1 (mem1 (mem1 (mem1 mem0))))))))))))) ?_
        refine Ev.call ?_
        refine Ev.g (by assumption) Gl.g_len (by rw [Callee.scope (by assumption)]; rfl) ?_
        with_reducible refine ⟨Kp.bi, ?_⟩
        refine Evs.cons ?_
        refine Ev.sub ?_
        with_reducible refine Ev.loc (mem1 (mem1 (mem1 (mem1 (mem1 (mem1 (mem1 (mem1 (mem1 (mem1 (mem1 mem0))))))))))) ?_
        with_reducible refine Ev.int ?_
        refine ⟨_, _, HasItem.lst, It1.lst (x := .bytes q2) (by decide) (by decide) rfl ?_⟩
        with_reducible refine Evs.nil ?_
        with_reducible refine EvK.nil ?_
        refine ⟨[], rfl, rfl, ?_⟩
        refine Cl.lenBytes (by omega) ?_
        with_reducible refine d_add ?_
        refine put_and (Put.tail (Put.tail (Put.tail (Put.tail (Put.tail (Put.tail (Put.tail (Put.tail (Put.tail (Put.tail (Put.tail (Put.tail (Put.tail Put.head))))))))))))) ?_
        with_reducible refine Then.next ?_
        with_reducible refine Exs.cons ?_
        refine Ex.exprS ?_
        refine Ev.meth ?_
        with_reducible refine Ev.loc (mem1 (mem1 (mem1 (mem1 (mem1 (mem1 (mem1 (mem1 (mem1 (mem1 (mem1 (mem1 mem0)))))))))))) ?_
        refine' ⟨_, _, Mt.inst (mem1 (mem1 (mem1 mem0))) (mem1 (mem1 (mem1 (mem1 mem0)))) (notKey rfl) ?w4_646, Kp.ref ?w5_646, ?wq_646⟩
        case w4_646 => (rw [Ok.K (by assumption)]; refine' methOK_mk ?ka_646 ?kb_646 ?kc_646 ?kd_646; (case kb_646 => k_is); (case ka_646 => k_is); (case kc_646 => k_is); (case kd_646 => k_is))
        case w5_646 => (rw [Ok.K (by assumption)]; k_is)
        refine Evs.cons ?_
        refine Ev.sub ?_
        with_reducible refine Ev.loc (mem1 (mem1 (mem1 (mem1 (mem1 (mem1 (mem1 (mem1 (mem1 (mem1 (mem1 mem0))))))))))) ?_
        with_reducible refine Ev.int ?_
        refine ⟨_, _, HasItem.lst, It1.lst (x := .bytes q2) (by decide) (by decide) rfl ?_⟩
        with_reducible refine Evs.nil ?_
        with_reducible refine EvK.nil ?_
        refine ⟨[], rfl, rfl, ?_⟩
        refine (parts_write B' (by omega) (Nat.zero_le _) ?_).cl
        with_reducible refine Then.next ?_
        with_reducible refine Exs.cons ?_
        refine Ex.assign ?_
        refine Ev.slice ?_
        with_reducible refine Ev.loc (mem1 (mem1 (mem1 (mem1 (mem1 (mem1 (mem1 (mem1 (mem1 (mem1 (mem1 mem0))))))))))) ?_
        refine EvO.some ?_
        with_reducible refine Ev.int ?_
        refine EvO.none ⟨_, _, _, _, rfl, rfl, fun sa => ⟨HasItem.lst, Sl.lst (by rw [sizeLine_eq, List.length_map, List.length_cons]; omega) ?_⟩⟩
        rw [show cutL (List.map V.bytes (q2 :: L')) (some 1) none = L'.map V.bytes from cutL_drop (List.map V.bytes (q2 :: L')) 1]
        refine put_and (Put.tail (Put.tail (Put.tail (Put.tail (Put.tail (Put.tail (Put.tail (Put.tail (Put.tail (Put.tail (Put.tail Put.head))))))))))) ?_
        with_reducible refine Then.next ?_
        with_reducible refine Exs.nil ?_
        with_reducible refine Then.next ?_
        with_reducible refine Exs.nil ?_
        with_reducible refine Then.next ?_
        with_reducible refine Exs.cons ?_
        with_reducible refine Ex.ite ?_
        refine Tt.tst (v := false) ?_ (ite_f ?_)
        · refine Tt.cmp ?_
          refine Ev.meth ?_
          with_reducible refine Ev.loc (mem1 (mem1 (mem1 (mem1 (mem1 (mem1 (mem1 (mem1 (mem1 (mem1 (mem1 (mem1 (mem1 (mem1 (mem1 mem0))))))))))))))) ?_
          refine' ⟨_, _, Mt.inst mem0 (mem1 mem0) (notKey rfl) ?w4_670, Kp.ref ?w5_670, ?wq_670⟩
          case w4_670 => (rw [Ok.K (by assumption)]; refine' methOK_mk ?ka_670 ?kb_670 ?kc_670 ?kd_670; (case kb_670 => k_is); (case ka_670 => k_is); (case kc_670 => k_is); (case kd_670 => k_is))
          case w5_670 => (rw [Ok.K (by assumption)]; k_is)
          with_reducible refine Evs.nil ?_
          with_reducible refine EvK.nil ?_
          refine ⟨[], rfl, rfl, ?_⟩
          refine (tell B' (by omega) ?_).cl
          with_reducible refine Ev.loc (mem1 (mem1 (mem1 (mem1 (mem1 (mem1 (mem1 (mem1 (mem1 (mem1 (mem1 (mem1 (mem1 (mem1 (mem1 (mem1 mem0)))))))))))))))) ?_
          with_reducible refine c_ne ?_
          exact ⟨decide_eq_false (by omega), rfl⟩
        with_reducible refine Exs.nil ?_
        with_reducible refine Then.next ?_
        with_reducible refine Exs.nil ?_
        have h2 : (((placeOf ns seen + u.length + (flat ps).length : Nat) : Int) + (q2.size : Int)) = ((placeOf ns seen + u'.length + (flat [q2]).length : Nat) : Int) := by
          rw [flat_cons, flat_nil, List.append_nil, Array.length_toList (xs := q2)]; omega
        refine ⟨_, RH.rot.symm, some (curDue ns seen), some (.bytes (curOct ns seen)), some (.int i), some (.int (curOct ns seen).size), some (.int w1), some (.lst (ps.map V.bytes)), some (.int as.length), some fnd, seen, u', [q2], as ++ as', L', ?_, hcons q2 L' rfl, pre, hpre, rfl⟩
        rw [h2]
  rintro ρ' H1 ⟨dv, ov, tv, sv, wv, lv, av, fv, seen, u, ps, as, L, e1, hst, hId⟩
  subst e1
  rw [List.length_map, List.length_range, Int.sub_zero, Int.toNat_natCast] at hst
  obtain ⟨hse, hue, hfp, hpe⟩ := turn_end hst rfl
  subst hue hpe
  obtain ⟨pre, hpre, rfl⟩ := hId
  have hbnd := hst.bound
  have hasked := hst.asked
  have hplr := place_rest ns seen
  rw [rest_out (by omega)] at hplr
  with_reducible refine Then.next ?_
  with_reducible refine Exs.cons ?_
  refine Ex.for C.own hh' ?_
  refine Ev.val (v := .lst ((ns.take 2).map V.int)) ?_ ?_
  · refine Ev.slice ?_
    with_reducible refine Ev.loc (mem1 mem0) ?_
    refine EvO.none (EvO.some ?_)
    with_reducible refine Ev.int ?_
    refine ⟨_, _, _, _, rfl, rfl, fun sa => ⟨HasItem.lst, Sl.lst (by rw [sizeLine_eq, List.length_map]; omega) ?_⟩⟩
    rw [show cutL (List.map V.int ns) none (some 2) = (ns.take 2).map V.int from (cutL_take _ 2).trans List.map_take.symm]
    exact Val.mk
  refine ⟨_, _, fun i ρ' H' => ∃ (nv rv mv : Option V), ρ' = ([("script", some (.lst (ns0.map V.int))), ("numbers", some (.lst (ns.map V.int))), ("number", nv), ("messages", some (.lst (ns.map fun n => .tup [msgDue n, .bytes (msgOct n)]))), ("due", dv), ("octets", ov), ("wire", some (.bytes wire)), ("longest", some (.int longest)), ("parts", some (.lst (PP.map V.bytes))), ("come", some (.int cm)), ("part", pv), ("later", some (.lst (L.map V.bytes))), ("file", some (.ref A.f)), ("written", some (.int ((placeOf ns seen + ([] : List UInt8).length + (flat []).length : Nat) : Int))), ("least", some (.int (Rn : Nat))), ("used", some (.ref a)), ("place", some (.int ((placeOf ns seen : Nat) : Int))), ("seen", some (.int ((seen : Nat) : Int))), ("turn", tv), ("size", sv), ("way", wv), ("lying", lv), ("asks", av), ("found", fv), ("room", rv), ("more", mv)] : Loc) ∧ H' = RH ⟨a, d, ba, A.f, A.fd, A.pl, A.al⟩ (Rn : Nat) (104857600 : Nat) (pre ++ []).toArray ((pre.length : Nat) : Int) ((pre.length : Nat) : Int) ((placeOf ns seen : Nat) : Int) [] as ((pl, .list (P.map V.bytes)) :: H), It.lst, ⟨nv, none, none, rfl, rfl⟩, fun _ _ _ _ => trivial, ?_, ?_⟩
  · rintro i v ρ' H1 q' hi ⟨nv, rv, mv, e1, e2⟩
    subst e1 e2
    rw [List.getElem?_map] at hi
    obtain ⟨n, hn, rfl⟩ := Option.map_eq_some_iff.mp hi
    have a0 := Int.fmod_nonneg_of_pos n (show (0 : Int) < 11 by decide)
    have a1 := Int.fmod_lt_of_pos n (show (0 : Int) < 11 by decide)
    have b0 := Int.fmod_nonneg_of_pos (n.fdiv 11) (show (0 : Int) < 3 by decide)
    have b1 := Int.fmod_lt_of_pos (n.fdiv 11) (show (0 : Int) < 3 by decide)
    have c0 := Int.fmod_nonneg_of_pos (n.fdiv 33) (show (0 : Int) < 3 by decide)
    have c1 := Int.fmod_lt_of_pos (n.fdiv 33) (show (0 : Int) < 3 by decide)
    obtain ⟨x, hx⟩ : ∃ x : Nat, n.fmod 11 = x := ⟨(n.fmod 11).toNat, by omega⟩
    obtain ⟨y, hy⟩ : ∃ y : Nat, (n.fdiv 11).fmod 3 = y := ⟨((n.fdiv 11).fmod 3).toNat, by omega⟩
    obtain ⟨w, hw⟩ : ∃ w : Nat, (n.fdiv 33).fmod 3 = w := ⟨((n.fdiv 33).fmod 3).toNat, by omega⟩
    refine put_and (by with_reducible exact (Put.tail (Put.tail Put.head))) ?_
    with_reducible refine Exs.cons ?_
    refine Ex.assign ?_
    refine Ev.val (v := .int ((4 + x : Nat) : Int)) ?_ ?_
    · with_reducible refine Ev.bin ?_
      with_reducible refine Ev.int ?_
      with_reducible refine Ev.bin ?_
      with_reducible refine Ev.loc (mem1 (mem1 mem0)) ?_
      with_reducible refine Ev.int ?_
      with_reducible refine d_mod (by decide) ?_
      with_reducible refine d_add ?_
      exact ⟨by rw [hx]; congr 1, rfl⟩
    refine put_and (Put.tail (Put.tail (Put.tail (Put.tail (Put.tail (Put.tail (Put.tail (Put.tail (Put.tail (Put.tail (Put.tail (Put.tail (Put.tail (Put.tail (Put.tail (Put.tail (Put.tail (Put.tail (Put.tail (Put.tail (Put.tail (Put.tail (Put.tail (Put.tail Put.head)))))))))))))))))))))))) ?_
    with_reducible refine Then.next ?_
    with_reducible refine Exs.cons ?_
    refine Ex.assign ?_
    refine Ev.val (v := .int ((y : Nat) : Int)) ?_ ?_
    · with_reducible refine Ev.bin ?_
      with_reducible refine Ev.bin ?_
      with_reducible refine Ev.loc (mem1 (mem1 mem0)) ?_
      with_reducible refine Ev.int ?_
      with_reducible refine d_fdiv (by decide) (by decide) ?_
      with_reducible refine Ev.int ?_
      with_reducible refine d_mod (by decide) ?_
      exact ⟨by rw [hy], rfl⟩
    refine put_and (Put.tail (Put.tail (Put.tail (Put.tail (Put.tail (Put.tail (Put.tail (Put.tail (Put.tail (Put.tail (Put.tail (Put.tail (Put.tail (Put.tail (Put.tail (Put.tail (Put.tail (Put.tail (Put.tail (Put.tail (Put.tail (Put.tail (Put.tail (Put.tail (Put.tail Put.head))))))))))))))))))))))))) ?_
    with_reducible refine Then.next ?_
    with_reducible refine Exs.cons ?_
    refine Ex.ite (Tt.orV (p := false) (q := false) ?_ (fun _ => ?_) (ite_f ?_))
    · refine Tt.cmp ?_
      refine Ev.call ?_
      refine Ev.g (by assumption) Gl.g_law_made (by rw [Callee.scope (by assumption)]; rfl) ?_
      refine ⟨Kp.ref (by rw [Ok.K (by assumption)]; k_is), ?_⟩
      refine Evs.cons ?_
      refine Ev.val (v := .int ((4 + x + y - 1 : Nat) : Int)) ?_ ?_
      · with_reducible refine Ev.bin ?_
        with_reducible refine Ev.bin ?_
        with_reducible refine Ev.loc (mem1 (mem1 (mem1 (mem1 (mem1 (mem1 (mem1 (mem1 (mem1 (mem1 (mem1 (mem1 (mem1 (mem1 (mem1 (mem1 (mem1 (mem1 (mem1 (mem1 (mem1 (mem1 (mem1 (mem1 mem0)))))))))))))))))))))))) ?_
        with_reducible refine Ev.loc (mem1 (mem1 (mem1 (mem1 (mem1 (mem1 (mem1 (mem1 (mem1 (mem1 (mem1 (mem1 (mem1 (mem1 (mem1 (mem1 (mem1 (mem1 (mem1 (mem1 (mem1 (mem1 (mem1 (mem1 (mem1 mem0))))))))))))))))))))))))) ?_
        with_reducible refine d_add ?_
        with_reducible refine Ev.int ?_
        with_reducible refine d_sub ?_
        exact ⟨by congr 1; omega, rfl⟩
      refine Evs.cons ?_
      with_reducible refine Ev.loc (mem1 (mem1 (mem1 (mem1 (mem1 (mem1 (mem1 (mem1 (mem1 (mem1 (mem1 (mem1 (mem1 (mem1 (mem1 (mem1 (mem1 (mem1 (mem1 (mem1 (mem1 (mem1 (mem1 (mem1 mem0)))))))))))))))))))))))) ?_
      with_reducible refine Evs.nil ?_
      with_reducible refine EvK.nil ?_
      refine ⟨[], rfl, rfl, ?_⟩
      refine (law_made B' (by omega) hh' (by omega) ?_).cl
      refine Ev.cmp ?_
      with_reducible refine Ev.loc (mem1 (mem1 (mem1 (mem1 (mem1 (mem1 (mem1 (mem1 (mem1 (mem1 (mem1 (mem1 (mem1 (mem1 (mem1 (mem1 (mem1 (mem1 (mem1 (mem1 (mem1 (mem1 (mem1 (mem1 (mem1 mem0))))))))))))))))))))))))) ?_
      with_reducible refine Ev.int ?_
      refine Do2.is Is.lt ?_
      refine c_neBool ⟨?_, rfl⟩
      rw [show decide (4 + x + y - 1 ≤ 4 + x) = decide ((y : Int) < 2) from decide_eq_decide.mpr (by omega)]
      exact bne_self_eq_false _
    · refine Tt.cmp ?_
      refine Ev.call ?_
      refine Ev.g (by assumption) Gl.g_law_tight (by rw [Callee.scope (by assumption)]; rfl) ?_
      refine ⟨Kp.ref (by rw [Ok.K (by assumption)]; k_is), ?_⟩
      refine Evs.cons ?_
      refine Ev.val (v := .int ((4 + x - w : Nat) : Int)) ?_ ?_
      · with_reducible refine Ev.bin ?_
        with_reducible refine Ev.loc (mem1 (mem1 (mem1 (mem1 (mem1 (mem1 (mem1 (mem1 (mem1 (mem1 (mem1 (mem1 (mem1 (mem1 (mem1 (mem1 (mem1 (mem1 (mem1 (mem1 (mem1 (mem1 (mem1 (mem1 mem0)))))))))))))))))))))))) ?_
        with_reducible refine Ev.bin ?_
        with_reducible refine Ev.bin ?_
        with_reducible refine Ev.loc (mem1 (mem1 mem0)) ?_
        with_reducible refine Ev.int ?_
        with_reducible refine d_fdiv (by decide) (by decide) ?_
        with_reducible refine Ev.int ?_
        with_reducible refine d_mod (by decide) ?_
        with_reducible refine d_sub ?_
        exact ⟨by rw [hw]; congr 1; omega, rfl⟩
      refine Evs.cons ?_
      with_reducible refine Ev.loc (mem1 (mem1 (mem1 (mem1 (mem1 (mem1 (mem1 (mem1 (mem1 (mem1 (mem1 (mem1 (mem1 (mem1 (mem1 (mem1 (mem1 (mem1 (mem1 (mem1 (mem1 (mem1 (mem1 (mem1 mem0)))))))))))))))))))))))) ?_
      with_reducible refine Evs.nil ?_
      with_reducible refine EvK.nil ?_
      refine ⟨[], rfl, rfl, ?_⟩
      refine (law_tight B' (by omega) hh' (by omega) (by omega) (by omega) (by omega) ?_).cl
      refine Ev.val (v := .int (if 4 + x - w + 1 ≤ 4 + x then 2 else 0)) ?_ ?_
      · refine Ev.ifexp (Tt.tst (v := decide (0 < w)) ?_ (ite_d (fun e => ?_) (fun e => ?_)))
        · refine Tt.cmp ?_
          with_reducible refine Ev.bin ?_
          with_reducible refine Ev.bin ?_
          with_reducible refine Ev.loc (mem1 (mem1 mem0)) ?_
          with_reducible refine Ev.int ?_
          with_reducible refine d_fdiv (by decide) (by decide) ?_
          with_reducible refine Ev.int ?_
          with_reducible refine d_mod (by decide) ?_
          with_reducible refine Ev.int ?_
          with_reducible refine c_gt ?_
          exact ⟨decide_eq_decide.mpr (by rw [hw]; omega), rfl⟩
        · with_reducible refine Ev.int ?_
          exact ⟨by rw [if_pos (by omega)], rfl⟩
        · with_reducible refine Ev.int ?_
          exact ⟨by rw [if_neg (by omega)], rfl⟩
      exact c_ne ⟨decide_eq_false (fun h => h rfl), rfl⟩
    with_reducible refine Exs.nil ?_
    with_reducible refine Then.next ?_
    with_reducible refine Exs.nil ?_
    exact ⟨_, .refl _, some (.int n), some (.int ((4 + x : Nat) : Int)), some (.int ((y : Nat) : Int)), rfl, rfl⟩
  rintro ρ' H1 ⟨nv, rv, mv, e1, e2⟩
  subst e1 e2
  with_reducible refine Then.next ?_
  with_reducible refine Exs.cons ?_
  refine Ex.for C.own hh' ?_
  refine Ev.attr ?_
  with_reducible refine Ev.loc (mem1 (mem1 (mem1 (mem1 (mem1 (mem1 (mem1 (mem1 (mem1 (mem1 (mem1 (mem1 mem0)))))))))))) ?_
  refine' Do1.is (Is.attr (mem1 (mem1 (mem1 mem0))) (mem1 (mem1 (mem1 (mem1 mem0)))) (mem1 mem0) ?w4_761 rfl) ?wq_761
  case w4_761 => (rw [Ok.K (by assumption)]; refine' attrOK_mk ?ka_761 ?kb_761 ?kc_761 ?kd_761; (case kc_761 => k_is); (case ka_761 => k_is); (case kb_761 => k_is); (case kd_761 => k_is))
  refine ⟨_, _, fun i ρ' H' => ∃ (sv : Option V), ρ' = ([("script", some (.lst (ns0.map V.int))), ("numbers", some (.lst (ns.map V.int))), ("number", nv), ("messages", some (.lst (ns.map fun n => .tup [msgDue n, .bytes (msgOct n)]))), ("due", dv), ("octets", ov), ("wire", some (.bytes wire)), ("longest", some (.int longest)), ("parts", some (.lst (PP.map V.bytes))), ("come", some (.int cm)), ("part", pv), ("later", some (.lst (L.map V.bytes))), ("file", some (.ref A.f)), ("written", some (.int ((placeOf ns seen + ([] : List UInt8).length + (flat []).length : Nat) : Int))), ("least", some (.int (Rn : Nat))), ("used", some (.ref a)), ("place", some (.int ((placeOf ns seen : Nat) : Int))), ("seen", some (.int ((seen : Nat) : Int))), ("turn", tv), ("size", sv), ("way", wv), ("lying", lv), ("asks", av), ("found", fv), ("room", rv), ("more", mv)] : Loc) ∧ H' = RH ⟨a, d, ba, A.f, A.fd, A.pl, A.al⟩ (Rn : Nat) (104857600 : Nat) (pre ++ []).toArray ((pre.length : Nat) : Int) ((pre.length : Nat) : Int) ((placeOf ns seen : Nat) : Int) [] as ((pl, .list (P.map V.bytes)) :: H), It.list (by (with_reducible refine mem1 ?_; with_reducible refine mem1 ?_; with_reducible refine mem1 ?_; with_reducible refine mem1 ?_; with_reducible refine mem1 ?_; with_reducible refine mem1 ?_; with_reducible exact mem0)), ⟨sv, rfl, rfl⟩, ?_, ?_, ?_⟩
  · rintro i ρ' H' ⟨sv, e1, e2⟩
    subst e2
    with_reducible refine mem1 ?_
    with_reducible refine mem1 ?_
    with_reducible refine mem1 ?_
    with_reducible refine mem1 ?_
    with_reducible refine mem1 ?_
    with_reducible refine mem1 ?_
    with_reducible exact mem0
  · rintro i v ρ' H1 q' hi ⟨sv, e1, e2⟩
    subst e1 e2
    rw [List.getElem?_map] at hi
    obtain ⟨n, hn, rfl⟩ := Option.map_eq_some_iff.mp hi
    have hna := hasked n (List.mem_of_getElem? hn)
    refine put_and (by with_reducible exact (Put.tail (Put.tail (Put.tail (Put.tail (Put.tail (Put.tail (Put.tail (Put.tail (Put.tail (Put.tail (Put.tail (Put.tail (Put.tail (Put.tail (Put.tail (Put.tail (Put.tail (Put.tail (Put.tail Put.head)))))))))))))))))))) ?_
    with_reducible refine Exs.cons ?_
    refine Ex.ite (Tt.orV (p := false) (q := false) ?_ (fun _ => ?_) (ite_f ?_))
    · refine Tt.cmp ?_
      with_reducible refine Ev.loc (mem1 (mem1 (mem1 (mem1 (mem1 (mem1 (mem1 (mem1 (mem1 (mem1 (mem1 (mem1 (mem1 (mem1 (mem1 (mem1 (mem1 (mem1 (mem1 mem0))))))))))))))))))) ?_
      with_reducible refine Ev.loc (mem1 (mem1 (mem1 (mem1 (mem1 (mem1 (mem1 (mem1 (mem1 (mem1 (mem1 (mem1 (mem1 (mem1 mem0)))))))))))))) ?_
      with_reducible refine c_lt ?_
      exact ⟨decide_eq_false (by omega), rfl⟩
    · refine Tt.cmp ?_
      with_reducible refine Ev.loc (mem1 (mem1 (mem1 (mem1 (mem1 (mem1 (mem1 (mem1 (mem1 (mem1 (mem1 (mem1 (mem1 (mem1 (mem1 (mem1 (mem1 (mem1 (mem1 mem0))))))))))))))))))) ?_
      refine Ev.call ?_
      refine Ev.g (by assumption) Gl.g_max (by rw [Callee.scope (by assumption)]; rfl) ?_
      with_reducible refine ⟨Kp.bi, ?_⟩
      refine Evs.cons ?_
      with_reducible refine Ev.loc (mem1 (mem1 (mem1 (mem1 (mem1 (mem1 (mem1 (mem1 (mem1 (mem1 (mem1 (mem1 (mem1 (mem1 mem0)))))))))))))) ?_
      refine Evs.cons ?_
      with_reducible refine Ev.loc (mem1 (mem1 (mem1 (mem1 (mem1 (mem1 (mem1 mem0))))))) ?_
      with_reducible refine Evs.nil ?_
      with_reducible refine EvK.nil ?_
      refine ⟨[], rfl, rfl, ?_⟩
      refine Cl.max2 hh' ?_
      with_reducible refine c_gt ?_
      exact ⟨decide_eq_false (by omega), rfl⟩
    with_reducible refine Exs.nil ?_
    with_reducible refine Then.next ?_
    with_reducible refine Exs.nil ?_
    exact ⟨_, .refl _, some (.int n), rfl, rfl⟩
  rintro ρ' H1 ⟨sv, e1, e2⟩
  subst e1 e2
  with_reducible refine Then.next ?_
  with_reducible refine Exs.cons ?_
  refine Ex.ret ?_
  refine Ev.and3 ?_
  refine Ev.cmp ?_
  let T2 : Task := { A := ⟨a, d, ba, A.f, A.fd, A.pl, A.al⟩, R := Rn, M := 104857600, S := 1 + ns.length, u0 := [], ps0 := [], as0 := as, off := placeOf ns seen, W := [] }
  have ok2 : T2.OK := {
    R1 := hRn1.1, R2 := Nat.le_trans hRn1.2 (by decide), M1 := (by show 1 ≤ 104857600; decide), M2 := Nat.le_refl _, S1 := (by show 1 + ns.length ≤ 1000; omega)
    W := List.prefix_refl _
    parts := nofun
    size := (by show placeOf ns seen + 0 + 0 ≤ 10000; omega)
    asks := (by show as.length ≤ 10000; omega) }
  refine Ev.meth ?_
  with_reducible refine Ev.loc (mem1 (mem1 (mem1 (mem1 (mem1 (mem1 (mem1 (mem1 (mem1 (mem1 (mem1 (mem1 (mem1 (mem1 (mem1 mem0))))))))))))))) ?_
  refine' ⟨_, _, Mt.inst mem0 (mem1 mem0) (notKey rfl) ?w4_789, Kp.ref ?w5_789, ?wq_789⟩
  case w4_789 => (rw [Ok.K (by assumption)]; refine' methOK_mk ?ka_789 ?kb_789 ?kc_789 ?kd_789; (case kb_789 => k_is); (case ka_789 => k_is); (case kc_789 => k_is); (case kd_789 => k_is))
  case w5_789 => (rw [Ok.K (by assumption)]; k_is)
  refine Evs.cons ?_
  refine Ev.val (v := .int ((1 + ns.length : Nat) : Int)) ?_ ?_
  · with_reducible refine Ev.bin ?_
    with_reducible refine Ev.int ?_
    refine Ev.call ?_
    refine Ev.g (by assumption) Gl.g_len (by rw [Callee.scope (by assumption)]; rfl) ?_
    with_reducible refine ⟨Kp.bi, ?_⟩
    refine Evs.cons ?_
    with_reducible refine Ev.loc (mem1 mem0) ?_
    with_reducible refine Evs.nil ?_
    with_reducible refine EvK.nil ?_
    refine ⟨[], rfl, rfl, ?_⟩
    refine Cl.lenLst (by rw [List.length_map]; omega) ?_
    rw [List.length_map]
    with_reducible refine d_add ?_
    exact ⟨by congr 1, rfl⟩
  with_reducible refine Evs.nil ?_
  with_reducible refine EvK.nil ?_
  refine ⟨[], rfl, rfl, ?_⟩
  refine (read_bytes B' (by omega) hh' ok2 (T := T2) (G := (pl, .list (P.map V.bytes)) :: H) ⟨pre, hpre, rfl⟩ ?_ ?_ ?_).cl
  · intro H' hF
    have := hF.full
    have h1 : 1 + ns.length ≤ 0 + 0 := this
    omega
  · rintro u' as' H' F ⟨pre, hpre, eH⟩
    have hu : u' ++ flat [] = [] := F.flat
    rw [flat_nil, List.append_nil] at hu
    subst hu
    have eH : H' = RH ⟨a, d, ba, A.f, A.fd, A.pl, A.al⟩ (Rn : Nat) (104857600 : Nat) (pre ++ []).toArray ((pre.length : Nat) : Int) ((pre.length : Nat) : Int) ((placeOf ns seen : Nat) : Int) [] (as ++ as') ((pl, .list (P.map V.bytes)) :: H) := eH
    subst eH
    with_reducible refine Ev.bytes ?_
    refine Do2.is Is.eqBytes ?_
    refine t_bool ⟨fun h => absurd h (by decide), fun _ => ?_⟩
    refine Ev.and ?_
    refine Ev.cmp ?_
    refine Ev.call ?_
    refine Ev.g (by assumption) Gl.g_law_fed (by rw [Callee.scope (by assumption)]; rfl) ?_
    refine ⟨Kp.ref (by rw [Ok.K (by assumption)]; k_is), ?_⟩
    refine Evs.cons ?_
    with_reducible refine Ev.loc (mem1 (mem1 (mem1 (mem1 (mem1 (mem1 (mem1 (mem1 (mem1 (mem1 (mem1 (mem1 (mem1 (mem1 (mem1 mem0))))))))))))))) ?_
    with_reducible refine Evs.nil ?_
    with_reducible refine EvK.nil ?_
    refine ⟨[], rfl, rfl, ?_⟩
    refine (law_fed B' (by omega) hh' ?_).cl
    with_reducible refine Ev.str ?_
    refine Do2.is Is.eqStr ?_
    refine t_bool ⟨fun h => absurd h (by decide), fun _ => ?_⟩
    refine Ev.cmp ?_
    refine Ev.meth ?_
    with_reducible refine Ev.loc (mem1 (mem1 (mem1 (mem1 (mem1 (mem1 (mem1 (mem1 (mem1 (mem1 (mem1 (mem1 (mem1 (mem1 (mem1 mem0))))))))))))))) ?_
    refine' ⟨_, _, Mt.inst mem0 (mem1 mem0) (notKey rfl) ?w4_818, Kp.ref ?w5_818, ?wq_818⟩
    case w4_818 => (rw [Ok.K (by assumption)]; refine' methOK_mk ?ka_818 ?kb_818 ?kc_818 ?kd_818; (case kb_818 => k_is); (case ka_818 => k_is); (case kc_818 => k_is); (case kd_818 => k_is))
    case w5_818 => (rw [Ok.K (by assumption)]; k_is)
    with_reducible refine Evs.nil ?_
    with_reducible refine EvK.nil ?_
    refine ⟨[], rfl, rfl, ?_⟩
    refine (tell B' (by omega) ?_).cl
    refine Ev.call ?_
    refine Ev.g (by assumption) Gl.g_len (by rw [Callee.scope (by assumption)]; rfl) ?_
    with_reducible refine ⟨Kp.bi, ?_⟩
    refine Evs.cons ?_
    with_reducible refine Ev.loc (mem1 (mem1 (mem1 (mem1 (mem1 (mem1 mem0)))))) ?_
    with_reducible refine Evs.nil ?_
    with_reducible refine EvK.nil ?_
    refine ⟨[], rfl, rfl, ?_⟩
    refine Cl.lenBytes (by omega) ?_
    refine Do2.is Is.eq ?_
    rw [decide_eq_true (show ((placeOf ns seen : Nat) : Int) = (wire.size : Int) by rw [hwl, hwt] at hplr; simp only [List.length_nil] at hplr; omega)]
    exact RH.fit1 q
  · intro hlt
    have : 104857600 < 1 + ns.length := hlt
    omega
end
end
section
theorem lookup_all {P : Str → V → Prop} : ∀ {l : List (String × V)}, (∀ e ∈ l, P (Str.ofString e.1) e.2) → ∀ x v, (l.map fun p => (Str.ofString p.1, p.2)).lookup x = some v → P x v
  | [], _, x, v, h => by cases h
  | e :: l, hl, x, v, h => by
    rw [List.map_cons, List.lookup_cons] at h
    split at h
    · rename_i hx
      cases h
      have : x = Str.ofString e.1 := by simpa using hx
      rw [this]; exact hl e (.head _)
    · exact lookup_all (fun e he => hl e (.tail _ he)) x v h
inductive NameAt (P : Params) (x : Str) (v : V) : Prop
  | glob {val : Value} : nsIn (hd.heap_39 P) mainGlobals x = some (some val) → readV (hd.heap_39 P) 3 val = some v → NameAt P x v
  | boot {val : Value} : nsIn (hd.heap_39 P) mainGlobals x = some none → bootBuiltins x = some val → readB val = some v → x ≠ "__name__" → NameAt P x v
theorem NameAt.g {P : Params} {x : Str} {v : V} (h : ((nsIn (hd.heap_39 P) mainGlobals x).bind id).bind (readV (hd.heap_39 P) 3) = some v) : NameAt P x v := by
  obtain ⟨val, h1, h2⟩ := Option.bind_eq_some_iff.mp h
  obtain ⟨o, h3, h4⟩ := Option.bind_eq_some_iff.mp h1
  cases h4
  exact .glob h3 h2
theorem NameAt.b {P : Params} {x : Str} {v : V} (h0 : nsIn (hd.heap_39 P) mainGlobals x = some none) (h : (bootBuiltins x).bind readB = some v) (hn : (x == ("__name__" : Str)) = false) : NameAt P x v := by
  obtain ⟨val, h1, h2⟩ := Option.bind_eq_some_iff.mp h
  exact .boot h0 h1 h2 (by simpa using hn)
theorem names_all (P : Params) : ∀ e ∈ glL, NameAt P (Str.ofString e.1) e.2 := by
  intro e he
  simp only [glL, List.mem_cons, List.not_mem_nil, or_false] at he
  rcases he with rfl | rfl | rfl | rfl | rfl | rfl | rfl | rfl | rfl | rfl | rfl | rfl | rfl | rfl | rfl | rfl | rfl | rfl | rfl | rfl | rfl | rfl | rfl | rfl | rfl | rfl | rfl | rfl | rfl | rfl | rfl | rfl | rfl | rfl | rfl | rfl | rfl | rfl | rfl | rfl | rfl | rfl | rfl | rfl | rfl | rfl | rfl | rfl
  iterate 28 (· exact NameAt.g (by kernel_rfl))
  all_goals exact NameAt.b (by kernel_rfl) (by kernel_rfl) (by kernel_rfl)
theorem ints_vrs {z : FZ} : ∀ {vs : List Value} {ns : List Int}, IntsAre vs ns → VRs z (ns.map V.int) vs
  | _, _, .nil => .nil
  | _, _, .cons _ _ h => .cons (.int _ _) (ints_vrs h)
theorem names_gl {P : Params} {M : Model} {h : Heap} {mg mb : Str → Option Value} (KX : (hd.heap_39 P).In h) (hg : h.Ns mainGlobals mg) (hb : h.Ns builtinsNs mb) (hbb : ∀ x : Str, x ≠ "__name__" → mb x = bootBuiltins x) :
    ∀ x v, glT x = some v → ∀ env : Env, env.globals = mainGlobals → env.builtins = builtinsNs → env.scope.kind = .function → env.kindOf x = some .globalImplicit → ∃ val, Looks M h (loadName env x) val ∧ VR h.get? v val := by
  intro x v hx
  have hn : NameAt P x v := lookup_all (fun e he => names_all P e he) x v hx
  intro env e1 e2 e3 e4
  cases hn with
  | glob h1 h2 =>
    refine ⟨_, fun A Q E s k q => ?_, readV_vr KX 3 h2⟩
    rw [loadName_read e3 e4]
    exact Calls.loadGlobal_global (e1 ▸ hg.keeps k) (mg_of KX hg h1) q
  | boot h1 h2 h3 h4 =>
    refine ⟨_, fun A Q E s k q => ?_, readB_vr h3⟩
    rw [loadName_read e3 e4]
    exact Calls.loadGlobal_builtin (e1 ▸ hg.keeps k) (mg_none_of KX hg h1) (e2 ▸ hb.keeps k) ((hbb x h4).trans h2) q
theorem holds' : PySem.Challenge.rw_dk5006_01.Holds := hd (by
  k_fill
  intro w s₀ s₁ mg mb G y fa o pm cd doc dV kV ho hd' hcd hD hmg hg args vals as hpre hlay hrd hwl hlo
  have KX := kIn_of y
  clear hd' hcd hD ho
  refine Ground.open G ?_
  intro T B D TE TW
  wrow_args hpre hlay hrd hwl hlo
  rename_i ns _ _ _ _ _ _ _ l vs _ hL _ _ _ hI _ hlen _
  have hfa : fa = 552 := by
    have h1 : mg (Str.ofString "law") = some (.ref 552) := by
      refine mg_of KX T.g ?_
      k_is
    have h2 : mg (Str.ofString "law") = some (.ref fa) := hmg
    rw [h1] at h2
    injection h2 with h2
    injection h2 with h2
    exact h2.symm
  subst hfa
  have TR := topRead_of T
  have hc1 : 301 + 3 * 40 + 6 < recursionLimit := by decide
  have hc2 : 4 + 24 * 40 + 50 < cLine := by decide
  have hvs : VRs s₁.heap.get? [.lst (ns.map V.int)] [.ref l] := by
    obtain ⟨o, ho, hc, n, hd⟩ := hL
    exact .cons (.lst ho hc hd (ints_vrs hI)) .nil
  let c0 : Cx := { p := PySem.Challenge.rw_dk5006_01.row.prog, w := w, K := hd.heap_39 w.params, h₀ := s₁.heap, os := s₁.os, A := callerA, env := envOf "" ⟨.function, [], false, false, []⟩ 0 0 .none, frl := [], kp := [], gl := glT, rm := 40 }
  have ent := @entry_fn c0 s₁ 552 [.lst (ns.map V.int)] [.ref l] [] (fun v _ => v = .bool true) KX rfl TR.nolimit rfl hc1 hc2 (names_gl KX TR.g TR.b TR.builtins) hg rfl hvs
  have main := @law_walk c0 [] [] (fun v _ => v = .bool true) (fun _ _ _ => False) ⟨rfl, rfl⟩ (show 20 ≤ 40 by decide) rfl ns (by omega) rfl _ @ent
  refine wpR_mono main (fun val s' ⟨v, z', H', r, e, keep, hgens, hos⟩ => ?_) (fun _ _ f => f.elim)
  subst e
  cases r
  refine GoodW.toG ⟨.inl ⟨_, _, [], rfl, raisesW_false ?_, .bool true, ?_, unshared_nil⟩, keep, hos, hgens⟩
  · wrow_none_raised
  · wrow_post)
end
end Mine

theorem PySem.Challenge.cw_dk5006_01_holds : PySem.Challenge.rw_dk5006_01.Holds := by
  exact Mine.holds'
