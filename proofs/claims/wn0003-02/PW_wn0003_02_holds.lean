import PyProof.Rows.All
import Wide.All
import OpenK.AllK
import Wide.FinOn
import PySem.Challenge.RW_wn0003_02
section
open PySem PySem.W PyProof.Rows PySem.Calls
set_option Elab.async false
set_option linter.unusedVariables false
namespace Mine

/-- no decoder's activation -/
noncomputable def holders : List String := Builtin.Bytes.decodersThatHold ++ ["bytearray.__contains__", "bytearray.__mod__", "bytearray.__rmod__", "_struct.pack_into.held", "bytearray.find.held"]
noncomputable def nodec : Code → Bool
  | .builtin id _ => !holders.contains id
  | _ => true
noncomputable def TIn (A : Around) (Γ : Ctx) : Prop := Γ.In A ∧ nodec Γ.code = true ∧ ∀ x ∈ Γ.below, nodec x.1 = true
noncomputable def TBelow (A : Around) (Γ : Ctx) : Prop := Γ.Below A ∧ ∀ x ∈ Γ.below, nodec x.1 = true
theorem TBelow.in {Γ : Ctx} {A : Around} (h : TBelow A Γ) (hc : nodec Γ.code = true) : TIn (A.under Γ.code) Γ := ⟨h.1.in, hc, h.2⟩
theorem TBelow.goto {Γ : Ctx} {A : Around} (h : TBelow A Γ) (c : Code) : TBelow A (Γ.goto c) := ⟨h.1.goto c, h.2⟩
theorem TIn.enter {Γ : Ctx} {A : Around} (h : TIn A Γ) (c : Code) (hd : Option Value) (p : Pos) (hnb : hd ≠ some byPass) : TBelow (A.mark hd) (Γ.enter c hd p) :=
  ⟨h.1.enter c hd p hnb, fun x hx => by
    rcases List.mem_cons.mp hx with rfl | hx
    · exact h.2.1
    · exact h.2.2 x hx⟩

/-- as wpAny, over contexts without decoders -/
structure wpT {α : Type} (M : Model) (A : Around) (t : Sem α) (Q : α → Shared → Prop) (E : Value → Shared → Prop) (s : Shared) : Prop where
  run : ∀ Γ p, TIn A Γ → Sem.wp M Γ t (fun a _ s' => Q a s') (fun e _ s' => E e s') p s
noncomputable def codeT (M : Model) (A : Around) (c : Code) (R : Result → Shared → Prop) (s : Shared) : Prop :=
  ∀ Γ p, Γ.code = c → TBelow A Γ → wpCode M Γ R p s

section
variable {α β : Type} {M : Model} {A : Around} {E : Value → Shared → Prop} {s : Shared} {env : Env}

theorem wpT_of {t : Sem α} {Q : α → Shared → Prop} (h : wpAny M A t Q E s) : wpT M A t Q E s := ⟨fun Γ p k => h Γ p k.1⟩
theorem codeT_of {c : Code} {R : Result → Shared → Prop} (h : codeAny M A c R s) : codeT M A c R s := fun Γ p e k => h Γ p e k.1
theorem wpT_pure {a : α} {Q : α → Shared → Prop} (h : Q a s) : wpT M A (pure a) Q E s := ⟨fun _ _ _ => h⟩
theorem wpT_mono {t : Sem α} {Q Q' : α → Shared → Prop} {E' : Value → Shared → Prop} (h : wpT M A t Q E s) (hQ : ∀ a s, Q a s → Q' a s) (hE : ∀ e s, E e s → E' e s) : wpT M A t Q' E' s :=
  ⟨fun Γ p k => Sem.wp_mono M Γ t (fun a _ s => hQ a s) (fun e _ s => hE e s) p s (h.run Γ p k)⟩
theorem wpT_bind {m : Sem α} {f : α → Sem β} {Q : β → Shared → Prop} (h : wpT M A m (fun a s' => wpT M A (f a) Q E s') E s) : wpT M A (m >>= f) Q E s := by
  refine ⟨fun Γ p k => ?_⟩
  rw [Sem.wp_bind']
  exact Sem.wp_mono M Γ m (fun a p' s' h' => wpT.run h' Γ p' k) (fun _ _ _ h' => h') p s (wpT.run h Γ p k)
theorem wpT_holding {vs : List Value} {m : Sem α} {Q : α → Shared → Prop} (h : wpT M A m Q E s) : wpT M A (holding vs m) Q E s := by
  refine ⟨fun Γ p k => ?_⟩; rw [Sem.wp_holding]; exact h.run Γ p k
theorem wpT_keep {vs : List Value} {m : Sem α} {Q : α → Shared → Prop} (h : wpT M A m Q E s) : wpT M A (m.keep vs) Q E s := by
  refine ⟨fun Γ p k => ?_⟩; rw [Sem.wp_keep]; exact h.run Γ p k
theorem wpT_standAt {p : Pos} {Q : Unit → Shared → Prop} (h : Q () s) : wpT M A (standAt p) Q E s := ⟨fun _ _ _ => h⟩
theorem wpT_point {Q : Unit → Shared → Prop} (h : Q () s) : wpT M A point Q E s := ⟨fun _ _ _ => h⟩
theorem wpT_tryCatch {m : Sem α} {f : Value → Sem α} {Q : α → Shared → Prop} (h : wpT M A m Q (fun e s' => wpT M A (f e) Q E s') s) : wpT M A (tryCatch m f) Q E s := by
  refine ⟨fun Γ p k => ?_⟩
  rw [Sem.wp_tryCatch']
  exact Sem.wp_mono M Γ m (fun _ _ _ h' => h') (fun e p' s' h' => wpT.run h' Γ p' k) p s (wpT.run h Γ p k)
theorem wpT_onRaise {m : Sem α} {f : Value → Sem Unit} {Q : α → Shared → Prop} (h : wpT M A m Q (fun e s' => wpT M A (f e) (fun _ s'' => E e s'') E s') s) : wpT M A (m.onRaise f) Q E s := by
  refine ⟨fun Γ p k => ?_⟩
  rw [Sem.wp_onRaise]
  exact Sem.wp_mono M Γ m (fun _ _ _ h' => h') (fun e p' s' h' => wpT.run h' Γ p' k) p s (wpT.run h Γ p k)
theorem wpT_attempt {m : Sem α} {Q : Except Value α → Shared → Prop} (h : wpT M A m (fun a => Q (.ok a)) (fun e => Q (.error e)) s) : wpT M A m.attempt Q E s := by
  refine ⟨fun Γ p k => ?_⟩
  rw [Sem.wp_attempt]; exact h.run Γ p k
theorem wpT_operate {vs : List Value} {m : Sem Value} {Q : Value → Shared → Prop} (h : wpT M A m Q E s) : wpT M A (operate vs m) Q E s := by
  refine ⟨fun Γ p k => ?_⟩
  rw [Sem.wp_operate]; exact h.run Γ p k
theorem wpT_ite {c : Prop} [Decidable c] {a b : Sem α} {Q : α → Shared → Prop} (h1 : c → wpT M A a Q E s) (h2 : ¬ c → wpT M A b Q E s) : wpT M A (if c then a else b) Q E s := by
  by_cases h : c
  · rw [if_pos h]; exact h1 h
  · rw [if_neg h]; exact h2 h

theorem codeT_mono {c : Code} {R R' : Result → Shared → Prop} (h : codeT M A c R s) (hR : ∀ r s, R r s → R' r s) : codeT M A c R' s := fun Γ p e k => wpCode_mono hR (h Γ p e k)
theorem wpT_run {c : Code} {h : Option Value} {Q : Flow → Shared → Prop} (hc : codeT M (A.mark h) c (fun r s' => match r with | .ok f => Q f s' | .error e => E e s') s) (hnb : h ≠ some byPass := by intro x; cases x) :
    wpT M A (run c h) Q E s := by
  refine ⟨fun Γ p k => ?_⟩; rw [Sem.wp_run]; exact hc _ p rfl (k.enter c h p hnb)
theorem wpT_runValue {c : Code} {Q : Value → Shared → Prop} (hc : codeT M A c (fun r s' => match r with | .ok (.ret v) => Q v s' | .ok _ => False | .error e => E e s') s) : wpT M A (runValue c) Q E s :=
  ⟨fun Γ p k => by rw [Sem.wp_runValue]; exact hc _ p rfl (k.enter c none p (by intro x; cases x))⟩
theorem wpT_call {f : Value} {pos : List Value} {kw : List (Str × Value)} {Q : Value → Shared → Prop}
    (hc : codeT M A (.call f ⟨pos, kw⟩) (fun r s' => match r with | .ok (.ret v) => Q v s' | .ok _ => False | .error e => E e s') s) : wpT M A (call f pos kw) Q E s := wpT_runValue hc
theorem codeT_of_tree {c : Code} {R : Result → Shared → Prop} (hn : nodec c = true)
    (h : wpT M (A.under c) (M.den c) (fun fin s' => match fin with | .done f => R (.ok f) s' | .again c' => c'.quiet = true ∧ codeT M A c' R s') (fun e s' => R (.error e) s') s) : codeT M A c R s := fun Γ p hc k => by
  rw [wpCode_iff_wp, hc]
  refine Sem.wp_mono M Γ _ (fun fin p' s' h' => ?_) (fun _ _ _ h' => h') p s (h.run Γ p (hc ▸ k.in (hc.symm ▸ hn)))
  cases fin with
  | done f => exact h'
  | again c' => exact ⟨h'.1, h'.2 (Γ.goto c') p' rfl (k.goto c')⟩
theorem codeT_loop {c : Code} {R : Result → Shared → Prop} (hn : nodec c = true) (hq : c.quiet = true) (I : Nat → Shared → Prop)
    (turn : ∀ n s, I n s → wpT M (A.under c) (M.den c)
      (fun fin s' => match fin with
        | .done f => R (.ok f) s'
        | .again c' => (c' = c ∧ ∃ m, m < n ∧ I m s') ∨ (c'.quiet = true ∧ codeT M A c' R s')) (fun e s' => R (.error e) s') s)
    (n : Nat) (h : I n s) : codeT M A c R s := by
  induction n using Nat.strongRecOn generalizing s with
  | ind n ih =>
    refine codeT_of_tree hn (wpT_mono (turn n s h) (fun fin s' hf => ?_) fun _ _ h' => h')
    cases fin with
    | done f => exact hf
    | again c' =>
      rcases hf with ⟨rfl, m, hm, hI⟩ | hf
      · exact ⟨hq, ih m hm hI⟩
      · exact hf

/- expressions -/
theorem T_BinOp {l : Expr} {op : Operator} {r : Expr} {pos : Pos} {Q : Value → Shared → Prop}
    (h : wpT M A (eval l env) (fun a s₁ => wpT M A (eval r env) (fun b s₂ => wpT M A (binaryOp op a b) Q E s₂) E s₁) E s) : wpT M A (eval (.BinOp l op r pos) env) Q E s := by
  rw [arm_eval_BinOp]
  exact wpT_bind (wpT_mono h (fun a s₁ h₁ => wpT_bind (wpT_holding (wpT_mono h₁ (fun b s₂ h₂ => wpT_bind (wpT_standAt (wpT_operate h₂))) fun _ _ e => e))) fun _ _ e => e)
theorem T_UnaryOp {op : UnaryOp} {x : Expr} {pos : Pos} {Q : Value → Shared → Prop} (h : wpT M A (eval x env) (fun v s₁ => wpT M A (unaryOp op v) Q E s₁) E s) : wpT M A (eval (.UnaryOp op x pos) env) Q E s := by
  rw [arm_eval_UnaryOp]
  exact wpT_bind (wpT_mono h (fun a s₁ h₁ => wpT_bind (wpT_standAt (wpT_holding h₁))) fun _ _ e => e)
theorem T_Compare1 {l : Expr} {op : CmpOp} {r : Expr} {pos : Pos} {Q : Value → Shared → Prop}
    (h : wpT M A (eval l env) (fun a s₁ => wpT M A (eval r env) (fun b s₂ => wpT M A (compareOp op a b) Q E s₂) E s₁) E s) (hm : behindInMarks op r = false) : wpT M A (eval (.Compare l [op] [r] pos) env) Q E s := by
  rw [arm_eval_Compare]
  refine wpT_bind (wpT_mono h (fun a s₁ h₁ => ?_) fun _ _ e => e)
  have e : markedEach [op] [r] (evalEach [r] env) = [eval r env] := by
    show [markedBehindIn op r (eval r env)] = _
    unfold markedBehindIn; rw [hm]
  rw [e]
  show wpT M A (holding [a] (eval r env) >>= fun rv => standAt pos >>= fun _ => operate [a, rv] (compareOp op a rv)) Q E s₁
  exact wpT_bind (wpT_holding (wpT_mono h₁ (fun b s₂ h₂ => wpT_bind (wpT_standAt (wpT_operate h₂))) fun _ _ e => e))
theorem T_isTrue_Compare1 {l : Expr} {op : CmpOp} {r : Expr} {pos : Pos} {whole : Sem Value} {Q : Bool → Shared → Prop}
    (h : wpT M A (eval l env) (fun a s₁ => wpT M A (eval r env) (fun b s₂ => wpT M A (compareOp op a b) (fun c s₃ => wpT M A (truthy c) Q E s₃) E s₂) E s₁) E s) (hm : behindInMarks op r = false) :
    wpT M A (PySem.isTrue (.Compare l [op] [r] pos) env whole) Q E s := by
  rw [arm_isTrue_Compare]
  refine wpT_bind (wpT_mono h (fun a s₁ h₁ => ?_) fun _ _ e => e)
  have e : markedEach [op] [r] (evalEach [r] env) = [eval r env] := by
    show [markedBehindIn op r (eval r env)] = _
    unfold markedBehindIn; rw [hm]
  rw [e]
  show wpT M A (holding [a] (eval r env) >>= fun rv => standAt pos >>= fun _ => operate [a, rv] (compareOp op a rv) >>= fun c => holding [c] (truthy c)) Q E s₁
  exact wpT_bind (wpT_holding (wpT_mono h₁ (fun b s₂ h₂ => wpT_bind (wpT_standAt (wpT_bind (wpT_operate (wpT_mono h₂ (fun c s₃ h₃ => wpT_holding h₃) fun _ _ e => e))))) fun _ _ e => e))
theorem T_isTrue_value {e : Expr} {whole : Sem Value} {Q : Bool → Shared → Prop} (h : wpT M A whole (fun v s₁ => wpT M A (truthy v) Q E s₁) E s)
    (hv : PySem.isTrue e env whole = (do let v ← whole; standAt e.pos; holding [v] (truthy v))) : wpT M A (PySem.isTrue e env whole) Q E s := by
  rw [hv]
  exact wpT_bind (wpT_mono h (fun a s₁ h₁ => wpT_bind (wpT_standAt (wpT_holding h₁))) fun _ _ e => e)
theorem T_isTrue_BoolOp {op : BoolOp} {values : List Expr} {pos : Pos} {whole : Sem Value} {Q : Bool → Shared → Prop} (h : wpT M A (allTrue op values env) Q E s) : wpT M A (PySem.isTrue (.BoolOp op values pos) env whole) Q E s := by
  rw [arm_isTrue_BoolOp]; exact h
theorem T_allTrue_Or_cons {x : Expr} {rest : List Expr} {Q : Bool → Shared → Prop} (h : wpT M A (PySem.isTrue x env (eval x env)) (fun b s₁ => if b = true then Q true s₁ else wpT M A (allTrue .Or rest env) Q E s₁) E s) :
    wpT M A (allTrue .Or (x :: rest) env) Q E s := by
  rw [arm_allTrue_cons]
  refine wpT_bind (wpT_mono h (fun b s₁ h₁ => ?_) fun _ _ e => e)
  cases b with
  | true => exact wpT_pure h₁
  | false => exact h₁
theorem T_IfExp {test body orelse : Expr} {pos : Pos} {Q : Value → Shared → Prop}
    (h : wpT M A (PySem.isTrue test env (eval test env)) (fun b s₁ => if b = true then wpT M A (eval body env) Q E s₁ else wpT M A (eval orelse env) Q E s₁) E s) : wpT M A (eval (.IfExp test body orelse pos) env) Q E s := by
  rw [arm_eval_IfExp]
  refine wpT_bind (wpT_mono h (fun b s₁ h₁ => ?_) fun _ _ e => e)
  cases b with
  | true => exact h₁
  | false => exact h₁
theorem T_spliced_cons {x : Sem Value} {rest : List (Bool × Sem Value)} {Q : List Value → Shared → Prop} (h : wpT M A x (fun v s₁ => wpT M A (spliced rest) (fun vs s₂ => Q (v :: vs) s₂) E s₁) E s) :
    wpT M A (spliced ((false, x) :: rest)) Q E s := by
  show wpT M A (do
    let v ← x
    let here ← (pure [v] : Sem (List Value))
    return here ++ (← holding here (spliced rest))) Q E s
  exact wpT_bind (wpT_mono h (fun v s₁ h₁ => wpT_bind (wpT_pure (wpT_bind (wpT_holding (wpT_mono h₁ (fun vs s₂ h₂ => wpT_pure h₂) fun _ _ e => e))))) fun _ _ e => e)
theorem T_List {elts : List Expr} {pos : Pos} {Q : Value → Shared → Prop} (h : wpT M A (spliced (backTo pos (starEach elts env))) (fun vs s₁ => wpT M A (newList vs) Q E s₁) E s) : wpT M A (eval (.List elts pos) env) Q E s := by
  rw [arm_eval_List]
  exact wpT_bind (wpT_standAt (wpT_bind h))
theorem T_Tuple {elts : List Expr} {k : Nat} {pos : Pos} {Q : Value → Shared → Prop} (h : wpT M A (spliced (backTo pos (starEach elts env))) (fun vs s₁ => wpT M A (newTuple vs) Q E s₁) E s) : wpT M A (eval (.Tuple elts k pos) env) Q E s := by
  rw [arm_eval_Tuple]
  exact wpT_bind (wpT_standAt (wpT_bind h))
theorem T_evalArgs {f : Value} {x : Sem Value} {rest : List (Bool × Sem Value)} {Q : Args → Shared → Prop} (h : wpT M A (spliced ((false, x) :: rest)) (fun vs s' => Q { pos := vs } s') E s) :
    wpT M A (evalArgs f true ((false, x) :: rest) []) Q E s := by
  unfold evalArgs
  show wpT M A (spliced ((false, x) :: rest) >>= _) Q E s
  refine wpT_bind (wpT_mono h (fun vs s' h' => ?_) fun _ _ x => x)
  exact wpT_holding (wpT_bind (wpT_pure (wpT_bind (wpT_pure (wpT_pure h')))))
theorem T_callWith {pos : Pos} {f : Value} {first : List Value} {args : List (Bool × Sem Value)} {Q : Value → Shared → Prop}
    (h : wpT M A (evalArgs f true args []) (fun a s₁ => (∃ k, wpT M A (keeperOf f) (fun k' s' => k' = k ∧ s' = s₁) (fun _ _ => False) s₁) ∧ wpT M A (call f (first ++ a.pos) a.kw) Q E s₁) E s) :
    wpT M A (callWith pos f first args []) Q E s := by
  unfold callWith
  refine wpT_bind (wpT_holding (wpT_mono h (fun a s₁ h₁ => wpT_bind (wpT_standAt ?_)) fun _ _ x => x))
  obtain ⟨⟨k, hk⟩, h₁⟩ := h₁
  have tail : ∀ {t : Sem Value}, wpT M A t Q E s₁ → wpT M A (t >>= fun r => holding [r] point >>= fun _ => pure r) Q E s₁ :=
    fun ht => wpT_bind (wpT_mono ht (fun r s₂ hr => wpT_bind (wpT_holding (wpT_point (wpT_pure hr)))) fun _ _ x => x)
  refine wpT_bind (m := keeperOf f) (wpT_mono hk (fun k' s' e => ?_) fun _ _ e => e.elim)
  obtain ⟨rfl, rfl⟩ := e
  cases hs : (args.any (·.1) || ([] : List (Option Str × Sem Value)).any (·.1.isNone)) <;> cases k' <;> simp only [] <;>
    first
      | exact tail h₁
      | exact tail (by unfold callMarked; exact wpT_keep h₁)
      | exact tail (wpT_operate h₁)
      | (split <;> first | exact tail h₁ | exact tail (by unfold callMarked; exact wpT_keep h₁))
theorem T_Call_Name {x : Str} {p pos : Pos} {args : List Expr} {Q : Value → Shared → Prop}
    (h : wpT M A (eval (.Name x p) env) (fun f s₁ => wpT M A (callWith pos f [] (backTo pos (starEach args env)) []) Q E s₁) E s) : wpT M A (eval (.Call (.Name x p) args [] pos) env) Q E s := by
  show wpT M A (eval (.Name x p) env >>= fun f => callWith pos f [] (backTo pos (starEach args env)) []) Q E s
  exact wpT_bind h
theorem T_Subscript {value slice : Expr} {pos : Pos} {Q : Value → Shared → Prop}
    (h : wpT M A (eval value env) (fun o s₁ => wpT M A (eval slice env) (fun i s₂ => wpT M A (subscriptTail value slice o i) Q E s₂) E s₁) E s) : wpT M A (eval (.Subscript value slice pos) env) Q E s := by
  rw [arm_eval_Subscript]
  exact wpT_bind (wpT_mono h (fun o s₁ h₁ => wpT_bind (wpT_holding (wpT_mono h₁ (fun i s₂ h₂ => wpT_bind (wpT_standAt h₂)) fun _ _ x => x))) fun _ _ x => x)
noncomputable def evP (e : Option Expr) (env : Env) : Sem Value := valueOrNone (evalOpt e env)
theorem T_Slice {lower upper step : Option Expr} {p : Pos} {Q : Value → Shared → Prop}
    (h : wpT M A (evP lower env) (fun l s₁ => wpT M A (evP upper env) (fun u s₂ => wpT M A (evP step env) (fun st s₃ =>
      Q (.ref s₃.heap.objs.size) { s₃ with heap := s₃.heap.push { cls := .type "slice", data := .fields #[l, u, st] } }) E s₂) E s₁) E s) : wpT M A (eval (.Slice lower upper step p) env) Q E s := by
  rw [arm_eval_Slice]
  exact wpT_bind (wpT_mono h (fun l s₁ h₁ => wpT_bind (wpT_holding (wpT_mono h₁ (fun u s₂ h₂ => wpT_bind (wpT_holding (wpT_mono h₂ (fun st s₃ h₃ => wpT_of (wpAny_newObj_type h₃)) fun _ _ e => e))) fun _ _ e => e))) fun _ _ e => e)

/- statements -/
theorem T_execs_cons {st : Stmt} {rest : List Stmt} {Q : Flow → Shared → Prop} (h : wpT M A (exec st env) (fun f s' => match f with | .next => wpT M A (execs rest env) Q E s' | f => Q f s') E s) : wpT M A (execs (st :: rest) env) Q E s := by
  rw [arm_execs_cons]
  refine wpT_bind (wpT_mono h (fun f s₁ h₁ => ?_) fun _ _ e => e)
  cases f <;> first | exact h₁ | exact wpT_pure h₁
theorem T_If {test : Expr} {body orelse : List Stmt} {pos : Pos} {Q : Flow → Shared → Prop}
    (h : wpT M A (PySem.isTrue test env (eval test env)) (fun b s₂ => if b = true then wpT M A (execs body env) Q E s₂ else wpT M A (execs orelse env) Q E s₂) E s) : wpT M A (exec (.If test body orelse pos) env) Q E s := by
  rw [arm_exec_If]
  refine wpT_bind (wpT_standAt (wpT_bind (wpT_mono h (fun b s₁ h₁ => ?_) fun _ _ e => e)))
  cases b with
  | true => exact h₁
  | false => exact h₁
theorem T_Return {e : Expr} {pos : Pos} {Q : Flow → Shared → Prop} (h : wpT M A (eval e env) (fun v => Q (.ret v)) E s) : wpT M A (exec (.Return (some e) pos) env) Q E s := by
  rw [arm_exec_Return]
  exact wpT_bind (wpT_standAt (wpT_bind (wpT_mono h (fun v s₁ h₁ => wpT_pure h₁) fun _ _ e => e)))
theorem T_bindName {x : Str} {v : Value} {Q : Unit → Shared → Prop} (h : wpT M A (storeName env x v) Q E s) : wpT M A (bindName env x v) Q E s := by
  unfold bindName
  exact wpT_bind (wpT_holding (wpT_point (wpT_bind (wpT_mono h (fun _ s₁ h₁ => wpT_point h₁) fun _ _ e => e))))
theorem T_assign_Name {x : Str} {pos : Pos} {v : Value} {Q : Unit → Shared → Prop} (h : wpT M A (storeName env x v) Q E s) : wpT M A (assign (.Name x pos) env v) Q E s := by
  rw [arm_assign_Name]; exact wpT_bind (wpT_standAt (T_bindName h))
theorem T_Assign {target : Expr} {value : Expr} {pos : Pos} {Q : Flow → Shared → Prop} (h : wpT M A (eval value env) (fun v s₁ => wpT M A (assign target env v) (fun _ => Q .next) E s₁) E s)
    (hw : swapsWithSole [target] value pos.line env = pure false) (hs : swappedStores [target] value env = pure none) (hn : assignEach [target] env = [(false, assign target env)]) : wpT M A (exec (.Assign [target] value pos) env) Q E s := by
  rw [arm_exec_Assign]
  refine wpT_bind (wpT_standAt ?_)
  rw [hw]
  refine wpT_bind (wpT_pure ?_)
  show wpT M A (eval value env >>= fun v => swappedStores [target] value env >>= fun sw => assignStores env v sw ((assignEach [target] env).map (·.2))) Q E s
  refine wpT_bind (wpT_mono h (fun v s₁ h₁ => ?_) fun _ _ e => e)
  rw [hs, hn]
  refine wpT_bind (wpT_pure ?_)
  exact wpT_bind (wpT_mono h₁ (fun _ s₂ h₂ => wpT_pure h₂) fun _ _ e => e)
theorem T_AugAssign {x : Str} {pos' : Pos} {op : Operator} {value : Expr} {pos : Pos} {Q : Flow → Shared → Prop}
    (h : wpT M A (loadName env x) (fun old s₁ => wpT M A (eval value env) (fun v s₂ => wpT M A (inplaceOp op old v) (fun r s₃ => wpT M A (storeName env x r) (fun _ => Q .next) E s₃) E s₂) E s₁) E s) :
    wpT M A (exec (.AugAssign (.Name x pos') op value pos) env) Q E s := by
  rw [arm_exec_AugAssign]
  exact wpT_bind (wpT_standAt (wpT_bind (wpT_mono h (fun old s₁ h₁ => wpT_bind (wpT_holding (wpT_mono h₁ (fun v s₂ h₂ => wpT_bind (wpT_standAt (wpT_bind (wpT_operate (wpT_mono h₂ (fun r s₃ h₃ =>
    wpT_bind (wpT_standAt (wpT_bind (T_bindName (wpT_mono h₃ (fun _ s₄ h₄ => wpT_pure h₄) fun _ _ e => e))))) fun _ _ e => e))))) fun _ _ e => e))) fun _ _ e => e)))
end
end Mine
end
section
open PySem PySem.W PyProof.Rows PySem.Calls
set_option Elab.async false
set_option linter.unusedVariables false
namespace Mine
section
variable {prog : Program} {w : World} {A : Around} {E : Value → Shared → Prop} {s : Shared} {env : Env} {R : Result → Shared → Prop}

noncomputable def notedT (M : Model) (A : Around) (env : Env) (E : Value → Shared → Prop) : Value → Shared → Prop := fun x s' => wpT M A (noteFrame x env) (fun _ s'' => E x s'') E s'
theorem T_noted {α : Type} {m : Sem α} {Q : α → Shared → Prop} {M : Model} (h : wpT M A m Q (notedT M A env E) s) : wpT M A (m.onRaise fun x => do noteFrame x env; theTreesLotGoes x) Q E s :=
  wpT_onRaise (wpT_mono h (fun _ _ q => q) fun _ _ hx => wpT_bind (wpT_mono hx (fun _ _ e => wpT_of (wpAny_theTreesLotGoes e)) fun _ _ e => e))
theorem T_notedAt {α : Type} {m : Sem α} {Q : α → Shared → Prop} {M : Model} (h : wpT M A m Q (notedT M A env E) s) : wpT M A (m.onRaise fun x => do noteFrame x env; standAt theWindowsPlace) Q E s :=
  wpT_onRaise (wpT_mono h (fun _ _ q => q) fun _ _ hx => wpT_bind (wpT_mono hx (fun _ _ e => wpT_standAt e) fun _ _ e => e))

theorem under_plain0 {c : Code} (h : c.weight = 0) (hu : c.cUnits = 0 := by rfl) : A.under c = A := Around.under_of_weight h hu

theorem codeT_block {stmts : List Stmt} (h : wpT (model prog w) A (execs stmts env) (fun f s' => R (.ok f) s') (notedT (model prog w) A env fun e s' => R (.error e) s') s) :
    codeT (model prog w) A (.block stmts env) R s := by
  refine codeT_of_tree rfl ?_
  show wpT _ A (do return Fin.done (← (execs stmts env).onRaise (fun x => do noteFrame x env; theTreesLotGoes x))) _ _ s
  exact wpT_bind (T_noted (wpT_mono h (fun f s' h' => wpT_pure h') fun _ _ h' => h'))

theorem codeT_for {target it body orelse} (I : Nat → Shared → Prop)
    (turn : ∀ n s, I n s → wpT (model prog w) A (pyNext it) (fun r s₁ => match r with
      | none => wpT (model prog w) A (execs orelse env) (fun f s₃ => R (.ok f) s₃) (notedT (model prog w) A env fun e s' => R (.error e) s') s₁
      | some v => wpT (model prog w) A (assign target env v) (fun _ s₂ => wpT (model prog w) A (execs body env) (fun f s₃ => match f with
          | .next | .cont => ∃ m, m < n ∧ I m s₃
          | .brk => R (.ok .next) s₃
          | .ret v => R (.ok (.ret v)) s₃) (notedT (model prog w) A env fun e s' => R (.error e) s') s₂) (notedT (model prog w) A env fun e s' => R (.error e) s') s₁) (notedT (model prog w) A env fun e s' => R (.error e) s') s)
    (n : Nat) (h : I n s) (ht : ∀ v, letOwnedTupleGo target it v = pure () := by intro _; rfl) : codeT (model prog w) A (.forLoop target it body orelse env) R s := by
  refine codeT_loop rfl rfl I (fun n s hI => ?_) n h
  show wpT _ A ((forTurn target it body orelse env).onRaise (fun x => do noteFrame x env; theTreesLotGoes x)) _ _ s
  refine T_noted ?_
  unfold forTurn
  refine wpT_bind (wpT_standAt (wpT_bind (wpT_onRaise (wpT_mono (turn n s hI) (fun r s₁ h₁ => ?_) fun _ _ h' => wpT_standAt h'))))
  cases r with
  | none => exact wpT_pure (.inr ⟨rfl, codeT_block h₁⟩)
  | some v =>
    dsimp only
    rw [ht v]
    refine wpT_bind (wpT_pure (wpT_bind (wpT_mono h₁ (fun _ s₂ h₂ => wpT_bind (wpT_mono h₂ (fun f s₃ h₃ => ?_) fun _ _ h' => h')) fun _ _ h' => h')))
    cases f with
    | next => exact wpT_pure (.inl ⟨rfl, h₃⟩)
    | cont => exact wpT_pure (.inl ⟨rfl, h₃⟩)
    | brk => exact wpT_pure h₃
    | ret v => exact wpT_pure h₃

theorem codeT_while {test : Expr} {body orelse : List Stmt} (I : Nat → Shared → Prop)
    (turn : ∀ n s, I n s → wpT (model prog w) A (isTrue test env (eval test env)) (fun b s₂ =>
        if b = true then wpT (model prog w) A (execs body env) (fun f s₃ => match f with
            | .next | .cont => ∃ m, m < n ∧ I m s₃
            | .brk => R (.ok .next) s₃
            | .ret v => R (.ok (.ret v)) s₃) (notedT (model prog w) A env fun e s' => R (.error e) s') s₂
        else wpT (model prog w) A (execs orelse env) (fun f s₃ => R (.ok f) s₃) (notedT (model prog w) A env fun e s' => R (.error e) s') s₂)
        (notedT (model prog w) A env fun e s' => R (.error e) s') s)
    (n : Nat) (h : I n s) : codeT (model prog w) A (.whileLoop test body orelse env) R s := by
  refine codeT_loop rfl rfl I (fun n s hI => ?_) n h
  show wpT _ A ((whileTurn test body orelse env).onRaise (fun x => do noteFrame x env; theTreesLotGoes x)) _ _ s
  refine T_noted ?_
  unfold whileTurn
  refine wpT_bind (wpT_mono (turn n s hI) (fun b s₁ h₁ => ?_) fun _ _ h' => h')
  cases b with
  | true =>
    refine wpT_bind (wpT_mono h₁ (fun f s₃ h₃ => ?_) fun _ _ h' => h')
    cases f with
    | next => exact wpT_pure (.inl ⟨rfl, h₃⟩)
    | cont => exact wpT_pure (.inl ⟨rfl, h₃⟩)
    | brk => exact wpT_pure h₃
    | ret v => exact wpT_pure h₃
  | false => exact wpT_bind (wpT_mono h₁ (fun f s₃ h₃ => wpT_pure h₃) fun _ _ h' => h')

/-- what a statement's own activation hands back of an exception -/
noncomputable def cameT (M : Model) (A : Around) (env : Env) (E : Value → Shared → Prop) : Value → Shared → Prop :=
  fun x s' => wpT M A (do
    if (← field x 1) == .none then unsupported "frame.own-activation:exception-without-traceback"
    setFlight x env.frame) (fun _ s'' => E x s'') E s'
theorem T_runOwn {M : Model} {c : Code} {h : Option Value} {Q : Flow → Shared → Prop}
    (hc : codeT M (A.mark h) c (fun r s' => match r with | .ok f => Q f s' | .error e => cameT M A env E e s') s) (hnb : h ≠ some byPass := by intro x; cases x) : wpT M A (runOwn c env h) Q E s := by
  unfold runOwn
  exact wpT_onRaise (wpT_run hc hnb)
theorem mark_none : A.mark none = A := by cases A; rfl

theorem T_For {M : Model} {target iter body orelse pos} {Q : Flow → Shared → Prop}
    (h : wpT M A (eval iter env) (fun x s₁ => wpT M A (pyIter x) (fun it s₂ => codeT M A (.forLoop target it body orelse env) (fun r s' => match r with | .ok f => Q f s' | .error e => cameT M A env E e s') s₂) E s₁) E s)
    (hs : ∀ x, foldedSetIterable iter env x = pure x) : wpT M A (exec (.For target iter body orelse pos) env) Q E s := by
  rw [arm_exec_For]
  refine wpT_bind (wpT_standAt (wpT_bind (wpT_mono h (fun x s₁ h₁ => ?_) fun _ _ h' => h')))
  rw [hs x]
  exact wpT_bind (wpT_pure (wpT_bind (wpT_standAt (wpT_bind (wpT_holding (wpT_mono h₁ (fun it s₂ h₂ => T_runOwn (by rw [mark_none]; exact h₂)) fun _ _ h' => h'))))))
theorem T_While {M : Model} {test body orelse pos} {Q : Flow → Shared → Prop}
    (h : codeT M A (.whileLoop test body orelse env) (fun r s' => match r with | .ok f => Q f s' | .error e => cameT M A env E e s') s) : wpT M A (exec (.While test body orelse pos) env) Q E s := by
  rw [arm_exec_While]
  exact wpT_bind (wpT_standAt (T_runOwn (by rw [mark_none]; exact h)))

theorem T_Expr {M : Model} {e : Expr} {pos : Pos} {Q : Flow → Shared → Prop} (h : wpT M A (eval e env) (fun v s' => (∀ a, v ≠ .ref a) ∧ Q .next s') E s)
    (hi : interactive env = false) (hw : swapsWith e none pos.line env = pure false) : wpT M A (exec (.Expr e pos) env) Q E s := by
  rw [arm_exec_Expr]
  refine wpT_bind (wpT_standAt ?_)
  rw [hi, hw]
  refine wpT_bind (wpT_pure ?_)
  refine wpT_bind (wpT_mono h (fun v s' h' => ?_) fun _ _ e => e)
  unfold dropValue
  split
  · exact wpT_pure h'.2
  · rename_i a _
    exact absurd rfl (h'.1 a)
  · exact wpT_pure h'.2

/-- a method's call -/
theorem T_method {M : Model} {o : Expr} {name : Str} {apos pos : Pos} {e : Expr} {Q : Value → Shared → Prop} {id : String}
    (hbase : attributeBase o name env (eval o env) = eval o env) (hline : (apos.endLine == pos.line) = true) (hs : starEach [e] env = [(false, eval e env)])
    (h : wpT M A (eval o env) (fun ov s₁ => wpT M A (getMethod ov name (do return (← importBound o env).getD true)) (fun r s₂ => r = (.builtin id, [ov]) ∧ s₂ = s₁) (fun _ _ => False) s₁ ∧
      wpT M A (eval e env) (fun y s₂ => wpT M A (call (.builtin id) [ov, y]) Q E s₂) E s₁) E s) :
    wpT M A (eval (.Call (.Attribute o name apos) [e] [] pos) env) Q E s := by
  rw [arm_eval_Call, hbase]
  refine wpT_bind (wpT_mono h (fun ov s₁ h₁ => wpT_bind (wpT_standAt ?_)) fun _ _ e => e)
  obtain ⟨hm, hc⟩ := h₁
  have hform : methodCallForm (([e] : List Expr).length + ([] : List Keyword).length) (backTo pos (starEach [e] env)) (backToKw pos (keywordEach [] env)) = true := by rw [hs]; rfl
  have hpos : methodCallPos true o env apos pos = pure pos := by unfold methodCallPos; simp [hline]
  unfold methodCall
  rw [hform]
  refine wpT_bind (wpT_holding (wpT_mono (show wpT M A (calleeOf true o env ov name) _ _ s₁ from hm) (fun r s₂ e' => ?_) fun _ _ f => f.elim))
  obtain ⟨rfl, rfl⟩ := e'
  dsimp only
  rw [hpos]
  refine wpT_bind (wpT_pure ?_)
  rw [hs]
  refine T_callWith (T_evalArgs (T_spliced_cons (wpT_mono hc (fun y s₃ h₃ => wpT_pure ⟨⟨.machine, wpT_pure ⟨rfl, rfl⟩⟩, h₃⟩) fun _ _ e => e)))
end
end Mine
end
section
open PySem PySem.W PyProof.Rows PySem.Calls
set_option Elab.async false
set_option linter.unusedVariables false
namespace Mine

/-- abstract values -/
inductive AV where
  | none
  | bool (b : Bool)
  | int (i : Int)
  | bytes (l : List Int)
  | list (l : List AV)
  | tuple (l : List AV)
  | range (a b c : Int)


inductive Rep (O : Addr → Prop) (h : Heap) : Value → AV → Prop where
  | none : Rep O h .none .none
  | bool (b : Bool) : Rep O h (.bool b) (.bool b)
  | int (i : Int) (t : Tok) : Rep O h (.int i t) (.int i)
  | bytes (a : Array UInt8) (t : Tok) (l : List Int) (e : KBw.bInts a = l) : Rep O h (.bytes a t) (.bytes l)
  | list (r : Addr) (vs : List Value) (l : List AV) (hl : h.PlainList r vs.toArray) (ho : ¬ O r) (hn : vs.length = l.length)
      (hi : ∀ (i : Nat) (v : Value) (x : AV), vs[i]? = some v → l[i]? = some x → Rep O h v x) : Rep O h (.ref r) (.list l)
  | tuple (r : Addr) (vs : List Value) (l : List AV) (hl : h.IsTuple r vs.toArray) (ho : ¬ O r) (hn : vs.length = l.length)
      (hi : ∀ (i : Nat) (v : Value) (x : AV), vs[i]? = some v → l[i]? = some x → Rep O h v x) : Rep O h (.ref r) (.tuple l)
  | range (r : Addr) (a b c : Int) (t u v : Tok) (hr : IsRange h r a b c t u v) (hs : Builtin.Range.small a b c = true) (ho : ¬ O r) : Rep O h (.ref r) (.range a b c)

noncomputable def RepAll (O : Addr → Prop) (h : Heap) (vs : List Value) (l : List AV) : Prop :=
  vs.length = l.length ∧ ∀ (i : Nat) (v : Value) (x : AV), vs[i]? = some v → l[i]? = some x → Rep O h v x

noncomputable def KB (P : Addr → Prop) (h h' : Heap) : Prop := ∀ b o, ¬ P b → h.get? b = some o → h'.get? b = some o
noncomputable def Ext (h h' : Heap) : Prop := ∀ b o, h.get? b = some o → h'.get? b = some o
theorem Ext.refl (h : Heap) : Ext h h := fun _ _ e => e
theorem Ext.trans {a b c : Heap} (x : Ext a b) (y : Ext b c) : Ext a c := fun _ _ e => y _ _ (x _ _ e)
theorem Ext.push (h : Heap) (o : Obj) : Ext h (h.push o) := fun _ _ e => Heap.get?_push_of_some _ e
theorem Ext.kb {P : Addr → Prop} {a b : Heap} (x : Ext a b) : KB P a b := fun b o _ e => x b o e
theorem KB.refl (P : Addr → Prop) (h : Heap) : KB P h h := fun _ _ _ e => e
theorem KB.trans {P : Addr → Prop} {a b c : Heap} (x : KB P a b) (y : KB P b c) : KB P a c := fun d o p e => y d o p (x d o p e)
theorem KB.mono {P P' : Addr → Prop} {a b : Heap} (x : KB P a b) (h : ∀ d, P d → P' d) : KB P' a b := fun d o p e => x d o (fun q => p (h d q)) e

/-- neither a namespace nor a cell -/
noncomputable def Solid (o : Obj) : Prop := (∀ es ep, o.data ≠ .dict es ep) ∧ ∀ v, o.data ≠ .cell v
theorem solid_seq {o : Obj} {xs : Array Value} {n : Nat} (h : o.data = .seq xs n) : Solid o := ⟨(fun _ _ e => by rw [h] at e; cases e), (fun _ e => by rw [h] at e; cases e)⟩
theorem solid_fields {o : Obj} {xs : Array Value} (h : o.data = .fields xs) : Solid o := ⟨(fun _ _ e => by rw [h] at e; cases e), (fun _ e => by rw [h] at e; cases e)⟩
theorem solid_barr {o : Obj} {xs : Array UInt8} {n : Nat} (h : o.data = .bytearray xs n) : Solid o := ⟨(fun _ _ e => by rw [h] at e; cases e), (fun _ e => by rw [h] at e; cases e)⟩
/-- what a standing value may be -/
noncomputable def Val (o : Obj) : Prop := Solid o ∧ (o.cls = .type "list" ∨ o.cls = .type "tuple" ∨ o.cls = .type "range")
/-- what a representation needs: the values' objects outside of O stay -/
theorem Rep.keepV {O O' : Addr → Prop} {h h' : Heap} (k : ∀ b o, h.get? b = some o → Val o → ¬ O b → (¬ O' b ∧ h'.get? b = some o)) {v : Value} {a : AV} (r : Rep O h v a) : Rep O' h' v a := by
  induction r with
  | none => exact .none
  | bool b => exact .bool b
  | int i t => exact .int i t
  | bytes a t l e => exact .bytes a t l e
  | list r vs l hl ho hn hi ih =>
    obtain ⟨n, h1⟩ := hl
    have q := k _ _ h1 ⟨solid_seq rfl, .inl rfl⟩ ho
    exact .list r vs l ⟨n, q.2⟩ q.1 hn ih
  | tuple r vs l hl ho hn hi ih =>
    obtain ⟨o, h1, h2, n, h3⟩ := hl
    have q := k _ _ h1 ⟨solid_seq h3, .inr (.inl h2)⟩ ho
    exact .tuple r vs l ⟨o, q.2, h2, n, h3⟩ q.1 hn ih
  | range r a b c t u v hr hs ho =>
    have q := k _ _ hr ⟨solid_fields rfl, .inr (.inr rfl)⟩ ho
    exact .range r a b c t u v q.2 hs q.1
theorem Rep.keep {O O' : Addr → Prop} {h h' : Heap} (k : ∀ b o, h.get? b = some o → Solid o → ¬ O b → (¬ O' b ∧ h'.get? b = some o)) {v : Value} {a : AV} (r : Rep O h v a) : Rep O' h' v a := r.keepV fun b o e s n => k b o e s.1 n
theorem Rep.ext {O : Addr → Prop} {h h' : Heap} (k : Ext h h') {v : Value} {a : AV} (r : Rep O h v a) : Rep O h' v a := r.keep fun b o e _ n => ⟨n, k b o e⟩
theorem Rep.kb {O P : Addr → Prop} {h h' : Heap} (k : KB P h h') (hP : ∀ b, P b → O b) {v : Value} {a : AV} (r : Rep O h v a) : Rep O h' v a :=
  r.keep fun b o e _ n => ⟨n, k b o (fun p => n (hP b p)) e⟩
theorem RepAll.keep {O O' : Addr → Prop} {h h' : Heap} (k : ∀ b o, h.get? b = some o → Solid o → ¬ O b → (¬ O' b ∧ h'.get? b = some o)) {v : List Value} {a : List AV} (r : RepAll O h v a) : RepAll O' h' v a :=
  ⟨r.1, fun i v x e1 e2 => (r.2 i v x e1 e2).keep k⟩
theorem RepAll.keepV {O O' : Addr → Prop} {h h' : Heap} (k : ∀ b o, h.get? b = some o → Val o → ¬ O b → (¬ O' b ∧ h'.get? b = some o)) {v : List Value} {a : List AV} (r : RepAll O h v a) : RepAll O' h' v a :=
  ⟨r.1, fun i v x e1 e2 => (r.2 i v x e1 e2).keepV k⟩
theorem RepAll.ext {O : Addr → Prop} {h h' : Heap} (k : Ext h h') {v : List Value} {a : List AV} (r : RepAll O h v a) : RepAll O h' v a := r.keep fun b o e _ n => ⟨n, k b o e⟩
theorem RepAll.kb {O P : Addr → Prop} {h h' : Heap} (k : KB P h h') (hP : ∀ b, P b → O b) {v : List Value} {a : List AV} (r : RepAll O h v a) : RepAll O h' v a :=
  r.keep fun b o e _ n => ⟨n, k b o (fun p => n (hP b p)) e⟩
theorem RepAll.nil {O : Addr → Prop} {h : Heap} : RepAll O h [] [] := ⟨rfl, fun i v x e => by simp at e⟩
theorem RepAll.cons {O : Addr → Prop} {h : Heap} {v : Value} {a : AV} {vs : List Value} {as : List AV} (r : Rep O h v a) (rs : RepAll O h vs as) : RepAll O h (v :: vs) (a :: as) := by
  refine ⟨by simp [rs.1], fun i v' x e1 e2 => ?_⟩
  cases i with
  | zero => simp at e1 e2; subst e1; subst e2; exact r
  | succ i => simp at e1 e2; exact rs.2 i v' x e1 e2
theorem RepAll.inv {O : Addr → Prop} {h : Heap} {vs : List Value} {a : AV} {as : List AV} (r : RepAll O h vs (a :: as)) : ∃ v vs', vs = v :: vs' ∧ Rep O h v a ∧ RepAll O h vs' as := by
  obtain ⟨h1, h2⟩ := r
  cases vs with
  | nil => simp at h1
  | cons v vs => exact ⟨v, vs, rfl, h2 0 v a (by simp) (by simp), by simpa using h1, fun i v' x e1 e2 => h2 (i + 1) v' x (by simpa using e1) (by simpa using e2)⟩
theorem RepAll.inv_nil {O : Addr → Prop} {h : Heap} {vs : List Value} (r : RepAll O h vs []) : vs = [] := List.length_eq_zero_iff.mp r.1
theorem RepAll.append {O : Addr → Prop} {h : Heap} {vs us : List Value} {as bs : List AV} (r : RepAll O h vs as) (q : RepAll O h us bs) : RepAll O h (vs ++ us) (as ++ bs) := by
  induction vs generalizing as with
  | nil => have : as = [] := List.length_eq_zero_iff.mp r.1.symm; subst this; exact q
  | cons v vs ih =>
    cases as with
    | nil => have := r.1; simp at this
    | cons a as =>
      obtain ⟨v', vs', e, r1, r2⟩ := r.inv
      cases e
      exact .cons r1 (ih r2)

/-- what a name is bound to: a value that stands, or an object that the name alone holds -/
inductive MO where
  | list (l : List AV)
  | barr (l : List Int)
  | iter (l : List Int)
inductive Bind where
  | pure (a : AV)
  | own (m : MO)
noncomputable abbrev St := List (Str × Bind)

inductive Lk (x : Str) : St → Bind → Prop where
  | here {b : Bind} {σ : St} : Lk x ((x, b) :: σ) b
  | there {y : Str} {b c : Bind} {σ : St} (ne : (x == y) = false) (h : Lk x σ b) : Lk x ((y, c) :: σ) b
inductive Up (x : Str) (b : Bind) : St → St → Prop where
  | nil : Up x b [] [(x, b)]
  | here {c : Bind} {σ : St} : Up x b ((x, c) :: σ) ((x, b) :: σ)
  | there {y : Str} {c : Bind} {σ σ' : St} (ne : (x == y) = false) (h : Up x b σ σ') : Up x b ((y, c) :: σ) ((y, c) :: σ')
theorem Str.beq_ne {x y : Str} (h : (x == y) = false) : x ≠ y := fun e => by subst e; simp at h
theorem Lk.fun {x : Str} {σ : St} {b c : Bind} (h : Lk x σ b) (h' : Lk x σ c) : b = c := by
  induction h with
  | here => cases h' with
    | here => rfl
    | there ne _ => simp at ne
  | there ne _ ih => cases h' with
    | here => simp at ne
    | there _ h => exact ih h
theorem Up.look {x y : Str} {b c : Bind} {σ σ' : St} (u : Up x b σ σ') (h : Lk y σ' c) : (y = x ∧ c = b) ∨ (y ≠ x ∧ Lk y σ c) := by
  induction u with
  | nil => cases h with
    | here => exact .inl ⟨rfl, rfl⟩
    | there _ h => cases h
  | here => cases h with
    | here => exact .inl ⟨rfl, rfl⟩
    | there ne h => exact .inr ⟨Str.beq_ne ne, .there ne h⟩
  | there ne u ih => cases h with
    | here => exact .inr ⟨(Str.beq_ne ne).symm, .here⟩
    | there ne' h => exact (ih h).imp id fun e => ⟨e.1, .there ne' e.2⟩

/-- a smaller store -/
noncomputable def Wk (σ τ : St) : Prop := ∀ x b, Lk x τ b → Lk x σ b
theorem Wk.nil {σ : St} : Wk σ [] := fun _ _ h => by cases h
theorem Wk.cons {σ τ : St} {x : Str} {b : Bind} (h : Lk x σ b) (t : Wk σ τ) : Wk σ ((x, b) :: τ) := fun y c k => by
  cases k with
  | here => exact h
  | there _ k => exact t y c k
theorem Wk.refl (σ : St) : Wk σ σ := fun _ _ h => h
theorem Wk.cons_eq {σ τ : St} {x : Str} {b b' : Bind} (h : Lk x σ b') (e : b' = b) (t : Wk σ τ) : Wk σ ((x, b) :: τ) := .cons (e ▸ h) t

structure Cx where
  prog : Program
  w : World
  env : Env
  A : Around
  s₀ : Shared
  mg : Str → Option Value
  mb : Str → Option Value
  /-- what no standing value may lie at (the owned objects of the frames around) -/
  O₀ : Addr → Prop
  /-- owned objects that stood before -/
  ext : Addr → Prop
  /-- and by which name each is held -/
  en : Str → Addr → Prop
  /-- the frame's own cells -/
  mine : List Str
  /-- the names' kinds -/
  kd : Str → Option NameKind
noncomputable abbrev Cx.M (C : Cx) : Model := model C.prog C.w

noncomputable def Own (ω : List (Str × Addr)) (b : Addr) : Prop := ∃ x, (x, b) ∈ ω
noncomputable def OO (C : Cx) (ω : List (Str × Addr)) (b : Addr) : Prop := C.O₀ b ∨ Own ω b

/-- the object of an owner -/
inductive MRep (O : Addr → Prop) (h : Heap) (a : Addr) : MO → Prop where
  | list (vs : List Value) (l : List AV) (hl : h.PlainList a vs.toArray) (hr : RepAll O h vs l) : MRep O h a (.list l)
  | barr (b : Array UInt8) (l : List Int) (e : KBw.bInts b = l) (hb : h.get? a = some { cls := .type "bytearray", data := .bytearray b 0 }) : MRep O h a (.barr l)
  | biter (b : Array UInt8) (t : Tok) (i : Nat) (l : List Int) (e : (KBw.bInts b).drop i = l) (hi : i ≤ b.size)
      (hb : KBw.IsBytesIter h a b t i) : MRep O h a (.iter l)
  | liter (r : Addr) (vs : List Value) (i : Nat) (l : List Int) (e : RepAll O h (vs.drop i) (l.map .int)) (hi : i ≤ vs.length) (ho : ¬ O r)
      (hb : h.IsListIter a r i) (hl : h.PlainList r vs.toArray) : MRep O h a (.iter l)

noncomputable def BRep (O : Addr → Prop) (ω : List (Str × Addr)) (h : Heap) (x : Str) (v : Value) : Bind → Prop
  | .pure a => Rep O h v a
  | .own m => ∃ a, v = .ref a ∧ (x, a) ∈ ω ∧ MRep O h a m

/-- the name x holds v -/
noncomputable def Has (C : Cx) (h : Heap) (x : Str) (v : Value) : Prop :=
  (C.env.kindOf x = some .local ∧ ∃ m, h.Ns C.env.locals m ∧ m x = some v) ∨
  ((C.env.kindOf x = some .cell ∨ (C.env.kindOf x = some .free ∧ (x == ("__classdict__" : Str)) = false)) ∧ ∃ a, C.env.cells.lookup x = some a ∧ h.IsCell a (some v) ∧ (x ∈ C.mine ∨ ∃ o, C.s₀.heap.get? a = some o))

structure Sat (C : Cx) (σ : St) (ω : List (Str × Addr)) (s : Shared) : Prop where
  same : ∃ h tk, s = { C.s₀ with heap := h, toks := tk }
  base : ∀ b o, C.s₀.heap.get? b = some o → ¬ C.ext b → s.heap.get? b = some o
  ext : ∀ b, C.ext b → Own ω b
  ins : ∀ b, Own ω b → ∃ o, s.heap.get? b = some o ∧ Solid o
  new : ∀ b, Own ω b → ¬ C.ext b → C.s₀.heap.get? b = none
  apart : ∀ x y a, (x, a) ∈ ω → (y, a) ∈ ω → x = y
  outer : ∀ b, C.O₀ b → ∃ o, s.heap.get? b = some o
  off : ∀ b, Own ω b → ¬ C.ext b → ¬ C.O₀ b
  names : ∀ x b, Lk x σ b → ∃ v, Has C s.heap x v ∧ BRep (OO C ω) ω s.heap x v b
  loc : ∃ m, s.heap.Ns C.env.locals m
  locnew : C.s₀.heap.get? C.env.locals = none
  cell : ∀ x ∈ C.mine, ∃ a v, C.env.cells.lookup x = some a ∧ s.heap.IsCell a v ∧ C.s₀.heap.get? a = none
  inj : ∀ x ∈ C.mine, ∀ y ∈ C.mine, C.env.cells.lookup x = C.env.cells.lookup y → x = y
  en : ∀ x b, C.en x b → C.ext b ∧ (x, b) ∈ ω ∧ ∀ b', (x, b') ∈ ω → b' = b

end Mine
end
section
open PySem PySem.W PyProof.Rows PySem.Calls
set_option Elab.async false
set_option linter.unusedVariables false
namespace Mine

structure GCx (C : Cx) : Prop where
  g : C.s₀.heap.Ns mainGlobals C.mg
  b : C.s₀.heap.Ns builtinsNs C.mb
  nolimit : C.s₀.heap.NoLimit
  builtins : ∀ x : Str, x ≠ "__name__" → C.mb x = bootBuiltins x
  kind : C.env.scope.kind = .function
  kd : ∀ x, C.env.kindOf x = C.kd x
  glob : C.env.globals = mainGlobals
  blt : C.env.builtins = builtinsNs
  noext : ∀ b, C.ext b → ∀ o, C.s₀.heap.get? b = some o → Solid o

section
variable {C : Cx} {σ τ : St} {ω : List (Str × Addr)} {s : Shared}

/-- all of O lies in the heap -/
noncomputable def Al (O : Addr → Prop) (h : Heap) : Prop := ∀ b, O b → ∃ o, h.get? b = some o
theorem Al.fresh {O : Addr → Prop} {h : Heap} (x : Al O h) : ¬ O h.objs.size := fun p => by
  obtain ⟨o, e⟩ := x _ p
  exact Nat.lt_irrefl _ (Heap.lt_size e)
theorem Al.new {O : Addr → Prop} {h : Heap} (x : Al O h) {a : Addr} (ha : h.get? a = none) : ¬ O a := fun p => by
  obtain ⟨o, e⟩ := x _ p
  rw [ha] at e; cases e
theorem get_size (h : Heap) : h.get? h.objs.size = none := by
  cases e : h.get? h.objs.size with
  | none => rfl
  | some o => exact absurd (Heap.lt_size e) (Nat.lt_irrefl _)
theorem Sat.al (x : Sat C σ ω s) : Al (OO C ω) s.heap := fun b p => p.elim (x.outer b) fun q => let ⟨o, e, _⟩ := x.ins b q; ⟨o, e⟩
theorem Sat.wk (x : Sat C σ ω s) (k : Wk σ τ) : Sat C τ ω s := { x with names := fun y b h => x.names y b (k y b h) }

theorem MRep.keepV {O O' : Addr → Prop} {h h' : Heap} {a : Addr} (ka : ∀ o, h.get? a = some o → Solid o → h'.get? a = some o)
    (k : ∀ b o, h.get? b = some o → Val o → ¬ O b → (¬ O' b ∧ h'.get? b = some o)) {m : MO} (r : MRep O h a m) : MRep O' h' a m := by
  cases r with
  | list vs l hl hr => obtain ⟨n, e⟩ := hl; exact .list vs l ⟨n, ka _ e (solid_seq rfl)⟩ (hr.keepV k)
  | barr b l e hb => exact .barr b l e (ka _ hb (solid_barr rfl))
  | biter b t i l e hi hb => obtain ⟨o, h1, h2, h3⟩ := hb; exact .biter b t i l e hi ⟨o, ka _ h1 (solid_fields h3), h2, h3⟩
  | liter r vs i l e hi ho hb hl =>
    obtain ⟨o, h1, h2, h3⟩ := hb
    obtain ⟨n', h1'⟩ := hl
    have q := k _ _ h1' ⟨solid_seq rfl, .inl rfl⟩ ho
    exact .liter r vs i l (e.keepV k) hi q.1 ⟨o, ka _ h1 (solid_fields h3), h2, h3⟩ ⟨n', q.2⟩
theorem MRep.keep2 {O O' : Addr → Prop} {h h' : Heap} {a : Addr} (k : ∀ b o, h.get? b = some o → Solid o → (¬ O b → ¬ O' b) ∧ ((¬ O b ∨ b = a) → h'.get? b = some o)) {m : MO} (r : MRep O h a m) : MRep O' h' a m :=
  r.keepV (fun o e s => (k a o e s).2 (.inr rfl)) fun b o e s n => ⟨(k b o e s.1).1 n, (k b o e s.1).2 (.inl n)⟩
theorem MRep.keep {O : Addr → Prop} {h h' : Heap} {a : Addr} (k : ∀ b o, h.get? b = some o → (¬ O b ∨ b = a) → h'.get? b = some o) {m : MO} (r : MRep O h a m) : MRep O h' a m :=
  r.keep2 fun b o e _ => ⟨id, k b o e⟩
theorem Has.ext {h h' : Heap} (k : Ext h h') {x : Str} {v : Value} (p : Has C h x v) : Has C h' x v := by
  rcases p with ⟨h1, m, h2, h3⟩ | ⟨h1, a, h2, ⟨o, h3, h4⟩, h5⟩
  · exact .inl ⟨h1, m, h2.keeps k, h3⟩
  · exact .inr ⟨h1, a, h2, ⟨o, k _ _ h3, h4⟩, h5⟩
theorem BRep.ext {O : Addr → Prop} {h h' : Heap} (k : Ext h h') {x : Str} {v : Value} {b : Bind} (p : BRep O ω h x v b) : BRep O ω h' x v b := by
  cases b with
  | pure a => exact Rep.ext k p
  | own m => obtain ⟨a, h1, h2, h3⟩ := p; exact ⟨a, h1, h2, h3.keep fun b o e _ => k b o e⟩
theorem Sat.move (x : Sat C σ ω s) {h' : Heap} {tk : Nat} (k : Ext s.heap h') : Sat C σ ω { s with heap := h', toks := tk } where
  same := let ⟨_, _, e⟩ := x.same; ⟨h', tk, by rw [e]⟩
  base := fun b o e n => k _ _ (x.base b o e n)
  ext := x.ext
  ins := fun b p => let ⟨o, e, q⟩ := x.ins b p; ⟨o, k _ _ e, q⟩
  new := x.new
  apart := x.apart
  outer := fun b p => let ⟨o, e⟩ := x.outer b p; ⟨o, k _ _ e⟩
  off := x.off
  names := fun y b h => let ⟨v, h1, h2⟩ := x.names y b h; ⟨v, h1.ext k, h2.ext k⟩
  loc := let ⟨m, h⟩ := x.loc; ⟨m, h.keeps k⟩
  locnew := x.locnew
  cell := fun y hy => let ⟨a, v, h1, ⟨o, h2, h3⟩, h4⟩ := x.cell y hy; ⟨a, v, h1, ⟨o, k _ _ h2, h3⟩, h4⟩
  inj := x.inj
  en := x.en
theorem Sat.tok (x : Sat C σ ω s) {tk : Nat} : Sat C σ ω { s with toks := tk } := by
  have := x.move (tk := tk) (Ext.refl s.heap)
  exact this

/-- an expression gives the value a and leaves the store τ -/
noncomputable def EvE (C : Cx) (σ : St) (e : Expr) (a : AV) (τ : St) : Prop :=
  ∀ ω s (Q : Value → Shared → Prop) (E : Value → Shared → Prop), Sat C σ ω s →
    (∀ v s', Sat C τ ω s' → Rep (OO C ω) s'.heap v a → KB (Own ω) s.heap s'.heap → Q v s') → wpT C.M C.A (eval e C.env) Q E s
noncomputable def EvL (C : Cx) (σ : St) (es : List Expr) (as : List AV) (τ : St) : Prop :=
  ∀ ω s p (Q : List Value → Shared → Prop) (E : Value → Shared → Prop), Sat C σ ω s →
    (∀ vs s', Sat C τ ω s' → RepAll (OO C ω) s'.heap vs as → KB (Own ω) s.heap s'.heap → Q vs s') → wpT C.M C.A (spliced (backTo p (starEach es C.env))) Q E s
noncomputable def EvT (C : Cx) (σ : St) (e : Expr) (b : Bool) (τ : St) : Prop :=
  ∀ ω s (Q : Bool → Shared → Prop) (E : Value → Shared → Prop), Sat C σ ω s →
    (∀ s', Sat C τ ω s' → KB (Own ω) s.heap s'.heap → Q b s') → wpT C.M C.A (isTrue e C.env (eval e C.env)) Q E s

theorem ownOO (b : Addr) : Own ω b → OO C ω b := .inr

/-- a pure step on values -/
noncomputable def Op2 (C : Cx) (op : Operator) (a b r : AV) : Prop :=
  ∀ O s va vb (Q : Value → Shared → Prop) (E : Value → Shared → Prop), Al O s.heap → Rep O s.heap va a → Rep O s.heap vb b →
    (∀ v h' tk, Ext s.heap h' → Rep O h' v r → Q v { s with heap := h', toks := tk }) → wpAny C.M C.A (binaryOp op va vb) Q E s
noncomputable def Iop2 (C : Cx) (op : Operator) (a b r : AV) : Prop :=
  ∀ O s va vb (Q : Value → Shared → Prop) (E : Value → Shared → Prop), Al O s.heap → Rep O s.heap va a → Rep O s.heap vb b →
    (∀ v h' tk, Ext s.heap h' → Rep O h' v r → Q v { s with heap := h', toks := tk }) → wpAny C.M C.A (inplaceOp op va vb) Q E s
noncomputable def Op1 (C : Cx) (op : UnaryOp) (a r : AV) : Prop :=
  ∀ O s va (Q : Value → Shared → Prop) (E : Value → Shared → Prop), Al O s.heap → Rep O s.heap va a →
    (∀ v h' tk, Ext s.heap h' → Rep O h' v r → Q v { s with heap := h', toks := tk }) → wpAny C.M C.A (unaryOp op va) Q E s
noncomputable def Cmp (C : Cx) (op : CmpOp) (a b : AV) (r : Bool) : Prop :=
  ∀ O s va vb (Q : Value → Shared → Prop) (E : Value → Shared → Prop), Al O s.heap → Rep O s.heap va a → Rep O s.heap vb b →
    (∀ h' tk, Ext s.heap h' → Q (.bool r) { s with heap := h', toks := tk }) → wpAny C.M C.A (compareOp op va vb) Q E s
noncomputable def Truth (C : Cx) (a : AV) (r : Bool) : Prop :=
  ∀ O s va (Q : Bool → Shared → Prop) (E : Value → Shared → Prop), Al O s.heap → Rep O s.heap va a →
    (∀ h' tk, Ext s.heap h' → Q r { s with heap := h', toks := tk }) → wpAny C.M C.A (truthy va) Q E s
/-- a call, as a pure step; h₀: what stood at the top -/
noncomputable def Fn (C : Cx) (f : Value) (as : List AV) (r : AV) : Prop :=
  ∀ O s vs (Q : Value → Shared → Prop) (E : Value → Shared → Prop), (∀ b o, C.s₀.heap.get? b = some o → ¬ C.ext b → s.heap.get? b = some o) → Al O s.heap → RepAll O s.heap vs as →
    (∀ v h' tk, Ext s.heap h' → Rep O h' v r → Q v { s with heap := h', toks := tk }) → wpT C.M C.A (call f vs []) Q E s

theorem EvE.of_eq {e : Expr} {a b : AV} (h : EvE C σ e a τ) (x : a = b) : EvE C σ e b τ := x ▸ h
theorem ev_int {i : Int} {k : Nat} {p : Pos} : EvE C σ (.Constant (.int i) k p) (.int i) σ := fun _ s _ _ S h =>
  wpT_of (wpAny_Constant_int (h _ _ S.tok (.int _ _) (.refl _ _)))
theorem ev_bool {b : Bool} {k : Nat} {p : Pos} : EvE C σ (.Constant (.bool b) k p) (.bool b) σ := fun _ s _ _ S h =>
  wpT_of (wpAny_Constant_bool (h _ _ S (.bool _) (.refl _ _)))
theorem ev_bytes {l : List UInt8} {k : Nat} {p : Pos} : EvE C σ (.Constant (.bytes l) k p) (.bytes (l.map fun u => (u.toNat : Int))) σ := fun _ s _ _ S h => by
  show wpT _ _ (mkTextBytes l.toArray) _ _ s
  unfold mkTextBytes
  refine wpT_of ?_
  exact wpAny_bind (wpAny_fresh (wpAny_pure (h _ _ S.tok (.bytes _ _ _ (by simp [KBw.bInts])) (.refl _ _))))

theorem ev_name (G : GCx C) {x : Str} {p : Pos} {a : AV} (hl : Lk x σ (.pure a)) (hd : (x == ("__debug__" : Str)) = false := by decide) : EvE C σ (.Name x p) a σ := fun ω s Q E S h => by
  obtain ⟨v, h1, h2⟩ := S.names x _ hl
  rcases h1 with ⟨k, m, hn, hm⟩ | ⟨k, a', hc, hcell, _⟩
  · exact wpT_of <| wpAny_Name (wpAny_loadName_local G.kind k hn hm (h _ _ S h2 (.refl _ _))) hd
  · rcases k with k | ⟨k, kn⟩
    · exact wpT_of <| wpAny_Name (wpAny_loadName_cell G.kind k hc hcell (h _ _ S h2 (.refl _ _))) hd
    · exact wpT_of <| wpAny_Name (wpAny_loadName_free G.kind k hc hcell (h _ _ S h2 (.refl _ _)) kn) hd

theorem Sat.trans2 {σ' : St} {s' : Shared} (_ : Sat C σ ω s) (y : Sat C σ' ω s') : Sat C σ' ω s' := y

theorem ev_bin {l r : Expr} {op : Operator} {p : Pos} {a b c : AV} {σ₁ : St} (hl : EvE C σ l a σ₁) (hr : EvE C σ₁ r b τ) (ho : Op2 C op a b c) : EvE C σ (.BinOp l op r p) c τ :=
  fun ω s Q E S h => T_BinOp (hl ω s _ E S fun va s₁ S₁ r₁ k₁ => hr ω s₁ _ E S₁ fun vb s₂ S₂ r₂ k₂ =>
    wpT_of (ho (OO C ω) s₂ va vb Q E S₂.al (r₁.kb k₂ ownOO) r₂ fun v h' tk x rv => h v _ (S₂.move x) rv (k₁.trans (k₂.trans x.kb))))
theorem ev_un {x : Expr} {op : UnaryOp} {p : Pos} {a c : AV} (hx : EvE C σ x a τ) (ho : Op1 C op a c) : EvE C σ (.UnaryOp op x p) c τ :=
  fun ω s Q E S h => T_UnaryOp (hx ω s _ E S fun va s₁ S₁ r₁ k₁ => wpT_of (ho (OO C ω) s₁ va Q E S₁.al r₁ fun v h' tk x rv => h v _ (S₁.move x) rv (k₁.trans x.kb)))
theorem ev_cmp {l r : Expr} {op : CmpOp} {p : Pos} {a b : AV} {c : Bool} {σ₁ : St} (hl : EvE C σ l a σ₁) (hr : EvE C σ₁ r b τ) (ho : Cmp C op a b c) (hm : behindInMarks op r = false := by rfl) :
    EvE C σ (.Compare l [op] [r] p) (.bool c) τ :=
  fun ω s Q E S h => T_Compare1 (hl ω s _ E S fun va s₁ S₁ r₁ k₁ => hr ω s₁ _ E S₁ fun vb s₂ S₂ r₂ k₂ =>
    wpT_of (ho (OO C ω) s₂ va vb Q E S₂.al (r₁.kb k₂ ownOO) r₂ fun h' tk x => h _ _ (S₂.move x) (.bool _) (k₁.trans (k₂.trans x.kb)))) hm
theorem evt_cmp {l r : Expr} {op : CmpOp} {p : Pos} {a b : AV} {c : Bool} {σ₁ : St} (hl : EvE C σ l a σ₁) (hr : EvE C σ₁ r b τ) (ho : Cmp C op a b c) (hm : behindInMarks op r = false := by rfl) :
    EvT C σ (.Compare l [op] [r] p) c τ :=
  fun ω s Q E S h => T_isTrue_Compare1 (hl ω s _ E S fun va s₁ S₁ r₁ k₁ => hr ω s₁ _ E S₁ fun vb s₂ S₂ r₂ k₂ =>
    wpT_of (ho (OO C ω) s₂ va vb _ E S₂.al (r₁.kb k₂ ownOO) r₂ fun h' tk x => wpT_of (wpAny_truthy_bool (h _ (S₂.move x) (k₁.trans (k₂.trans x.kb)))))) hm
theorem evt_value {e : Expr} {a : AV} {c : Bool} (he : EvE C σ e a τ) (ht : Truth C a c)
    (hv : ∀ env whole, isTrue e env whole = (do let v ← whole; standAt e.pos; holding [v] (truthy v)) := by intro _ _; rfl) : EvT C σ e c τ :=
  fun ω s Q E S h => T_isTrue_value (he ω s _ E S fun va s₁ S₁ r₁ k₁ => wpT_of (ht (OO C ω) s₁ va Q E S₁.al r₁ fun h' tk x => h _ (S₁.move x) (k₁.trans x.kb))) (hv _ _)
theorem evt_or {vs : List Expr} {p : Pos} {c : Bool} (h : ∀ ω s (Q : Bool → Shared → Prop) (E : Value → Shared → Prop), Sat C σ ω s →
    (∀ s', Sat C τ ω s' → KB (Own ω) s.heap s'.heap → Q c s') → wpT C.M C.A (allTrue .Or vs C.env) Q E s) : EvT C σ (.BoolOp .Or vs p) c τ :=
  fun ω s Q E S k => T_isTrue_BoolOp (h ω s Q E S k)
theorem evt_or3 {e₁ e₂ e₃ : Expr} {p : Pos} {c₁ c₂ c₃ : Bool} (h₁ : EvT C σ e₁ c₁ σ) (h₂ : EvT C σ e₂ c₂ σ) (h₃ : EvT C σ e₃ c₃ σ) : EvT C σ (.BoolOp .Or [e₁, e₂, e₃] p) (c₁ || (c₂ || c₃)) σ := by
  refine evt_or fun ω s Q E S k => ?_
  refine T_allTrue_Or_cons (h₁ ω s _ E S fun s₁ S₁ k₁ => ?_)
  cases c₁ with
  | true => exact k _ S₁ k₁
  | false =>
    refine T_allTrue_Or_cons (h₂ ω s₁ _ E S₁ fun s₂ S₂ k₂ => ?_)
    cases c₂ with
    | true => exact k _ S₂ (k₁.trans k₂)
    | false =>
      refine T_allTrue_Or_cons (h₃ ω s₂ _ E S₂ fun s₃ S₃ k₃ => ?_)
      cases c₃ with
      | true => exact k _ S₃ (k₁.trans (k₂.trans k₃))
      | false => exact wpT_of (wpAny_allTrue_Or_nil (k _ S₃ (k₁.trans (k₂.trans k₃))))
theorem ev_if {t b o : Expr} {p : Pos} {c : Bool} {a : AV} {σ₁ : St} (ht : EvT C σ t c σ₁) (hb : c = true → EvE C σ₁ b a τ) (ho : c = false → EvE C σ₁ o a τ) : EvE C σ (.IfExp t b o p) a τ :=
  fun ω s Q E S h => T_IfExp (ht ω s _ E S fun s₁ S₁ k₁ => by
    cases c with
    | true => exact hb rfl ω s₁ Q E S₁ fun v s₂ S₂ r₂ k₂ => h v s₂ S₂ r₂ (k₁.trans k₂)
    | false => exact ho rfl ω s₁ Q E S₁ fun v s₂ S₂ r₂ k₂ => h v s₂ S₂ r₂ (k₁.trans k₂))

theorem evl_nil : EvL C σ [] [] σ := fun _ s _ _ _ S h => wpT_of (spliced_nil (h [] s S .nil (.refl _ _)))
theorem evl_cons {e : Expr} {es : List Expr} {a : AV} {as : List AV} {σ₁ : St} (he : EvE C σ e a σ₁) (hes : EvL C σ₁ es as τ)
    (hs : ∀ env, starEach (e :: es) env = (false, eval e env) :: starEach es env := by intro _; rfl) : EvL C σ (e :: es) (a :: as) τ := fun ω s p Q E S h => by
  rw [hs]
  show wpT _ _ (spliced ((false, eval e C.env) :: backTo p (starEach es C.env))) Q E s
  exact T_spliced_cons (he ω s _ E S fun v s₁ S₁ r₁ k₁ => hes ω s₁ p _ E S₁ fun vs s₂ S₂ r₂ k₂ => h _ _ S₂ (.cons (r₁.kb k₂ ownOO) r₂) (k₁.trans k₂))

theorem Rep.new_list {O : Addr → Prop} {h : Heap} {vs : List Value} {as : List AV} (al : Al O h) (r : RepAll O h vs as) :
    Rep O (h.push { cls := .type "list", data := .seq vs.toArray }) (.ref h.objs.size) (.list as) :=
  .list _ vs as ⟨_, Heap.get?_push_size _ rfl⟩ al.fresh r.1 (r.ext (.push _ _)).2
theorem Rep.new_tuple {O : Addr → Prop} {h : Heap} {vs : List Value} {as : List AV} (al : Al O h) (r : RepAll O h vs as) :
    Rep O (h.push { cls := .type "tuple", data := .seq vs.toArray }) (.ref h.objs.size) (.tuple as) :=
  .tuple _ vs as ⟨_, Heap.get?_push_size _ rfl, rfl, _, rfl⟩ al.fresh r.1 (r.ext (.push _ _)).2
theorem ev_list {es : List Expr} {as : List AV} {p : Pos} (h : EvL C σ es as τ) (hz : as.length ≤ sizeLine := by size_fits) : EvE C σ (.List es p) (.list as) τ := fun ω s Q E S k =>
  T_List (h ω s _ _ E S fun vs s₁ S₁ r₁ k₁ => wpT_of <| wpAny_newList (k _ _ (S₁.move (.push _ _)) (.new_list S₁.al r₁) (k₁.trans (Ext.push _ _).kb)) (by rw [r₁.1]; exact hz))
theorem ev_tuple {es : List Expr} {as : List AV} {n : Nat} {p : Pos} (h : EvL C σ es as τ) (hz : as.length ≤ sizeLine := by size_fits) : EvE C σ (.Tuple es n p) (.tuple as) τ := fun ω s Q E S k =>
  T_Tuple (h ω s _ _ E S fun vs s₁ S₁ r₁ k₁ => wpT_of <| wpAny_newObj_type (k _ _ (S₁.move (.push _ _)) (.new_tuple S₁.al r₁) (k₁.trans (Ext.push _ _).kb)) (by show vs.toArray.size ≤ sizeLine; rw [List.size_toArray, r₁.1]; exact hz))
end
end Mine
end
section
open PySem PySem.W PyProof.Rows PySem.Calls
set_option Elab.async false
set_option linter.unusedVariables false
namespace Mine
section
variable {C : Cx} {σ τ : St} {ω : List (Str × Addr)} {s : Shared}

noncomputable def Gn (C : Cx) (x : Str) (v : Value) : Prop := C.kd x = some .globalImplicit ∧ (C.mg x = some v ∨ (C.mg x = none ∧ x ≠ "__name__" ∧ bootBuiltins x = some v))

theorem GCx.keepNs (G : GCx C) {h : Heap} (k : ∀ b o, C.s₀.heap.get? b = some o → ¬ C.ext b → h.get? b = some o) {a : Addr} {m} (n : C.s₀.heap.Ns a m) : h.Ns a m := by
  obtain ⟨o, es, ep, e, d, r⟩ := n
  exact ⟨o, es, ep, k _ _ e (fun x => (G.noext _ x _ e).1 _ _ d), d, r⟩
theorem GCx.keepLim (G : GCx C) {h : Heap} (k : ∀ b o, C.s₀.heap.get? b = some o → ¬ C.ext b → h.get? b = some o) : h.NoLimit :=
  let ⟨mc, n, e⟩ := G.nolimit; ⟨mc, G.keepNs k n, e⟩

theorem glob_any (G : GCx C) (S : Sat C σ ω s) {x : Str} {p : Pos} {v : Value} (g : Gn C x v) {Q : Value → Shared → Prop} {E : Value → Shared → Prop} (h : Q v s)
    (hd : (x == ("__debug__" : Str)) = false) : wpT C.M C.A (eval (.Name x p) C.env) Q E s := by
  refine wpT_of (Name_function_global G.kind ((G.kd x).trans g.1) ?_ hd)
  rcases g.2 with e | ⟨e, en, eb⟩
  · exact loadGlobal_global (by rw [G.glob]; exact G.keepNs S.base G.g) e h
  · exact loadGlobal_builtin (by rw [G.glob]; exact G.keepNs S.base G.g) e (by rw [G.blt]; exact G.keepNs S.base G.b) ((G.builtins x en).trans eb) h

noncomputable def Callee (C : Cx) (f : Value) : Prop := (∃ id, f = .builtin id) ∨ (∃ T, f = .type T) ∨ ∃ a o fd, f = .ref a ∧ C.s₀.heap.get? a = some o ∧ o.data = .func fd ∧ ¬ C.ext a
theorem Callee.builtin {id : String} : Callee C (.builtin id) := .inl ⟨id, rfl⟩
theorem Callee.type {T : String} : Callee C (.type T) := .inr (.inl ⟨T, rfl⟩)

theorem ev_call_gen (G : GCx C) {x : Str} {p pos : Pos} {f : Value} {e : Expr} {es : List Expr} {as : List AV} {σ₁ : St} {r : AV} (g : Gn C x f) (hf : Callee C f) (hl : EvL C σ (e :: es) as σ₁)
    (hF : ∀ ω s vs (Q : Value → Shared → Prop) (E : Value → Shared → Prop), Sat C σ₁ ω s → RepAll (OO C ω) s.heap vs as →
      (∀ v s', Sat C τ ω s' → Rep (OO C ω) s'.heap v r → KB (Own ω) s.heap s'.heap → Q v s') → wpT C.M C.A (call f vs []) Q E s)
    (hs : ∀ env, starEach (e :: es) env = (false, eval e env) :: starEach es env := by intro _; rfl)
    (hd : (x == ("__debug__" : Str)) = false := by decide) : EvE C σ (.Call (.Name x p) (e :: es) [] pos) r τ := fun ω s Q E S h => by
  refine T_Call_Name (glob_any G S g ?_ hd)
  refine T_callWith ?_
  have key : ∀ (P : List Value → Shared → Prop), (∀ vs s₁, (∀ b o, C.s₀.heap.get? b = some o → ¬ C.ext b → s₁.heap.get? b = some o) → wpT C.M C.A (call f vs []) Q E s₁ → P vs s₁) →
      wpT C.M C.A (spliced (backTo pos (starEach (e :: es) C.env))) P E s := fun P hP =>
    hl ω s pos _ E S fun vs s₁ S₁ r₁ k₁ => hP vs s₁ S₁.base (hF ω s₁ vs Q E S₁ r₁ fun v s' S' r' k' => h v s' S' r' (k₁.trans k'))
  rw [hs] at key ⊢
  rcases hf with ⟨id, rfl⟩ | ⟨T, rfl⟩ | ⟨a, o, fd, rfl, ho, hd, hx⟩
  · exact T_evalArgs (key _ fun vs s₁ hb k => ⟨⟨.machine, wpT_pure ⟨rfl, rfl⟩⟩, k⟩)
  · exact T_evalArgs (key _ fun vs s₁ hb k => ⟨⟨.machine, wpT_pure ⟨rfl, rfl⟩⟩, k⟩)
  · refine T_evalArgs (key _ fun vs s₁ hb k => ⟨⟨.frame, wpT_of ?_⟩, k⟩)
    unfold keeperOf
    refine wpAny_bind (wpAny_load (hb _ _ ho hx) ?_)
    rw [hd]
    exact wpAny_pure ⟨rfl, rfl⟩

theorem Fn.use {f : Value} {as : List AV} {r : AV} (hF : Fn C f as r) : ∀ ω s vs (Q : Value → Shared → Prop) (E : Value → Shared → Prop), Sat C σ ω s → RepAll (OO C ω) s.heap vs as →
      (∀ v s', Sat C σ ω s' → Rep (OO C ω) s'.heap v r → KB (Own ω) s.heap s'.heap → Q v s') → wpT C.M C.A (call f vs []) Q E s :=
  fun ω s vs Q E S r₁ h => hF (OO C ω) s vs Q E S.base S.al r₁ fun v h' tk x rv => h v _ (S.move x) rv x.kb

theorem ev_call (G : GCx C) {x : Str} {p pos : Pos} {f : Value} {e : Expr} {es : List Expr} {as : List AV} {r : AV} (g : Gn C x f) (hf : Callee C f) (hl : EvL C σ (e :: es) as τ) (hF : Fn C f as r)
    (hs : ∀ env, starEach (e :: es) env = (false, eval e env) :: starEach es env := by intro _; rfl)
    (hd : (x == ("__debug__" : Str)) = false := by decide) : EvE C σ (.Call (.Name x p) (e :: es) [] pos) r τ := ev_call_gen G g hf hl hF.use hs hd

/- ints -/
theorem op_add {a b : Int} : Op2 C .Add (.int a) (.int b) (.int (a + b)) := by
  intro O s va vb Q E hO ra rb h; cases ra; cases rb; exact add_int (h _ _ _ (Ext.refl _) (.int _ _))
theorem op_sub {a b : Int} : Op2 C .Sub (.int a) (.int b) (.int (a - b)) := by
  intro O s va vb Q E hO ra rb h; cases ra; cases rb; exact sub_int (h _ _ _ (Ext.refl _) (.int _ _))
theorem bits_le {z : Int} (hz : z.natAbs < 2 ^ 64) : Builtin.Int.intBits z ≤ 64 := by
  unfold Builtin.Int.intBits
  by_cases h : z = 0
  · simp [h]
  · have hb : (z == 0) = false := by simpa using h
    rw [hb]
    have h0 : z.natAbs ≠ 0 := by lia
    have := (Nat.log2_lt h0).mpr hz
    simp only [Bool.false_eq_true, if_false]
    lia
theorem mulOk_of {a b : Int} (h : a.natAbs < 2 ^ 64 ∨ b.natAbs < 2 ^ 64) : IntMulOk a b := by
  have key : ∀ z : Int, z.natAbs < 2 ^ 64 → Builtin.Int.intBits z ≤ 64 := fun z => bits_le
  unfold IntMulOk
  rcases h with h | h
  · have := key a h
    simp [shortFactorBits]; lia
  · have := key b h
    simp [shortFactorBits]; lia
theorem op_mul {a b : Int} (hm : a.natAbs < 2 ^ 64 ∨ b.natAbs < 2 ^ 64) : Op2 C .Mult (.int a) (.int b) (.int (a * b)) := by
  intro O s va vb Q E hO ra rb h; cases ra; cases rb; exact mul_int (h _ _ _ (Ext.refl _) (.int _ _)) (mulOk_of hm)
theorem op_fdiv {a b : Int} (hb : 0 < b) (hs : b < 1073741824) : Op2 C .FloorDiv (.int a) (.int b) (.int (a / b)) := by
  intro O s va vb Q E hO ra rb h; cases ra; cases rb
  refine floordiv_int (by lia) ?_ (.inl (PyProof.noPylong_small (by lia)))
  rw [Int.fdiv_eq_ediv_of_nonneg _ (by lia)]
  exact h _ _ _ (Ext.refl _) (.int _ _)
theorem op_fdiv_big {a b : Int} (hb : 0 < b) (hs : b.natAbs.log2 < 9000) : Op2 C .FloorDiv (.int a) (.int b) (.int (a / b)) := by
  intro O s va vb Q E hO ra rb h; cases ra; cases rb
  refine floordiv_int (by lia) ?_ (.inl (PyProof.noPylong_of_log2 hs))
  rw [Int.fdiv_eq_ediv_of_nonneg _ (by lia)]
  exact h _ _ _ (Ext.refl _) (.int _ _)
theorem op_mod {a b : Int} (hb : 0 < b) : Op2 C .Mod (.int a) (.int b) (.int (a % b)) := by
  intro O s va vb Q E hO ra rb h; cases ra; cases rb
  refine mod_int' (by lia) ?_
  rw [Int.fmod_eq_emod_of_nonneg _ (by lia)]
  exact h _ _ _ (Ext.refl _) (.int _ _)
theorem op_pow {a n : Int} (h0 : 0 ≤ n) (hn : n ≤ 1000000) (ha : a.natAbs < 2 ^ 64) : Op2 C .Pow (.int a) (.int n) (.int (a ^ n.toNat)) := by
  intro O s va vb Q E hO ra rb h; cases ra; cases rb
  refine pow_int h0 ?_ (h _ _ _ (Ext.refl _) (.int _ _))
  have hb : Builtin.Int.intBits a ≤ 64 := bits_le ha
  have : (Builtin.Int.intBits a : Int) * n ≤ 64 * 1000000 := Int.mul_le_mul (by lia) hn h0 (by lia)
  lia
theorem op_and {a b : Int} : Op2 C .BitAnd (.int a) (.int b) (.int (Builtin.bitAnd a b)) := by
  intro O s va vb Q E hO ra rb h; cases ra; cases rb; exact and_int (h _ _ _ (Ext.refl _) (.int _ _))
theorem op_neg {a : Int} : Op1 C .USub (.int a) (.int (-a)) := by
  intro O s va Q E hO ra h; cases ra; exact neg_int (h _ _ _ (Ext.refl _) (.int _ _))
theorem cmp_lt {a b : Int} : Cmp C .Lt (.int a) (.int b) (decide (a < b)) := by
  intro O s va vb Q E hO ra rb h; cases ra; cases rb; exact lt_int (h _ _ (Ext.refl _))
theorem cmp_le {a b : Int} : Cmp C .LtE (.int a) (.int b) (decide (a ≤ b)) := by
  intro O s va vb Q E hO ra rb h; cases ra; cases rb; exact le_int (h _ _ (Ext.refl _))
theorem cmp_gt {a b : Int} : Cmp C .Gt (.int a) (.int b) (decide (b < a)) := by
  intro O s va vb Q E hO ra rb h; cases ra; cases rb; exact gt_int (h _ _ (Ext.refl _))
theorem cmp_eq {a b : Int} : Cmp C .Eq (.int a) (.int b) (a == b) := by
  intro O s va vb Q E hO ra rb h; cases ra; cases rb; exact eq_int (h _ _ (Ext.refl _))
theorem cmp_ne {a b : Int} : Cmp C .NotEq (.int a) (.int b) (a != b) := by
  intro O s va vb Q E hO ra rb h; cases ra; cases rb; exact ne_int (h _ _ (Ext.refl _))
theorem truth_int {a : Int} : Truth C (.int a) (a != 0) := by
  intro O s va Q E hO ra h; cases ra; exact truthy_int (h _ _ (Ext.refl _))
theorem truth_bool {a : Bool} : Truth C (.bool a) a := by
  intro O s va Q E hO ra h; cases ra; exact wpAny_truthy_bool (h _ _ (Ext.refl _))

/- bytes -/
theorem bInts_inj {a b : Array UInt8} (h : KBw.bInts a = KBw.bInts b) : a.toList = b.toList := by
  unfold KBw.bInts at h
  have inj : ∀ x y : UInt8, ((x.toNat : Nat) : Int) = ((y.toNat : Nat) : Int) → x = y := fun x y e => by
    have : x.toNat = y.toNat := by lia
    exact UInt8.toNat_inj.mp this
  have : ∀ l m : List UInt8, l.map (fun c => ((c.toNat : Nat) : Int)) = m.map (fun c => ((c.toNat : Nat) : Int)) → l = m := by
    intro l
    induction l with
    | nil => intro m e; cases m with
      | nil => rfl
      | cons => simp at e
    | cons x l ih => intro m e; cases m with
      | nil => simp at e
      | cons y m => simp only [List.map_cons, List.cons.injEq] at e; rw [inj _ _ e.1, ih m e.2]
  exact this _ _ h
theorem bne_bytes {a b : Array UInt8} : (a.toList != b.toList) = (KBw.bInts a != KBw.bInts b) := by
  by_cases h : a.toList = b.toList
  · have : KBw.bInts a = KBw.bInts b := by unfold KBw.bInts; rw [h]
    rw [bne, bne, beq_iff_eq.mpr h, beq_iff_eq.mpr this]
  · have h2 : ¬ KBw.bInts a = KBw.bInts b := fun e => h (bInts_inj e)
    rw [bne, bne, beq_eq_false_iff_ne.mpr h, beq_eq_false_iff_ne.mpr h2]
theorem cmp_ne_bytes {a b : List Int} : Cmp C .NotEq (.bytes a) (.bytes b) (a != b) := by
  intro O s va vb Q E hO ra rb h; cases ra with | bytes x t l e => cases rb with | bytes y u m f =>
  subst e; subst f
  exact ne_bytes (by rw [bne_bytes]; exact h _ _ (Ext.refl _))
theorem op_addb {a b : List Int} (hz : a.length + b.length ≤ 16777216) : Op2 C .Add (.bytes a) (.bytes b) (.bytes (a ++ b)) := by
  intro O s va vb Q E hO ra rb h; cases ra with | bytes x t l e => cases rb with | bytes y u m f =>
  exact KBa.add_K e f hz fun t' k q => h _ s.heap _ (Ext.refl _) (.bytes _ _ _ q)
theorem fn_len_bytes {a : List Int} (hz : a.length ≤ 1099511627776) : Fn C (.builtin "len") [.bytes a] (.int a.length) := by
  intro O s vs Q E hb hO r h
  refine wpT_of ?_
  obtain ⟨v, vs', rfl, rv, r'⟩ := r.inv
  cases r'.inv_nil
  cases rv with | bytes x t l e => exact KBw.len_K e hz (h _ s.heap _ (Ext.refl _) (.int _ _))
theorem fn_len_list {a : List AV} (hz : a.length ≤ 1099511627776) : Fn C (.builtin "len") [.list a] (.int a.length) := by
  intro O s vs Q E hb hO r h
  refine wpT_of ?_
  obtain ⟨v, vs', rfl, rv, r'⟩ := r.inv
  cases r'.inv_nil
  cases rv with | list x us l hl ho hn hi =>
  refine call_len_list hl.isList (by simp; lia) ?_
  have : ((us.toArray.size : Nat) : Int) = (a.length : Int) := by simp [hn]
  rw [this]
  exact h _ s.heap _ (Ext.refl _) (.int _ _)
end
end Mine
end
section
open PySem PySem.W PyProof.Rows PySem.Calls
set_option Elab.async false
set_option linter.unusedVariables false
namespace Mine
noncomputable abbrev il (l : List Int) : List AV := l.map .int
section
variable {C : Cx} {σ τ : St} {ω : List (Str × Addr)} {s : Shared}

theorem RepAll.toInts {O : Addr → Prop} {h : Heap} : ∀ {vs : List Value} {ns : List Int}, RepAll O h vs (il ns) → IntsAre vs ns
  | vs, [], r => by cases r.inv_nil; exact .nil
  | vs, n :: ns, r => by
    obtain ⟨v, vs', rfl, rv, r'⟩ := RepAll.inv (a := .int n) (as := Mine.il ns) r
    cases rv
    exact .cons _ _ (RepAll.toInts r')
theorem RepAll.of_ints {O : Addr → Prop} {h : Heap} {vs : List Value} {ns : List Int} (r : IntsAre vs ns) : RepAll O h vs (Mine.il ns) := by
  induction r with
  | nil => exact .nil
  | cons n t r ih => exact .cons (.int n t) ih
theorem RepAll.get {O : Addr → Prop} {h : Heap} {vs : List Value} {l : List AV} (r : RepAll O h vs l) {i : Nat} {x : AV} (e : l[i]? = some x) : ∃ v, vs[i]? = some v ∧ Rep O h v x := by
  have hi : i < l.length := (List.getElem?_eq_some_iff.mp e).1
  have hv : vs[i]? = some (vs[i]'(by rw [r.1]; exact hi)) := List.getElem?_eq_getElem _
  exact ⟨_, hv, r.2 i _ _ hv e⟩

/- subscripts -/
noncomputable def Get (C : Cx) (a i r : AV) : Prop :=
  ∀ O s va vi (Q : Value → Shared → Prop) (E : Value → Shared → Prop), Al O s.heap → Rep O s.heap va a → Rep O s.heap vi i →
    (∀ v h' tk, Ext s.heap h' → Rep O h' v r → Q v { s with heap := h', toks := tk }) →
    ∃ T id, s.TypeIs va T ∧ typeLookup (.type T) "__getitem__" = pure (some (.builtin id)) ∧ wpAny C.M C.A (getItem va vi) Q E s

theorem ev_sub {v i : Expr} {p : Pos} {a k r : AV} {σ₁ : St} (hv : EvE C σ v a σ₁) (hi : EvE C σ₁ i k τ) (hg : Get C a k r)
    (hs : ∀ o x, subscripted i false o x = operate [o, x] (getItem o x) := by intro _ _; rfl) : EvE C σ (.Subscript v i p) r τ :=
  fun ω s Q E S h => T_Subscript (hv ω s _ E S fun va s₁ S₁ r₁ k₁ => hi ω s₁ _ E S₁ fun vi s₂ S₂ r₂ k₂ => by
    obtain ⟨T, id, t1, t2, t3⟩ := hg (OO C ω) s₂ va vi Q E S₂.al (r₁.kb k₂ ownOO) r₂ fun v h' tk x rv => h v _ (S₂.move x) rv (k₁.trans (k₂.trans x.kb))
    exact wpT_of (tail_any t1 t2 t3 (hs _ _)))

theorem get_list {l : List AV} {k : Int} {x : AV} (h0 : 0 ≤ k) (hk : k < 2 ^ 63) (e : l[k.toNat]? = some x) : Get C (.list l) (.int k) x := by
  intro O s va vi Q E hO ra ri h
  cases ra with | list r vs l hl ho hn hi =>
  cases ri
  obtain ⟨v, e1, e2⟩ := RepAll.get ⟨hn, hi⟩ e
  exact ⟨"list", _, hl.isList.typeIs, slot_list_getitem.lookup, wpAny_getItem_list hl.isList h0 hk (by simpa using e1) (h v s.heap s.toks (Ext.refl _) e2)⟩
theorem get_list_neg {l : List AV} {k : Int} {x : AV} (h0 : k < 0) (hk : -(l.length : Int) ≤ k) (hb : -(2 ^ 63) ≤ k) (e : l[(k + l.length).toNat]? = some x) : Get C (.list l) (.int k) x := by
  intro O s va vi Q E hO ra ri h
  cases ra with | list r vs l hl ho hn hi =>
  cases ri
  obtain ⟨v, e1, e2⟩ := RepAll.get ⟨hn, hi⟩ e
  exact ⟨"list", _, hl.isList.typeIs, slot_list_getitem.lookup, wpAny_getItem_list_neg hl.isList h0 (by simpa [hn] using hk) hb (by simpa [hn] using e1) (h v s.heap s.toks (Ext.refl _) e2)⟩
theorem get_bytes {l : List Int} {k : Int} {x : Int} (h0 : 0 ≤ k) (hz : l.length ≤ 1099511627776) (e : l[k.toNat]? = some x) : Get C (.bytes l) (.int k) (.int x) := by
  intro O s va vi Q E hO ra ri h
  cases ra with | bytes b t l el =>
  cases ri
  have hlt : k.toNat < l.length := (List.getElem?_eq_some_iff.mp e).1
  subst el
  have hlb := KBw.ints_length b
  refine ⟨"bytes", _, typeIs_bytes _ _ _, FB.slot_bytes_getitem.lookup, ?_⟩
  have hb : b = b.toList.toArray := by simp
  rw [hb]
  refine getItem_bytes (by simpa using (by lia : b.size ≤ 1099511627776)) h0 (by simp; lia) ?_
  have e3 : ((b.toList.getD k.toNat 0).toNat : Int) = x := by
    rw [KBw.getD_ints]
    have e' : (b.toList.map fun c => (c.toNat : Int))[k.toNat]? = some x := e
    rw [List.getD_eq_getElem?_getD, e']; rfl
  rw [e3]
  exact h _ s.heap _ (Ext.refl _) (.int _ _)

/- slices -/
noncomputable def EvP (C : Cx) (σ : St) (e : Option Expr) (p : Option Int) (τ : St) : Prop :=
  ∀ ω s (Q : Value → Shared → Prop) (E : Value → Shared → Prop), Sat C σ ω s →
    (∀ v s', Sat C τ ω s' → IsPart v p → KB (Own ω) s.heap s'.heap → Q v s') → wpT C.M C.A (evP e C.env) Q E s
theorem evp_none : EvP C σ none none σ := fun ω s Q E S h => wpT_pure (h _ s S .none (.refl _ _))
theorem evp_some {e : Expr} {k : Int} (he : EvE C σ e (.int k) τ) : EvP C σ (some e) (some k) τ := fun ω s Q E S h =>
  show wpT C.M C.A (eval e C.env) Q E s from he ω s Q E S fun v s' S' r k' => by cases r; exact h _ s' S' (.int _ _) k'
noncomputable def GetS (C : Cx) (a : AV) (lo hi st : Option Int) (r : AV) : Prop :=
  ∀ O s va sl vl vu vs (Q : Value → Shared → Prop) (E : Value → Shared → Prop), Al O s.heap → Rep O s.heap va a → s.heap.IsSliceOf sl vl vu vs → IsPart vl lo → IsPart vu hi → IsPart vs st →
    (∀ v h' tk, Ext s.heap h' → Rep O h' v r → Q v { s with heap := h', toks := tk }) →
    ∃ T id, s.TypeIs va T ∧ typeLookup (.type T) "__getitem__" = pure (some (.builtin id)) ∧ wpAny C.M C.A (getItem va (.ref sl)) Q E s
theorem ev_slice {v : Expr} {lower upper step : Option Expr} {p q : Pos} {a r : AV} {lo hi st : Option Int} {σ₁ σ₂ σ₃ : St} (hv : EvE C σ v a σ₁) (hl : EvP C σ₁ lower lo σ₂) (hu : EvP C σ₂ upper hi σ₃) (hst : EvP C σ₃ step st τ)
    (hg : GetS C a lo hi st r)
    (hs : ∀ o x, ∃ ops, subscripted (.Slice lower upper step q) false o x = operate ops (getItem o x) := by intro _ _; exact ⟨_, rfl⟩) : EvE C σ (.Subscript v (.Slice lower upper step q) p) r τ :=
  fun ω s Q E S h => T_Subscript (hv ω s _ E S fun va s₁ S₁ r₁ k₁ => T_Slice (hl ω s₁ _ E S₁ fun vl s₂ S₂ pl k₂ => hu ω s₂ _ E S₂ fun vu s₃ S₃ pu k₃ => hst ω s₃ _ E S₃ fun vs s₄ S₄ ps k₄ => by
    have S₅ := S₄.move (tk := s₄.toks) (Ext.push s₄.heap { cls := .type "slice", data := .fields #[vl, vu, vs] })
    have k := k₁.trans (k₂.trans (k₃.trans (k₄.trans (Ext.push s₄.heap { cls := .type "slice", data := .fields #[vl, vu, vs] }).kb)))
    obtain ⟨T, id, t1, t2, t3⟩ := hg (OO C ω) _ va s₄.heap.objs.size vl vu vs Q E S₅.al ((r₁.kb (k₂.trans (k₃.trans k₄)) ownOO).ext (.push _ _)) (Heap.IsSliceOf.new _ _ _ _) pl pu ps
      fun v h' tk x rv => h v _ (S₅.move x) rv (k.trans x.kb)
    obtain ⟨ops, e⟩ := hs va (.ref s₄.heap.objs.size)
    exact wpT_of (tail_any t1 t2 t3 e)))

noncomputable def pick {α : Type} (xs : List α) (lo hi st : Option Int) : List α :=
  (sliceRange (sliceBounds lo hi st xs.length).1 (sliceBounds lo hi st xs.length).2.1 (sliceBounds lo hi st xs.length).2.2).filterMap (xs[·]?)
theorem pick_arr (vs : List Value) (lo hi st : Option Int) : slicePick vs.toArray lo hi st = (pick vs lo hi st).toArray := by
  unfold slicePick pick
  simp
theorem RepAll.filterMap {O : Addr → Prop} {h : Heap} {vs : List Value} {l : List AV} (r : RepAll O h vs l) : ∀ is : List Nat, RepAll O h (is.filterMap (vs[·]?)) (is.filterMap (l[·]?))
  | [] => .nil
  | i :: is => by
    have ih := r.filterMap is
    by_cases hi : i < l.length
    · have e : l[i]? = some l[i] := List.getElem?_eq_getElem hi
      obtain ⟨v, e1, e2⟩ := r.get e
      rw [List.filterMap_cons, List.filterMap_cons, e1, e]
      exact .cons e2 ih
    · have e : l[i]? = none := List.getElem?_eq_none (by lia)
      have e1 : vs[i]? = none := List.getElem?_eq_none (by rw [r.1]; lia)
      rw [List.filterMap_cons, List.filterMap_cons, e1, e]
      exact ih
theorem RepAll.pick {O : Addr → Prop} {h : Heap} {vs : List Value} {l : List AV} (r : RepAll O h vs l) (lo hi st : Option Int) : RepAll O h (pick vs lo hi st) (pick l lo hi st) := by
  unfold Mine.pick
  rw [r.1]
  exact r.filterMap _
theorem pick_len {α : Type} (xs : List α) (lo hi : Option Int) (st : Option Int) : (pick xs lo hi st).length = (pick (xs.map fun _ => ()) lo hi st).length := by
  unfold pick
  simp only [List.length_map]
  generalize sliceRange _ _ _ = is
  induction is with
  | nil => rfl
  | cons i is ih =>
    by_cases hi : i < xs.length
    · simp [hi, ih]
    · simp [hi, ih]
theorem gets_list {l : List AV} {lo hi st : Option Int} (h0 : st ≠ some 0) (hz : l.length ≤ sizeLine) : GetS C (.list l) lo hi st (.list (pick l lo hi st)) := by
  intro O s va sl vl vu vst Q E hO ra hs pl pu ps h
  cases ra with | list r vs l hl ho hn hi =>
  refine ⟨"list", _, hl.isList.typeIs, slot_list_getitem.lookup, wpAny_getItem_list_slice hl.isList hs pl pu ps h0 ?_ (by simpa [hn] using hz)⟩
  rw [pick_arr]
  exact h _ _ s.toks (.push _ _) (.new_list hO (RepAll.pick ⟨hn, hi⟩ lo _ st))
theorem gets_bytes {l : List Int} {lo hi : Option Int} (hz : l.length ≤ 16777216) :
    GetS C (.bytes l) lo hi none (.bytes ((l.drop (lo.elim 0 (clipAt l.length))).take (hi.elim l.length (clipAt l.length) - lo.elim 0 (clipAt l.length)))) := by
  intro O s va sl vl vu vst Q E hO ra hs pl pu ps h
  cases ps
  cases ra with | bytes b t l el =>
  have hl := KBw.ints_length b
  refine ⟨"bytes", _, typeIs_bytes _ _ _, FB.slot_bytes_getitem.lookup, ?_⟩
  refine getItem_meets (typeIs_bytes _ _ _) (by decide) FB.slot_bytes_getitem FB.entry_bytes_getitem (FB.args_bytes_getitem_2 _ _) (KBc.meets_slice2 b t sl pl pu)
    ⟨hs, Nat.le_trans (KBc.size_picked_le b lo hi) (by rw [← KBw.ints_length b, el, sizeLine_eq]; exact hz), fun t' k => h _ s.heap k (Ext.refl _) (.bytes _ _ _ (KBc.ints_picked el lo hi))⟩

/- lists -/
theorem op_addl {a b : List AV} (hz : a.length + b.length ≤ sizeLine) : Op2 C .Add (.list a) (.list b) (.list (a ++ b)) := by
  intro O s va vb Q E hO ra rb h
  cases ra with | list r vs a hl ho hn hi =>
  cases rb with | list r' us b hl' ho' hn' hi' =>
  obtain ⟨n, e⟩ := hl
  obtain ⟨n', e'⟩ := hl'
  refine concat_meets ⟨_, e, rfl⟩ ⟨_, e', rfl⟩ noFill_list_add seq_list_add PySem.F.slot_list_add PySem.F.entry_list_add (PySem.F.args_list_add_2 _ _)
    (list_addW r r' vs.toArray us.toArray n n' none none #[] #[] (by simpa [hn, hn'] using hz)) ⟨e, e', ?_⟩
  have ea : vs.toArray ++ us.toArray = (vs ++ us).toArray := by simp
  rw [ea]
  exact h _ _ s.toks (.push _ _) (.new_list hO (RepAll.append ⟨hn, hi⟩ ⟨hn', hi'⟩))
theorem op_mull {a : List AV} {k : Int} (h0 : -1048576 ≤ k) (hk : k ≤ 1048576) (hz : a.length ≤ 8) : Op2 C .Mult (.list a) (.int k) (.list (List.replicate k.toNat a).flatten) := by
  intro O s va vb Q E hO ra rb h
  cases ra with | list r vs a hl ho hn hi =>
  cases rb with | int x u =>
  obtain ⟨n, e⟩ := hl
  have hb : vs.length * k.toNat ≤ 8 * 1048576 := Nat.mul_le_mul (by lia) (by lia)
  refine wpAny_binaryOp_repeat_ref (T := "list") (U := "int") (by decide) ⟨_, e, rfl⟩ (fun s' => typeIs_int s' k u) noFill_list_mul F.fills_int_mul F.slot_int_rmul repeat_list F.slot_int_index.lookup
    (call_meets F.slot_int_rmul (typeIs_int s k u) F.entry_int_rmul (F.args_int_rmul_2 _ _) (int___rmul___int_list k u r vs.toArray n)
      ⟨e, rfl, ⟨_, e, rfl⟩, call_meets F.slot_list_mul ⟨_, e, rfl⟩ F.entry_list_mul (F.args_list_mul_2 _ _)
        (PySem.AutoListH.list___mul___list_int_3 r vs.toArray n k u (by simp [Builtin.List.listFitsIndex]; lia) (by simp; lia) (by simp [Builtin.List.listTooLong, sizeLine]; lia))
        ⟨e, ?_⟩⟩)
  have ea : List.foldl (fun x1 x2 => x1 ++ x2) #[] (List.replicate (if vs.toArray.isEmpty = true then 0 else k.toNat) vs.toArray) = (List.replicate k.toNat vs).flatten.toArray := by
    have gen : ∀ (m : Nat) (acc : Array Value), List.foldl (fun x1 x2 => x1 ++ x2) acc (List.replicate m vs.toArray) = acc ++ (List.replicate m vs).flatten.toArray := by
      intro m
      induction m with
      | zero => intro acc; simp
      | succ m ih => intro acc; rw [List.replicate_succ, List.foldl_cons, ih, List.replicate_succ]; simp
    rw [gen]
    cases vs with
    | nil => simp
    | cons => simp
  rw [ea]
  refine h _ _ s.toks (.push _ _) (.new_list hO ?_)
  have : ∀ m : Nat, RepAll O s.heap (List.replicate m vs).flatten (List.replicate m a).flatten := by
    intro m
    induction m with
    | zero => exact .nil
    | succ m ih => rw [List.replicate_succ, List.replicate_succ, List.flatten_cons, List.flatten_cons]; exact RepAll.append ⟨hn, hi⟩ ih
  exact this _
theorem op_mulb {l : List Int} {k : Int} (hne : l ≠ []) (h0 : -1048576 ≤ k) (hk : k ≤ 1048576) (hz : l.length ≤ 16) : Op2 C .Mult (.bytes l) (.int k) (.bytes (List.replicate k.toNat l).flatten) := by
  intro O s va vb Q E hO ra rb h
  cases ra with | bytes b t l el =>
  cases rb with | int x u =>
  have hb : b = b.toList.toArray := by simp
  subst el
  rw [hb]
  have hlen := KBw.ints_length b
  refine bytes_mul_any (fun e => hne ?_) h0 hk (by simpa using (by lia : b.size ≤ 16)) fun t' k' => h _ s.heap k' (Ext.refl _) (.bytes _ _ _ ?_)
  · unfold KBw.bInts; rw [e]; rfl
  · show KBw.bInts _ = _
    rw [KBw.ints_list]
    simp only [List.map_flatten, List.map_replicate]
    rfl

theorem cmp_ne_ints {a b : List Int} (hu : C.A.units + 64 < cLine) : Cmp C .NotEq (.list (il a)) (.list (il b)) (!decide (a = b)) := by
  intro O s va vb Q E hO ra rb h
  cases ra with | list r vs a' hl ho hn hi =>
  cases rb with | list r' us b' hl' ho' hn' hi' =>
  exact ke_ne_ints hl.isList hl'.isList (RepAll.toInts ⟨hn, hi⟩) (RepAll.toInts ⟨hn', hi'⟩) hu (h _ _ (Ext.refl _))
theorem cmp_eq_ints {a b : List Int} (hu : C.A.units + 64 < cLine) : Cmp C .Eq (.list (il a)) (.list (il b)) (decide (a = b)) := by
  intro O s va vb Q E hO ra rb h
  cases ra with | list r vs a' hl ho hn hi =>
  cases rb with | list r' us b' hl' ho' hn' hi' =>
  exact ke_eq_ints hl.isList hl'.isList (RepAll.toInts ⟨hn, hi⟩) (RepAll.toInts ⟨hn', hi'⟩) hu (h _ _ (Ext.refl _))
theorem cmp_in {k : Int} {l : List Int} : Cmp C .In (.int k) (.list (il l)) (decide (k ∈ l)) := by
  intro O s va vb Q E hO ra rb h
  cases ra
  cases rb with | list r vs l' hl ho hn hi =>
  refine in_list_ints hl.isList (RepAll.toInts ⟨hn, hi⟩) ?_
  have : (l.any fun x => x == k) = decide (k ∈ l) := by
    rw [Bool.eq_iff_iff]; simp
  rw [this]
  exact h _ _ (Ext.refl _)
end
end Mine
end
section
open PySem PySem.W PyProof.Rows PySem.Calls
set_option Elab.async false
set_option linter.unusedVariables false
namespace Mine
section
variable {C : Cx} {σ τ : St} {ω : List (Str × Addr)} {s : Shared}

theorem fr0 (G : GCx C) (hb : ∀ b o, C.s₀.heap.get? b = some o → ¬ C.ext b → s.heap.get? b = some o) : Fr {} mainGlobals s.heap C.mg :=
  ⟨G.keepNs hb G.g, (fun b o e => absurd e (by simp [Heap.get?])), Nat.zero_le _⟩
theorem fn_range1 (G : GCx C) {n : Int} (h0 : -(2 ^ 62) ≤ n) (h1 : n < 2 ^ 62) : Fn C (.type "range") [.int n] (.range 0 n 1) := by
  intro O s vs Q E hb hO r h
  refine wpT_of ?_
  obtain ⟨v, vs', rfl, rv, r'⟩ := r.inv
  cases r'.inv_nil; cases rv
  exact range1_rows (fr0 G hb) News.nil fun h' tk t u v hr _ _ hk => h _ h' tk hk (.range _ _ _ _ t u v hr (small_one (by lia) (by lia) h0 h1) (hO.fresh))
theorem fn_range2 (G : GCx C) {a n : Int} (ha0 : -(2 ^ 62) ≤ a) (ha1 : a < 2 ^ 62) (h0 : -(2 ^ 62) ≤ n) (h1 : n < 2 ^ 62) : Fn C (.type "range") [.int a, .int n] (.range a n 1) := by
  intro O s vs Q E hb hO r h
  refine wpT_of ?_
  obtain ⟨v, vs', rfl, rv, r'⟩ := r.inv
  obtain ⟨v', vs'', rfl, rv', r''⟩ := r'.inv
  cases r''.inv_nil; cases rv; cases rv'
  exact range2_rows (fr0 G hb) News.nil fun h' tk t u v hr _ _ hk => h _ h' tk hk (.range _ _ _ _ t u v hr (small_one ha0 ha1 h0 h1) (hO.fresh))
theorem fn_range3 (G : GCx C) {a n c : Int} (hc : 0 < c) (hcs : c < 1073741824) (hs : Builtin.Range.small a n c = true) : Fn C (.type "range") [.int a, .int n, .int c] (.range a n c) := by
  intro O s vs Q E hb hO r h
  refine wpT_of ?_
  obtain ⟨v, vs', rfl, rv, r'⟩ := r.inv
  obtain ⟨v', vs'', rfl, rv', r''⟩ := r'.inv
  obtain ⟨v3, vs3, rfl, rv3, r3⟩ := r''.inv
  cases r3.inv_nil; cases rv; cases rv'; cases rv3
  exact range3_rows (fr0 G hb) News.nil (by lia) (fun h' tk t u v hr _ _ hk => h _ h' tk hk (.range _ _ _ _ t u v hr hs (hO.fresh))) (.inl (PyProof.noPylong_small (by lia)))
theorem fn_min {a b : Int} (hh : C.A.handled = none) : Fn C (.builtin "min") [.int a, .int b] (.int (if b < a then b else a)) := by
  intro O s vs Q E hb hO r h
  refine wpT_of ?_
  obtain ⟨v, vs', rfl, rv, r'⟩ := r.inv
  obtain ⟨v', vs'', rfl, rv', r''⟩ := r'.inv
  cases r''.inv_nil; cases rv; cases rv'
  refine min_two_ints hh fun h' tk hk => h _ h' tk hk ?_
  split <;> exact .int _ _
theorem fn_abs {a : Int} : Fn C (.builtin "abs") [.int a] (.int (if a < 0 then -a else a)) := by
  intro O s vs Q E hb hO r h
  refine wpT_of ?_
  obtain ⟨v, vs', rfl, rv, r'⟩ := r.inv
  cases r'.inv_nil; cases rv
  exact call_abs_int fun u tk => h _ s.heap tk (Ext.refl _) (.int _ _)
theorem fn_int {a : Int} : Fn C (.type "int") [.int a] (.int a) := by
  intro O s vs Q E hb hO r h
  refine wpT_of ?_
  obtain ⟨v, vs', rfl, rv, r'⟩ := r.inv
  cases r'.inv_nil; cases rv
  exact call_int_int (h _ s.heap s.toks (Ext.refl _) (.int _ _))
theorem fn_divmod {a b : Int} (hb0 : 0 < b) (hbs : b < 1073741824) : Fn C (.builtin "divmod") [.int a, .int b] (.tuple [.int (a / b), .int (a % b)]) := by
  intro O s vs Q E hb hO r h
  refine wpT_of ?_
  obtain ⟨v, vs', rfl, rv, r'⟩ := r.inv
  obtain ⟨v', vs'', rfl, rv', r''⟩ := r'.inv
  cases r''.inv_nil; cases rv; cases rv'
  refine divmod_int (by lia) ?_ (.inl (PyProof.noPylong_small (by lia)))
  rw [Int.fdiv_eq_ediv_of_nonneg _ (by lia), Int.fmod_eq_emod_of_nonneg _ (by lia)]
  refine h _ _ _ (.push _ _) ?_
  exact .new_tuple (vs := [_, _]) hO (.cons (.int _ _) (.cons (.int _ _) .nil))
theorem fn_bytes {l : List Int} (hh : C.A.handled = none) (hr : ∀ n ∈ l, 0 ≤ n ∧ n < 256) (hz : l.length ≤ sizeLine) : Fn C (.type "bytes") [.list (il l)] (.bytes l) := by
  intro O s vs Q E hb hO r h
  refine wpT_of ?_
  obtain ⟨v, vs', rfl, rv, r'⟩ := r.inv
  cases r'.inv_nil
  cases rv with | list r us l' hl ho hn hi =>
  have hI := RepAll.toInts ⟨hn, hi⟩
  exact call_bytes_ints hl.isList hI hr (by rw [hI.length]; exact hz) hh fun h' t k hk => h _ h' k hk (.bytes _ _ _ (KBa.ints_make hr))

/- sums -/
theorem preSum_take (l : List Int) : ∀ j, j ≤ l.length → preSum (fun i => l.getD i 0) j = (l.take j).sum
  | 0, _ => by simp [preSum]
  | j + 1, h => by
    rw [preSum, preSum_take l j (by lia), List.take_add_one, List.getD_eq_getElem?_getD]
    simp only [List.sum_append]
    rw [List.getElem?_eq_getElem (by lia)]
    simp
theorem sum_take_bounds {l : List Int} {B : Int} (h : ∀ x ∈ l, 0 ≤ x ∧ x ≤ B) : ∀ j : Nat, 0 ≤ (l.take j).sum ∧ (l.take j).sum ≤ B * (l.length : Int) := by
  intro j
  induction l generalizing j with
  | nil => simp
  | cons x l ih =>
    cases j with
    | zero =>
      have := h x (by simp)
      refine ⟨by simp, ?_⟩
      simp only [List.take_zero, List.sum_nil]
      exact Int.mul_nonneg (by lia) (by lia)
    | succ j =>
      have h1 := h x (by simp)
      have h2 := ih (fun y hy => h y (by simp [hy])) j
      rw [List.take_succ_cons, List.sum_cons, List.length_cons, Int.natCast_succ, Int.mul_add, Int.mul_one]
      lia
theorem fn_sum {l : List Int} (hh : C.A.handled = none) (hv : ∀ x ∈ l, 0 ≤ x ∧ x ≤ 2 ^ 40) (hz : l.length ≤ 1048576) : Fn C (.builtin "sum") [.list (il l)] (.int l.sum) := by
  intro O s vs Q E hb hO r h
  refine wpT_of ?_
  obtain ⟨v, vs', rfl, rv, r'⟩ := r.inv
  cases r'.inv_nil
  clear r
  cases rv with | list r us l' hl ho hn hi =>
  have hI := RepAll.toInts ⟨hn, hi⟩
  have hlen := hI.length
  have hlt : r < s.heap.objs.size := by obtain ⟨n, e⟩ := hl; exact Heap.lt_size e
  have hsb := sum_take_bounds hv
  refine call_sum_walk (wpAny_pyIter_list hl.isList ?_)
  refine ⟨s.heap.objs.size, _, _, _, _, _, fun i => l.getD i 0, rfl, Walks.list (A := C.A.in1) hh s.heap.objs.size r (Nat.ne_of_lt hlt) us.toArray, ⟨⟨_, Heap.get?_push_size _ rfl, rfl, rfl⟩, ?_⟩, ?_, ?_, ?_, ?_⟩
  · obtain ⟨o, e, q⟩ := hl.isList
    exact ⟨o, Heap.get?_push_of_some _ e, q⟩
  · intro b hb
    rw [Heap.size_push]
    rcases List.mem_cons.mp hb with rfl | hb
    · exact Nat.lt_succ_self _
    · rw [List.mem_singleton.mp hb]; exact Nat.lt_succ_of_lt hlt
  · intro i v e
    have e' : us[i]? = some v := by simpa using e
    have hi' : i < l.length := by rw [← hlen]; exact (List.getElem?_eq_some_iff.mp e').1
    obtain ⟨t, ht⟩ := hI.get i l[i] (by simp [hi'])
    rw [ht] at e'
    refine ⟨t, ?_⟩
    show v = .int (l.getD i 0) t
    rw [List.getD_eq_getElem?_getD, List.getElem?_eq_getElem hi']
    exact (Option.some.inj e').symm
  · intro j hj
    have hj' : j < l.length := by rw [← hlen]; simpa using hj
    have h1 := hv l[j] (List.getElem_mem hj')
    have h2 := hsb (j + 1)
    have h3 : (2 : Int) ^ 40 * (l.length : Int) ≤ 2 ^ 40 * 1048576 := Int.mul_le_mul_of_nonneg_left (by lia) (by decide)
    rw [preSum_take l (j + 1) hj']
    have hg : l.getD j 0 = l[j] := by rw [List.getD_eq_getElem?_getD, List.getElem?_eq_getElem hj']; rfl
    show InLong (l.getD j 0) ∧ InLong _
    rw [hg]
    refine ⟨⟨?_, ?_⟩, ?_, ?_⟩ <;> lia
  · intro h' tk t' hk
    have e : preSum (fun i => l.getD i 0) us.toArray.size = l.sum := by
      have : us.toArray.size = l.length := by simp [hlen]
      rw [this, preSum_take l _ (Nat.le_refl _), List.take_length]
    rw [e]
    refine h _ h' tk (fun b o e => hk b o (fun hm => ?_) (Heap.get?_push_of_some _ e)) (.int _ _)
    rw [List.mem_singleton.mp hm] at e
    exact absurd (Heap.lt_size e) (Nat.lt_irrefl _)

/- list equality, item by item -/
noncomputable def ItemEq (x y : AV) (b : Bool) : Prop := ∀ O h v w, Rep O h v x → Rep O h w y → MeetsSeq.EqGives v w b
theorem itemEq_int {a b : Int} : ItemEq (.int a) (.int b) (a == b) := by
  intro O h v w ra rb; cases ra; cases rb; exact MeetsSeq.EqGives.int _ _ _ _
theorem cmp_eq_list {a b : List AV} {e : Nat → Bool} (hu : C.A.units < cLine) (hz : a.length = b.length) (he : ∀ j x y, a[j]? = some x → b[j]? = some y → ItemEq x y (e j)) :
    Cmp C .Eq (.list a) (.list b) ((List.range a.length).all e) := by
  intro O s va vb Q E hO ra rb h
  cases ra with | list r vs a' hl ho hn hi =>
  cases rb with | list r' us b' hl' ho' hn' hi' =>
  obtain ⟨n, e1⟩ := hl
  obtain ⟨n', e2⟩ := hl'
  refine P.eq_list (e := e) e1 e2 (by simp [hn, hn', hz]) (fun j h1 h2 => ?_) hu ?_
  · have q1 : vs[j]? = some vs.toArray[j] := by simp at h1 ⊢
    have q2 : us[j]? = some us.toArray[j] := by simp at h2 ⊢
    have j1 : j < a.length := by rw [← hn]; simpa using h1
    have j2 : j < b.length := by rw [← hn']; simpa using h2
    have q3 := List.getElem?_eq_getElem j1
    have q4 := List.getElem?_eq_getElem j2
    exact he j _ _ q3 q4 O s.heap _ _ (hi j _ _ q1 q3) (hi' j _ _ q2 q4)
  · have : vs.toArray.size = a.length := by simp [hn]
    rw [this]
    exact h _ _ (Ext.refl _)
theorem cmp_eq_list_ne {a b : List AV} (hu : C.A.units < cLine) (hz : a.length ≠ b.length) : Cmp C .Eq (.list a) (.list b) false := by
  intro O s va vb Q E hO ra rb h
  cases ra with | list r vs a' hl ho hn hi =>
  cases rb with | list r' us b' hl' ho' hn' hi' =>
  obtain ⟨n, e1⟩ := hl
  obtain ⟨n', e2⟩ := hl'
  exact P.eq_list_lengths e1 e2 (by simpa [hn, hn'] using hz) hu (h _ _ (Ext.refl _))
end
end Mine
end
section
open PySem PySem.W PyProof.Rows PySem.Calls
set_option Elab.async false
set_option linter.unusedVariables false
namespace Mine
section
variable {C : Cx} {σ τ : St} {ω ω' : List (Str × Addr)} {s : Shared}

/-- what a statement may touch -/
noncomputable def Md (C : Cx) (ω : List (Str × Addr)) (b : Addr) : Prop := Own ω b ∨ b = C.env.locals ∨ ∃ x ∈ C.mine, C.env.cells.lookup x = some b
noncomputable def KB2 (P P' : Addr → Prop) (h h' : Heap) : Prop := ∀ b o, ¬ P b → h.get? b = some o → ¬ P' b ∧ h'.get? b = some o
theorem KB2.trans {P P' P'' : Addr → Prop} {a b c : Heap} (x : KB2 P P' a b) (y : KB2 P' P'' b c) : KB2 P P'' a c := fun d o p e => let ⟨p', e'⟩ := x d o p e; y d o p' e'
theorem KB2.refl (P : Addr → Prop) (h : Heap) : KB2 P P h h := fun b o p e => ⟨p, e⟩
theorem KB.toMd {h h' : Heap} (k : KB (Own ω) h h') : KB2 (Md C ω) (Md C ω) h h' := fun b o p e => ⟨p, k b o (fun q => p (.inl q)) e⟩

/-- a name that may be stored -/
noncomputable def Stb (C : Cx) (x : Str) : Prop := C.kd x = some .local ∨ (C.kd x = some .cell ∧ x ∈ C.mine)

theorem not_solid_ns {h : Heap} {a : Addr} {m} (n : h.Ns a m) {o : Obj} (e : h.get? a = some o) : ¬ Solid o := by
  obtain ⟨o', es, ep, e', d, _⟩ := n
  rw [e] at e'; cases e'
  exact fun x => x.1 _ _ d
theorem not_solid_cell {h : Heap} {a : Addr} {v} (n : h.IsCell a v) {o : Obj} (e : h.get? a = some o) : ¬ Solid o := by
  obtain ⟨o', e', d⟩ := n
  rw [e] at e'; cases e'
  exact fun x => x.2 _ d
theorem ns_ne_cell {h : Heap} {a : Addr} {m v} (n : h.Ns a m) (c : h.IsCell a v) : False := by
  obtain ⟨o', es, ep, e', d, _⟩ := n
  obtain ⟨o, e, d'⟩ := c
  rw [e] at e'; cases e'; rw [d] at d'; cases d'

/-- the store of a name: what is asked of the new heap -/
structure Stored (C : Cx) (x : Str) (v : Value) (h h' : Heap) : Prop where
  touch : ∃ a, Heap.SameBut a h h' ∧ (∀ o, h.get? a = some o → ¬ Solid o) ∧ C.s₀.heap.get? a = none ∧ (a = C.env.locals ∨ ∃ y ∈ C.mine, C.env.cells.lookup y = some a)
  has : Has C h' x v
  others : ∀ y u, y ≠ x → Has C h y u → Has C h' y u
  loc : (∃ m, h.Ns C.env.locals m) → ∃ m, h'.Ns C.env.locals m
  cells : ∀ a u, h.IsCell a u → ∃ u', h'.IsCell a u'

theorem store_any (G : GCx C) (S : Sat C σ ω s) {x : Str} {v : Value} (hx : Stb C x) {Q : Unit → Shared → Prop} {E : Value → Shared → Prop}
    (h : ∀ h' tk, Stored C x v s.heap h' → Q () { s with heap := h', toks := tk }) : wpAny C.M C.A (storeName C.env x v) Q E s := by
  rcases hx with hx | ⟨hx, hm⟩ <;> rw [← G.kd] at hx
  · obtain ⟨m, hn⟩ := S.loc
    refine wpAny_storeName_local hx hn (fun h' hn' hs => h h' _ ⟨⟨_, hs, fun o e => not_solid_ns hn e, S.locnew, .inl rfl⟩, .inl ⟨hx, _, hn', by simp⟩, ?_, fun _ => ⟨_, hn'⟩, ?_⟩) (by rw [G.kind]; rfl)
    · rintro y u hy (⟨k, m', hn2, hv⟩ | ⟨k, a, hc, ⟨o, e, d⟩, q⟩)
      · refine .inl ⟨k, _, hn', ?_⟩
        obtain ⟨o1, es1, ep1, e1, d1, _, f1⟩ := hn
        obtain ⟨o2, es2, ep2, e2, d2, _, f2⟩ := hn2
        rw [e1] at e2; cases e2; rw [d1] at d2; cases d2
        have : m y = m' y := by rw [← f1, ← f2]
        simp [hy, this, hv]
      · refine .inr ⟨k, a, hc, ⟨o, ?_, d⟩, q⟩
        refine (hs.2 a fun e' => ?_).trans e
        subst e'
        exact ns_ne_cell hn ⟨o, e, d⟩
    · rintro a u ⟨o, e, d⟩
      refine ⟨u, o, (hs.2 a fun e' => ?_).trans e, d⟩
      subst e'
      exact ns_ne_cell hn ⟨o, e, d⟩
  · obtain ⟨a, v₀, hc, hcell, hnew⟩ := S.cell x hm
    refine wpAny_storeName_cell G.kind hx hc hcell fun h' hv hs => h h' s.toks ⟨⟨_, hs, fun o e => not_solid_cell hcell e, hnew, .inr ⟨x, hm, hc⟩⟩, .inr ⟨.inl hx, a, hc, hv, .inl hm⟩, ?_, ?_, ?_⟩
    · rintro y u hy (⟨k, m', hn2, hv'⟩ | ⟨k, a', hc', ⟨o, e, d⟩, q⟩)
      · refine .inl ⟨k, m', hn2.sameBut hs fun e => ?_, hv'⟩
        rw [e] at hn2
        exact ns_ne_cell hn2 hcell
      · refine .inr ⟨k, a', hc', ⟨o, (hs.2 a' fun e' => ?_).trans e, d⟩, q⟩
        subst e'
        rcases q with q | ⟨o', q⟩
        · exact hy (S.inj y q x hm (hc'.trans hc.symm))
        · rw [hnew] at q; cases q
    · rintro ⟨m, hn⟩
      refine ⟨m, hn.sameBut hs fun e => ?_⟩
      rw [e] at hn
      exact ns_ne_cell hn hcell
    · rintro b u ⟨o, e, d⟩
      by_cases hb : b = a
      · subst hb; exact ⟨_, hv⟩
      · exact ⟨u, o, (hs.2 b hb).trans e, d⟩

theorem Stored.solid {x : Str} {v : Value} {h h' : Heap} (k : Stored C x v h h') {b : Addr} {o : Obj} (e : h.get? b = some o) (so : Solid o) : h'.get? b = some o := by
  obtain ⟨a, hs, ha, _⟩ := k.touch
  exact (hs.2 b fun q => ha o (q ▸ e) so).trans e
theorem Stored.md {x : Str} {v : Value} {h h' : Heap} (k : Stored C x v h h') : KB2 (Md C ω) (Md C ω) h h' := fun b o p e => by
  obtain ⟨a, hs, ha, _, q⟩ := k.touch
  exact ⟨p, (hs.2 b fun q' => p (.inr (q' ▸ q))).trans e⟩
theorem Stored.base {x : Str} {v : Value} {h h' : Heap} (k : Stored C x v h h') {b : Addr} {o : Obj} (e : C.s₀.heap.get? b = some o) (e' : h.get? b = some o) : h'.get? b = some o := by
  obtain ⟨a, hs, _, hn, _⟩ := k.touch
  refine (hs.2 b fun q => ?_).trans e'
  rw [q, hn] at e; cases e
theorem Stored.some {x : Str} {v : Value} {h h' : Heap} (k : Stored C x v h h') (hl : ∃ m, h.Ns C.env.locals m) (hc : ∀ y ∈ C.mine, ∃ a v, C.env.cells.lookup y = some a ∧ h.IsCell a v)
    {b : Addr} (e : ∃ o, h.get? b = some o) : ∃ o, h'.get? b = some o := by
  obtain ⟨o, e⟩ := e
  obtain ⟨a, hs, _, hn, q⟩ := k.touch
  by_cases hb : b = a
  · subst hb
    rcases q with rfl | ⟨y, hy, hq⟩
    · obtain ⟨m, o', _, _, e', _⟩ := k.loc hl; exact ⟨o', e'⟩
    · obtain ⟨a', v, h1, h2⟩ := hc y hy
      rw [hq] at h1; cases h1
      obtain ⟨u', o', e', _⟩ := k.cells _ _ h2
      exact ⟨o', e'⟩
  · exact ⟨o, (hs.2 b hb).trans e⟩

/-- the store behind a name's new value -/
theorem Sat.stored (S : Sat C σ ω s) {x : Str} {v : Value} {h' : Heap} {tk : Nat} (k : Stored C x v s.heap h') {b : Bind} (up : Up x b σ τ)
    (hw : ∀ p, p ∈ ω → p ∈ ω') (hown : ∀ c, Own ω' c → Own ω c ∨ (C.s₀.heap.get? c = none ∧ ¬ C.O₀ c ∧ ∃ o, s.heap.get? c = some o ∧ Solid o)) (hap : ∀ x y a, (x, a) ∈ ω' → (y, a) ∈ ω' → x = y)
    (hO : ∀ c o, s.heap.get? c = some o → Solid o → ¬ OO C ω c → ¬ OO C ω' c ∨ (∀ y a, (Lk y σ (.own a) ∨ ∃ p, Lk y σ (.pure p)) → False))
    (hb : BRep (OO C ω') ω' h' x v b) (hen : ∀ x b, C.en x b → C.ext b ∧ (x, b) ∈ ω' ∧ ∀ b', (x, b') ∈ ω' → b' = b) : Sat C τ ω' { s with heap := h', toks := tk } where
  same := let ⟨_, _, e⟩ := S.same; ⟨h', tk, by rw [e]⟩
  base := fun c o e n => k.base e (S.base c o e n)
  ext := fun c p => let ⟨y, q⟩ := S.ext c p; ⟨y, hw _ q⟩
  ins := fun c p => let ⟨o, e, so⟩ := (hown c p).elim (S.ins c) fun q => q.2.2; ⟨o, k.solid e so, so⟩
  new := fun c p n => (hown c p).elim (fun q => S.new c q n) fun q => q.1
  apart := hap
  off := fun c p n => (hown c p).elim (fun q => S.off c q n) fun q => q.2.1
  outer := fun c p => k.some S.loc (fun y hy => let ⟨a, v, h1, h2, _⟩ := S.cell y hy; ⟨a, v, h1, h2⟩) (S.outer c p)
  names := fun y c hl => by
    rcases up.look hl with ⟨rfl, rfl⟩ | ⟨hy, hl'⟩
    · exact ⟨v, k.has, hb⟩
    · obtain ⟨u, h1, h2⟩ := S.names y c hl'
      refine ⟨u, k.others y u hy h1, ?_⟩
      cases c with
      | pure p => exact Rep.keep (fun b o e so n => ⟨(hO b o e so n).elim id fun f => (f y (.list []) (.inr ⟨p, hl'⟩)).elim, k.solid e so⟩) h2
      | own m =>
        obtain ⟨a, q1, q2, q3⟩ := h2
        exact ⟨a, q1, hw _ q2, q3.keep2 fun b o e so => ⟨fun n => (hO b o e so n).elim id fun f => (f y m (.inl hl')).elim, fun _ => k.solid e so⟩⟩
  loc := k.loc S.loc
  locnew := S.locnew
  cell := fun y hy => let ⟨a, v, h1, h2, h3⟩ := S.cell y hy; let ⟨u, h4⟩ := k.cells _ _ h2; ⟨a, u, h1, h4, h3⟩
  inj := S.inj
  en := hen

theorem Sat.stored_pure (S : Sat C σ ω s) {x : Str} {v : Value} {h' : Heap} {tk : Nat} (k : Stored C x v s.heap h') {a : AV} (up : Up x (.pure a) σ τ) (r : Rep (OO C ω) s.heap v a) :
    Sat C τ ω { s with heap := h', toks := tk } :=
  S.stored k up (fun _ p => p) (fun c p => .inl p) S.apart (fun _ _ _ _ n => .inl n) (r.keep fun b o e so n => ⟨n, k.solid e so⟩) S.en

inductive Res where
  | next
  | ret (a : AV)
noncomputable def FR (O : Addr → Prop) (h : Heap) : Res → Flow → Prop
  | .next, .next => True
  | .ret a, .ret v => Rep O h v a
  | _, _ => False

noncomputable def Ex (C : Cx) (σ : St) (st : Stmt) (r : Res) (τ : St) : Prop :=
  ∀ ω s (Q : Flow → Shared → Prop) (E : Value → Shared → Prop), Sat C σ ω s →
    (∀ f s' ω', Sat C τ ω' s' → FR (OO C ω') s'.heap r f → KB2 (Md C ω) (Md C ω') s.heap s'.heap → Q f s') → wpT C.M C.A (exec st C.env) Q E s
noncomputable def Exs (C : Cx) (σ : St) (ss : List Stmt) (r : Res) (τ : St) : Prop :=
  ∀ ω s (Q : Flow → Shared → Prop) (E : Value → Shared → Prop), Sat C σ ω s →
    (∀ f s' ω', Sat C τ ω' s' → FR (OO C ω') s'.heap r f → KB2 (Md C ω) (Md C ω') s.heap s'.heap → Q f s') → wpT C.M C.A (execs ss C.env) Q E s

theorem exs_nil : Exs C σ [] .next σ := fun ω s Q E S h => wpT_of (wpAny_execs_nil (h _ s ω S trivial (.refl _ _)))
theorem exs_cons {st : Stmt} {ss : List Stmt} {r : Res} {σ₁ : St} (h₁ : Ex C σ st .next σ₁) (h₂ : Exs C σ₁ ss r τ) : Exs C σ (st :: ss) r τ := fun ω s Q E S h =>
  T_execs_cons (h₁ ω s _ E S fun f s₁ ω₁ S₁ r₁ k₁ => by
    cases f with
    | next => exact h₂ ω₁ s₁ Q E S₁ fun f s₂ ω₂ S₂ r₂ k₂ => h f s₂ ω₂ S₂ r₂ (k₁.trans k₂)
    | _ => exact r₁.elim)
theorem exs_ret {st : Stmt} {ss : List Stmt} {a : AV} (h₁ : Ex C σ st (.ret a) τ) : Exs C σ (st :: ss) (.ret a) τ := fun ω s Q E S h =>
  T_execs_cons (h₁ ω s _ E S fun f s₁ ω₁ S₁ r₁ k₁ => by
    cases f with
    | ret v => exact h _ s₁ ω₁ S₁ r₁ k₁
    | _ => exact r₁.elim)
theorem exs_wk {ss : List Stmt} {r : Res} {σ₁ τ₁ : St} (k : Wk σ σ₁) (h : Exs C σ₁ ss r τ₁) (k' : Wk τ₁ τ) : Exs C σ ss r τ := fun ω s Q E S hq =>
  h ω s Q E (S.wk k) fun f s' ω' S' r' kk => hq f s' ω' (S'.wk k') r' kk
theorem exs_pre {ss : List Stmt} {r : Res} {σ₁ : St} (k : Wk σ σ₁) (h : Exs C σ₁ ss r τ) : Exs C σ ss r τ := exs_wk k h (.refl _)
theorem exs_post {ss : List Stmt} {r : Res} {τ₁ : St} (h : Exs C σ ss r τ₁) (k' : Wk τ₁ τ) : Exs C σ ss r τ := exs_wk (.refl _) h k'
theorem ex_post {st : Stmt} {r : Res} {τ₁ : St} (h : Ex C σ st r τ₁) (k' : Wk τ₁ τ) : Ex C σ st r τ := fun ω s Q E S hq =>
  h ω s Q E S fun f s' ω' S' r' kk => hq f s' ω' (S'.wk k') r' kk

theorem ex_assign (G : GCx C) {x : Str} {p q : Pos} {e : Expr} {a : AV} {σ₁ : St} (he : EvE C σ e a σ₁) (hx : Stb C x) (up : Up x (.pure a) σ₁ τ)
    (hw : swapsWith e (some (.Name x p)) q.line C.env = pure false := by rfl) : Ex C σ (.Assign [.Name x p] e q) .next τ := fun ω s Q E S h =>
  T_Assign (he ω s _ E S fun v s₁ S₁ r₁ k₁ => T_assign_Name (wpT_of (store_any G S₁ hx fun h' tk k => h _ _ ω (S₁.stored_pure k up r₁) trivial (k₁.toMd.trans k.md)))) hw rfl rfl
theorem ex_ret {e : Expr} {p : Pos} {a : AV} (he : EvE C σ e a τ) : Ex C σ (.Return (some e) p) (.ret a) τ := fun ω s Q E S h =>
  T_Return (he ω s _ E S fun v s₁ S₁ r₁ k₁ => h _ _ ω S₁ r₁ k₁.toMd)
theorem ex_if {t : Expr} {b o : List Stmt} {p : Pos} {c : Bool} {r : Res} {σ₁ : St} (ht : EvT C σ t c σ₁) (hb : c = true → Exs C σ₁ b r τ) (ho : c = false → Exs C σ₁ o r τ) : Ex C σ (.If t b o p) r τ :=
  fun ω s Q E S h => T_If (ht ω s _ E S fun s₁ S₁ k₁ => by
    cases c with
    | true => exact hb rfl ω s₁ Q E S₁ fun f s₂ ω₂ S₂ r₂ k₂ => h f s₂ ω₂ S₂ r₂ (k₁.toMd.trans k₂)
    | false => exact ho rfl ω s₁ Q E S₁ fun f s₂ ω₂ S₂ r₂ k₂ => h f s₂ ω₂ S₂ r₂ (k₁.toMd.trans k₂))
theorem ex_aug (G : GCx C) {x : Str} {p q : Pos} {e : Expr} {op : Operator} {a b c : AV} {σ₁ : St} (hl : Lk x σ (.pure a)) (he : EvE C σ e b σ₁) (ho : Iop2 C op a b c) (hx : Stb C x) (up : Up x (.pure c) σ₁ τ) :
    Ex C σ (.AugAssign (.Name x p) op e q) .next τ := fun ω s Q E S h => by
  refine T_AugAssign ?_
  obtain ⟨v, h1, h2⟩ := S.names x _ hl
  have go : wpT C.M C.A (eval e C.env) (fun u s₂ => wpT C.M C.A (inplaceOp op v u) (fun r s₃ => wpT C.M C.A (storeName C.env x r) (fun _ => Q Flow.next) E s₃) E s₂) E s :=
    he ω s _ E S fun u s₁ S₁ r₁ k₁ => wpT_of <| ho (OO C ω) s₁ v u _ E S₁.al (Rep.kb k₁ ownOO h2) r₁ fun w h' tk x' rw' => by
      have S₂ := S₁.move (tk := tk) x'
      exact wpT_of <| store_any G S₂ hx fun h'' tk' k => h _ _ ω (S₂.stored_pure k up rw') trivial ((k₁.trans x'.kb).toMd.trans k.md)
  rcases h1 with ⟨k, m, hn, hm⟩ | ⟨k, a', hc, hcell, _⟩
  · exact wpT_of <| wpAny_loadName_local G.kind k hn hm go
  · rcases k with k | ⟨k, kn⟩
    · exact wpT_of <| wpAny_loadName_cell G.kind k hc hcell go
    · exact wpT_of <| wpAny_loadName_free G.kind k hc hcell go kn
end
end Mine
end
section
open PySem PySem.W PyProof.Rows PySem.Calls
set_option Elab.async false
set_option linter.unusedVariables false
namespace Mine

section
variable {prog : Program} {w : World} {A : Around} {E : Value → Shared → Prop} {s : Shared} {env : Env} {R : Result → Shared → Prop}
theorem codeT_call_fn {a : Addr} {args : Args} {o : Obj} {fd : FuncData} {body : List Stmt} (hroom : A.depth < recursionLimit) (ho : s.heap.get? a = some o)
    (hd' : o.data = .func fd) (hco : fd.scope.isCoroutine = false) (hgen : fd.scope.isGenerator = false) (hbody : fd.body = .stmts body) (hcd : s.heap.CodeRec fd.code fd.qualname)
    (h : wpAny (model prog w) A.in1 (bindArgs fd args) (fun binds s₁ =>
      wpAny (model prog w) A.in1 (newFunctionEnv fd.scope fd.globals fd.closure binds (fd.qualname ++ ".<locals>.") (some a) fd.code none fd.builtins)
        (fun env s₂ => s₂.heap.NoLimit ∧ codeT (model prog w) A (.func body env) R s₂) (fun e s' => R (.error e) s') s₁) (fun e s' => R (.error e) s') s) :
    codeT (model prog w) A (.call (.ref a) args) R s := by
  refine codeT_of_tree rfl (wpT_of ?_)
  show wpAny _ A.in1 (callAny (.ref a) args) _ _ s
  unfold callAny
  refine wpAny_bind (wpAny_load ho ?_)
  obtain ⟨c, oc, vs, tq, hc, hoc, hdc, hq⟩ := hcd
  simp only [hd', callFunction, hco, hgen, hbody, hc]
  rw [hc] at h
  refine wpAny_bind (m := field (.ref c) 1) (wpAny_field hoc hdc hq (wpAny_bind (wpAny_pure ?_)))
  exact wpAny_bind (wpAny_mono h (fun binds s₁ h₁ => wpAny_bind (wpAny_mono h₁ (fun env s₂ h₂ => wpAny_bind (wpAny_enterFrame h₂.1 hroom
    (wpAny_pure (And.intro rfl h₂.2)))) fun _ _ h' => h')) fun _ _ h' => h')
theorem codeT_func {body : List Stmt} (h : wpT (model prog w) (A.deeper env) (execs body env) (fun f s' => R (.ok (.ret (match f with | .ret v => v | _ => .none))) s')
      (fun e s' => wpT (model prog w) (A.deeper env) (leaving env e) (fun _ s'' => R (.error e) s'') (fun e' s'' => R (.error e') s'') s') s) : codeT (model prog w) A (.func body env) R s := by
  refine codeT_of_tree rfl ?_
  show wpT _ (A.deeper env) (do point; match ← (execs body env).onRaise (leaving env) with | .ret v => ret v | _ => ret .none) _ _ s
  refine wpT_bind (wpT_point (wpT_bind (wpT_onRaise (wpT_mono h (fun f s' h' => ?_) fun _ _ h' => h'))))
  cases f <;> exact wpT_pure h'
end

section
variable {C : Cx} {σ τ : St} {ω ω' : List (Str × Addr)} {s : Shared}

theorem Has.kb (S : Sat C σ ω s) {h' : Heap} (k : KB (Own ω) s.heap h') {x : Str} {v : Value} (p : Has C s.heap x v) : Has C h' x v := by
  rcases p with ⟨h1, m, ⟨o, es, ep, e, d, r⟩, h3⟩ | ⟨h1, a, h2, ⟨o, h3, h4⟩, h5⟩
  · refine .inl ⟨h1, m, ⟨o, es, ep, k _ _ (fun q => ?_) e, d, r⟩, h3⟩
    obtain ⟨o', e', so⟩ := S.ins _ q
    rw [e] at e'; cases e'
    exact so.1 _ _ d
  · refine .inr ⟨h1, a, h2, ⟨o, k _ _ (fun q => ?_) h3, h4⟩, h5⟩
    obtain ⟨o', e', so⟩ := S.ins _ q
    rw [h3] at e'; cases e'
    exact so.2 _ h4
theorem Has.fun {h : Heap} {x : Str} {v u : Value} (p : Has C h x v) (q : Has C h x u) : v = u := by
  rcases p with ⟨k1, m, ⟨o, es, ep, e, d, _, r⟩, h3⟩ | ⟨k1, a, h2, ⟨o, h3, h4⟩, _⟩
  · rcases q with ⟨_, m', ⟨o', es', ep', e', d', _, r'⟩, h3'⟩ | ⟨k1', _⟩
    · rw [e] at e'; cases e'; rw [d] at d'; cases d'
      have : m x = m' x := by rw [← r, ← r']
      rw [h3, h3'] at this
      exact Option.some.inj this
    · rcases k1' with k1' | ⟨k1', _⟩ <;> rw [k1] at k1' <;> cases k1'
  · rcases q with ⟨k1', _⟩ | ⟨_, a', h2', ⟨o', h3', h4'⟩, _⟩
    · rcases k1 with k1 | ⟨k1, _⟩ <;> rw [k1] at k1' <;> cases k1'
    · rw [h2] at h2'; cases h2'
      rw [h3] at h3'; cases h3'
      rw [h4] at h4'
      injection h4' with h4'
      exact Option.some.inj h4'

/-- a new owner behind a store -/
theorem Sat.own_new (S : Sat C σ ω s) {x : Str} {a : Addr} {h₁ h' : Heap} {tk : Nat} (e : Ext s.heap h₁) (ha : s.heap.get? a = none) {o : Obj} (ho : h₁.get? a = some o) (so : Solid o)
    (k : Stored C x (.ref a) h₁ h') {m : MO} (up : Up x (.own m) σ τ) (hm : MRep (OO C ((x, a) :: ω)) h₁ a m) (hen : ∀ b, ¬ C.en x b) : Sat C τ ((x, a) :: ω) { s with heap := h', toks := tk } := by
  have hna : ¬ Own ω a := fun q => by obtain ⟨o', e', _⟩ := S.ins _ q; rw [ha] at e'; cases e'
  have hnO : ¬ OO C ω a := S.al.new ha
  have hnb : C.s₀.heap.get? a = none := by
    cases q : C.s₀.heap.get? a with
    | none => rfl
    | some o' =>
      by_cases hx : C.ext a
      · exact absurd (S.ext a hx) hna
      · have := S.base _ _ q hx
        rw [ha] at this; cases this
  have S₁ := S.move (tk := tk) e
  have loc : ∃ m, h₁.Ns C.env.locals m := S₁.loc
  have cel : ∀ y ∈ C.mine, ∃ a v, C.env.cells.lookup y = some a ∧ h₁.IsCell a v := fun y hy => let ⟨a, v, h1, h2, _⟩ := S₁.cell y hy; ⟨a, v, h1, h2⟩
  have oo : ∀ b, OO C ((x, a) :: ω) b → OO C ω b ∨ b = a := fun b q => q.elim (fun q => .inl (.inl q)) fun ⟨y, q⟩ => (List.mem_cons.mp q).elim (fun q => .inr (Prod.mk.inj q).2) fun q => .inl (.inr ⟨y, q⟩)
  have ow : ∀ b, Own ((x, a) :: ω) b → Own ω b ∨ b = a := fun b ⟨y, q⟩ => (List.mem_cons.mp q).elim (fun q => .inr (Prod.mk.inj q).2) fun q => .inl ⟨y, q⟩
  have keep : ∀ b o, s.heap.get? b = some o → Solid o → ¬ OO C ω b → (¬ OO C ((x, a) :: ω) b ∧ h'.get? b = some o) := fun b o eb so n =>
    ⟨fun q => (oo b q).elim n (fun q => by subst q; rw [ha] at eb; cases eb), k.solid (e _ _ eb) so⟩
  refine ⟨let ⟨_, _, e⟩ := S.same; ⟨h', tk, by rw [e]⟩, fun c o' e' n => k.base e' (S₁.base c o' e' n), fun c p => let ⟨y, q⟩ := S.ext c p; ⟨y, List.mem_cons_of_mem _ q⟩,
    fun c p => ?_, fun c p n => ?_, fun y z b p q => ?_, fun c p => k.some loc cel (S₁.outer c p), fun c p n => ?_, fun y c hl => ?_, k.loc loc, S.locnew,
    fun y hy => let ⟨a, v, h1, h2, h3⟩ := S₁.cell y hy; let ⟨u, h4⟩ := k.cells _ _ h2; ⟨a, u, h1, h4, h3⟩, S.inj, fun y b p => ⟨(S.en y b p).1, List.mem_cons_of_mem _ (S.en y b p).2.1, fun b' q => (List.mem_cons.mp q).elim (fun q => absurd ((Prod.mk.inj q).1 ▸ p) (hen b)) fun q => (S.en y b p).2.2 b' q⟩⟩
  · rcases ow c p with q | rfl
    · obtain ⟨o', e', so'⟩ := S₁.ins c q; exact ⟨o', k.solid e' so', so'⟩
    · exact ⟨o, k.solid ho so, so⟩
  · rcases ow c p with q | rfl
    · exact S.new c q n
    · exact hnb
  · rcases List.mem_cons.mp p with p | p <;> rcases List.mem_cons.mp q with q | q
    · rw [(Prod.mk.inj p).1, (Prod.mk.inj q).1]
    · exact absurd ⟨z, (Prod.mk.inj p).2 ▸ q⟩ hna
    · exact absurd ⟨y, (Prod.mk.inj q).2 ▸ p⟩ hna
    · exact S.apart _ _ _ p q
  · rcases ow c p with q | rfl
    · exact S.off c q n
    · exact fun q => hnO (.inl q)
  · rcases up.look hl with ⟨rfl, rfl⟩ | ⟨hy, hl'⟩
    · exact ⟨_, k.has, a, rfl, List.mem_cons_self .., hm.keep2 fun b o' eb so' => ⟨id, fun _ => k.solid eb so'⟩⟩
    · obtain ⟨u, h1, h2⟩ := S.names y c hl'
      refine ⟨u, k.others y u hy (h1.ext e), ?_⟩
      cases c with
      | pure p => exact Rep.keep keep h2
      | own m' =>
        obtain ⟨b, q1, q2, q3⟩ := h2
        refine ⟨b, q1, List.mem_cons_of_mem _ q2, q3.keep2 fun b' o' eb so' => ⟨fun n => (keep b' o' eb so' n).1, fun _ => k.solid (e _ _ eb) so'⟩⟩

/-- an expression that gives a new object, one's own -/
noncomputable def EvO (C : Cx) (σ : St) (e : Expr) (m : MO) (τ : St) : Prop :=
  ∀ ω s (Q : Value → Shared → Prop) (E : Value → Shared → Prop), Sat C σ ω s →
    (∀ a s₁ h₁ tk o, Sat C τ ω s₁ → KB (Own ω) s.heap s₁.heap → Ext s₁.heap h₁ → s₁.heap.get? a = none → h₁.get? a = some o → Solid o → (∀ x, MRep (OO C ((x, a) :: ω)) h₁ a m) → Q (.ref a) { s₁ with heap := h₁, toks := tk }) →
    wpT C.M C.A (eval e C.env) Q E s
theorem KB2.of_new {P : Addr → Prop} {P' : Addr → Prop} {h h' : Heap} {a : Addr} (k : ∀ b o, ¬ P b → h.get? b = some o → h'.get? b = some o) (hP : ∀ b, P' b → P b ∨ b = a) (ha : h.get? a = none) : KB2 P P' h h' := fun b o p e =>
  ⟨fun q => (hP b q).elim p (fun q => by subst q; rw [ha] at e; cases e), k b o p e⟩
theorem ex_own (G : GCx C) {x : Str} {p q : Pos} {e : Expr} {m : MO} {σ₁ : St} (he : EvO C σ e m σ₁) (hx : Stb C x) (up : Up x (.own m) σ₁ τ) (hen : ∀ b, ¬ C.en x b)
    (hw : swapsWith e (some (.Name x p)) q.line C.env = pure false := by rfl) : Ex C σ (.Assign [.Name x p] e q) .next τ := fun ω s Q E S h => by
  refine T_Assign (he ω s _ E S fun a s₁ h₁ tk o S₁ k₁ ext ha ho so hm => ?_) hw rfl rfl
  have S₂ := S₁.move (tk := tk) ext
  refine T_assign_Name (wpT_of (store_any G S₂ hx fun h' tk' k => ?_))
  refine h _ _ _ (S₁.own_new (tk := tk') ext ha ho so k up (hm x) hen) trivial ?_
  have k2 : KB2 (Md C ω) (Md C ((x, a) :: ω)) s₁.heap h' := by
    refine KB2.of_new (a := a) (fun b o p e => ?_) (fun b q => ?_) ha
    · exact ((k.md (ω := ω)) b o p (ext _ _ e)).2
    · rcases q with ⟨y, q⟩ | q
      · rcases List.mem_cons.mp q with q | q
        · exact .inr (Prod.mk.inj q).2
        · exact .inl (.inl ⟨y, q⟩)
      · exact .inl (.inr q)
  exact k₁.toMd.trans k2

theorem evo_nil : ∀ {p : Pos}, EvO C σ (.List [] p) (.list []) σ := fun {p} ω s Q E S h =>
  T_List (wpT_of (spliced_nil (wpT_of (wpAny_newList (h s.heap.objs.size s _ s.toks _ S (.refl _ _) (.push _ _) (get_size _) (Heap.get?_push_size _ rfl) (solid_seq rfl) fun x => .list [] [] ⟨_, Heap.get?_push_size _ rfl⟩ .nil)))))

/-- the owned object of x turned -/
theorem Sat.mutK (S : Sat C σ ω s) {x : Str} {a : Addr} {h' : Heap} {tk : Nat} {m : MO} (hx : (x, a) ∈ ω) (hv : Has C s.heap x (.ref a)) (hs : ∀ b o, b ≠ a → s.heap.get? b = some o → h'.get? b = some o) {o : Obj} (ho : h'.get? a = some o) (so : Solid o)
    (hm : MRep (OO C ω) h' a m) (up : Up x (.own m) σ τ) (hxe : ∃ m₀, Lk x σ (.own m₀)) : Sat C τ ω { s with heap := h', toks := tk } := by
  obtain ⟨oa, hoa, soa⟩ := S.ins a ⟨x, hx⟩
  have keep : ∀ b o, s.heap.get? b = some o → b ≠ a → h'.get? b = some o := fun b o e n => hs b o n e
  have kb : KB (Own ω) s.heap h' := fun b o n e => keep b o e fun q => n ⟨x, q ▸ hx⟩
  refine ⟨let ⟨_, _, e⟩ := S.same; ⟨h', tk, by rw [e]⟩, fun c o' e' n => keep _ _ (S.base c o' e' n) fun q => ?_, S.ext, fun c p => ?_, S.new, S.apart, fun c p => ?_, S.off, fun y c hl => ?_, ?_, S.locnew, fun y hy => ?_, S.inj, S.en⟩
  · subst q
    have := S.new c ⟨x, hx⟩ n
    rw [this] at e'; cases e'
  · by_cases q : c = a
    · subst q; exact ⟨o, ho, so⟩
    · obtain ⟨o', e', so'⟩ := S.ins c p; exact ⟨o', keep _ _ e' q, so'⟩
  · by_cases q : c = a
    · subst q; exact ⟨o, ho⟩
    · obtain ⟨o', e'⟩ := S.outer c p; exact ⟨o', keep _ _ e' q⟩
  · have hnOO : ∀ b, ¬ OO C ω b → b ≠ a := fun b n q => n (q ▸ .inr ⟨x, hx⟩)
    rcases up.look hl with ⟨rfl, rfl⟩ | ⟨hy, hl'⟩
    · exact ⟨_, Has.kb S kb hv, a, rfl, hx, hm⟩
    · obtain ⟨u, h1, h2⟩ := S.names y c hl'
      refine ⟨u, Has.kb S kb h1, ?_⟩
      cases c with
      | pure p => exact Rep.keep (fun b o' e so' n => ⟨n, keep _ _ e (hnOO b n)⟩) h2
      | own m' =>
        obtain ⟨b, q1, q2, q3⟩ := h2
        refine ⟨b, q1, q2, q3.keep2 fun b' o' e so' => ⟨id, fun n => keep _ _ e ?_⟩⟩
        rcases n with n | rfl
        · exact hnOO b' n
        · intro q; subst q; exact hy (S.apart _ _ _ q2 hx)
  · obtain ⟨m, o', es, ep, e', d, r⟩ := S.loc
    exact ⟨m, o', es, ep, keep _ _ e' (fun q => by subst q; rw [hoa] at e'; cases e'; exact soa.1 _ _ d), d, r⟩
  · obtain ⟨b, v, h1, ⟨o', e', d⟩, h3⟩ := S.cell y hy
    exact ⟨b, v, h1, ⟨o', keep _ _ e' (fun q => by subst q; rw [hoa] at e'; cases e'; exact soa.2 _ d), d⟩, h3⟩

theorem Sat.mut (S : Sat C σ ω s) {x : Str} {a : Addr} {h' : Heap} {tk : Nat} {m : MO} (hx : (x, a) ∈ ω) (hv : Has C s.heap x (.ref a)) (hs : Heap.SameBut a s.heap h') {o : Obj} (ho : h'.get? a = some o) (so : Solid o)
    (hm : MRep (OO C ω) h' a m) (up : Up x (.own m) σ τ) (hxe : ∃ m₀, Lk x σ (.own m₀)) : Sat C τ ω { s with heap := h', toks := tk } := S.mutK hx hv (fun b o n e => (hs.2 b n).trans e) ho so hm up hxe
theorem KB.mut {h h' : Heap} {x : Str} {a : Addr} (hx : (x, a) ∈ ω) (hs : Heap.SameBut a h h') : KB (Own ω) h h' := fun b o n e => (hs.2 b fun q => n ⟨x, q ▸ hx⟩).trans e

/-- reading the name of an owner -/
theorem name_own (G : GCx C) (S : Sat C σ ω s) {x : Str} {p : Pos} {m : MO} (hl : Lk x σ (.own m)) {Q : Value → Shared → Prop} {E : Value → Shared → Prop}
    (h : ∀ a, (x, a) ∈ ω → Has C s.heap x (.ref a) → MRep (OO C ω) s.heap a m → Q (.ref a) s) (hd : (x == ("__debug__" : Str)) = false := by decide) : wpT C.M C.A (eval (.Name x p) C.env) Q E s := by
  obtain ⟨v, h1, a, rfl, h2, h3⟩ := S.names x _ hl
  have q := h a h2 h1 h3
  rcases h1 with ⟨k, m, hn, hm⟩ | ⟨k, a', hc, hcell, _⟩
  · exact wpT_of <| wpAny_Name (wpAny_loadName_local G.kind k hn hm q) hd
  · rcases k with k | ⟨k, kn⟩
    · exact wpT_of <| wpAny_Name (wpAny_loadName_cell G.kind k hc hcell q) hd
    · exact wpT_of <| wpAny_Name (wpAny_loadName_free G.kind k hc hcell q kn) hd

/-- x.append(e) -/
theorem ex_append (G : GCx C) {x : Str} {p q r t : Pos} {e : Expr} {a : AV} {l : List AV} {σ₁ : St} (hl : Lk x σ (.own (.list l))) (he : EvE C σ e a σ₁) (hl₁ : Lk x σ₁ (.own (.list l))) (up : Up x (.own (.list (l ++ [a]))) σ₁ τ)
    (hz : l.length ≤ sizeLine) (hline : (q.endLine == r.line) = true := by rfl) (hs : ∀ env, starEach [e] env = [(false, eval e env)] := by intro _; rfl)
    (hi : interactive C.env = false := by rfl) (hd : (x == ("__debug__" : Str)) = false := by decide) :
    Ex C σ (.Expr (.Call (.Attribute (.Name x p) "append" q) [e] [] r) t) .next τ := fun ω s Q E S h => by
  refine T_Expr ?_ hi rfl
  refine T_method (id := "list.append") rfl hline (hs _) ?_
  refine name_own G S hl (fun a' hx hv hm => ?_) hd
  cases hm with | list vs _ hpl hr =>
  obtain ⟨n, hob⟩ := hpl
  refine ⟨wpT_of (Calls.getMethod_list_append hob rfl rfl ⟨rfl, rfl⟩), he ω s _ E S fun y s₁ S₁ r₁ k₁ => wpT_of ?_⟩
  obtain ⟨v', hv', a'', e'', hx', hm'⟩ := S₁.names x _ hl₁
  have := (hv.kb S k₁).fun hv'
  subst e''
  cases this
  cases hm' with | list us _ hpl' hr' =>
  refine wpAny_list_append_plain hpl' (fun h' hp' hs' => ?_) (by simpa [hr'.1] using hz)
  have hpush : us.toArray.push y = (us ++ [y]).toArray := by simp
  rw [hpush] at hp'
  have hn : ∀ b, ¬ OO C ω b → b ≠ a' := fun b n q => n (q ▸ .inr ⟨x, hx'⟩)
  have hk : ∀ b o, s₁.heap.get? b = some o → Solid o → ¬ OO C ω b → (¬ OO C ω b ∧ h'.get? b = some o) := fun b o e so n => ⟨n, (hs'.2 b (hn b n)).trans e⟩
  obtain ⟨n', hob'⟩ := id hp'
  refine ⟨fun a => by simp, h _ { s₁ with heap := h' } ω (S₁.mut (tk := s₁.toks) hx' hv' hs' hob' (solid_seq rfl) (.list _ _ hp' (RepAll.append (hr'.keep hk) (.cons (Rep.keep hk r₁) .nil))) up ⟨_, hl₁⟩) trivial ?_⟩
  exact (k₁.trans (KB.mut hx' hs')).toMd

/-- from now on a standing value -/
theorem exs_freeze {x : Str} {l : List AV} {ss : List Stmt} {r : Res} {σ₁ : St} (hl : Lk x σ (.own (.list l))) (up : Up x (.pure (.list l)) σ σ₁) (hx : ∀ b, ¬ C.ext b) (h : Exs C σ₁ ss r τ) : Exs C σ ss r τ := fun ω s Q E S hq => by
  obtain ⟨v, hv, a, rfl, hxa, hm⟩ := S.names x _ hl
  have hne : ∀ y b, (y, b) ∈ ω.filter (fun p => decide (p.2 ≠ a)) ↔ (y, b) ∈ ω ∧ b ≠ a := fun y b => by simp [List.mem_filter]
  have how : ∀ b, Own (ω.filter fun p => decide (p.2 ≠ a)) b ↔ Own ω b ∧ b ≠ a := fun b => ⟨fun ⟨y, q⟩ => let ⟨q1, q2⟩ := (hne y b).mp q; ⟨⟨y, q1⟩, q2⟩, fun ⟨⟨y, q1⟩, q2⟩ => ⟨y, (hne y b).mpr ⟨q1, q2⟩⟩⟩
  have hnO : ¬ C.O₀ a := S.off a ⟨x, hxa⟩ (hx a)
  have hoo : ∀ b, ¬ OO C ω b → ¬ OO C (ω.filter fun p => decide (p.2 ≠ a)) b := fun b n q => q.elim (fun q => n (.inl q)) fun q => n (.inr ((how b).mp q).1)
  have S' : Sat C σ₁ (ω.filter fun p => decide (p.2 ≠ a)) s := by
    refine ⟨S.same, S.base, fun b p => absurd p (hx b), fun b p => S.ins b ((how b).mp p).1, fun b p n => S.new b ((how b).mp p).1 n, fun y z b p q => S.apart y z b ((hne _ _).mp p).1 ((hne _ _).mp q).1, S.outer, fun b p n => S.off b ((how b).mp p).1 n, fun y c hl' => ?_, S.loc, S.locnew, S.cell, S.inj, fun y b p => absurd (S.en y b p).1 (hx b)⟩
    rcases up.look hl' with ⟨rfl, rfl⟩ | ⟨hy, hl''⟩
    · refine ⟨_, hv, ?_⟩
      cases hm with | list vs _ hpl hr =>
      exact Rep.list a vs l hpl (fun q => q.elim hnO fun q => ((how a).mp q).2 rfl) hr.1 (hr.keep fun b o e so n => ⟨hoo b n, e⟩).2
    · obtain ⟨u, h1, h2⟩ := S.names y c hl''
      refine ⟨u, h1, ?_⟩
      cases c with
      | pure p => exact Rep.keep (fun b o e so n => ⟨hoo b n, e⟩) h2
      | own m' =>
        obtain ⟨b, q1, q2, q3⟩ := h2
        exact ⟨b, q1, (hne _ _).mpr ⟨q2, fun q => by subst q; exact hy (S.apart _ _ _ q2 hxa)⟩, q3.keep2 fun b' o' e so' => ⟨hoo b', fun _ => e⟩⟩
  exact h _ s Q E S' fun f s' ω' S'' r' k => hq f s' ω' S'' r' fun b o p e => k b o (fun q => p (q.elim (fun q => .inl ((how b).mp q).1) .inr)) e
end
end Mine
end
section
open PySem PySem.W PyProof.Rows PySem.Calls
set_option Elab.async false
set_option linter.unusedVariables false
namespace Mine
section
variable {C : Cx} {σ τ : St} {ω ω' : List (Str × Addr)} {s : Shared}

/-- at a stands the text's def of that name -/
noncomputable def FnAt (C : Cx) (a : Addr) (d : DefRec) : Prop :=
  ∃ o pm code doc, o.data = .func (docDef d.name d.params d.body d.scope pm code doc) ∧
    (∀ h : Heap, (∀ b o, C.s₀.heap.get? b = some o → ¬ C.ext b → h.get? b = some o) → h.get? a = some o ∧ h.CodeRec code d.name) ∧ C.s₀.heap.get? a = some o ∧ ¬ C.ext a
noncomputable def Funs (C : Cx) (L : List DefRec) : Prop := ∀ d ∈ L, ∃ a, C.mg d.name = some (.ref a) ∧ FnAt C a d
theorem FnAt.callee {a : Addr} {d : DefRec} (h : FnAt C a d) : Callee C (.ref a) := by
  obtain ⟨o, pm, code, doc, h1, h2, h3, h4⟩ := h
  exact .inr (.inr ⟨a, o, _, rfl, h3, h1, h4⟩)

theorem bindL_out {kd : Str → Option NameKind} {x : Str} : ∀ (bs : List (Str × Value)) (m : Str → Option Value), x ∉ bs.map (·.1) → bindL kd bs m x = m x
  | [], m, _ => rfl
  | (n, v) :: r, m, h => by
    simp only [List.map_cons, List.mem_cons, not_or] at h
    unfold bindL
    rw [bindL_out r _ h.2]
    split
    · simp [h.1]
    · rfl
theorem bindC_out {kd : Str → Option NameKind} {x : Str} : ∀ (bs : List (Str × Value)) (m : Str → Option Value), x ∉ bs.map (·.1) → bindC kd bs m x = m x
  | [], m, _ => rfl
  | (n, v) :: r, m, h => by
    simp only [List.map_cons, List.mem_cons, not_or] at h
    unfold bindC
    rw [bindC_out r _ h.2]
    split
    · rfl
    · simp [h.1]
theorem bindL_in {kd : Str → Option NameKind} {x : Str} {v : Value} : ∀ (bs : List (Str × Value)) (m : Str → Option Value), (bs.map (·.1)).Nodup → (x, v) ∈ bs → kd x = some .local → bindL kd bs m x = some v
  | (n, u) :: r, m, hn, h, hk => by
    simp only [List.map_cons, List.nodup_cons] at hn
    unfold bindL
    rcases List.mem_cons.mp h with h | h
    · cases h
      rw [bindL_out r _ hn.1, if_pos hk]
      simp
    · exact bindL_in r _ hn.2 h hk
theorem bindC_in {kd : Str → Option NameKind} {x : Str} {v : Value} : ∀ (bs : List (Str × Value)) (m : Str → Option Value), (bs.map (·.1)).Nodup → (x, v) ∈ bs → kd x = some .cell → bindC kd bs m x = some v
  | (n, u) :: r, m, hn, h, hk => by
    simp only [List.map_cons, List.nodup_cons] at hn
    unfold bindC
    rcases List.mem_cons.mp h with h | h
    · cases h
      rw [bindC_out r _ hn.1, if_neg (by rw [hk]; intro e; cases e)]
      simp
    · exact bindC_in r _ hn.2 h hk

noncomputable def ownCells (sc : Scope) : List Str := (sc.names.filter fun p => p.2 == .cell).map (·.1)

/-- a context in which a called def's body runs -/
structure CalleeOf (C C' : Cx) (d : DefRec) : Prop where
  G : GCx C'
  kd : C'.kd = fun x => d.scope.names.lookup x
  mine : C'.mine = ownCells d.scope
  ext : ∀ b, ¬ C'.ext b
  en : ∀ x b, ¬ C'.en x b
  mg : C'.mg = C.mg
  scope : C'.env.scope = d.scope
  handled : C'.A.handled = C.A.handled
  depth : C'.A.depth = C.A.depth + 1
  units : C'.A.units = C.A.units + 3
  frames : ∀ l, C.A.frames = some l → C'.A.frames = some (C'.env :: l)
  frame : C'.env.frame = some C'.env.locals
  funs : ∀ L, Funs C L → Funs C' L

noncomputable def calleeCx (C : Cx) (s : Shared) (O : Addr → Prop) (a : Addr) (fd : FuncData) : Cx :=
  { prog := C.prog, w := C.w, env := callEnvC fd s.heap.objs.size a, A := C.A.deeper (callEnvC fd s.heap.objs.size a), s₀ := s, mg := C.mg, mb := C.mb, O₀ := O, ext := fun _ => False, en := fun _ _ => False, mine := ownCells fd.scope, kd := fun x => fd.scope.names.lookup x }

theorem Lk.zip {x : Str} {b : Bind} : ∀ {ps : List Str} {as : List AV}, Lk x (ps.zip (as.map .pure)) b → ∃ (i : Nat) (a : AV), b = .pure a ∧ ps[i]? = some x ∧ as[i]? = some a
  | p :: ps, a :: as, h => by
    cases h with
    | here => exact ⟨0, a, rfl, by simp, by simp⟩
    | there _ h => obtain ⟨i, a', h1, h2, h3⟩ := Lk.zip h; exact ⟨i + 1, a', h1, by simpa using h2, by simpa using h3⟩
  | [], _, h => by cases h
  | _ :: _, [], h => by cases h

theorem fn_user {a : Addr} {d : DefRec} {args : List AV} {r : AV} (G : GCx C) (hf : FnAt C a d) (hdep : C.A.depth < recursionLimit)
    (hbody : ∀ C', CalleeOf C C' d → ∃ τ', Exs C' ((d.params.args.map (·.arg)).zip (args.map .pure)) d.body (.ret r) τ')
    (hbind : ∀ (pm code doc : Value) (vs : List Value), vs.length = args.length → bindArgs (docDef d.name d.params d.body d.scope pm code doc) ⟨vs, []⟩ = pure ((d.params.args.map (·.arg)).zip vs))
    (hlen : (d.params.args.map (·.arg)).length = args.length := by rfl)
    (hnod : (d.params.args.map (·.arg)).Nodup := by decide)
    (hkinds : ((d.params.args.map (·.arg)).all fun x => d.scope.names.lookup x == some .local || d.scope.names.lookup x == some .cell) = true := by decide)
    (hmine : ((ownCells d.scope).all fun x => d.scope.names.lookup x == some .cell) = true := by decide)
    (hco : d.scope.isCoroutine = false := by rfl) (hgen : d.scope.isGenerator = false := by rfl) (hk : d.scope.kind = .function := by rfl) : Fn C (.ref a) args r := by
  intro O s vs Q E hb hO rp h
  obtain ⟨o, pm, code, doc, h1, h2, h3, h4⟩ := hf
  obtain ⟨ho, hcd⟩ := h2 s.heap hb
  have hlim := G.keepLim hb
  refine wpT_call (codeT_call_fn hdep ho h1 hco hgen rfl hcd ?_)
  rw [hbind pm code doc vs rp.1]
  refine wpAny_pure (wpAny_newFunctionEnv_cells hk (fun x hx => ?_) fun env he s' X => ?_)
  · have hm : x.1 ∈ d.params.args.map (·.arg) := (List.of_mem_zip hx).1
    have := List.all_eq_true.mp hkinds x.1 hm
    rcases Bool.or_eq_true_iff.mp this with q | q
    · exact .inl (beq_iff_eq.mp q)
    · exact .inr ⟨beq_iff_eq.mp q, cellsFrom_some _ _ _ (.inl (beq_iff_eq.mp q))⟩
  · refine ⟨hlim.keeps X.toInCall.keep, ?_⟩
    have he' : env = callEnvC (docDef d.name d.params d.body d.scope pm code doc) s.heap.objs.size a := he
    subst he'
    clear he
    let C' := calleeCx C s O a (docDef d.name d.params d.body d.scope pm code doc)
    have hC : CalleeOf C C' d := {
      G := ⟨G.keepNs hb G.g, G.keepNs hb G.b, hlim, G.builtins, hk, fun x => rfl, rfl, rfl, fun b hb' => hb'.elim⟩
      kd := rfl
      mine := rfl
      ext := fun b hb' => hb'
      en := fun x b hb' => hb'
      mg := rfl
      scope := rfl
      handled := rfl
      depth := rfl
      units := rfl
      frames := fun l e => Around.frames_deeper e
      frame := rfl
      funs := fun L hL d' hd' => by
        obtain ⟨a', e1, o', pm', code', doc', q1, q2, q3, q4⟩ := hL d' hd'
        have q5 := q2 s.heap hb
        exact ⟨a', e1, o', pm', code', doc', q1, fun h' hb' => q2 h' fun b o e n => hb' b o (hb b o e n) id, q5.1, id⟩ }
    obtain ⟨τ', hE⟩ := hbody C' hC
    have hnodz : (((d.params.args.map (·.arg)).zip vs).map (·.1)).Nodup := by rw [List.map_fst_zip (by rw [hlen, rp.1]; exact Nat.le_refl _)]; exact hnod
    have hcl : ∀ n c, C'.env.cells.lookup n = some c → s.heap.get? c = none := fun n c e => by
      have := X.above n c (mem_of_lookup e)
      cases q : s.heap.get? c with
      | none => rfl
      | some o => exact absurd (Heap.lt_size q) (Nat.not_lt.mpr (Nat.le_of_lt this))
    have S : Sat C' ((d.params.args.map (·.arg)).zip (args.map .pure)) [] s' := by
      obtain ⟨hh, tk, e⟩ := X.toInCall.same
      refine ⟨⟨hh, tk, e⟩, fun b o e' _ => X.toInCall.keep b o e', fun b q => q.elim, fun b ⟨y, q⟩ => (nomatch q), fun b ⟨y, q⟩ => (nomatch q), fun y z b q => (nomatch q), fun b q => ?_, fun b ⟨y, q⟩ => (nomatch q), fun y c hl => ?_, ⟨_, X.toInCall.ns⟩, get_size _, fun y hy => ?_, fun y hy z hz e => ?_, fun y b p => p.elim⟩
      · obtain ⟨o', e'⟩ := hO b q; exact ⟨o', X.toInCall.keep _ _ e'⟩
      · obtain ⟨i, a', rfl, e1, e2⟩ := Lk.zip hl
        obtain ⟨v, e3, e4⟩ := rp.get e2
        have hz : (y, v) ∈ (d.params.args.map (·.arg)).zip vs := List.mem_of_getElem? (i := i) (by rw [List.getElem?_zip_eq_some]; exact ⟨e1, e3⟩)
        have hm : y ∈ d.params.args.map (·.arg) := (List.of_mem_zip hz).1
        have hkk := List.all_eq_true.mp hkinds y hm
        refine ⟨v, ?_, (e4.ext X.toInCall.keep).keep fun b o e so n => ⟨fun q => q.elim n fun ⟨_, q⟩ => (nomatch q), e⟩⟩
        rcases Bool.or_eq_true_iff.mp hkk with q | q
        · refine .inl ⟨beq_iff_eq.mp q, _, X.toInCall.ns, bindL_in _ _ hnodz hz (beq_iff_eq.mp q)⟩
        · obtain ⟨c, hc⟩ := Option.isSome_iff_exists.mp (cellsFrom_some (x := y) d.scope.names (s.heap.objs.size + 1) [] (.inl (beq_iff_eq.mp q)))
          refine .inr ⟨.inl (beq_iff_eq.mp q), c, hc, ?_, .inl ?_⟩
          · have := X.cell y c hc
            rw [bindC_in _ _ hnodz hz (beq_iff_eq.mp q)] at this
            exact this
          · exact List.mem_map.mpr ⟨(y, .cell), List.mem_filter.mpr ⟨mem_of_lookup (beq_iff_eq.mp q), rfl⟩, rfl⟩
      · have hq := beq_iff_eq.mp (List.all_eq_true.mp hmine y hy)
        obtain ⟨c, hc⟩ := Option.isSome_iff_exists.mp (cellsFrom_some (x := y) d.scope.names (s.heap.objs.size + 1) [] (.inl hq))
        exact ⟨c, _, hc, X.cell y c hc, hcl y c hc⟩
      · obtain ⟨c, hc⟩ := Option.isSome_iff_exists.mp (cellsFrom_some (x := y) d.scope.names (s.heap.objs.size + 1) [] (.inl (beq_iff_eq.mp (List.all_eq_true.mp hmine y hy))))
        have hc' : C'.env.cells.lookup y = some c := hc
        have m1 := mem_of_lookup hc'
        have m2 := mem_of_lookup (e ▸ hc')
        by_cases hyz : y = z
        · exact hyz
        · exfalso
          obtain ⟨i, hi, e1⟩ := List.getElem_of_mem m1
          obtain ⟨j, hj, e2⟩ := List.getElem_of_mem m2
          have hij : i ≠ j := fun q => by subst q; rw [e1] at e2; exact hyz (Prod.mk.inj e2).1
          have ap := List.pairwise_iff_getElem.mp X.apart
          rcases Nat.lt_or_gt_of_ne hij with q | q
          · exact ap i j hi hj q ((congrArg Prod.snd e1).trans (congrArg Prod.snd e2).symm)
          · exact ap j i hj hi q ((congrArg Prod.snd e2).trans (congrArg Prod.snd e1).symm)
    refine codeT_func (hE [] s' _ _ S fun f s'' ω'' S'' r'' k'' => ?_)
    cases f with
    | ret v =>
      obtain ⟨hh, tk, e⟩ := S''.same
      have e' : s'' = { s with heap := hh, toks := tk } := e
      subst e'
      exact h v hh tk (fun b o e => S''.base b o e id) (r''.keep fun b o e so n => ⟨fun q => n (.inl q), e⟩)
    | _ => exact r''.elim
end
end Mine
end
section
open PySem PySem.W PyProof.Rows PySem.Calls
set_option Elab.async false
set_option linter.unusedVariables false
namespace Mine
section
variable {C : Cx} {σ τ : St} {ω ω' : List (Str × Addr)} {s : Shared}

/-- an iterator's turn: the objects of wr alone change -/
theorem Sat.turn (S : Sat C σ ω s) {h' : Heap} {tk : Nat} {wr : List Addr} (hk : ∀ b o, b ∉ wr → s.heap.get? b = some o → h'.get? b = some o)
    (hw : ∀ b ∈ wr, ¬ Own ω b ∧ ¬ C.O₀ b ∧ C.s₀.heap.get? b = none ∧ ∃ o, s.heap.get? b = some o ∧ Solid o ∧ ¬ Val o) : Sat C σ ω { s with heap := h', toks := tk } := by
  have own : ∀ b o, Own ω b → s.heap.get? b = some o → h'.get? b = some o := fun b o p e => hk b o (fun q => (hw b q).1 p) e
  have out : ∀ b o, C.O₀ b → s.heap.get? b = some o → h'.get? b = some o := fun b o p e => hk b o (fun q => (hw b q).2.1 p) e
  have insol : ∀ b o, s.heap.get? b = some o → ¬ Solid o → h'.get? b = some o := fun b o e n => hk b o (fun q => by
    obtain ⟨_, _, _, o', e', so, _⟩ := hw b q
    rw [e] at e'; cases e'; exact n so) e
  have val : ∀ b o, s.heap.get? b = some o → Val o → h'.get? b = some o := fun b o e n => hk b o (fun q => by
    obtain ⟨_, _, _, o', e', _, nv⟩ := hw b q
    rw [e] at e'; cases e'; exact nv n) e
  have ns : ∀ {a m}, s.heap.Ns a m → h'.Ns a m := fun {a m} ⟨o, es, ep, e, d, r⟩ => ⟨o, es, ep, insol _ _ e (fun q => q.1 _ _ d), d, r⟩
  have cl : ∀ {a v}, s.heap.IsCell a v → h'.IsCell a v := fun {a v} ⟨o, e, d⟩ => ⟨o, insol _ _ e (fun q => q.2 _ d), d⟩
  refine ⟨let ⟨_, _, e⟩ := S.same; ⟨h', tk, by rw [e]⟩, fun b o e n => hk b o (fun q => by rw [(hw b q).2.2.1] at e; cases e) (S.base b o e n), S.ext,
    fun b p => let ⟨o, e, so⟩ := S.ins b p; ⟨o, own b o p e, so⟩, S.new, S.apart, fun b p => let ⟨o, e⟩ := S.outer b p; ⟨o, out b o p e⟩, S.off, fun y c hl => ?_, let ⟨m, n⟩ := S.loc; ⟨m, ns n⟩, S.locnew,
    fun y hy => let ⟨a, v, h1, h2, h3⟩ := S.cell y hy; ⟨a, v, h1, cl h2, h3⟩, S.inj, S.en⟩
  obtain ⟨v, h1, h2⟩ := S.names y c hl
  refine ⟨v, ?_, ?_⟩
  · rcases h1 with ⟨k, m, n, e⟩ | ⟨k, a, hc, n, q⟩
    · exact .inl ⟨k, m, ns n, e⟩
    · exact .inr ⟨k, a, hc, cl n, q⟩
  · cases c with
    | pure p => exact Rep.keepV (fun b o e so n => ⟨n, val b o e so⟩) h2
    | own m =>
      obtain ⟨a, q1, q2, q3⟩ := h2
      exact ⟨a, q1, q2, q3.keepV (fun o e _ => own a o ⟨y, q2⟩ e) fun b o e so n => ⟨n, val b o e so⟩⟩

/-- the items that a for loop takes -/
inductive Items : AV → List AV → Prop where
  | list (l : List AV) : Items (.list l) l
  | tuple (l : List AV) : Items (.tuple l) l
  | range (a b c : Int) (n : Nat) (h : Builtin.Range.rangeSize a b c = n) : Items (.range a b c) ((List.range n).map fun (i : Nat) => .int (a + (i : Int) * c))

noncomputable def FpOk (O : Addr → Prop) (s : Shared) (h : Heap) (fp wr : List Addr) : Prop :=
  (∀ b ∈ fp, ∃ o, h.get? b = some o ∧ Solid o ∧ ¬ O b) ∧ (∀ b ∈ wr, s.heap.get? b = none) ∧ ∀ b ∈ wr, b ∈ fp

theorem iter_walks {a : AV} {xs : List AV} (hi : Items a xs) (hh : C.A.handled = none) {O : Addr → Prop} {va : Value} (al : Al O s.heap) (r : Rep O s.heap va a) {Q : Value → Shared → Prop} {E : Value → Shared → Prop}
    (h : ∀ I fp wr P St h', Walks C.prog C.w C.A I fp wr xs.length P St → St 0 h' → Ext s.heap h' → FpOk O s h' fp wr → (∀ i v x, P i v → xs[i]? = some x → Rep O s.heap v x) → (∀ i h₂, St i h₂ → ∀ b ∈ wr, ∃ o, h₂.get? b = some o ∧ Solid o ∧ ¬ Val o) → Q (.ref I) { s with heap := h' }) :
    wpAny C.M C.A (pyIter va) Q E s := by
  cases hi with
  | list =>
    cases r with | list r vs l hl ho hn hi =>
    have hlt : r < s.heap.objs.size := by obtain ⟨n, e⟩ := hl; exact Heap.lt_size e
    have W := Walks.list (prog := C.prog) (w := C.w) hh s.heap.objs.size r (Nat.ne_of_lt hlt) vs.toArray
    rw [show vs.toArray.size = xs.length by simp [hn]] at W
    refine wpAny_pyIter_list hl.isList (h s.heap.objs.size [s.heap.objs.size, r] [s.heap.objs.size] _ (fun i h => h.IsListIter s.heap.objs.size r i ∧ h.IsList r vs.toArray) _ W ⟨⟨_, Heap.get?_push_size _ rfl, rfl, rfl⟩, ?_⟩ (.push _ _) ⟨fun b hb => ?_, fun b hb => ?_, fun b hb => ?_⟩ (fun i v x e1 e2 => hi i v x (by simpa using e1) e2) fun i h₂ st b hb => ?_)
    · obtain ⟨o, e, q⟩ := hl.isList
      exact ⟨o, Heap.get?_push_of_some _ e, q⟩
    · rcases List.mem_cons.mp hb with rfl | hb
      · exact ⟨_, Heap.get?_push_size _ rfl, solid_fields rfl, al.fresh⟩
      · rw [List.mem_singleton.mp hb]
        obtain ⟨n, e⟩ := hl
        exact ⟨_, Heap.get?_push_of_some _ e, solid_seq rfl, ho⟩
    · rw [List.mem_singleton.mp hb]
      exact get_size _
    · rw [List.mem_singleton.mp hb]; exact List.mem_cons_self ..
    · rw [List.mem_singleton.mp hb]
      obtain ⟨o, e, hc, hd⟩ := st.1
      exact ⟨o, e, solid_fields hd, fun q => by rcases q.2 with q | q | q <;> rw [hc] at q <;> exact absurd q (by simp)⟩
  | tuple =>
    cases r with | tuple r vs l hl ho hn hi =>
    obtain ⟨o, e, hc, n, hd⟩ := id hl
    have hlt : r < s.heap.objs.size := Heap.lt_size e
    have W := Walks.tuple (prog := C.prog) (w := C.w) hh s.heap.objs.size r (Nat.ne_of_lt hlt) vs.toArray
    rw [show vs.toArray.size = xs.length by simp [hn]] at W
    refine wpAny_pyIter_tuple hl (h s.heap.objs.size [s.heap.objs.size, r] [s.heap.objs.size] _ (fun i h => h.IsTupleIter s.heap.objs.size r i ∧ h.IsTuple r vs.toArray) _ W ⟨⟨_, Heap.get?_push_size _ rfl, rfl, rfl⟩, ⟨o, Heap.get?_push_of_some _ e, hc, n, hd⟩⟩ (.push _ _) ⟨fun b hb => ?_, fun b hb => ?_, fun b hb => ?_⟩ (fun i v x e1 e2 => hi i v x (by simpa using e1) e2) fun i h₂ st b hb => ?_)
    · rcases List.mem_cons.mp hb with rfl | hb
      · exact ⟨_, Heap.get?_push_size _ rfl, solid_fields rfl, al.fresh⟩
      · rw [List.mem_singleton.mp hb]
        exact ⟨_, Heap.get?_push_of_some _ e, solid_seq hd, ho⟩
    · rw [List.mem_singleton.mp hb]
      exact get_size _
    · rw [List.mem_singleton.mp hb]; exact List.mem_cons_self ..
    · rw [List.mem_singleton.mp hb]
      obtain ⟨o, e, hc, hd⟩ := st.1
      exact ⟨o, e, solid_fields hd, fun q => by rcases q.2 with q | q | q <;> rw [hc] at q <;> exact absurd q (by simp)⟩
  | range a b c n hn =>
    cases r with | range r _ _ _ t u v hr hs ho =>
    refine wpAny_pyIter_range hr hs (h s.heap.objs.size [s.heap.objs.size] [s.heap.objs.size] (fun i v => ∃ t, v = .int (a + (i : Nat) * c) t) (fun i h => IsRangeIter h s.heap.objs.size (a + (i : Nat) * c) ((n : Int) - (i : Nat)) c) _ (by simpa using Walks.range hh s.heap.objs.size a c n) ?_ (.push _ _) ⟨fun b hb => ?_, fun b hb => ?_, fun b hb => hb⟩ (fun i v x e1 e2 => ?_) fun i h₂ st b hb => ?_)
    · rw [hn]
      show (s.heap.push _).get? s.heap.objs.size = _
      rw [Heap.get?_push_size _ rfl]
      simp
    · rw [List.mem_singleton.mp hb]
      exact ⟨_, Heap.get?_push_size _ rfl, solid_fields rfl, al.fresh⟩
    · rw [List.mem_singleton.mp hb]
      exact get_size _
    · obtain ⟨t, rfl⟩ := e1
      have hi : i < n := by
        have := (List.getElem?_eq_some_iff.mp e2).1
        simpa using this
      have : x = .int (a + i * c) := by
        rw [List.getElem?_map, List.getElem?_range hi] at e2
        exact (Option.some.inj e2).symm
      subst this
      exact .int _ _
    · rw [List.mem_singleton.mp hb]
      exact ⟨_, st, solid_fields rfl, fun q => by rcases q.2 with q | q | q <;> exact absurd q (by simp)⟩

/-- a for loop over known items, by its states -/
theorem ex_for (G : GCx C) {x : Str} {px p : Pos} {iter : Expr} {body : List Stmt} {a : AV} {xs : List AV} {σ₁ : St} (inv : Nat → St) (he : EvE C σ iter a σ₁) (hi : Items a xs) (hh : C.A.handled = none) (hx : Stb C x)
    (h0 : Wk σ₁ (inv 0)) (step : ∀ i v, xs[i]? = some v → ∃ σ' τ', Up x (.pure v) (inv i) σ' ∧ Exs C σ' body .next τ' ∧ Wk τ' (inv (i + 1))) (hend : Wk (inv xs.length) τ)
    (hs : ∀ env x, foldedSetIterable iter env x = pure x := by intro _ _; rfl) : Ex C σ (.For (.Name x px) iter body [] p) .next τ := fun ω s Q E S h => by
  refine T_For (he ω s _ E S fun va s₁ S₁ r₁ k₁ => wpT_of (iter_walks hi hh S₁.al r₁ fun I fp wr P St h₁ W st₀ ext hfp hP alive => ?_)) (hs _)
  have S₂ : Sat C (inv 0) ω { s₁ with heap := h₁ } := (S₁.move (tk := s₁.toks) ext).wk h0
  refine codeT_for (fun m s' => ∃ i ω', i ≤ xs.length ∧ m = xs.length - i ∧ Sat C (inv i) ω' s' ∧ St i s'.heap ∧ KB2 (Md C ω) (Md C ω') s₁.heap s'.heap ∧ (∀ b ∈ fp, ¬ Md C ω' b ∧ ¬ C.O₀ b ∧ ∃ o, s'.heap.get? b = some o) ∧
    (∀ b ∈ wr, C.s₀.heap.get? b = none ∧ s₁.heap.get? b = none) ∧ (∀ v a, Rep (OO C ω) s₁.heap v a → Rep (OO C ω') s'.heap v a)) ?_ xs.length ?_
  · rintro m s' ⟨i, ω', hile, rfl, Si, sti, kbi, hfi, hbi, repi⟩
    have hwr : ∀ b ∈ wr, ¬ Own ω' b ∧ ¬ C.O₀ b ∧ C.s₀.heap.get? b = none ∧ ∃ o, s'.heap.get? b = some o ∧ Solid o ∧ ¬ Val o := fun b hb =>
      ⟨fun q => (hfi b (hfp.2.2 b hb)).1 (.inl q), (hfi b (hfp.2.2 b hb)).2.1, (hbi b hb).1, alive i _ sti b hb⟩
    refine wpT_of ?_
    by_cases hlt : i < xs.length
    · refine W.item i s' _ _ hlt sti fun v h₂ tk₂ hPv st₂ hk₂ => ?_
      have St2 : Sat C (inv i) ω' { s' with heap := h₂, toks := tk₂ } := Si.turn hk₂ hwr
      obtain ⟨σ', τ', up, hb, hwk⟩ := step i xs[i] (List.getElem?_eq_getElem hlt)
      have val2 : ∀ b o, s'.heap.get? b = some o → Val o → h₂.get? b = some o := fun b o e so => hk₂ b o (fun q => by
        obtain ⟨_, _, _, o', e', _, nv⟩ := hwr b q
        rw [e] at e'; cases e'; exact nv so) e
      have rv : Rep (OO C ω') h₂ v xs[i] := (repi _ _ (hP i v _ hPv (List.getElem?_eq_getElem hlt))).keepV fun b o e so n => ⟨n, val2 b o e so⟩
      refine T_assign_Name (wpT_of (store_any G St2 hx fun h₃ tk₃ k₃ => ?_))
      have S3 : Sat C σ' ω' { s' with heap := h₃, toks := tk₃ } := St2.stored_pure k₃ up rv
      refine hb ω' _ _ _ S3 fun f s₄ ω₄ S₄ r₄ k₄ => ?_
      cases f with
      | next =>
        have k34 : ∀ b o, ¬ Md C ω' b → h₂.get? b = some o → ¬ Md C ω₄ b ∧ s₄.heap.get? b = some o := fun b o n e => k₄ b o n ((k₃.md (ω := ω')) b o n e).2
        have alive2 : ∀ b ∈ fp, ∃ o, h₂.get? b = some o := fun b hb => by
          by_cases q : b ∈ wr
          · obtain ⟨o, e, _⟩ := alive _ _ st₂ b q; exact ⟨o, e⟩
          · obtain ⟨_, _, o, e⟩ := hfi b hb; exact ⟨o, hk₂ b o q e⟩
        refine ⟨xs.length - (i + 1), by omega, i + 1, ω₄, hlt, rfl, S₄.wk hwk, W.frame _ _ _ st₂ fun b hb o e => (k34 b o (hfi b hb).1 e).2, fun b o n e => ?_, fun b hb => ?_, hbi, fun u a' ru => ?_⟩
        · obtain ⟨n', e'⟩ := kbi b o n e
          exact k34 b o n' (hk₂ b o (fun q => by rw [(hbi b q).2] at e; cases e) e')
        · obtain ⟨o, e⟩ := alive2 b hb
          exact ⟨(k34 b o (hfi b hb).1 e).1, (hfi b hb).2.1, o, (k34 b o (hfi b hb).1 e).2⟩
        · refine (repi u a' ru).keepV fun b o e so n => ?_
          have hnm : ¬ Md C ω' b := by
            rintro (q | q | ⟨y, hy, q⟩)
            · exact n (.inr q)
            · obtain ⟨m', n'⟩ := Si.loc; rw [← q] at n'; exact not_solid_ns n' e so.1
            · obtain ⟨a2, v2, q1, q2, _⟩ := Si.cell y hy; rw [q] at q1; cases q1; exact not_solid_cell q2 e so.1
          have := k34 b o hnm (val2 b o e so)
          exact ⟨fun q => q.elim (fun q => n (.inl q)) fun q => this.1 (.inl q), this.2⟩
      | _ => exact r₄.elim
    · have hin : i = xs.length := by omega
      subst hin
      refine W.done s' _ _ sti fun h₂ tk₂ hk₂ => ?_
      refine wpT_of (wpAny_execs_nil (h _ _ ω' ((Si.turn hk₂ hwr).wk hend) trivial ?_))
      exact k₁.toMd.trans fun b o n e => let ⟨n', e'⟩ := kbi b o n e; ⟨n', hk₂ b o (fun q => by rw [(hbi b q).2] at e; cases e) e'⟩
  · have hnew : ∀ b ∈ wr, C.s₀.heap.get? b = none := fun b hb => by
      have hb1 := hfp.2.1 b hb
      cases q : C.s₀.heap.get? b with
      | none => rfl
      | some o =>
        by_cases hxx : C.ext b
        · obtain ⟨o', e', _⟩ := S₁.ins b (S₁.ext b hxx); rw [hb1] at e'; cases e'
        · have := S₁.base _ _ q hxx; rw [hb1] at this; cases this
    refine ⟨0, ω, Nat.zero_le _, rfl, S₂, st₀, fun b o n e => ⟨n, ext _ _ e⟩, fun b hb => ?_, fun b hb => ⟨hnew b hb, hfp.2.1 b hb⟩, fun v a r => r.ext ext⟩
    obtain ⟨o, e, so, n⟩ := hfp.1 b hb
    refine ⟨?_, fun q => n (.inl q), o, e⟩
    rintro (q | q | ⟨y, hy, q⟩)
    · exact n (.inr q)
    · obtain ⟨m', n'⟩ := S₂.loc; rw [← q] at n'; exact not_solid_ns n' e so
    · obtain ⟨a2, v2, q1, q2, _⟩ := S₂.cell y hy; rw [q] at q1; cases q1; exact not_solid_cell q2 e so

/-- a while loop by its states -/
theorem ex_while {test : Expr} {body : List Stmt} {p : Pos} (inv : Nat → St) (n : Nat) (h0 : Wk σ (inv 0))
    (step : ∀ i, i < n → ∃ σ' τ', EvT C (inv i) test true σ' ∧ Exs C σ' body .next τ' ∧ Wk τ' (inv (i + 1))) (hend : EvT C (inv n) test false τ) : Ex C σ (.While test body [] p) .next τ := fun ω s Q E S h => by
  refine T_While (codeT_while (fun m s' => ∃ i ω', i ≤ n ∧ m = n - i ∧ Sat C (inv i) ω' s' ∧ KB2 (Md C ω) (Md C ω') s.heap s'.heap) ?_ n ⟨0, ω, Nat.zero_le _, rfl, S.wk h0, .refl _ _⟩)
  rintro m s' ⟨i, ω', hile, rfl, Si, ki⟩
  by_cases hlt : i < n
  · obtain ⟨σ', τ', ht, hb, hw⟩ := step i hlt
    refine ht ω' s' _ _ Si fun s₂ S₂ k₂ => ?_
    simp only [if_true]
    refine hb ω' s₂ _ _ S₂ fun f s₃ ω₃ S₃ r₃ k₃ => ?_
    cases f with
    | next => exact ⟨n - (i + 1), by omega, i + 1, ω₃, hlt, rfl, S₃.wk hw, ki.trans (k₂.toMd.trans k₃)⟩
    | _ => exact r₃.elim
  · have : i = n := by omega
    subst this
    refine hend ω' s' _ _ Si fun s₂ S₂ k₂ => ?_
    simp only [Bool.false_eq_true, if_false]
    exact wpT_of (wpAny_execs_nil (h _ s₂ ω' S₂ trivial (ki.trans k₂.toMd)))
end
end Mine
end
section
open PySem PySem.W PyProof.Rows PySem.Calls
set_option Elab.async false
set_option linter.unusedVariables false
namespace Mine

section
variable {M : Model} {A : Around} {E : Value → Shared → Prop} {s : Shared} {env : Env}

theorem closure_ok (scope : Scope) (env : Env) (h : ∀ p ∈ scope.names, p.2 = .free → ∃ a, env.cells.lookup p.1 = some a) :
    ∃ cl, closureFor scope env = pure cl ∧ (∀ p ∈ scope.names, p.2 = .free → cl.lookup p.1 = env.cells.lookup p.1) ∧ ∀ p ∈ cl, ∃ k ∈ scope.names, k.1 = p.1 ∧ k.2 = .free := by
  have key : ∀ (names : List (Str × NameKind)) (acc : List (Str × Addr)), (∀ p ∈ names, p.2 = .free → ∃ a, env.cells.lookup p.1 = some a) → (∀ p ∈ acc, env.cells.lookup p.1 = some p.2) →
      ∃ cl, (forIn names acc fun x cs => (if x.2 == .free then (do let a ← cellOf env x.1; pure (ForInStep.yield ((x.1, a) :: cs))) else pure (ForInStep.yield cs) : Sem (ForInStep (List (Str × Addr))))) = pure cl ∧
        (∀ p ∈ cl, env.cells.lookup p.1 = some p.2) ∧ (∀ p ∈ acc, p ∈ cl) ∧ (∀ p ∈ names, p.2 = .free → ∃ a, (p.1, a) ∈ cl) ∧ ∀ p ∈ cl, p ∈ acc ∨ ∃ k ∈ names, k.1 = p.1 ∧ k.2 = .free := by
    intro names
    induction names with
    | nil => intro acc _ ha; exact ⟨acc, by rw [List.forIn_nil], ha, fun _ p => p, fun _ p => (nomatch p), fun _ p => .inl p⟩
    | cons x r ih =>
      intro acc hn ha
      rw [List.forIn_cons]
      by_cases hk : x.2 = .free
      · obtain ⟨a, e⟩ := hn x (List.mem_cons_self ..) hk
        obtain ⟨cl, h1, h2, h3, h4, h5⟩ := ih ((x.1, a) :: acc) (fun p hp => hn p (List.mem_cons_of_mem _ hp)) (fun p hp => by
          rcases List.mem_cons.mp hp with rfl | hp
          · exact e
          · exact ha p hp)
        refine ⟨cl, ?_, h2, fun p hp => h3 p (List.mem_cons_of_mem _ hp), fun p hp hf => ?_, fun p hp => ?_⟩
        · have : (x.2 == NameKind.free) = true := by rw [hk]; rfl
          simp only [this, if_true, cellOf, e]
          exact h1
        · rcases List.mem_cons.mp hp with rfl | hp
          · exact ⟨a, h3 _ (List.mem_cons_self ..)⟩
          · exact h4 p hp hf
        · rcases h5 p hp with q | ⟨k, q1, q2⟩
          · rcases List.mem_cons.mp q with rfl | q
            · exact .inr ⟨x, List.mem_cons_self .., rfl, hk⟩
            · exact .inl q
          · exact .inr ⟨k, List.mem_cons_of_mem _ q1, q2⟩
      · obtain ⟨cl, h1, h2, h3, h4, h5⟩ := ih acc (fun p hp => hn p (List.mem_cons_of_mem _ hp)) ha
        refine ⟨cl, ?_, h2, h3, fun p hp hf => ?_, fun p hp => ?_⟩
        · have : (x.2 == NameKind.free) = false := by simpa using hk
          simp only [this, Bool.false_eq_true, if_false]
          exact h1
        · rcases List.mem_cons.mp hp with rfl | hp
          · exact absurd hf hk
          · exact h4 p hp hf
        · exact (h5 p hp).imp id fun ⟨k, q1, q2⟩ => ⟨k, List.mem_cons_of_mem _ q1, q2⟩
  obtain ⟨cl, h1, h2, _, h4, h5⟩ := key scope.names [] h (fun _ p => (nomatch p))
  refine ⟨cl, ?_, fun p hp hf => ?_, fun p hp => (h5 p hp).elim (fun q => (nomatch q)) id⟩
  · show (forIn scope.names ([] : List (Str × Addr)) _ >>= fun cs => pure cs) = _
    have : (forIn scope.names ([] : List (Str × Addr)) fun x cs => (if x.2 == .free then (do let a ← cellOf env x.1; pure (ForInStep.yield ((x.1, a) :: cs))) else pure (ForInStep.yield cs) : Sem (ForInStep (List (Str × Addr))))) = pure cl := h1
    exact (congrArg (· >>= fun cs => pure cs) this)
  · obtain ⟨a, ha⟩ := h4 p hp hf
    cases e : cl.lookup p.1 with
    | none => exact absurd ha (List.lookup_eq_none_iff.mp e |> fun q => fun hm => by simpa using q _ hm)
    | some b => rw [h2 _ (mem_of_lookup e)]

theorem cellsFrom_app : ∀ (names : List (Str × NameKind)) (n : Nat) (acc : List (Str × Addr)), cellsFrom n names acc = cellsFrom n names [] ++ acc
  | [], _, _ => rfl
  | (y, k) :: r, n, acc => by
    unfold cellsFrom
    split
    · rw [cellsFrom_app r (n + 1) ((y, n) :: acc), cellsFrom_app r (n + 1) [(y, n)]]; simp
    · exact cellsFrom_app r n acc
theorem cellsFrom_keys {x : Str} {c : Addr} : ∀ (names : List (Str × NameKind)) (n : Nat), (x, c) ∈ cellsFrom n names [] → (x, .cell) ∈ names
  | (y, k) :: r, n, h => by
    unfold cellsFrom at h
    split at h
    · rename_i hk
      rw [cellsFrom_app] at h
      rcases List.mem_append.mp h with h | h
      · exact List.mem_cons_of_mem _ (cellsFrom_keys r _ h)
      · rw [(Prod.mk.inj (List.mem_singleton.mp h)).1, ← beq_iff_eq.mp hk]; exact List.mem_cons_self ..
    · exact List.mem_cons_of_mem _ (cellsFrom_keys r _ h)
theorem lookup_app_some {α β : Type} [BEq α] {x : α} {b : β} : ∀ {l m : List (α × β)}, l.lookup x = some b → (l ++ m).lookup x = some b
  | (y, c) :: l, m, h => by
    simp only [List.cons_append, List.lookup_cons] at h ⊢
    split at h
    · exact h
    · exact lookup_app_some h
theorem lookup_app_none {α β : Type} [BEq α] {x : α} : ∀ {l m : List (α × β)}, l.lookup x = none → (l ++ m).lookup x = m.lookup x
  | [], m, h => rfl
  | (y, c) :: l, m, h => by
    simp only [List.cons_append, List.lookup_cons] at h ⊢
    split at h
    · cases h
    · exact lookup_app_none h

noncomputable def compEnv0 (scope : Scope) (L : Addr) (cells : List (Str × Addr)) (env : Env) : Env :=
  { scope := scope, locals := L, globals := env.globals, cells := cells, qual := env.qual, func := none, code := env.code, frame := env.frame, builtins := env.builtins }
theorem newEnv_comp {scope : Scope} {cl : List (Str × Addr)} {Q : Env → Shared → Prop}
    (hQ : Q (compEnv0 scope s.heap.objs.size (cellsFrom (s.heap.objs.size + 1) scope.names cl) env) { s with heap := pushCells (s.heap.push { cls := .type "dict", data := .dict #[] }) scope.names }) :
    wpAny M A (newFunctionEnv scope env.globals cl [] env.qual none .none (some env)) Q E s := by
  unfold newFunctionEnv
  simp only [Option.isSome_some, if_true]
  refine wpAny_bind (wpAny_alloc ?_)
  refine wpAny_bind (wpAny_layCells _ (fun name kind cells => by cases hkc : kind == NameKind.cell <;> simp [hkc]) _ _ _ _ ?_)
  rw [show ({ s with heap := s.heap.push { cls := .type "dict", data := .dict #[] } } : Shared).heap.objs.size = s.heap.objs.size + 1 from Heap.size_push ..]
  exact wpAny_bind (wpAny_pure (wpAny_pure hQ))

noncomputable def PostT (M : Model) (A : Around) (E : Value → Shared → Prop) (use : Option (Value → Sem Unit)) (Q : Value → Shared → Prop) (acc : Value) (C : Addr) (r : Result) (s' : Shared) : Prop :=
  match r, use with
  | .ok _, none => ∃ m, s'.heap.Ns C m ∧ ∀ h', Heap.SameBut C s'.heap h' → Q acc { s' with heap := h' }
  | .ok _, some u => wpT M A (u acc) (fun _ s'' => ∃ m, s''.heap.Ns C m ∧ ∀ h', Heap.SameBut C s''.heap h' → Q .none { s'' with heap := h' }) E s'
  | .error _, _ => False

theorem T_standIf {α : Type} {c : Prop} [Decidable c] {pos : Pos} {k : PUnit → Sem α} {Q : α → Shared → Prop} (h : wpT M A (k ()) Q E s) : wpT M A (if c then (standAt pos >>= k) else k ()) Q E s := by
  split
  · exact wpT_bind (wpT_standAt h)
  · exact h
theorem T_comp {e : Expr} {scope : Scope} {pos : Pos} {newAcc first : Sem Value} {g : Comprehension} {gs : List Comprehension} {cl : List (Str × Addr)} {use : Option (Value → Sem Unit)} {Q : Value → Shared → Prop}
    (hcl : clausesOf e = g :: gs) (hs : ∀ x, foldedSetIterable g.iter env x = pure x) (hclos : closureFor scope env = pure cl)
    (hkind : scope.kind = .function) (hnames : ∀ x ∈ scope.names, x.2 = .local → scope.names.lookup x.1 = some .local)
    (h : wpT M A first (fun x s₁ => wpT M A (pyIter x) (fun it s₂ => wpT M A newAcc (fun acc s₃ =>
      wpT M A (newFunctionEnv scope env.globals cl [] env.qual none .none (some env)) (fun cenv s₄ =>
        codeT M A (.compStart e 0 it acc { cenv with scope := relabel scope env }) (PostT M A E use Q acc cenv.locals) s₄) E s₃) E s₂) E s₁) E s) :
    wpT M A (comprehension e scope env pos newAcc false first use) Q E s := by
  unfold comprehension
  rw [hclos, hcl]
  refine wpT_bind (wpT_mono h (fun x s₁ h₁ => wpT_bind (wpT_standAt ?_)) fun _ _ h' => h')
  show wpT M A (foldedSetIterable g.iter env x >>= _) Q E s₁
  rw [hs x]
  refine wpT_bind (wpT_pure (wpT_bind (wpT_holding (wpT_mono h₁ (fun it s₂ h₂ => ?_) fun _ _ h' => h'))))
  refine T_standIf ?_
  refine wpT_bind (wpT_mono h₂ (fun acc s₃ h₃ => wpT_bind (wpT_pure (wpT_bind (wpT_mono h₃ (fun cenv s₄ h₄ => ?_) fun _ _ h' => h')))) fun _ _ h' => h')
  dsimp only
  have hv : ∀ x ∈ (scope.names.filter fun x => (x.2 == .local || x.2 == .cell) && x.1 != (".0" : Str)).reverse, x.2 = .local →
      Env.kindOf { cenv with scope := relabel scope env } x.1 = some .local := fun x hx hl => lookup_relabel_local (hnames x (List.mem_filter.mp (List.mem_reverse.mp hx)).1 hl)
  have hv' : ∀ x ∈ (scope.names.filter fun x => (x.2 == .local || x.2 == .cell) && x.1 != (".0" : Str)).reverse.drop 1 ++ (scope.names.filter fun x => (x.2 == .local || x.2 == .cell) && x.1 != (".0" : Str)).reverse.take 1,
      x.2 = .local → Env.kindOf { cenv with scope := relabel scope env } x.1 = some .local := fun x hx hl => by
    rcases List.mem_append.mp hx with h1 | h1
    · exact hv x (List.mem_of_mem_drop h1) hl
    · exact hv x (List.mem_of_mem_take h1) hl
  refine wpT_holding (wpT_bind (wpT_attempt (wpT_holding (wpT_run ?_))))
  rw [mark_none]
  refine codeT_mono h₄ fun r s' hr => ?_
  cases r with
  | ok f =>
    cases use with
    | none =>
      obtain ⟨m, hn, hr⟩ := hr
      exact wpT_bind (wpT_holding (wpT_of (wpAny_comp_letGo (cenv := { cenv with scope := relabel scope env }) hkind _ s' m hv hn fun h' m' _ hs' => (wpT_pure (hr h' hs')))))
    | some u =>
      refine wpT_bind (wpT_of (wpAny_rule (wpT_bind (wpT_holding (wpT_mono hr (fun _ s'' hr' => ?_) fun _ _ h' => h')))))
      obtain ⟨m, hn, hr'⟩ := hr'
      exact wpT_bind (wpT_of (wpAny_comp_letGo (cenv := { cenv with scope := relabel scope env }) hkind _ s'' m hv' hn fun h' m' _ hs' => wpT_pure (hr' h' hs')))
  | error x => cases use <;> exact hr.elim
end
end Mine
end
section
open PySem PySem.W PyProof.Rows PySem.Calls
set_option Elab.async false
set_option linter.unusedVariables false
set_option linter.unusedSimpArgs false
namespace Mine
section
variable {prog : Program} {w : World} {A : Around} {E : Value → Shared → Prop} {s : Shared} {env : Env} {R : Result → Shared → Prop}

theorem codeT_compStart {elt : Expr} {gens : List Comprehension} {target iter : Expr} {ifs : List Expr} {scope : Scope} {pos : Pos} {depth : Nat} {it acc : Value} (hg : gens[depth]? = some ⟨target, iter, ifs, 0⟩)
    (h0 : codeT (model prog w) A (.compLoop (.ListComp elt gens scope pos) depth it acc env) R s)
    (h : wpT (model prog w) A (pyIter it) (fun it' s' => codeT (model prog w) A (.compLoop (.ListComp elt gens scope pos) depth it' acc env) R s') (notedT (model prog w) A env fun x s' => R (.error x) s') s) :
    codeT (model prog w) A (.compStart (.ListComp elt gens scope pos) depth it acc env) R s := by
  refine codeT_of_tree rfl ?_
  show wpT _ A ((compStart (.ListComp elt gens scope pos) depth it acc env).onRaise (fun x => do noteFrame x env; standAt theWindowsPlace)) _ _ s
  refine T_notedAt ?_
  unfold compStart
  have hc : (clausesOf (.ListComp elt gens scope pos))[depth]? = some ⟨target, iter, ifs, 0⟩ := hg
  simp only [hc, Option.elim_some]
  refine wpT_ite (fun q => absurd q (by decide)) fun _ => ?_
  refine wpT_bind (wpT_of (wpAny_askSetting ?_))
  refine wpT_ite (fun q => ?_) fun _ => ?_
  · exact wpT_pure ⟨rfl, h0⟩
  · refine wpT_bind (wpT_of (wpAny_rule ?_))
    exact wpT_bind (wpT_standAt (wpT_bind (wpT_mono h (fun it' s' h' => wpT_pure ⟨rfl, h'⟩) fun _ _ x => x)))

theorem codeT_compLoop {elt target iter : Expr} {ifs : List Expr} {scope : Scope} {pos : Pos} {it acc : Value} (I : Nat → Shared → Prop)
    (turn : ∀ n s, I n s → wpT (model prog w) A (pyNext it) (fun r s₁ => match r with
      | none => R (.ok .next) s₁
      | some v => wpT (model prog w) A (assign target env v) (fun _ s₂ =>
          wpT (model prog w) A (forIn ifs true fun c r => if r = true then do let ok ← isTrue c env (eval c env); pure (ForInStep.yield ok) else pure (ForInStep.yield r)) (fun ok s₃ =>
            if ok = true then wpT (model prog w) A (eval elt env) (fun x s₄ =>
              wpT (model prog w) A (call (.builtin "list.append") [acc, x]) (fun _ s₅ => ∃ m, m < n ∧ I m s₅) (notedT (model prog w) A env fun e s' => R (.error e) s') s₄) (notedT (model prog w) A env fun e s' => R (.error e) s') s₃
            else ∃ m, m < n ∧ I m s₃) (notedT (model prog w) A env fun e s' => R (.error e) s') s₂) (notedT (model prog w) A env fun e s' => R (.error e) s') s₁) (notedT (model prog w) A env fun e s' => R (.error e) s') s)
    (n : Nat) (h : I n s) (ht : ∀ v, letOwnedTupleGo target it v = pure () := by intro _; rfl) :
    codeT (model prog w) A (.compLoop (.ListComp elt [⟨target, iter, ifs, 0⟩] scope pos) 0 it acc env) R s := by
  refine codeT_loop rfl rfl I (fun n s hI => ?_) n h
  show wpT _ A ((compTurn (.ListComp elt [⟨target, iter, ifs, 0⟩] scope pos) 0 it acc env).onRaise (fun x => do noteFrame x env; theTreesLotGoes x)) _ _ s
  refine T_noted ?_
  rw [compTurn_list]
  refine wpT_bind (wpT_standAt (wpT_bind (wpT_mono (turn n s hI) (fun r s₁ h₁ => ?_) fun _ _ h' => h')))
  cases r with
  | none => exact wpT_pure h₁
  | some v =>
    dsimp only
    rw [ht v]
    refine wpT_bind (wpT_pure (wpT_bind (wpT_mono h₁ (fun _ s₂ h₂ => wpT_bind (wpT_mono h₂ (fun ok s₃ h₃ => ?_) fun _ _ h' => h')) fun _ _ h' => h')))
    cases ok with
    | false => exact wpT_pure (.inl ⟨rfl, h₃⟩)
    | true =>
      exact wpT_bind (wpT_bind (wpT_mono h₃ (fun x s₄ h₄ => wpT_bind (wpT_mono h₄ (fun _ s₅ h₅ => wpT_pure (wpT_pure (.inl ⟨rfl, h₅⟩))) fun _ _ h' => h')) fun _ _ h' => h'))

/- two clauses: the outer loop, and the inner one -/
theorem compTurn_outer (elt t₀ i₀ t₁ i₁ : Expr) (scope : Scope) (pos : Pos) (it acc : Value) (env : Env) :
    compTurn (.ListComp elt [⟨t₀, i₀, [], 0⟩, ⟨t₁, i₁, [], 0⟩] scope pos) 0 it acc env = (standAt i₀.pos >>= fun _ => pyNext it >>= fun r => match r with
      | none => pure (.done .next)
      | some v => letOwnedTupleGo t₀ it v >>= fun _ => assign t₀ env v >>= fun _ => eval i₁ env >>= fun x => standAt i₁.pos >>= fun _ => foldedSetIterable i₁ env x >>= fun x =>
        holding [x] (pyIter x) >>= fun it' => runOwn (.compStart (.ListComp elt [⟨t₀, i₀, [], 0⟩, ⟨t₁, i₁, [], 0⟩] scope pos) 1 it' acc env) env >>= fun _ =>
          again (.compLoop (.ListComp elt [⟨t₀, i₀, [], 0⟩, ⟨t₁, i₁, [], 0⟩] scope pos) 0 it acc env)) := by rfl
theorem compTurn_inner (elt t₀ i₀ t₁ i₁ : Expr) (scope : Scope) (pos : Pos) (it acc : Value) (env : Env) :
    compTurn (.ListComp elt [⟨t₀, i₀, [], 0⟩, ⟨t₁, i₁, [], 0⟩] scope pos) 1 it acc env = (standAt i₁.pos >>= fun _ => pyNext it >>= fun r => match r with
      | none => pure (.done .next)
      | some v => letOwnedTupleGo t₁ it v >>= fun _ => assign t₁ env v >>= fun _ =>
        (eval elt env >>= fun x => call (.builtin "list.append") [acc, x] >>= fun _ => pure ()) >>= fun _ =>
          again (.compLoop (.ListComp elt [⟨t₀, i₀, [], 0⟩, ⟨t₁, i₁, [], 0⟩] scope pos) 1 it acc env)) := by rfl
theorem codeT_inner {elt t₀ i₀ t₁ i₁ : Expr} {scope : Scope} {pos : Pos} {it acc : Value} (I : Nat → Shared → Prop)
    (turn : ∀ n s, I n s → wpT (model prog w) A (pyNext it) (fun r s₁ => match r with
      | none => R (.ok .next) s₁
      | some v => wpT (model prog w) A (assign t₁ env v) (fun _ s₂ => wpT (model prog w) A (eval elt env) (fun x s₄ =>
              wpT (model prog w) A (call (.builtin "list.append") [acc, x]) (fun _ s₅ => ∃ m, m < n ∧ I m s₅) (notedT (model prog w) A env fun e s' => R (.error e) s') s₄) (notedT (model prog w) A env fun e s' => R (.error e) s') s₂)
            (notedT (model prog w) A env fun e s' => R (.error e) s') s₁) (notedT (model prog w) A env fun e s' => R (.error e) s') s)
    (n : Nat) (h : I n s) (ht : ∀ v, letOwnedTupleGo t₁ it v = pure () := by intro _; rfl) :
    codeT (model prog w) A (.compLoop (.ListComp elt [⟨t₀, i₀, [], 0⟩, ⟨t₁, i₁, [], 0⟩] scope pos) 1 it acc env) R s := by
  refine codeT_loop rfl rfl I (fun n s hI => ?_) n h
  show wpT _ A ((compTurn (.ListComp elt [⟨t₀, i₀, [], 0⟩, ⟨t₁, i₁, [], 0⟩] scope pos) 1 it acc env).onRaise (fun x => do noteFrame x env; theTreesLotGoes x)) _ _ s
  refine T_noted ?_
  rw [compTurn_inner]
  refine wpT_bind (wpT_standAt (wpT_bind (wpT_mono (turn n s hI) (fun r s₁ h₁ => ?_) fun _ _ h' => h')))
  cases r with
  | none => exact wpT_pure h₁
  | some v =>
    dsimp only
    rw [ht v]
    refine wpT_bind (wpT_pure (wpT_bind (wpT_mono h₁ (fun _ s₂ h₂ => ?_) fun _ _ h' => h')))
    exact wpT_bind (wpT_bind (wpT_mono h₂ (fun x s₄ h₄ => wpT_bind (wpT_mono h₄ (fun _ s₅ h₅ => wpT_pure (wpT_pure (.inl ⟨rfl, h₅⟩))) fun _ _ h' => h')) fun _ _ h' => h'))
theorem codeT_outer {elt t₀ i₀ t₁ i₁ : Expr} {scope : Scope} {pos : Pos} {it acc : Value} (I : Nat → Shared → Prop)
    (turn : ∀ n s, I n s → wpT (model prog w) A (pyNext it) (fun r s₁ => match r with
      | none => R (.ok .next) s₁
      | some v => wpT (model prog w) A (assign t₀ env v) (fun _ s₂ => wpT (model prog w) A (eval i₁ env) (fun x s₃ => wpT (model prog w) A (pyIter x) (fun it' s₄ =>
              codeT (model prog w) A (.compStart (.ListComp elt [⟨t₀, i₀, [], 0⟩, ⟨t₁, i₁, [], 0⟩] scope pos) 1 it' acc env) (fun r s₅ => match r with | .ok _ => ∃ m, m < n ∧ I m s₅ | .error _ => False) s₄)
              (notedT (model prog w) A env fun e s' => R (.error e) s') s₃) (notedT (model prog w) A env fun e s' => R (.error e) s') s₂)
            (notedT (model prog w) A env fun e s' => R (.error e) s') s₁) (notedT (model prog w) A env fun e s' => R (.error e) s') s)
    (n : Nat) (h : I n s) (ht : ∀ v, letOwnedTupleGo t₀ it v = pure () := by intro _; rfl) (hf : ∀ x, foldedSetIterable i₁ env x = pure x := by intro _; rfl) :
    codeT (model prog w) A (.compLoop (.ListComp elt [⟨t₀, i₀, [], 0⟩, ⟨t₁, i₁, [], 0⟩] scope pos) 0 it acc env) R s := by
  refine codeT_loop rfl rfl I (fun n s hI => ?_) n h
  show wpT _ A ((compTurn (.ListComp elt [⟨t₀, i₀, [], 0⟩, ⟨t₁, i₁, [], 0⟩] scope pos) 0 it acc env).onRaise (fun x => do noteFrame x env; theTreesLotGoes x)) _ _ s
  refine T_noted ?_
  rw [compTurn_outer]
  refine wpT_bind (wpT_standAt (wpT_bind (wpT_mono (turn n s hI) (fun r s₁ h₁ => ?_) fun _ _ h' => h')))
  cases r with
  | none => exact wpT_pure h₁
  | some v =>
    dsimp only
    rw [ht v]
    refine wpT_bind (wpT_pure (wpT_bind (wpT_mono h₁ (fun _ s₂ h₂ => wpT_bind (wpT_mono h₂ (fun x s₃ h₃ => wpT_bind (wpT_standAt ?_)) fun _ _ h' => h')) fun _ _ h' => h')))
    rw [hf x]
    refine wpT_bind (wpT_pure (wpT_bind (wpT_holding (wpT_mono h₃ (fun it' s₄ h₄ => wpT_bind (T_runOwn ?_)) fun _ _ h' => h'))))
    rw [mark_none]
    refine codeT_mono h₄ fun r s₅ hr => ?_
    cases r with
    | ok f => exact wpT_pure (.inl ⟨rfl, hr⟩)
    | error x => exact hr.elim
end
end Mine
end
section
open PySem PySem.W PyProof.Rows PySem.Calls
set_option Elab.async false
set_option linter.unusedVariables false
set_option linter.unusedSimpArgs false
namespace Mine
section
variable {C : Cx} {σ τ : St} {ω ω' : List (Str × Addr)} {s : Shared}

/-- an object of the frame's making that no value bears turns -/
theorem Sat.side (S : Sat C σ ω s) {h' : Heap} {tk : Nat} {D : Addr} (hs : Heap.SameBut D s.heap h') (hO : C.O₀ D) (hn : ¬ Own ω D) (hb : C.s₀.heap.get? D = none) (hd : ∀ o, s.heap.get? D = some o → Solid o) (hd' : ∃ o, h'.get? D = some o) :
    Sat C σ ω { s with heap := h', toks := tk } := by
  have hk : ∀ b o, b ≠ D → s.heap.get? b = some o → h'.get? b = some o := fun b o n e => (hs.2 b n).trans e
  have ns : ∀ {a m}, s.heap.Ns a m → h'.Ns a m := fun {a m} ⟨o, es, ep, e, d, r⟩ => ⟨o, es, ep, hk _ _ (fun q => by subst q; exact (hd _ e).1 _ _ d) e, d, r⟩
  have cl : ∀ {a v}, s.heap.IsCell a v → h'.IsCell a v := fun {a v} ⟨o, e, d⟩ => ⟨o, hk _ _ (fun q => by subst q; exact (hd _ e).2 _ d) e, d⟩
  refine ⟨let ⟨_, _, e⟩ := S.same; ⟨h', tk, by rw [e]⟩, fun b o e n => hk b o (fun q => by subst q; rw [hb] at e; cases e) (S.base b o e n), S.ext,
    fun b p => let ⟨o, e, so⟩ := S.ins b p; ⟨o, hk b o (fun q => hn (q ▸ p)) e, so⟩, S.new, S.apart, fun b p => ?_, S.off, fun y c hl => ?_, let ⟨m, n⟩ := S.loc; ⟨m, ns n⟩, S.locnew,
    fun y hy => let ⟨a, v, h1, h2, h3⟩ := S.cell y hy; ⟨a, v, h1, cl h2, h3⟩, S.inj, S.en⟩
  · by_cases q : b = D
    · subst q; exact hd'
    · obtain ⟨o, e⟩ := S.outer b p; exact ⟨o, hk b o q e⟩
  · obtain ⟨v, h1, h2⟩ := S.names y c hl
    refine ⟨v, ?_, ?_⟩
    · rcases h1 with ⟨k, m, n, e⟩ | ⟨k, a, hc, n, q⟩
      · exact .inl ⟨k, m, ns n, e⟩
      · exact .inr ⟨k, a, hc, cl n, q⟩
    · have hv : ∀ b o, s.heap.get? b = some o → Val o → ¬ OO C ω b → (¬ OO C ω b ∧ h'.get? b = some o) := fun b o e _ n => ⟨n, hk b o (fun q => n (.inl (q ▸ hO))) e⟩
      cases c with
      | pure p => exact Rep.keepV hv h2
      | own m =>
        obtain ⟨a, q1, q2, q3⟩ := h2
        exact ⟨a, q1, q2, q3.keepV (fun o e _ => hk a o (fun q => hn ⟨y, q ▸ q2⟩) e) hv⟩

noncomputable def relabN (names : List (Str × NameKind)) (kd : Str → Option NameKind) : List (Str × NameKind) := names.map fun p => if p.2 == .free && kd p.1 == some .cell then (p.1, .cell) else p
structure CompOf (C C' : Cx) (scope : Scope) : Prop where
  G : GCx C'
  kd : C'.kd = fun x => (relabN scope.names C.kd).lookup x
  mine : C'.mine = ownCells scope
  mg : C'.mg = C.mg
  A : C'.A = C.A
  funs : ∀ L, Funs C L → Funs C' L

noncomputable def compCx (C : Cx) (scope : Scope) (s₁ : Shared) (ω ωv : List (Str × Addr)) (D L : Addr) (cells : List (Str × Addr)) : Cx :=
  { prog := C.prog, w := C.w, env := compEnv0 (relabel scope C.env) L cells C.env, A := C.A, s₀ := s₁, mg := C.mg, mb := C.mb, O₀ := fun b => OO C ω b ∨ b = D, ext := Own ωv, en := fun _ _ => False, mine := ownCells scope, kd := fun x => (relabN scope.names C.kd).lookup x }

theorem comp_of (G : GCx C) {scope : Scope} {s₁ : Shared} {ωv : List (Str × Addr)} {D L : Addr} {cells : List (Str × Addr)} (S : Sat C σ ω s₁) (hv : ∀ b, Own ωv b → Own ω b) (hk : scope.kind = .function) :
    CompOf C (compCx C scope s₁ ω ωv D L cells) scope where
  G := ⟨G.keepNs S.base G.g, G.keepNs S.base G.b, G.keepLim S.base, G.builtins, hk, fun x => by
      show (relabel scope C.env).names.lookup x = (relabN scope.names C.kd).lookup x
      have : (relabel scope C.env).names = relabN scope.names C.kd := by
        unfold relabel relabN
        refine List.map_congr_left fun p _ => ?_
        obtain ⟨n, k⟩ := p
        have e : (C.env.scope.kind == ScopeKind.function) = true := by rw [G.kind]; rfl
        simp only [e, Bool.and_true, G.kd]
      rw [this], G.glob, G.blt, fun b hb o e => by
        obtain ⟨o', e', so⟩ := S.ins b (hv b hb)
        rw [show s₁.heap.get? b = some o from e] at e'; cases e'; exact so⟩
  kd := rfl
  mine := rfl
  mg := rfl
  A := rfl
  funs := fun Ls hL d hd => by
    obtain ⟨a, e1, o, pm, code, doc, q1, q2, q3, q4⟩ := hL d hd
    have nw : ∀ b o, C.s₀.heap.get? b = some o → ¬ C.ext b → ¬ Own ωv b := fun b o e n p => by
      rw [S.new b (hv b p) n] at e; cases e
    exact ⟨a, e1, o, pm, code, doc, q1, fun h hb => q2 h fun b o e n => hb b o (S.base b o e n) (nw b o e n), (q2 s₁.heap S.base).1, nw a o q3 q4⟩

noncomputable def Tests (C : Cx) (σ : St) : List Expr → Bool → Prop
  | [], b => b = true
  | [t], b => EvT C σ t b σ
  | _, _ => False
noncomputable def StepOk (C : Cx) (σ : St) (ifs : List Expr) (elt : Expr) (o : Option AV) (τ : St) : Prop :=
  Tests C σ ifs o.isSome ∧ match o with
    | some y => EvE C σ elt y τ
    | none => τ = σ
theorem tests_T (C : Cx) {ifs : List Expr} {b : Bool} (h : Tests C σ ifs b) (S : Sat C σ ω s) {Q : Bool → Shared → Prop} {E : Value → Shared → Prop} (hq : ∀ s', Sat C σ ω s' → KB (Own ω) s.heap s'.heap → Q b s') :
    wpT C.M C.A (forIn ifs true fun c r => if r = true then do let ok ← isTrue c C.env (eval c C.env); pure (ForInStep.yield ok) else pure (ForInStep.yield r)) Q E s := by
  match ifs, h with
  | [], h =>
    have hb : b = true := h
    subst hb
    exact wpT_pure (hq s S (.refl _ _))
  | [t], h =>
    simp only [List.forIn_cons, List.forIn_nil, if_true]
    exact wpT_bind (wpT_bind (h ω s _ E S fun s' S' k' => wpT_pure (wpT_pure (hq s' S' k'))))

noncomputable abbrev pures (l : List (Str × AV)) : St := l.map fun p => (p.1, .pure p.2)
noncomputable abbrev owns (l : List (Str × MO)) : St := l.map fun p => (p.1, .own p.2)
noncomputable def Seen (C : Cx) (scope : Scope) (x : Str) : Prop := scope.names.lookup x = some .free ∧ (C.kd x = some .cell ∨ (C.kd x = some .free ∧ (x == ("__classdict__" : Str)) = false))

theorem lk_mem {x : Str} {b : Bind} {σ : St} (h : Lk x σ b) : (x, b) ∈ σ := by
  induction h with
  | here => exact List.mem_cons_self ..
  | there _ _ ih => exact List.mem_cons_of_mem _ ih
theorem mem_lk {x : Str} {b : Bind} : ∀ {σ : St}, (σ.map (·.1)).Nodup → (x, b) ∈ σ → Lk x σ b
  | (y, c) :: σ, hn, h => by
    simp only [List.map_cons, List.nodup_cons] at hn
    rcases List.mem_cons.mp h with q | q
    · cases q; exact .here
    · have hm : x ∈ σ.map (·.1) := List.mem_map.mpr ⟨_, q, rfl⟩
      refine .there ?_ (mem_lk hn.2 q)
      have hne : x ≠ y := fun e => hn.1 (e ▸ hm)
      simpa using hne

/-- the store behind a comprehension -/
theorem Sat.after (G : GCx C) {σ₁ σe : St} {s₁ se : Shared} {ωv : List (Str × Addr)} {scope : Scope} {D L : Addr} {cells : List (Str × Addr)} (S₁ : Sat C σ₁ ω s₁) (hvω : ∀ p, p ∈ ωv → p ∈ ω)
    (Se : Sat (compCx C scope s₁ ω ωv D L cells) σe ωv se) (hL : s₁.heap.get? L = none) {h' : Heap} {tk : Nat} (hs : Heap.SameBut L se.heap h') (N : List Str) (hN : ∀ x a, (x, a) ∈ ωv → x ∈ N)
    (hτ : ∀ y b, Lk y τ b → (∃ m, Lk y σe (.own m) ∧ b = .own m ∧ Seen C scope y ∧ cells.lookup y = C.env.cells.lookup y ∧ ∃ m₀, Lk y σ₁ (.own m₀)) ∨ (y ∉ N ∧ Lk y σ₁ b)) :
    Sat C τ ω { se with heap := h', toks := tk } ∧ KB (Own ω) s₁.heap h' := by
  have hv : ∀ b, Own ωv b → Own ω b := fun b ⟨x, p⟩ => ⟨x, hvω _ p⟩
  have keep : ∀ b o, ¬ Own ωv b → s₁.heap.get? b = some o → h'.get? b = some o := fun b o n e =>
    (hs.2 b (fun q => by subst q; rw [hL] at e; cases e)).trans (Se.base b o e n)
  have insv : ∀ b, Own ωv b → ∃ o, h'.get? b = some o ∧ Solid o := fun b p => by
    obtain ⟨o, e, so⟩ := Se.ins b p
    obtain ⟨o₁, e₁, _⟩ := S₁.ins b (hv b p)
    exact ⟨o, (hs.2 b (fun q => by subst q; rw [hL] at e₁; cases e₁)).trans e, so⟩
  have ns : ∀ {a m}, s₁.heap.Ns a m → h'.Ns a m := fun {a m} ⟨o, es, ep, e, d, r⟩ => ⟨o, es, ep, keep _ _ (fun p => by
    obtain ⟨o', e', so⟩ := S₁.ins _ (hv _ p); rw [e] at e'; cases e'; exact so.1 _ _ d) e, d, r⟩
  have cl : ∀ {a v}, s₁.heap.IsCell a v → h'.IsCell a v := fun {a v} ⟨o, e, d⟩ => ⟨o, keep _ _ (fun p => by
    obtain ⟨o', e', so⟩ := S₁.ins _ (hv _ p); rw [e] at e'; cases e'; exact so.2 _ d) e, d⟩
  have kb : KB (Own ω) s₁.heap h' := fun b o n e => keep b o (fun p => n (hv b p)) e
  have some1 : ∀ b, (∃ o, s₁.heap.get? b = some o) → ∃ o, h'.get? b = some o := fun b ⟨o, e⟩ => by
    by_cases p : Own ωv b
    · obtain ⟨o', e', _⟩ := insv b p; exact ⟨o', e'⟩
    · exact ⟨o, keep b o p e⟩
  have hval : ∀ b o, s₁.heap.get? b = some o → Val o → ¬ OO C ω b → (¬ OO C ω b ∧ h'.get? b = some o) := fun b o e _ n => ⟨n, keep b o (fun p => n (.inr (hv b p))) e⟩
  refine ⟨⟨?_, fun b o e n => keep b o (fun p => by rw [S₁.new b (hv b p) n] at e; cases e) (S₁.base b o e n), S₁.ext, fun b p => ?_, S₁.new, S₁.apart, fun b p => some1 b (S₁.outer b p), S₁.off, fun y b hl => ?_,
    let ⟨m, n⟩ := S₁.loc; ⟨m, ns n⟩, S₁.locnew, fun y hy => let ⟨a, v, h1, h2, h3⟩ := S₁.cell y hy; ⟨a, v, h1, cl h2, h3⟩, S₁.inj, S₁.en⟩, kb⟩
  · obtain ⟨_, _, e⟩ := S₁.same
    obtain ⟨_, _, e'⟩ := Se.same
    exact ⟨h', tk, by rw [e']; show ({ s₁ with heap := h', toks := tk } : Shared) = _; rw [e]⟩
  · by_cases q : Own ωv b
    · exact insv b q
    · obtain ⟨o, e, so⟩ := S₁.ins b p; exact ⟨o, keep b o q e, so⟩
  · rcases hτ y b hl with ⟨m, hm, rfl, hsn, hcell, m₀, hm₀⟩ | ⟨hy, hl'⟩
    · obtain ⟨v, h1, a, rfl, h2, h3⟩ := Se.names y _ hm
      obtain ⟨v₀, h1₀, _⟩ := S₁.names y _ hm₀
      refine ⟨.ref a, ?_, a, rfl, hvω _ h2, ?_⟩
      · rcases h1₀ with ⟨k, _⟩ | ⟨k, c, hc, hcl, q⟩
        · rw [G.kd] at k
          rcases hsn.2 with q | ⟨q, _⟩ <;> rw [k] at q <;> cases q
        · refine .inr ⟨k, c, hc, ?_, q⟩
          rcases h1 with ⟨k', _⟩ | ⟨k', c', hc', hcl', _⟩
          · exfalso
            have : (relabel scope C.env).names.lookup y = some .local := k'
            have e : (relabel scope C.env).names.lookup y = some .free ∨ (relabel scope C.env).names.lookup y = some .cell := by
              have hf := hsn.1
              unfold relabel
              have : ∀ names : List (Str × NameKind), names.lookup y = some .free → (names.map fun (n, k) => if (k == NameKind.free && C.env.scope.kind == .function && C.env.kindOf n == some .cell) then (n, NameKind.cell) else (n, k)).lookup y = some .free ∨
                  (names.map fun (n, k) => if (k == NameKind.free && C.env.scope.kind == .function && C.env.kindOf n == some .cell) then (n, NameKind.cell) else (n, k)).lookup y = some .cell := by
                intro names
                induction names with
                | nil => intro h; cases h
                | cons p r ih =>
                  obtain ⟨n, k⟩ := p
                  intro h
                  rw [List.lookup_cons] at h
                  simp only [List.map_cons]
                  by_cases hq : (y == n) = true
                  · rw [hq] at h
                    have hk : k = .free := Option.some.inj h
                    subst hk
                    split <;> simp [List.lookup_cons, hq]
                  · have hq' : (y == n) = false := by simpa using hq
                    rw [hq'] at h
                    split <;> simp only [List.lookup_cons, hq'] <;> exact ih h
              exact this _ hf
            rcases e with e | e <;> rw [this] at e <;> cases e
          · have hcc : c' = c := by
              have q1 : cells.lookup y = some c' := hc'
              rw [hcell, hc] at q1
              exact (Option.some.inj q1).symm
            subst hcc
            obtain ⟨o, e, d⟩ := hcl'
            refine ⟨o, (hs.2 c' fun q => ?_).trans e, d⟩
            obtain ⟨o1, e1, _⟩ := hcl
            subst q; rw [hL] at e1; cases e1
      · refine h3.keepV (fun o e _ => ?_) fun b o e so n => ⟨fun q => n (.inl (.inl q)), (hs.2 b fun q => ?_).trans e⟩
        · obtain ⟨o₁, e₁, _⟩ := S₁.ins a ⟨y, hvω _ h2⟩
          exact (hs.2 a fun q => by subst q; rw [hL] at e₁; cases e₁).trans e
        · subst q
          obtain ⟨m', n'⟩ := Se.loc
          exact not_solid_ns n' e so.1
    · obtain ⟨u, h1, h2⟩ := S₁.names y b hl'
      refine ⟨u, ?_, ?_⟩
      · rcases h1 with ⟨k, m, n, e⟩ | ⟨k, a, hc, n, q⟩
        · exact .inl ⟨k, m, ns n, e⟩
        · exact .inr ⟨k, a, hc, cl n, q⟩
      · cases b with
        | pure p => exact Rep.keepV hval h2
        | own m =>
          obtain ⟨a, q1, q2, q3⟩ := h2
          refine ⟨a, q1, q2, q3.keepV (fun o e _ => keep a o (fun ⟨z, p⟩ => ?_) e) hval⟩
          have := S₁.apart _ _ _ q2 (hvω _ p)
          subst this
          exact hy (hN _ _ p)
end
end Mine
end
section
open PySem PySem.W PyProof.Rows PySem.Calls
set_option Elab.async false
set_option linter.unusedVariables false
set_option linter.unusedSimpArgs false
namespace Mine
section
variable {C : Cx} {σ τ : St} {ω ω' : List (Str × Addr)} {s : Shared}

/-- the comprehension's context, entered -/
theorem comp_enter (G : GCx C) {scope : Scope} {s₁ s₃ : Shared} {ωv : List (Str × Addr)} {D : Addr} {cl : List (Str × Addr)} {σv : St}
    (S₁ : Sat C σ ω s₁) (hvω : ∀ p, p ∈ ωv → p ∈ ω) (h₃ : ∃ h tk, s₃ = { s₁ with heap := h, toks := tk }) (ext : Ext s₁.heap s₃.heap) (hD : s₁.heap.get? D = none) (hD' : ∃ o, s₃.heap.get? D = some o)
    (hcl : ∀ p ∈ scope.names, p.2 = .free → cl.lookup p.1 = C.env.cells.lookup p.1) (hmine : ((ownCells scope).all fun x => scope.names.lookup x == some .cell) = true)
    (hσv : ∀ x b, Lk x σv b → Seen C scope x ∧ Lk x σ b ∧ ∀ m a, b = .own m → (x, a) ∈ ω → (x, a) ∈ ωv) :
    let cells := cellsFrom (s₃.heap.objs.size + 1) scope.names cl
    let s₄ : Shared := { s₃ with heap := pushCells (s₃.heap.push { cls := .type "dict", data := .dict #[] }) scope.names }
    Sat (compCx C scope s₁ ω ωv D s₃.heap.objs.size cells) σv ωv s₄ ∧ Ext s₃.heap s₄.heap ∧ s₁.heap.get? s₃.heap.objs.size = none ∧ (∀ x, Seen C scope x → cells.lookup x = C.env.cells.lookup x) := by
  intro cells s₄
  have ext4 : Ext s₃.heap s₄.heap := fun b o e => pushCells_keeps _ _ b o (Heap.get?_push_of_some _ e)
  have ext14 : Ext s₁.heap s₄.heap := ext.trans ext4
  have ok := cellsFrom_ok scope.names (s₃.heap.push { cls := .type "dict", data := .dict #[] }) (s₃.heap.objs.size + 1) [] ⟨fun _ _ hm => (nomatch hm), List.Pairwise.nil⟩ (by rw [Heap.size_push]; exact Nat.le_refl _)
  rw [Heap.size_push] at ok
  have hcells : cells = cellsFrom (s₃.heap.objs.size + 1) scope.names [] ++ cl := cellsFrom_app _ _ _
  have hnone : ∀ c, s₃.heap.objs.size ≤ c → s₁.heap.get? c = none := fun c hc => by
    cases q : s₁.heap.get? c with
    | none => rfl
    | some o => exact absurd (Heap.lt_size (ext _ _ q)) (Nat.not_lt.mpr hc)
  have seen : ∀ x, Seen C scope x → cells.lookup x = C.env.cells.lookup x := fun x hx => by
    have hmem : (x, NameKind.free) ∈ scope.names := mem_of_lookup hx.1
    rw [hcells, lookup_app_none, hcl _ hmem rfl]
    cases q : (cellsFrom (s₃.heap.objs.size + 1) scope.names []).lookup x with
    | none => rfl
    | some c =>
      exfalso
      have h1 := cellsFrom_keys _ _ (mem_of_lookup q)
      have h2 : x ∈ ownCells scope := List.mem_map.mpr ⟨(x, .cell), List.mem_filter.mpr ⟨h1, rfl⟩, rfl⟩
      have h3 := beq_iff_eq.mp (List.all_eq_true.mp hmine x h2)
      rw [hx.1] at h3; cases h3
  have own : ∀ x ∈ ownCells scope, ∃ c, cells.lookup x = some c ∧ s₄.heap.IsCell c none ∧ s₃.heap.objs.size + 1 ≤ c ∧ (x, c) ∈ cellsFrom (s₃.heap.objs.size + 1) scope.names [] := fun x hx => by
    have hq := beq_iff_eq.mp (List.all_eq_true.mp hmine x hx)
    obtain ⟨c, hc⟩ := Option.isSome_iff_exists.mp (cellsFrom_some (x := x) scope.names (s₃.heap.objs.size + 1) [] (.inl hq))
    have hm := mem_of_lookup hc
    exact ⟨c, by rw [hcells]; exact lookup_app_some hc, (ok.empty x c hm).1, (ok.empty x c hm).2, hm⟩
  have hv : ∀ b, Own ωv b → Own ω b := fun b ⟨x, p⟩ => ⟨x, hvω _ p⟩
  refine ⟨?_, ext4, hnone _ (Nat.le_refl _), seen⟩
  refine ⟨?_, fun b o e _ => ext14 b o e, fun b p => p, fun b p => ?_, fun b p n => absurd p n, fun x y a p q => S₁.apart x y a (hvω _ p) (hvω _ q), fun b p => ?_, fun b p n => absurd p n, fun x b hl => ?_, ?_, hnone _ (Nat.le_refl _), fun x hx => ?_, fun x hx y hy e => ?_, fun x b p => p.elim⟩
  · obtain ⟨hh, tk, e⟩ := h₃
    exact ⟨_, tk, by show ({ s₃ with heap := _ } : Shared) = _; rw [e]; rfl⟩
  · obtain ⟨o, e, so⟩ := S₁.ins b (hv b p); exact ⟨o, ext14 _ _ e, so⟩
  · rcases p with p | rfl
    · obtain ⟨o, e⟩ := S₁.al b p; exact ⟨o, ext14 _ _ e⟩
    · obtain ⟨o, e⟩ := hD'; exact ⟨o, ext4 _ _ e⟩
  · obtain ⟨hsn, hl', hob⟩ := hσv x b hl
    obtain ⟨v, h1, h2⟩ := S₁.names x b hl'
    refine ⟨v, ?_, ?_⟩
    · rcases h1 with ⟨k, _⟩ | ⟨k, c, hc, hcl', q⟩
      · rw [G.kd] at k
        rcases hsn.2 with q | ⟨q, _⟩ <;> rw [k] at q <;> cases q
      · obtain ⟨o, e, d⟩ := hcl'
        refine .inr ⟨?_, c, (seen x hsn).trans hc, ⟨o, ext14 _ _ e, d⟩, .inr ⟨o, e⟩⟩
        have key : ∀ names : List (Str × NameKind), names.lookup x = some .free → (relabN names C.kd).lookup x = if C.kd x == some .cell then some .cell else some .free := by
          intro names
          induction names with
          | nil => intro h; cases h
          | cons p r ih =>
            obtain ⟨n, k⟩ := p
            intro h
            rw [List.lookup_cons] at h
            unfold relabN
            simp only [List.map_cons]
            by_cases hq : (x == n) = true
            · rw [hq] at h
              have hk : k = .free := Option.some.inj h
              subst hk
              have hxn : x = n := beq_iff_eq.mp hq
              subst hxn
              by_cases hkd : (C.kd x == some NameKind.cell) = true
              · simp [hkd, List.lookup_cons]
              · have hkd' : (C.kd x == some NameKind.cell) = false := by simpa using hkd
                simp [hkd', List.lookup_cons]
            · have hq' : (x == n) = false := by simpa using hq
              rw [hq'] at h
              have := ih h
              unfold relabN at this
              split <;> simp only [List.lookup_cons, hq'] <;> exact this
        have hC : (compCx C scope s₁ ω ωv D s₃.heap.objs.size cells).env.kindOf x = if C.kd x == some .cell then some .cell else some .free := by
          have := (comp_of (ωv := ωv) (D := D) (L := s₃.heap.objs.size) (cells := cells) G S₁ hv (scope := { scope with kind := .function }) rfl).G.kd x
          exact (this.trans (key scope.names hsn.1))
        rcases hsn.2 with q' | ⟨q', qn⟩
        · rw [hC, q']; exact .inl rfl
        · rw [hC, q']; exact .inr ⟨rfl, qn⟩
    · have hkp : ∀ b o, s₁.heap.get? b = some o → Val o → ¬ OO C ω b → (¬ OO (compCx C scope s₁ ω ωv D s₃.heap.objs.size cells) ωv b ∧ s₄.heap.get? b = some o) := fun b o e _ n =>
        ⟨fun q => q.elim (fun q => q.elim n fun q => by rw [q, hD] at e; cases e) fun q => n (.inr (hv b q)), ext14 _ _ e⟩
      cases b with
      | pure p => exact Rep.keepV hkp h2
      | own m =>
        obtain ⟨a, q1, q2, q3⟩ := h2
        exact ⟨a, q1, hob m a rfl q2, q3.keepV (fun o e _ => ext14 _ _ e) hkp⟩
  · refine ⟨fun _ => none, ?_⟩
    have := Heap.Ns.new s₃.heap (.type "dict")
    exact this.keeps (pushCells_keeps _ _)
  · obtain ⟨c, h1, h2, h3, _⟩ := own x hx
    exact ⟨c, none, h1, h2, hnone _ (Nat.le_of_succ_le h3)⟩
  · obtain ⟨c, h1, _, _, m1⟩ := own x hx
    obtain ⟨c', h1', _, _, m2⟩ := own y hy
    have e' : cells.lookup x = cells.lookup y := e
    rw [h1, h1'] at e'
    have hcc : c = c' := Option.some.inj e'
    by_cases hxy : x = y
    · exact hxy
    · exfalso
      obtain ⟨i, hi, e1⟩ := List.getElem_of_mem m1
      obtain ⟨j, hj, e2⟩ := List.getElem_of_mem m2
      have hij : i ≠ j := fun q => by subst q; rw [e1] at e2; exact hxy (Prod.mk.inj e2).1
      have ap := List.pairwise_iff_getElem.mp ok.apart
      rcases Nat.lt_or_gt_of_ne hij with q | q
      · exact ap i j hi hj q ((congrArg Prod.snd e1).trans (hcc.trans (congrArg Prod.snd e2).symm))
      · exact ap j i hj hi q ((congrArg Prod.snd e2).trans (hcc.symm.trans (congrArg Prod.snd e1).symm))
end
end Mine
end
section
open PySem PySem.W PyProof.Rows PySem.Calls
set_option Elab.async false
set_option linter.unusedVariables false
set_option linter.unusedSimpArgs false
namespace Mine
section
variable {C : Cx} {σ τ : St} {ω ω' : List (Str × Addr)} {s : Shared}

theorem filterMap_succ {α : Type} (ys : Nat → Option α) (n : Nat) : (List.range (n + 1)).filterMap ys = (List.range n).filterMap ys ++ (ys n).toList := by
  rw [List.range_succ, List.filterMap_append]
  cases h : ys n <;> simp [h]

/-- a comprehension's loop (one clause), in its own context -/
theorem comp_loop (G : GCx C) {x : Str} {px : Pos} {elt iter : Expr} {ifs : List Expr} {scope : Scope} {pos : Pos} {xs : List AV} {I D : Addr} {fp wr : List Addr} {P : Nat → Value → Prop} {St : Nat → Heap → Prop} {R : Result → Shared → Prop}
    (W : Walks C.prog C.w C.A I fp wr xs.length P St) (inv : Nat → List (Str × Bind)) (ys : Nat → Option AV)
    (S : Sat C (inv 0) ω s) (st₀ : St 0 s.heap) (hD : s.heap.PlainList D #[]) (hDO : C.O₀ D) (hDn : ¬ Own ω D) (hDs : C.s₀.heap.get? D = none)
    (hfp : ∀ b ∈ fp, ¬ Md C ω b ∧ ¬ C.O₀ b ∧ ∃ o, s.heap.get? b = some o) (hwr : ∀ b ∈ wr, b ∈ fp ∧ C.s₀.heap.get? b = none)
    (alive : ∀ i h₂, St i h₂ → ∀ b ∈ wr, ∃ o, h₂.get? b = some o ∧ Solid o ∧ ¬ Val o)
    (hP : ∀ i v x, P i v → xs[i]? = some x → Rep (OO C ω) s.heap v x) (hx : Stb C x)
    (step : ∀ i v, xs[i]? = some v → ∃ σ' τ', Up x (.pure v) (inv i) σ' ∧ StepOk C σ' ifs elt (ys i) τ' ∧ Wk τ' (inv (i + 1))) (hz : xs.length ≤ sizeLine)
    (hR : ∀ s' vs, Sat C (inv xs.length) ω s' → s'.heap.PlainList D vs.toArray → RepAll (OO C ω) s'.heap vs ((List.range xs.length).filterMap ys) → R (.ok .next) s') :
    codeT C.M C.A (.compStart (.ListComp elt [⟨.Name x px, iter, ifs, 0⟩] scope pos) 0 (.ref I) (.ref D) C.env) R s := by
  have loop : codeT C.M C.A (.compLoop (.ListComp elt [⟨.Name x px, iter, ifs, 0⟩] scope pos) 0 (.ref I) (.ref D) C.env) R s := by
    refine codeT_compLoop (fun m s' => ∃ i vs, i ≤ xs.length ∧ m = xs.length - i ∧ Sat C (inv i) ω s' ∧ St i s'.heap ∧ s'.heap.PlainList D vs.toArray ∧ RepAll (OO C ω) s'.heap vs ((List.range i).filterMap ys) ∧
      (∀ b ∈ fp, ¬ Md C ω b ∧ ¬ C.O₀ b ∧ ∃ o, s'.heap.get? b = some o) ∧ (∀ v a, Rep (OO C ω) s.heap v a → Rep (OO C ω) s'.heap v a)) ?_ xs.length
      ⟨0, [], Nat.zero_le _, rfl, S, st₀, hD, .nil, hfp, fun v a r => r⟩
    rintro m s' ⟨i, vs, hile, rfl, Si, sti, hDi, hvs, hfi, repi⟩
    have hwi : ∀ b ∈ wr, ¬ Own ω b ∧ ¬ C.O₀ b ∧ C.s₀.heap.get? b = none ∧ ∃ o, s'.heap.get? b = some o ∧ Solid o ∧ ¬ Val o := fun b hb =>
      ⟨fun q => (hfi b (hwr b hb).1).1 (.inl q), (hfi b (hwr b hb).1).2.1, (hwr b hb).2, alive i _ sti b hb⟩
    have val2 : ∀ {h₂ : Heap}, (∀ b o, b ∉ wr → s'.heap.get? b = some o → h₂.get? b = some o) → ∀ b o, s'.heap.get? b = some o → Val o → h₂.get? b = some o := fun hk₂ b o e so => hk₂ b o (fun q => by
      obtain ⟨_, _, _, o', e', _, nv⟩ := hwi b q
      rw [e] at e'; cases e'; exact nv so) e
    have hDw : D ∉ wr := fun q => (hwi D q).2.1 hDO
    refine wpT_of ?_
    by_cases hlt : i < xs.length
    · refine W.item i s' _ _ hlt sti fun v h₂ tk₂ hPv st₂ hk₂ => ?_
      have St2 : Sat C (inv i) ω { s' with heap := h₂, toks := tk₂ } := Si.turn hk₂ hwi
      obtain ⟨σ', τ', up, hso, hwk⟩ := step i xs[i] (List.getElem?_eq_getElem hlt)
      have rv : Rep (OO C ω) h₂ v xs[i] := (repi _ _ (hP i v _ hPv (List.getElem?_eq_getElem hlt))).keepV fun b o e so n => ⟨n, val2 hk₂ b o e so⟩
      refine T_assign_Name (wpT_of (store_any G St2 hx fun h₃ tk₃ k₃ => ?_))
      have S3 : Sat C σ' ω { s' with heap := h₃, toks := tk₃ } := St2.stored_pure k₃ up rv
      have hD3 : h₃.PlainList D vs.toArray := by
        obtain ⟨n, e⟩ := hDi
        exact ⟨n, k₃.solid (hk₂ D _ hDw e) (solid_seq rfl)⟩
      have alive2 : ∀ b ∈ fp, ∃ o, h₂.get? b = some o := fun b hb => by
        by_cases q : b ∈ wr
        · obtain ⟨o, e, _⟩ := alive _ _ st₂ b q; exact ⟨o, e⟩
        · obtain ⟨_, _, o, e⟩ := hfi b hb; exact ⟨o, hk₂ b o q e⟩
      -- from h₂ on
      have k23 : ∀ b o, ¬ Md C ω b → h₂.get? b = some o → h₃.get? b = some o := fun b o n e => ((k₃.md (ω := ω)) b o n e).2
      have sol : ∀ b o, h₂.get? b = some o → Val o → ¬ OO C ω b → h₃.get? b = some o := fun b o e so n => k₃.solid e so.1
      refine tests_T C hso.1 S3 fun s₅ S₅ k₅ => ?_
      have k25 : ∀ b o, ¬ Md C ω b → h₂.get? b = some o → s₅.heap.get? b = some o := fun b o n e => k₅ b o (fun q => n (.inl q)) (k23 b o n e)
      have rep5 : ∀ {v a}, Rep (OO C ω) h₂ v a → Rep (OO C ω) s₅.heap v a := fun r => r.keepV fun b o e so n => ⟨n, k₅ b o (fun q => n (.inr q)) (sol b o e so n)⟩
      have rep2 : ∀ {v a}, Rep (OO C ω) s'.heap v a → Rep (OO C ω) h₂ v a := fun r => r.keepV fun b o e so n => ⟨n, val2 hk₂ b o e so⟩
      have hD5 : s₅.heap.PlainList D vs.toArray := by
        obtain ⟨n, e⟩ := hD3
        exact ⟨n, k₅ D _ hDn e⟩
      obtain ⟨_, hso2⟩ := hso
      cases ho : ys i with
      | none =>
        rw [ho] at hso2
        simp only [Option.isSome_none, Bool.false_eq_true, if_false]
        have : τ' = σ' := hso2
        subst this
        refine ⟨xs.length - (i + 1), by lia, i + 1, vs, hlt, rfl, S₅.wk hwk, W.frame _ _ _ st₂ fun b hb o e => k25 b o (hfi b hb).1 e, hD5, ?_, fun b hb => ?_, fun u a' ru => rep5 (rep2 (repi u a' ru))⟩
        · rw [filterMap_succ, ho]
          simp only [Option.toList_none, List.append_nil]
          exact ⟨hvs.1, fun i v x e1 e2 => rep5 (rep2 (hvs.2 i v x e1 e2))⟩
        · obtain ⟨o, e⟩ := alive2 b hb
          exact ⟨(hfi b hb).1, (hfi b hb).2.1, o, k25 b o (hfi b hb).1 e⟩
      | some y =>
        rw [ho] at hso2
        simp only [Option.isSome_some, if_true]
        refine hso2 ω s₅ _ _ S₅ fun u s₆ S₆ r₆ k₆ => wpT_of ?_
        have hD6 : s₆.heap.PlainList D vs.toArray := by
          obtain ⟨n, e⟩ := hD5
          exact ⟨n, k₆ D _ hDn e⟩
        have hvl : vs.length ≤ sizeLine := by
          rw [hvs.1]
          refine Nat.le_trans (List.length_filterMap_le _ _) ?_
          simp only [List.length_range]
          lia
        refine wpAny_list_append_plain hD6 (fun h₇ hp₇ hs₇ => ?_) (by simpa using hvl)
        have hpush : vs.toArray.push u = (vs ++ [u]).toArray := by simp
        rw [hpush] at hp₇
        have S7 : Sat C τ' ω { s₆ with heap := h₇, toks := s₆.toks } := S₆.side hs₇ hDO hDn hDs (fun o e => by obtain ⟨n, e'⟩ := hD6; rw [e'] at e; cases e; exact solid_seq rfl) ⟨_, hp₇.choose_spec⟩
        have r67 : ∀ {v a}, Rep (OO C ω) s₆.heap v a → Rep (OO C ω) h₇ v a := fun r => r.keepV fun b o e so n => ⟨n, (hs₇.2 b fun q => n (.inl (q ▸ hDO))).trans e⟩
        have r27 : ∀ {v a}, Rep (OO C ω) h₂ v a → Rep (OO C ω) h₇ v a := fun r => r67 ((rep5 r).keepV fun b o e so n => ⟨n, k₆ b o (fun q => n (.inr q)) e⟩)
        have k27 : ∀ b o, ¬ Md C ω b → b ≠ D → h₂.get? b = some o → h₇.get? b = some o := fun b o n nd e => (hs₇.2 b nd).trans (k₆ b o (fun q => n (.inl q)) (k25 b o n e))
        have hfD : ∀ b ∈ fp, b ≠ D := fun b hb q => (hfi b hb).2.1 (q ▸ hDO)
        refine ⟨xs.length - (i + 1), by lia, i + 1, vs ++ [u], hlt, rfl, S7.wk hwk, W.frame _ _ _ st₂ fun b hb o e => k27 b o (hfi b hb).1 (hfD b hb) e, hp₇, ?_, fun b hb => ?_, fun u a' ru => r27 (rep2 (repi u a' ru))⟩
        · rw [filterMap_succ, ho]
          exact RepAll.append ⟨hvs.1, fun i v x e1 e2 => r27 (rep2 (hvs.2 i v x e1 e2))⟩ (.cons (r67 r₆) .nil)
        · obtain ⟨o, e⟩ := alive2 b hb
          exact ⟨(hfi b hb).1, (hfi b hb).2.1, o, k27 b o (hfi b hb).1 (hfD b hb) e⟩
    · have hin : i = xs.length := by lia
      subst hin
      refine W.done s' _ _ sti fun h₂ tk₂ hk₂ => ?_
      refine hR _ vs (Si.turn hk₂ hwi) ?_ ⟨hvs.1, fun i v x e1 e2 => (hvs.2 i v x e1 e2).keepV fun b o e so n => ⟨n, val2 hk₂ b o e so⟩⟩
      obtain ⟨n, e⟩ := hDi
      exact ⟨n, hk₂ D _ hDw e⟩
  exact codeT_compStart rfl loop (wpT_of (W.self 0 s _ _ st₀ loop))

theorem relabN_lookup {kd : Str → Option NameKind} {x : Str} {k : NameKind} : ∀ (names : List (Str × NameKind)), names.lookup x = some k → k ≠ .free → (relabN names kd).lookup x = some k
  | (n, k') :: r, h, hk => by
    unfold relabN
    simp only [List.map_cons]
    rw [List.lookup_cons] at h
    by_cases hq : (x == n) = true
    · rw [hq] at h
      have : k' = k := Option.some.inj h
      subst this
      have : (k' == NameKind.free) = false := by simpa using hk
      simp [this, List.lookup_cons, hq]
    · have hq' : (x == n) = false := by simpa using hq
      rw [hq'] at h
      have := relabN_lookup (kd := kd) r h hk
      unfold relabN at this
      split <;> simp only [List.lookup_cons, hq'] <;> exact this

/-- what a comprehension asks of its scope -/
structure CompScope (C : Cx) (σ : St) (scope : Scope) (x : Str) : Prop where
  free : ∀ p ∈ scope.names, p.2 = .free → p.1 ∈ C.mine ∨ (C.kd p.1 ≠ some .local ∧ ∃ b, Lk p.1 σ b)
  kind : scope.kind = .function
  names : ∀ x ∈ scope.names, x.2 = .local → scope.names.lookup x.1 = some .local
  mine : ((ownCells scope).all fun x => scope.names.lookup x == some .cell) = true
  x : scope.names.lookup x = some .local ∨ scope.names.lookup x = some .cell

theorem comp_closure (G : GCx C) (S : Sat C σ ω s) {scope : Scope} (h : ∀ p ∈ scope.names, p.2 = .free → p.1 ∈ C.mine ∨ (C.kd p.1 ≠ some .local ∧ ∃ b, Lk p.1 σ b)) :
    ∃ cl, closureFor scope C.env = pure cl ∧ (∀ p ∈ scope.names, p.2 = .free → cl.lookup p.1 = C.env.cells.lookup p.1) := by
  obtain ⟨cl, h1, h2, _⟩ := closure_ok scope C.env fun p hp hf => by
    rcases h p hp hf with q | ⟨q, b, hl⟩
    · obtain ⟨a, v, e, _⟩ := S.cell _ q; exact ⟨a, e⟩
    · obtain ⟨v, h1, _⟩ := S.names _ b hl
      rcases h1 with ⟨k, _⟩ | ⟨_, a, hc, _⟩
      · rw [G.kd] at k; exact absurd k q
      · exact ⟨a, hc⟩
  exact ⟨cl, h1, h2⟩

/-- up to the comprehension's last turn -/
theorem comp_run (G : GCx C) {x : Str} {px : Pos} {elt iter : Expr} {ifs : List Expr} {scope : Scope} {pos : Pos} {a : AV} {xs : List AV} {σ₁ : St} (N : List Str) (inv : Nat → St) (ys : Nat → Option AV)
    (sc : CompScope C σ scope x) (he : EvE C σ iter a σ₁) (hi : Items a xs) (hh : C.A.handled = none)
    (hseen : ∀ y b, Lk y (inv 0) b → Seen C scope y ∧ Lk y σ₁ b ∧ ∀ m, b = .own m → y ∈ N)
    (step : ∀ C', CompOf C C' scope → ∀ i v, xs[i]? = some v → ∃ σ' τ', Up x (.pure v) (inv i) σ' ∧ StepOk C' σ' ifs elt (ys i) τ' ∧ Wk τ' (inv (i + 1)))
    (hend : ∀ y b, Lk y τ b → (∃ m m₀, b = .own m ∧ Lk y (inv xs.length) (.own m) ∧ Seen C scope y ∧ Lk y σ₁ (.own m₀)) ∨ (y ∉ N ∧ Lk y σ₁ b))
    {use : Option (Value → Sem Unit)} {Q : Value → Shared → Prop} {E : Value → Shared → Prop} (S : Sat C σ ω s)
    (h : ∀ L D s', (∀ h', Heap.SameBut L s'.heap h' → ∀ tk, Sat C τ ω { s' with heap := h', toks := tk } ∧ KB (Own ω) s.heap h' ∧ Rep (OO C ω) h' (.ref D) (.list ((List.range xs.length).filterMap ys))) →
      (∃ m, s'.heap.Ns L m) → s.heap.get? L = none → L ≠ C.env.locals → C.s₀.heap.get? L = none → ¬ OO C ω L → PostT C.M C.A E use Q (.ref D) L (.ok .next) s') (hz : xs.length ≤ sizeLine)
    (hs : ∀ env x, foldedSetIterable iter env x = pure x := by intro _ _; rfl) :
    wpT C.M C.A (comprehension (.ListComp elt [⟨.Name x px, iter, ifs, 0⟩] scope pos) scope C.env (firstIterPos [⟨.Name x px, iter, ifs, 0⟩] pos) (newList []) false (eval iter C.env) use) Q E s := by
  obtain ⟨cl, hcl, hcl'⟩ := comp_closure G S sc.free
  refine T_comp (g := ⟨.Name x px, iter, ifs, 0⟩) (gs := []) rfl (hs _) hcl sc.kind sc.names ?_
  refine he ω s _ E S fun va s₁ S₁ r₁ k₁ => wpT_of (iter_walks hi hh S₁.al r₁ fun I fp wr P St h₁ W st₀ ext hfp hP alive => wpT_of (wpAny_newList ?_))
  let s₃ : Shared := { s₁ with heap := h₁.push { cls := .type "list", data := .seq ([] : List Value).toArray } }
  refine wpT_of (newEnv_comp (s := s₃) ?_)
  have e13 : Ext s₁.heap s₃.heap := ext.trans (.push _ _)
  have hD : s₁.heap.get? h₁.objs.size = none := by
    cases q : s₁.heap.get? h₁.objs.size with
    | none => rfl
    | some o => have := ext _ _ q; rw [get_size] at this; cases this
  have hDo : s₃.heap.get? h₁.objs.size = some { cls := .type "list", data := .seq ([] : List Value).toArray } := Heap.get?_push_size _ rfl
  let ωv := ω.filter fun p => decide (p.1 ∈ N)
  have hvω : ∀ p, p ∈ ωv → p ∈ ω := fun p hp => (List.mem_filter.mp hp).1
  obtain ⟨S₄, e34, hL, hcells⟩ := comp_enter (scope := scope) (s₃ := s₃) (ωv := ωv) (D := h₁.objs.size) (cl := cl) (σv := inv 0) G S₁ hvω ⟨_, _, rfl⟩ e13 hD ⟨_, hDo⟩ hcl' sc.mine
    (fun y b hl => let ⟨q1, q2, q3⟩ := hseen y b hl; ⟨q1, q2, fun m a e hm => List.mem_filter.mpr ⟨hm, by simpa using q3 m e⟩⟩)
  have hv : ∀ b, Own ωv b → Own ω b := fun b ⟨x, p⟩ => ⟨x, hvω _ p⟩
  have hC := comp_of (D := h₁.objs.size) (L := s₃.heap.objs.size) (cells := cellsFrom (s₃.heap.objs.size + 1) scope.names cl) G S₁ hv sc.kind
  let C' := compCx C scope s₁ ω ωv h₁.objs.size s₃.heap.objs.size (cellsFrom (s₃.heap.objs.size + 1) scope.names cl)
  have hLD : s₃.heap.objs.size ≠ h₁.objs.size := fun q => by rw [← q, get_size] at hDo; cases hDo
  have hDOO : ¬ OO C ω h₁.objs.size := fun q => by
    obtain ⟨o, e⟩ := S₁.al _ q; rw [hD] at e; cases e
  have hLOO : ¬ OO C ω s₃.heap.objs.size := fun q => by
    obtain ⟨o, e⟩ := S₁.al _ q; rw [hL] at e; cases e
  have hOO : ∀ b, OO C' ωv b ↔ OO C ω b ∨ b = h₁.objs.size := fun b => ⟨fun q => q.elim id fun q => .inl (.inr (hv b q)), .inl⟩
  have toC' : ∀ {v a}, Rep (OO C ω) s₁.heap v a → Rep (OO C' ωv) (pushCells (s₃.heap.push { cls := .type "dict", data := .dict #[] }) scope.names) v a := fun r => r.keepV fun b o e so n =>
    ⟨fun q => ((hOO b).mp q).elim n (fun q => by rw [q, hD] at e; cases e), e34 _ _ (e13 _ _ e)⟩
  have mdL : ∀ b o, (pushCells (s₃.heap.push { cls := .type "dict", data := .dict #[] }) scope.names).get? b = some o → Solid o → ¬ OO C ω b → ¬ Md C' ωv b := by
    rintro b o e so n (q | q | ⟨y, hy, q⟩)
    · exact n (.inr (hv b q))
    · obtain ⟨m, hm⟩ := S₄.loc
      rw [← q] at hm
      exact not_solid_ns hm e so
    · obtain ⟨a2, v2, q1, q2, _⟩ := S₄.cell y hy
      rw [q] at q1; cases q1
      exact not_solid_cell q2 e so
  refine comp_loop (C := C') (I := I) (D := h₁.objs.size) (fp := fp) (wr := wr) (P := P) (St := St) hC.G W inv ys S₄ (W.frame _ _ _ st₀ fun b hb o e => e34 _ _ (Heap.get?_push_of_some _ e)) ⟨_, e34 _ _ hDo⟩ (.inr rfl)
    (fun q => hDOO (.inr (hv _ q))) hD (fun b hb => ?_) (fun b hb => ⟨hfp.2.2 b hb, hfp.2.1 b hb⟩) alive (fun i v x hp hx => toC' (hP i v x hp hx)) ?_ (step C' hC) hz ?_
  · obtain ⟨o, e, so, n⟩ := hfp.1 b hb
    have e4 := e34 _ _ (Heap.get?_push_of_some { cls := .type "list", data := .seq ([] : List Value).toArray } e)
    refine ⟨mdL b o e4 so n, fun q => ?_, o, e4⟩
    rcases q with q | q
    · exact n q
    · subst q; rw [get_size] at e; cases e
  · rcases sc.x with q | q
    · exact .inl (relabN_lookup _ q (by intro e; cases e))
    · exact .inr ⟨relabN_lookup _ q (by intro e; cases e), List.mem_map.mpr ⟨(x, .cell), List.mem_filter.mpr ⟨mem_of_lookup q, rfl⟩, rfl⟩⟩
  · intro s' vs Se hDe hve
    have hLs : s.heap.get? s₃.heap.objs.size = none := by
      cases q : s.heap.get? s₃.heap.objs.size with
      | none => rfl
      | some o =>
        by_cases p : Own ω s₃.heap.objs.size
        · exact absurd (.inr p) hLOO
        · have := k₁ _ _ p q; rw [hL] at this; cases this
    refine h s₃.heap.objs.size h₁.objs.size s' (fun h' hs' tk => ?_) Se.loc hLs (fun q => ?_) ?_ hLOO
    · obtain ⟨S', kb⟩ := S₁.after G (τ := τ) hvω Se hL hs' (tk := tk) N (fun x a hp => by simpa using (List.mem_filter.mp hp).2) fun y b hl => by
        rcases hend y b hl with ⟨m, m₀, q1, q2, q3, q4⟩ | q
        · exact .inl ⟨m, q2, q1, q3, hcells y q3, m₀, q4⟩
        · exact .inr q
      refine ⟨S', k₁.trans kb, ?_⟩
      have hk : ∀ b o, s'.heap.get? b = some o → Val o → ¬ OO C' ωv b → (¬ OO C ω b ∧ h'.get? b = some o) := fun b o e so n => ⟨fun q => n ((hOO b).mpr (.inl q)), (hs'.2 b fun q => by
        subst q
        obtain ⟨m, hm⟩ := Se.loc
        exact not_solid_ns hm e so.1).trans e⟩
      have hr := hve.keepV hk
      obtain ⟨n, e⟩ := hDe
      exact .list _ vs _ ⟨n, (hs'.2 _ hLD.symm).trans e⟩ hDOO hr.1 hr.2
    · obtain ⟨m, hm⟩ := S₁.loc
      rw [← q] at hm
      obtain ⟨o, _, _, e, _⟩ := hm
      rw [hL] at e; cases e
    · cases q : C.s₀.heap.get? s₃.heap.objs.size with
      | none => rfl
      | some o =>
        by_cases p : C.ext s₃.heap.objs.size
        · exact absurd (.inr (S₁.ext _ p)) hLOO
        · have := S₁.base _ _ q p; rw [hL] at this; cases this

theorem ev_comp (G : GCx C) {x : Str} {px : Pos} {elt iter : Expr} {ifs : List Expr} {scope : Scope} {pos : Pos} {a : AV} {xs : List AV} {σ₁ : St} (N : List Str) (inv : Nat → St) (ys : Nat → Option AV)
    (sc : CompScope C σ scope x) (he : EvE C σ iter a σ₁) (hi : Items a xs) (hh : C.A.handled = none)
    (hseen : ∀ y b, Lk y (inv 0) b → Seen C scope y ∧ Lk y σ₁ b ∧ ∀ m, b = .own m → y ∈ N)
    (step : ∀ C', CompOf C C' scope → ∀ i v, xs[i]? = some v → ∃ σ' τ', Up x (.pure v) (inv i) σ' ∧ StepOk C' σ' ifs elt (ys i) τ' ∧ Wk τ' (inv (i + 1)))
    (hend : ∀ y b, Lk y τ b → (∃ m m₀, b = .own m ∧ Lk y (inv xs.length) (.own m) ∧ Seen C scope y ∧ Lk y σ₁ (.own m₀)) ∨ (y ∉ N ∧ Lk y σ₁ b)) (hz : xs.length ≤ sizeLine)
    (hs : ∀ env x, foldedSetIterable iter env x = pure x := by intro _ _; rfl) :
    EvE C σ (.ListComp elt [⟨.Name x px, iter, ifs, 0⟩] scope pos) (.list ((List.range xs.length).filterMap ys)) τ := fun ω s Q E S h =>
  comp_run G N inv ys sc he hi hh hseen step hend S (fun L D s' hafter hL _ _ _ _ => ⟨hL.choose, hL.choose_spec, fun h' hs' => by
    obtain ⟨S', kb, r⟩ := hafter h' hs' s'.toks
    exact h (.ref D) _ S' r kb⟩) hz hs

/-- the comprehension's namespace goes -/
theorem Sat.letgo (S : Sat C σ ω s) {L : Addr} {h' : Heap} {tk : Nat} (hs : Heap.SameBut L s.heap h') (hn : ∃ m, s.heap.Ns L m) (hl : L ≠ C.env.locals) (hb : C.s₀.heap.get? L = none) (hO : ¬ OO C ω L) : Sat C σ ω { s with heap := h', toks := tk } := by
  obtain ⟨mL, hL⟩ := hn
  have sol : ∀ b o, s.heap.get? b = some o → Solid o → h'.get? b = some o := fun b o e so => (hs.2 b fun q => by subst q; exact not_solid_ns hL e so).trans e
  have cl : ∀ {a v}, s.heap.IsCell a v → h'.IsCell a v := fun {a v} c => by
    obtain ⟨o, e, d⟩ := id c
    exact ⟨o, (hs.2 a fun q => by subst q; exact ns_ne_cell hL c).trans e, d⟩
  have ns : ∀ {a m}, a ≠ L → s.heap.Ns a m → h'.Ns a m := fun {a m} n ⟨o, es, ep, e, d, r⟩ => ⟨o, es, ep, (hs.2 a n).trans e, d, r⟩
  refine ⟨let ⟨_, _, e⟩ := S.same; ⟨h', tk, by rw [e]⟩, fun b o e n => (hs.2 b fun q => by subst q; rw [hb] at e; cases e).trans (S.base b o e n), S.ext, fun b p => let ⟨o, e, so⟩ := S.ins b p; ⟨o, sol b o e so, so⟩,
    S.new, S.apart, fun b p => let ⟨o, e⟩ := S.outer b p; ⟨o, (hs.2 b fun q => hO (.inl (q ▸ p))).trans e⟩, S.off, fun y c hl' => ?_, let ⟨m, n⟩ := S.loc; ⟨m, ns hl.symm n⟩, S.locnew,
    fun y hy => let ⟨a, v, h1, h2, h3⟩ := S.cell y hy; ⟨a, v, h1, cl h2, h3⟩, S.inj, S.en⟩
  obtain ⟨v, h1, h2⟩ := S.names y c hl'
  refine ⟨v, ?_, ?_⟩
  · rcases h1 with ⟨k, m, n, e⟩ | ⟨k, a, hc, n, q⟩
    · exact .inl ⟨k, m, ns hl.symm n, e⟩
    · exact .inr ⟨k, a, hc, cl n, q⟩
  · cases c with
    | pure p => exact Rep.keep (fun b o e so n => ⟨n, sol b o e so⟩) h2
    | own m =>
      obtain ⟨a, q1, q2, q3⟩ := h2
      exact ⟨a, q1, q2, q3.keepV (fun o e so => sol a o e so) fun b o e so n => ⟨n, sol b o e so.1⟩⟩

/-- a name takes the comprehension's list as it is let go -/
theorem ex_assign_comp (G : GCx C) {x y : Str} {px py : Pos} {elt iter : Expr} {ifs : List Expr} {scope : Scope} {pos spos : Pos} {a : AV} {xs : List AV} {σ₁ σ₂ : St} (N : List Str) (inv : Nat → St) (ys : Nat → Option AV)
    (sc : CompScope C σ scope x) (he : EvE C σ iter a σ₁) (hi : Items a xs) (hh : C.A.handled = none)
    (hseen : ∀ y b, Lk y (inv 0) b → Seen C scope y ∧ Lk y σ₁ b ∧ ∀ m, b = .own m → y ∈ N)
    (step : ∀ C', CompOf C C' scope → ∀ i v, xs[i]? = some v → ∃ σ' τ', Up x (.pure v) (inv i) σ' ∧ StepOk C' σ' ifs elt (ys i) τ' ∧ Wk τ' (inv (i + 1)))
    (hend : ∀ y b, Lk y σ₂ b → (∃ m m₀, b = .own m ∧ Lk y (inv xs.length) (.own m) ∧ Seen C scope y ∧ Lk y σ₁ (.own m₀)) ∨ (y ∉ N ∧ Lk y σ₁ b)) (hz : xs.length ≤ sizeLine)
    (hy : Stb C y) (up : Up y (.pure (.list ((List.range xs.length).filterMap ys))) σ₂ τ)
    (hw : swapsWith (.ListComp elt [⟨.Name x px, iter, ifs, 0⟩] scope pos) (some (.Name y py)) spos.line C.env = pure true)
    (hs : ∀ env x, foldedSetIterable iter env x = pure x := by intro _ _; rfl) :
    Ex C σ (.Assign [.Name y py] (.ListComp elt [⟨.Name x px, iter, ifs, 0⟩] scope pos) spos) .next τ := fun ω s Q E S h => by
  rw [exec_Assign_Name_used _ _ _ _ hw]
  refine wpT_bind (wpT_standAt (wpT_bind ?_))
  show wpT _ _ (comprehension (.ListComp elt [⟨.Name x px, iter, ifs, 0⟩] scope pos) scope C.env (firstIterPos [⟨.Name x px, iter, ifs, 0⟩] pos) (newList []) false (eval iter C.env) (some (assign (.Name y py) C.env)) >>= fun _ => pure ()) _ _ s
  refine wpT_bind (wpT_mono (comp_run (Q := fun _ s' => Q .next s') G N inv ys sc he hi hh hseen step hend S (fun L D s' hafter hL hLs hLl hLb hLO => ?_) hz hs) (fun _ s' q => wpT_pure (wpT_pure q)) fun _ _ e => e)
  obtain ⟨S', kb, r⟩ := hafter s'.heap ⟨rfl, fun _ _ => rfl⟩ s'.toks
  refine T_assign_Name (wpT_of (store_any G S' hy fun h'' tk k => ?_))
  have S'' := S'.stored_pure (tk := tk) k up r
  have hL'' : ∃ m, h''.Ns L m := by
    obtain ⟨m, hm⟩ := hL
    obtain ⟨a', hs', ha, hn', q⟩ := k.touch
    refine ⟨m, hm.sameBut hs' fun e => ?_⟩
    rcases q with q | ⟨z, hz, q⟩
    · exact hLl (e.trans q)
    · obtain ⟨a2, v2, q1, q2, _⟩ := S'.cell z hz
      rw [q] at q1; cases q1
      exact ns_ne_cell (e ▸ hm) q2
  obtain ⟨m, hm⟩ := hL''
  refine ⟨m, hm, fun h₃ hs₃ => h _ _ ω (S''.letgo (tk := tk) hs₃ ⟨m, hm⟩ hLl hLb hLO) trivial fun b o n e => ⟨n, ?_⟩⟩
  refine (hs₃.2 b fun q => by subst q; rw [hLs] at e; cases e).trans ?_
  exact ((k.md (ω := ω)) b o n (kb b o (fun q => n (.inl q)) e)).2
end
end Mine
end
section
open PySem PySem.W PyProof.Rows PySem.Calls
set_option Elab.async false
set_option linter.unusedVariables false
set_option linter.unusedSimpArgs false
namespace Mine
section
variable {C : Cx} {σ τ : St} {ω ω' : List (Str × Addr)} {s : Shared}

inductive Ups : List Str → List AV → St → St → Prop where
  | nil {σ : St} : Ups [] [] σ σ
  | cons {x : Str} {a : AV} {ns : List Str} {as : List AV} {σ σ₁ τ : St} (u : Up x (.pure a) σ σ₁) (r : Ups ns as σ₁ τ) : Ups (x :: ns) (a :: as) σ τ

theorem names_assign (G : GCx C) : ∀ (ns : List (Str × Pos)) (vs : List Value) (as : List AV) {σ : St} {s : Shared} {Q : Unit → Shared → Prop} {E : Value → Shared → Prop}, Ups (ns.map (·.1)) as σ τ → RepAll (OO C ω) s.heap vs as → Sat C σ ω s → (∀ x ∈ ns, Stb C x.1) →
    (∀ s', Sat C τ ω s' → KB2 (Md C ω) (Md C ω) s.heap s'.heap → Q () s') → wpT C.M C.A (assignInOrder (ns.map fun p => assign (.Name p.1 p.2) C.env) vs) Q E s
  | [], vs, as, σ, s, Q, E, u, r, S, hx, h => by
    cases u
    have : vs = [] := r.inv_nil
    subst this
    exact wpT_pure (h s S (.refl _ _))
  | (x, p) :: ns, vs, as, σ, s, Q, E, u, r, S, hx, h => by
    cases u with | cons u ur =>
    obtain ⟨v, vs', rfl, rv, r'⟩ := r.inv
    show wpT _ _ (holding vs' (assign (.Name x p) C.env v) >>= fun _ => assignInOrder _ vs') _ _ _
    refine wpT_bind (wpT_holding (T_assign_Name (wpT_of (store_any G S (hx _ (List.mem_cons_self ..)) fun h' tk k => ?_))))
    exact names_assign G ns vs' _ ur (r'.keep fun b o e so n => ⟨n, k.solid e so⟩) (S.stored_pure k u rv) (fun y hy => hx y (List.mem_cons_of_mem _ hy)) fun s' S' k' => h s' S' (k.md.trans k')

/-- a, b, … = a tuple or a list -/
theorem ex_unpack (G : GCx C) {ns : List (Str × Pos)} {elts : List Expr} {k : Nat} {p q : Pos} {e : Expr} {a : AV} {as : List AV} {σ₁ : St} (he : EvE C σ e a σ₁) (ha : a = .tuple as ∨ a = .list as) (hh : C.A.handled = none)
    (hn : assignEach elts C.env = ns.map fun p => (false, assign (.Name p.1 p.2) C.env)) (hlen : ns.length = as.length) (hx : ∀ x ∈ ns, Stb C x.1) (up : Ups (ns.map (·.1)) as σ₁ τ)
    (hw : swapsWithSole [.Tuple elts k p] e q.line C.env = pure false := by rfl) (hs : swappedStores [.Tuple elts k p] e C.env = pure none := by rfl) :
    Ex C σ (.Assign [.Tuple elts k p] e q) .next τ := fun ω s Q E S h => by
  refine T_Assign (he ω s _ E S fun v s₁ S₁ r₁ k₁ => ?_) hw hs rfl
  have hl : (assignEach elts C.env).length = as.length := by rw [hn]; simpa using hlen
  have hstar : (assignEach elts C.env).findIdx? (·.1) = none := by
    rw [hn, List.findIdx?_eq_none_iff]; simp
  have hmap : (assignEach elts C.env).map (·.2) = ns.map fun p => assign (.Name p.1 p.2) C.env := by rw [hn]; simp
  have go : ∀ (r : Addr) (vs : List Value), vs.length = as.length → RepAll (OO C ω) s₁.heap vs as → ∀ h', Heap.ExtBut s₁.heap.objs.size s₁.heap h' →
      wpT C.M C.A (assignInOrder ((assignEach elts C.env).map (·.2)) vs) (fun _ => Q .next) E { s₁ with heap := h' } := fun r vs hv hr h' he' => by
    rw [hmap]
    have ext : Ext s₁.heap h' := fun b o e => he' b o (Nat.ne_of_lt (Heap.lt_size e)) e
    exact names_assign G ns vs as up (hr.ext ext) (S₁.move (tk := s₁.toks) ext) hx fun s' S' k' => h .next s' ω S' trivial ((k₁.trans ext.kb).toMd.trans k')
  rcases ha with rfl | rfl
  · cases r₁ with | tuple r vs l hl' ho hn' hi =>
    rw [arm_assign_Tuple]
    refine wpT_bind (wpT_standAt ?_)
    unfold unpack
    rw [show (assignEach elts C.env).length = vs.toArray.size by rw [hl]; simp [hn'], hstar]
    refine wpT_bind (wpT_holding (wpT_of (wpAny_unpackItems_tuple hh hl' fun h' he' => ?_)))
    exact go r vs hn' ⟨hn', hi⟩ h' he'
  · cases r₁ with | list r vs l hl' ho hn' hi =>
    rw [arm_assign_Tuple]
    refine wpT_bind (wpT_standAt ?_)
    unfold unpack
    rw [show (assignEach elts C.env).length = vs.toArray.size by rw [hl]; simp [hn'], hstar]
    refine wpT_bind (wpT_holding (wpT_of (PySem.W.kun_itemsOf hh hl'.isList fun h' he' => ?_)))
    exact go r vs hn' ⟨hn', hi⟩ h' he'
end
end Mine
end
section
open PySem PySem.W PyProof.Rows PySem.Calls
set_option Elab.async false
set_option linter.unusedVariables false
set_option linter.unusedSimpArgs false
namespace Mine
section
variable {C C' : Cx} {σ τ : St} {ω ω' : List (Str × Addr)} {s : Shared}

theorem Lk.of {x : Str} {b : Bind} : ∀ {σ : St}, σ.lookup x = some b → Lk x σ b
  | (y, c) :: σ, h => by
    rw [List.lookup_cons] at h
    by_cases q : (x == y) = true
    · rw [q] at h; cases h
      have := beq_iff_eq.mp q
      subst this; exact .here
    · have q' : (x == y) = false := by simpa using q
      rw [q'] at h
      exact .there q' (Lk.of h)
noncomputable def upd (x : Str) (b : Bind) : St → St
  | [] => [(x, b)]
  | (y, c) :: σ => if x == y then (x, b) :: σ else (y, c) :: upd x b σ
theorem up_upd {x : Str} {b : Bind} : ∀ {σ : St}, Up x b σ (upd x b σ)
  | [] => .nil
  | (y, c) :: σ => by
    unfold upd
    by_cases q : (x == y) = true
    · have := beq_iff_eq.mp q
      subst this
      rw [if_pos q]; exact .here
    · have q' : (x == y) = false := by simpa using q
      rw [q']; exact .there q' up_upd
/-- the new binding in front: enough for what follows -/
theorem up_wk {x : Str} {b : Bind} : Wk (upd x b σ) ((x, b) :: σ) := fun y c h => by
  induction σ with
  | nil => exact h
  | cons p σ ih =>
    obtain ⟨z, d⟩ := p
    unfold upd
    by_cases q : (x == z) = true
    · have := beq_iff_eq.mp q
      subst this
      rw [if_pos q]
      cases h with
      | here => exact .here
      | there ne h => cases h with
        | here => simp at ne
        | there _ h => exact .there ne h
    · have q' : (x == z) = false := by simpa using q
      rw [q']
      cases h with
      | here => exact .there q' (ih .here)
      | there ne h => cases h with
        | here => exact .here
        | there ne' h => exact .there ne' (ih (.there ne h))

theorem exs_of {b ss : List Stmt} {st : Stmt} {r : Res} {σ₁ : St} (e : b = st :: ss) (h₁ : Ex C σ st .next σ₁) (h₂ : Exs C σ₁ ss r τ) : Exs C σ b r τ := e ▸ exs_cons h₁ h₂
theorem exs_of_ret {b ss : List Stmt} {st : Stmt} {a : AV} (e : b = st :: ss) (h₁ : Ex C σ st (.ret a) τ) : Exs C σ b (.ret a) τ := e ▸ exs_ret h₁
theorem exs_as {b b' : List Stmt} {r : Res} (e : b = b') (h : Exs C σ b' r τ) : Exs C σ b r τ := e ▸ h

theorem stb_local {names : List (Str × NameKind)} {x : Str} (h : C.kd = fun x => names.lookup x) (e : names.lookup x = some .local) : Stb C x := .inl (by rw [h]; exact e)
theorem stb_cell {sc : Scope} {x : Str} (h : C.kd = fun x => sc.names.lookup x) (m : C.mine = ownCells sc) (e : sc.names.lookup x = some .cell) : Stb C x :=
  .inr ⟨by rw [h]; exact e, by rw [m]; exact List.mem_map.mpr ⟨(x, .cell), List.mem_filter.mpr ⟨mem_of_lookup e, rfl⟩, rfl⟩⟩

/-- what a walk knows of its context -/
structure Gl (p : Program) (free : List Str) (C : Cx) (dd uu : Nat) : Prop where
  G : GCx C
  funs : Funs C (recsOf p)
  free : ∀ x ∈ free, C.mg x = none
  handled : C.A.handled = none
  depth : C.A.depth ≤ dd
  units : C.A.units ≤ uu
theorem Gl.callee {p : Program} {fr : List Str} {dd uu : Nat} {d : DefRec} (g : Gl p fr C dd uu) (h : CalleeOf C C' d) : Gl p fr C' (dd + 1) (uu + 3) :=
  ⟨h.G, h.funs _ g.funs, fun x hx => by rw [h.mg]; exact g.free x hx, h.handled.trans g.handled, by rw [h.depth]; exact Nat.succ_le_succ g.depth, by rw [h.units]; exact Nat.add_le_add_right g.units 3⟩
theorem Gl.comp {p : Program} {fr : List Str} {dd uu : Nat} {sc : Scope} (g : Gl p fr C dd uu) (h : CompOf C C' sc) : Gl p fr C' dd uu :=
  ⟨h.G, h.funs _ g.funs, fun x hx => by rw [h.mg]; exact g.free x hx, by rw [h.A]; exact g.handled, by rw [h.A]; exact g.depth, by rw [h.A]; exact g.units⟩
theorem Gl.builtin {p : Program} {fr : List Str} {dd uu : Nat} {x : Str} {v : Value} (g : Gl p fr C dd uu) (hk : C.kd x = some .globalImplicit) (hx : fr.contains x = true) (hn : x ≠ "__name__") (hb : bootBuiltins x = some v) : Gn C x v :=
  ⟨hk, .inr ⟨g.free x (List.contains_iff_mem.mp hx), hn, hb⟩⟩
theorem kd_fn {names : List (Str × NameKind)} {x : Str} {k : NameKind} (h : C.kd = fun x => names.lookup x) (e : names.lookup x = some k) : C.kd x = some k := by rw [h]; exact e

theorem truth_true {a : Int} (h : a ≠ 0) : Truth C (.int a) true := by
  have := truth_int (C := C) (a := a)
  rwa [show (a != 0) = true by simpa using h] at this
theorem truth_false {a : Int} (h : a = 0) : Truth C (.int a) false := by
  have := truth_int (C := C) (a := a)
  rwa [show (a != 0) = false by simpa using h] at this
theorem EvE.cast {a b : AV} {e : Expr} (h : EvE C σ e a τ) (x : a = b) : EvE C σ e b τ := x ▸ h
theorem Op2.cast {op : Operator} {a b c d : AV} (h : Op2 C op a b c) (x : c = d) : Op2 C op a b d := x ▸ h
theorem Fn.cast {f : Value} {as : List AV} {c d : AV} (h : Fn C f as c) (x : c = d) : Fn C f as d := x ▸ h
theorem Wk.eq {σ τ : St} (h : σ = τ) : Wk σ τ := h ▸ .refl _
theorem exs_done {b : List Stmt} (e : b = []) (h : Wk σ τ) : Exs C σ b .next τ := e ▸ exs_post exs_nil h
theorem exs_ret_of {b ss : List Stmt} {x : Expr} {p : Pos} {a : AV} {σ₁ : St} (e : b = .Return (some x) p :: ss) (he : EvE C σ x a σ₁) : Exs C σ b (.ret a) [] := e ▸ exs_ret (ex_post (ex_ret he) .nil)
end
end Mine
end
section
open PySem PySem.W PyProof.Rows PySem.Calls
set_option Elab.async false
set_option linter.unusedVariables false
set_option linter.unusedSimpArgs false
set_option maxRecDepth 100000
namespace Mine
theorem decs_holders {id : String} (h : holders.contains id = false) : Builtin.Bytes.decodersThatHold.contains id = false := by
  cases q : Builtin.Bytes.decodersThatHold.contains id with
  | false => rfl
  | true =>
    have : holders.contains id = true := by
      unfold holders
      rw [List.contains_iff_mem] at q ⊢
      exact List.mem_append_left _ q
    rw [h] at this; cases this
theorem wpT_stack {M : Model} {A : Around} {E : Value → Shared → Prop} {s : Shared} {Q : List (Code × Pos) → Shared → Prop} (h : ∀ l, (∀ x ∈ l, nodec x.1 = true) → Q l s) : wpT M A stack Q E s := by
  refine ⟨fun Γ p k => ?_⟩
  show Q ((Γ.code, p) :: Γ.below) s
  refine h _ fun x hx => ?_
  rcases List.mem_cons.mp hx with rfl | hx
  · exact k.2.1
  · exact k.2.2 x hx
theorem nodec_no {id : String} {args : Args} (hn : nodec (.builtin id args) = true) (h : holders.contains id = true) : False := by
  have : (!holders.contains id) = true := hn
  rw [h] at this; cases this
theorem any_q {α : Type} {l : List α} {f : α → Bool} {Q : Bool → Shared → Prop} {s : Shared} (hq : Q false s) (h : ∀ x ∈ l, f x = false) : Q (l.any f) s := by
  rw [List.any_eq_false.mpr fun x hx => by rw [h x hx]; exact Bool.false_ne_true]; exact hq
theorem wpT_exported {M : Model} {A : Around} {E : Value → Shared → Prop} {s : Shared} {self : Value} {Q : Bool → Shared → Prop} (h : Q false s) : wpT M A (Builtin.Bytes.exported self) Q E s := by
  unfold Builtin.Bytes.exported
  refine wpT_bind (wpT_stack fun l hall => wpT_pure ?_)
  refine any_q h fun x hx => ?_
  have hn := hall x hx
  clear hall hx h
  obtain ⟨c, q⟩ := x
  cases c with
  | builtin id args =>
    have no : ∀ x, holders.contains x = true → ¬ id = x := fun x hx e => by subst e; exact nodec_no hn hx
    have hid : Builtin.Bytes.decodersThatHold.contains id = false := decs_holders (by simpa [nodec] using hn)
    obtain ⟨pos, kw⟩ := args
    delta Builtin.Bytes.exported.match_1
    refine Eq.trans (show _ = dite _ _ _ from rfl) ((dif_neg (no _ (by decide +kernel))).trans <| (dif_neg (no _ (by decide +kernel))).trans <| (dif_neg (no _ (by decide +kernel))).trans <| (dif_neg (no _ (by decide +kernel))).trans <| (dif_neg (no _ (by decide +kernel))).trans ?_)
    cases pos with
    | nil => rfl
    | cons v t => exact (congrArg _ hid).trans (Bool.and_false _)
  | _ => rfl

section
variable {prog : Program} {w : World} {A : Around} {E : Value → Shared → Prop} {s : Shared} {R : Result → Shared → Prop}
theorem codeT_builtin {id : String} {args : Args} {b : Builtin} (hb : entryFor table id = some b) (hn : nodec (.builtin id args) = true)
    (h : wpT (model prog w) (A.under (.builtin id args)) (b args)
      (fun fin s' => match fin with | .done f => R (.ok f) s' | .again c' => c'.quiet = true ∧ codeT (model prog w) A c' R s') (fun e s' => R (.error e) s') s) : codeT (model prog w) A (.builtin id args) R s := by
  refine codeT_of_tree hn ?_
  show wpT _ _ (match entryFor table id with | some b => b args | none => unsupported ((withoutEnding? id "#data").getD id)) _ _ s
  rw [hb]; exact h
theorem codeT_call_builtin_code {id : String} {args : Args} (hq : (Code.builtin id args).quiet = true)
    (h : wpAny (model prog w) A.in1 (checkBuiltinCall id args) (fun _ s₁ => codeT (model prog w) A (.builtin id args) R s₁) (fun e s' => R (.error e) s') s) :
    codeT (model prog w) A (.call (.builtin id) args) R s := by
  refine codeT_of_tree rfl ?_
  show wpT _ A.in1 (do checkBuiltinCall id args; again (.builtin id args)) _ _ s
  exact wpT_bind (wpT_of (wpAny_mono h (fun _ s₁ h₁ => wpT_pure (And.intro hq h₁)) fun _ _ h' => h'))

theorem callT_type {T newId initId : String} {args : List Value} {Q Q₁ : Value → Shared → Prop} (ft : TypeCalled T newId initId)
    (hct : checkTypeCall T ⟨args, []⟩ = pure ())
    (hnew : codeAny (model prog w) A.in1 (.call (.builtin newId) ⟨.type T :: args, []⟩) (wants Q₁ E) s)
    (hnext : ∀ obj s₁, Q₁ obj s₁ → s₁.TypeIs obj T ∧ codeT (model prog w) A.in1 (.call (.builtin initId) ⟨obj :: args, []⟩) (wants (fun r s₂ => r = .none ∧ Q obj s₂) E) s₁) :
    wpT (model prog w) A (call (.type T) args) Q E s := by
  obtain ⟨c, tl, hmro⟩ := ft.mro
  have hmade := ft.made
  have hsub := ft.sub
  refine wpT_call (codeT_of_tree rfl ?_)
  show wpT _ _ (callAny (.type T) _) _ _ _
  refine wpT_pure ⟨Code.quiet_builtin _ (by decide +kernel), codeT_builtin F.entry_type_call (by show (!holders.contains "type.__call__") = true; decide +kernel) ?_⟩
  rw [Around.under_plain (weight_type_call_type T args []) rfl]
  have h1 := ft.notType
  have h2 := ft.canCreate
  unfold Builtin.«type.__call__»
  dsimp only
  simp only [h1, h2, Bool.false_eq_true, if_false]
  refine wpT_bind (wpT_of (wpAny_of_eq hct ?_))
  refine wpT_bind (wpT_of (wpAny_of_eq hmro ?_))
  rw [if_neg (by simp)]
  refine wpT_bind (wpT_of (wpAny_of_eq hmade ?_))
  dsimp only
  refine wpT_bind (wpT_pure ?_)
  refine wpT_bind (wpT_of (wpAny_holding (wpAny_call (codeAny_mono hnew fun r s₁ hr => ?_))))
  cases r with
  | error e => exact hr
  | ok fl =>
    cases fl with
    | ret obj =>
      obtain ⟨hT, hi⟩ := hnext _ _ hr
      have hli := ft.init.lookup
      have hbi := ft.init.bind obj
      refine wpT_bind (wpT_of (wpAny_isInstance hT hsub ?_))
      rw [if_neg (by simp)]
      refine wpT_bind (wpT_holding ?_)
      unfold callSpecial?
      refine wpT_bind (wpT_of (wpAny_specialOf hT hli ?_))
      dsimp only
      refine wpT_holding (wpT_bind (wpT_of (wpAny_of_eq hbi ?_)))
      dsimp only
      refine wpT_bind (wpT_call (codeT_mono hi fun r₂ s₂ hr₂ => ?_))
      cases r₂ with
      | error e => exact hr₂
      | ok fl₂ =>
        cases fl₂ with
        | ret r =>
          obtain ⟨rfl, hq⟩ := hr₂
          exact wpT_pure (wpT_of (wpAny_pure hq))
        | _ => exact hr₂.elim
    | _ => exact hr.elim
end
end Mine
end
section
open PySem PySem.W PyProof.Rows PySem.Calls
set_option Elab.async false
set_option linter.unusedVariables false
set_option linter.unusedSimpArgs false
set_option maxRecDepth 100000
namespace Mine
theorem ba_mro : mroOf (.type "bytearray") = pure [.type "bytearray", .type "object"] := by rw [mroOf_type]; kernel_rfl
theorem ba_new_look : typeLookup (.type "bytearray") "__new__" = pure (some (.builtin "bytearray.__new__")) := by rw [typeLookup_type, builtinLookup_eq_fast]; kernel_rfl
theorem ba_slot_init : Slot "bytearray" "__init__" "bytearray.__init__" :=
  .of (owner := "bytearray") (n := "__init__") (by rw [typeLookup_type, builtinLookup_eq_fast]; kernel_rfl) (by decide +kernel) (by decide +kernel) (by decide +kernel)
    (by first | exact .inl (by decide +kernel) | exact .inr (by decide +kernel)) (by rw [isSubtype_type]; kernel_rfl)
theorem ba_sub : isSubtype (.type "bytearray") (.type "bytearray") = pure true := by rw [isSubtype_type]; kernel_rfl
theorem ba_called : TypeCalled "bytearray" "bytearray.__new__" "bytearray.__init__" :=
  ⟨by decide +kernel, by decide +kernel, ⟨_, _, ba_mro⟩, madeBy_type ba_mro ba_new_look (by decide +kernel), by decide +kernel, ba_sub, ba_slot_init⟩
theorem ba_typeCall (a : Value) : checkTypeCall "bytearray" ⟨[a], []⟩ = pure () := by kernel_rfl
theorem ba_newCall (a : Value) : checkBuiltinCall "bytearray.__new__" ⟨[.type "bytearray", a], []⟩ = pure () := by kernel_rfl
theorem ba_entry_new : entryFor table "bytearray.__new__" = some Builtin.«list.__new__» :=
  entryFor_alias (id' := "list.__new__") (by rw [fastTable_eq_tree]; kernel_rfl) (by first | rfl | decide +kernel) (by decide +kernel) (by rw [fastTable_eq_tree]; kernel_rfl)
theorem ba_entry_init : entryFor table "bytearray.__init__" = some Builtin.«bytearray.__init__» := entryFor_of_tree (by kernel_rfl)
theorem ba_plain_new : plainId "bytearray.__new__" = true := by decide +kernel
set_option maxRecDepth 1000000 in
set_option maxHeartbeats 4000000 in
theorem ba_owner : ("bytearray.__new__".splitOn ".__new__").headD "" = "bytearray" := by simp +decide [String.splitOn, String.splitOnAux]
section
variable {prog : Program} {w : World} {A : Around} {E : Value → Shared → Prop} {s : Shared}

theorem ba_code_new (a : Value) {Q₁ : Value → Shared → Prop}
    (h : Q₁ (.ref s.heap.objs.size) { s with heap := s.heap.push { cls := .type "bytearray", data := .bytearray #[] 0 } }) :
    codeAny (model prog w) A (.call (.builtin "bytearray.__new__") ⟨[.type "bytearray", a], []⟩) (wants Q₁ E) s := by
  refine codeAny_of_tree ?_
  show wpAny _ A.in1 (do checkBuiltinCall "bytearray.__new__" ⟨[.type "bytearray", a], []⟩; again (.builtin "bytearray.__new__" ⟨[.type "bytearray", a], []⟩)) _ _ s
  refine wpAny_bind (wpAny_of_eq (ba_newCall a) (wpAny_pure ⟨plainId_quiet ba_plain_new _, codeAny_builtin_stack ba_entry_new rfl fun p st => ?_⟩))
  rw [Around.under_plainId ba_plain_new _]
  have hsub := ba_sub
  have hown := ba_owner
  obtain ⟨hp, g, d, tk, os⟩ := s
  simp only [hown]
  wp_walk
  exact h

theorem ba_write {D : Addr} {b : Array UInt8} {f : Array UInt8 → Array UInt8} {Q : Unit → Shared → Prop} (hD : s.heap.get? D = some { cls := .type "bytearray", data := .bytearray b 0 }) (hz : (f b).size ≤ sizeLine)
    (h : ∀ h', h'.get? D = some { cls := .type "bytearray", data := .bytearray (f b) 0 } → Heap.SameBut D s.heap h' → Q () { s with heap := h' }) : wpAny (model prog w) A (Builtin.Bytes.write (.ref D) f) Q E s := by
  show wpAny _ _ (updateBytearray D f) _ _ _
  unfold updateBytearray
  refine wpAny_bind (wpAny_load hD ?_)
  show wpAny _ _ (update D (Obj.mapBytearray f) >>= fun _ => lookBehind D) _ _ _
  refine wpAny_bind (wpAny_update hD ?_)
  have h₂ : (s.heap.update D (Obj.mapBytearray f)).get? D = some { cls := .type "bytearray", data := .bytearray (f b) 0 } := Heap.get?_update_self (Obj.mapBytearray f) hD rfl
  refine wpAny_lookBehind h₂ ?_ (h _ h₂ (Heap.SameBut.update ..))
  show (if (f b).size > sizeLine then some "bytearray:memory" else none) = none
  rw [if_neg (Nat.not_lt.mpr hz)]
theorem ba_release_look : typeLookup (.type "bytearray") "__release_buffer__" = pure (some (.builtin "bytearray.__release_buffer__")) := by rw [typeLookup_type, builtinLookup_eq_fast]; kernel_rfl
theorem ba_bind (v : Value) : Builtin.Bytes.bindOptional "bytearray.__init__" "bytearray" ["source", "encoding", "errors"] [v] [] = pure [some v, none, none] := by kernel_rfl
theorem ba_args (a b : Value) : argsOk "bytearray.__init__" ⟨[a, b], []⟩ := by
  unfold argsOk; kernel_rfl
theorem ba_owns {D : Addr} {Q : Bool → Shared → Prop} (hT : s.TypeIs (.ref D) "bytearray") (h : Q true s) : wpAny (model prog w) A (Builtin.Bytes.slotIsOwn (.ref D) "__release_buffer__") Q E s := by
  unfold Builtin.Bytes.slotIsOwn
  refine wpAny_bind (wpAny_specialOf hT ba_release_look ?_)
  dsimp only
  rw [if_neg (by decide +kernel)]
  have hs : isSubtype (.type "bytearray") (.type (("bytearray.__release_buffer__" : String).dropRight (("__release_buffer__" : String).length + 1))) = pure true := by rw [isSubtype_type]; kernel_rfl
  exact wpAny_isInstance hT hs h

end
end Mine
end
section
open PySem PySem.W PyProof.Rows PySem.Calls
set_option Elab.async false
set_option linter.unusedVariables false
set_option linter.unusedSimpArgs false
set_option maxRecDepth 100000
namespace Mine
section
variable {prog : Program} {w : World} {A : Around} {E : Value → Shared → Prop} {s : Shared}

theorem ba_init (D : Addr) (n : Nat) (t : Tok) (hD : s.heap.get? D = some { cls := .type "bytearray", data := .bytearray #[] 0 }) {R : Result → Shared → Prop}
    (h : ∀ h', h'.get? D = some { cls := .type "bytearray", data := .bytearray (Array.replicate n 0) 0 } → Heap.SameBut D s.heap h' → R (.ok (.ret .none)) { s with heap := h' }) (hn : n ≤ sizeLine) :
    codeT (model prog w) A (.call (.builtin "bytearray.__init__") ⟨[.ref D, .int n t], []⟩) R s := by
  have hT : s.TypeIs (.ref D) "bytearray" := ⟨_, hD, rfl⟩
  refine codeT_call_builtin_code (Code.quiet_builtin _ (by decide +kernel)) ?_
  refine ba_slot_init.check _ _ _ _ _ _ _ _ hT (ba_args _ _) ?_
  refine codeT_builtin ba_entry_init (by show (!holders.contains "bytearray.__init__") = true; decide +kernel) ?_
  unfold Builtin.«bytearray.__init__»
  dsimp only
  unfold Builtin.Bytes.ownRelease
  refine wpT_bind (wpT_bind (wpT_of (ba_owns hT (wpT_pure ?_))))
  rw [if_neg (by decide)]
  refine wpT_bind (wpT_of (wpAny_of_eq (ba_bind _) ?_))
  dsimp only
  refine wpT_bind (wpT_pure ?_)
  refine wpT_bind (wpT_pure ?_)
  refine wpT_bind ?_
  show wpT _ _ (Builtin.Bytes.exported (.ref D) >>= _) _ _ _
  refine wpT_bind (wpT_exported ?_)
  show wpT _ _ (Builtin.Bytes.exportsOf (.ref D) >>= _) _ _ _
  refine wpT_bind (wpT_of ?_)
  show wpAny _ _ (load D >>= _) _ _ _
  refine wpAny_bind (wpAny_load hD (wpAny_pure (wpT_pure ?_)))
  rw [if_neg (by decide)]
  refine wpT_bind (wpT_of (ba_write hD (by simp) fun h₁ hD₁ hs₁ => wpT_of ?_))
  refine wpAny_bind ?_
  have hTi : Shared.TypeIs { s with heap := h₁ } (.int (n : Int) t) "int" := rfl
  have hidx : asIndex (Value.int (n : Int) t) = pure (n : Int) := by rfl
  have hstr : asStr? (Value.int (n : Int) t) = pure none := by rfl
  rw [hstr]
  with_reducible refine wpAny_pure ?_
  rw [if_neg (by decide)]
  rw [if_neg (by decide), if_neg (by decide)]
  with_reducible refine wpAny_bind ?_
  with_reducible refine wpAny_pure ?_
  with_reducible refine wpAny_bind ?_
  with_reducible refine wpAny_specialOf (T := "int") (v := .int n t) hTi int_index ?_
  rw [if_pos (by rfl)]
  with_reducible refine wpAny_bind ?_
  with_reducible refine wpAny_attempt ?_
  with_reducible refine wpAny_of_eq hidx ?_
  dsimp only
  have hnn : (n : Int) < 16777217 := by
    have : n ≤ 16777216 := hn
    lia
  have e1 : Builtin.Bytes.fitsIndex (n : Int) = true := by
    unfold Builtin.Bytes.fitsIndex
    simp only [Bool.and_eq_true, decide_eq_true_eq]
    lia
  have e2 : ¬ (n : Int) < 0 := by lia
  have e3 : ¬ (((n : Int) == 2 ^ 63 - 1) = true) := by
    rw [beq_iff_eq]
    lia
  have e4 : ¬ (Builtin.Bytes.tooLong (n : Int).toNat = true) := by
    unfold Builtin.Bytes.tooLong
    rw [Int.toNat_natCast, decide_eq_true_eq]
    exact Nat.not_lt.mpr hn
  rw [e1, if_neg (by decide), if_neg e2, if_neg e3, if_neg e4]
  with_reducible refine wpAny_bind ?_
  with_reducible refine wpAny_rule ?_
  by_cases h0 : (n : Int) > 0
  · rw [if_pos h0]
    with_reducible refine wpAny_bind ?_
    refine ba_write hD₁ (by simpa using hn) fun h₂ hD₂ hs₂ => ?_
    show wpAny _ _ (pure _) _ _ _
    with_reducible refine wpAny_pure ?_
    exact h h₂ (by simpa using hD₂) (hs₁.trans hs₂)
  · rw [if_neg h0]
    have h00 : n = 0 := by lia
    subst h00
    show wpAny _ _ (pure _) _ _ _
    with_reducible refine wpAny_pure ?_
    exact h h₁ (by simpa using hD₁) hs₁

/-- bytearray(n) -/
theorem call_bytearray {Q : Value → Shared → Prop} (n : Nat) (t : Tok) (hn : n ≤ sizeLine)
    (h : ∀ h', h'.get? s.heap.objs.size = some { cls := .type "bytearray", data := .bytearray (Array.replicate n 0) 0 } → Ext s.heap h' → Q (.ref s.heap.objs.size) { s with heap := h' }) :
    wpT (model prog w) A (call (.type "bytearray") [.int n t]) Q E s := by
  refine callT_type (Q₁ := fun obj s₁ => obj = .ref s.heap.objs.size ∧ s₁ = { s with heap := s.heap.push { cls := .type "bytearray", data := .bytearray #[] 0 } }) ba_called (ba_typeCall _) (ba_code_new _ ⟨rfl, rfl⟩) fun obj s₁ h₁ => ?_
  obtain ⟨rfl, rfl⟩ := h₁
  have hD : (s.heap.push { cls := .type "bytearray", data := .bytearray #[] 0 }).get? s.heap.objs.size = some { cls := .type "bytearray", data := .bytearray #[] 0 } := Heap.get?_push_size _ rfl
  refine ⟨⟨_, hD, rfl⟩, ba_init _ n t hD (fun h' hD' hs' => ⟨rfl, h h' hD' fun b o e => ?_⟩) hn⟩
  exact (hs'.2 b (Nat.ne_of_lt (Heap.lt_size e))).trans (Heap.get?_push_of_some _ e)
end
end Mine
end
section
open PySem PySem.W PyProof.Rows PySem.Calls
set_option Elab.async false
set_option linter.unusedVariables false
set_option linter.unusedSimpArgs false
set_option maxRecDepth 100000
namespace Mine
theorem ba_slot_setitem : Slot "bytearray" "__setitem__" "bytearray.__setitem__" :=
  .of (owner := "bytearray") (n := "__setitem__") (by rw [typeLookup_type, builtinLookup_eq_fast]; kernel_rfl) (by decide +kernel) (by decide +kernel) (by decide +kernel)
    (by first | exact .inl (by decide +kernel) | exact .inr (by decide +kernel)) (by rw [isSubtype_type]; kernel_rfl)
theorem ba_entry_setitem : entryFor table "bytearray.__setitem__" = some Builtin.«bytearray.__setitem__» := entryFor_of_tree (by kernel_rfl)
theorem ba_args_setitem (a b c : Value) : argsOk "bytearray.__setitem__" ⟨[a, b, c], []⟩ := by
  unfold argsOk; kernel_rfl
section
variable {prog : Program} {w : World} {A : Around} {E : Value → Shared → Prop} {s : Shared}

theorem ba_setItem {l : Addr} {b : Array UInt8} {k x : Int} {t u : Tok} {Q : Unit → Shared → Prop} (hl : s.heap.get? l = some { cls := .type "bytearray", data := .bytearray b 0 })
    (h0 : 0 ≤ k) (hn : k < b.size) (hb : b.size ≤ sizeLine) (hx0 : 0 ≤ x) (hx1 : x < 256)
    (hQ : ∀ h', h'.get? l = some { cls := .type "bytearray", data := .bytearray (b.setIfInBounds k.toNat x.toNat.toUInt8) 0 } → Heap.SameBut l s.heap h' → Q () { s with heap := h' }) :
    wpAny (model prog w) A (setItem (.ref l) (.int k t) (.int x u)) Q E s := by
  have hT : s.TypeIs (.ref l) "bytearray" := ⟨_, hl, rfl⟩
  have hTi : s.TypeIs (.int k t) "int" := rfl
  unfold setItem
  try with_reducible refine wpAny_holding ?_
  first | refine wpAny_bind (wpAny_pure ?_) | skip
  refine wpAny_bind (wpAny_sequenceKey hT (by decide) ?_)
  refine wpAny_bind (wpAny_callSpecial?_slot (name := Str.ofString "__setitem__") hT ba_slot_setitem
    (wpAny_call_entry ba_slot_setitem hT ba_entry_setitem ?_ (ba_args_setitem _ _ _)))
  unfold Builtin.«bytearray.__setitem__»
  dsimp only
  rw [if_neg (by decide)]
  with_reducible refine wpAny_bind ?_
  unfold Builtin.Bytes.subscript?
  with_reducible refine wpAny_bind ?_
  with_reducible refine wpAny_specialOf hTi int_index ?_
  rw [if_neg (by decide)]
  have hidx : asIndex (Value.int k t) = pure k := by rfl
  have hidx' : asIndex (Value.int x u) = pure x := by rfl
  with_reducible refine wpAny_bind ?_
  with_reducible refine wpAny_of_eq hidx ?_
  have hbn : b.size ≤ 16777216 := hb
  have e1 : Builtin.Bytes.fitsIndex k = true := by
    unfold Builtin.Bytes.fitsIndex
    simp only [Bool.and_eq_true, decide_eq_true_eq]
    lia
  rw [e1, if_neg (by decide)]
  with_reducible refine wpAny_pure ?_
  dsimp only
  unfold Builtin.Bytes.byteValue
  with_reducible refine wpAny_bind ?_
  with_reducible refine wpAny_bind ?_
  with_reducible refine wpAny_of_eq hidx' ?_
  rw [if_neg (by simp only [Bool.or_eq_true, decide_eq_true_eq]; lia)]
  with_reducible refine wpAny_pure ?_
  with_reducible refine wpAny_bind ?_
  unfold Builtin.Bytes.payload
  show wpAny _ _ ((load l >>= _) >>= _) _ _ _
  refine wpAny_bind (wpAny_bind (wpAny_load hl ?_))
  dsimp only
  with_reducible refine wpAny_pure ?_
  with_reducible refine wpAny_pure ?_
  have e2 : seqIndex? k b.size = some k.toNat := by
    unfold seqIndex?
    have hk : ¬ k < 0 := by lia
    simp only [hk, if_false]
    rw [if_pos (by simp only [Bool.and_eq_true, decide_eq_true_eq]; lia)]
  rw [e2]
  dsimp only
  with_reducible refine wpAny_bind ?_
  refine ba_write hl (by simpa using hb) fun h' hl' hs' => ?_
  show wpAny _ _ (pure _) _ _ _
  with_reducible refine wpAny_pure ?_
  exact ⟨.none, rfl, wpAny_pure (hQ h' hl' hs')⟩

theorem toUInt8_int {x : Int} (h0 : 0 ≤ x) (h1 : x < 256) : ((x.toNat.toUInt8).toNat : Int) = x := by
  have : x.toNat.toUInt8.toNat = x.toNat := by
    rw [Nat.toUInt8_eq, UInt8.toNat_ofNat']
    lia
  lia
theorem bInts_set {b : Array UInt8} {i : Nat} {c : UInt8} : KBw.bInts (b.setIfInBounds i c) = (KBw.bInts b).set i (c.toNat : Int) := by
  unfold KBw.bInts
  rw [Array.toList_setIfInBounds, List.map_set]
theorem bInts_zero (n : Nat) : KBw.bInts (Array.replicate n 0) = List.replicate n 0 := by
  unfold KBw.bInts
  simp
end
end Mine
end
section
open PySem PySem.W PyProof.Rows PySem.Calls
set_option Elab.async false
set_option linter.unusedVariables false
set_option linter.unusedSimpArgs false
set_option maxRecDepth 100000
namespace Mine
theorem ba_no_bytes : typeLookup (.type "bytearray") "__bytes__" = pure none := by rw [typeLookup_type, builtinLookup_eq_fast]; kernel_rfl
theorem ba_no_index : typeLookup (.type "bytearray") "__index__" = pure none := by rw [typeLookup_type, builtinLookup_eq_fast]; kernel_rfl
theorem ba_buffer_look : typeLookup (.type "bytearray") "__buffer__" = pure (some (.builtin "bytearray.__buffer__")) := by rw [typeLookup_type, builtinLookup_eq_fast]; kernel_rfl
section
variable {prog : Program} {w : World} {A : Around} {E : Value → Shared → Prop} {s : Shared}
theorem ba_ownsB {D : Addr} {Q : Bool → Shared → Prop} (hT : s.TypeIs (.ref D) "bytearray") (h : Q true s) : wpAny (model prog w) A (Builtin.Bytes.slotIsOwn (.ref D) "__buffer__") Q E s := by
  unfold Builtin.Bytes.slotIsOwn
  refine wpAny_bind (wpAny_specialOf hT ba_buffer_look ?_)
  dsimp only
  rw [if_neg (by decide +kernel)]
  have hs : isSubtype (.type "bytearray") (.type (("bytearray.__buffer__" : String).dropRight (("__buffer__" : String).length + 1))) = pure true := by rw [isSubtype_type]; kernel_rfl
  exact wpAny_isInstance hT hs h
theorem ba_to_bytes {l : Addr} {b : Array UInt8} {Q : Value → Shared → Prop} (hl : s.heap.get? l = some { cls := .type "bytearray", data := .bytearray b 0 }) (hz : b.size ≤ sizeLine)
    (hQ : ∀ t k, Q (.bytes b t) { s with toks := k }) :
    codeAny (model prog w) A (.call (.builtin "bytes.__new__") ⟨[.type "bytes", .ref l], []⟩) (wants Q E) s := by
  refine codeAny_of_tree ?_
  show wpAny _ A.in1 (do checkBuiltinCall "bytes.__new__" ⟨[.type "bytes", .ref l], []⟩; again (.builtin "bytes.__new__" ⟨[.type "bytes", .ref l], []⟩)) _ _ s
  refine wpAny_bind (wpAny_of_eq (F.bm_newCall _) (wpAny_pure ⟨plainId_quiet F.bm_plain _, codeAny_builtin F.bm_entry ?_⟩))
  rw [Around.under_plainId F.bm_plain _]
  have hT : s.TypeIs (.ref l) "bytearray" := ⟨_, hl, rfl⟩
  unfold Builtin.«bytes.__new__»
  refine wpAny_bind (wpAny_of_eq (a := true) rfl ?_)
  refine bm_if_false rfl ?_
  refine wpAny_bind (wpAny_of_eq F.bm_sub ?_)
  refine bm_if_false rfl ?_
  refine wpAny_bind (wpAny_of_eq (F.bm_bind _) ?_)
  refine wpAny_bind (wpAny_of_eq (a := ()) rfl ?_)
  refine wpAny_bind (wpAny_of_eq (a := ()) rfl ?_)
  refine bm_if_false rfl ?_
  refine wpAny_bind (wpAny_specialOf hT ba_no_bytes ?_)
  refine wpAny_bind (wpAny_bind ?_)
  show wpAny _ _ (load l >>= _) _ _ _
  refine wpAny_bind (wpAny_load hl ?_)
  refine wpAny_pure (wpAny_pure ?_)
  refine bm_if_false rfl ?_
  refine wpAny_bind (wpAny_specialOf hT ba_no_index ?_)
  refine bm_if_true rfl ?_
  first
    | show wpAny _ _ (Builtin.Bytes.buffer? "bytes.__new__" (.ref l) true >>= _) _ _ _
    | (refine wpAny_bind ?_; show wpAny _ _ (Builtin.Bytes.buffer? "bytes.__new__" (.ref l) true >>= _) _ _ _)
  refine wpAny_bind ?_
  unfold Builtin.Bytes.buffer?
  refine wpAny_bind (wpAny_specialOf hT ba_buffer_look ?_)
  dsimp only
  with_reducible refine wpAny_bind ?_
  refine ba_ownsB hT ?_
  refine bm_if_false rfl ?_
  with_reducible refine wpAny_bind ?_
  refine wpAny_specialOf hT ba_buffer_look ?_
  show wpAny _ _ (Builtin.Bytes.ownRelease (.ref l) >>= _) _ _ _
  with_reducible refine wpAny_bind ?_
  unfold Builtin.Bytes.ownRelease
  with_reducible refine wpAny_bind ?_
  refine ba_owns hT ?_
  with_reducible refine wpAny_pure ?_
  refine bm_if_false rfl ?_
  unfold Builtin.Bytes.payload
  with_reducible refine wpAny_bind ?_
  show wpAny _ _ ((load l >>= _) >>= _) _ _ _
  refine wpAny_bind (wpAny_bind (wpAny_load hl ?_))
  dsimp only
  with_reducible refine wpAny_pure ?_
  with_reducible refine wpAny_pure ?_
  with_reducible refine wpAny_pure ?_
  dsimp only
  with_reducible refine wpAny_bind ?_
  with_reducible refine wpAny_rule ?_
  refine wpAny_bind (wpAny_mkBytes ?_ hz)
  show wpAny _ _ (if (Value.type "bytes" == Value.type "bytes") = true then _ else _) _ _ _
  refine bm_if_true (by decide) ?_
  first
    | exact wpAny_pure (hQ _ _)
    | exact wpAny_bind (wpAny_pure (wpAny_pure (hQ _ _)))
theorem call_bytes_ba {l : Addr} {b : Array UInt8} {Q : Value → Shared → Prop} (hl : s.heap.get? l = some { cls := .type "bytearray", data := .bytearray b 0 }) (hz : b.size ≤ sizeLine)
    (hQ : ∀ t k, Q (.bytes b t) { s with toks := k }) : wpAny (model prog w) A (call (.type "bytes") [.ref l]) Q E s := by
  refine callType_codes (Q₁ := fun obj s₁ => s₁.TypeIs obj "bytes" ∧ Q obj s₁) F.bm_called (F.bm_typeCall _) F.entry_object_init
    (ba_to_bytes hl hz fun t k => ⟨PySem.W.typeIs_bytes _ _ _, hQ t k⟩) fun obj s₁ h₁ => ?_
  exact ⟨h₁.1, F.args_object_init_2 obj _, object_init_meets F.bm_called.init.lookup F.bm_called.made (by decide) prog w A.in1 _ s₁ ⟨h₁.1, rfl, h₁.2⟩⟩
end
end Mine
end
section
open PySem PySem.W PyProof.Rows PySem.Calls
set_option Elab.async false
set_option linter.unusedVariables false
set_option linter.unusedSimpArgs false
namespace Mine
section
variable {C C' : Cx} {σ τ : St} {ω ω' : List (Str × Addr)} {s : Shared}

theorem T_call_args (G : GCx C) (S : Sat C σ ω s) {x : Str} {p pos : Pos} {f : Value} {e : Expr} {es : List Expr} (g : Gn C x f) (hf : Callee C f) {Q : Value → Shared → Prop} {E : Value → Shared → Prop}
    (h : wpT C.M C.A (spliced (backTo pos (starEach (e :: es) C.env))) (fun vs s₁ => (∀ b o, C.s₀.heap.get? b = some o → ¬ C.ext b → s₁.heap.get? b = some o) ∧ wpT C.M C.A (call f vs []) Q E s₁) E s)
    (hs : ∀ env, starEach (e :: es) env = (false, eval e env) :: starEach es env := by intro _; rfl)
    (hd : (x == ("__debug__" : Str)) = false := by decide) : wpT C.M C.A (eval (.Call (.Name x p) (e :: es) [] pos) C.env) Q E s := by
  refine T_Call_Name (glob_any G S g ?_ hd)
  refine T_callWith ?_
  rw [hs] at h ⊢
  rcases hf with ⟨id, rfl⟩ | ⟨T, rfl⟩ | ⟨a, o, fd, rfl, ho, hd, hx⟩
  · exact T_evalArgs (wpT_mono h (fun vs s₁ k => ⟨⟨.machine, wpT_pure ⟨rfl, rfl⟩⟩, k.2⟩) fun _ _ e => e)
  · exact T_evalArgs (wpT_mono h (fun vs s₁ k => ⟨⟨.machine, wpT_pure ⟨rfl, rfl⟩⟩, k.2⟩) fun _ _ e => e)
  · refine T_evalArgs (wpT_mono h (fun vs s₁ k => ⟨⟨.frame, wpT_of ?_⟩, k.2⟩) fun _ _ e => e)
    unfold keeperOf
    refine wpAny_bind (wpAny_load (k.1 _ _ ho hx) ?_)
    rw [hd]
    exact wpAny_pure ⟨rfl, rfl⟩

/-- a call of one own object -/
theorem T_call_own (G : GCx C) (S : Sat C σ ω s) {x y : Str} {p q pos : Pos} {f : Value} {m : MO} (g : Gn C x f) (hf : Callee C f) (hl : Lk y σ (.own m)) {Q : Value → Shared → Prop} {E : Value → Shared → Prop}
    (h : ∀ a, (y, a) ∈ ω → Has C s.heap y (.ref a) → MRep (OO C ω) s.heap a m → wpT C.M C.A (call f [.ref a] []) Q E s)
    (hd : (x == ("__debug__" : Str)) = false := by decide) (hd' : (y == ("__debug__" : Str)) = false := by decide) : wpT C.M C.A (eval (.Call (.Name x p) [.Name y q] [] pos) C.env) Q E s := by
  refine T_call_args G S g hf ?_ (by intro _; rfl) hd
  show wpT _ _ (spliced ((false, eval (.Name y q) C.env) :: backTo pos (starEach [] C.env))) _ _ _
  exact T_spliced_cons (name_own G S hl (fun a h1 h2 h3 => wpT_of (spliced_nil ⟨S.base, h a h1 h2 h3⟩)) hd')

theorem call_ba (n : Nat) : ∀ ω s vs (Q : Value → Shared → Prop) (E : Value → Shared → Prop), Sat C σ ω s → RepAll (OO C ω) s.heap vs [.int n] → n ≤ sizeLine →
    (∀ a s₁ h₁ tk o, Sat C σ ω s₁ → KB (Own ω) s.heap s₁.heap → Ext s₁.heap h₁ → s₁.heap.get? a = none → h₁.get? a = some o → Solid o → (∀ x, MRep (OO C ((x, a) :: ω)) h₁ a (.barr (List.replicate n 0))) → Q (.ref a) { s₁ with heap := h₁, toks := tk }) →
    wpT C.M C.A (call (.type "bytearray") vs []) Q E s := fun ω s vs Q E S r hn h => by
  obtain ⟨v, vs', rfl, rv, r'⟩ := r.inv
  cases r'.inv_nil
  cases rv
  refine call_bytearray n _ hn fun h' hD ext => ?_
  exact h s.heap.objs.size s h' s.toks _ S (.refl _ _) ext (get_size _) hD (solid_barr rfl) fun x => .barr _ _ (bInts_zero n) hD

/-- bytearray(e) -/
theorem evo_bytearray (G : GCx C) {x : Str} {p pos : Pos} {e : Expr} {n : Nat} (g : Gn C x (.type "bytearray")) (he : EvE C σ e (.int n) τ) (hn : n ≤ sizeLine)
    (hs : ∀ env, starEach [e] env = [(false, eval e env)] := by intro _; rfl)
    (hd : (x == ("__debug__" : Str)) = false := by decide) : EvO C σ (.Call (.Name x p) [e] [] pos) (.barr (List.replicate n 0)) τ := fun ω s Q E S h => by
  refine T_call_args G S g .type ?_ (fun env => hs env) hd
  rw [hs]
  show wpT _ _ (spliced ((false, eval e C.env) :: backTo pos [])) _ _ _
  refine T_spliced_cons (he ω s _ E S fun v s₁ S₁ r₁ k₁ => wpT_of (spliced_nil ⟨S₁.base, ?_⟩))
  exact call_ba n ω s₁ [v] Q E S₁ (.cons r₁ .nil) hn fun a s₂ h₂ tk o S₂ k₂ => h a s₂ h₂ tk o S₂ (k₁.trans k₂)

/-- bytes(x), x a bytearray of one's own -/
theorem ev_bytes_own (G : GCx C) {x y : Str} {p q pos : Pos} {l : List Int} (g : Gn C x (.type "bytes")) (hl : Lk y σ (.own (.barr l))) (hz : l.length ≤ sizeLine)
    (hd : (x == ("__debug__" : Str)) = false := by decide) (hd' : (y == ("__debug__" : Str)) = false := by decide) : EvE C σ (.Call (.Name x p) [.Name y q] [] pos) (.bytes l) σ := fun ω s Q E S h => by
  refine T_call_own G S g .type hl (fun a hx hv hm => ?_) hd hd'
  cases hm with | barr b _ e hb =>
  have hz' : b.size ≤ sizeLine := by rw [← e, KBw.ints_length] at hz; exact hz
  exact wpT_of (call_bytes_ba hb hz' fun t k => h _ _ S.tok (.bytes _ _ _ e) (.refl _ _))

theorem T_release {M : Model} {A : Around} {E : Value → Shared → Prop} {vs keep : List Value} {Q : Unit → Shared → Prop} (h : Q () s) : wpT M A (release vs keep) Q E s := wpT_of (wpAny_release h)

/-- x[idx] = value, x a bytearray of one's own -/
theorem ex_setsub (G : GCx C) {x : Str} {p q r : Pos} {idx value : Expr} {l : List Int} {k v : Int} {σ₁ σ₂ : St} (hv : EvE C σ value (.int v) σ₁) (hl₁ : Lk x σ₁ (.own (.barr l))) (hi : EvE C σ₁ idx (.int k) σ₂) (hl₂ : Lk x σ₂ (.own (.barr l)))
    (h0 : 0 ≤ k) (hk : k < l.length) (hz : l.length ≤ sizeLine) (hv0 : 0 ≤ v) (hv1 : v < 256) (up : Up x (.own (.barr (l.set k.toNat v))) σ₂ τ)
    (hw : swapsWithSole [.Subscript (.Name x p) idx q] value r.line C.env = pure false := by rfl) (hs : swappedStores [.Subscript (.Name x p) idx q] value C.env = pure none := by rfl)
    (hr : ∀ (a b c : Value), (match idx with | .Slice _ _ none _ => [c, a, b] | _ => [a, b, c]) = [a, b, c] := by intro _ _ _; rfl) (hd : (x == ("__debug__" : Str)) = false := by decide) :
    Ex C σ (.Assign [.Subscript (.Name x p) idx q] value r) .next τ := fun ω s Q E S h => by
  refine T_Assign (hv ω s _ E S fun vv s₁ S₁ r₁ k₁ => ?_) hw hs rfl
  cases r₁
  rw [arm_assign_Subscript]
  refine wpT_bind (wpT_holding (name_own G S₁ hl₁ (fun a hx hv' hm => wpT_bind (wpT_holding (hi ω s₁ _ E S₁ fun iv s₂ S₂ r₂ k₂ => ?_))) hd))
  cases r₂
  obtain ⟨v', hv2, a', rfl, hx', hm'⟩ := S₂.names x _ hl₂
  have := (hv'.kb S₁ k₂).fun hv2
  cases this
  cases hm' with | barr b _ e hb =>
  have hsz : (KBw.bInts b).length = b.size := KBw.ints_length b
  rw [e] at hsz
  refine wpT_bind (wpT_standAt (wpT_bind (wpT_holding (wpT_of (ba_setItem hb h0 (by omega) (by rw [← hsz]; exact hz) hv0 hv1 fun h' hl' hs' => ?_)))))
  refine T_release ?_
  refine h .next { s₂ with heap := h' } ω (S₂.mut (tk := s₂.toks) hx' hv2 hs' hl' (solid_barr rfl) (.barr _ _ ?_ hl') up ⟨_, hl₂⟩) trivial ?_
  · rw [bInts_set, e, toUInt8_int hv0 hv1]
  · exact (k₁.trans (k₂.trans (KB.mut hx' hs'))).toMd
end
end Mine
end
section
open PySem PySem.W PyProof.Rows PySem.Calls
set_option Elab.async false
set_option linter.unusedVariables false
set_option linter.unusedSimpArgs false
namespace Mine
theorem small_step {n w : Nat} (hn : n < 2 ^ 40) (hw0 : 0 < w) (hw : w < 2 ^ 40) : Builtin.Range.small 0 n w = true := by
  have h1 : Builtin.Range.rangeSize 0 n w ≤ n := by
    have := rangeSize_toNat_le 0 n w
    have e := rangeSize_toNat 0 n w
    omega
  have h2 : 0 ≤ Builtin.Range.rangeSize 0 n w := by rw [rangeSize_toNat]; omega
  have h3 : Builtin.Range.rangeSize 0 n w * w ≤ n + w := by
    rw [rangeSize_pos (by omega) (by omega)]
    have := Int.ediv_mul_le ((n : Int) + w - 1) (b := (w : Int)) (by omega)
    omega
  unfold Builtin.Range.small
  generalize Builtin.Range.rangeSize 0 n w = z at *
  simp only [Builtin.Range.rangeFitsLong, Bool.and_eq_true, Bool.or_eq_true, decide_eq_true_eq, beq_iff_eq]
  refine ⟨by omega, .inr ?_⟩
  rw [if_pos (by omega)]
  simp only [Bool.and_eq_true, decide_eq_true_eq]
  omega
theorem size_step {n w q : Nat} (hw0 : 0 < w) (hq : n = q * w) : Builtin.Range.rangeSize 0 n w = (q : Int) := by
  rw [rangeSize_pos (by omega) (by omega)]
  subst hq
  have : ((q * w : Nat) : Int) + (w : Int) - 1 = ((q * w + (w - 1) : Nat) : Int) := by omega
  rw [this]
  have h2 : (q * w + (w - 1)) / w = q := by
    rw [Nat.mul_comm, Nat.mul_add_div hw0]
    rw [Nat.div_eq_of_lt (by omega)]
    omega
  rw [← Int.natCast_ediv, h2]

theorem size_one {n : Nat} : Builtin.Range.rangeSize 0 n 1 = (n : Int) := by
  have := rangeSize_nat 0 n
  rw [this]
  omega

/-- chunks of w, each the other way round -/
noncomputable def swp (d : List Int) (w t : Nat) : Int := d.getD (t / w * w + (w - 1 - t % w)) 0
noncomputable def swapped (d : List Int) (w : Nat) : List Int := (List.range d.length).map (swp d w)
noncomputable def swapM (d : List Int) (w m j : Nat) : List Int := (List.range d.length).map fun t => if t / w < m ∨ (t / w = m ∧ w - 1 - t % w < j) then swp d w t else 0
theorem set_range {n : Nat} {f g : Nat → Int} {k : Nat} {v : Int} (h1 : g k = v) (h2 : ∀ t, t ≠ k → g t = f t) : ((List.range n).map f).set k v = (List.range n).map g := by
  apply List.ext_getElem?
  intro i
  by_cases hi : i < n
  · by_cases hk : i = k
    · subst hk
      rw [List.getElem?_set_self (by simpa using hi), List.getElem?_map, List.getElem?_range hi, ← h1]
      rfl
    · rw [List.getElem?_set_ne (Ne.symm hk), List.getElem?_map, List.getElem?_map, List.getElem?_range hi]
      show some (f i) = some (g i)
      rw [h2 i hk]
  · rw [List.getElem?_eq_none (by simp; omega), List.getElem?_eq_none (by simp; omega)]
theorem swapM_zero (d : List Int) (w : Nat) : swapM d w 0 0 = List.replicate d.length 0 := by
  unfold swapM
  apply List.ext_getElem?
  intro i
  by_cases hi : i < d.length
  · rw [List.getElem?_map, List.getElem?_range hi, List.getElem?_replicate, if_pos hi]
    simp
  · rw [List.getElem?_eq_none (by simp; omega), List.getElem?_eq_none (by simp; omega)]
theorem swapM_next (d : List Int) {w m : Nat} (hw : 0 < w) : swapM d w m w = swapM d w (m + 1) 0 := by
  unfold swapM
  refine List.map_congr_left fun t ht => ?_
  have h1 : w - 1 - t % w < w := by omega
  by_cases h : t / w < m ∨ t / w = m
  · rw [if_pos (by rcases h with h | h; exact .inl h; exact .inr ⟨h, h1⟩), if_pos (by left; omega)]
  · rw [if_neg (by rintro (q | ⟨q, _⟩); exact h (.inl q); exact h (.inr q)), if_neg (by rintro (q | ⟨_, q⟩) <;> omega)]
theorem swapM_last (d : List Int) {w q : Nat} (hw : 0 < w) (hq : d.length = q * w) : swapM d w q 0 = swapped d w := by
  unfold swapM swapped
  refine List.map_congr_left fun t ht => ?_
  rw [if_pos]
  left
  have : t < d.length := by simpa using ht
  exact (Nat.div_lt_iff_lt_mul hw).mpr (by omega)
theorem swapM_set (d : List Int) {w m j : Nat} (hw : 0 < w) (hj : j < w) : (swapM d w m j).set (m * w + (w - 1 - j)) (d.getD (m * w + j) 0) = swapM d w m (j + 1) := by
  unfold swapM
  have hk1 : (m * w + (w - 1 - j)) / w = m := by
    rw [Nat.mul_comm, Nat.mul_add_div hw, Nat.div_eq_of_lt (by omega)]
    omega
  have hk2 : (m * w + (w - 1 - j)) % w = w - 1 - j := by
    rw [Nat.mul_comm, Nat.mul_add_mod, Nat.mod_eq_of_lt (by omega)]
  refine set_range ?_ fun t ht => ?_
  · rw [if_pos (by right; rw [hk1, hk2]; omega)]
    unfold swp
    rw [hk1, hk2]
    congr 1
    omega
  · have key : t / w = m → w - 1 - t % w ≠ j := fun h1 h2 => ht (by
      have := Nat.div_add_mod t w
      rw [h1] at this
      have h3 : t % w < w := Nat.mod_lt _ hw
      rw [Nat.mul_comm m w]
      omega)
    by_cases h : t / w < m ∨ (t / w = m ∧ w - 1 - t % w < j)
    · rw [if_pos h, if_pos (by rcases h with h | h; exact .inl h; exact .inr ⟨h.1, by omega⟩)]
    · rw [if_neg h, if_neg]
      rintro (q | ⟨q, q'⟩)
      · exact h (.inl q)
      · have := key q
        exact h (.inr ⟨q, by omega⟩)
end Mine
end
section
open PySem PySem.W PyProof.Rows PySem.Calls
set_option Elab.async false
set_option linter.unusedVariables false
set_option linter.unusedSimpArgs false
set_option maxRecDepth 100000
namespace Mine
theorem nx_kind : builtinKind "next" = none := by decide +kernel
theorem nx_plain : plainId "next" = true := by decide +kernel
theorem nx_entry : entryFor table "next" = some Builtin.«next» := by first | exact entryFor_of_fast (by kernel_rfl) | exact entryFor_of_tree (by kernel_rfl)
theorem nx_args (a : Value) : argsOk "next" ⟨[a], []⟩ := by unfold argsOk; kernel_rfl
theorem it_kind : builtinKind "iter" = none := by decide +kernel
theorem it_plain : plainId "iter" = true := by decide +kernel
theorem it_entry : entryFor table "iter" = some Builtin.«iter» := by first | exact entryFor_of_fast (by kernel_rfl) | exact entryFor_of_tree (by kernel_rfl)
theorem it_args (a : Value) : argsOk "iter" ⟨[a], []⟩ := by unfold argsOk; kernel_rfl
section
variable {prog : Program} {w : World} {A : Around} {E : Value → Shared → Prop} {s : Shared}

theorem call_iter {x : Value} {Q : Value → Shared → Prop} (h : wpAny (model prog w) A.in1 (pyIter x) Q E s) : wpAny (model prog w) A (call (.builtin "iter") [x]) Q E s := by
  refine call_function_entry it_kind it_plain it_entry (it_args _) ?_
  unfold Builtin.«iter»
  refine wpAny_bind (m := someArgs "iter" 1 2 _) (wpAny_of_eq (a := [x]) (by rfl) ?_)
  dsimp only
  exact wpAny_bind (wpAny_mono h (fun v s' q => wpAny_pure ⟨v, rfl, q⟩) fun _ _ e => e)

theorem call_next_bytes {it : Addr} {b : Array UInt8} {t : Tok} {i : Nat} {c : UInt8} {Q : Value → Shared → Prop} (hit : KBw.IsBytesIter s.heap it b t i) (hx : b[i]? = some c)
    (hQ : ∀ h' u tk, KBw.IsBytesIter h' it b t (i + 1) → Heap.SameBut it s.heap h' → Q (.int (c.toNat : Int) u) { s with heap := h', toks := tk }) : wpAny (model prog w) A (call (.builtin "next") [.ref it]) Q E s := by
  obtain ⟨o, ho, hc, hd⟩ := id hit
  refine call_function_entry nx_kind nx_plain nx_entry (nx_args _) ?_
  unfold Builtin.«next»
  refine wpAny_bind (m := someArgs "next" 1 2 _) (wpAny_of_eq (a := [.ref it]) (by rfl) ?_)
  dsimp only
  refine wpAny_bind (wpAny_specialOf (KBw.iter_typeIs hit) KBw.slot_next.lookup ?_)
  rw [if_neg (by decide)]
  refine wpAny_bind (wpAny_callSpecial?_slot (name := PySem.Str.ofString "__next__") (KBw.iter_typeIs hit) KBw.slot_next
    (wpAny_call_entry KBw.slot_next (KBw.iter_typeIs hit) KBw.entry_next ?_ (KBw.args_next _)))
  show wpAny _ _ (field (.ref it) 0 >>= _) _ _ s
  refine wpAny_bind (wpAny_field ho hd (x := .bytes b t) rfl ?_)
  show wpAny _ _ (if (Value.bytes b t == Value.none) = true then _ else _) _ _ s
  rw [if_neg (show ¬ ((Value.bytes b t == Value.none) = true) from Bool.false_ne_true)]
  show wpAny _ _ (field (.ref it) 1 >>= _) _ _ s
  refine wpAny_bind (wpAny_field ho hd (x := .int i 0) rfl ?_)
  refine wpAny_bind (wpAny_of_eq (a := b) rfl ?_)
  simp only [Int.toNat_natCast, hx]
  refine wpAny_bind (wpAny_setField ho hd (by simp) (wpAny_bind (wpAny_mkInt (wpAny_pure ⟨_, rfl, wpAny_pure ⟨_, rfl, hQ _ _ _ ?_ (Heap.SameBut.update ..)⟩⟩))))
  exact ⟨_, Heap.get?_update_self _ ho (Obj.isFreed_of_fields (Obj.data_mapFields hd _)), (Obj.cls_mapFields ..).trans hc, by
    rw [Obj.data_mapFields hd]; simp [rawInt]⟩

theorem call_next_list {it l : Addr} {i : Nat} {items : Array Value} {x : Value} {Q : Value → Shared → Prop} (hit : s.heap.IsListIter it l i) (hl : s.heap.IsList l items) (hx : items[i]? = some x)
    (hQ : ∀ h', h'.IsListIter it l (i + 1) → Heap.SameBut it s.heap h' → Q x { s with heap := h' }) : wpAny (model prog w) A (call (.builtin "next") [.ref it]) Q E s := by
  obtain ⟨o, ho, hc, hd⟩ := id hit
  obtain ⟨ol, hol, _, nl, hdl⟩ := hl
  refine call_function_entry nx_kind nx_plain nx_entry (nx_args _) ?_
  unfold Builtin.«next»
  refine wpAny_bind (m := someArgs "next" 1 2 _) (wpAny_of_eq (a := [.ref it]) (by rfl) ?_)
  dsimp only
  refine wpAny_bind (wpAny_specialOf hit.typeIs slot_listiter_next.lookup ?_)
  rw [if_neg (by decide)]
  refine wpAny_bind (wpAny_callSpecial?_slot (name := Str.ofString "__next__") hit.typeIs slot_listiter_next
    (wpAny_call_entry slot_listiter_next hit.typeIs entry_listiter_next ?_ (args_listiter_next _)))
  show wpAny _ _ (field (.ref it) 0 >>= _) _ _ s
  refine wpAny_bind (wpAny_field ho hd (x := .ref l) rfl ?_)
  show wpAny _ _ (if (Value.ref l == Value.none) = true then _ else _) _ _ s
  rw [if_neg (show ¬ ((Value.ref l == Value.none) = true) from Bool.false_ne_true)]
  show wpAny _ _ (field (.ref it) 1 >>= _) _ _ s
  refine wpAny_bind (wpAny_field ho hd (x := .int i 0) rfl ?_)
  show wpAny _ _ (seqItems? (.ref l) >>= _) _ _ s
  refine wpAny_bind (wpAny_seqItems hol hdl ?_)
  simp only [Int.toNat_natCast, hx]
  refine wpAny_bind (wpAny_setField ho hd (by simp) (wpAny_pure ⟨x, rfl, wpAny_pure ⟨_, rfl, hQ _ ?_ (Heap.SameBut.update ..)⟩⟩))
  exact ⟨_, Heap.get?_update_self _ ho (Obj.isFreed_of_fields (Obj.data_mapFields hd _)), (Obj.cls_mapFields ..).trans hc, by
    rw [Obj.data_mapFields hd]; simp [rawInt]⟩
end
section
variable {C C' : Cx} {σ τ : St} {ω ω' : List (Str × Addr)} {s : Shared}

/-- the iterator x gives its next item -/
theorem ev_next (G : GCx C) {x y : Str} {p q pos : Pos} {c : Int} {l : List Int} (g : Gn C x (.builtin "next")) (hl : Lk y σ (.own (.iter (c :: l)))) (up : Up y (.own (.iter l)) σ τ)
    (hd : (x == ("__debug__" : Str)) = false := by decide) (hd' : (y == ("__debug__" : Str)) = false := by decide) : EvE C σ (.Call (.Name x p) [.Name y q] [] pos) (.int c) τ := fun ω s Q E S h => by
  refine T_call_own G S g .builtin hl (fun a hx hv hm => wpT_of ?_) hd hd'
  cases hm with
  | biter b t i _ e hi hb =>
    have hlt : i < b.size := by
      have := congrArg List.length e
      rw [List.length_drop, KBw.ints_length, List.length_cons] at this
      omega
    have hgx : b[i]? = some b[i] := Array.getElem?_eq_getElem hlt
    have hcons : KBw.bInts b = (KBw.bInts b).take i ++ (c :: l) := by rw [← e, List.take_append_drop]
    have hci : ((b[i]).toNat : Int) = c := by
      have h1 := KBw.ints_get hgx
      rw [hcons, List.getElem?_append_right (by rw [List.length_take]; exact Nat.min_le_left _ _)] at h1
      rw [List.length_take, KBw.ints_length, Nat.min_eq_left (Nat.le_of_lt hlt), Nat.sub_self] at h1
      exact (Option.some.inj h1).symm
    refine call_next_bytes hb hgx fun h' u tk hb' hs' => ?_
    obtain ⟨o', ho', hc', hd'⟩ := id hb'
    rw [hci]
    refine h _ _ (S.mut (tk := tk) hx hv hs' ho' (solid_fields hd') (.biter b t (i + 1) l ?_ hlt hb') up ⟨_, hl⟩) (.int _ _) (KB.mut hx hs')
    rw [← List.drop_drop, e]; rfl
  | liter r vs i _ e hi ho hb hpl =>
    obtain ⟨v, vs', hv', rv, re⟩ := e.inv
    cases rv with | int _ tv =>
    have hgx : vs[i]? = some (.int c tv) := by
      have := congrArg (·[0]?) hv'
      simpa [List.getElem?_drop] using this
    have hlt : i < vs.length := (List.getElem?_eq_some_iff.mp hgx).1
    refine call_next_list hb hpl.isList (by simpa using hgx) fun h' hb' hs' => ?_
    obtain ⟨o', ho', hc', hd'⟩ := id hb'
    have hra : r ≠ a := fun q => ho (q ▸ .inr ⟨y, hx⟩)
    have hk : ∀ b o, s.heap.get? b = some o → Val o → ¬ OO C ω b → (¬ OO C ω b ∧ h'.get? b = some o) := fun b o e _ n => ⟨n, (hs'.2 b fun q => n (q ▸ .inr ⟨y, hx⟩)).trans e⟩
    obtain ⟨n, hpo⟩ := hpl
    refine h _ _ (S.mut (tk := s.toks) hx hv hs' ho' (solid_fields hd') (.liter r vs (i + 1) l ?_ hlt ho hb' ⟨n, (hs'.2 r hra).trans hpo⟩) up ⟨_, hl⟩) (.int _ _) (KB.mut hx hs')
    have : vs.drop (i + 1) = vs' := by rw [← List.drop_drop, hv']; rfl
    rw [this]
    exact re.keepV hk

/-- iter(e) -/
theorem evo_iter (G : GCx C) {x : Str} {p pos : Pos} {e : Expr} {a : AV} {l : List Int} (g : Gn C x (.builtin "iter")) (he : EvE C σ e a τ) (ha : a = .bytes l ∨ a = .list (il l))
    (hs : ∀ env, starEach [e] env = [(false, eval e env)] := by intro _; rfl)
    (hd : (x == ("__debug__" : Str)) = false := by decide) : EvO C σ (.Call (.Name x p) [e] [] pos) (.iter l) τ := fun ω s Q E S h => by
  refine T_call_args G S g .builtin ?_ (fun env => hs env) hd
  rw [hs]
  show wpT _ _ (spliced ((false, eval e C.env) :: backTo pos [])) _ _ _
  refine T_spliced_cons (he ω s _ E S fun v s₁ S₁ r₁ k₁ => wpT_of (spliced_nil ⟨S₁.base, wpT_of (call_iter ?_)⟩))
  rcases ha with rfl | rfl
  · cases r₁ with | bytes b t _ e' =>
    refine KBw.pyIter_bytes ?_
    exact h s₁.heap.objs.size s₁ _ s₁.toks _ S₁ k₁ (.push _ _) (get_size _) (Heap.get?_push_size _ rfl) (solid_fields rfl) fun x => .biter b t 0 l (by simpa using e') (Nat.zero_le _) ⟨_, Heap.get?_push_size _ rfl, rfl, rfl⟩
  · cases r₁ with | list r vs _ hl ho hn hi =>
    refine wpAny_pyIter_list hl.isList ?_
    obtain ⟨n, hlo⟩ := id hl
    have hne : r ≠ s₁.heap.objs.size := Nat.ne_of_lt (Heap.lt_size hlo)
    refine h s₁.heap.objs.size s₁ _ s₁.toks _ S₁ k₁ (.push _ _) (get_size _) (Heap.get?_push_size _ rfl) (solid_fields rfl) fun x => ?_
    have hk : ∀ b o, s₁.heap.get? b = some o → Val o → ¬ OO C ω b → (¬ OO C ((x, s₁.heap.objs.size) :: ω) b ∧ (s₁.heap.push { cls := .type "list_iterator", data := .fields #[.ref r, .int 0 0] }).get? b = some o) := fun b o e _ n =>
      ⟨fun q => q.elim (fun q => n (.inl q)) fun ⟨z, q⟩ => (List.mem_cons.mp q).elim (fun q => by rw [(Prod.mk.inj q).2, get_size] at e; cases e) fun q => n (.inr ⟨z, q⟩), Heap.get?_push_of_some _ e⟩
    refine .liter r vs 0 l ?_ (Nat.zero_le _) (hk r _ hlo ⟨solid_seq rfl, .inl rfl⟩ ho).1 ⟨_, Heap.get?_push_size _ rfl, rfl, rfl⟩ ⟨n, Heap.get?_push_of_some _ hlo⟩
    have : RepAll (OO C ω) s₁.heap (vs.drop 0) (il l) := by rw [List.drop_zero]; exact ⟨hn, hi⟩
    exact this.keepV hk
end
end Mine
end
section
open PySem PySem.W PyProof.Rows PySem.Calls
set_option Elab.async false
set_option linter.unusedVariables false
set_option linter.unusedSimpArgs false
namespace Mine
section
variable {C C' : Cx} {σ τ : St} {ω ω' : List (Str × Addr)} {s : Shared}

/-- a context in which a called def's body runs, its one parameter an object of the caller's -/
structure CalleeIt (C C' : Cx) (d : DefRec) : Prop where
  G : GCx C'
  kd : C'.kd = fun x => d.scope.names.lookup x
  mine : C'.mine = ownCells d.scope
  mg : C'.mg = C.mg
  scope : C'.env.scope = d.scope
  handled : C'.A.handled = C.A.handled
  depth : C'.A.depth = C.A.depth + 1
  units : C'.A.units = C.A.units + 3
  funs : ∀ L, Funs C L → Funs C' L

noncomputable def calleeIt (C : Cx) (s : Shared) (O : Addr → Prop) (a it : Addr) (p : Str) (fd : FuncData) : Cx :=
  { prog := C.prog, w := C.w, env := callEnvC fd s.heap.objs.size a, A := C.A.deeper (callEnvC fd s.heap.objs.size a), s₀ := s, mg := C.mg, mb := C.mb, O₀ := O, ext := fun b => b = it, en := fun x b => x = p ∧ b = it, mine := ownCells fd.scope, kd := fun x => fd.scope.names.lookup x }

theorem MRep.solid {O : Addr → Prop} {h : Heap} {a : Addr} {m : MO} (r : MRep O h a m) : ∃ o, h.get? a = some o ∧ Solid o := by
  cases r with
  | list vs l hl hr => obtain ⟨n, e⟩ := hl; exact ⟨_, e, solid_seq rfl⟩
  | barr b l e hb => exact ⟨_, hb, solid_barr rfl⟩
  | biter b t i l e hi hb => obtain ⟨o, h1, _, h3⟩ := hb; exact ⟨o, h1, solid_fields h3⟩
  | liter r vs i l e hi ho hb hl => obtain ⟨o, h1, _, h3⟩ := hb; exact ⟨o, h1, solid_fields h3⟩

/-- f(y), y an iterator of one's own -/
theorem ev_call_it (G : GCx C) {x y p : Str} {px q pos : Pos} {a : Addr} {d : DefRec} {r : AV} {m m' : MO} (gx : Gn C x (.ref a)) (hf : FnAt C a d) (hdep : C.A.depth < recursionLimit) (hl : Lk y σ (.own m)) (up : Up y (.own m') σ τ)
    (hbody : ∀ C', CalleeIt C C' d → Exs C' [(p, .own m)] d.body (.ret r) [(p, .own m')])
    (hbind : ∀ (pm code doc : Value) (v : Value), bindArgs (docDef d.name d.params d.body d.scope pm code doc) ⟨[v], []⟩ = pure [(p, v)])
    (hkind : d.scope.names.lookup p = some .local)
    (hmine : ((ownCells d.scope).all fun x => d.scope.names.lookup x == some .cell) = true := by decide)
    (hco : d.scope.isCoroutine = false := by rfl) (hgen : d.scope.isGenerator = false := by rfl) (hk : d.scope.kind = .function := by rfl)
    (hd : (x == ("__debug__" : Str)) = false := by decide) (hd' : (y == ("__debug__" : Str)) = false := by decide) : EvE C σ (.Call (.Name x px) [.Name y q] [] pos) r τ := fun ω s Q E S h => by
  have hcallee := hf.callee
  obtain ⟨o, pm, code, doc, h1, h2, h3, h4⟩ := hf
  refine T_call_own G S gx hcallee hl (fun it hyi hvi hm => ?_) hd hd'
  obtain ⟨ho, hcd⟩ := h2 s.heap S.base
  have hlim := G.keepLim S.base
  refine wpT_call (codeT_call_fn hdep ho h1 hco hgen rfl hcd ?_)
  rw [hbind pm code doc (.ref it)]
  refine wpAny_pure (wpAny_newFunctionEnv_cells hk (fun x hx => ?_) fun env he s' X => ?_)
  · rw [List.mem_singleton.mp hx]; exact .inl hkind
  · refine ⟨hlim.keeps X.toInCall.keep, ?_⟩
    have he' : env = callEnvC (docDef d.name d.params d.body d.scope pm code doc) s.heap.objs.size a := he
    subst he'
    clear he
    let C' := calleeIt C s (OO C ω) a it p (docDef d.name d.params d.body d.scope pm code doc)
    obtain ⟨oit, hoit, soit⟩ := hm.solid
    have hC : CalleeIt C C' d := {
      G := ⟨G.keepNs S.base G.g, G.keepNs S.base G.b, hlim, G.builtins, hk, fun x => rfl, rfl, rfl, fun b hb' o' e' => by
        have e : b = it := hb'
        subst e
        rw [show s.heap.get? b = some o' from e'] at hoit
        cases hoit; exact soit⟩
      kd := rfl
      mine := rfl
      mg := rfl
      scope := rfl
      handled := rfl
      depth := rfl
      units := rfl
      funs := fun L hL d' hd' => by
        obtain ⟨a', e1, o', pm', code', doc', q1, q2, q3, q4⟩ := hL d' hd'
        have q5 := q2 s.heap S.base
        have hni : ¬ a' = it := fun q => by
          subst q
          by_cases hx : C.ext a'
          · exact q4 hx
          · have := S.new a' ⟨y, hyi⟩ hx
            rw [q3] at this; cases this
        have key : ∀ h' : Heap, (∀ b o, s.heap.get? b = some o → ¬ b = it → h'.get? b = some o) → ∀ b o, C.s₀.heap.get? b = some o → ¬ C.ext b → h'.get? b = some o := fun h' hb' b o e n => hb' b o (S.base b o e n) fun q => by
          subst q
          have := S.new b ⟨y, hyi⟩ n
          rw [e] at this; cases this
        exact ⟨a', e1, o', pm', code', doc', q1, fun h' hb' => q2 h' (key h' hb'), q5.1, hni⟩ }
    have hE := hbody C' hC
    have hcl : ∀ n c, C'.env.cells.lookup n = some c → s.heap.get? c = none := fun n c e => by
      have := X.above n c (mem_of_lookup e)
      cases q : s.heap.get? c with
      | none => rfl
      | some o => exact absurd (Heap.lt_size q) (Nat.not_lt.mpr (Nat.le_of_lt this))
    have hwiden : ∀ b, OO C' [(p, it)] b ↔ OO C ω b := fun b => ⟨fun q => q.elim id fun ⟨z, q⟩ => by rw [(Prod.mk.inj (List.mem_singleton.mp q)).2]; exact .inr ⟨y, hyi⟩, .inl⟩
    have Sc : Sat C' [(p, .own m)] [(p, it)] s' := by
      obtain ⟨hh, tk, e⟩ := X.toInCall.same
      refine ⟨⟨hh, tk, e⟩, fun b o e' _ => X.toInCall.keep b o e', fun b q => ⟨p, by rw [show b = it from q]; exact List.mem_singleton_self _⟩, fun b ⟨z, q⟩ => ?_, fun b ⟨z, q⟩ n => absurd (Prod.mk.inj (List.mem_singleton.mp q)).2 n,
        fun x z b q q' => by rw [(Prod.mk.inj (List.mem_singleton.mp q)).1, (Prod.mk.inj (List.mem_singleton.mp q')).1], fun b q => ?_, fun b ⟨z, q⟩ n => absurd (Prod.mk.inj (List.mem_singleton.mp q)).2 n, fun z c hl' => ?_, ⟨_, X.toInCall.ns⟩, get_size _, fun z hz => ?_, fun z hz z' hz' e => ?_,
        fun x b q => ⟨q.2, by rw [q.1, q.2]; exact List.mem_singleton_self _, fun b' q' => by rw [(Prod.mk.inj (List.mem_singleton.mp q')).2, q.2]⟩⟩
      · rw [(Prod.mk.inj (List.mem_singleton.mp q)).2]
        exact ⟨oit, X.toInCall.keep _ _ hoit, soit⟩
      · obtain ⟨o', e'⟩ := S.al b q
        exact ⟨o', X.toInCall.keep _ _ e'⟩
      · cases hl' with
        | here =>
          refine ⟨.ref it, .inl ⟨hkind, _, X.toInCall.ns, bindL_in _ _ (by simp) (List.mem_singleton_self _) hkind⟩, it, rfl, List.mem_singleton_self _, ?_⟩
          exact hm.keepV (fun o e _ => X.toInCall.keep _ _ e) fun b o e _ n => ⟨fun q => n ((hwiden b).mp q), X.toInCall.keep _ _ e⟩
        | there _ hl' => cases hl'
      · have hq := beq_iff_eq.mp (List.all_eq_true.mp hmine z hz)
        obtain ⟨c, hc⟩ := Option.isSome_iff_exists.mp (cellsFrom_some (x := z) d.scope.names (s.heap.objs.size + 1) [] (.inl hq))
        exact ⟨c, _, hc, X.cell z c hc, hcl z c hc⟩
      · obtain ⟨c, hc⟩ := Option.isSome_iff_exists.mp (cellsFrom_some (x := z) d.scope.names (s.heap.objs.size + 1) [] (.inl (beq_iff_eq.mp (List.all_eq_true.mp hmine z hz))))
        have hc' : C'.env.cells.lookup z = some c := hc
        have m1 := mem_of_lookup hc'
        have m2 := mem_of_lookup (e ▸ hc')
        by_cases hyz : z = z'
        · exact hyz
        · exfalso
          obtain ⟨i, hi, e1⟩ := List.getElem_of_mem m1
          obtain ⟨j, hj, e2⟩ := List.getElem_of_mem m2
          have hij : i ≠ j := fun q => by subst q; rw [e1] at e2; exact hyz (Prod.mk.inj e2).1
          have ap := List.pairwise_iff_getElem.mp X.apart
          rcases Nat.lt_or_gt_of_ne hij with q | q
          · exact ap i j hi hj q ((congrArg Prod.snd e1).trans (congrArg Prod.snd e2).symm)
          · exact ap j i hj hi q ((congrArg Prod.snd e2).trans (congrArg Prod.snd e1).symm)
    refine codeT_func (hE [(p, it)] s' _ _ Sc fun f s'' ω'' S'' r'' k'' => ?_)
    cases f with
    | ret v =>
      obtain ⟨hh, tk, e⟩ := S''.same
      have e' : s'' = { s with heap := hh, toks := tk } := e
      subst e'
      have hen := S''.en p it ⟨rfl, rfl⟩
      obtain ⟨v', hv', a', rfl, hx', hm'⟩ := S''.names p _ .here
      have ha' : a' = it := hen.2.2 a' hx'
      subst ha'
      have hkeep : ∀ b o, b ≠ a' → s.heap.get? b = some o → hh.get? b = some o := fun b o n e => S''.base b o e n
      have hOO : ∀ b o, s.heap.get? b = some o → True := fun _ _ _ => trivial
      have hdown : ∀ b o, hh.get? b = some o → Val o → ¬ OO C' ω'' b → (¬ OO C ω b ∧ hh.get? b = some o) := fun b o e _ n => ⟨fun q => n (.inl q), e⟩
      obtain ⟨oz, hoz, soz⟩ := hm'.solid
      refine h v _ (S.mutK (tk := tk) hyi hvi hkeep hoz soz (hm'.keepV (fun o e _ => e) hdown) up ⟨_, hl⟩) (r''.keepV hdown) fun b o n e => hkeep b o (fun q => n ⟨y, q ▸ hyi⟩) e
    | _ => exact r''.elim
end
end Mine
end
section
open PySem PySem.W PyProof.Rows PySem.Calls
set_option Elab.async false
set_option linter.unusedVariables false
set_option linter.unusedSimpArgs false
namespace Mine
section
variable {C C' : Cx} {σ τ : St} {ω ω' : List (Str × Addr)} {s : Shared}
theorem Lk.cast {x : Str} {b b' : Bind} (h : Lk x σ b) (e : b = b') : Lk x σ b' := e ▸ h
theorem Gl.calleeIt {p : Program} {fr : List Str} {dd uu : Nat} {d : DefRec} (g : Gl p fr C dd uu) (h : CalleeIt C C' d) : Gl p fr C' (dd + 1) (uu + 3) :=
  ⟨h.G, h.funs _ g.funs, fun x hx => by rw [h.mg]; exact g.free x hx, h.handled.trans g.handled, by rw [h.depth]; exact Nat.succ_le_succ g.depth, by rw [h.units]; exact Nat.add_le_add_right g.units 3⟩
theorem bits_le' {z : Int} {k : Nat} (hz : z.natAbs < 2 ^ k) : Builtin.Int.intBits z ≤ k + 1 := by
  unfold Builtin.Int.intBits
  by_cases h : z = 0
  · simp [h]
  · have hb : (z == 0) = false := by simpa using h
    rw [hb]
    have h0 : z.natAbs ≠ 0 := by lia
    have := (Nat.log2_lt h0).mpr hz
    simp only [Bool.false_eq_true, if_false]
    lia
theorem iop_lshift {a : Int} {n k : Nat} (ha : a.natAbs < 2 ^ k) (hk : k ≤ 100000) (hn : n ≤ 100000) : Iop2 C .LShift (.int a) (.int n) (.int (a * 2 ^ n)) := by
  intro O s va vb Q E hO ra rb h; cases ra; cases rb
  refine ilshift_int (by lia) ?_ (h _ _ _ (Ext.refl _) (.int _ _))
  have := bits_le' ha
  lia
theorem iop_or {a b : Int} : Iop2 C .BitOr (.int a) (.int b) (.int (Builtin.bitOr a b)) := by
  intro O s va vb Q E hO ra rb h; cases ra; cases rb; exact ior_int (h _ _ _ (Ext.refl _) (.int _ _))
theorem Iop2.cast {op : Operator} {a b c d : AV} (h : Iop2 C op a b c) (x : c = d) : Iop2 C op a b d := x ▸ h
theorem and_apart (k y : Nat) (hy : y < 64) : (64 * k) &&& y = 0 := by
  apply Nat.eq_of_testBit_eq
  intro i
  rw [Nat.testBit_and, Nat.zero_testBit]
  by_cases hi : i < 6
  · have : (64 * k).testBit i = false := by
      rw [show 64 * k = 2 ^ 6 * k by rfl, Nat.testBit_two_pow_mul]
      simp; lia
    rw [this, Bool.false_and]
  · have : y.testBit i = false := Nat.testBit_lt_two_pow (Nat.lt_of_lt_of_le hy (by
      calc 64 = 2 ^ 6 := by rfl
        _ ≤ 2 ^ i := Nat.pow_le_pow_right (by decide) (by lia)))
    rw [this, Bool.and_false]
theorem or_apart {v c : Int} (hv : 0 ≤ v) (hc0 : 0 ≤ c) (hc : c < 64) : Builtin.bitOr (v * 64) c = v * 64 + c := by
  rw [bitOr_and, bitAnd_pp (by lia) hc0]
  obtain ⟨k, rfl⟩ := Int.eq_ofNat_of_zero_le hv
  obtain ⟨y, rfl⟩ := Int.eq_ofNat_of_zero_le hc0
  have e1 : ((k : Int) * 64).toNat = 64 * k := by lia
  rw [e1, Int.toNat_natCast, and_apart k y (by lia)]
  lia
theorem bit64 : ∀ n : Nat, n < 256 → (Builtin.bitAnd (n : Int) 64 ≠ 0 ↔ n / 64 % 2 = 1) := by decide +kernel

/-- base 64 -/
noncomputable def vv (l : List Int) : Int := l.foldl (fun v c => v * 64 + c % 64) 0
theorem vv_snoc (l : List Int) (c : Int) : vv (l ++ [c]) = vv l * 64 + c % 64 := by simp [vv]
theorem vv_acc (l : List Int) : ∀ (v : Int) (k : Nat), 0 ≤ v → v < 64 ^ k → 0 ≤ l.foldl (fun v c => v * 64 + c % 64) v ∧ l.foldl (fun v c => v * 64 + c % 64) v < 64 ^ (k + l.length) := by
  induction l with
  | nil => intro v k h0 h1; exact ⟨h0, h1⟩
  | cons c l ih =>
    intro v k h0 h1
    have e : k + (c :: l).length = (k + 1) + l.length := by simp; lia
    rw [List.foldl_cons, e]
    refine ih _ (k + 1) (by lia) ?_
    rw [Int.pow_succ]
    lia
theorem vv_bounds (l : List Int) : 0 ≤ vv l ∧ vv l < 64 ^ l.length := by
  have := vv_acc l 0 0 (by decide) (by decide)
  rwa [Nat.zero_add] at this
theorem vv_abs (l : List Int) : (vv l).natAbs < 2 ^ (6 * l.length) := by
  have h := vv_bounds l
  have e : (2 : Nat) ^ (6 * l.length) = 64 ^ l.length := by rw [Nat.pow_mul]
  rw [e]
  have : ((64 ^ l.length : Nat) : Int) = (64 : Int) ^ l.length := by simp
  lia
end
end Mine
end
section
open PySem PySem.W PyProof.Rows PySem.Calls
set_option Elab.async false
set_option linter.unusedVariables false
set_option linter.unusedSimpArgs false
namespace Mine
section
variable {C : Cx} {σ τ : St} {ω ω' : List (Str × Addr)} {s : Shared}

/-- the inner loop of a comprehension of two clauses -/
theorem comp_inner (G : GCx C) {x₁ : Str} {p₁ : Pos} {elt t₀ i₀ i₁ : Expr} {scope : Scope} {pos : Pos} {ys : List AV} {I D : Addr} {fp wr : List Addr} {P : Nat → Value → Prop} {St : Nat → Heap → Prop} {R : Result → Shared → Prop}
    (W : Walks C.prog C.w C.A I fp wr ys.length P St) (inv : Nat → List (Str × Bind)) (f : Nat → AV) (vs₀ : List Value) (acc : List AV)
    (S : Sat C (inv 0) ω s) (st₀ : St 0 s.heap) (hD : s.heap.PlainList D vs₀.toArray) (hvs₀ : RepAll (OO C ω) s.heap vs₀ acc) (hDO : C.O₀ D) (hDn : ¬ Own ω D) (hDs : C.s₀.heap.get? D = none)
    (hfp : ∀ b ∈ fp, ¬ Md C ω b ∧ ¬ C.O₀ b ∧ ∃ o, s.heap.get? b = some o) (hwr : ∀ b ∈ wr, b ∈ fp ∧ C.s₀.heap.get? b = none)
    (alive : ∀ i h₂, St i h₂ → ∀ b ∈ wr, ∃ o, h₂.get? b = some o ∧ Solid o ∧ ¬ Val o)
    (hP : ∀ i v x, P i v → ys[i]? = some x → Rep (OO C ω) s.heap v x) (hx : Stb C x₁)
    (step : ∀ i v, ys[i]? = some v → ∃ σ' τ', Up x₁ (.pure v) (inv i) σ' ∧ EvE C σ' elt (f i) τ' ∧ Wk τ' (inv (i + 1))) (hz : acc.length + ys.length ≤ sizeLine)
    (hR : ∀ s' vs, Sat C (inv ys.length) ω s' → s'.heap.PlainList D vs.toArray → RepAll (OO C ω) s'.heap vs (acc ++ (List.range ys.length).map f) →
      (∀ b o, ¬ Md C ω b → b ≠ D → b ∉ wr → s.heap.get? b = some o → s'.heap.get? b = some o) → (∀ v a, Rep (OO C ω) s.heap v a → Rep (OO C ω) s'.heap v a) → R (.ok .next) s') :
    codeT C.M C.A (.compStart (.ListComp elt [⟨t₀, i₀, [], 0⟩, ⟨.Name x₁ p₁, i₁, [], 0⟩] scope pos) 1 (.ref I) (.ref D) C.env) R s := by
  have loop : codeT C.M C.A (.compLoop (.ListComp elt [⟨t₀, i₀, [], 0⟩, ⟨.Name x₁ p₁, i₁, [], 0⟩] scope pos) 1 (.ref I) (.ref D) C.env) R s := by
    refine codeT_inner (fun m s' => ∃ i vs, i ≤ ys.length ∧ m = ys.length - i ∧ Sat C (inv i) ω s' ∧ St i s'.heap ∧ s'.heap.PlainList D vs.toArray ∧ RepAll (OO C ω) s'.heap vs (acc ++ (List.range i).map f) ∧
      (∀ b o, ¬ Md C ω b → b ≠ D → b ∉ wr → s.heap.get? b = some o → s'.heap.get? b = some o) ∧
      (∀ b ∈ fp, ¬ Md C ω b ∧ ¬ C.O₀ b ∧ ∃ o, s'.heap.get? b = some o) ∧ (∀ v a, Rep (OO C ω) s.heap v a → Rep (OO C ω) s'.heap v a)) ?_ ys.length
      ⟨0, vs₀, Nat.zero_le _, rfl, S, st₀, hD, by simpa using hvs₀, fun b o _ _ _ e => e, hfp, fun v a r => r⟩
    rintro m s' ⟨i, vs, hile, rfl, Si, sti, hDi, hvs, hki, hfi, repi⟩
    have hwi : ∀ b ∈ wr, ¬ Own ω b ∧ ¬ C.O₀ b ∧ C.s₀.heap.get? b = none ∧ ∃ o, s'.heap.get? b = some o ∧ Solid o ∧ ¬ Val o := fun b hb =>
      ⟨fun q => (hfi b (hwr b hb).1).1 (.inl q), (hfi b (hwr b hb).1).2.1, (hwr b hb).2, alive i _ sti b hb⟩
    have val2 : ∀ {h₂ : Heap}, (∀ b o, b ∉ wr → s'.heap.get? b = some o → h₂.get? b = some o) → ∀ b o, s'.heap.get? b = some o → Val o → h₂.get? b = some o := fun hk₂ b o e so => hk₂ b o (fun q => by
      obtain ⟨_, _, _, o', e', _, nv⟩ := hwi b q
      rw [e] at e'; cases e'; exact nv so) e
    have hDw : D ∉ wr := fun q => (hwi D q).2.1 hDO
    refine wpT_of ?_
    by_cases hlt : i < ys.length
    · refine W.item i s' _ _ hlt sti fun v h₂ tk₂ hPv st₂ hk₂ => ?_
      have St2 : Sat C (inv i) ω { s' with heap := h₂, toks := tk₂ } := Si.turn hk₂ hwi
      obtain ⟨σ', τ', up, hso2, hwk⟩ := step i ys[i] (List.getElem?_eq_getElem hlt)
      have rv : Rep (OO C ω) h₂ v ys[i] := (repi _ _ (hP i v _ hPv (List.getElem?_eq_getElem hlt))).keepV fun b o e so n => ⟨n, val2 hk₂ b o e so⟩
      refine T_assign_Name (wpT_of (store_any G St2 hx fun h₃ tk₃ k₃ => ?_))
      have S3 : Sat C σ' ω { s' with heap := h₃, toks := tk₃ } := St2.stored_pure k₃ up rv
      have hD3 : h₃.PlainList D vs.toArray := by
        obtain ⟨n, e⟩ := hDi
        exact ⟨n, k₃.solid (hk₂ D _ hDw e) (solid_seq rfl)⟩
      have alive2 : ∀ b ∈ fp, ∃ o, h₂.get? b = some o := fun b hb => by
        by_cases q : b ∈ wr
        · obtain ⟨o, e, _⟩ := alive _ _ st₂ b q; exact ⟨o, e⟩
        · obtain ⟨_, _, o, e⟩ := hfi b hb; exact ⟨o, hk₂ b o q e⟩
      have k23 : ∀ b o, ¬ Md C ω b → h₂.get? b = some o → h₃.get? b = some o := fun b o n e => ((k₃.md (ω := ω)) b o n e).2
      have sol : ∀ b o, h₂.get? b = some o → Val o → ¬ OO C ω b → h₃.get? b = some o := fun b o e so n => k₃.solid e so.1
      have rep2 : ∀ {v a}, Rep (OO C ω) s'.heap v a → Rep (OO C ω) h₂ v a := fun r => r.keepV fun b o e so n => ⟨n, val2 hk₂ b o e so⟩
      refine hso2 ω _ _ _ S3 fun u s₆ S₆ r₆ k₆ => wpT_of ?_
      have hD6 : s₆.heap.PlainList D vs.toArray := by
        obtain ⟨n, e⟩ := hD3
        exact ⟨n, k₆ D _ hDn e⟩
      have hvl : vs.length ≤ sizeLine := by
        rw [hvs.1, List.length_append, List.length_map, List.length_range]
        lia
      refine wpAny_list_append_plain hD6 (fun h₇ hp₇ hs₇ => ?_) (by simpa using hvl)
      have hpush : vs.toArray.push u = (vs ++ [u]).toArray := by simp
      rw [hpush] at hp₇
      have S7 : Sat C τ' ω { s₆ with heap := h₇, toks := s₆.toks } := S₆.side hs₇ hDO hDn hDs (fun o e => by obtain ⟨n, e'⟩ := hD6; rw [e'] at e; cases e; exact solid_seq rfl) ⟨_, hp₇.choose_spec⟩
      have r67 : ∀ {v a}, Rep (OO C ω) s₆.heap v a → Rep (OO C ω) h₇ v a := fun r => r.keepV fun b o e so n => ⟨n, (hs₇.2 b fun q => n (.inl (q ▸ hDO))).trans e⟩
      have r27 : ∀ {v a}, Rep (OO C ω) h₂ v a → Rep (OO C ω) h₇ v a := fun r => r67 (r.keepV fun b o e so n => ⟨n, k₆ b o (fun q => n (.inr q)) (sol b o e so n)⟩)
      have k27 : ∀ b o, ¬ Md C ω b → b ≠ D → h₂.get? b = some o → h₇.get? b = some o := fun b o n nd e => (hs₇.2 b nd).trans (k₆ b o (fun q => n (.inl q)) (k23 b o n e))
      have hfD : ∀ b ∈ fp, b ≠ D := fun b hb q => (hfi b hb).2.1 (q ▸ hDO)
      refine ⟨ys.length - (i + 1), by lia, i + 1, vs ++ [u], hlt, rfl, S7.wk hwk, W.frame _ _ _ st₂ fun b hb o e => k27 b o (hfi b hb).1 (hfD b hb) e, hp₇, ?_, fun b o n nd nw e => k27 b o n nd (hk₂ b o nw (hki b o n nd nw e)), fun b hb => ?_, fun u a' ru => r27 (rep2 (repi u a' ru))⟩
      · rw [List.range_succ, List.map_append, ← List.append_assoc]
        exact RepAll.append ⟨hvs.1, fun i v x e1 e2 => r27 (rep2 (hvs.2 i v x e1 e2))⟩ (.cons (r67 r₆) .nil)
      · obtain ⟨o, e⟩ := alive2 b hb
        exact ⟨(hfi b hb).1, (hfi b hb).2.1, o, k27 b o (hfi b hb).1 (hfD b hb) e⟩
    · have hin : i = ys.length := by lia
      subst hin
      refine W.done s' _ _ sti fun h₂ tk₂ hk₂ => ?_
      have rep2 : ∀ {v a}, Rep (OO C ω) s'.heap v a → Rep (OO C ω) h₂ v a := fun r => r.keepV fun b o e so n => ⟨n, val2 hk₂ b o e so⟩
      refine hR _ vs (Si.turn hk₂ hwi) ?_ ⟨hvs.1, fun i v x e1 e2 => rep2 (hvs.2 i v x e1 e2)⟩ (fun b o n nd nw e => hk₂ b o nw (hki b o n nd nw e)) fun v a r => rep2 (repi v a r)
      obtain ⟨n, e⟩ := hDi
      exact ⟨n, hk₂ D _ hDw e⟩
  exact codeT_compStart rfl loop (wpT_of (W.self 0 s _ _ st₀ loop))

theorem flatMap_succ {α : Type} (f : Nat → List α) (n : Nat) : (List.range (n + 1)).flatMap f = (List.range n).flatMap f ++ f n := by
  rw [List.range_succ, List.flatMap_append]; simp

/-- the outer loop -/
theorem comp_outer (G : GCx C) {x₀ x₁ : Str} {p₀ p₁ : Pos} {elt i₀ i₁ : Expr} {scope : Scope} {pos : Pos} {xs : List AV} {I D : Addr} {fp wr : List Addr} {P : Nat → Value → Prop} {St : Nat → Heap → Prop} {R : Result → Shared → Prop}
    (hh : C.A.handled = none) (W : Walks C.prog C.w C.A I fp wr xs.length P St) (inv : Nat → List (Str × Bind)) (g : Nat → Nat → AV) (b₁ : Nat → AV) (ys : Nat → List AV)
    (S : Sat C (inv 0) ω s) (st₀ : St 0 s.heap) (hD : s.heap.PlainList D #[]) (hDO : C.O₀ D) (hDn : ¬ Own ω D) (hDs : C.s₀.heap.get? D = none)
    (hfp : ∀ b ∈ fp, ¬ Md C ω b ∧ ¬ C.O₀ b ∧ ∃ o, s.heap.get? b = some o) (hwr : ∀ b ∈ wr, b ∈ fp ∧ C.s₀.heap.get? b = none)
    (alive : ∀ i h₂, St i h₂ → ∀ b ∈ wr, ∃ o, h₂.get? b = some o ∧ Solid o ∧ ¬ Val o)
    (hP : ∀ i v x, P i v → xs[i]? = some x → Rep (OO C ω) s.heap v x) (hx₀ : Stb C x₀) (hx₁ : Stb C x₁)
    (step : ∀ i v, xs[i]? = some v → ∃ σ' σ'', Up x₀ (.pure v) (inv i) σ' ∧ EvE C σ' i₁ (b₁ i) σ'' ∧ Items (b₁ i) (ys i) ∧
      ∃ jnv : Nat → List (Str × Bind), Wk σ'' (jnv 0) ∧ (∀ j u, (ys i)[j]? = some u → ∃ σ₃ τ₃, Up x₁ (.pure u) (jnv j) σ₃ ∧ EvE C σ₃ elt (g i j) τ₃ ∧ Wk τ₃ (jnv (j + 1))) ∧ Wk (jnv (ys i).length) (inv (i + 1)))
    (hz : ∀ n, n ≤ xs.length → ((List.range n).flatMap fun i => (List.range (ys i).length).map (g i)).length ≤ sizeLine)
    (hR : ∀ s' vs, Sat C (inv xs.length) ω s' → s'.heap.PlainList D vs.toArray → RepAll (OO C ω) s'.heap vs ((List.range xs.length).flatMap fun i => (List.range (ys i).length).map (g i)) → R (.ok .next) s')
    (hs : ∀ env x, foldedSetIterable i₁ env x = pure x := by intro _ _; rfl) :
    codeT C.M C.A (.compStart (.ListComp elt [⟨.Name x₀ p₀, i₀, [], 0⟩, ⟨.Name x₁ p₁, i₁, [], 0⟩] scope pos) 0 (.ref I) (.ref D) C.env) R s := by
  have loop : codeT C.M C.A (.compLoop (.ListComp elt [⟨.Name x₀ p₀, i₀, [], 0⟩, ⟨.Name x₁ p₁, i₁, [], 0⟩] scope pos) 0 (.ref I) (.ref D) C.env) R s := by
    refine codeT_outer (fun m s' => ∃ i vs, i ≤ xs.length ∧ m = xs.length - i ∧ Sat C (inv i) ω s' ∧ St i s'.heap ∧ s'.heap.PlainList D vs.toArray ∧ RepAll (OO C ω) s'.heap vs ((List.range i).flatMap fun i => (List.range (ys i).length).map (g i)) ∧
      (∀ b ∈ fp, ¬ Md C ω b ∧ ¬ C.O₀ b ∧ ∃ o, s'.heap.get? b = some o) ∧ (∀ v a, Rep (OO C ω) s.heap v a → Rep (OO C ω) s'.heap v a)) ?_ xs.length
      ⟨0, [], Nat.zero_le _, rfl, S, st₀, hD, .nil, hfp, fun v a r => r⟩ (by intro _; rfl) (hs _)
    rintro m s' ⟨i, vs, hile, rfl, Si, sti, hDi, hvs, hfi, repi⟩
    have hwi : ∀ b ∈ wr, ¬ Own ω b ∧ ¬ C.O₀ b ∧ C.s₀.heap.get? b = none ∧ ∃ o, s'.heap.get? b = some o ∧ Solid o ∧ ¬ Val o := fun b hb =>
      ⟨fun q => (hfi b (hwr b hb).1).1 (.inl q), (hfi b (hwr b hb).1).2.1, (hwr b hb).2, alive i _ sti b hb⟩
    have val2 : ∀ {h₂ : Heap}, (∀ b o, b ∉ wr → s'.heap.get? b = some o → h₂.get? b = some o) → ∀ b o, s'.heap.get? b = some o → Val o → h₂.get? b = some o := fun hk₂ b o e so => hk₂ b o (fun q => by
      obtain ⟨_, _, _, o', e', _, nv⟩ := hwi b q
      rw [e] at e'; cases e'; exact nv so) e
    have hDw : D ∉ wr := fun q => (hwi D q).2.1 hDO
    refine wpT_of ?_
    by_cases hlt : i < xs.length
    · refine W.item i s' _ _ hlt sti fun v h₂ tk₂ hPv st₂ hk₂ => ?_
      have St2 : Sat C (inv i) ω { s' with heap := h₂, toks := tk₂ } := Si.turn hk₂ hwi
      obtain ⟨σ', σ'', up, he₁, hi₁, jnv, hj0, hjs, hjend⟩ := step i xs[i] (List.getElem?_eq_getElem hlt)
      have rep2 : ∀ {v a}, Rep (OO C ω) s'.heap v a → Rep (OO C ω) h₂ v a := fun r => r.keepV fun b o e so n => ⟨n, val2 hk₂ b o e so⟩
      have rv : Rep (OO C ω) h₂ v xs[i] := rep2 (repi _ _ (hP i v _ hPv (List.getElem?_eq_getElem hlt)))
      refine T_assign_Name (wpT_of (store_any G St2 hx₀ fun h₃ tk₃ k₃ => ?_))
      have S3 : Sat C σ' ω { s' with heap := h₃, toks := tk₃ } := St2.stored_pure k₃ up rv
      have hD3 : h₃.PlainList D vs.toArray := by
        obtain ⟨n, e⟩ := hDi
        exact ⟨n, k₃.solid (hk₂ D _ hDw e) (solid_seq rfl)⟩
      have alive2 : ∀ b ∈ fp, ∃ o, h₂.get? b = some o := fun b hb => by
        by_cases q : b ∈ wr
        · obtain ⟨o, e, _⟩ := alive _ _ st₂ b q; exact ⟨o, e⟩
        · obtain ⟨_, _, o, e⟩ := hfi b hb; exact ⟨o, hk₂ b o q e⟩
      have k23 : ∀ b o, ¬ Md C ω b → h₂.get? b = some o → h₃.get? b = some o := fun b o n e => ((k₃.md (ω := ω)) b o n e).2
      have sol : ∀ b o, h₂.get? b = some o → Val o → ¬ OO C ω b → h₃.get? b = some o := fun b o e so n => k₃.solid e so.1
      refine he₁ ω _ _ _ S3 fun u s₄ S₄ r₄ k₄ => wpT_of (iter_walks hi₁ hh S₄.al r₄ fun I' fp' wr' P' St' h₅ W' st' ext' hfp' hP' alive' => ?_)
      have k24 : ∀ b o, ¬ Md C ω b → h₂.get? b = some o → s₄.heap.get? b = some o := fun b o n e => k₄ b o (fun q => n (.inl q)) (k23 b o n e)
      have r24 : ∀ {v a}, Rep (OO C ω) h₂ v a → Rep (OO C ω) s₄.heap v a := fun r => r.keepV fun b o e so n => ⟨n, k₄ b o (fun q => n (.inr q)) (sol b o e so n)⟩
      have S5 := (S₄.move (tk := s₄.toks) ext').wk hj0
      have hD5 : h₅.PlainList D vs.toArray := by
        obtain ⟨n, e⟩ := hD3
        exact ⟨n, ext' _ _ (k₄ D _ hDn e)⟩
      have hfD : ∀ b ∈ fp, b ≠ D := fun b hb q => (hfi b hb).2.1 (q ▸ hDO)
      have hnew' : ∀ b ∈ wr', C.s₀.heap.get? b = none := fun b hb => by
        have hb1 := hfp'.2.1 b hb
        cases q : C.s₀.heap.get? b with
        | none => rfl
        | some o =>
          by_cases hxx : C.ext b
          · obtain ⟨o', e', _⟩ := S₄.ins b (S₄.ext b hxx); rw [hb1] at e'; cases e'
          · have := S₄.base _ _ q hxx; rw [hb1] at this; cases this
      have hlen := hz (i + 1) hlt
      rw [flatMap_succ, List.length_append, List.length_map, List.length_range] at hlen
      refine comp_inner G W' jnv (g i) vs _ S5 st' hD5 ⟨hvs.1, fun i v x e1 e2 => (r24 (rep2 (hvs.2 i v x e1 e2))).ext ext'⟩ hDO hDn hDs (fun b hb => ?_) (fun b hb => ⟨hfp'.2.2 b hb, hnew' b hb⟩) alive' (fun i v x hp hx => (hP' i v x hp hx).ext ext') hx₁ hjs hlen fun s₈ vs₈ S₈ hD₈ hvs₈ k₈ r₈ => ?_
      · obtain ⟨o, e, so, n⟩ := hfp'.1 b hb
        refine ⟨?_, fun q => n (.inl q), o, e⟩
        rintro (q | q | ⟨y, hy, q⟩)
        · exact n (.inr q)
        · obtain ⟨m', n'⟩ := S5.loc; rw [← q] at n'; exact not_solid_ns n' e so
        · obtain ⟨a2, v2, q1, q2, _⟩ := S5.cell y hy; rw [q] at q1; cases q1; exact not_solid_cell q2 e so
      · have k28 : ∀ b o, ¬ Md C ω b → b ≠ D → h₂.get? b = some o → s₈.heap.get? b = some o := fun b o n nd e =>
          k₈ b o n nd (fun q => by have := k24 b o n e; rw [hfp'.2.1 b q] at this; cases this) (ext' _ _ (k24 b o n e))
        refine ⟨xs.length - (i + 1), by lia, i + 1, vs₈, hlt, rfl, S₈.wk hjend, W.frame _ _ _ st₂ fun b hb o e => k28 b o (hfi b hb).1 (hfD b hb) e, hD₈, ?_, fun b hb => ?_, fun u a' ru => r₈ _ _ ((r24 (rep2 (repi u a' ru))).ext ext')⟩
        · rw [flatMap_succ]; exact hvs₈
        · obtain ⟨o, e⟩ := alive2 b hb
          exact ⟨(hfi b hb).1, (hfi b hb).2.1, o, k28 b o (hfi b hb).1 (hfD b hb) e⟩
    · have hin : i = xs.length := by lia
      subst hin
      refine W.done s' _ _ sti fun h₂ tk₂ hk₂ => ?_
      refine hR _ vs (Si.turn hk₂ hwi) ?_ ⟨hvs.1, fun i v x e1 e2 => (hvs.2 i v x e1 e2).keepV fun b o e so n => ⟨n, val2 hk₂ b o e so⟩⟩
      obtain ⟨n, e⟩ := hDi
      exact ⟨n, hk₂ D _ hDw e⟩
  exact codeT_compStart rfl loop (wpT_of (W.self 0 s _ _ st₀ loop))
end
end Mine
end
section
open PySem PySem.W PyProof.Rows PySem.Calls
set_option Elab.async false
set_option linter.unusedVariables false
set_option linter.unusedSimpArgs false
namespace Mine
section
variable {C : Cx} {σ τ : St} {ω ω' : List (Str × Addr)} {s : Shared}

/-- up to the comprehension's last turn -/
theorem comp_run2 (G : GCx C) {x x₁ : Str} {px p₁ : Pos} {elt iter i₁ : Expr} {scope : Scope} {pos : Pos} {a : AV} {xs : List AV} {σ₁ : St} (N : List Str) (inv : Nat → St) (g : Nat → Nat → AV) (b₁ : Nat → AV) (ys : Nat → List AV)
    (sc : CompScope C σ scope x) (sc₁ : scope.names.lookup x₁ = some .local ∨ scope.names.lookup x₁ = some .cell) (he : EvE C σ iter a σ₁) (hi : Items a xs) (hh : C.A.handled = none)
    (hseen : ∀ y b, Lk y (inv 0) b → Seen C scope y ∧ Lk y σ₁ b ∧ ∀ m, b = .own m → y ∈ N)
    (step : ∀ C', CompOf C C' scope → ∀ i v, xs[i]? = some v → ∃ σ' σ'', Up x (.pure v) (inv i) σ' ∧ EvE C' σ' i₁ (b₁ i) σ'' ∧ Items (b₁ i) (ys i) ∧
      ∃ jnv : Nat → List (Str × Bind), Wk σ'' (jnv 0) ∧ (∀ j u, (ys i)[j]? = some u → ∃ σ₃ τ₃, Up x₁ (.pure u) (jnv j) σ₃ ∧ EvE C' σ₃ elt (g i j) τ₃ ∧ Wk τ₃ (jnv (j + 1))) ∧ Wk (jnv (ys i).length) (inv (i + 1)))
    (hend : ∀ y b, Lk y τ b → (∃ m m₀, b = .own m ∧ Lk y (inv xs.length) (.own m) ∧ Seen C scope y ∧ Lk y σ₁ (.own m₀)) ∨ (y ∉ N ∧ Lk y σ₁ b))
    {use : Option (Value → Sem Unit)} {Q : Value → Shared → Prop} {E : Value → Shared → Prop} (S : Sat C σ ω s)
    (h : ∀ L D s', (∀ h', Heap.SameBut L s'.heap h' → ∀ tk, Sat C τ ω { s' with heap := h', toks := tk } ∧ KB (Own ω) s.heap h' ∧ Rep (OO C ω) h' (.ref D) (.list ((List.range xs.length).flatMap fun i => (List.range (ys i).length).map (g i)))) →
      (∃ m, s'.heap.Ns L m) → s.heap.get? L = none → L ≠ C.env.locals → C.s₀.heap.get? L = none → ¬ OO C ω L → PostT C.M C.A E use Q (.ref D) L (.ok .next) s') (hz : ∀ n, n ≤ xs.length → ((List.range n).flatMap fun i => (List.range (ys i).length).map (g i)).length ≤ sizeLine)
    (hs : ∀ env x, foldedSetIterable iter env x = pure x := by intro _ _; rfl) (hs₁ : ∀ env x, foldedSetIterable i₁ env x = pure x := by intro _ _; rfl) :
    wpT C.M C.A (comprehension (.ListComp elt [⟨.Name x px, iter, [], 0⟩, ⟨.Name x₁ p₁, i₁, [], 0⟩] scope pos) scope C.env (firstIterPos [⟨.Name x px, iter, [], 0⟩, ⟨.Name x₁ p₁, i₁, [], 0⟩] pos) (newList []) false (eval iter C.env) use) Q E s := by
  obtain ⟨cl, hcl, hcl'⟩ := comp_closure G S sc.free
  refine T_comp (g := ⟨.Name x px, iter, [], 0⟩) (gs := [⟨.Name x₁ p₁, i₁, [], 0⟩]) rfl (hs _) hcl sc.kind sc.names ?_
  refine he ω s _ E S fun va s₁ S₁ r₁ k₁ => wpT_of (iter_walks hi hh S₁.al r₁ fun I fp wr P St h₁ W st₀ ext hfp hP alive => wpT_of (wpAny_newList ?_))
  let s₃ : Shared := { s₁ with heap := h₁.push { cls := .type "list", data := .seq ([] : List Value).toArray } }
  refine wpT_of (newEnv_comp (s := s₃) ?_)
  have e13 : Ext s₁.heap s₃.heap := ext.trans (.push _ _)
  have hD : s₁.heap.get? h₁.objs.size = none := by
    cases q : s₁.heap.get? h₁.objs.size with
    | none => rfl
    | some o => have := ext _ _ q; rw [get_size] at this; cases this
  have hDo : s₃.heap.get? h₁.objs.size = some { cls := .type "list", data := .seq ([] : List Value).toArray } := Heap.get?_push_size _ rfl
  let ωv := ω.filter fun p => decide (p.1 ∈ N)
  have hvω : ∀ p, p ∈ ωv → p ∈ ω := fun p hp => (List.mem_filter.mp hp).1
  obtain ⟨S₄, e34, hL, hcells⟩ := comp_enter (scope := scope) (s₃ := s₃) (ωv := ωv) (D := h₁.objs.size) (cl := cl) (σv := inv 0) G S₁ hvω ⟨_, _, rfl⟩ e13 hD ⟨_, hDo⟩ hcl' sc.mine
    (fun y b hl => let ⟨q1, q2, q3⟩ := hseen y b hl; ⟨q1, q2, fun m a e hm => List.mem_filter.mpr ⟨hm, by simpa using q3 m e⟩⟩)
  have hv : ∀ b, Own ωv b → Own ω b := fun b ⟨x, p⟩ => ⟨x, hvω _ p⟩
  have hC := comp_of (D := h₁.objs.size) (L := s₃.heap.objs.size) (cells := cellsFrom (s₃.heap.objs.size + 1) scope.names cl) G S₁ hv sc.kind
  let C' := compCx C scope s₁ ω ωv h₁.objs.size s₃.heap.objs.size (cellsFrom (s₃.heap.objs.size + 1) scope.names cl)
  have hLD : s₃.heap.objs.size ≠ h₁.objs.size := fun q => by rw [← q, get_size] at hDo; cases hDo
  have hDOO : ¬ OO C ω h₁.objs.size := fun q => by
    obtain ⟨o, e⟩ := S₁.al _ q; rw [hD] at e; cases e
  have hLOO : ¬ OO C ω s₃.heap.objs.size := fun q => by
    obtain ⟨o, e⟩ := S₁.al _ q; rw [hL] at e; cases e
  have hOO : ∀ b, OO C' ωv b ↔ OO C ω b ∨ b = h₁.objs.size := fun b => ⟨fun q => q.elim id fun q => .inl (.inr (hv b q)), .inl⟩
  have toC' : ∀ {v a}, Rep (OO C ω) s₁.heap v a → Rep (OO C' ωv) (pushCells (s₃.heap.push { cls := .type "dict", data := .dict #[] }) scope.names) v a := fun r => r.keepV fun b o e so n =>
    ⟨fun q => ((hOO b).mp q).elim n (fun q => by rw [q, hD] at e; cases e), e34 _ _ (e13 _ _ e)⟩
  have mdL : ∀ b o, (pushCells (s₃.heap.push { cls := .type "dict", data := .dict #[] }) scope.names).get? b = some o → Solid o → ¬ OO C ω b → ¬ Md C' ωv b := by
    rintro b o e so n (q | q | ⟨y, hy, q⟩)
    · exact n (.inr (hv b q))
    · obtain ⟨m, hm⟩ := S₄.loc
      rw [← q] at hm
      exact not_solid_ns hm e so
    · obtain ⟨a2, v2, q1, q2, _⟩ := S₄.cell y hy
      rw [q] at q1; cases q1
      exact not_solid_cell q2 e so
  have stb : ∀ z, (scope.names.lookup z = some .local ∨ scope.names.lookup z = some .cell) → Stb C' z := fun z q => by
    rcases q with q | q
    · exact .inl (relabN_lookup _ q (by intro e; cases e))
    · exact .inr ⟨relabN_lookup _ q (by intro e; cases e), List.mem_map.mpr ⟨(z, .cell), List.mem_filter.mpr ⟨mem_of_lookup q, rfl⟩, rfl⟩⟩
  refine comp_outer (C := C') (I := I) (D := h₁.objs.size) (fp := fp) (wr := wr) (P := P) (St := St) hC.G hh W inv g b₁ ys S₄ (W.frame _ _ _ st₀ fun b hb o e => e34 _ _ (Heap.get?_push_of_some _ e)) ⟨_, e34 _ _ hDo⟩ (.inr rfl)
    (fun q => hDOO (.inr (hv _ q))) hD (fun b hb => ?_) (fun b hb => ⟨hfp.2.2 b hb, hfp.2.1 b hb⟩) alive (fun i v x hp hx => toC' (hP i v x hp hx)) (stb x sc.x) (stb x₁ sc₁) (step C' hC) hz ?_ hs₁
  · obtain ⟨o, e, so, n⟩ := hfp.1 b hb
    have e4 := e34 _ _ (Heap.get?_push_of_some { cls := .type "list", data := .seq ([] : List Value).toArray } e)
    refine ⟨mdL b o e4 so n, fun q => ?_, o, e4⟩
    rcases q with q | q
    · exact n q
    · subst q; rw [get_size] at e; cases e
  · intro s' vs Se hDe hve
    have hLs : s.heap.get? s₃.heap.objs.size = none := by
      cases q : s.heap.get? s₃.heap.objs.size with
      | none => rfl
      | some o =>
        by_cases p : Own ω s₃.heap.objs.size
        · exact absurd (.inr p) hLOO
        · have := k₁ _ _ p q; rw [hL] at this; cases this
    refine h s₃.heap.objs.size h₁.objs.size s' (fun h' hs' tk => ?_) Se.loc hLs (fun q => ?_) ?_ hLOO
    · obtain ⟨S', kb⟩ := S₁.after G (τ := τ) hvω Se hL hs' (tk := tk) N (fun x a hp => by simpa using (List.mem_filter.mp hp).2) fun y b hl => by
        rcases hend y b hl with ⟨m, m₀, q1, q2, q3, q4⟩ | q
        · exact .inl ⟨m, q2, q1, q3, hcells y q3, m₀, q4⟩
        · exact .inr q
      refine ⟨S', k₁.trans kb, ?_⟩
      have hk : ∀ b o, s'.heap.get? b = some o → Val o → ¬ OO C' ωv b → (¬ OO C ω b ∧ h'.get? b = some o) := fun b o e so n => ⟨fun q => n ((hOO b).mpr (.inl q)), (hs'.2 b fun q => by
        subst q
        obtain ⟨m, hm⟩ := Se.loc
        exact not_solid_ns hm e so.1).trans e⟩
      have hr := hve.keepV hk
      obtain ⟨n, e⟩ := hDe
      exact .list _ vs _ ⟨n, (hs'.2 _ hLD.symm).trans e⟩ hDOO hr.1 hr.2
    · obtain ⟨m, hm⟩ := S₁.loc
      rw [← q] at hm
      obtain ⟨o, _, _, e, _⟩ := hm
      rw [hL] at e; cases e
    · cases q : C.s₀.heap.get? s₃.heap.objs.size with
      | none => rfl
      | some o =>
        by_cases p : C.ext s₃.heap.objs.size
        · exact absurd (.inr (S₁.ext _ p)) hLOO
        · have := S₁.base _ _ q p; rw [hL] at this; cases this

theorem ev_comp2 (G : GCx C) {x x₁ : Str} {px p₁ : Pos} {elt iter i₁ : Expr} {scope : Scope} {pos : Pos} {a : AV} {xs : List AV} {σ₁ : St} (N : List Str) (inv : Nat → St) (g : Nat → Nat → AV) (b₁ : Nat → AV) (ys : Nat → List AV)
    (sc : CompScope C σ scope x) (sc₁ : scope.names.lookup x₁ = some .local ∨ scope.names.lookup x₁ = some .cell) (he : EvE C σ iter a σ₁) (hi : Items a xs) (hh : C.A.handled = none)
    (hseen : ∀ y b, Lk y (inv 0) b → Seen C scope y ∧ Lk y σ₁ b ∧ ∀ m, b = .own m → y ∈ N)
    (step : ∀ C', CompOf C C' scope → ∀ i v, xs[i]? = some v → ∃ σ' σ'', Up x (.pure v) (inv i) σ' ∧ EvE C' σ' i₁ (b₁ i) σ'' ∧ Items (b₁ i) (ys i) ∧
      ∃ jnv : Nat → List (Str × Bind), Wk σ'' (jnv 0) ∧ (∀ j u, (ys i)[j]? = some u → ∃ σ₃ τ₃, Up x₁ (.pure u) (jnv j) σ₃ ∧ EvE C' σ₃ elt (g i j) τ₃ ∧ Wk τ₃ (jnv (j + 1))) ∧ Wk (jnv (ys i).length) (inv (i + 1)))
    (hend : ∀ y b, Lk y τ b → (∃ m m₀, b = .own m ∧ Lk y (inv xs.length) (.own m) ∧ Seen C scope y ∧ Lk y σ₁ (.own m₀)) ∨ (y ∉ N ∧ Lk y σ₁ b)) (hz : ∀ n, n ≤ xs.length → ((List.range n).flatMap fun i => (List.range (ys i).length).map (g i)).length ≤ sizeLine)
    (hs : ∀ env x, foldedSetIterable iter env x = pure x := by intro _ _; rfl) (hs₁ : ∀ env x, foldedSetIterable i₁ env x = pure x := by intro _ _; rfl) :
    EvE C σ (.ListComp elt [⟨.Name x px, iter, [], 0⟩, ⟨.Name x₁ p₁, i₁, [], 0⟩] scope pos) (.list ((List.range xs.length).flatMap fun i => (List.range (ys i).length).map (g i))) τ := fun ω s Q E S h =>
  comp_run2 G N inv g b₁ ys sc sc₁ he hi hh hseen step hend S (fun L D s' hafter hL _ _ _ _ => ⟨hL.choose, hL.choose_spec, fun h' hs' => by
    obtain ⟨S', kb, r⟩ := hafter h' hs' s'.toks
    exact h (.ref D) _ S' r kb⟩) hz hs hs₁

end
end Mine
end
section
open PySem PySem.W PyProof.Rows PySem.Calls
set_option Elab.async false
set_option linter.unusedVariables false
set_option linter.unusedSimpArgs false
namespace Mine
section
variable {C C' : Cx} {σ τ : St} {ω ω' : List (Str × Addr)} {s : Shared}

theorem EvE.pre {e : Expr} {a : AV} {σ₁ : St} (k : Wk σ σ₁) (h : EvE C σ₁ e a τ) : EvE C σ e a τ := fun ω s Q E S hq => h ω s Q E (S.wk k) hq
theorem EvE.post {e : Expr} {a : AV} {τ₁ : St} (h : EvE C σ e a τ₁) (k : Wk τ₁ τ) : EvE C σ e a τ := fun ω s Q E S hq => h ω s Q E S fun v s' S' => hq v s' (S'.wk k)

noncomputable def Vis (C : Cx) (scope : Scope) (σ₁ : St) (N : List Str) (l : St) : Prop := ∀ y b, Lk y l b → Seen C scope y ∧ Lk y σ₁ b ∧ ∀ m, b = .own m → y ∈ N
theorem Vis.nil {scope : Scope} {N : List Str} : Vis C scope σ N [] := fun _ _ h => nomatch h
theorem Vis.pure {scope : Scope} {N : List Str} {y : Str} {a : AV} {l : St} (h1 : Seen C scope y) (h2 : Lk y σ (.pure a)) (r : Vis C scope σ N l) : Vis C scope σ N ((y, .pure a) :: l) := fun z b h => by
  cases h with
  | here => exact ⟨h1, h2, fun m e => nomatch e⟩
  | there _ h => exact r z b h
theorem Vis.own {scope : Scope} {N : List Str} {y : Str} {m : MO} {l : St} (h1 : Seen C scope y) (h2 : Lk y σ (.own m)) (h3 : y ∈ N) (r : Vis C scope σ N l) : Vis C scope σ N ((y, .own m) :: l) := fun z b h => by
  cases h with
  | here => exact ⟨h1, h2, fun m e => h3⟩
  | there _ h => exact r z b h
theorem seen_of {K : Str → Option NameKind} {scope : Scope} {x : Str} (hk : C.kd = K) (h1 : scope.names.lookup x = some .free) (h2 : K x = some .cell) : Seen C scope x := ⟨h1, .inl (by rw [hk]; exact h2)⟩
theorem Lk.upd_ne {x y : Str} {b c : Bind} (h : Lk y σ b) (n : y ≠ x) : Lk y (upd x c σ) b := by
  induction h with
  | here =>
    unfold upd
    rw [if_neg (by simpa using fun e : x = y => n e.symm)]
    exact .here
  | @there z b' d σ' ne h ih =>
    unfold upd
    by_cases q : (x == z) = true
    · rw [if_pos q]
      have := beq_iff_eq.mp q
      subst this
      exact .there ne h
    · rw [if_neg q]
      exact .there ne ih
theorem comp_scope {K : Str → Option NameKind} {M : List Str} {scope : Scope} {x : Str} (hk : C.kd = K) (hm : C.mine = M)
    (h1 : (scope.names.all fun p => p.2 != .free || M.contains p.1 || (K p.1 != some .local && (σ.lookup p.1).isSome)) = true) (h2 : scope.kind = .function)
    (h3 : (scope.names.all fun p => p.2 != .local || scope.names.lookup p.1 == some .local) = true) (h4 : ((ownCells scope).all fun x => scope.names.lookup x == some .cell) = true)
    (h5 : (scope.names.lookup x == some .local || scope.names.lookup x == some .cell) = true) : CompScope C σ scope x where
  free := fun p hp hf => by
    have := List.all_eq_true.mp h1 p hp
    rw [hf] at this
    simp only [Bool.or_eq_true, Bool.and_eq_true] at this
    rcases this with (q | q) | ⟨q1, q2⟩
    · exact absurd q (by decide)
    · exact .inl (by rw [hm]; exact List.contains_iff_mem.mp q)
    · obtain ⟨b, hb⟩ := Option.isSome_iff_exists.mp q2
      exact .inr ⟨by rw [hk]; simpa using q1, b, .of hb⟩
  kind := h2
  names := fun p hp hl => by
    have := List.all_eq_true.mp h3 p hp
    rw [hl] at this
    simpa using this
  mine := h4
  x := by simpa using h5

/-- a comprehension over standing values alone, no test -/
theorem ev_compm (G : GCx C) {x : Str} {px : Pos} {elt iter : Expr} {scope : Scope} {pos : Pos} {a : AV} {xs : List AV} {σ₁ : St} (vis : St) (f : Nat → AV)
    (sc : CompScope C σ scope x) (he : EvE C σ iter a σ₁) (hi : Items a xs) (hh : C.A.handled = none) (hv : Vis C scope σ₁ [] vis)
    (step : ∀ C', CompOf C C' scope → ∀ i v, xs[i]? = some v → EvE C' ((x, .pure v) :: vis) elt (f i) vis) (hz : xs.length ≤ sizeLine)
    (hs : ∀ env x, foldedSetIterable iter env x = pure x := by intro _ _; rfl) : EvE C σ (.ListComp elt [⟨.Name x px, iter, [], 0⟩] scope pos) (.list ((List.range xs.length).map f)) σ₁ := by
  have := ev_comp (C := C) (τ := σ₁) (pos := pos) (px := px) (ifs := []) G [] (fun _ => vis) (fun i => some (f i)) sc he hi hh hv (fun C' hC i v e => ⟨_, vis, up_upd, ⟨rfl, EvE.pre up_wk (step C' hC i v e)⟩, .refl _⟩)
    (fun y b h => .inr ⟨by simp, h⟩) hz hs
  exact this.cast (congrArg AV.list (by simp))
/-- two clauses -/
theorem ev_compm2 (G : GCx C) {x x₁ : Str} {px p₁ : Pos} {elt iter i₁ : Expr} {scope : Scope} {pos : Pos} {a : AV} {xs : List AV} {σ₁ : St} (vis : St) (g : Nat → Nat → AV) (b₁ : Nat → AV) (ys : Nat → List AV)
    (sc : CompScope C σ scope x) (sc₁ : scope.names.lookup x₁ = some .local ∨ scope.names.lookup x₁ = some .cell) (he : EvE C σ iter a σ₁) (hi : Items a xs) (hh : C.A.handled = none) (hv : Vis C scope σ₁ [] vis)
    (step : ∀ C', CompOf C C' scope → ∀ i v, xs[i]? = some v → EvE C' ((x, .pure v) :: vis) i₁ (b₁ i) ((x, .pure v) :: vis) ∧ Items (b₁ i) (ys i) ∧
      ∀ j u, (ys i)[j]? = some u → EvE C' ((x₁, .pure u) :: (x, .pure v) :: vis) elt (g i j) ((x, .pure v) :: vis))
    (hz : ∀ n, n ≤ xs.length → ((List.range n).flatMap fun i => (List.range (ys i).length).map (g i)).length ≤ sizeLine) (hne : ∀ y b, Lk y vis b → y ≠ x)
    (hs : ∀ env x, foldedSetIterable iter env x = pure x := by intro _ _; rfl) (hs₁ : ∀ env x, foldedSetIterable i₁ env x = pure x := by intro _ _; rfl) :
    EvE C σ (.ListComp elt [⟨.Name x px, iter, [], 0⟩, ⟨.Name x₁ p₁, i₁, [], 0⟩] scope pos) (.list ((List.range xs.length).flatMap fun i => (List.range (ys i).length).map (g i))) σ₁ :=
  ev_comp2 (C := C) (τ := σ₁) G [] (fun _ => vis) g b₁ ys sc sc₁ he hi hh hv (fun C' hC i v e => by
      obtain ⟨h1, h2, h3⟩ := step C' hC i v e
      exact ⟨_, _, up_upd, EvE.pre up_wk h1, h2, fun _ => (x, .pure v) :: vis, .refl _, fun j u e' => ⟨_, _, up_upd, EvE.pre up_wk (h3 j u e'), .refl _⟩, fun y b h => .there (by simpa using hne y b h) h⟩)
    (fun y b h => .inr ⟨by simp, h⟩) hz hs hs₁

theorem ev_index (G : GCx C) {x : Str} {p q r : Pos} {e : Expr} {ns : List Int} {k : Int} (hl : Lk x σ (.pure (.list (il ns)))) (he : EvE C σ e (.int k) τ) (hk : k ∈ ns) (hlay : PyData.layable0 (.list (ns.map .int)) = true)
    (hline : (q.endLine == r.line) = true := by rfl) (hs : ∀ env, starEach [e] env = [(false, eval e env)] := by intro _; rfl) (hd : (x == ("__debug__" : Str)) = false := by decide) :
    EvE C σ (.Call (.Attribute (.Name x p) "index" q) [e] [] r) (.int (ns.idxOf k : Nat)) τ := fun ω s Q E S h => by
  refine T_method (id := "list.index") rfl hline (hs _) ?_
  refine ev_name G hl hd ω s _ E S fun v s₁ S₁ r₁ k₁ => ?_
  cases r₁ with | list rr vs _ hpl ho hn hi =>
  obtain ⟨n, hob⟩ := id hpl
  refine ⟨wpT_of (getMethod_list_of PySem.F.slot_list_index PySem.F.type_list_index hpl.isList ⟨_, hob, rfl⟩ ⟨rfl, rfl⟩), he ω s₁ _ E S₁ fun y s₂ S₂ r₂ k₂ => wpT_of ?_⟩
  cases r₂
  have hI : IntsAre vs ns := RepAll.toInts ⟨hn, hi⟩
  have hl₂ : s₂.heap.PlainList rr vs.toArray := ⟨n, k₂ _ _ (fun q => ho (.inr q)) hob⟩
  exact index_list_ints hl₂.isList hI hlay hk (h _ _ S₂.tok (.int _ _) (k₁.trans k₂))
end
end Mine
end
section
open PySem PySem.W PyProof.Rows PySem.Calls
set_option Elab.async false
set_option linter.unusedVariables false
set_option linter.unusedSimpArgs false
namespace Mine
section
variable {C C' : Cx} {σ τ : St} {ω ω' : List (Str × Addr)} {s : Shared}
theorem swaps_true (G : GCx C) {elt : Expr} {gens : List Comprehension} {scope : Scope} {pos py : Pos} {y : Str} {line : Nat} (hk : C.kd y = some .local) (hl : (py.line == pos.line) = true)
    (hn : (scope.names.any fun (n, k) => n == y && (k == .local || k == .cell)) = false) : swapsWith (.ListComp elt gens scope pos) (some (.Name y py)) line C.env = pure true := by
  have hkd : C.env.kindOf y = some .local := (G.kd y).trans hk
  have hb : C.env.blockKind = .function := by unfold Env.blockKind; rw [G.kind]; rfl
  show (pure (C.env.blockKind == .function && C.env.kindOf y == some .local && py.line == (Expr.ListComp elt gens scope pos).pos.line && !(scope.names.any fun (n, k) => n == y && (k == .local || k == .cell))) : Sem Bool) = pure true
  rw [hb, hkd, hn]
  have : (py.line == (Expr.ListComp elt gens scope pos).pos.line) = true := hl
  rw [this]; rfl
/-- y = [elt for x in iter], y local, standing values alone -/
theorem ex_assign_compm (G : GCx C) {x y : Str} {px py : Pos} {elt iter : Expr} {scope : Scope} {pos spos : Pos} {a : AV} {xs : List AV} {σ₁ : St} (vis : St) (f : Nat → AV)
    (sc : CompScope C σ scope x) (he : EvE C σ iter a σ₁) (hi : Items a xs) (hh : C.A.handled = none) (hv : Vis C scope σ₁ [] vis)
    (step : ∀ C', CompOf C C' scope → ∀ i v, xs[i]? = some v → EvE C' ((x, .pure v) :: vis) elt (f i) vis) (hz : xs.length ≤ sizeLine)
    {r : AV} (hr : AV.list ((List.range xs.length).map f) = r) (hy : Stb C y) (up : Up y (.pure r) σ₁ τ)
    (hw : swapsWith (.ListComp elt [⟨.Name x px, iter, [], 0⟩] scope pos) (some (.Name y py)) spos.line C.env = pure true)
    (hs : ∀ env x, foldedSetIterable iter env x = pure x := by intro _ _; rfl) : Ex C σ (.Assign [.Name y py] (.ListComp elt [⟨.Name x px, iter, [], 0⟩] scope pos) spos) .next τ := by
  subst hr
  have e : (List.range xs.length).filterMap (fun i => some (f i)) = (List.range xs.length).map f := by simp
  exact ex_assign_comp (ifs := []) G [] (fun _ => vis) (fun i => some (f i)) sc he hi hh hv (fun C' hC i v e => ⟨_, vis, up_upd, ⟨rfl, EvE.pre up_wk (step C' hC i v e)⟩, .refl _⟩)
    (fun y b h => .inr ⟨by simp, h⟩) hz hy (e ▸ up) hw hs
theorem pick_il (l : List Int) (lo hi st : Option Int) : pick (il l) lo hi st = il (pick l lo hi st) := by
  unfold pick il
  rw [List.length_map, List.map_filterMap]
  congr 1
  funext i
  rw [List.getElem?_map]
theorem il_item {l : List Int} {i : Nat} {v : AV} (h : (il l)[i]? = some v) : i < l.length ∧ v = .int (l.getD i 0) := by
  have hi : i < l.length := by simpa [il] using (List.getElem?_eq_some_iff.mp h).1
  refine ⟨hi, ?_⟩
  unfold il at h
  rw [List.getElem?_map, List.getElem?_eq_getElem hi] at h
  rw [← Option.some.inj h, List.getD_eq_getElem?_getD, List.getElem?_eq_getElem hi]; rfl
theorem il_map_getD (l : List Int) (f : Int → Int) : (List.range (il l).length).map (fun i => AV.int (f (l.getD i 0))) = il (l.map f) := by
  apply List.ext_getElem?
  intro i
  by_cases hi : i < l.length
  · rw [List.getElem?_map, List.getElem?_range (by simpa [il] using hi)]
    simp [il, List.getElem?_eq_getElem hi, List.getD_eq_getElem?_getD]
  · rw [List.getElem?_eq_none (by simp [il]; lia), List.getElem?_eq_none (by simp [il]; lia)]
theorem EvT.cast {e : Expr} {a b : Bool} (h : EvT C σ e a τ) (x : a = b) : EvT C σ e b τ := x ▸ h
end
end Mine
end
section
open PySem PySem.W PyProof.Rows PySem.Calls
set_option Elab.async false
set_option linter.unusedVariables false
namespace Mine
theorem caller_inT : TIn callerA (⟨.builtin "claim.caller" {}, none, none, [], none⟩ : Ctx) := ⟨caller_in, by decide, fun x hx => nomatch hx⟩
theorem ends_of_wpT {prog : Program} {w : World} {t : Sem Fin} {s : Shared} {R : Result → Shared → Prop} (hz : s.asleep)
    (h : wpT (model prog w) callerA t (fun fin s' => ∃ f, fin = .done f ∧ R (.ok f) s') (fun e s' => R (.error e) s') s) (hb : ∀ r s', R r s' → leftWithCleanup s'.gens = false) :
    ∃ n r s' s'', runN (denote table) prog w n s ⟨t, .builtin "claim.caller" {}, default, []⟩ = .halted (outcomeOf r) s' ∧
      schedN (denote table) prog w n (.single s ⟨t, .builtin "claim.caller" {}, default, []⟩) = .halted (outcomeOf r) s' ∧ s'.forget = s''.forget ∧ R r s'' := by
  have hw : Sem.wp (model prog w) ⟨.builtin "claim.caller" {}, none, none, [], none⟩ t (Sem.finPost (model prog w) ⟨.builtin "claim.caller" {}, none, none, [], none⟩ fun r s' => R r s' ∧ leftWithCleanup s'.gens = false)
      (fun e _ s' => R (.error e) s' ∧ leftWithCleanup s'.gens = false) default s :=
    Sem.wp_mono _ _ t (fun fin p' s' h' => by obtain ⟨f, rfl, hf⟩ := h'; exact ⟨hf, hb _ _ hf⟩) (fun _ _ _ h' => ⟨h', hb _ _ h'⟩) default s (h.run _ default caller_inT)
  obtain ⟨n, r, s₁, s₂, hs, hn, hfo, hR⟩ := wp_halts_full (M := model prog w) (R := R) hz hw
  exact ⟨n, r, s₂, s₁, hn, hs, hfo, hR⟩

/-- the walk, asked for at the caller's own stack alone -/
noncomputable abbrev WalkT (q : Program) (loose : List Str) (XP : (Str → Option Value) → Heap → Prop) (YP : World → Heap → Prop) (r : RowW) (d : DefRec) (kwd : List (Str × Expr)) : Prop :=
  ∀ (w : World) (s₀ s₁ : Shared) (mg mb : Str → Option Value), Ground q loose r.records XP w s₀ mg mb s₁.heap → YP w s₁.heap → ∀ (a : Addr) (o : Obj) (pm cd doc dV kV : Value), s₁.heap.get? a = some o →
    o.data = .func { docDef d.name d.params d.body d.scope pm cd doc with defaults := dV, kwdefaults := kV } → s₁.heap.CodeRec cd d.name → mg d.name = some (.ref a) → s₁.gens = #[] →
    ∀ (args : List WData) (vals : List Value) (as : List Addr), r.claim.pre args = true → WData.layableAll args = true → ReadsAllW r.records (classAt s₀.heap) s₁.heap vals args as → WellAll w.params s₁.heap vals args → (∀ a ∈ as, (a == sysModules) = false) →
      wpT (model r.prog w) callerA (call (.ref a) vals) (fun v s' => GoodWG r.claim (classAt s₀.heap) (ExcName.means s₀.heap) args s₁ (.ok (.ret v)) s')
        (fun e s' => GoodWG r.claim (classAt s₀.heap) (ExcName.means s₀.heap) args s₁ (.error e) s') s₁

theorem PySem.W.holds_open {r : OpenRow} {q : Program} {loose : List Str} {Xt : Shared → Bool} {XP : (Str → Option Value) → Heap → Prop} {α : Type} {Yf : Shared → α} {Ya : World → α} {YP : World → Heap → Prop} {d : DefRec} {kwd : List (Str × Expr)} {N : Nat}
    (left : LeftO r.prog q loose Xt Yf Ya N) (hY : ∀ w s, Yf s = Ya w → YP w s.heap) (hYk : ∀ w h h', YP w h → (∀ b o, h.get? b = some o → h'.get? b = some o) → YP w h')
    (hX : ∀ s, Xt s = true → XP (s.heap.nsMap mainGlobals) s.heap) (hXk : ∀ mg h h', XP mg h → (∀ b o, h.get? b = some o → h'.get? b = some o) → XP mg h')
    (hdef : defOf q r.name = some (d, kwd)) (hp : r.prog.theDef r.name = some (d.params, d.body, d.scope)) (hk : kwWritten? d.params.kwonlyargs d.params.kw_defaults = some kwd) (hRf : ∀ s, Xt s = true → RecFacts r.records s.heap) (hwr : (!r.writes || r.records.isEmpty) = true)
    (k1 : r.wellSaid = true) (ok : (chainsOk q && opensWell r.prog && (frees r.toRowW && r.within.isEmpty)) = true) (hb : r.prog.bare) (hw : r.toRowW.promised)
    (call : WalkT q loose XP YP r.toRowW d kwd) : r.Holds := by
  have ⟨ok1, ok2⟩ := Bool.and_eq_true_iff.mp ok
  have ⟨chains, opens⟩ := Bool.and_eq_true_iff.mp ok1
  have ⟨fr, wi⟩ := Bool.and_eq_true_iff.mp ok2
  obtain ⟨same, under, after, apart, makers⟩ := frees_parts fr
  have within : r.toRowW.claim.within = [] := List.isEmpty_iff.mp wi
  have ident := ident_freeW under after apart
  have both : ∀ s, Xt s = true → (fun mg h => XP mg h ∧ RecFacts r.records h) (s.heap.nsMap mainGlobals) s.heap := fun s e => ⟨hX s e, hRf s e⟩
  refine ⟨k1, hw, ⟨hb, opens, by show r.makers.map _ = []; rw [makers]; rfl⟩, hw.witness, fun w => ⟨(left.behind hX chains w).1, fun s' after' => ?_⟩⟩
  obtain ⟨s₀, fence, g0, s, ran, asleep, noGens, isNs, GG, yf⟩ := (left.behind (XP := fun mg h => XP mg h ∧ RecFacts r.records h) both chains w).2 s' after'
  have G0 : Ground q loose [] XP w s (s.heap.nsMap mainGlobals) (s.heap.nsMap builtinsNs) s.heap := { GG with X := GG.X.1 }
  have gens0 : s.gens = #[] := Array.eq_empty_of_size_eq_zero (beq_iff_eq.mp noGens)
  have G := GG.X.2.ground G0
  refine ⟨s₀, fence, g0, s, ran, fun n hn => ?_, GG.X.2.1, GG.X.2.2.1, fun args pre lay ord perm => ?_⟩
  · obtain rfl : n = r.name := by split at hn <;> simp_all
    exact pinned_of_view isNs G0 hdef hp hk
  obtain ⟨⟨vs, s₁⟩, laid⟩ := Option.isSome_iff_exists.mp (layAllW_isSome (P := w.params) (ord := ord) G.has args r.args s (pre_splitW pre).1)
  have grown := layAllW_keeps _ _ _ laid
  have rest := layAllW_rest _ _ _ laid
  obtain ⟨as, reads, inn, old⟩ := reads_layAllW perm _ _ _ laid lay s₁.heap (fun _ _ e => e)
  have L : Laid r.records w s s₁ args vs as := ⟨⟨ord, perm, laid⟩, reads, inn, old, grown, rest.1.trans gens0, rest.2.2.1⟩
  have G₁ := G.keeps hXk grown
  obtain ⟨a, o, pm, cd, doc, dV, kV, f1, f2, f3, f4, f5⟩ := G₁.fn hdef
  have walk := call w s s₁ _ _ G₁ (hYk _ _ _ (hY w s yf) grown) a o pm cd doc dV kV f2 f3 f4 (defOf_name hdef ▸ f1) L.gens args vs as pre lay reads L.well (L.low G.low)
  have name : mainNs = mainGlobals := rfl
  have f1' : s.heap.nsMap mainGlobals r.name = some (.ref a) := f1
  obtain ⟨k, res, s₂, s₃, run, sched, forget, ⟨ends, os, g⟩, _⟩ := ends_of_wpT (prog := r.claim.prog) (w := w) (s := s₁)
    (t := do match ← nsGet mainNs r.name with
      | some f => do ret (← PySem.call f vs)
      | none => unsupported "claim.caller:no-such-global")
    (R := fun res s' => (r.claim.Ends s args vs s₁ res s' ∧ s'.os = s.os ∧ GoodWG r.claim (classAt s.heap) (ExcName.means s.heap) args s₁ res s') ∧ leftWithCleanup s'.gens = false)
    (Shared.asleep_of_life rest.2.2.2 asleep) (wpT_bind (wpT_of (wpAny_nsGet G₁.T.g (by
      rw [f1']
      exact wpT_bind (wpT_mono walk (fun v s' g => wpT_pure ⟨_, rfl, have z := g.laid (c := r.claim) same within ident L; ⟨⟨z.1, z.2.1, g⟩, leftWithCleanup_false_of_bare z.2.2⟩⟩)
        fun e s' g => have z := g.laid (c := r.claim) same within ident L; ⟨⟨z.1, z.2.1, g⟩, leftWithCleanup_false_of_bare z.2.2⟩))))) (fun _ _ x => x.2)
  obtain ⟨eh, _, _, eo, _⟩ := Shared.forget_eq forget
  have ends' := ends.congr eh
  have old' : ∀ b o, s₁.heap.get? b = some o → asItWas s₁.heap s₂.heap b o := fun b o e => eh ▸ g.2.1.old b o e
  have life : s₂.heap.life = s.heap.life := (runN_life _ _ _ run).trans rest.2.2.2
  refine ⟨vs, s₁, laid, k, _, s₂, sched, ?_, (fun _ i x hx => by rw [gens0] at hx; simp at hx), (fun q => ⟨namesKept_of ran isNs _ grown old', noTable hwr q⟩), by rw [life], Shared.rest_eq (eo ▸ os)⟩
  rcases ends' with ⟨v, rfl, d1, d2, d3, d4, d5⟩ | ⟨e, ob, cls, rfl, d1, d2, d3, d4, d5⟩
  · exact .inl ⟨v, rfl, d1, d2, d3, fun b o y _ => d4 b o y, d5⟩
  · exact .inr ⟨e, ob, cls, rfl, d1, d2, d3, d4, fun b o y _ => d5 b o y⟩

/-- the place from which the law is called -/
noncomputable def topEnv : Env := { scope := { kind := .function, names := [], isGenerator := false, isCoroutine := false }, locals := 0, globals := mainGlobals, cells := [], builtins := builtinsNs }
noncomputable def topCx (p : Program) (w : World) (s : Shared) (mg mb : Str → Option Value) : Cx :=
  { prog := p, w := w, env := topEnv, A := callerA, s₀ := s, mg := mg, mb := mb, O₀ := fun _ => False, ext := fun _ => False, en := fun _ _ => False, mine := [], kd := fun x => topEnv.kindOf x }
theorem topG {p q : Program} {loose : List Str} {w : World} {s : Shared} {mean : ExcName → Option Value} {mg mb : Str → Option Value} (T : Top q loose mean mg mb s.heap) : GCx (topCx p w s mg mb) where
  g := T.g
  b := T.b
  nolimit := T.nolimit
  builtins := T.builtins
  kind := rfl
  kd := fun _ => rfl
  glob := rfl
  blt := rfl
  noext := fun _ x => x.elim
theorem topGl {p q : Program} {loose : List Str} {w : World} {s : Shared} {mean : ExcName → Option Value} {mg mb : Str → Option Value} {fr : List Str} (T : Top q loose mean mg mb s.heap) (hq : recsOf q = recsOf p)
    (hfr : ∀ x ∈ fr, x ∉ startupNames ∧ x ∉ loose ∧ x ∉ (recsOf q).map (·.name) ∧ x ∉ (litsOf q).map (·.1) ∧ x ∉ (clssOf q loose).map (·.name)) : Gl p fr (topCx p w s mg mb) 301 4 where
  G := topG T
  funs := fun d hd => by
    obtain ⟨a, o, pm, code, doc, h1, h2, h3, h4⟩ := T.fn d (hq ▸ hd)
    exact ⟨a, h1, o, pm, code, doc, h3, fun h k => ⟨k _ _ h2 id, h4.keeps fun b o e => k b o e id⟩, h2, id⟩
  free := fun x hx => let ⟨h1, h2, h3, h4, h5⟩ := hfr x hx; T.free x h1 h2 h3 h4 h5
  handled := rfl
  depth := by show 1 + claimMargin ≤ 301; decide +kernel
  units := Nat.le_refl 4
/-- the law's answer, told as the claim wants it -/
theorem law_end {l : OpenLaw} {w : World} {P : Params} {s : Shared} {mg mb : Str → Option Value} {a : Addr} {cl : Str → Option Addr} {mean : ExcName → Option Value} {args : List WData} {ns : List Int} {li : Addr} {us : List Value}
    (hF : Fn (topCx l.prog w s mg mb) (.ref a) [.list (il ns)] (.bool true)) (hg : s.gens = #[])
    (hL : s.heap.IsList li us.toArray) (hI : IntsAre us ns) (hW : Well P s.heap (.ref li) (ofPy (.list (ns.map PyData.int)))) :
    wpT (model l.prog w) callerA (call (.ref a) [.ref li]) (fun v s' => GoodWG l.row.claim cl mean args s (.ok (.ret v)) s') (fun e s' => GoodWG l.row.claim cl mean args s (.error e) s') s := by
  have hpl : s.heap.PlainList li us.toArray := by
    obtain ⟨o, e, c, n, d⟩ := hL
    cases hW with
    | list e' _ =>
      rw [e] at e'
      cases e'
      injection d with d1 d2
      exact ⟨_, d1 ▸ e⟩
  refine hF (fun _ => False) s [.ref li] _ _ (fun b o e _ => e) (fun b x => x.elim) (.cons (.list li us (il ns) hpl id (by simp [hI.length]) (RepAll.of_ints hI).2) .nil) fun v h' tk ext rv => ?_
  cases rv
  refine GoodW.toG ⟨.inl ⟨.bool true, .bool true, [], rfl, fun _ => rfl, .bool true, ?_, fun _ => ⟨List.nodup_nil, fun a h => nomatch h⟩⟩, ext, rfl, hg⟩
  have hv : WTm.value ([] : WRecords) (.eq .res (.lit (.bool true))) { args := args, res := some (.bool true), after := args } = some (.bool (same (.bool true) (.bool true))) := by wtm_val
  exact postW_of (r := l.row.toRowW) rfl hv (by first | exact same_self _ | decide | simp [same])
end Mine
end
section
open PySem PySem.W PyProof.Rows PySem.Calls
set_option Elab.async false
set_option linter.unusedVariables false
set_option linter.unusedSimpArgs false
namespace Mine
noncomputable def recAt (p : Program) (i : Nat) : DefRec := ((recsOf p).drop i).headD ⟨"", ⟨[], [], none, [], [], none, []⟩, [], default, ⟨0, 0, 0, 0⟩⟩
noncomputable abbrev pw := PySem.Challenge.pw_wn0003_02
noncomputable abbrev dInt : DefRec := recAt pw 2
noncomputable abbrev frees : List Str := ["abs", "int", "len", "range", "divmod", "bytes", "bytearray", "next", "iter", "min", "sum", "list"]

/-- hexadecimal figures as letters -/
noncomputable def apTail (n : Nat) : Nat → List Int
  | 0 => []
  | i + 1 => (65 + (n / 16 ^ i % 16 : Nat) : Int) :: apTail n i
noncomputable def nd (n : Nat) : Nat := if n = 0 then 0 else nd (n / 16) + 1
decreasing_by omega
noncomputable def ap (n : Nat) : List Int := apTail n (nd n)
theorem nd_zero {n : Nat} : n / 16 ^ nd n = 0 := by
  induction n using Nat.strongRecOn with
  | ind n ih =>
    unfold nd
    split
    · rename_i h; simp [h]
    · rename_i h
      have := ih (n / 16) (by omega)
      rw [Nat.pow_succ, Nat.mul_comm, ← Nat.div_div_eq_div_mul]
      exact this
theorem nd_pos {n : Nat} : ∀ i, i < nd n → n / 16 ^ i ≠ 0 := by
  induction n using Nat.strongRecOn with
  | ind n ih =>
    intro i hi
    unfold nd at hi
    split at hi
    · omega
    · rename_i h
      cases i with
      | zero => simpa using h
      | succ i =>
        have := ih (n / 16) (by omega) i (by omega)
        rw [Nat.pow_succ, Nat.mul_comm, ← Nat.div_div_eq_div_mul]
        exact this
theorem apTail_len (n : Nat) : ∀ i, (apTail n i).length = i
  | 0 => rfl
  | i + 1 => by simp [apTail, apTail_len n i]


theorem ap_letter : ∀ m : Nat, m < 16 → ((([65,66,67,68,69,70,71,72,73,74,75,76,77,78,79,80] : List Int).drop (clipAt 16 m)).take (clipAt 16 ((m : Int) + 1) - clipAt 16 m)) = [(65 + m : Int)] := by decide
section
variable {C : Cx} {dd uu : Nat}
set_option maxRecDepth 100000 in
theorem int2ap_body (g : Gl pw frees C dd uu) {C' : Cx} (h : CalleeOf C C' dInt) (n : Nat) (i : Int) (hi : i.natAbs = n) (hz : nd n ≤ 16777215) :
    ∃ τ', Exs C' ((dInt.params.args.map (·.arg)).zip (([.int i] : List AV).map .pure)) dInt.body (.ret (.bytes (ap n))) τ' := by
  have g' := g.callee h
  have G := g'.G
  have hk := h.kd
  have hn : (if i < 0 then -i else i) = (n : Int) := by split <;> omega
  refine ⟨[], ?_⟩
  refine exs_of rfl (ex_assign G ev_bytes (stb_local hk rfl) up_upd) ?_
  refine exs_of rfl (ex_assign G ev_bytes (stb_local hk rfl) up_upd) ?_
  refine exs_of rfl (ex_assign G (ev_call G (g'.builtin (kd_fn hk rfl) rfl (by decide) rfl) .type (evl_cons (ev_call G (g'.builtin (kd_fn hk rfl) rfl (by decide) rfl) .builtin (evl_cons (ev_name G (.of rfl)) evl_nil) (fn_abs.cast (congrArg AV.int hn))) evl_nil) fn_int) (stb_local hk rfl) up_upd) ?_
  refine exs_of (σ₁ := [("num", .pure (.int (n / 16 ^ nd n : Nat))), ("val", .pure (.bytes (apTail n (nd n)))), ("AP", .pure (.bytes [65,66,67,68,69,70,71,72,73,74,75,76,77,78,79,80]))]) rfl (ex_while (fun j => [("num", .pure (.int (n / 16 ^ j : Nat))), ("val", .pure (.bytes (apTail n j))), ("AP", .pure (.bytes [65,66,67,68,69,70,71,72,73,74,75,76,77,78,79,80]))]) (nd n) ?_ (fun j hj => ?_) ?_) ?_
  · refine .cons_eq (.of rfl) ?_ (.cons (.of rfl) (.cons (.of rfl) .nil))
    simp
  · have h16 : n / 16 ^ j % 16 < 16 := Nat.mod_lt _ (by decide)
    refine ⟨_, _, evt_value (ev_name G (.of rfl)) (truth_true ?_), ?_, .refl _⟩
    · have := nd_pos j hj
      omega
    · refine exs_of rfl (ex_unpack G (ns := [(_, _), (_, _)]) (ev_call G (g'.builtin (kd_fn hk rfl) rfl (by decide) rfl) .builtin (evl_cons (ev_name G (.of rfl)) (evl_cons ev_int evl_nil)) (fn_divmod (by decide) (by decide))) (.inl rfl) g'.handled rfl rfl ?_ (.cons up_upd (.cons up_upd .nil))) ?_
      · intro x hx
        rcases List.mem_cons.mp hx with rfl | hx
        · exact stb_local hk rfl
        · rw [List.mem_singleton.mp hx]; exact stb_local hk rfl
      refine exs_of rfl (ex_assign G (ev_bin ((ev_slice (ev_name G (.of rfl)) (evp_some (ev_name G (.of rfl))) (evp_some (ev_bin (ev_name G (.of rfl)) ev_int op_add)) evp_none (gets_bytes (by decide))).cast (b := .bytes [65 + (n / 16 ^ j % 16 : Nat)]) ?_) (ev_name G (.of rfl)) (op_addb ?_)) (stb_local hk rfl) up_upd) (exs_done rfl ?_)
      · exact congrArg AV.bytes (ap_letter _ h16)
      · rw [apTail_len]
        simp only [List.length_cons, List.length_nil]
        omega
      refine .cons_eq (.of rfl) ?_ (.cons (.of rfl) (.cons (.of rfl) .nil))
      show Bind.pure (.int (((n / 16 ^ j : Nat) : Int) / 16)) = Bind.pure (.int (n / 16 ^ (j + 1) : Nat))
      rw [Nat.pow_succ, ← Nat.div_div_eq_div_mul]
      rfl
  · refine evt_value (ev_name G (.of rfl)) (truth_false ?_)
    have := nd_zero (n := n)
    omega
  · exact exs_ret_of rfl (ev_name G (.of rfl))
end
end Mine
end
section
open PySem PySem.W PyProof.Rows PySem.Calls
set_option Elab.async false
set_option linter.unusedVariables false
set_option linter.unusedSimpArgs false
namespace Mine
noncomputable abbrev dSwp : DefRec := recAt pw 0
section
variable {C : Cx} {dd uu : Nat}
set_option maxRecDepth 100000 in
theorem swap_body (g : Gl pw frees C dd uu) {C' : Cx} (h : CalleeOf C C' dSwp) (d : List Int) (w q : Nat) (hw : 0 < w) (hq : d.length = q * w) (hz : d.length ≤ 1000000) (hwz : w ≤ 1000000) (hd : ∀ x ∈ d, 0 ≤ x ∧ x < 256) :
    Exs C' ((dSwp.params.args.map (·.arg)).zip (([.bytes d, .int w] : List AV).map .pure)) dSwp.body (.ret (.bytes (swapped d w))) [] := by
  have g' := g.callee h
  have G := g'.G
  have hk := h.kd
  refine exs_of rfl (ex_own G (evo_bytearray G (g'.builtin (kd_fn hk rfl) rfl (by decide) rfl) (ev_call G (g'.builtin (kd_fn hk rfl) rfl (by decide) rfl) .builtin (evl_cons (ev_name G (.of rfl)) evl_nil) (fn_len_bytes (by omega))) (by unfold sizeLine; omega)) (stb_local hk rfl) up_upd (h.en _)) ?_
  refine exs_of (σ₁ := [("data", .pure (.bytes d)), ("width", .pure (.int w)), ("swapped_data", .own (.barr (swapped d w)))]) rfl (ex_for G (fun m => [("data", .pure (.bytes d)), ("width", .pure (.int w)), ("swapped_data", .own (.barr (swapM d w m 0)))])
    (ev_call G (g'.builtin (kd_fn hk rfl) rfl (by decide) rfl) .type (evl_cons ev_int (evl_cons (ev_call G (g'.builtin (kd_fn hk rfl) rfl (by decide) rfl) .builtin (evl_cons (ev_name G (.of rfl)) evl_nil) (fn_len_bytes (by omega))) (evl_cons (ev_name G (.of rfl)) evl_nil)))
      (fn_range3 G (by omega) (by omega) (small_step (by omega) hw (by omega)))) (.range _ _ _ q (size_step hw hq)) g'.handled (stb_local hk rfl) ?_ (fun m v hv => ?_) ?_) ?_
  · refine .cons (.of rfl) (.cons (.of rfl) (.cons_eq (.of rfl) ?_ .nil))
    rw [swapM_zero]
  · have hm : m < q := by simpa using (List.getElem?_eq_some_iff.mp hv).1
    have hv' : v = .int ((m * w : Nat) : Int) := by
      rw [List.getElem?_map, List.getElem?_range hm] at hv
      have := (Option.some.inj hv).symm
      rw [this]
      show AV.int (0 + (m : Int) * (w : Int)) = _
      rw [Int.zero_add, Int.natCast_mul]
    subst hv'
    have hmw : m * w + w ≤ d.length := by
      rw [hq]
      calc m * w + w = (m + 1) * w := by rw [Nat.add_mul, Nat.one_mul]
        _ ≤ q * w := Nat.mul_le_mul_right _ hm
    refine ⟨_, _, up_upd, ?_, .refl _⟩
    refine exs_of (σ₁ := [("data", .pure (.bytes d)), ("width", .pure (.int w)), ("swapped_data", .own (.barr (swapM d w (m + 1) 0)))]) rfl (ex_for G (fun j => [("data", .pure (.bytes d)), ("width", .pure (.int w)), ("swapped_data", .own (.barr (swapM d w m j))), ("i", .pure (.int ((m * w : Nat) : Int)))])
      (ev_call G (g'.builtin (kd_fn hk rfl) rfl (by decide) rfl) .type (evl_cons (ev_name G (.of rfl)) evl_nil) (fn_range1 G (by omega) (by omega))) (.range _ _ _ w size_one) g'.handled (stb_local hk rfl) ?_ (fun j v hv => ?_) ?_) (exs_done rfl (.refl _))
    · exact .cons (.of rfl) (.cons (.of rfl) (.cons (.of rfl) (.cons (.of rfl) .nil)))
    · have hj : j < w := by simpa using (List.getElem?_eq_some_iff.mp hv).1
      have hv' : v = .int (j : Int) := by
        rw [List.getElem?_map, List.getElem?_range hj] at hv
        have := (Option.some.inj hv).symm
        rw [this]
        show AV.int (0 + (j : Int) * 1) = _
        rw [Int.zero_add, Int.mul_one]
      subst hv'
      have hlen : (swapM d w m j).length = d.length := by simp [swapM]
      have hget : d[m * w + j]? = some (d.getD (m * w + j) 0) := by
        rw [List.getD_eq_getElem?_getD, List.getElem?_eq_getElem (by omega)]; rfl
      have hin := hd _ (List.mem_of_getElem? hget)
      have e1 : (((m * w : Nat) : Int) + (j : Int)).toNat = m * w + j := by omega
      have e2 : (((m * w : Nat) : Int) + (w : Int) - 1 - (j : Int)).toNat = m * w + (w - 1 - j) := by omega
      refine ⟨_, _, up_upd, ?_, .refl _⟩
      refine exs_of rfl (ex_setsub G (ev_sub (ev_name G (.of rfl)) (ev_bin (ev_name G (.of rfl)) (ev_name G (.of rfl)) op_add) (get_bytes (by omega) (by omega) (by rw [e1]; exact hget))) (.of rfl)
        (ev_bin (ev_bin (ev_bin (ev_name G (.of rfl)) (ev_name G (.of rfl)) op_add) ev_int op_sub) (ev_name G (.of rfl)) op_sub) (.of rfl) (by omega) (by rw [hlen]; omega) (by rw [hlen]; unfold sizeLine; omega) hin.1 hin.2 up_upd) (exs_done rfl ?_)
      refine .cons (.of rfl) (.cons (.of rfl) (.cons_eq (.of rfl) ?_ (.cons (.of rfl) .nil)))
      rw [e2, swapM_set d hw hj]
    · refine .cons (.of rfl) (.cons (.of rfl) (.cons_eq (.of rfl) ?_ .nil))
      rw [List.length_map, List.length_range, swapM_next d hw]
  · refine .cons (.of rfl) (.cons (.of rfl) (.cons_eq (.of rfl) ?_ .nil))
    rw [List.length_map, List.length_range, swapM_last d hw hq]
  · exact exs_ret_of rfl (ev_bytes_own G (g'.builtin (kd_fn hk rfl) rfl (by decide) rfl) (.of rfl) (by simp [swapped]; unfold sizeLine; omega))
end
end Mine
end
section
open PySem PySem.W PyProof.Rows PySem.Calls
set_option Elab.async false
set_option linter.unusedVariables false
set_option linter.unusedSimpArgs false
namespace Mine
noncomputable abbrev dVar : DefRec := recAt pw 1
/-- octets of one number: all but the last bear the bit 64 -/
structure Octets (ds : List Int) (last : Int) : Prop where
  all : ∀ x ∈ ds, 0 ≤ x ∧ x < 256 ∧ x / 64 % 2 = 1
  last0 : 0 ≤ last
  last1 : last < 256
  stop : last / 64 % 2 = 0
  len : ds.length ≤ 1000
theorem bit_on {x : Int} (h0 : 0 ≤ x) (h1 : x < 256) (h : x / 64 % 2 = 1) : Builtin.bitAnd x 64 ≠ 0 := by
  obtain ⟨n, rfl⟩ := Int.eq_ofNat_of_zero_le h0
  exact (bit64 n (by omega)).mpr (by omega)
theorem bit_off {x : Int} (h0 : 0 ≤ x) (h1 : x < 256) (h : x / 64 % 2 = 0) : Builtin.bitAnd x 64 = 0 := by
  obtain ⟨n, rfl⟩ := Int.eq_ofNat_of_zero_le h0
  by_cases q : Builtin.bitAnd (n : Int) 64 = 0
  · exact q
  · have := (bit64 n (by omega)).mp q
    omega
section
variable {C : Cx} {dd uu : Nat}
theorem oct_get {ds rest : List Int} {last : Int} (i : Nat) (hi : i ≤ ds.length) : (ds ++ last :: rest).drop i = (ds ++ last :: rest).getD i 0 :: (ds ++ last :: rest).drop (i + 1) := by
  have hlt : i < (ds ++ last :: rest).length := by simp; omega
  rw [List.drop_eq_getElem_cons hlt, List.getD_eq_getElem?_getD, List.getElem?_eq_getElem hlt]; rfl
theorem oct_take {ds rest : List Int} {last : Int} (i : Nat) (hi : i ≤ ds.length) : (ds ++ last :: rest).take (i + 1) = (ds ++ last :: rest).take i ++ [(ds ++ last :: rest).getD i 0] := by
  have hlt : i < (ds ++ last :: rest).length := by simp; omega
  rw [List.take_add_one, List.getD_eq_getElem?_getD, List.getElem?_eq_getElem hlt]; rfl
set_option maxRecDepth 100000 in
theorem var_body (g : Gl pw frees C dd uu) {C' : Cx} (h : CalleeIt C C' dVar) (ds rest : List Int) (last : Int) (ho : Octets ds last) :
    Exs C' [("iterator", .own (.iter (ds ++ last :: rest)))] dVar.body (.ret (.int (vv (ds ++ [last])))) [("iterator", .own (.iter rest))] := by
  have g' := g.calleeIt h
  have G := g'.G
  have hk := h.kd
  have hin : ∀ i, i < ds.length → 0 ≤ (ds ++ last :: rest).getD i 0 ∧ (ds ++ last :: rest).getD i 0 < 256 ∧ (ds ++ last :: rest).getD i 0 / 64 % 2 = 1 := fun i hi => by
    rw [List.getD_eq_getElem?_getD, List.getElem?_append_left hi, List.getElem?_eq_getElem hi]
    exact ho.all _ (List.getElem_mem hi)
  have hlast : (ds ++ last :: rest).getD ds.length 0 = last := by
    rw [List.getD_eq_getElem?_getD, List.getElem?_append_right (Nat.le_refl _), Nat.sub_self]; rfl
  have hfirst : (ds ++ last :: rest) = (ds ++ last :: rest).getD 0 0 :: (ds ++ last :: rest).drop 1 := oct_get 0 (Nat.zero_le _)
  have hdrop : (ds ++ last :: rest).drop (ds.length + 1) = rest := by
    rw [← List.drop_drop, List.drop_left]; rfl
  have htake : (ds ++ last :: rest).take (ds.length + 1) = ds ++ [last] := by
    rw [oct_take _ (Nat.le_refl _), hlast, List.take_left]
  refine exs_of rfl (ex_assign G (ev_next G (g'.builtin (kd_fn hk rfl) rfl (by decide) rfl) (Lk.cast (.of rfl) (congrArg (fun l => Bind.own (.iter l)) hfirst)) up_upd) (stb_local hk rfl) up_upd) ?_
  refine exs_of rfl (ex_assign G (ev_bin (ev_name G (.of rfl)) ev_int op_and) (stb_local hk rfl) up_upd) ?_
  refine exs_of (σ₁ := [("iterator", .own (.iter ((ds ++ last :: rest).drop (ds.length + 1)))), ("b", .pure (.int ((ds ++ last :: rest).getD ds.length 0))), ("val", .pure (.int (vv ((ds ++ last :: rest).take (ds.length + 1)))))]) rfl
    (ex_while (fun i => [("iterator", .own (.iter ((ds ++ last :: rest).drop (i + 1)))), ("b", .pure (.int ((ds ++ last :: rest).getD i 0))), ("val", .pure (.int (vv ((ds ++ last :: rest).take (i + 1)))))]) ds.length ?_ (fun i hi => ?_) ?_) ?_
  · refine .cons (.of rfl) (.cons (.of rfl) (.cons_eq (.of rfl) ?_ .nil))
    rw [oct_take 0 (Nat.zero_le _), bitAnd_m6]
    simp [vv]
  · have hb := hin i hi
    refine ⟨_, _, evt_value (ev_bin (ev_name G (.of rfl)) ev_int op_and) (truth_true (bit_on hb.1 hb.2.1 hb.2.2)), ?_, .refl _⟩
    have hlen : ((ds ++ last :: rest).take (i + 1)).length ≤ 1001 := by rw [List.length_take]; have := ho.len; omega
    have habs := vv_abs ((ds ++ last :: rest).take (i + 1))
    have hnn := (vv_bounds ((ds ++ last :: rest).take (i + 1))).1
    have hc0 : 0 ≤ (ds ++ last :: rest).getD (i + 1) 0 % 64 := Int.emod_nonneg _ (by decide)
    have hc1 : (ds ++ last :: rest).getD (i + 1) 0 % 64 < 64 := Int.emod_lt_of_pos _ (by decide)
    refine exs_of rfl (ex_aug G (.of rfl) ev_int (iop_lshift (n := 6) habs (by omega) (by decide)) (stb_local hk rfl) up_upd) ?_
    refine exs_of rfl (ex_assign G (ev_next G (g'.builtin (kd_fn hk rfl) rfl (by decide) rfl) (Lk.cast (.of rfl) (congrArg (fun l => Bind.own (.iter l)) (oct_get (i + 1) hi))) up_upd) (stb_local hk rfl) up_upd) ?_
    refine exs_of rfl (ex_aug G (.of rfl) (ev_bin (ev_name G (.of rfl)) ev_int (op_and.cast (congrArg AV.int (bitAnd_m6 _)))) (iop_or.cast (congrArg AV.int (or_apart hnn hc0 hc1))) (stb_local hk rfl) up_upd) (exs_done rfl ?_)
    refine .cons (.of rfl) (.cons (.of rfl) (.cons_eq (.of rfl) ?_ .nil))
    rw [oct_take (i + 1) hi, vv_snoc]
  · rw [hlast]
    exact evt_value (ev_bin (ev_name G (.of rfl)) ev_int op_and) (truth_false (bit_off ho.last0 ho.last1 ho.stop))
  · rw [hdrop, htake]
    refine exs_as rfl (exs_ret (ex_post (ex_ret (ev_name G (.of rfl))) (.cons (.of rfl) .nil)))
end
end Mine
end
section
open PySem PySem.W PyProof.Rows PySem.Calls
set_option Elab.async false
set_option linter.unusedVariables false
set_option linter.unusedSimpArgs false
set_option maxRecDepth 100000
namespace Mine
theorem recAt_mem {p : Program} {i : Nat} (h : ((recsOf p).drop i).isEmpty = false) : recAt p i ∈ recsOf p := by
  unfold recAt
  cases e : (recsOf p).drop i with
  | nil => rw [e] at h; cases h
  | cons d r => exact List.mem_of_mem_drop (i := i) (by rw [e]; exact List.mem_cons_self ..)
theorem mem_int : dInt ∈ recsOf pw := recAt_mem (by decide +kernel)
theorem mem_var : dVar ∈ recsOf pw := recAt_mem (by decide +kernel)
theorem mem_swp : dSwp ∈ recsOf pw := recAt_mem (by decide +kernel)
section
variable {C : Cx} {dd uu : Nat} {σ τ : St}
theorem Gl.fn {p : Program} {fr : List Str} {d : DefRec} (g : Gl p fr C dd uu) (hd : d ∈ recsOf p) {x : Str} (hx : d.name = x) (hk : C.kd x = some .globalImplicit) : ∃ a, Gn C x (.ref a) ∧ FnAt C a d := by
  obtain ⟨a, e, h⟩ := g.funs d hd
  exact ⟨a, ⟨hk, .inl (hx ▸ e)⟩, h⟩

theorem ev_int2ap (g : Gl pw frees C dd uu) (hdd : dd < 900) (hk : C.kd "Int2AP" = some .globalImplicit) {p pos : Pos} {e : Expr} {i : Int} (he : EvE C σ e (.int i) τ) (hz : nd i.natAbs ≤ 16777215)
    (hs : ∀ env, starEach [e] env = (false, eval e env) :: starEach [] env := by intro _; rfl) : EvE C σ (.Call (.Name "Int2AP" p) [e] [] pos) (.bytes (ap i.natAbs)) τ := by
  obtain ⟨a, gn, hf⟩ := g.fn mem_int rfl hk
  refine ev_call g.G gn hf.callee (evl_cons he evl_nil hs) (fn_user g.G hf (by have := g.depth; unfold recursionLimit; omega) (fun C' h => int2ap_body g h _ i rfl hz) ?_) hs
  intro pm code doc vs hvs
  obtain ⟨v, rfl⟩ := List.length_eq_one_iff.mp hvs
  rfl
theorem ev_swap (g : Gl pw frees C dd uu) (hdd : dd < 900) (hk : C.kd "_byteswap" = some .globalImplicit) {p pos : Pos} {e e' : Expr} {d : List Int} {w : Int} {n q : Nat} {σ₁ : St} (he : EvE C σ e (.bytes d) σ₁) (he' : EvE C σ₁ e' (.int w) τ) (hwn : w = n) (hw : 0 < n) (hq : d.length = q * n) (hz : d.length ≤ 1000000) (hwz : n ≤ 1000000) (hd : ∀ x ∈ d, 0 ≤ x ∧ x < 256)
    (hs : ∀ env, starEach [e, e'] env = (false, eval e env) :: starEach [e'] env := by intro _; rfl) (hs' : ∀ env, starEach [e'] env = (false, eval e' env) :: starEach [] env := by intro _; rfl) :
    EvE C σ (.Call (.Name "_byteswap" p) [e, e'] [] pos) (.bytes (swapped d n)) τ := by
  subst hwn
  obtain ⟨a, gn, hf⟩ := g.fn mem_swp rfl hk
  refine ev_call g.G gn hf.callee (evl_cons he (evl_cons he' evl_nil hs') hs) (fn_user g.G hf (by have := g.depth; unfold recursionLimit; omega) (fun C' h => ⟨[], swap_body g h d n q hw hq hz hwz hd⟩) ?_) hs
  intro pm code doc vs hvs
  match vs, hvs with
  | [v, v'], _ => rfl
theorem ev_varint (g : Gl pw frees C dd uu) (hdd : dd < 900) (hk : C.kd "_parse_varint" = some .globalImplicit) {y : Str} {p q pos : Pos} {ds rest : List Int} {last : Int} (ho : Octets ds last) (hl : Lk y σ (.own (.iter (ds ++ last :: rest)))) (up : Up y (.own (.iter rest)) σ τ)
    (hd' : (y == ("__debug__" : Str)) = false := by decide) : EvE C σ (.Call (.Name "_parse_varint" p) [.Name y q] [] pos) (.int (vv (ds ++ [last]))) τ := by
  obtain ⟨a, gn, hf⟩ := g.fn mem_var rfl hk
  exact ev_call_it g.G gn hf (by have := g.depth; unfold recursionLimit; omega) hl up (fun C' h => var_body g h ds rest last ho) (fun pm code doc v => rfl) rfl (hd' := hd')
end
end Mine
end
section
open PySem PySem.W PyProof.Rows PySem.Calls
set_option Elab.async false
set_option linter.unusedVariables false
set_option linter.unusedSimpArgs false
set_option maxRecDepth 100000
namespace Mine
noncomputable abbrev dTrn : DefRec := recAt pw 3
theorem range_item {n i : Nat} {v : AV} (h : ((List.range n).map fun (i : Nat) => AV.int (0 + (i : Int) * 1))[i]? = some v) : i < n ∧ v = .int i := by
  have hi : i < n := by simpa using (List.getElem?_eq_some_iff.mp h).1
  refine ⟨hi, ?_⟩
  rw [List.getElem?_map, List.getElem?_range hi] at h
  rw [← Option.some.inj h]
  show AV.int (0 + (i : Int) * 1) = _
  rw [Int.zero_add, Int.mul_one]
theorem nd_le {n : Nat} : ∀ k, n < 16 ^ k → nd n ≤ k := by
  induction n using Nat.strongRecOn with
  | ind n ih =>
    intro k hk
    unfold nd
    split
    · omega
    · cases k with
      | zero => simp at hk; omega
      | succ k =>
        have := ih (n / 16) (by omega) k (by rw [Nat.pow_succ] at hk; omega)
        omega
theorem ap_pad (n : Nat) : ∀ j, apTail n (nd n + j) = List.replicate j 65 ++ ap n
  | 0 => rfl
  | j + 1 => by
    show (65 + ((n / 16 ^ (nd n + j) % 16 : Nat) : Int)) :: apTail n (nd n + j) = _
    rw [ap_pad n j, List.replicate_succ]
    have h0 : n / 16 ^ (nd n + j) = 0 := by
      rw [Nat.pow_add, ← Nat.div_div_eq_div_mul, nd_zero]; simp
    rw [h0]; rfl
theorem ap_six {n : Nat} (h : n < 16777216) : (List.replicate (6 - (nd n : Int)).toNat [65]).flatten ++ ap n = apTail n 6 := by
  have h6 := nd_le (n := n) 6 h
  have e : (List.replicate (6 - (nd n : Int)).toNat [(65 : Int)]).flatten = List.replicate (6 - nd n) 65 := by
    have e1 : (6 - (nd n : Int)).toNat = 6 - nd n := by omega
    rw [e1]
    induction (6 - nd n) with
    | zero => rfl
    | succ k ih => rw [List.replicate_succ, List.flatten_cons, ih, List.replicate_succ]; rfl
  rw [e, ← ap_pad n (6 - nd n)]
  congr 1
  omega
theorem ap_len (n : Nat) : (ap n).length = nd n := apTail_len n _
noncomputable def pick2 (a b : Nat) (i : Nat) : Nat := if i = 0 then a else b
noncomputable def row6 (a b : Nat) : List Int := (List.range 12).map fun t => (65 + ((pick2 a b (t / 6) / 16 ^ (t % 6) % 16 : Nat) : Int))
theorem swap6 (a b : Nat) : swapped (apTail a 6 ++ apTail b 6) 6 = row6 a b := by
  simp [swapped, swp, row6, apTail, pick2, List.range, List.range.loop]
theorem row6_get (a b : Nat) {i k : Nat} (hi : i < 2) (hk : k < 6) : (row6 a b)[6 * i + k]? = some (65 + ((pick2 a b i / 16 ^ k % 16 : Nat) : Int)) := by
  unfold row6
  rw [List.getElem?_map, List.getElem?_range (by omega)]
  have e1 : (6 * i + k) / 6 = i := by omega
  have e2 : (6 * i + k) % 6 = k := by omega
  simp only [Option.map_some, e1, e2]
theorem apTail_in (n : Nat) : ∀ i, ∀ x ∈ apTail n i, 0 ≤ x ∧ x < 256
  | 0, x, h => nomatch h
  | i + 1, x, h => by
    rcases List.mem_cons.mp h with rfl | h
    · have : n / 16 ^ i % 16 < 16 := Nat.mod_lt _ (by decide)
      omega
    · exact apTail_in n i x h
noncomputable def rowp (a b : Nat) : Nat → List Int
  | 0 => []
  | 1 => apTail a 6
  | _ => apTail a 6 ++ apTail b 6
theorem rowp_succ (a b : Nat) {i : Nat} (hi : i < 2) : rowp a b (i + 1) = rowp a b i ++ apTail (pick2 a b i) 6 := by
  match i, hi with
  | 0, _ => rfl
  | 1, _ => rfl
theorem rowp_len (a b i : Nat) : (rowp a b i).length ≤ 12 := by
  unfold rowp
  split <;> simp [apTail_len]
noncomputable def t0 (n : Nat) : Int := ((List.range 6).map fun k => ((n / 16 ^ k % 16 : Nat) : Int) * 16 ^ (5 - k)).sum
section
variable {C : Cx} {dd uu : Nat}
set_option maxHeartbeats 2000000 in
theorem turned0 (g : Gl pw frees C dd uu) (hdd : dd < 800) {C' : Cx} (h : CalleeOf C C' dTrn) (a b : Nat) (ha : a < 16777216) (hb : b < 16777216) :
    Exs C' ((dTrn.params.args.map (·.arg)).zip (([.list (il [(a : Int), (b : Int)]), .int 0] : List AV).map .pure)) dTrn.body (.ret (.list (il [t0 a, t0 b]))) [] := by
  have g' := g.callee h
  have G := g'.G
  have hk := h.kd
  refine exs_of_ret (st := _) (ss := _) rfl (ex_if (c := true) (evt_cmp (ev_name G (.of rfl)) ev_int cmp_eq) (fun _ => ?_) (fun q => nomatch q))
  refine exs_of rfl (ex_assign G ev_bytes (stb_cell hk h.mine rfl) up_upd) ?_
  refine exs_of (σ₁ := [("row", .pure (.bytes (apTail a 6 ++ apTail b 6)))]) rfl (ex_for G (fun i => [("numbers", .pure (.list (il [(a : Int), (b : Int)]))), ("row", .pure (.bytes (rowp a b i)))]) (ev_name G (.of rfl)) (.list _) g'.handled (stb_local hk rfl) ?_ (fun i v hv => ?_) ?_) ?_
  · exact .cons (.of rfl) (.cons_eq (.of rfl) rfl .nil)
  · have hiv : i < 2 ∧ v = .int (pick2 a b i : Nat) := by
      match i, hv with
      | 0, hv => exact ⟨by decide, (Option.some.inj hv).symm⟩
      | 1, hv => exact ⟨by decide, (Option.some.inj hv).symm⟩
      | i + 2, hv => simp at hv
    obtain ⟨hi, rfl⟩ := hiv
    have hp : pick2 a b i < 16777216 := by unfold pick2; split <;> assumption
    have h6 := nd_le (n := pick2 a b i) 6 hp
    have hab : (-((pick2 a b i : Nat) : Int)).natAbs = pick2 a b i := by omega
    refine ⟨_, _, up_upd, ?_, .refl _⟩
    refine exs_of rfl (ex_assign G ((ev_int2ap g' (by omega) (kd_fn hk rfl) (ev_un (ev_name G (.of rfl)) op_neg) (by rw [hab]; omega)).cast (b := .bytes (ap (pick2 a b i))) ?_) (stb_local hk rfl) up_upd) ?_
    · rw [hab]
    refine exs_of rfl (ex_assign G (ev_bin (ev_bin (ev_name G (.of rfl)) (ev_bin ev_bytes (ev_bin ev_int (ev_call G (g'.builtin (kd_fn hk rfl) rfl (by decide) rfl) .builtin (evl_cons (ev_name G (.of rfl)) evl_nil) (fn_len_bytes (by rw [ap_len]; omega))) op_sub) (op_mulb (by decide) ?_ ?_ (by decide))) (op_addb ?_)) (ev_name G (.of rfl)) (op_addb ?_)) (stb_cell hk h.mine rfl) up_upd) (exs_done rfl ?_)
    · rw [ap_len]; omega
    · rw [ap_len]; omega
    · have := rowp_len a b i
      rw [List.length_flatten, ap_len]
      simp
      omega
    · have := rowp_len a b i
      rw [List.length_append, List.length_flatten, ap_len]
      simp
      omega
    · refine .cons (.of rfl) (.cons_eq (.of rfl) ?_ .nil)
      rw [rowp_succ a b hi, ← ap_six hp, List.append_assoc, ap_len]
      rfl
  · exact .cons (.of rfl) .nil
  · refine exs_of rfl (ex_assign G (ev_swap g' (by omega) (kd_fn hk rfl) (ev_name G (.of rfl)) ev_int (n := 6) (q := 2) rfl (by decide) (by simp [apTail_len]) (by simp [apTail_len]) (by decide) fun x hx => ?_) (stb_cell hk h.mine rfl) up_upd) ?_
    · rcases List.mem_append.mp hx with q | q <;> exact apTail_in _ _ _ q
    rw [swap6]
    refine exs_ret_of rfl ((ev_compm G [("row", .pure (.bytes (row6 a b)))] (fun i => .int (t0 (pick2 a b i))) (comp_scope hk h.mine rfl rfl rfl rfl rfl) (ev_tuple (evl_cons ev_int (evl_cons ev_int evl_nil))) (.tuple _) g'.handled
      (.pure (seen_of hk rfl rfl) (.of rfl) .nil) (fun C₂ h₂ i v hv => ?_) (by decide)).cast (b := .list (il [t0 a, t0 b])) rfl)
    have hiv : i < 2 ∧ v = .int ((6 * i : Nat) : Int) := by
      match i, hv with
      | 0, hv => exact ⟨by decide, (Option.some.inj hv).symm⟩
      | 1, hv => exact ⟨by decide, (Option.some.inj hv).symm⟩
      | i + 2, hv => simp at hv
    obtain ⟨hi, rfl⟩ := hiv
    have g₂ := g'.comp h₂
    have hk₂ := h₂.kd
    rw [hk] at hk₂
    refine EvE.post (τ₁ := [("start", .pure (.int ((6 * i : Nat) : Int))), ("row", .pure (.bytes (row6 a b)))]) (ev_call g₂.G (g₂.builtin (kd_fn hk₂ rfl) rfl (by decide) rfl) .builtin (evl_cons ((ev_compm g₂.G [("row", .pure (.bytes (row6 a b))), ("start", .pure (.int ((6 * i : Nat) : Int)))] (fun k => .int (((pick2 a b i / 16 ^ k % 16 : Nat) : Int) * 16 ^ (5 - k)))
      (comp_scope hk₂ h₂.mine rfl rfl rfl rfl rfl) (ev_call g₂.G (g₂.builtin (kd_fn hk₂ rfl) rfl (by decide) rfl) .type (evl_cons ev_int evl_nil) (fn_range1 g₂.G (by decide) (by decide))) (.range _ _ _ 6 size_one) g₂.handled
      (.pure (seen_of hk₂ rfl rfl) (.of rfl) (.pure (seen_of hk₂ rfl rfl) (.of rfl) .nil)) (fun C₃ h₃ k u hu => ?_) (by decide)).cast (b := .list (il ((List.range 6).map fun k => ((pick2 a b i / 16 ^ k % 16 : Nat) : Int) * 16 ^ (5 - k)))) (by simp [il])) evl_nil) (fn_sum g₂.handled ?_ (by simp))) (.cons (.of rfl) .nil)
    · obtain ⟨hk6, rfl⟩ := range_item hu
      have g₃ := g₂.comp h₃
      have hk₃ := h₃.kd
      rw [hk₂] at hk₃
      have hin : pick2 a b i / 16 ^ k % 16 < 16 := Nat.mod_lt _ (by decide)
      have e5 : (5 - (k : Int)).toNat = 5 - k := by omega
      refine EvE.post (ev_bin (ev_bin (ev_sub (ev_name g₃.G (.of rfl)) (ev_bin (ev_name g₃.G (.of rfl)) (ev_name g₃.G (.of rfl)) op_add) (get_bytes (x := 65 + ((pick2 a b i / 16 ^ k % 16 : Nat) : Int)) (by omega) (by simp [row6]) ?_)) ev_int op_sub) (ev_bin ev_int (ev_bin ev_int (ev_name g₃.G (.of rfl)) op_sub) (op_pow (by omega) (by omega) (by decide))) ((op_mul (.inl ?_)).cast ?_)) (.cons (.of rfl) (.cons (.of rfl) .nil))
      · rw [show (((6 * i : Nat) : Int) + (k : Int)).toNat = 6 * i + k by omega]
        exact row6_get a b hi hk6
      · omega
      · rw [e5, Int.add_comm 65, Int.add_sub_cancel]
    · intro x hx
      obtain ⟨k, hk6, rfl⟩ := List.mem_map.mp hx
      have hin : pick2 a b i / 16 ^ k % 16 < 16 := Nat.mod_lt _ (by decide)
      have hp : (16 : Int) ^ (5 - k) ≤ 16 ^ 5 := by
        have : (16 : Nat) ^ (5 - k) ≤ 16 ^ 5 := Nat.pow_le_pow_right (by decide) (by omega)
        exact_mod_cast this
      have hp0 : (0 : Int) ≤ 16 ^ (5 - k) := Int.pow_nonneg (by decide)
      refine ⟨Int.mul_nonneg (by omega) hp0, ?_⟩
      calc ((pick2 a b i / 16 ^ k % 16 : Nat) : Int) * 16 ^ (5 - k) ≤ 16 * 16 ^ 5 := Int.mul_le_mul (by omega) hp hp0 (by decide)
        _ ≤ 2 ^ 40 := by decide
end
end Mine
end
section
open PySem PySem.W PyProof.Rows PySem.Calls
set_option Elab.async false
set_option linter.unusedVariables false
set_option linter.unusedSimpArgs false
set_option maxRecDepth 100000
namespace Mine
noncomputable def digs (B c : Nat) (n : Nat) : List Int := (List.range c).map fun j => ((n / B ^ (c - 1 - j) % B : Nat) : Int)
noncomputable def rowB (B c a b : Nat) : List Int := (List.range (2 * c)).map fun t => ((pick2 a b (t / c) / B ^ (t % c) % B : Nat) : Int)
theorem swap4 (a b : Nat) : swapped (digs 64 4 a ++ digs 64 4 b) 4 = rowB 64 4 a b := by
  simp [swapped, swp, rowB, digs, pick2, List.range, List.range.loop]
theorem swap3 (a b : Nat) : swapped (digs 256 3 a ++ digs 256 3 b) 3 = rowB 256 3 a b := by
  simp [swapped, swp, rowB, digs, pick2, List.range, List.range.loop]
theorem digs_in {B c n : Nat} (h0 : 0 < B) (h1 : B ≤ 256) : ∀ x ∈ digs B c n, 0 ≤ x ∧ x < 256 := fun x hx => by
  obtain ⟨j, _, rfl⟩ := List.mem_map.mp hx
  have : n / B ^ (c - 1 - j) % B < B := Nat.mod_lt _ h0
  omega
theorem rowB_get {B c a b t : Nat} (ht : t < 2 * c) : (rowB B c a b)[t]? = some ((pick2 a b (t / c) / B ^ (t % c) % B : Nat) : Int) := by
  unfold rowB
  rw [List.getElem?_map, List.getElem?_range ht]; rfl
theorem pair_item {a b i : Nat} {v : AV} (h : (il [(a : Int), (b : Int)])[i]? = some v) : i < 2 ∧ v = .int (pick2 a b i : Nat) := by
  match i, h with
  | 0, hv => exact ⟨by decide, (Option.some.inj hv).symm⟩
  | 1, hv => exact ⟨by decide, (Option.some.inj hv).symm⟩
  | i + 2, hv => simp [il] at hv
theorem digit_cast {n B k : Nat} : ((n : Int) / (B : Int) ^ k) % (B : Int) = ((n / B ^ k % B : Nat) : Int) := by simp
noncomputable def oct (n : Nat) : List Int := [((n % 64 : Nat) : Int) + 64, ((n / 64 % 64 : Nat) : Int) + 64, ((n / 4096 % 64 : Nat) : Int) + 64, ((n / 262144 % 64 : Nat) : Int)]
noncomputable def t1 (n : Nat) : Int := vv (oct n)
noncomputable def t2 (n : Nat) : Int := 65536 * ((n % 256 : Nat) : Int) + 256 * ((n / 256 % 256 : Nat) : Int) + ((n / 65536 % 256 : Nat) : Int)
noncomputable def rdd (a b : Nat) : Nat → List Int
  | 0 => oct a ++ oct b
  | 1 => oct b
  | _ => []
theorem rd_eq (a b : Nat) : ((List.range 8).map fun (k : Nat) => ((pick2 a b (k / 4) / 64 ^ (k % 4) % 64 : Nat) : Int) + if k % 4 < 3 then 64 else 0) = rdd a b 0 := by
  simp [rdd, oct, pick2, List.range, List.range.loop]
theorem rdd_step (a b : Nat) {i : Nat} (hi : i < 2) : rdd a b i = [((pick2 a b i % 64 : Nat) : Int) + 64, ((pick2 a b i / 64 % 64 : Nat) : Int) + 64, ((pick2 a b i / 4096 % 64 : Nat) : Int) + 64] ++ ((pick2 a b i / 262144 % 64 : Nat) : Int) :: rdd a b (i + 1) := by
  match i, hi with
  | 0, _ => rfl
  | 1, _ => rfl
theorem oct_ok (n : Nat) : Octets [((n % 64 : Nat) : Int) + 64, ((n / 64 % 64 : Nat) : Int) + 64, ((n / 4096 % 64 : Nat) : Int) + 64] ((n / 262144 % 64 : Nat) : Int) where
  all := fun x hx => by
    have h1 : n % 64 < 64 := Nat.mod_lt _ (by decide)
    have h2 : n / 64 % 64 < 64 := Nat.mod_lt _ (by decide)
    have h3 : n / 4096 % 64 < 64 := Nat.mod_lt _ (by decide)
    simp only [List.mem_cons, List.not_mem_nil, or_false] at hx
    rcases hx with rfl | rfl | rfl <;> omega
  last0 := by omega
  last1 := by omega
  stop := by omega
  len := by simp
section
variable {C : Cx} {dd uu : Nat}
/-- the digits' list: two clauses -/
theorem digs_flat (B c a b : Nat) : ((List.range 2).flatMap fun i => (List.range c).map fun j => AV.int ((pick2 a b i / B ^ (c - 1 - j) % B : Nat) : Int)) = il (digs B c a ++ digs B c b) := by
  simp only [il, digs, List.map_append, List.map_map]
  rw [show List.range 2 = [0, 1] from rfl, List.flatMap_cons, List.flatMap_cons, List.flatMap_nil, List.append_nil]
  rfl
set_option maxHeartbeats 2000000 in
theorem turned1 (g : Gl pw frees C dd uu) (hdd : dd < 800) {C' : Cx} (h : CalleeOf C C' dTrn) (a b : Nat) (ha : a < 16777216) (hb : b < 16777216) :
    Exs C' ((dTrn.params.args.map (·.arg)).zip (([.list (il [(a : Int), (b : Int)]), .int 1] : List AV).map .pure)) dTrn.body (.ret (.list (il [t1 a, t1 b]))) [] := by
  have g' := g.callee h
  have G := g'.G
  have hk := h.kd
  refine exs_of rfl (ex_if (c := false) (evt_cmp (ev_name G (.of rfl)) ev_int cmp_eq) (fun q => nomatch q) (fun _ => exs_done rfl (.refl _))) ?_
  refine exs_of_ret (st := _) (ss := _) rfl (ex_if (c := true) (evt_cmp (ev_name G (.of rfl)) ev_int cmp_eq) (fun _ => ?_) (fun q => nomatch q))
  refine exs_of rfl (ex_assign G (ev_swap g' (by omega) (kd_fn hk rfl) (ev_call G (g'.builtin (kd_fn hk rfl) rfl (by decide) rfl) .type (evl_cons ((ev_compm2 G (xs := il [(a : Int), (b : Int)]) [] (fun i j => .int ((pick2 a b i / 64 ^ (4 - 1 - j) % 64 : Nat) : Int)) (fun _ => .tuple [.int 3, .int 2, .int 1, .int 0]) (fun _ => [.int 3, .int 2, .int 1, .int 0])
      (comp_scope hk h.mine rfl rfl rfl rfl rfl) (.inl rfl) (ev_name G (.of rfl)) (.list _) g'.handled .nil (fun C₂ h₂ i v hv => ?_) (fun n hn => ?_) (fun y b h => nomatch h)).cast (b := .list (il (digs 64 4 a ++ digs 64 4 b))) ?_) evl_nil) (fn_bytes g'.handled ?_ (by simp [digs]; decide))) ev_int (n := 4) (q := 2) rfl (by decide) (by simp [digs]) (by simp [digs]) (by decide) ?_) (stb_cell hk h.mine rfl) up_upd) ?_
  · obtain ⟨hi, rfl⟩ := pair_item hv
    have g₂ := g'.comp h₂
    have hk₂ := h₂.kd
    rw [hk] at hk₂
    refine ⟨ev_tuple (evl_cons ev_int (evl_cons ev_int (evl_cons ev_int (evl_cons ev_int evl_nil)))), .tuple _, fun j u hu => ?_⟩
    have hju : j < 4 ∧ u = .int ((3 - j : Nat) : Int) := by
      match j, hu with
      | 0, hv => exact ⟨by decide, (Option.some.inj hv).symm⟩
      | 1, hv => exact ⟨by decide, (Option.some.inj hv).symm⟩
      | 2, hv => exact ⟨by decide, (Option.some.inj hv).symm⟩
      | 3, hv => exact ⟨by decide, (Option.some.inj hv).symm⟩
      | j + 4, hv => simp at hv
    obtain ⟨hj, rfl⟩ := hju
    have e3 : ((3 - j : Nat) : Int).toNat = 4 - 1 - j := by omega
    have hpw : (64 : Int) ^ (4 - 1 - j) ≤ 64 ^ 3 := by
      have : (64 : Nat) ^ (4 - 1 - j) ≤ 64 ^ 3 := Nat.pow_le_pow_right (by decide) (by omega)
      exact_mod_cast this
    have hpw0 : (0 : Int) < 64 ^ (4 - 1 - j) := Int.pow_pos (by decide)
    refine EvE.post (ev_bin (ev_bin (ev_name g₂.G (.of rfl)) (ev_bin ev_int (ev_name g₂.G (.of rfl)) (op_pow (by omega) (by omega) (by decide))) (op_fdiv (by rw [e3]; exact hpw0) (by rw [e3]; exact Int.lt_of_le_of_lt hpw (by decide)))) ev_int ((op_mod (by decide)).cast ?_)) (.cons (.of rfl) .nil)
    rw [e3]
    exact congrArg AV.int digit_cast
  · have : n = 0 ∨ n = 1 ∨ n = 2 := by
      have : n ≤ 2 := hn
      omega
    rcases this with rfl | rfl | rfl <;> simp [List.range, List.range.loop] <;> decide
  · exact congrArg AV.list (digs_flat 64 4 a b)
  · intro x hx
    rcases List.mem_append.mp hx with q | q <;> exact digs_in (by decide) (by decide) _ q
  · intro x hx
    rcases List.mem_append.mp hx with q | q <;> exact digs_in (by decide) (by decide) _ q
  rw [swap4]
  refine exs_of rfl (ex_own G (evo_iter G (g'.builtin (kd_fn hk rfl) rfl (by decide) rfl) ((ev_compm G [("row", .pure (.bytes (rowB 64 4 a b)))] (fun k => .int (((pick2 a b (k / 4) / 64 ^ (k % 4) % 64 : Nat) : Int) + if k % 4 < 3 then 64 else 0))
      (comp_scope hk h.mine rfl rfl rfl rfl rfl) (ev_call G (g'.builtin (kd_fn hk rfl) rfl (by decide) rfl) .type (evl_cons ev_int evl_nil) (fn_range1 G (by decide) (by decide))) (.range _ _ _ 8 size_one) g'.handled
      (.pure (seen_of hk rfl rfl) (.of rfl) .nil) (fun C₂ h₂ k u hu => ?_) (by decide)).cast (b := .list (il (rdd a b 0))) ?_) (.inr rfl)) (stb_cell hk h.mine rfl) up_upd (h.en _)) ?_
  · obtain ⟨hk8, rfl⟩ := range_item hu
    have g₂ := g'.comp h₂
    have hk₂ := h₂.kd
    rw [hk] at hk₂
    refine EvE.post (ev_bin (ev_sub (ev_name g₂.G (.of rfl)) (ev_name g₂.G (.of rfl)) (get_bytes (by omega) (by simp [rowB]) (by rw [Int.toNat_natCast]; exact rowB_get (c := 4) hk8)))
      (ev_if (a := .int (if k % 4 < 3 then 64 else 0)) (evt_cmp (ev_bin (ev_name g₂.G (.of rfl)) ev_int (op_mod (by decide))) ev_int cmp_lt) (fun hc => ev_int.cast (congrArg AV.int ?_)) (fun hc => ev_int.cast (congrArg AV.int ?_))) op_add) (.cons (.of rfl) .nil)
    · rw [if_pos]
      have := of_decide_eq_true hc
      omega
    · rw [if_neg]
      have := of_decide_eq_false hc
      omega
  · rw [← rd_eq]
    simp [il]
  refine exs_ret_of (σ₁ := []) rfl ((ev_comp G (τ := []) (xs := il [(a : Int), (b : Int)]) ["reader"] (fun i => [("reader", .own (.iter (rdd a b i)))]) (fun i => some (.int (t1 (pick2 a b i)))) (comp_scope hk h.mine rfl rfl rfl rfl rfl) (ev_name G (.of rfl)) (.list _) g'.handled
    (Vis.own (seen_of hk rfl rfl) (.of rfl) (by decide) .nil) (fun C₂ h₂ i v hv => ?_) (fun y b h => nomatch h) (show 2 ≤ sizeLine by decide)).cast rfl)
  obtain ⟨hi, rfl⟩ := pair_item hv
  have g₂ := g'.comp h₂
  have hk₂ := h₂.kd
  rw [hk] at hk₂
  refine ⟨_, _, up_upd, ⟨rfl, ev_varint g₂ (by omega) (kd_fn hk₂ rfl) (oct_ok (pick2 a b i)) (Lk.cast (.of rfl) (congrArg (fun l => Bind.own (.iter l)) (rdd_step a b hi))) up_upd⟩, .cons (.of rfl) .nil⟩
end
end Mine
end
section
open PySem PySem.W PyProof.Rows PySem.Calls
set_option Elab.async false
set_option linter.unusedVariables false
set_option linter.unusedSimpArgs false
set_option maxRecDepth 100000
namespace Mine
section
variable {C : Cx} {dd uu : Nat}
set_option maxHeartbeats 2000000 in
theorem turned2 (g : Gl pw frees C dd uu) (hdd : dd < 800) {C' : Cx} (h : CalleeOf C C' dTrn) (a b : Nat) (ha : a < 16777216) (hb : b < 16777216) :
    Exs C' ((dTrn.params.args.map (·.arg)).zip (([.list (il [(a : Int), (b : Int)]), .int 2] : List AV).map .pure)) dTrn.body (.ret (.list (il [t2 a, t2 b]))) [] := by
  have g' := g.callee h
  have G := g'.G
  have hk := h.kd
  refine exs_of rfl (ex_if (c := false) (evt_cmp (ev_name G (.of rfl)) ev_int cmp_eq) (fun q => nomatch q) (fun _ => exs_done rfl (.refl _))) ?_
  refine exs_of rfl (ex_if (c := false) (evt_cmp (ev_name G (.of rfl)) ev_int cmp_eq) (fun q => nomatch q) (fun _ => exs_done rfl (.refl _))) ?_
  refine exs_of rfl (ex_assign G (ev_swap g' (by omega) (kd_fn hk rfl) (ev_call G (g'.builtin (kd_fn hk rfl) rfl (by decide) rfl) .type (evl_cons ((ev_compm2 G (xs := il [(a : Int), (b : Int)]) [] (fun i j => .int ((pick2 a b i / 256 ^ (3 - 1 - j) % 256 : Nat) : Int)) (fun _ => .tuple [.int 2, .int 1, .int 0]) (fun _ => [.int 2, .int 1, .int 0])
      (comp_scope hk h.mine rfl rfl rfl rfl rfl) (.inl rfl) (ev_name G (.of rfl)) (.list _) g'.handled .nil (fun C₂ h₂ i v hv => ?_) (fun n hn => ?_) (fun y b h => nomatch h)).cast (b := .list (il (digs 256 3 a ++ digs 256 3 b))) ?_) evl_nil) (fn_bytes g'.handled ?_ (by simp [digs]; decide))) ev_int (n := 3) (q := 2) rfl (by decide) (by simp [digs]) (by simp [digs]) (by decide) ?_) (stb_cell hk h.mine rfl) up_upd) ?_
  · obtain ⟨hi, rfl⟩ := pair_item hv
    have g₂ := g'.comp h₂
    have hk₂ := h₂.kd
    rw [hk] at hk₂
    refine ⟨ev_tuple (evl_cons ev_int (evl_cons ev_int (evl_cons ev_int evl_nil))), .tuple _, fun j u hu => ?_⟩
    have hju : j < 3 ∧ u = .int ((2 - j : Nat) : Int) := by
      match j, hu with
      | 0, hv => exact ⟨by decide, (Option.some.inj hv).symm⟩
      | 1, hv => exact ⟨by decide, (Option.some.inj hv).symm⟩
      | 2, hv => exact ⟨by decide, (Option.some.inj hv).symm⟩
      | j + 3, hv => simp at hv
    obtain ⟨hj, rfl⟩ := hju
    have e3 : ((2 - j : Nat) : Int).toNat = 3 - 1 - j := by omega
    have hpw : (256 : Int) ^ (3 - 1 - j) ≤ 256 ^ 2 := by
      have : (256 : Nat) ^ (3 - 1 - j) ≤ 256 ^ 2 := Nat.pow_le_pow_right (by decide) (by omega)
      exact_mod_cast this
    have hpw0 : (0 : Int) < 256 ^ (3 - 1 - j) := Int.pow_pos (by decide)
    refine EvE.post (ev_bin (ev_bin (ev_name g₂.G (.of rfl)) (ev_bin ev_int (ev_name g₂.G (.of rfl)) (op_pow (by omega) (by omega) (by decide))) (op_fdiv (by rw [e3]; exact hpw0) (by rw [e3]; exact Int.lt_of_le_of_lt hpw (by decide)))) ev_int ((op_mod (by decide)).cast ?_)) (.cons (.of rfl) .nil)
    rw [e3]
    exact congrArg AV.int digit_cast
  · have : n = 0 ∨ n = 1 ∨ n = 2 := by
      have : n ≤ 2 := hn
      omega
    rcases this with rfl | rfl | rfl <;> simp [List.range, List.range.loop] <;> decide
  · exact congrArg AV.list (digs_flat 256 3 a b)
  · intro x hx
    rcases List.mem_append.mp hx with q | q <;> exact digs_in (by decide) (by decide) _ q
  · intro x hx
    rcases List.mem_append.mp hx with q | q <;> exact digs_in (by decide) (by decide) _ q
  rw [swap3]
  refine exs_ret_of rfl ((ev_compm G (xs := [.int 0, .int 3]) [("row", .pure (.bytes (rowB 256 3 a b)))] (fun i => .int (t2 (pick2 a b i))) (comp_scope hk h.mine rfl rfl rfl rfl rfl) (ev_tuple (evl_cons ev_int (evl_cons ev_int evl_nil))) (.tuple _) g'.handled
      (.pure (seen_of hk rfl rfl) (.of rfl) .nil) (fun C₂ h₂ i v hv => ?_) (by decide)).cast (b := .list (il [t2 a, t2 b])) rfl)
  have hiv : i < 2 ∧ v = .int ((3 * i : Nat) : Int) := by
    match i, hv with
    | 0, hv => exact ⟨by decide, (Option.some.inj hv).symm⟩
    | 1, hv => exact ⟨by decide, (Option.some.inj hv).symm⟩
    | i + 2, hv => simp at hv
  obtain ⟨hi, rfl⟩ := hiv
  have g₂ := g'.comp h₂
  have hk₂ := h₂.kd
  rw [hk] at hk₂
  have key : ∀ k, k < 3 → (rowB 256 3 a b)[3 * i + k]? = some ((pick2 a b i / 256 ^ k % 256 : Nat) : Int) := fun k hk => by
    rw [rowB_get (by omega), show (3 * i + k) / 3 = i by omega, show (3 * i + k) % 3 = k by omega]
  have n0 : (((3 * i : Nat) : Int)).toNat = 3 * i + 0 := by omega
  have n1 : (((3 * i : Nat) : Int) + 1).toNat = 3 * i + 1 := by omega
  have n2 : (((3 * i : Nat) : Int) + 2).toNat = 3 * i + 2 := by omega
  refine EvE.post (ev_bin (ev_bin (ev_bin ev_int (ev_sub (ev_name g₂.G (.of rfl)) (ev_name g₂.G (.of rfl)) (get_bytes (by omega) (by simp [rowB]) (by rw [n0]; exact key 0 (by decide)))) (op_mul (.inl (by decide))))
    (ev_bin ev_int (ev_sub (ev_name g₂.G (.of rfl)) (ev_bin (ev_name g₂.G (.of rfl)) ev_int op_add) (get_bytes (by omega) (by simp [rowB]) (by rw [n1]; exact key 1 (by decide)))) (op_mul (.inl (by decide)))) op_add)
    (ev_sub (ev_name g₂.G (.of rfl)) (ev_bin (ev_name g₂.G (.of rfl)) ev_int op_add) (get_bytes (by omega) (by simp [rowB]) (by rw [n2]; exact key 2 (by decide)))) (op_add.cast ?_)) (.cons (.of rfl) .nil)
  simp [t2]
end
end Mine
end
section
open PySem PySem.W PyProof.Rows PySem.Calls
set_option Elab.async false
set_option linter.unusedVariables false
set_option linter.unusedSimpArgs false
set_option maxRecDepth 100000
namespace Mine
noncomputable abbrev dGoes : DefRec := recAt pw 4
noncomputable def gNames : List Int := [4, 3, 2, 1, 5, 0]
noncomputable def gName (p : Nat) : Int := gNames.getD (if 11 - (p : Int) < (p : Int) then 11 - (p : Int) else (p : Int)).toNat 0
noncomputable def gLin (u v nm : Int) : Int := if nm = 5 then u else u * nm + v
noncomputable def gImage (f0 f1 f2 f3 nm : Int) : Int := if gLin f2 f3 nm % 5 = 0 then 5 else gLin f0 f1 nm * gLin f2 f3 nm ^ 3 % 5
noncomputable def gCouple (f0 f1 f2 f3 : Int) (p : Nat) : Int := ((gNames.idxOf (gImage f0 f1 f2 f3 (gName p)) : Nat) : Int)
noncomputable def gPlace (f0 f1 f2 f3 t : Int) (p : Nat) : Int := if ((p : Int) + gCouple f0 f1 f2 f3 p + t) % 2 = 0 then gCouple f0 f1 f2 f3 p else 11 - gCouple f0 f1 f2 f3 p
theorem gName_get {p : Nat} (hp : p < 12) : (il gNames)[(if 11 - (p : Int) < (p : Int) then 11 - (p : Int) else (p : Int)).toNat]? = some (.int (gName p)) := by
  have : (if 11 - (p : Int) < (p : Int) then 11 - (p : Int) else (p : Int)).toNat < gNames.length := by
    show _ < 6
    split <;> omega
  unfold gName il
  rw [List.getElem?_map, List.getD_eq_getElem?_getD, List.getElem?_eq_getElem this]; rfl
theorem gName_in (p : Nat) : 0 ≤ gName p ∧ gName p ≤ 5 := by
  unfold gName
  rw [List.getD_eq_getElem?_getD]
  cases e : gNames[(if 11 - (p : Int) < (p : Int) then 11 - (p : Int) else (p : Int)).toNat]? with
  | none => exact ⟨by decide, by decide⟩
  | some x =>
    have := List.mem_of_getElem? e
    simp [gNames] at this
    show 0 ≤ x ∧ x ≤ 5
    omega
theorem gImage_mem (f0 f1 f2 f3 nm : Int) : gImage f0 f1 f2 f3 nm ∈ gNames := by
  have h : 0 ≤ gImage f0 f1 f2 f3 nm ∧ gImage f0 f1 f2 f3 nm ≤ 5 := by
    unfold gImage
    split
    · omega
    · have h1 := Int.emod_nonneg (gLin f0 f1 nm * gLin f2 f3 nm ^ 3) (b := 5) (by decide)
      have h2 := Int.emod_lt_of_pos (gLin f0 f1 nm * gLin f2 f3 nm ^ 3) (b := 5) (by decide)
      omega
  generalize gImage f0 f1 f2 f3 nm = z at h
  have : z = 0 ∨ z = 1 ∨ z = 2 ∨ z = 3 ∨ z = 4 ∨ z = 5 := by omega
  rcases this with rfl | rfl | rfl | rfl | rfl | rfl <;> decide
theorem gLin_in {u v nm : Int} (hu : 0 ≤ u ∧ u < 5) (hv : 0 ≤ v ∧ v < 5) (hn : 0 ≤ nm ∧ nm ≤ 5) : 0 ≤ gLin u v nm ∧ gLin u v nm < 100 := by
  unfold gLin
  split
  · omega
  · have h1 : 0 ≤ u * nm := Int.mul_nonneg hu.1 hn.1
    have h2 : u * nm ≤ 5 * 5 := Int.mul_le_mul (by omega) hn.2 hn.1 (by decide)
    omega
section
variable {C : Cx} {dd uu : Nat}
theorem interactive_false (G : GCx C) : interactive C.env = false := by
  unfold interactive
  simp [G.kind]
set_option maxHeartbeats 4000000 in
theorem goes_body (g : Gl pw frees C dd uu) (hdd : dd < 800) {C' : Cx} (h : CalleeOf C C' dGoes) (f0 f1 f2 f3 t : Int) (h0 : 0 ≤ f0 ∧ f0 < 5) (h1 : 0 ≤ f1 ∧ f1 < 5) (h2 : 0 ≤ f2 ∧ f2 < 5) (h3 : 0 ≤ f3 ∧ f3 < 5) :
    Exs C' ((dGoes.params.args.map (·.arg)).zip (([.list (il [f0, f1, f2, f3]), .int t] : List AV).map .pure)) dGoes.body (.ret (.list (il ((List.range 12).map (gPlace f0 f1 f2 f3 t))))) [] := by
  have g' := g.callee h
  have G := g'.G
  have hk := h.kd
  refine exs_of rfl (ex_assign G (ev_list (evl_cons ev_int (evl_cons ev_int (evl_cons ev_int (evl_cons ev_int (evl_cons ev_int (evl_cons ev_int evl_nil))))))) (stb_local hk rfl) up_upd) ?_
  refine exs_of rfl (ex_own G evo_nil (stb_local hk rfl) up_upd (h.en _)) ?_
  refine exs_of (σ₁ := [("goes", .own (.list (il ((List.range 12).map (gPlace f0 f1 f2 f3 t)))))]) rfl
    (ex_for G (fun p => [("fraction", .pure (.list (il [f0, f1, f2, f3]))), ("turns", .pure (.int t)), ("names", .pure (.list (il gNames))), ("goes", .own (.list (il ((List.range p).map (gPlace f0 f1 f2 f3 t)))))])
    (ev_call G (g'.builtin (kd_fn hk rfl) rfl (by decide) rfl) .type (evl_cons ev_int evl_nil) (fn_range1 G (by decide) (by decide))) (.range _ _ _ 12 size_one) g'.handled (stb_local hk rfl) ?_ (fun p v hv => ?_) ?_) ?_
  · exact .cons (.of rfl) (.cons (.of rfl) (.cons_eq (.of rfl) rfl (.cons_eq (.of rfl) rfl .nil)))
  · obtain ⟨hp, rfl⟩ := range_item hv
    have hnm := gName_in p
    have hA := gLin_in h0 h1 hnm
    have hB := gLin_in h2 h3 hnm
    have hmin : 0 ≤ (if 11 - (p : Int) < (p : Int) then 11 - (p : Int) else (p : Int)) := by split <;> omega
    have hmin' : (if 11 - (p : Int) < (p : Int) then 11 - (p : Int) else (p : Int)) < 2 ^ 63 := by split <;> omega
    refine ⟨_, _, up_upd, ?_, .refl _⟩
    refine exs_of rfl (ex_assign G (ev_sub (ev_name G (.of rfl)) (ev_call G (g'.builtin (kd_fn hk rfl) rfl (by decide) rfl) .builtin (evl_cons (ev_name G (.of rfl)) (evl_cons (ev_bin ev_int (ev_name G (.of rfl)) op_sub) evl_nil)) (fn_min g'.handled)) (get_list hmin hmin' (gName_get hp))) (stb_local hk rfl) up_upd) ?_
    refine exs_of rfl (ex_assign G (ev_bin (ev_bin (ev_sub (ev_name G (.of rfl)) ev_int (get_list (by decide) (by decide) rfl)) (ev_name G (.of rfl)) (op_mul (.inr (by omega)))) (ev_sub (ev_name G (.of rfl)) ev_int (get_list (by decide) (by decide) rfl)) op_add) (stb_local hk rfl) up_upd) ?_
    refine exs_of rfl (ex_assign G (ev_bin (ev_bin (ev_sub (ev_name G (.of rfl)) ev_int (get_list (by decide) (by decide) rfl)) (ev_name G (.of rfl)) (op_mul (.inr (by omega)))) (ev_sub (ev_name G (.of rfl)) ev_int (get_list (by decide) (by decide) rfl)) op_add) (stb_local hk rfl) up_upd) ?_
    have base : St := []
    refine exs_of (σ₁ := [("fraction", .pure (.list (il [f0, f1, f2, f3]))), ("turns", .pure (.int t)), ("names", .pure (.list (il gNames))), ("goes", .own (.list (il ((List.range p).map (gPlace f0 f1 f2 f3 t))))), ("place", .pure (.int p)), ("name", .pure (.int (gName p))), ("above", .pure (.int (gLin f0 f1 (gName p)))), ("below", .pure (.int (gLin f2 f3 (gName p))))]) rfl
      (ex_if (c := gName p == 5) (evt_cmp (ev_name G (.of rfl)) ev_int cmp_eq) (fun q => ?_) (fun q => ?_)) ?_
    · have e : gName p = 5 := by simpa using q
      refine exs_of rfl (ex_assign G (ev_sub (ev_name G (.of rfl)) ev_int (get_list (by decide) (by decide) rfl)) (stb_local hk rfl) up_upd) ?_
      refine exs_of rfl (ex_assign G (ev_sub (ev_name G (.of rfl)) ev_int (get_list (by decide) (by decide) rfl)) (stb_local hk rfl) up_upd) (exs_done rfl ?_)
      refine .cons (.of rfl) (.cons (.of rfl) (.cons (.of rfl) (.cons (.of rfl) (.cons (.of rfl) (.cons (.of rfl) (.cons_eq (.of rfl) ?_ (.cons_eq (.of rfl) ?_ .nil)))))))
      · unfold gLin; rw [if_pos e]
      · unfold gLin; rw [if_pos e]
    · have e : ¬ gName p = 5 := by simpa using q
      refine exs_done rfl ?_
      refine .cons (.of rfl) (.cons (.of rfl) (.cons (.of rfl) (.cons (.of rfl) (.cons (.of rfl) (.cons (.of rfl) (.cons_eq (.of rfl) ?_ (.cons_eq (.of rfl) ?_ .nil)))))))
      · unfold gLin; rw [if_neg e]
      · unfold gLin; rw [if_neg e]
    refine exs_of rfl (ex_assign G ev_int (stb_local hk rfl) up_upd) ?_
    refine exs_of (σ₁ := [("fraction", .pure (.list (il [f0, f1, f2, f3]))), ("turns", .pure (.int t)), ("names", .pure (.list (il gNames))), ("goes", .own (.list (il ((List.range p).map (gPlace f0 f1 f2 f3 t))))), ("place", .pure (.int p)), ("image", .pure (.int (gImage f0 f1 f2 f3 (gName p))))]) rfl
      (ex_if (c := gLin f2 f3 (gName p) % 5 != 0) (evt_cmp (ev_bin (ev_name G (.of rfl)) ev_int (op_mod (by decide))) ev_int cmp_ne) (fun q => ?_) (fun q => ?_)) ?_
    · have e : ¬ gLin f2 f3 (gName p) % 5 = 0 := by simpa using q
      refine exs_of rfl (ex_assign G (ev_bin (ev_bin (ev_name G (.of rfl)) (ev_bin (ev_name G (.of rfl)) ev_int (op_pow (by decide) (by decide) (by omega))) (op_mul (.inl (by omega)))) ev_int (op_mod (by decide))) (stb_local hk rfl) up_upd) (exs_done rfl ?_)
      refine .cons (.of rfl) (.cons (.of rfl) (.cons (.of rfl) (.cons (.of rfl) (.cons (.of rfl) (.cons_eq (.of rfl) ?_ .nil)))))
      unfold gImage; rw [if_neg e]; rfl
    · have e : gLin f2 f3 (gName p) % 5 = 0 := by simpa using q
      refine exs_done rfl ?_
      refine .cons (.of rfl) (.cons (.of rfl) (.cons (.of rfl) (.cons (.of rfl) (.cons (.of rfl) (.cons_eq (.of rfl) ?_ .nil)))))
      unfold gImage; rw [if_pos e]
    refine exs_of rfl (ex_assign G (ev_index G (.of rfl) (ev_name G (.of rfl)) (gImage_mem _ _ _ _ _) (by decide +kernel)) (stb_local hk rfl) up_upd) ?_
    have hap : il ((List.range p).map (gPlace f0 f1 f2 f3 t)) ++ [AV.int (gPlace f0 f1 f2 f3 t p)] = il ((List.range (p + 1)).map (gPlace f0 f1 f2 f3 t)) := by
      rw [List.range_succ, List.map_append]; simp [il]
    refine exs_of (σ₁ := [("fraction", .pure (.list (il [f0, f1, f2, f3]))), ("turns", .pure (.int t)), ("names", .pure (.list (il gNames))), ("goes", .own (.list (il ((List.range (p + 1)).map (gPlace f0 f1 f2 f3 t)))))]) rfl
      (ex_if (c := ((p : Int) + gCouple f0 f1 f2 f3 p + t) % 2 == 0) (evt_cmp (ev_bin (ev_bin (ev_bin (ev_name G (.of rfl)) (ev_name G (.of rfl)) op_add) (ev_name G (.of rfl)) op_add) ev_int (op_mod (by decide))) ev_int cmp_eq) (fun q => ?_) (fun q => ?_)) (exs_done rfl (.refl _))
    · have e : ((p : Int) + gCouple f0 f1 f2 f3 p + t) % 2 = 0 := by simpa using q
      refine exs_of rfl (ex_append G (.of rfl) (ev_name G (.of rfl)) (.of rfl) up_upd (by simp [il]; unfold sizeLine; omega) (hi := interactive_false G)) (exs_done rfl ?_)
      refine .cons (.of rfl) (.cons (.of rfl) (.cons (.of rfl) (.cons_eq (.of rfl) ?_ .nil)))
      rw [← hap]; unfold gPlace; rw [if_pos e]; rfl
    · have e : ¬ ((p : Int) + gCouple f0 f1 f2 f3 p + t) % 2 = 0 := by simpa using q
      refine exs_of rfl (ex_append G (.of rfl) (ev_bin ev_int (ev_name G (.of rfl)) op_sub) (.of rfl) up_upd (by simp [il]; unfold sizeLine; omega) (hi := interactive_false G)) (exs_done rfl ?_)
      refine .cons (.of rfl) (.cons (.of rfl) (.cons (.of rfl) (.cons_eq (.of rfl) ?_ .nil)))
      rw [← hap]; unfold gPlace; rw [if_neg e]; rfl
  · exact .cons_eq (.of rfl) rfl .nil
  · exact exs_freeze (x := "goes") (l := il ((List.range 12).map (gPlace f0 f1 f2 f3 t))) (.of rfl) up_upd h.ext (exs_ret_of rfl (ev_name G (.of rfl)))
end
end Mine
end
section
set_option Elab.async false
set_option linter.unusedVariables false
set_option linter.unusedSimpArgs false
set_option maxRecDepth 100000
namespace Mine
/- numbers by their twelve places -/
noncomputable def num : List Nat → Nat
  | [] => 0
  | d :: r => d + 4 * num r
noncomputable def app (P l : List Nat) : List Nat := P.map fun j => l.getD j 0
noncomputable def pm : Nat → List Nat
  | 0 => [10, 11, 8, 9, 6, 7, 4, 5, 2, 3, 0, 1]
  | 1 => [9, 10, 11, 6, 7, 8, 3, 4, 5, 0, 1, 2]
  | _ => [8, 9, 10, 11, 4, 5, 6, 7, 0, 1, 2, 3]
/-- the twelve places of a number -/
noncomputable def places (n : Nat) : List Nat := (List.range 12).map fun k => n / 4 ^ k % 4
theorem num_div {a : Nat} {l : List Nat} (h : a < 4) : num (a :: l) / 4 = num l := by rw [num]; omega
theorem num_mod {a : Nat} {l : List Nat} (h : a < 4) : num (a :: l) % 4 = a := by rw [num]; omega
theorem num_range (n : Nat) : ∀ c, n < 4 ^ c → num ((List.range c).map fun k => n / 4 ^ k % 4) = n := by
  intro c
  induction c generalizing n with
  | zero => intro h; simp at h; subst h; rfl
  | succ c ih =>
    intro h
    rw [List.range_succ_eq_map, List.map_cons, List.map_map, num]
    have e : ((fun k => n / 4 ^ k % 4) ∘ Nat.succ) = fun k => (n / 4) / 4 ^ k % 4 := by
      funext k
      show n / 4 ^ (k + 1) % 4 = _
      rw [Nat.pow_succ, Nat.mul_comm, ← Nat.div_div_eq_div_mul]
    rw [e, ih (n / 4) (by rw [Nat.pow_succ] at h; omega), Nat.pow_zero, Nat.div_one]
    omega
theorem num_places {n : Nat} (h : n < 16777216) : num (places n) = n := num_range n 12 h
theorem places_lt (n : Nat) : ∀ d ∈ places n, d < 4 := fun d hd => by
  obtain ⟨k, _, rfl⟩ := List.mem_map.mp hd
  exact Nat.mod_lt _ (by decide)
theorem app_app {P I l : List Nat} (h : ∀ j ∈ P, j < I.length) : app P (app I l) = app (app P I) l := by
  unfold app
  rw [List.map_map]
  refine List.map_congr_left fun j hj => ?_
  have := h j hj
  simp [List.getD_eq_getElem?_getD, List.getElem?_eq_getElem this]
structure Twelve (l : List Nat) : Prop where
  len : l.length = 12
  lt : ∀ d ∈ l, d < 4
theorem Twelve.cases {l : List Nat} (h : Twelve l) : ∃ a0 a1 a2 a3 a4 a5 a6 a7 a8 a9 b0 b1, l = [a0, a1, a2, a3, a4, a5, a6, a7, a8, a9, b0, b1] ∧ a0 < 4 ∧ a1 < 4 ∧ a2 < 4 ∧ a3 < 4 ∧ a4 < 4 ∧ a5 < 4 ∧ a6 < 4 ∧ a7 < 4 ∧ a8 < 4 ∧ a9 < 4 ∧ b0 < 4 ∧ b1 < 4 := by
  obtain ⟨h1, h2⟩ := h
  match l, h1 with
  | [a0, a1, a2, a3, a4, a5, a6, a7, a8, a9, b0, b1], _ =>
    refine ⟨a0, a1, a2, a3, a4, a5, a6, a7, a8, a9, b0, b1, rfl, ?_, ?_, ?_, ?_, ?_, ?_, ?_, ?_, ?_, ?_, ?_, ?_⟩ <;> exact h2 _ (by simp)
theorem Twelve.app {P l : List Nat} (h : Twelve l) (hp : P.length = 12) (hlt : ∀ j ∈ P, j < 12) : Twelve (app P l) where
  len := by simp [Mine.app, hp]
  lt := fun d hd => by
    obtain ⟨j, hj, rfl⟩ := List.mem_map.mp hd
    have := hlt j hj
    rw [List.getD_eq_getElem?_getD, List.getElem?_eq_getElem (by rw [h.len]; exact this)]
    exact h.lt _ (List.getElem_mem _)
theorem num_lt : ∀ l : List Nat, (∀ d ∈ l, d < 4) → num l < 4 ^ l.length
  | [], _ => by simp [num]
  | a :: l, h => by
    have h1 := num_lt l fun d hd => h d (by simp [hd])
    have h2 := h a (by simp)
    rw [num, List.length_cons, Nat.pow_succ]
    omega
theorem Twelve.num_lt {l : List Nat} (h : Twelve l) : num l < 16777216 := by
  have := Mine.num_lt l h.lt
  rw [h.len] at this
  exact this
theorem cut2 {a b : Nat} {l : List Nat} (ha : a < 4) (hb : b < 4) : num (a :: b :: l) / 16 = num l ∧ num (a :: b :: l) % 16 = a + 4 * b := by
  rw [num, num]; omega
theorem cut3 {a b c : Nat} {l : List Nat} (ha : a < 4) (hb : b < 4) (hc : c < 4) : num (a :: b :: c :: l) / 64 = num l ∧ num (a :: b :: c :: l) % 64 = a + 4 * b + 16 * c := by
  rw [num, num, num]; omega
theorem cut4 {a b c d : Nat} {l : List Nat} (ha : a < 4) (hb : b < 4) (hc : c < 4) (hd : d < 4) : num (a :: b :: c :: d :: l) / 256 = num l ∧ num (a :: b :: c :: d :: l) % 256 = a + 4 * b + 16 * c + 64 * d := by
  rw [num, num, num, num]; omega
theorem Twelve.places {n : Nat} : Twelve (places n) := ⟨by simp [Mine.places], places_lt n⟩
theorem t0_num {l : List Nat} (h : Twelve l) : t0 (num l) = ((num (app (pm 0) l) : Nat) : Int) := by
  obtain ⟨a0, a1, a2, a3, a4, a5, a6, a7, a8, a9, b0, b1, rfl, h0, h1, h2, h3, h4, h5, h6, h7, h8, h9, h10, h11⟩ := h.cases
  have q0 := cut2 (l := [a2, a3, a4, a5, a6, a7, a8, a9, b0, b1]) h0 h1
  have q1 := cut2 (l := [a4, a5, a6, a7, a8, a9, b0, b1]) h2 h3
  have q2 := cut2 (l := [a6, a7, a8, a9, b0, b1]) h4 h5
  have q3 := cut2 (l := [a8, a9, b0, b1]) h6 h7
  have q4 := cut2 (l := [b0, b1]) h8 h9
  have q5 := cut2 (l := []) h10 h11
  generalize hn : num [a0, a1, a2, a3, a4, a5, a6, a7, a8, a9, b0, b1] = n at q0 ⊢
  have e1 : n / 16 ^ 1 % 16 = a2 + 4 * a3 := by rw [Nat.pow_one, q0.1, q1.2]
  have e2 : n / 16 ^ 2 % 16 = a4 + 4 * a5 := by rw [show 16 ^ 2 = 16 * 16 by rfl, ← Nat.div_div_eq_div_mul, q0.1, q1.1, q2.2]
  have e3 : n / 16 ^ 3 % 16 = a6 + 4 * a7 := by rw [show 16 ^ 3 = 16 * 16 * 16 by rfl, ← Nat.div_div_eq_div_mul, ← Nat.div_div_eq_div_mul, q0.1, q1.1, q2.1, q3.2]
  have e4 : n / 16 ^ 4 % 16 = a8 + 4 * a9 := by rw [show 16 ^ 4 = 16 * 16 * 16 * 16 by rfl, ← Nat.div_div_eq_div_mul, ← Nat.div_div_eq_div_mul, ← Nat.div_div_eq_div_mul, q0.1, q1.1, q2.1, q3.1, q4.2]
  have e5 : n / 16 ^ 5 % 16 = b0 + 4 * b1 := by rw [show 16 ^ 5 = 16 * 16 * 16 * 16 * 16 by rfl, ← Nat.div_div_eq_div_mul, ← Nat.div_div_eq_div_mul, ← Nat.div_div_eq_div_mul, ← Nat.div_div_eq_div_mul, q0.1, q1.1, q2.1, q3.1, q4.1, q5.2]
  have e0 : n / 16 ^ 0 % 16 = a0 + 4 * a1 := by rw [Nat.pow_zero, Nat.div_one, q0.2]
  simp only [t0, List.range, List.range.loop, List.map_cons, List.map_nil, List.sum_cons, List.sum_nil, e0, e1, e2, e3, e4, e5]
  simp only [app, pm, List.map_cons, List.map_nil, List.getD_cons_zero, List.getD_cons_succ, num]
  omega
theorem lin1 (a0 a1 a2 a3 a4 a5 a6 a7 a8 a9 b0 b1 : Nat) : num (app (pm 1) [a0, a1, a2, a3, a4, a5, a6, a7, a8, a9, b0, b1]) = (a9 + 4 * b0 + 16 * b1) + 64 * ((a6 + 4 * a7 + 16 * a8) + 64 * ((a3 + 4 * a4 + 16 * a5) + 64 * (a0 + 4 * a1 + 16 * a2))) := by
  simp only [app, pm, List.map_cons, List.map_nil, List.getD_cons_zero, List.getD_cons_succ, num]
  omega
theorem t1_num {l : List Nat} (h : Twelve l) : t1 (num l) = ((num (app (pm 1) l) : Nat) : Int) := by
  obtain ⟨a0, a1, a2, a3, a4, a5, a6, a7, a8, a9, b0, b1, rfl, h0, h1, h2, h3, h4, h5, h6, h7, h8, h9, h10, h11⟩ := h.cases
  have q0 := cut3 (l := [a3, a4, a5, a6, a7, a8, a9, b0, b1]) h0 h1 h2
  have q1 := cut3 (l := [a6, a7, a8, a9, b0, b1]) h3 h4 h5
  have q2 := cut3 (l := [a9, b0, b1]) h6 h7 h8
  have q3 := cut3 (l := []) h9 h10 h11
  generalize hn : num [a0, a1, a2, a3, a4, a5, a6, a7, a8, a9, b0, b1] = n at q0 ⊢
  have e1 : n / 64 % 64 = a3 + 4 * a4 + 16 * a5 := by rw [q0.1, q1.2]
  have e2 : n / 4096 % 64 = a6 + 4 * a7 + 16 * a8 := by rw [show 4096 = 64 * 64 by rfl, ← Nat.div_div_eq_div_mul, q0.1, q1.1, q2.2]
  have e3 : n / 262144 % 64 = a9 + 4 * b0 + 16 * b1 := by rw [show 262144 = 64 * 64 * 64 by rfl, ← Nat.div_div_eq_div_mul, ← Nat.div_div_eq_div_mul, q0.1, q1.1, q2.1, q3.2]
  have e0 := q0.2
  have hA : a0 + 4 * a1 + 16 * a2 < 64 := by omega
  have hB : a3 + 4 * a4 + 16 * a5 < 64 := by omega
  have hC : a6 + 4 * a7 + 16 * a8 < 64 := by omega
  have hD : a9 + 4 * b0 + 16 * b1 < 64 := by omega
  have e4 := lin1 a0 a1 a2 a3 a4 a5 a6 a7 a8 a9 b0 b1
  rw [e4]
  simp only [t1, oct, vv, List.foldl_cons, List.foldl_nil, e0, e1, e2, e3]
  generalize a0 + 4 * a1 + 16 * a2 = A at *
  generalize a3 + 4 * a4 + 16 * a5 = B at *
  generalize a6 + 4 * a7 + 16 * a8 = C at *
  generalize a9 + 4 * b0 + 16 * b1 = D at *
  clear e4 q0 q1 q2 q3 e0 e1 e2 e3
  have f1 : (((A : Nat) : Int) + 64) % 64 = A := by omega
  have f2 : (((B : Nat) : Int) + 64) % 64 = B := by omega
  have f3 : (((C : Nat) : Int) + 64) % 64 = C := by omega
  have f4 : ((D : Nat) : Int) % 64 = D := by omega
  rw [f1, f2, f3, f4]
  omega
theorem t2_num {l : List Nat} (h : Twelve l) : t2 (num l) = ((num (app (pm 2) l) : Nat) : Int) := by
  obtain ⟨a0, a1, a2, a3, a4, a5, a6, a7, a8, a9, b0, b1, rfl, h0, h1, h2, h3, h4, h5, h6, h7, h8, h9, h10, h11⟩ := h.cases
  have q0 := cut4 (l := [a4, a5, a6, a7, a8, a9, b0, b1]) h0 h1 h2 h3
  have q1 := cut4 (l := [a8, a9, b0, b1]) h4 h5 h6 h7
  have q2 := cut4 (l := []) h8 h9 h10 h11
  generalize hn : num [a0, a1, a2, a3, a4, a5, a6, a7, a8, a9, b0, b1] = n at q0 ⊢
  have e1 : n / 256 % 256 = a4 + 4 * a5 + 16 * a6 + 64 * a7 := by rw [q0.1, q1.2]
  have e2 : n / 65536 % 256 = a8 + 4 * a9 + 16 * b0 + 64 * b1 := by rw [show 65536 = 256 * 256 by rfl, ← Nat.div_div_eq_div_mul, q0.1, q1.1, q2.2]
  simp only [t2, q0.2, e1, e2]
  simp only [app, pm, List.map_cons, List.map_nil, List.getD_cons_zero, List.getD_cons_succ, num]
  omega
/-- linear forms -/
noncomputable def sumTo (f : Nat → Nat) : Nat → Nat
  | 0 => 0
  | n + 1 => sumTo f n + f n
theorem sumTo_congr {f g : Nat → Nat} : ∀ n, (∀ k, k < n → f k = g k) → sumTo f n = sumTo g n
  | 0, _ => rfl
  | n + 1, h => by rw [sumTo, sumTo, sumTo_congr n (fun k hk => h k (by omega)), h n (by omega)]
theorem sumTo_lin {f g : Nat → Nat} : ∀ n, sumTo (fun k => f k + 4 * g k) n = sumTo f n + 4 * sumTo g n
  | 0 => rfl
  | n + 1 => by rw [sumTo, sumTo, sumTo, sumTo_lin n]; omega
theorem sumTo_zero : ∀ n, sumTo (fun _ => 0) n = 0
  | 0 => rfl
  | n + 1 => by rw [sumTo, sumTo_zero n]
theorem sumTo_one {l : Nat → Nat} {i : Nat} : ∀ n, sumTo (fun k => l k * (if i = k then 1 else 0)) n = if i < n then l i else 0
  | 0 => rfl
  | n + 1 => by
    rw [sumTo, sumTo_one n]
    by_cases h : i = n
    · subst h; simp
    · have : (i < n + 1) ↔ i < n := by omega
      simp [h, this]
noncomputable def coef : List Nat → Nat → Nat
  | [], _ => 0
  | i :: I, k => (if i = k then 1 else 0) + 4 * coef I k
theorem num_app (l : List Nat) : ∀ I : List Nat, (∀ i ∈ I, i < 12) → num (app I l) = sumTo (fun k => l.getD k 0 * coef I k) 12
  | [], _ => by rw [show app [] l = [] from rfl]; simp [num, coef, sumTo_zero]
  | i :: I, h => by
    have ih := num_app l I fun j hj => h j (by simp [hj])
    have hi := h i (by simp)
    show l.getD i 0 + 4 * num (app I l) = _
    have e : (fun k => l.getD k 0 * coef (i :: I) k) = fun k => l.getD k 0 * (if i = k then 1 else 0) + 4 * (l.getD k 0 * coef I k) := by
      funext k
      rw [coef, Nat.mul_add, Nat.mul_left_comm]
    rw [e, sumTo_lin, ← ih, sumTo_one, if_pos hi]
theorem sum_range (f : Nat → Nat) : ∀ n, ((List.range n).map f).sum = sumTo f n
  | 0 => rfl
  | n + 1 => by rw [List.range_succ, List.map_append, List.sum_append, sum_range f n, sumTo]; simp
end Mine
end
section
set_option Elab.async false
set_option linter.unusedVariables false
set_option linter.unusedSimpArgs false
set_option maxRecDepth 100000
namespace Mine
structure Sx where
  I : List Nat
  f : List Int
  five : List Int
  turns : Nat
noncomputable def stepsL : List (List Int) := [[0, 2, 1, 0], [4, 1, 0, 1], [4, 0, 0, 1]]
noncomputable def movesL : List (List Int) := [[0, 1, 3, 2, 4], [1, 0, 4, 3, 2], [0, 4, 3, 2, 1]]
noncomputable def fstep (m f : List Int) : List Int := match m, f with
  | [p, q, r, s], [a, b, c, d] => [(p * a + q * c) % 5, (p * b + q * d) % 5, (r * a + s * c) % 5, (r * b + s * d) % 5]
  | _, _ => []
noncomputable def stp (S : Sx) (d : Nat) : Sx where
  I := app (pm d) S.I
  f := fstep (stepsL.getD d []) S.f
  five := S.five.map fun x => (movesL.getD d []).getD x.toNat 0
  turns := S.turns + if d = 1 then 1 else 0
noncomputable def s0 : Sx := ⟨[0, 1, 2, 3, 4, 5, 6, 7, 8, 9, 10, 11], [1, 0, 0, 1], [0, 1, 2, 3, 4], 0⟩
noncomputable def idv : List Int := [0, 1, 2, 3, 4]
noncomputable def run (w : List Nat) (S : Sx) : Sx := w.foldl stp S
noncomputable def atRound (w : List Nat) : Nat → Sx
  | 0 => s0
  | r + 1 => run w (atRound w r)
/-- a state that a walk can go on from -/
noncomputable def fine (S : Sx) : Bool :=
  S.I.length == 12 && S.I.all (· < 12) && S.five.length == 5 && S.five.all (fun x => 0 ≤ x && x < 5) && (match S.f with | [a, b, c, d] => [a, b, c, d].all (fun x => 0 ≤ x && x < 5) | _ => false)
/-- the first round's saying -/
noncomputable def said (S : Sx) : Bool := match S.f with
  | [a, b, c, d] => (List.range 12).all fun k => 0 ≤ gPlace a b c d S.turns k && gPlace a b c d S.turns k < 12 && 4 ^ (gPlace a b c d S.turns k).toNat == coef S.I k
  | _ => false
noncomputable def home (S : Sx) : Bool := S.five == idv && S.turns % 2 == 0
noncomputable def rounds (w : List Nat) : Nat := ((List.range 13).drop 1).findIdx (fun r => home (atRound w r)) + 1
/-- the deeds' places, told once more: quick to work out -/
noncomputable def perm12 (d : Nat) : List Nat → List Nat
  | [x0, x1, x2, x3, x4, x5, x6, x7, x8, x9, x10, x11] => match d with
    | 0 => [x10, x11, x8, x9, x6, x7, x4, x5, x2, x3, x0, x1]
    | 1 => [x9, x10, x11, x6, x7, x8, x3, x4, x5, x0, x1, x2]
    | _ => [x8, x9, x10, x11, x4, x5, x6, x7, x0, x1, x2, x3]
  | _ => []
noncomputable def stq (S : Sx) (d : Nat) : Sx where
  I := perm12 d S.I
  f := fstep (stepsL.getD d []) S.f
  five := S.five.map fun x => (movesL.getD d []).getD x.toNat 0
  turns := S.turns + if d = 1 then 1 else 0
noncomputable def runq (w : List Nat) (S : Sx) : Sx := w.foldl stq S
theorem perm12_eq : ∀ (d : Nat) {l : List Nat}, l.length = 12 → perm12 d l = app (pm d) l
  | 0, [_, _, _, _, _, _, _, _, _, _, _, _], _ => rfl
  | 1, [_, _, _, _, _, _, _, _, _, _, _, _], _ => rfl
  | _ + 2, [_, _, _, _, _, _, _, _, _, _, _, _], _ => rfl
theorem pm_twelve : ∀ d, (pm d).length = 12
  | 0 => rfl
  | 1 => rfl
  | _ + 2 => rfl
theorem stq_eq {S : Sx} (h : S.I.length = 12) (d : Nat) : stq S d = stp S d := by
  unfold stq stp
  rw [perm12_eq d h]
theorem stp_len (S : Sx) (d : Nat) : (stp S d).I.length = 12 := (List.length_map _).trans (pm_twelve d)
theorem runq_eq : ∀ (w : List Nat) {S : Sx}, S.I.length = 12 → runq w S = run w S ∧ (run w S).I.length = 12
  | [], _, h => ⟨rfl, h⟩
  | d :: w, S, h => by
    have := runq_eq w (stp_len S d)
    show runq w (stq S d) = run w (stp S d) ∧ _
    rw [stq_eq h]
    exact this
/-- from round to round till the five stand as at first -/
noncomputable def chk (w : List Nat) : Nat → Sx → Bool
  | 0, _ => false
  | n + 1, S => match home (runq w S) with
    | true => (runq w S).I == s0.I
    | false => chk w n (runq w S)
theorem said1 : ∀ a, a < 3 → said (runq [a] s0) = true := by decide +kernel
theorem said2 : ∀ a, a < 3 → ∀ b, b < 3 → said (runq [a, b] s0) = true := by decide +kernel
theorem said3 : ∀ a, a < 3 → ∀ b, b < 3 → ∀ c, c < 3 → said (runq [a, b, c] s0) = true := by decide +kernel
theorem said4 : ∀ a, a < 3 → ∀ b, b < 3 → ∀ c, c < 3 → ∀ d, d < 3 → said (runq [a, b, c, d] s0) = true := by decide +kernel
theorem chk_all : ∀ a, a < 3 → ∀ b, b < 3 → ∀ c, c < 3 → ∀ d, d < 3 → chk [a, b, c, d] 12 s0 = true := by decide +kernel
/-- steps keep fine -/
theorem fine_s0 : fine s0 = true := by decide
end Mine
end
section
open PySem PySem.W PyProof.Rows PySem.Calls
set_option Elab.async false
set_option linter.unusedVariables false
set_option linter.unusedSimpArgs false
set_option maxRecDepth 100000
namespace Mine
theorem mem_trn : dTrn ∈ recsOf pw := recAt_mem (by decide +kernel)
theorem mem_goes : dGoes ∈ recsOf pw := recAt_mem (by decide +kernel)
noncomputable abbrev dLaw : DefRec := recAt pw 5
theorem mem_law : dLaw ∈ recsOf pw := recAt_mem (by decide +kernel)
section
variable {C : Cx} {dd uu : Nat} {σ τ : St}
theorem ev_turned (g : Gl pw frees C dd uu) (hdd : dd < 700) (hk : C.kd "_law_turned" = some .globalImplicit) {p pos : Pos} {e e' : Expr} {la lb : List Nat} {d : Nat} {σ₁ : St} (he : EvE C σ e (.list (il [((num la : Nat) : Int), ((num lb : Nat) : Int)])) σ₁) (he' : EvE C σ₁ e' (.int d) τ) (hd : d < 3) (ha : Twelve la) (hb : Twelve lb)
    (hs : ∀ env, starEach [e, e'] env = (false, eval e env) :: starEach [e'] env := by intro _; rfl) (hs' : ∀ env, starEach [e'] env = (false, eval e' env) :: starEach [] env := by intro _; rfl) :
    EvE C σ (.Call (.Name "_law_turned" p) [e, e'] [] pos) (.list (il [((num (app (pm d) la) : Nat) : Int), ((num (app (pm d) lb) : Nat) : Int)])) τ := by
  obtain ⟨a, gn, hf⟩ := g.fn mem_trn rfl hk
  refine ev_call g.G gn hf.callee (evl_cons he (evl_cons he' evl_nil hs') hs) (fn_user g.G hf (by have := g.depth; unfold recursionLimit; omega) (fun C' h => ⟨[], ?_⟩) ?_) hs
  · match d, hd with
    | 0, _ => rw [← t0_num ha, ← t0_num hb]; exact turned0 g (by omega) h _ _ ha.num_lt hb.num_lt
    | 1, _ => rw [← t1_num ha, ← t1_num hb]; exact turned1 g (by omega) h _ _ ha.num_lt hb.num_lt
    | 2, _ => rw [← t2_num ha, ← t2_num hb]; exact turned2 g (by omega) h _ _ ha.num_lt hb.num_lt
  · intro pm code doc vs hvs
    match vs, hvs with
    | [v, v'], _ => rfl
theorem ev_goes (g : Gl pw frees C dd uu) (hdd : dd < 700) (hk : C.kd "_law_goes" = some .globalImplicit) {p pos : Pos} {e e' : Expr} {f0 f1 f2 f3 t : Int} {σ₁ : St} (he : EvE C σ e (.list (il [f0, f1, f2, f3])) σ₁) (he' : EvE C σ₁ e' (.int t) τ) (h0 : 0 ≤ f0 ∧ f0 < 5) (h1 : 0 ≤ f1 ∧ f1 < 5) (h2 : 0 ≤ f2 ∧ f2 < 5) (h3 : 0 ≤ f3 ∧ f3 < 5)
    (hs : ∀ env, starEach [e, e'] env = (false, eval e env) :: starEach [e'] env := by intro _; rfl) (hs' : ∀ env, starEach [e'] env = (false, eval e' env) :: starEach [] env := by intro _; rfl) :
    EvE C σ (.Call (.Name "_law_goes" p) [e, e'] [] pos) (.list (il ((List.range 12).map (gPlace f0 f1 f2 f3 t)))) τ := by
  obtain ⟨a, gn, hf⟩ := g.fn mem_goes rfl hk
  refine ev_call g.G gn hf.callee (evl_cons he (evl_cons he' evl_nil hs') hs) (fn_user g.G hf (by have := g.depth; unfold recursionLimit; omega) (fun C' h => ⟨[], goes_body g (by omega) h f0 f1 f2 f3 t h0 h1 h2 h3⟩) ?_) hs
  intro pm code doc vs hvs
  match vs, hvs with
  | [v, v'], _ => rfl

noncomputable def beginsL : List Int := [11259375, 1193046, 0, 1, 2, 1]
noncomputable def cut (script : List Int) (k : Nat) : List Int := pick script (some (k : Int)) (some 60) (some 6)
noncomputable def sixK (script : List Int) (k : Nat) : Int := beginsL.getD k 0 + ((cut script k).map (· % 16777216)).sum
noncomputable def sixL (script : List Int) : List Int := (List.range 6).map (sixK script)
theorem pick_length (l : List Int) (lo hi st : Option Int) : (pick l lo hi st).length ≤ (sliceRange (sliceBounds lo hi st l.length).1 (sliceBounds lo hi st l.length).2.1 (sliceBounds lo hi st l.length).2.2).length := by
  unfold pick; exact List.length_filterMap_le _ _
end
end Mine
end
section
set_option Elab.async false
set_option linter.unusedVariables false
set_option linter.unusedSimpArgs false
set_option maxRecDepth 100000
namespace Mine
structure Fine (S : Sx) : Prop where
  I12 : S.I.length = 12
  Ilt : ∀ i ∈ S.I, i < 12
  five5 : S.five.length = 5
  fiv : ∀ x ∈ S.five, 0 ≤ x ∧ x < 5
  f : ∃ a b c d : Int, S.f = [a, b, c, d] ∧ (0 ≤ a ∧ a < 5) ∧ (0 ≤ b ∧ b < 5) ∧ (0 ≤ c ∧ c < 5) ∧ (0 ≤ d ∧ d < 5)
theorem Fine.s0 : Fine s0 := ⟨rfl, by decide, rfl, by decide, 1, 0, 0, 1, rfl, by decide, by decide, by decide, by decide⟩
theorem pm_len : ∀ d, d < 3 → (pm d).length = 12 ∧ ∀ j ∈ pm d, j < 12 := by decide
theorem steps_at : ∀ d, d < 3 → ∃ p q r s : Int, stepsL.getD d [] = [p, q, r, s] ∧ (0 ≤ p ∧ p < 5) ∧ (0 ≤ q ∧ q < 5) ∧ (0 ≤ r ∧ r < 5) ∧ (0 ≤ s ∧ s < 5) := by
  intro d hd
  match d, hd with
  | 0, _ => exact ⟨0, 2, 1, 0, rfl, by decide, by decide, by decide, by decide⟩
  | 1, _ => exact ⟨4, 1, 0, 1, rfl, by decide, by decide, by decide, by decide⟩
  | 2, _ => exact ⟨4, 0, 0, 1, rfl, by decide, by decide, by decide, by decide⟩
theorem moves_at : ∀ d, d < 3 → (movesL.getD d []).length = 5 ∧ ∀ x ∈ movesL.getD d [], 0 ≤ x ∧ x < 5 := by decide
theorem moves_in {d : Nat} (hd : d < 3) {x : Int} (h0 : 0 ≤ x) (h1 : x < 5) : (movesL.getD d [])[x.toNat]? = some ((movesL.getD d []).getD x.toNat 0) ∧ 0 ≤ (movesL.getD d []).getD x.toNat 0 ∧ (movesL.getD d []).getD x.toNat 0 < 5 := by
  obtain ⟨h2, h3⟩ := moves_at d hd
  have hlt : x.toNat < (movesL.getD d []).length := by rw [h2]; omega
  rw [List.getD_eq_getElem?_getD (l := movesL.getD d []), List.getElem?_eq_getElem hlt]
  exact ⟨rfl, h3 _ (List.getElem_mem hlt)⟩
theorem Fine.stp {S : Sx} (h : Fine S) {d : Nat} (hd : d < 3) : Fine (stp S d) := by
  obtain ⟨a, b, c, e, hf, _⟩ := h.f
  obtain ⟨p, q, r, s, hs, _⟩ := steps_at d hd
  have hp := pm_len d hd
  refine ⟨by simp [Mine.stp, app, hp.1], fun i hi => ?_, by simp [Mine.stp, h.five5], fun x hx => ?_, ?_⟩
  · obtain ⟨j, hj, rfl⟩ := List.mem_map.mp hi
    have hlt : j < S.I.length := by rw [h.I12]; exact hp.2 j hj
    rw [List.getD_eq_getElem?_getD, List.getElem?_eq_getElem hlt]
    exact h.Ilt _ (List.getElem_mem hlt)
  · obtain ⟨y, hy, rfl⟩ := List.mem_map.mp hx
    have := h.fiv y hy
    exact (moves_in hd this.1 this.2).2
  · refine ⟨_, _, _, _, show fstep _ _ = _ by rw [hs, hf]; rfl, ?_, ?_, ?_, ?_⟩ <;> exact ⟨Int.emod_nonneg _ (by decide), Int.emod_lt_of_pos _ (by decide)⟩
theorem Fine.run {w : List Nat} : ∀ {S : Sx}, Fine S → (∀ d ∈ w, d < 3) → Fine (run w S) := by
  induction w with
  | nil => intro S h _; exact h
  | cons d w ih => intro S h hw; exact ih (h.stp (hw d (by simp))) fun e he => hw e (by simp [he])
theorem Fine.atRound {w : List Nat} (hw : ∀ d ∈ w, d < 3) : ∀ r, Fine (atRound w r)
  | 0 => Fine.s0
  | r + 1 => (Fine.atRound hw r).run hw
theorem run_take {w : List Nat} {S : Sx} {i d : Nat} (h : w[i]? = some d) : run (w.take (i + 1)) S = stp (run (w.take i) S) d := by
  unfold run
  rw [List.take_add_one, h, Option.toList_some, List.foldl_append]; rfl
theorem run_all {w : List Nat} {S : Sx} : run (w.take w.length) S = run w S := by rw [List.take_length]
theorem app_stp {S : Sx} (h : Fine S) {d : Nat} (hd : d < 3) (l : List Nat) : app (pm d) (app S.I l) = app (stp S d).I l :=
  app_app fun j hj => by rw [h.I12]; exact (pm_len d hd).2 j hj
theorem Twelve.appI {S : Sx} (h : Fine S) {l : List Nat} (t : Twelve l) : Twelve (Mine.app S.I l) := t.app h.I12 h.Ilt
theorem num_digit : ∀ (l : List Nat), (∀ d ∈ l, d < 4) → ∀ k, num l / 4 ^ k % 4 = l.getD k 0
  | [], _, k => by simp [num]
  | a :: l, h, 0 => by
    have := h a (by simp)
    rw [num, Nat.pow_zero, Nat.div_one]
    show _ = a
    omega
  | a :: l, h, k + 1 => by
    have h1 := num_digit l (fun d hd => h d (by simp [hd])) k
    rw [Nat.pow_succ, Nat.mul_comm, ← Nat.div_div_eq_div_mul, num_div (h a (by simp)), h1]; rfl
/-- the first round's sum -/
theorem said_sum {S : Sx} (hf : Fine S) {a b c d : Int} (e : S.f = [a, b, c, d]) (hs : said S = true) {l : List Nat} (t : Twelve l) :
    ((List.range 12).map fun k => ((num l / 4 ^ k % 4 : Nat) : Int) * 4 ^ (gPlace a b c d S.turns k).toNat).sum = ((num (app S.I l) : Nat) : Int) := by
  unfold said at hs
  rw [e] at hs
  dsimp only at hs
  rw [List.all_eq_true] at hs
  rw [num_app l S.I hf.Ilt, ← sum_range]
  have : ((List.range 12).map fun k => ((num l / 4 ^ k % 4 : Nat) : Int) * 4 ^ (gPlace a b c d S.turns k).toNat) = ((List.range 12).map fun k => ((l.getD k 0 * coef S.I k : Nat) : Int)) := by
    refine List.map_congr_left fun k hk => ?_
    have h1 := hs k hk
    simp only [Bool.and_eq_true, beq_iff_eq] at h1
    rw [num_digit l t.lt k, ← h1.2]
    push_cast
    rfl
  rw [this]
  clear this hs
  generalize List.range 12 = ks
  induction ks with
  | nil => rfl
  | cons k ks ih => rw [List.map_cons, List.sum_cons, ih, List.map_cons, List.sum_cons]; push_cast; rfl
theorem said_in {S : Sx} {a b c d : Int} (e : S.f = [a, b, c, d]) (hs : said S = true) {k : Nat} (hk : k < 12) : 0 ≤ gPlace a b c d S.turns k ∧ gPlace a b c d S.turns k < 12 := by
  unfold said at hs
  rw [e] at hs
  dsimp only at hs
  rw [List.all_eq_true] at hs
  have h1 := hs k (List.mem_range.mpr hk)
  simp only [Bool.and_eq_true, decide_eq_true_eq] at h1
  exact h1.1
structure OkW (w : List Nat) : Prop where
  first : ∀ m, m < 4 → said (run (w.take (m + 1)) s0) = true
  on : ∀ r, r < rounds w → r ≠ 0 → home (atRound w r) = false
  off : home (atRound w (rounds w)) = true
  I : (atRound w (rounds w)).I = s0.I
theorem chk_round {w : List Nat} : ∀ (n r : Nat) (S : Sx), S = atRound w r → S.I.length = 12 → r + n = 12 → (∀ k, k ≤ r → k ≠ 0 → home (atRound w k) = false) → chk w n S = true →
    ∃ m, m ≠ 0 ∧ m ≤ 12 ∧ home (atRound w m) = true ∧ (atRound w m).I = s0.I ∧ ∀ k, k < m → k ≠ 0 → home (atRound w k) = false
  | 0, _, _, _, _, _, _, h => nomatch h
  | n + 1, r, S, e, hl, hn, hk, h => by
    have ⟨q1, q2⟩ := runq_eq w hl
    have e1 : run w S = atRound w (r + 1) := by rw [e]; rfl
    unfold chk at h
    rw [q1, e1] at h
    rw [e1] at q2
    cases hh : home (atRound w (r + 1)) with
    | true =>
      rw [hh] at h
      exact ⟨r + 1, by omega, by omega, hh, eq_of_beq h, fun k h1 h2 => hk k (by omega) h2⟩
    | false =>
      rw [hh] at h
      refine chk_round n (r + 1) _ rfl q2 (by omega) (fun k h1 h2 => ?_) h
      by_cases h3 : k = r + 1
      · rw [h3]; exact hh
      · exact hk k (by omega) h2
theorem rounds_is {w : List Nat} {m : Nat} (h0 : m ≠ 0) (h1 : m ≤ 12) (h2 : home (atRound w m) = true) (h3 : ∀ k, k < m → k ≠ 0 → home (atRound w k) = false) : rounds w = m := by
  have hl : m - 1 < ((List.range 13).drop 1).length := by simp; omega
  have at' : ∀ i, (h : i < ((List.range 13).drop 1).length) → ((List.range 13).drop 1)[i] = i + 1 := fun i h => by simp; omega
  have : ((List.range 13).drop 1).findIdx (fun r => home (atRound w r)) = m - 1 := by
    refine (List.findIdx_eq hl).mpr ⟨?_, fun j hj => ?_⟩
    · rw [at' _ hl, show m - 1 + 1 = m by omega]; exact h2
    · rw [at' _ (by omega)]; exact h3 _ (by omega) (by omega)
  unfold rounds
  rw [this]; omega
theorem okW {a b c d : Nat} (ha : a < 3) (hb : b < 3) (hc : c < 3) (hd : d < 3) : OkW [a, b, c, d] := by
  obtain ⟨m, h1, h2, h3, h4, h5⟩ := chk_round (w := [a, b, c, d]) 12 0 s0 rfl rfl rfl (fun k h1 h2 => absurd (Nat.le_zero.mp h1) h2) (chk_all a ha b hb c hc d hd)
  have hr := rounds_is h1 h2 h3 h5
  have r := fun (w : List Nat) => (runq_eq w (S := s0) rfl).1
  refine ⟨fun m hm => ?_, fun r h6 h7 => h5 r (hr ▸ h6) h7, hr ▸ h3, hr ▸ h4⟩
  match m, hm with
  | 0, _ => exact r [a] ▸ said1 a ha
  | 1, _ => exact r [a, b] ▸ said2 a ha b hb
  | 2, _ => exact r [a, b, c] ▸ said3 a ha b hb c hc
  | 3, _ => exact r [a, b, c, d] ▸ said4 a ha b hb c hc d hd
theorem rounds_pos (w : List Nat) : rounds w ≠ 0 := by unfold rounds; omega
end Mine
end
section
open PySem PySem.W PyProof.Rows PySem.Calls
set_option Elab.async false
set_option linter.unusedVariables false
set_option linter.unusedSimpArgs false
set_option maxRecDepth 100000
namespace Mine
theorem cut_bound : ∀ n, n < 64 → ∀ k : Nat, k < 6 → (sliceRange (sliceBounds (some (k : Int)) (some 60) (some 6) n).1 (sliceBounds (some (k : Int)) (some 60) (some 6) n).2.1 (sliceBounds (some (k : Int)) (some 60) (some 6) n).2.2).length ≤ 64 := by decide +kernel
theorem pick_six (f : Nat → Int) : pick ((List.range 6).map f) (some 2) none none = (List.range 4).map fun j => f (j + 2) := by
  unfold pick
  have e : ((List.range 6).map f).length = 6 := by simp
  rw [e]
  have h : sliceRange (sliceBounds (some 2) none none 6).1 (sliceBounds (some 2) none none 6).2.1 (sliceBounds (some 2) none none 6).2.2 = [2, 3, 4, 5] := by decide +kernel
  rw [h]
  simp [List.range, List.range.loop]
theorem cut_len {script : List Int} (h : script.length < 64) {k : Nat} (hk : k < 6) : (cut script k).length ≤ 64 := Nat.le_trans (pick_length _ _ _ _) (cut_bound _ h k hk)
noncomputable def stepsA : AV := .list [.list (il [0, 2, 1, 0]), .list (il [4, 1, 0, 1]), .list (il [4, 0, 0, 1])]
noncomputable def movesA : AV := .list [.list (il [0, 1, 3, 2, 4]), .list (il [1, 0, 4, 3, 2]), .list (il [0, 4, 3, 2, 1])]
noncomputable def lawN (script : List Int) (k : Nat) : Nat := (sixK script k % 16777216).toNat
noncomputable def lawW (script : List Int) : List Nat := (List.range 4).map fun j => (sixK script (j + 2) % 3).toNat
/-- the store at a point of the law: the word, the pair of digit lists, the state, the rounds -/
noncomputable def lawS (w : List Nat) (la lb : List Nat) (S : Sx) (r : Nat) : St :=
  [("numbers", .pure (.list (il [((num la : Nat) : Int), ((num lb : Nat) : Int)]))), ("deeds", .pure (.list (il (w.map fun (d : Nat) => (d : Int))))), ("steps", .pure stepsA), ("moves", .pure movesA),
   ("now", .pure (.list (il [((num (app S.I la) : Nat) : Int), ((num (app S.I lb) : Nat) : Int)]))), ("fraction", .pure (.list (il S.f))), ("five", .pure (.list (il S.five))), ("turns", .pure (.int S.turns)), ("rounds", .pure (.int r))]
theorem toNat_small (z : Int) : (z % 16777216).toNat < 16777216 := by omega
theorem mod_nat (z : Int) {m : Int} (hm : 0 < m) : z % m = ((z % m).toNat : Int) := by
  have := Int.emod_nonneg z (b := m) (by omega)
  omega
theorem app_id {l : List Nat} (h : l.length = 12) : app s0.I l = l := by
  match l, h with
  | [a0, a1, a2, a3, a4, a5, a6, a7, a8, a9, b0, b1], _ => rfl
theorem lawW_lt (script : List Int) : ∀ d ∈ lawW script, d < 3 := by
  intro d hd
  obtain ⟨j, _, rfl⟩ := List.mem_map.mp hd
  omega
theorem lawW_len (script : List Int) : (lawW script).length = 4 := by simp [lawW]
theorem lawW_ok (script : List Int) : OkW (lawW script) := by
  have h := lawW_lt script
  have hl := lawW_len script
  generalize lawW script = w at *
  match w, hl with
  | [a, b, c, d], _ => exact okW (h a (by simp)) (h b (by simp)) (h c (by simp)) (h d (by simp))
theorem il_nat {w : List Nat} {i : Nat} {v : AV} (h : (il (w.map fun (d : Nat) => (d : Int)))[i]? = some v) : ∃ d, w[i]? = some d ∧ v = .int (d : Int) := by
  unfold il at h
  rw [List.getElem?_map, List.getElem?_map] at h
  cases e : w[i]? with
  | none => rw [e] at h; cases h
  | some d => rw [e] at h; exact ⟨d, rfl, (Option.some.inj h).symm⟩
theorem stepsA_at {d : Nat} (hd : d < 3) : ∀ {l : List AV}, stepsA = .list l → l[((d : Nat) : Int).toNat]? = some (.list (il (stepsL.getD d []))) := by
  intro l e
  cases e
  match d, hd with
  | 0, _ => rfl
  | 1, _ => rfl
  | 2, _ => rfl
theorem movesA_at {d : Nat} (hd : d < 3) : ∀ {l : List AV}, movesA = .list l → l[((d : Nat) : Int).toNat]? = some (.list (il (movesL.getD d []))) := by
  intro l e
  cases e
  match d, hd with
  | 0, _ => rfl
  | 1, _ => rfl
  | 2, _ => rfl
noncomputable def pickL (a b : List Nat) (i : Nat) : List Nat := if i = 0 then a else b
theorem pair_itemL {a b : List Nat} {i : Nat} {v : AV} (h : (il [((num a : Nat) : Int), ((num b : Nat) : Int)])[i]? = some v) : i < 2 ∧ v = .int ((num (pickL a b i) : Nat) : Int) := by
  match i, h with
  | 0, h => exact ⟨by decide, (Option.some.inj h).symm⟩
  | 1, h => exact ⟨by decide, (Option.some.inj h).symm⟩
  | i + 2, h => simp [il] at h
theorem small_prod {p a : Int} (hp : 0 ≤ p ∧ p < 5) : p.natAbs < 2 ^ 64 := by omega
theorem il_at {l : List Int} {k : Nat} (h : k < l.length) : (il l)[k]? = some (.int (l.getD k 0)) := by
  unfold il
  rw [List.getElem?_map, List.getElem?_eq_getElem h, List.getD_eq_getElem?_getD, List.getElem?_eq_getElem h]; rfl
section
variable {C : Cx} {dd uu : Nat} {σ τ : St}
set_option maxHeartbeats 8000000 in
theorem law_body (g : Gl pw frees C dd uu) (hdd : dd < 600) (huu : uu < 1000) {C' : Cx} (h : CalleeOf C C' dLaw) (script : List Int) (hlen : script.length < 64) :
    Exs C' ((dLaw.params.args.map (·.arg)).zip (([.list (il script)] : List AV).map .pure)) dLaw.body (.ret (.bool true)) [] := by
  have g' := g.callee h
  have G := g'.G
  have hk := h.kd
  have hu : C'.A.units + 64 < cLine := by have := g'.units; unfold cLine; omega
  have h0 : lawN script 0 < 16777216 := toNat_small _
  have h1 : lawN script 1 < 16777216 := toNat_small _
  refine exs_of rfl (ex_assign G (ev_list (evl_cons ev_int (evl_cons ev_int (evl_cons ev_int (evl_cons ev_int (evl_cons ev_int (evl_cons ev_int evl_nil))))))) (stb_cell hk h.mine rfl) up_upd) ?_
  refine exs_of rfl (ex_assign_compm G [("script", .pure (.list (il script))), ("begins", .pure (.list (il beginsL)))] (fun k => .int (sixK script k)) (comp_scope hk h.mine rfl rfl rfl rfl rfl)
    (ev_call G (g'.builtin (kd_fn hk rfl) rfl (by decide) rfl) .type (evl_cons ev_int evl_nil) (fn_range1 G (by decide) (by decide))) (.range _ _ _ 6 size_one) g'.handled
    (.pure (seen_of hk rfl rfl) (.of rfl) (.pure (seen_of hk rfl rfl) (.of rfl) .nil)) (fun C₂ h₂ k v hv => ?_) (by decide) (r := .list (il (sixL script))) (by simp [sixL, il]) (stb_local hk rfl) up_upd (swaps_true G (kd_fn hk rfl) rfl rfl)) ?_
  · obtain ⟨hk6, rfl⟩ := range_item hv
    have g₂ := g'.comp h₂
    have hk₂ := h₂.kd
    rw [hk] at hk₂
    have hcl := cut_len hlen hk6
    refine EvE.post (τ₁ := [("k", .pure (.int (k : Int))), ("script", .pure (.list (il script))), ("begins", .pure (.list (il beginsL)))]) (ev_bin (ev_sub (ev_name g₂.G (.of rfl)) (ev_name g₂.G (.of rfl)) (get_list (x := .int (beginsL.getD k 0)) (by omega) (by omega) ?_))
      (ev_call g₂.G (g₂.builtin (kd_fn hk₂ rfl) rfl (by decide) rfl) .builtin (evl_cons ((ev_compm g₂.G (xs := il (cut script k)) [] (fun i => .int ((cut script k).getD i 0 % 16777216)) (comp_scope hk₂ h₂.mine rfl rfl rfl rfl rfl)
        (ev_slice (ev_name g₂.G (.of rfl)) (evp_some (ev_name g₂.G (.of rfl))) (evp_some ev_int) (evp_some ev_int) (gets_list (by decide) (by simp [il]; unfold sizeLine; omega))) ?_ g₂.handled .nil (fun C₃ h₃ i v hv => ?_) (by simp [il]; unfold sizeLine; omega)).cast (b := .list (il ((cut script k).map (· % 16777216)))) (congrArg AV.list (il_map_getD (cut script k) (fun x => x % 16777216)))) evl_nil) (fn_sum g₂.handled ?_ (by simp; omega))) op_add)
      (.cons (.of rfl) (.cons (.of rfl) .nil))
    · rw [Int.toNat_natCast]
      unfold il
      rw [List.getElem?_map, List.getElem?_eq_getElem (show k < beginsL.length from hk6), List.getD_eq_getElem?_getD, List.getElem?_eq_getElem (show k < beginsL.length from hk6)]; rfl
    · rw [pick_il]
      exact .list _
    · obtain ⟨_, rfl⟩ := il_item hv
      have g₃ := g₂.comp h₃
      exact EvE.post (ev_bin (ev_name g₃.G (.of rfl)) ev_int (op_mod (by decide))) .nil
    · intro x hx
      obtain ⟨y, _, rfl⟩ := List.mem_map.mp hx
      have := Int.emod_nonneg y (b := 16777216) (by decide)
      have := Int.emod_lt_of_pos y (b := 16777216) (by decide)
      omega
  have hsix : ∀ k, k < 6 → (il (sixL script))[k]? = some (.int (sixK script k)) := fun k hk => by
    unfold il sixL
    rw [List.getElem?_map, List.getElem?_map, List.getElem?_range hk]; rfl
  refine exs_of rfl (ex_assign G ((ev_list (evl_cons (ev_bin (ev_sub (ev_name G (.of rfl)) ev_int (get_list (by decide) (by decide) (hsix 0 (by decide)))) ev_int (op_mod (by decide))) (evl_cons (ev_bin (ev_sub (ev_name G (.of rfl)) ev_int (get_list (by decide) (by decide) (hsix 1 (by decide)))) ev_int (op_mod (by decide))) evl_nil))).cast (b := .list (il [((lawN script 0 : Nat) : Int), ((lawN script 1 : Nat) : Int)])) ?_) (stb_local hk rfl) up_upd) ?_
  · show AV.list [.int (sixK script 0 % 16777216), .int (sixK script 1 % 16777216)] = _
    rw [mod_nat (sixK script 0) (by decide), mod_nat (sixK script 1) (by decide)]; rfl
  refine exs_of rfl (ex_assign_compm G (xs := il ((List.range 4).map fun j => sixK script (j + 2))) [] (fun i => .int (((List.range 4).map fun j => sixK script (j + 2)).getD i 0 % 3)) (comp_scope hk h.mine rfl rfl rfl rfl rfl)
    (ev_slice (ev_name G (.of rfl)) (evp_some ev_int) evp_none evp_none (gets_list (by decide) (by simp [il, sixL]; decide))) ?_ g'.handled .nil (fun C₂ h₂ i v hv => ?_) (by simp [il]; decide) (r := .list (il ((lawW script).map fun (d : Nat) => (d : Int)))) ?_ (stb_local hk rfl) up_upd (swaps_true G (kd_fn hk rfl) rfl rfl)) ?_
  · rw [pick_il]
    have : pick (sixL script) (some 2) none none = (List.range 4).map fun j => sixK script (j + 2) := pick_six (sixK script)
    rw [this]; exact .list _
  · obtain ⟨_, rfl⟩ := il_item hv
    have g₂ := g'.comp h₂
    exact EvE.post (ev_bin (ev_name g₂.G (.of rfl)) ev_int (op_mod (by decide))) .nil
  · refine congrArg AV.list ((il_map_getD ((List.range 4).map fun j => sixK script (j + 2)) (fun x => x % 3)).trans ?_)
    unfold lawW
    rw [List.map_map, List.map_map]
    refine congrArg il (List.map_congr_left fun j _ => ?_)
    exact mod_nat _ (by decide)
  refine exs_pre (σ₁ := [("numbers", .pure (.list (il [((lawN script 0 : Nat) : Int), ((lawN script 1 : Nat) : Int)]))), ("deeds", .pure (.list (il ((lawW script).map fun (d : Nat) => (d : Int)))))]) (.cons (.of rfl) (.cons (.of rfl) .nil)) ?_
  refine exs_of rfl (ex_assign G ((ev_list (evl_cons (ev_list (evl_cons ev_int (evl_cons ev_int (evl_cons ev_int (evl_cons ev_int evl_nil))))) (evl_cons (ev_list (evl_cons ev_int (evl_cons ev_int (evl_cons ev_int (evl_cons ev_int evl_nil))))) (evl_cons (ev_list (evl_cons ev_int (evl_cons ev_int (evl_cons ev_int (evl_cons ev_int evl_nil))))) evl_nil)))).cast (b := stepsA) rfl) (stb_local hk rfl) up_upd) ?_
  refine exs_of rfl (ex_assign G ((ev_list (evl_cons (ev_list (evl_cons ev_int (evl_cons ev_int (evl_cons ev_int (evl_cons ev_int (evl_cons ev_int evl_nil)))))) (evl_cons (ev_list (evl_cons ev_int (evl_cons ev_int (evl_cons ev_int (evl_cons ev_int (evl_cons ev_int evl_nil)))))) (evl_cons (ev_list (evl_cons ev_int (evl_cons ev_int (evl_cons ev_int (evl_cons ev_int (evl_cons ev_int evl_nil)))))) evl_nil)))).cast (b := movesA) rfl) (stb_cell hk h.mine rfl) up_upd) ?_
  refine exs_pre (σ₁ := [("numbers", .pure (.list (il [((lawN script 0 : Nat) : Int), ((lawN script 1 : Nat) : Int)]))), ("deeds", .pure (.list (il ((lawW script).map fun (d : Nat) => (d : Int))))), ("steps", .pure stepsA), ("moves", .pure movesA)]) (.cons (.of rfl) (.cons (.of rfl) (.cons (.of rfl) (.cons (.of rfl) .nil)))) ?_
  refine exs_of rfl (ex_assign G (ev_name G (.of rfl)) (stb_local hk rfl) up_upd) ?_
  refine exs_of rfl (ex_assign G (ev_list (evl_cons ev_int (evl_cons ev_int (evl_cons ev_int (evl_cons ev_int evl_nil))))) (stb_local hk rfl) up_upd) ?_
  refine exs_of rfl (ex_assign G (ev_list (evl_cons ev_int (evl_cons ev_int (evl_cons ev_int (evl_cons ev_int (evl_cons ev_int evl_nil)))))) (stb_local hk rfl) up_upd) ?_
  refine exs_of rfl (ex_assign G ev_int (stb_local hk rfl) up_upd) ?_
  refine exs_of rfl (ex_assign G ev_int (stb_local hk rfl) up_upd) ?_
  have hw3 := lawW_lt script
  have hok := lawW_ok script
  have hwl := lawW_len script
  have la12 : Twelve (places (lawN script 0)) := Twelve.places
  have lb12 : Twelve (places (lawN script 1)) := Twelve.places
  have e0 := num_places h0
  have e1 := num_places h1
  have hA : app s0.I (places (lawN script 0)) = places (lawN script 0) := app_id la12.len
  have hB : app s0.I (places (lawN script 1)) = places (lawN script 1) := app_id lb12.len
  generalize lawW script = w at hw3 hok hwl ⊢
  generalize hla : places (lawN script 0) = la at *
  generalize hlb : places (lawN script 1) = lb at *
  refine exs_pre (σ₁ := lawS w la lb s0 0) ?_ ?_
  · refine .cons_eq (.of rfl) ?_ (.cons (.of rfl) (.cons (.of rfl) (.cons (.of rfl) (.cons_eq (.of rfl) ?_ (.cons_eq (.of rfl) rfl (.cons_eq (.of rfl) rfl (.cons_eq (.of rfl) rfl (.cons_eq (.of rfl) rfl .nil))))))))
    · rw [e0, e1]
    · rw [hA, hB, e0, e1]
  clear hsix h0 h1 e0 e1 hla hlb
  refine exs_of (σ₁ := lawS w la lb (atRound w (rounds w)) (rounds w)) rfl (ex_while (fun i => lawS w la lb (atRound w i) i) (rounds w) (.refl _) (fun i hi => ?_) ?_) ?_
  · have hf := Fine.atRound hw3 i
    refine ⟨_, _, (evt_or3 (evt_cmp (ev_name G (.of rfl)) ev_int cmp_eq) (evt_cmp (ev_name G (.of rfl)) (ev_list (evl_cons ev_int (evl_cons ev_int (evl_cons ev_int (evl_cons ev_int (evl_cons ev_int evl_nil)))))) (cmp_ne_ints (b := idv) hu)) (evt_cmp (ev_bin (ev_name G (.of rfl)) ev_int (op_mod (by decide))) ev_int cmp_eq)).cast ?_,
      exs_of (σ₁ := lawS w la lb (atRound w (i + 1)) i) rfl (ex_for G (fun j => lawS w la lb (run (w.take j) (atRound w i)) i) (ev_name G (.of rfl)) (.list _) g'.handled (stb_cell hk h.mine rfl) (.refl _) (fun j v hv => ?_) ?_)
        (exs_of rfl (ex_assign G (ev_bin (ev_name G (.of rfl)) ev_int op_add) (stb_local hk rfl) up_upd) (exs_done rfl ?_)), .refl _⟩
    · by_cases h0 : i = 0
      · subst h0; rfl
      · have := hok.on i hi h0
        have h0' : ((i : Int) == 0) = false := by simpa using h0
        rw [h0']
        unfold home at this
        by_cases h5 : (atRound w i).five = idv
        · rw [h5] at this
          simp at this
          have : ((atRound w i).turns : Int) % 2 = 1 := by omega
          simp [this]
        · simp [h5]
    · obtain ⟨d, hd, rfl⟩ := il_nat hv
      have hd3 := hw3 d (List.mem_of_getElem? hd)
      have hj4 : j < 4 := by rw [← hwl]; exact (List.getElem?_eq_some_iff.mp hd).1
      have hS : Fine (run (w.take j) (atRound w i)) := hf.run fun e he => hw3 e (List.mem_of_mem_take he)
      have hsaid : i = 0 → said (stp (run (w.take j) (atRound w i)) d) = true := by
        rintro rfl
        rw [← run_take hd]
        exact hok.first j hj4
      have hnext : run (w.take (j + 1)) (atRound w i) = stp (run (w.take j) (atRound w i)) d := run_take hd
      show ∃ σ' τ', _ ∧ _ ∧ Wk τ' (lawS w la lb (run (w.take (j + 1)) (atRound w i)) i)
      rw [hnext]
      show ∃ σ' τ', Up _ _ (lawS w la lb (run (w.take j) (atRound w i)) i) σ' ∧ _ ∧ _
      generalize run (w.take j) (atRound w i) = S at hS hsaid ⊢
      obtain ⟨a, b, c, e, hSf, ha, hb, hc, he⟩ := hS.f
      obtain ⟨p, q, r, s, hst, hp, hq, hr, hs⟩ := steps_at d hd3
      obtain ⟨f0, f1, f2, f3, hf', hf0, hf1, hf2, hf3⟩ := (hS.stp hd3).f
      refine ⟨_, _, up_upd, ?_, .refl _⟩
      refine exs_of rfl (ex_assign G ((ev_turned g' (by omega) (kd_fn hk rfl) (ev_name G (.of rfl)) (ev_name G (.of rfl)) hd3 (la12.appI hS) (lb12.appI hS)).cast (b := .list (il [((num (app (stp S d).I la) : Nat) : Int), ((num (app (stp S d).I lb) : Nat) : Int)])) (by rw [app_stp hS hd3, app_stp hS hd3])) (stb_local hk rfl) up_upd) ?_
      refine exs_of rfl (ex_unpack G (ns := [(_, _), (_, _), (_, _), (_, _)]) (as := [.int p, .int q, .int r, .int s]) (ev_sub (ev_name G (.of rfl)) (ev_name G (.of rfl)) (get_list (by omega) (by omega) (stepsA_at hd3 rfl))) (.inr (by rw [hst]; rfl)) g'.handled rfl rfl ?_ (.cons up_upd (.cons up_upd (.cons up_upd (.cons up_upd .nil))))) ?_
      · intro x hx
        rcases List.mem_cons.mp hx with rfl | hx
        · exact stb_local hk rfl
        rcases List.mem_cons.mp hx with rfl | hx
        · exact stb_local hk rfl
        rcases List.mem_cons.mp hx with rfl | hx
        · exact stb_local hk rfl
        · rw [List.mem_singleton.mp hx]; exact stb_local hk rfl
      refine exs_of rfl (ex_unpack G (ns := [(_, _), (_, _), (_, _), (_, _)]) (as := [.int a, .int b, .int c, .int e]) (ev_name G (.of rfl)) (.inr (by rw [hSf]; rfl)) g'.handled rfl rfl ?_ (.cons up_upd (.cons up_upd (.cons up_upd (.cons up_upd .nil))))) ?_
      · intro x hx
        rcases List.mem_cons.mp hx with rfl | hx
        · exact stb_local hk rfl
        rcases List.mem_cons.mp hx with rfl | hx
        · exact stb_local hk rfl
        rcases List.mem_cons.mp hx with rfl | hx
        · exact stb_local hk rfl
        · rw [List.mem_singleton.mp hx]; exact stb_local hk rfl
      refine exs_of rfl (ex_assign G ((ev_list
          (evl_cons (ev_bin (ev_bin (ev_bin (ev_name G (.of rfl)) (ev_name G (.of rfl)) (op_mul (.inl (by omega)))) (ev_bin (ev_name G (.of rfl)) (ev_name G (.of rfl)) (op_mul (.inl (by omega)))) op_add) ev_int (op_mod (by decide)))
          (evl_cons (ev_bin (ev_bin (ev_bin (ev_name G (.of rfl)) (ev_name G (.of rfl)) (op_mul (.inl (by omega)))) (ev_bin (ev_name G (.of rfl)) (ev_name G (.of rfl)) (op_mul (.inl (by omega)))) op_add) ev_int (op_mod (by decide)))
          (evl_cons (ev_bin (ev_bin (ev_bin (ev_name G (.of rfl)) (ev_name G (.of rfl)) (op_mul (.inl (by omega)))) (ev_bin (ev_name G (.of rfl)) (ev_name G (.of rfl)) (op_mul (.inl (by omega)))) op_add) ev_int (op_mod (by decide)))
          (evl_cons (ev_bin (ev_bin (ev_bin (ev_name G (.of rfl)) (ev_name G (.of rfl)) (op_mul (.inl (by omega)))) (ev_bin (ev_name G (.of rfl)) (ev_name G (.of rfl)) (op_mul (.inl (by omega)))) op_add) ev_int (op_mod (by decide))) evl_nil))))).cast (b := .list (il (stp S d).f)) ?_) (stb_local hk rfl) up_upd) ?_
      · show _ = AV.list (il (fstep (stepsL.getD d []) S.f))
        rw [hst, hSf]; rfl
      refine exs_of rfl (ex_assign_compm G (xs := il S.five) [("moves", .pure movesA), ("deed", .pure (.int d))] (fun k => .int ((movesL.getD d []).getD (S.five.getD k 0).toNat 0)) (comp_scope hk h.mine rfl rfl rfl rfl rfl)
        (ev_name G (.of rfl)) (.list _) g'.handled (.pure (seen_of hk rfl rfl) (.of rfl) (.pure (seen_of hk rfl rfl) (.of rfl) .nil)) (fun C₂ h₂ k v hv => ?_) (by simp [il, hS.five5]; decide) (r := .list (il (stp S d).five)) ?_ (stb_local hk rfl) up_upd (swaps_true G (kd_fn hk rfl) rfl rfl)) ?_
      · obtain ⟨hkl, rfl⟩ := il_item hv
        have g₂ := g'.comp h₂
        have hin : 0 ≤ S.five.getD k 0 ∧ S.five.getD k 0 < 5 := by
          rw [List.getD_eq_getElem?_getD, List.getElem?_eq_getElem hkl]
          exact hS.fiv _ (List.getElem_mem hkl)
        have hmv := moves_in hd3 hin.1 hin.2
        refine EvE.post (ev_sub (ev_sub (ev_name g₂.G (.of rfl)) (ev_name g₂.G (.of rfl)) (get_list (by omega) (by omega) (movesA_at hd3 rfl))) (ev_name g₂.G (.of rfl)) (get_list hin.1 (by omega) ?_)) (.cons (.of rfl) (.cons (.of rfl) .nil))
        exact il_at (List.getElem?_eq_some_iff.mp hmv.1).1
      · exact congrArg AV.list (il_map_getD S.five (fun x => (movesL.getD d []).getD x.toNat 0))
      refine exs_of rfl (ex_assign G ((ev_bin (ev_name G (.of rfl)) (ev_if (c := (d : Int) == 1) (a := .int (if d = 1 then 1 else 0)) (evt_cmp (ev_name G (.of rfl)) ev_int cmp_eq) (fun q => ev_int.cast ?_) (fun q => ev_int.cast ?_)) op_add).cast (b := .int ((stp S d).turns : Nat)) ?_) (stb_local hk rfl) up_upd) ?_
      · have : d = 1 := by have := eq_of_beq q; omega
        rw [if_pos this]
      · have : d ≠ 1 := by rintro rfl; exact absurd q (by decide)
        rw [if_neg this]
      · show AV.int _ = AV.int ((S.turns + if d = 1 then 1 else 0 : Nat) : Int)
        congr 1
        push_cast
        split <;> rfl
      refine exs_pre (σ₁ := lawS w la lb (stp S d) i) (.cons (.of rfl) (.cons (.of rfl) (.cons (.of rfl) (.cons (.of rfl) (.cons (.of rfl) (.cons (.of rfl) (.cons (.of rfl) (.cons (.of rfl) (.cons (.of rfl) .nil))))))))) ?_
      refine exs_of (σ₁ := lawS w la lb (stp S d) i) rfl (ex_if (c := (i : Int) == 0) (evt_cmp (ev_name G (.of rfl)) ev_int cmp_eq) (fun q => ?_) (fun q => ?_)) (exs_done rfl (.refl _))
      · have hsd := hsaid (by simpa using q)
        refine exs_of rfl (ex_assign G (ev_goes g' (by omega) (kd_fn hk rfl) ((ev_name G (.of rfl)).cast (congrArg (fun l => AV.list (il l)) hf')) (ev_name G (.of rfl)) hf0 hf1 hf2 hf3) (stb_cell hk h.mine rfl) up_upd) ?_
        refine exs_of rfl (ex_if (c := false) ((evt_cmp (ev_name G (.of rfl)) ((ev_compm G (xs := il [((num la : Nat) : Int), ((num lb : Nat) : Int)]) [("goes", .pure (.list (il ((List.range 12).map (gPlace f0 f1 f2 f3 (stp S d).turns)))))] (fun m => .int ((num (app (stp S d).I (pickL la lb m)) : Nat) : Int))
          (comp_scope hk h.mine rfl rfl rfl rfl rfl) (ev_name G (.of rfl)) (.list _) g'.handled (.pure (seen_of hk rfl rfl) (.of rfl) .nil) (fun C₂ h₂ m v hv => ?_) (by simp [il]; decide)).cast (b := .list (il [((num (app (stp S d).I la) : Nat) : Int), ((num (app (stp S d).I lb) : Nat) : Int)])) rfl) (cmp_ne_ints hu)).cast ?_) (fun q => nomatch q) (fun _ => exs_done rfl (.refl _))) (exs_done rfl ?_)
        · obtain ⟨hm, rfl⟩ := pair_itemL hv
          have hlm : Twelve (pickL la lb m) := by unfold pickL; split <;> assumption
          have g₂ := g'.comp h₂
          have hk₂ := h₂.kd
          rw [hk] at hk₂
          refine EvE.post (τ₁ := [("number", .pure (.int ((num (pickL la lb m) : Nat) : Int))), ("goes", .pure (.list (il ((List.range 12).map (gPlace f0 f1 f2 f3 (stp S d).turns)))))]) ((ev_call g₂.G (g₂.builtin (kd_fn hk₂ rfl) rfl (by decide) rfl) .builtin (evl_cons ((ev_compm g₂.G [("goes", .pure (.list (il ((List.range 12).map (gPlace f0 f1 f2 f3 (stp S d).turns))))), ("number", .pure (.int ((num (pickL la lb m) : Nat) : Int)))] (fun k => .int (((num (pickL la lb m) / 4 ^ k % 4 : Nat) : Int) * 4 ^ (gPlace f0 f1 f2 f3 (stp S d).turns k).toNat))
            (comp_scope hk₂ h₂.mine rfl rfl rfl rfl rfl) (ev_call g₂.G (g₂.builtin (kd_fn hk₂ rfl) rfl (by decide) rfl) .type (evl_cons ev_int evl_nil) (fn_range1 g₂.G (by decide) (by decide))) (.range _ _ _ 12 size_one) g₂.handled
            (.pure (seen_of hk₂ rfl rfl) (.of rfl) (.pure (seen_of hk₂ rfl rfl) (.of rfl) .nil)) (fun C₃ h₃ k u hu => ?_) (by decide)).cast (b := .list (il ((List.range 12).map fun k => ((num (pickL la lb m) / 4 ^ k % 4 : Nat) : Int) * 4 ^ (gPlace f0 f1 f2 f3 (stp S d).turns k).toNat))) (by simp [il])) evl_nil) (fn_sum g₂.handled ?_ (by simp))).cast (congrArg AV.int (said_sum (hS.stp hd3) hf' hsd hlm))) (.cons (.of rfl) .nil)
          · obtain ⟨hk12, rfl⟩ := range_item hu
            have g₃ := g₂.comp h₃
            have hk₃ := h₃.kd
            rw [hk₂] at hk₃
            have hgp := said_in hf' hsd hk12
            have e4 : (((num (pickL la lb m) : Nat) : Int) / 4 ^ k % 4) = ((num (pickL la lb m) / 4 ^ k % 4 : Nat) : Int) := by push_cast; rfl
            have p4 : (4 : Int) ^ k ≤ 4 ^ 12 := by
              have : (4 : Nat) ^ k ≤ 4 ^ 12 := Nat.pow_le_pow_right (by decide) (by omega)
              exact_mod_cast this
            have p40 : (0 : Int) < 4 ^ k := Int.pow_pos (by decide)
            have hr4 : num (pickL la lb m) / 4 ^ k % 4 < 4 := Nat.mod_lt _ (by decide)
            refine EvE.post (ev_bin (ev_bin (ev_bin (ev_name g₃.G (.of rfl)) ((ev_bin ev_int (ev_name g₃.G (.of rfl)) (op_pow (by omega) (by omega) (by decide))).cast (b := .int (4 ^ k)) (by rw [Int.toNat_natCast])) (op_fdiv p40 (by omega))) ev_int (op_mod (by decide)))
              (ev_bin ev_int (ev_sub (ev_name g₃.G (.of rfl)) (ev_name g₃.G (.of rfl)) (get_list (x := .int (gPlace f0 f1 f2 f3 (stp S d).turns k)) (by omega) (by omega) ?_)) (op_pow hgp.1 (by omega) (by decide))) ((op_mul (.inl ?_)).cast ?_)) (.cons (.of rfl) (.cons (.of rfl) .nil))
            · rw [Int.toNat_natCast]
              unfold il
              rw [List.getElem?_map, List.getElem?_map, List.getElem?_range hk12]; rfl
            · rw [e4]; omega
            · rw [e4]
          · intro x hx
            obtain ⟨k, hk6, rfl⟩ := List.mem_map.mp hx
            have hgp := said_in hf' hsd (List.mem_range.mp hk6)
            have hr4 : num (pickL la lb m) / 4 ^ k % 4 < 4 := Nat.mod_lt _ (by decide)
            have p4 : (4 : Int) ^ (gPlace f0 f1 f2 f3 (stp S d).turns k).toNat ≤ 4 ^ 12 := by
              have : (4 : Nat) ^ (gPlace f0 f1 f2 f3 (stp S d).turns k).toNat ≤ 4 ^ 12 := Nat.pow_le_pow_right (by decide) (by omega)
              exact_mod_cast this
            have p40 : (0 : Int) ≤ 4 ^ (gPlace f0 f1 f2 f3 (stp S d).turns k).toNat := Int.pow_nonneg (by decide)
            refine ⟨Int.mul_nonneg (by omega) p40, ?_⟩
            calc ((num (pickL la lb m) / 4 ^ k % 4 : Nat) : Int) * 4 ^ (gPlace f0 f1 f2 f3 (stp S d).turns k).toNat ≤ 4 * 4 ^ 12 := Int.mul_le_mul (by omega) p4 p40 (by decide)
              _ ≤ 2 ^ 40 := by decide
        · simp
        · exact .cons (.of rfl) (.cons (.of rfl) (.cons (.of rfl) (.cons (.of rfl) (.cons (.of rfl) (.cons (.of rfl) (.cons (.of rfl) (.cons (.of rfl) (.cons (.of rfl) .nil))))))))
      · exact exs_done rfl (.refl _)
    · refine .eq ?_
      show lawS w la lb (run (w.take (il _).length) (atRound w i)) i = _
      have : (il (w.map fun (d : Nat) => (d : Int))).length = w.length := by simp [il]
      rw [this, run_all]; rfl
    · exact .cons (.of rfl) (.cons (.of rfl) (.cons (.of rfl) (.cons (.of rfl) (.cons (.of rfl) (.cons (.of rfl) (.cons (.of rfl) (.cons (.of rfl) (.cons_eq (.of rfl) (by push_cast; rfl) .nil))))))))
  · refine (evt_or3 (evt_cmp (ev_name G (.of rfl)) ev_int cmp_eq) (evt_cmp (ev_name G (.of rfl)) (ev_list (evl_cons ev_int (evl_cons ev_int (evl_cons ev_int (evl_cons ev_int (evl_cons ev_int evl_nil)))))) (cmp_ne_ints (b := idv) hu)) (evt_cmp (ev_bin (ev_name G (.of rfl)) ev_int (op_mod (by decide))) ev_int cmp_eq)).cast ?_
    have h0 := rounds_pos w
    have h1 := hok.off
    unfold home at h1
    simp at h1
    have h0' : ((rounds w : Int) == 0) = false := by simpa using h0
    have : ((atRound w (rounds w)).turns : Int) % 2 = 0 := by omega
    rw [h0', h1.1, this]; simp
  · refine exs_ret_of rfl ((ev_cmp (ev_name G (.of rfl)) (ev_name G (.of rfl)) (cmp_eq_ints hu)).cast (congrArg AV.bool ?_))
    rw [hok.I, hA, hB]
    simp
end
end Mine
end
section
open PySem PySem.W PyProof.Rows PySem.Calls
set_option Elab.async false
namespace Mine
theorem law02_fn {C : Cx} {dd uu : Nat} (g : Gl pw frees C dd uu) (hdd : dd < 600) (huu : uu < 1000) {a : Addr} (ha : C.mg "law" = some (.ref a)) (ns : List Int) (hns : ns.length < 64) : Fn C (.ref a) [.list (il ns)] (.bool true) := by
  obtain ⟨a', e, hf⟩ := g.funs _ mem_law
  have e' : C.mg "law" = some (.ref a') := e
  rw [ha] at e'
  cases e'
  refine fn_user g.G hf (by have := g.depth; unfold recursionLimit; omega) (fun C' h => ⟨[], law_body g hdd huu h ns hns⟩) ?_
  intro pm code doc vs hvs
  match vs, hvs with
  | [v], _ => rfl
set_option maxRecDepth 100000 in
set_option maxHeartbeats 8000000 in
theorem walk02 {q : Program} {loose : List Str} {XP : (Str → Option Value) → Heap → Prop} {YP : World → Heap → Prop} {d : DefRec} {kwd : List (Str × PySem.Expr)} (hq : recsOf q = recsOf pw) (hd : d.name = "law")
    (hfr : ∀ x ∈ frees, x ∉ startupNames ∧ x ∉ looseW q loose ∧ x ∉ (recsOf q).map (·.name) ∧ x ∉ (litsOf q).map (·.1) ∧ x ∉ (clssOf q (looseW q loose)).map (·.name)) :
    WalkT q loose XP YP PySem.Challenge.rw_wn0003_02.row.toRowW d kwd := by
  intro w s₀ s₁ mg mb G Y fa o pm cd doc dV kV ho hdo hcd hmg hg args vals as hpre hlay hrd hwl hlo
  have T := G.T
  have gl := topGl (p := pw) (w := w) T hq hfr
  rw [hd] at hmg
  clear hdo hcd ho Y G
  wrow_args hpre hlay hrd hwl hlo
  rename_i ns _ _ _ _ _ _ _ _ us _ hL _ hW _ hI _ hlen _
  exact law_end (l := PySem.Challenge.rw_wn0003_02) (law02_fn gl (by decide) (by decide) hmg ns (by omega)) hg hL hI hW
end Mine
end
open PySem PySem.W PyProof.Rows PySem.Calls
set_option Elab.async false
namespace Mine
set_option maxRecDepth 100000 in
set_option maxHeartbeats 8000000 in
theorem hd02 : PySem.Challenge.rw_wn0003_02.Holds := by
  w_on
  o_law
  o_head Hook.none
  (case hw => w_witness2)
  exact walk02 rfl rfl (by decide +kernel)
end Mine
theorem PySem.Challenge.cw_wn0003_02_holds : PySem.Challenge.rw_wn0003_02.Holds :=
  Mine.hd02

