import PyProof.Rows.All
import Wide.All
import OpenK.AllK
import KE.KEqDat
import Wide.FinOn
import Lean
import PySem.Challenge.RW_om0102_01
open PySem PySem.W PySem.Spec PySem.Calls PyProof.Rows
set_option Elab.async false
set_option maxRecDepth 100000
set_option maxHeartbeats 8000000
set_option compiler.extract_closed false
set_option linter.all false
namespace Mine
section -- MC
open Sem (wp)
noncomputable def badId (id : String) : Bool := id == "bytearray.__contains__" || id == "bytearray.__mod__" || id == "bytearray.__rmod__" || id == "_struct.pack_into.held" || id == "bytearray.find.held" || Builtin.Bytes.decodersThatHold.contains id
noncomputable def okc : Code → Bool
  | .builtin id _ => !badId id
  | _ => true
/-- no code on the stack holds a bytearray -/
noncomputable def Clean (Γ : PySem.Ctx) : Prop := okc Γ.code = true ∧ ∀ x ∈ Γ.below, okc x.1 = true
theorem Clean.enter {Γ : PySem.Ctx} (h : Clean Γ) {c : Code} {hd : Option Value} {p : Pos} (hc : okc c = true) : Clean (Γ.enter c hd p) :=
  ⟨hc, fun x hx => by
    rcases List.mem_cons.mp hx with rfl | hx
    · exact h.1
    · exact h.2 x hx⟩
noncomputable def wpC {α : Type} (M : Model) (A : Around) (t : Sem α) (Q : α → Shared → Prop) (E : Value → Shared → Prop) (s : Shared) : Prop :=
  ∀ Γ p, Γ.In A → Clean Γ → wp M Γ t (fun a _ s' => Q a s') (fun e _ s' => E e s') p s
noncomputable def codeC (M : Model) (A : Around) (c : Code) (R : Result → Shared → Prop) (s : Shared) : Prop :=
  ∀ Γ p, Γ.code = c → Γ.Below A → Clean Γ → wpCode M Γ R p s
section
variable {α β : Type} {M : Model} {A : Around} {E : Value → Shared → Prop} {s : Shared}
theorem wpC_of_any {t : Sem α} {Q : α → Shared → Prop} (h : wpAny M A t Q E s) : wpC M A t Q E s := fun Γ p hΓ _ => h Γ p hΓ
theorem codeC_of_any {c : Code} {R : Result → Shared → Prop} (h : codeAny M A c R s) : codeC M A c R s := fun Γ p hc hΓ _ => h Γ p hc hΓ
theorem wpC_pure {a : α} {Q : α → Shared → Prop} (h : Q a s) : wpC M A (pure a) Q E s := fun _ _ _ _ => h
theorem wpC_mono {t : Sem α} {Q Q' : α → Shared → Prop} {E' : Value → Shared → Prop} (h : wpC M A t Q E s)
    (hQ : ∀ a s, Q a s → Q' a s) (hE : ∀ e s, E e s → E' e s) : wpC M A t Q' E' s :=
  fun Γ p hΓ hC => Sem.wp_mono M Γ t (fun a _ s => hQ a s) (fun e _ s => hE e s) p s (h Γ p hΓ hC)
theorem wpC_bind {m : Sem α} {f : α → Sem β} {Q : β → Shared → Prop} (h : wpC M A m (fun a s' => wpC M A (f a) Q E s') E s) :
    wpC M A (m >>= f) Q E s := fun Γ p hΓ hC => by
  rw [Sem.wp_bind']
  exact Sem.wp_mono M Γ m (fun a p' s' h' => h' Γ p' hΓ hC) (fun _ _ _ h' => h') p s (h Γ p hΓ hC)
theorem wpC_bindA {m : Sem α} {f : α → Sem β} {Q : β → Shared → Prop} (h : wpAny M A m (fun a s' => wpC M A (f a) Q E s') E s) :
    wpC M A (m >>= f) Q E s := wpC_bind (wpC_of_any h)
theorem wpC_onRaise {m : Sem α} {k : Value → Sem Unit} {Q : α → Shared → Prop}
    (h : wpC M A m Q (fun e s' => wpC M A (k e) (fun _ s'' => E e s'') E s') s) : wpC M A (m.onRaise k) Q E s := fun Γ p hΓ hC => by
  rw [Sem.wp_onRaise]
  exact Sem.wp_mono M Γ m (fun _ _ _ h' => h') (fun e p' s' h' => h' Γ p' hΓ hC) p s (h Γ p hΓ hC)
theorem wpC_tryCatch {m : Sem α} {k : Value → Sem α} {Q : α → Shared → Prop} (h : wpC M A m Q (fun e s' => wpC M A (k e) Q E s') s) :
    wpC M A (tryCatch m k) Q E s := fun Γ p hΓ hC => by
  rw [Sem.wp_tryCatch']
  exact Sem.wp_mono M Γ m (fun _ _ _ h' => h') (fun e p' s' h' => h' Γ p' hΓ hC) p s (h Γ p hΓ hC)
theorem wpC_holding {vs : List Value} {m : Sem α} {Q : α → Shared → Prop} (h : wpC M A m Q E s) : wpC M A (holding vs m) Q E s :=
  fun Γ p hΓ hC => by rw [Sem.wp_holding]; exact h Γ p hΓ hC
theorem wpC_keep {vs : List Value} {m : Sem α} {Q : α → Shared → Prop} (h : wpC M A m Q E s) : wpC M A (m.keep vs) Q E s :=
  fun Γ p hΓ hC => by rw [Sem.wp_keep]; exact h Γ p hΓ hC
theorem wpC_operate {vs : List Value} {m : Sem Value} {Q : Value → Shared → Prop} (h : wpC M A m Q E s) : wpC M A (operate vs m) Q E s :=
  fun Γ p hΓ hC => by rw [Sem.wp_operate]; exact h Γ p hΓ hC
theorem wpC_in1 {t : Sem α} {Q : α → Shared → Prop} (h : wpC M A.in1 t Q E s) : wpC M A t Q E s :=
  fun Γ p hΓ hC => h Γ p ⟨hΓ.1, hΓ.2.1, hΓ.2.2.1, hΓ.2.2.2.1, Nat.le_succ_of_le hΓ.2.2.2.2⟩ hC
theorem wpC_of_eq {t t' : Sem α} {Q : α → Shared → Prop} (e : t = t') (h : wpC M A t' Q E s) : wpC M A t Q E s := e ▸ h
theorem wpC_stackAny {f : Code × Pos → Bool} {Q : Bool → Shared → Prop} (hf : ∀ c p, okc c = true → f (c, p) = false) (h : Q false s) :
    wpC M A (do return (← stack).any f) Q E s := fun Γ p hΓ hC => by
  show Q (((Γ.code, p) :: Γ.below).any f) s
  have : ((Γ.code, p) :: Γ.below).any f = false := by
    rw [List.any_eq_false]
    intro x hx
    rw [Bool.not_eq_true]
    rcases List.mem_cons.mp hx with rfl | hx
    · exact hf _ _ hC.1
    · exact hf x.1 x.2 (hC.2 x hx)
  rw [this]; exact h
theorem codeC_mono {c : Code} {R R' : Result → Shared → Prop} (h : codeC M A c R s) (hR : ∀ r s, R r s → R' r s) : codeC M A c R' s :=
  fun Γ p hc hΓ hC => wpCode_mono hR (h Γ p hc hΓ hC)
theorem wpC_runValue {c : Code} {Q : Value → Shared → Prop} (hok : okc c = true)
    (hc : codeC M A c (fun r s' => match r with | .ok (.ret v) => Q v s' | .ok _ => False | .error e => E e s') s) :
    wpC M A (runValue c) Q E s := fun Γ p hΓ hC => by rw [Sem.wp_runValue]; exact hc _ p rfl (hΓ.enter c none p (by intro x; cases x)) (hC.enter hok)
theorem wpC_call {f : Value} {pos : List Value} {kw : List (Str × Value)} {Q : Value → Shared → Prop}
    (hc : codeC M A (.call f ⟨pos, kw⟩) (fun r s' => match r with | .ok (.ret v) => Q v s' | .ok _ => False | .error e => E e s') s) :
    wpC M A (call f pos kw) Q E s := wpC_runValue rfl hc
theorem wpC_run {c : Code} {h : Option Value} {Q : Flow → Shared → Prop} (hok : okc c = true)
    (hc : codeC M (A.mark h) c (fun r s' => match r with | .ok f => Q f s' | .error e => E e s') s) (hnb : h ≠ some byPass := by intro x; cases x) :
    wpC M A (run c h) Q E s :=
  fun Γ p hΓ hC => by rw [Sem.wp_run]; exact hc _ p rfl (hΓ.enter c h p hnb) (hC.enter hok)
theorem codeC_of_tree {c : Code} {R : Result → Shared → Prop}
    (h : wpC M (A.under c) (M.den c) (fun fin s' => match fin with | .done f => R (.ok f) s' | .again c' => c'.quiet = true ∧ okc c' = true ∧ codeC M A c' R s')
      (fun e s' => R (.error e) s') s) : codeC M A c R s := fun Γ p hc hΓ hC => by
  rw [wpCode_iff_wp, hc]
  refine Sem.wp_mono M Γ _ (fun fin p' s' h' => ?_) (fun _ _ _ h' => h') p s (h Γ p (hc ▸ hΓ.in) hC)
  cases fin with
  | done f => exact h'
  | again c' => exact ⟨h'.1, h'.2.2 (Γ.goto c') p' rfl (hΓ.goto c') ⟨h'.2.1, hC.2⟩⟩
end
section
variable {prog : Program} {w : World} {A : Around} {s : Shared} {R : Result → Shared → Prop} {E : Value → Shared → Prop}
theorem codeC_func {body env}
    (h : wpC (model prog w) (A.deeper env) (execs body env) (fun f s' => R (.ok (.ret (match f with | .ret v => v | _ => .none))) s') (fun _ _ => False) s) :
    codeC (model prog w) A (.func body env) R s := by
  refine codeC_of_tree ?_
  show wpC _ (A.deeper env) (do point; match ← (execs body env).onRaise (leaving env) with | .ret v => ret v | _ => ret .none) _ _ s
  refine wpC_bindA (wpAny_point (wpC_bind (wpC_onRaise (wpC_mono h (fun f s' h' => ?_) fun _ _ h' => h'.elim))))
  cases f <;> exact wpC_pure h'
theorem codeC_call_function {a : Addr} {args : Args} {o : Obj} {fd : FuncData} {body : List Stmt} (hroom : A.depth < recursionLimit)
    (ho : s.heap.get? a = some o)
    (hd' : o.data = .func fd) (hco : fd.scope.isCoroutine = false) (hgen : fd.scope.isGenerator = false) (hbody : fd.body = .stmts body) (hcd : s.heap.CodeRec fd.code fd.qualname)
    (h : wpAny (model prog w) A.in1 (bindArgs fd args) (fun binds s₁ =>
      wpAny (model prog w) A.in1 (newFunctionEnv fd.scope fd.globals fd.closure binds (fd.qualname ++ ".<locals>.") (some a) fd.code none fd.builtins)
        (fun env s₂ => s₂.heap.NoLimit ∧ codeC (model prog w) A (.func body env) R s₂) (fun e s' => R (.error e) s') s₁) (fun e s' => R (.error e) s') s) :
    codeC (model prog w) A (.call (.ref a) args) R s := by
  refine codeC_of_tree ?_
  show wpC _ A.in1 (callAny (.ref a) args) _ _ s
  simp only [callAny]
  refine wpC_bindA (wpAny_load ho ?_)
  obtain ⟨c, oc, vs, tq, hc, hoc, hdc, hq⟩ := hcd
  simp only [hd', callFunction, hco, hgen, hbody, hc]
  rw [hc] at h
  refine wpC_bindA (m := field (.ref c) 1) (wpAny_field hoc hdc hq (wpC_bindA (wpAny_pure ?_)))
  exact wpC_bindA (wpAny_mono h (fun binds s₁ h₁ => wpC_bindA (wpAny_mono h₁ (fun env s₂ h₂ => wpC_bindA (wpAny_enterFrame h₂.1 hroom
    (wpC_pure (And.intro rfl (And.intro rfl h₂.2))))) fun _ _ h' => h')) fun _ _ h' => h')
theorem codeC_builtin {id : String} {args : Args} {b : Builtin} (hb : entryFor table id = some b)
    (h : wpC (model prog w) (A.under (.builtin id args)) (b args)
      (fun fin s' => match fin with | .done f => R (.ok f) s' | .again c' => c'.quiet = true ∧ okc c' = true ∧ codeC (model prog w) A c' R s') (fun e s' => R (.error e) s') s) :
    codeC (model prog w) A (.builtin id args) R s := by
  refine codeC_of_tree ?_
  show wpC _ _ (match entryFor table id with | some b => b args | none => unsupported ((withoutEnding? id "#data").getD id)) _ _ s
  rw [hb]; exact h
theorem codeC_call_builtin {id : String} {args : Args} {b : Builtin} (hq : plainId id = true) (hok : okc (.builtin id args) = true) (hb : entryFor table id = some b)
    (h : wpAny (model prog w) A.in1 (checkBuiltinCall id args) (fun _ s₁ => wpC (model prog w) A.in1 (b args)
      (fun fin s' => match fin with | .done f => R (.ok f) s' | .again c' => c'.quiet = true ∧ okc c' = true ∧ codeC (model prog w) A c' R s') (fun e s' => R (.error e) s') s₁)
      (fun e s' => R (.error e) s') s) : codeC (model prog w) A (.call (.builtin id) args) R s := by
  refine codeC_of_tree ?_
  show wpC _ A.in1 (do checkBuiltinCall id args; again (.builtin id args)) _ _ s
  refine wpC_bindA (wpAny_mono h (fun _ s₁ h₁ => wpC_pure (And.intro (plainId_quiet hq args) (And.intro hok (codeC_builtin hb ?_)))) fun _ _ h' => h')
  rw [Around.under_plainId hq args]; exact h₁
theorem wpC_execs_cons {M : Model} {env : Env} {st rest} {Q : Flow → Shared → Prop}
    (h : wpC M A (exec st env) (fun f s' => match f with | .next => wpC M A (execs rest env) Q E s' | f => Q f s') E s) :
    wpC M A (execs (st :: rest) env) Q E s := fun Γ p hΓ hC => by
  rw [execs_cons, Sem.wp_bind']
  refine Sem.wp_mono M Γ _ (fun f p' s' h' => ?_) (fun _ _ _ h' => h') _ _ (h Γ p hΓ hC)
  cases f <;> first | exact h' Γ p' hΓ hC | exact h'
theorem callWithC_function {M : Model} {pos : Pos} {a : Addr} {o : Obj} {fd : FuncData} {first : List Value} {args : List (Bool × Sem Value)} {Q : Value → Shared → Prop} (hs : args.any (·.1) = false) (hn : args.length ≤ 30)
    (h : wpC M A (evalArgs (.ref a) true args []) (fun x s₁ => (s₁.heap.get? a = some o ∧ o.data = .func fd) ∧ wpC M A (call (.ref a) (first ++ x.pos) x.kw) Q E s₁) E s) :
    wpC M A (callWith pos (.ref a) first args []) Q E s := by
  unfold callWith
  refine wpC_bind (wpC_holding (wpC_mono h (fun x s₁ h₁ => wpC_bindA (wpAny_standAt ?_)) fun _ _ x => x))
  have tail : ∀ {t : Sem Value}, wpC M A t Q E s₁ → wpC M A (t >>= fun r => holding [r] point >>= fun _ => pure r) Q E s₁ :=
    fun ht => wpC_bind (wpC_mono ht (fun r s₂ hr => wpC_bind (wpC_holding (wpC_of_any (wpAny_point (wpC_pure hr))))) fun _ _ x => x)
  have hs' : (args.any (·.1) || ([] : List (Option Str × Sem Value)).any (·.1.isNone)) = false := by simp [hs]
  rw [hs']
  refine wpC_bindA (m := keeperOf (.ref a)) ?_
  unfold keeperOf
  refine wpAny_bind (wpAny_load h₁.1.1 ?_)
  rw [h₁.1.2]
  refine wpAny_pure ?_
  dsimp only
  rw [if_neg (by simp; omega)]
  exact tail (by unfold callMarked; exact wpC_keep h₁.2)
theorem callWithC_type {M : Model} {pos : Pos} {T : String} {args : List (Bool × Sem Value)} {Q : Value → Shared → Prop} (hs : args.any (·.1) = false)
    (h : wpC M A (evalArgs (.type T) true args []) (fun x s₁ => wpC M A (call (.type T) x.pos x.kw) Q E s₁) E s) :
    wpC M A (callWith pos (.type T) [] args []) Q E s := by
  unfold callWith
  refine wpC_bind (wpC_holding (wpC_mono h (fun x s₁ h₁ => wpC_bindA (wpAny_standAt ?_)) fun _ _ x => x))
  have hs' : (args.any (·.1) || ([] : List (Option Str × Sem Value)).any (·.1.isNone)) = false := by simp [hs]
  rw [hs']
  refine wpC_bindA (m := keeperOf (.type T)) (wpAny_pure ?_)
  dsimp only
  exact wpC_bind (wpC_mono h₁ (fun r s₂ hr => wpC_bind (wpC_holding (wpC_of_any (wpAny_point (wpC_pure hr))))) fun _ _ x => x)
theorem splicedC_nil {M : Model} {Q : List Value → Shared → Prop} (h : Q [] s) : wpC M A (spliced []) Q E s := wpC_pure h
theorem splicedC_cons {M : Model} {x : Sem Value} {rest : List (Bool × Sem Value)} {Q : List Value → Shared → Prop}
    (h : wpC M A x (fun v s₁ => wpC M A (spliced rest) (fun vs s₂ => Q (v :: vs) s₂) E s₁) E s) : wpC M A (spliced ((false, x) :: rest)) Q E s := by
  rw [spliced]
  exact wpC_bind (wpC_mono h (fun v s₁ h₁ => wpC_bind (wpC_pure (wpC_bind (wpC_holding (wpC_mono h₁ (fun vs s₂ h₂ => wpC_pure h₂) fun _ _ x => x))))) fun _ _ x => x)
theorem evalArgsC {M : Model} {f : Value} {x : Sem Value} {rest : List (Bool × Sem Value)} {Q : Args → Shared → Prop}
    (h : wpC M A (spliced ((false, x) :: rest)) (fun vs s₁ => Q ⟨vs, []⟩ s₁) E s) : wpC M A (evalArgs f true ((false, x) :: rest) []) Q E s := by
  unfold evalArgs
  show wpC M A (spliced ((false, x) :: rest) >>= _) Q E s
  refine wpC_bind (wpC_mono h (fun vs s₁ h₁ => ?_) fun _ _ x => x)
  refine wpC_holding ?_
  simp only [List.all_nil, if_true]
  exact wpC_bind (wpC_pure (wpC_bind (wpC_pure (wpC_pure h₁))))
theorem wpC_Call_Name {M : Model} {env : Env} {id : Str} {p pos : Pos} {args : List Expr} {Q : Value → Shared → Prop}
    (h : wpC M A (eval (.Name id p) env) (fun f s₁ => wpC M A (callWith pos f [] (backTo pos (starEach args env)) []) Q E s₁) E s) :
    wpC M A (eval (.Call (.Name id p) args [] pos) env) Q E s := by
  show wpC M A (do callWith pos (← eval (.Name id p) env) [] (backTo pos (starEach args env)) (backToKw pos (keywordEach [] env))) Q E s
  exact wpC_bind h
theorem wpC_Assign_Name {M : Model} {env : Env} {x : Str} {pos' pos : Pos} {value : Expr} {Q : Flow → Shared → Prop} (hs : swapsWith value (some (.Name x pos')) pos.line env = pure false)
    (h : wpC M A (eval value env) (fun v s₁ => wpAny M A (storeName env x v) (fun _ s₂ => Q .next s₂) E s₁) E s) : wpC M A (exec (.Assign [.Name x pos'] value pos) env) Q E s := by
  rw [exec_Assign_Name env x pos' value pos hs]
  refine wpC_bindA (wpAny_standAt (wpC_bind (wpC_mono h (fun v s₁ h₁ => wpC_bindA (wpAny_standAt (wpC_bindA (wpAny_bindName (wpAny_mono h₁ (fun _ s₂ h₂ => wpC_pure h₂) fun _ _ x => x))))) fun _ _ x => x)))
theorem wpC_Return {M : Model} {env : Env} {e : Expr} {pos : Pos} {Q : Flow → Shared → Prop} (h : wpC M A (eval e env) (fun v s₁ => Q (.ret v) s₁) E s) : wpC M A (exec (.Return (some e) pos) env) Q E s := by
  rw [exec_Return_some]
  exact wpC_bindA (wpAny_standAt (wpC_bind (wpC_mono h (fun v s₁ h₁ => wpC_pure h₁) fun _ _ x => x)))
theorem ifC_false {α : Type} {M : Model} {c : Bool} {a b : Sem α} {Q : α → Shared → Prop} (hc : c = false) (h : wpC M A b Q E s) : wpC M A (if c = true then a else b) Q E s := by
  subst hc
  exact h
theorem ifC_true {α : Type} {M : Model} {c : Bool} {a b : Sem α} {Q : α → Shared → Prop} (hc : c = true) (h : wpC M A a Q E s) : wpC M A (if c = true then a else b) Q E s := by
  subst hc
  exact h
/-- a call of a builtin type -/
theorem callType_C {T newId initId : String} {Bi : Builtin} {args : List Value} {Q Q₁ : Value → Shared → Prop} (ft : TypeCalled T newId initId)
    (hct : checkTypeCall T ⟨args, []⟩ = pure ()) (entryI : entryFor table initId = some Bi) (hoki : ∀ a, okc (.builtin initId a) = true)
    (hnew : codeAny (model prog w) A.in1 (.call (.builtin newId) ⟨.type T :: args, []⟩) (wants Q₁ E) s)
    (hnext : ∀ obj s₁, Q₁ obj s₁ → s₁.TypeIs obj T ∧ argsOk initId ⟨obj :: args, []⟩ ∧
      wpC (model prog w) A.in1.in1 (Bi ⟨obj :: args, []⟩) (fun fin s' => fin = .done (.ret .none) ∧ Q obj s') E s₁) :
    wpC (model prog w) A (call (.type T) args) Q E s := by
  obtain ⟨c, tl, hmro⟩ := ft.mro
  refine wpC_call (codeC_of_tree ?_)
  show wpC _ _ (callAny (.type T) _) _ _ _
  refine wpC_pure ⟨Code.quiet_builtin _ (by decide +kernel), (by show (!badId "type.__call__") = true; decide +kernel), codeC_builtin PySem.F.entry_type_call ?_⟩
  rw [Around.under_plain (weight_type_call_type T args []) rfl]
  unfold Builtin.«type.__call__»
  dsimp only
  rw [ft.notType]
  simp only [Bool.false_eq_true, if_false]
  refine ifC_false ft.canCreate ?_
  refine wpC_bindA (wpAny_of_eq hct ?_)
  refine wpC_bindA (wpAny_of_eq hmro ?_)
  refine ifC_false rfl ?_
  refine wpC_bindA (wpAny_of_eq ft.made ?_)
  refine wpC_bindA (wpAny_pure ?_)
  refine wpC_bindA (wpAny_holding (wpAny_call (codeAny_mono hnew fun r s₁ hr => ?_)))
  cases r with
  | error e => exact hr
  | ok fl =>
    cases fl with
    | ret obj =>
      obtain ⟨hT, hok, hsi⟩ := hnext _ _ hr
      dsimp only
      refine wpC_bindA (wpAny_isInstance hT ft.sub ?_)
      refine ifC_false rfl ?_
      refine wpC_bind (wpC_holding ?_)
      unfold callSpecial?
      refine wpC_bindA (wpAny_specialOf hT ft.init.lookup ?_)
      dsimp only
      refine wpC_holding (wpC_bindA (wpAny_of_eq (ft.init.bind obj) ?_))
      refine wpC_bind (wpC_call (codeC_call_builtin ft.init.plain (hoki _) entryI (ft.init.check _ _ _ _ _ _ _ _ hT hok (wpC_mono hsi (fun fin s₂ h₂ => ?_) fun _ _ x => x))))
      obtain ⟨rfl, hq⟩ := h₂
      exact wpC_pure (ifC_false rfl (wpC_pure hq))
    | _ => exact hr.elim
end
end -- MC
section -- MA0
section
variable {α : Type} {x : α} {a b l m r : List α}
theorem fa_nil : ∀ p ∈ ([] : List α), p ∈ l := fun _ h => nomatch h
theorem fa_cons (hx : x ∈ l) (h : ∀ p ∈ r, p ∈ l) : ∀ p ∈ x :: r, p ∈ l := fun p hp => by
  cases hp with
  | head => exact hx
  | tail _ hp => exact h p hp
theorem fa_app (ha : ∀ p ∈ a, p ∈ l) (hb : ∀ p ∈ b, p ∈ l) : ∀ p ∈ a ++ b, p ∈ l := fun p hp => (List.mem_append.mp hp).elim (ha p) (hb p)
theorem mh : x ∈ x :: l := List.mem_cons_self
theorem mt {y : α} (h : x ∈ l) : x ∈ y :: l := List.mem_cons_of_mem _ h
theorem memIn {y : α} (h : ∀ p ∈ a, p ∈ l) (hy : y ∈ a) : y ∈ l := h y hy
theorem sb_refl : ∀ p ∈ l, p ∈ l := fun _ h => h
theorem sb_cons (h : ∀ p ∈ a, p ∈ l) : ∀ p ∈ a, p ∈ x :: l := fun p hp => .tail _ (h p hp)
theorem sb_left (h : ∀ p ∈ a, p ∈ l) : ∀ p ∈ a, p ∈ l ++ m := fun p hp => List.mem_append_left _ (h p hp)
theorem sb_right (h : ∀ p ∈ a, p ∈ m) : ∀ p ∈ a, p ∈ l ++ m := fun p hp => List.mem_append_right _ (h p hp)
end
/-- the goal as a name -/
theorem byProp {G : Prop} (k : ∀ P : Prop, (G → P) → P) : G := k G id
end -- MA0
local macro_rules | `(tactic| top_raise0) => `(tactic| first | with_reducible exact mh | ((with_reducible refine mt ?_); top_raise0) | ((with_reducible refine List.mem_append_left _ ?_); top_raise0) | ((with_reducible refine List.mem_append_right _ ?_); top_raise0) | with_reducible assumption | exact mh)
local macro_rules | `(tactic| top_name) => `(tactic| first | with_reducible exact sb_refl | ((with_reducible refine fa_cons ?_ ?_); (top_raise0); (top_name)) | with_reducible exact fa_nil | ((with_reducible refine fa_app ?_ ?_) <;> top_name) | ((with_reducible refine sb_cons ?_); top_name) | ((with_reducible refine sb_left ?_); top_name) | ((with_reducible refine sb_right ?_); top_name) | with_reducible assumption)
section -- MD
open Sem (wp)
theorem caller_clean : Clean (⟨.builtin "claim.caller" {}, none, none, [], none⟩ : PySem.Ctx) := ⟨by show (!badId "claim.caller") = true; decide +kernel, fun x hx => nomatch hx⟩
theorem wp_of_wpC_done {M : Model} {A : Around} {Γ : PySem.Ctx} {t : Sem Fin} {R : Result → Shared → Prop} {s : Shared} (hin : Γ.In A) (hC : Clean Γ)
    (h : wpC M A t (fun fin s' => ∃ f, fin = .done f ∧ R (.ok f) s') (fun e s' => R (.error e) s') s) (p : Pos) :
    wp M Γ t (Sem.finPost M Γ R) (fun e _ s' => R (.error e) s') p s := by
  refine Sem.wp_mono M Γ t (fun fin p' s' h' => ?_) (fun _ _ _ h' => h') p s (h Γ p hin hC)
  refine byProp fun Pz hPz => ?_
  obtain ⟨f, rfl, hf⟩ := h'
  refine hPz ?_
  clear hPz Pz
  exact hf
theorem thread_ends_C {prog : Program} {w : World} {t : Sem Fin} {s : Shared} {R : Result → Shared → Prop} (hreg : s.asleep)
    (h : wpC (model prog w) callerA t (fun fin s' => ∃ f, fin = .done f ∧ (R (.ok f) s' ∧ leftWithCleanup s'.gens = false)) (fun e s' => R (.error e) s' ∧ leftWithCleanup s'.gens = false) s) :
    ∃ n r s' s'', runN (denote table) prog w n s ⟨t, .builtin "claim.caller" {}, default, []⟩ = .halted (outcomeOf r) s' ∧
      schedN (denote table) prog w n (.single s ⟨t, .builtin "claim.caller" {}, default, []⟩) = .halted (outcomeOf r) s' ∧ s'.forget = s''.forget ∧ R r s'' := by
  refine byProp fun Pz hPz => ?_
  obtain ⟨n, r, s₁, s₂, hs, hn, hfo, hR⟩ := wp_halts_full (M := model prog w) (R := R) hreg (wp_of_wpC_done (R := fun r s' => R r s' ∧ leftWithCleanup s'.gens = false) caller_in caller_clean h default)
  refine hPz ?_
  clear hPz Pz
  exact ⟨n, r, s₂, s₁, hn, hs, hfo, hR⟩
theorem callFrom_C {c : ClaimW} {tree : List Value → Sem Fin} {w : World} {s : Shared} {free : Addr → Prop} {gens : Prop} {kept : Heap → Prop} (hz : s.asleep) (hgens : s.gens = #[])
    (hspec : ∀ args, c.pre args = true → WData.layableAll args = true →
      ∀ ord : List DictEntry → List DictEntry, (∀ l, (ord l).Perm l) →
      ∃ vs s₁, layAllW c.records (classAt s.heap) w.params ord args s = some (vs, s₁) ∧
        wpC (model c.prog w) callerA (tree vs) (fun fin s' => ∃ f, fin = .done f ∧ (c.Ends s args vs s₁ (.ok f) s' ∧ s'.os = s.os ∧ AllBare s'.gens ∧ kept s'.heap))
          (fun e s' => c.Ends s args vs s₁ (.error e) s' ∧ s'.os = s.os ∧ AllBare s'.gens ∧ kept s'.heap) s₁) :
    c.CallFrom (fun vs => ⟨tree vs, .builtin "claim.caller" {}, default, []⟩) w free gens kept s := by
  intro args hpre hlay ord hord
  refine byProp fun Pz hPz => ?_
  obtain ⟨vs, s₁, hlaid, hcode⟩ := hspec args hpre hlay ord hord
  have hal := layAllW_rest _ _ _ hlaid
  obtain ⟨k, r, s', s'', hrun, hsched, hfo, hcase, hos, hkp⟩ := thread_ends_C (prog := c.prog) (w := w) (t := tree vs) (s := s₁)
    (R := fun r s' => c.Ends s args vs s₁ r s' ∧ s'.os = s.os ∧ kept s'.heap)
    (Shared.asleep_of_life hal.2.2.2 hz)
    (wpC_mono hcode (by
      intro fin s' hZ0
      refine byProp fun Pz hPz => ?_
      obtain ⟨f, e, h1, h2, h3, h4⟩ := hZ0
      refine hPz ?_
      clear hPz Pz
      exact ⟨f, e, ⟨h1, h2, h4⟩, leftWithCleanup_false_of_bare h3⟩) (by
      intro e s' hZ0
      refine byProp fun Pz hPz => ?_
      obtain ⟨h1, h2, h3, h4⟩ := hZ0
      refine hPz ?_
      clear hPz Pz
      exact ⟨⟨h1, h2, h4⟩, leftWithCleanup_false_of_bare h3⟩))
  obtain ⟨eh, _, _, eo, _⟩ := Shared.forget_eq hfo
  have hcase := hcase.congr eh
  have hkp : kept s'.heap := by first | exact eh ▸ hkp | (rw [eh] at hkp; exact hkp) | (rw [← eh] at hkp; exact hkp)
  rw [← eo] at hos
  have hlife : s'.heap.life = s.heap.life := (runN_life _ _ _ hrun).trans hal.2.2.2
  refine hPz ?_
  clear hPz Pz
  refine ⟨vs, s₁, hlaid, k, _, s', hsched, ?_, (fun _ i x hx => by rw [hgens] at hx; simp at hx), hkp, by rw [hlife], Shared.rest_eq hos⟩
  rcases hcase with ⟨v, rfl, d1, d2, d3, d4, d5⟩ | ⟨e, ob, cls, rfl, d1, d2, d3, d4, d5⟩
  · exact .inl ⟨v, rfl, d1, d2, d3, fun b o y _ => d4 b o y, d5⟩
  · exact .inr ⟨e, ob, cls, rfl, d1, d2, d3, d4, fun b o y _ => d5 b o y⟩
/-- the walk's word, at clean contexts alone -/
noncomputable abbrev WalkC (q : Program) (loose : List Str) (XP : (Str → Option Value) → Heap → Prop) (YP : World → Heap → Prop) (r : RowW) (d : DefRec) (kwd : List (Str × Expr)) : Prop :=
  ∀ (w : World) (s₀ s₁ : Shared) (mg mb : Str → Option Value), Ground q loose r.records XP w s₀ mg mb s₁.heap → YP w s₁.heap → ∀ (a : Addr) (o : Obj) (pm cd doc dV kV : Value), s₁.heap.get? a = some o →
    o.data = .func { docDef d.name d.params d.body d.scope pm cd doc with defaults := dV, kwdefaults := kV } → s₁.heap.CodeRec cd d.name → Dflts mg s₁.heap d.params kwd dV kV → mg d.name = some (.ref a) → s₁.gens = #[] →
    ∀ (args : List WData) (vals : List Value) (as : List Addr), r.claim.pre args = true → WData.layableAll args = true → ReadsAllW r.records (classAt s₀.heap) s₁.heap vals args as → WellAll w.params s₁.heap vals args → (∀ a ∈ as, (a == sysModules) = false) →
      wpC (model r.prog w) callerA (PySem.call (.ref a) vals) (fun v s' => GoodWG r.claim (classAt s₀.heap) (ExcName.means s₀.heap) args s₁ (.ok (.ret v)) s')
        (fun e s' => GoodWG r.claim (classAt s₀.heap) (ExcName.means s₀.heap) args s₁ (.error e) s') s₁
theorem PySem.W.holds_open {r : OpenRow} {q : Program} {loose : List Str} {Xt : Shared → Bool} {XP : (Str → Option Value) → Heap → Prop} {α : Type} {Yf : Shared → α} {Ya : World → α} {YP : World → Heap → Prop} {d : DefRec} {kwd : List (Str × Expr)} {N : Nat}
    (left : ∀ w, (openEnds treeTable r.prog w N).map (fun s => (openSeen q loose (importedModules r.prog.main.body) Xt true s, Yf s)) = some (openGood q loose, Ya w)) (hY : ∀ w s, Yf s = Ya w → YP w s.heap) (hYk : ∀ w h h', YP w h → (∀ b o, h.get? b = some o → h'.get? b = some o) → YP w h')
    (hX : ∀ s, Xt s = true → XP (s.heap.nsMap mainGlobals) s.heap) (hXk : ∀ mg h h', XP mg h → (∀ b o, h.get? b = some o → h'.get? b = some o) → XP mg h')
    (hdef : defOf q r.name = some (d, kwd)) (hp : r.prog.theDef r.name = some (d.params, d.body, d.scope)) (hk : kwWritten? d.params.kwonlyargs d.params.kw_defaults = some kwd) (hRf : ∀ s, Xt s = true → RecFacts r.records s.heap) (hwr : (!r.writes || r.records.isEmpty) = true)
    (k1 : r.wellSaid = true) (ok : (chainsOk q && opensWell r.prog && (frees r.toRowW && r.within.isEmpty)) = true) (hb : r.prog.bare) (hw : r.toRowW.promised)
    (call : WalkC q loose XP YP r.toRowW d kwd) : r.Holds := by
  have left : LeftO r.prog q loose Xt Yf Ya N := left
  refine ⟨k1, hw, ?_⟩
  refine byProp fun Pz hPz => ?_
  obtain ⟨ok, k5⟩ := Bool.and_eq_true_iff.mp ok
  obtain ⟨hch, o1⟩ := Bool.and_eq_true_iff.mp ok
  obtain ⟨k5, k6⟩ := Bool.and_eq_true_iff.mp k5
  obtain ⟨hsame, hu, ha, hap, hm⟩ := frees_parts k5
  refine hPz ?_
  clear hPz Pz
  refine ⟨⟨hb, o1, by show r.makers.map _ = []; rw [hm]; rfl⟩, hw.witness, fun w => ⟨(left.behind hX hch w).1, fun s' hs' => ?_⟩⟩
  refine byProp fun Pz hPz => ?_
  obtain ⟨s₀, hf, hg0, s, hT, hz, hgens, hg, G00, y⟩ := (left.behind (XP := fun mg h => XP mg h ∧ RecFacts r.records h) (fun s hs => ⟨hX s hs, hRf s hs⟩) hch w).2 s' hs'
  have G0 : Ground q loose [] XP w s (s.heap.nsMap mainGlobals) (s.heap.nsMap builtinsNs) s.heap := ⟨G00.T, G00.B, G00.D, G00.TE, G00.TD, G00.W, G00.X.1, G00.cls, G00.has, G00.apart, G00.once, G00.K⟩
  have RF := G00.X.2
  have hT' := hT
  refine hPz ?_
  clear hPz Pz
  refine ⟨s₀, hf, hg0, s, hT, ?_, RF.1, RF.2.1, ?_⟩
  · intro n hn
    obtain rfl : n = r.name := by split at hn <;> simp_all
    exact pinned_of_view hg G0 hdef hp hk
  have hgens : s.gens = #[] := Array.eq_empty_of_size_eq_zero (beq_iff_eq.mp hgens)
  have G : Ground q loose r.records XP w s _ _ s.heap := RF.ground G0
  refine callFrom_C (c := r.toRowW.claim) hz hgens fun args hpre hlay ord hord => ?_
  refine byProp fun Pz hPz => ?_
  obtain ⟨⟨vs, s₁⟩, hlaid⟩ := Option.isSome_iff_exists.mp (layAllW_isSome (P := w.params) (ord := ord) G.has args r.args s (pre_splitW hpre).1)
  have keeps := layAllW_keeps _ _ _ hlaid
  have hal := layAllW_rest _ _ _ hlaid
  obtain ⟨as, hrd, hin, hold⟩ := reads_layAllW hord _ _ _ hlaid hlay s₁.heap (fun _ _ e => e)
  have L : Laid r.records w s s₁ args vs as := ⟨⟨ord, hord, hlaid⟩, hrd, hin, hold, keeps, hal.1.trans hgens, hal.2.2.1⟩
  have G₁ := G.keeps hXk keeps
  obtain ⟨a, o, pm, cd, doc, dV, kV, h1, h2, h3, h4, h5⟩ := G₁.fn hdef
  have h := call w s s₁ _ _ G₁ (hYk _ _ _ (hY w s y) keeps) a o pm cd doc dV kV h2 h3 h4 h5 (defOf_name hdef ▸ h1) L.gens args vs as hpre hlay L.reads L.well (L.low G.low)
  have hi := ident_freeW hu ha hap
  have hwi : r.toRowW.claim.within = [] := List.isEmpty_iff.mp k6
  refine hPz ?_
  clear hPz Pz
  refine ⟨vs, s₁, hlaid, wpC_bindA (wpAny_nsGet G₁.T.g ?_)⟩
  rw [h1]
  refine wpC_bind (wpC_mono h (fun v s' g => wpC_pure ⟨_, rfl, ?_⟩) fun e s' g => ?_)
  · have z := g.laid (c := r.toRowW.claim) hsame hwi hi L
    exact ⟨z.1, z.2.1, z.2.2, fun q => ⟨namesKept_of hT' hg _ keeps g.2.1.old, noTable hwr q⟩⟩
  · have z := g.laid (c := r.toRowW.claim) hsame hwi hi L
    exact ⟨z.1, z.2.1, z.2.2, fun q => ⟨namesKept_of hT' hg _ keeps g.2.1.old, noTable hwr q⟩⟩
end -- MD
section -- MH
open_top hd for PySem.Challenge.rw_om0102_01.row
end -- MH
example : True := by first | (w_top off; walk1) | trivial
section -- M0
noncomputable abbrev Pg : Program := PySem.Challenge.rw_om0102_01.row.toRowW.prog
noncomputable abbrev Vw : Program := hd.view_1
noncomputable abbrev Lo : List Str := [Str.ofString "_NodeInfo", Str.ofString "TopologicalSorter"]
noncomputable abbrev mkA (dp : Nat) (fr : Option (List Env)) (gd : Option (List Code)) (un : Nat) : Around := { handled := none, depth := dp, frames := fr, guards := gd, units := un }

/-- the ledger: objects that stand, none of the base -/
noncomputable def Led (h₀ h : Heap) (led : List (Addr × Obj)) : Prop := ∀ p ∈ led, h.get? p.1 = some p.2 ∧ h₀.get? p.1 = none
structure Kp (h₀ h : Heap) : Prop where
  keep : ∀ b o, h₀.get? b = some o → h.get? b = some o
  size : h₀.objs.size ≤ h.objs.size
structure Stat (w : World) (h₀ : Heap) : Prop where
  X : (hd.heap_1 w.params).In h₀
  T : ∃ mean mg mb, Top Vw Lo mean mg mb h₀

theorem Stat.keeps {w : World} {h h' : Heap} (S : Stat w h) (k : ∀ b o, h.get? b = some o → h'.get? b = some o) : Stat w h' := by
  obtain ⟨X, mean, mg, mb, T⟩ := S
  exact ⟨X.keeps k, mean, mg, mb, T.keeps k⟩
theorem Led.sub {h₀ h : Heap} {l l' : List (Addr × Obj)} (D : Led h₀ h l) (hs : ∀ p ∈ l', p ∈ l) : Led h₀ h l' := fun p hp => D p (hs p hp)
theorem Led.lt {h₀ h : Heap} {l : List (Addr × Obj)} (D : Led h₀ h l) : ∀ p ∈ l, p.1 < h.objs.size := fun p hp => Heap.lt_size (D p hp).1
theorem Kp.of_fr {h₀ h : Heap} {L : Addr} {m : Str → Option Value} (F : Fr h₀ L h m) : Kp h₀ h :=
  ⟨F.keep, Nat.le_trans F.above (Nat.le_of_lt F.ns.lt)⟩
theorem Led.of_news {h₀ h : Heap} {L : Addr} {l : List (Addr × Obj)} (N : News h₀ L h l) : Led h₀ h l := fun p hp => ⟨(N p hp).1, (N p hp).2.2⟩
/-- a frame's own object, and the ledger with it -/
theorem frame_obj {h₀ h : Heap} {L : Addr} {m : Str → Option Value} {l : List (Addr × Obj)} (F : Fr h₀ L h m) (N : News h₀ L h l) :
    ∃ oL, Led h₀ h (l ++ [(L, oL)]) ∧ (∀ p ∈ l, p.1 ≠ L) ∧ (∀ h', h'.get? L = some oL → Kp h₀ h' → Fr h₀ L h' m) ∧ L < h.objs.size := by
  obtain ⟨oL, es, ep, hL, hd, hk, hf⟩ := F.ns
  refine ⟨oL, fun p hp => ?_, fun p hp => (N p hp).2.1, fun h' e K => ⟨⟨oL, es, ep, e, hd, hk, hf⟩, K.keep, F.above⟩, Heap.lt_size hL⟩
  rcases List.mem_append.mp hp with hp | hp
  · exact ⟨(N p hp).1, (N p hp).2.2⟩
  · rcases List.mem_singleton.mp hp with rfl
    exact ⟨hL, Heap.get?_none_of_le F.above⟩

/-- the base of a call: all that stands but the focus -/
noncomputable abbrev under (h : Heap) (foc : List (Addr × Obj)) : Heap := hideAll h (foc.map (·.1))
theorem under_get {h : Heap} {foc : List (Addr × Obj)} {b : Addr} {o : Obj} (e : h.get? b = some o) (n : ∀ p ∈ foc, p.1 ≠ b) : (under h foc).get? b = some o :=
  hideAll_get _ e fun q => by
    obtain ⟨p, hp, e'⟩ := List.mem_map.mp q
    exact n p hp e'
theorem under_of {h : Heap} {foc : List (Addr × Obj)} {b : Addr} {o : Obj} (e : (under h foc).get? b = some o) : h.get? b = some o := of_hideAll _ e
theorem under_none {h : Heap} {foc : List (Addr × Obj)} {p : Addr × Obj} (hp : p ∈ foc) : (under h foc).get? p.1 = none := hideAll_none _ (List.mem_map_of_mem hp)
theorem under_stat {w : World} {h₀ h : Heap} {foc : List (Addr × Obj)} (S : Stat w h₀) (O : Kp h₀ h) (D : Led h₀ h foc) : Stat w (under h foc) :=
  S.keeps fun b o e => under_get (O.keep b o e) fun p hp q => by rw [← q, (D p hp).2] at e; cases e

section
variable {w : World} {dp un : Nat} {fr : Option (List Env)} {gd : Option (List Code)} {h₀ : Heap} {s : Shared}

/-- entering a def of the text: the base is all that stands but the focus -/
theorem enter {foc : List (Addr × Obj)} {R : Result → Shared → Prop} {name qual : Str} {params : Arguments} {body : List Stmt} {scope : Scope} {dV kV doc pm cdv ct oc : Value} {an od : Option Addr} {osl : Array (Option Value)} {f : Addr} {args : Args} {binds : List (Str × Value)}
    (S : Stat w h₀) (O : Kp h₀ s.heap) (D : Led h₀ s.heap foc)
    (ho : (hd.heap_1 w.params).lookup f = some ⟨oc, od, .func (fnOf name qual params body scope dV kV doc pm an cdv ct), osl⟩) (hcd : codeIn (hd.heap_1 w.params) cdv qual = true) (hroom : dp < recursionLimit)
    (hbind : BindsTo s (fnOf name qual params body scope dV kV doc pm an cdv ct) args binds) (hloc : ∀ y ∈ binds, scope.names.lookup y.1 = some .local)
    (h : ∀ L h₁ mean mg mb, (hd.heap_1 w.params).In (under s.heap foc) → Top Vw Lo mean mg mb (under s.heap foc) → Fr (under s.heap foc) L h₁ (fun y => binds.reverse.lookup y) → News (under s.heap foc) L h₁ foc →
      wpAny (model Pg w) ((mkA dp fr gd un).deeper (envOf qual scope L f cdv)) (execs body (envOf qual scope L f cdv))
        (fun fl s' => R (.ok (.ret (match fl with | .ret v => v | _ => .none))) s')
        (fun e s' => wpAny (model Pg w) ((mkA dp fr gd un).deeper (envOf qual scope L f cdv)) (leaving (envOf qual scope L f cdv) e) (fun _ s'' => R (.error e) s'') (fun e' s'' => R (.error e') s'') s')
        { s with heap := h₁, toks := s.toks + binds.length })
    (hco : scope.isCoroutine = false) (hgen : scope.isGenerator = false) (hk : scope.kind = .function)
    (hcell : ∀ x ∈ scope.names, x.2 ≠ .cell) : codeAny (model Pg w) (mkA dp fr gd un) (.call (.ref f) args) R s := by
  have SU := under_stat S O D
  obtain ⟨X₀, mean, mg, mb, T⟩ := S
  have X := X₀.keeps O.keep
  obtain ⟨XU, mean', mg', mb', TU⟩ := SU
  refine codeAny_call_def (fd := fnOf name qual params body scope dV kV doc pm an cdv ct) (body := body) (binds := binds) hroom (X _ _ ho) rfl (T.nolimit.keeps O.keep) (codeRec_of X hcd) rfl hbind hcell hloc (fun h₁ hns hk₁ => ?_) hco hgen hk
  exact h s.heap.objs.size h₁ mean' mg' mb' XU TU ⟨hns, fun b o e => hk₁ b o (under_of e), Nat.le_of_eq (hideAll_size _ _)⟩ (fun p hp => ⟨hk₁ _ _ (D p hp).1, Nat.ne_of_lt (D.lt p hp), under_none hp⟩)

/-- entering a def with captured names: its cells stand on the ledger -/
theorem enterC {foc : List (Addr × Obj)} {R : Result → Shared → Prop} {name qual : Str} {params : Arguments} {body : List Stmt} {scope : Scope} {dV kV doc pm cdv ct oc : Value} {an od : Option Addr} {osl : Array (Option Value)} {f : Addr} {args : Args} {binds : List (Str × Value)}
    (S : Stat w h₀) (O : Kp h₀ s.heap) (D : Led h₀ s.heap foc)
    (ho : (hd.heap_1 w.params).lookup f = some ⟨oc, od, .func (fnOf name qual params body scope dV kV doc pm an cdv ct), osl⟩) (hcd : codeIn (hd.heap_1 w.params) cdv qual = true) (hroom : dp < recursionLimit)
    (hbind : BindsTo s (fnOf name qual params body scope dV kV doc pm an cdv ct) args binds) (hkind : (binds.all fun y => scope.names.lookup y.1 == some .local || scope.names.lookup y.1 == some .cell) = true)
    (hnd : ((cellsFrom 0 scope.names []).map (·.1)).Nodup)
    (h : ∀ L h₁ tk cells mean mg mb, (hd.heap_1 w.params).In (under s.heap foc) → Top Vw Lo mean mg mb (under s.heap foc) → Fr (under s.heap foc) L h₁ (bindL (envOfC qual scope L f cdv).kindOf binds fun _ => none) → News (under s.heap foc) L h₁ (cells ++ foc) →
      CellsAre (bindC (envOfC qual scope L f cdv).kindOf binds fun _ => none) (cellsFrom (L + 1) scope.names []) cells → (∀ p ∈ foc, p.1 < L) →
      wpAny (model Pg w) ((mkA dp fr gd un).deeper (envOfC qual scope L f cdv)) (execs body (envOfC qual scope L f cdv))
        (fun fl s' => R (.ok (.ret (match fl with | .ret v => v | _ => .none))) s')
        (fun e s' => wpAny (model Pg w) ((mkA dp fr gd un).deeper (envOfC qual scope L f cdv)) (leaving (envOfC qual scope L f cdv) e) (fun _ s'' => R (.error e) s'') (fun e' s'' => R (.error e') s'') s')
        { s with heap := h₁, toks := tk })
    (hco : scope.isCoroutine = false) (hgen : scope.isGenerator = false) (hk : scope.kind = .function) : codeAny (model Pg w) (mkA dp fr gd un) (.call (.ref f) args) R s := by
  have SU := under_stat S O D
  obtain ⟨X₀, mean, mg, mb, T⟩ := S
  have X := X₀.keeps O.keep
  obtain ⟨XU, mean', mg', mb', TU⟩ := SU
  refine codeAny_call_function hroom (X _ _ ho) rfl hco hgen rfl (codeRec_of X hcd) (hbind _ _ _ _ ?_)
  refine wpAny_newFunctionEnv_cells hk (kindsX hkind _) fun env' he s' x => ?_
  subst he
  refine ⟨(T.nolimit.keeps O.keep).keeps x.toInCall.keep, codeAny_func ?_⟩
  obtain ⟨h₁, tk, rfl, _⟩ := x.done
  have hk₁ := x.toInCall.keep
  obtain ⟨cells, NC, Y⟩ := Cl.news (h₀ := s.heap) (Nat.le_refl _) fun n c hm => ⟨x.cell n c (lookup_of_mem_nodup (cellsFrom_names scope.names 0 (s.heap.objs.size + 1) [] [] rfl ▸ hnd) hm), x.above n c hm⟩
  refine h s.heap.objs.size h₁ tk cells mean' mg' mb' XU TU ⟨x.toInCall.ns, fun b o e => hk₁ b o (under_of e), Nat.le_of_eq (hideAll_size _ _)⟩ (fun p hp => ?_) Y (fun p hp => D.lt p hp)
  rcases List.mem_append.mp hp with hp | hp
  · refine ⟨(NC p hp).1, (NC p hp).2.1, ?_⟩
    cases q : (under s.heap foc).get? p.1 with
    | none => rfl
    | some o => have := under_of q; rw [(NC p hp).2.2] at this; cases this
  · exact ⟨hk₁ _ _ (D p hp).1, Nat.ne_of_lt (D.lt p hp), under_none hp⟩
end

/-- what a call says: it turns the focus `foc` into `foc'` (fresh objects among them), and leaves the rest of the ledger -/
noncomputable def Tell (w : World) (A : Around) (h₀ : Heap) (s : Shared) (foc : List (Addr × Obj)) (t : Sem Value) (post : Value → List (Addr × Obj) → Prop) : Prop :=
  ∀ (rest : List (Addr × Obj)) (Q E : Value → Shared → Prop), Stat w h₀ → Kp h₀ s.heap → Led h₀ s.heap (foc ++ rest) → (∀ p ∈ foc, ∀ q ∈ rest, p.1 ≠ q.1) →
    (∀ r foc' h' tk', post r foc' → (∀ p ∈ foc', ∀ q ∈ rest, p.1 ≠ q.1) → Kp h₀ h' → Led h₀ h' (foc' ++ rest) → Q r { s with heap := h', toks := tk' }) →
    wpAny (model Pg w) A t Q E s
theorem Tell.use {w : World} {A : Around} {h₀ : Heap} {s : Shared} {foc : List (Addr × Obj)} {t : Sem Value} {post : Value → List (Addr × Obj) → Prop} (H : Tell w A h₀ s foc t post)
    {L : Addr} {m : Str → Option Value} {led news : List (Addr × Obj)} {mean : ExcName → Option Value} {mg mb : Str → Option Value} {Q E : Value → Shared → Prop}
    (X : (hd.heap_1 w.params).In h₀) (T : Top Vw Lo mean mg mb h₀) (F : Fr h₀ L s.heap m) (N : News h₀ L s.heap led) (hsub : ∀ p ∈ foc ++ news, p ∈ led) (hap : ∀ p ∈ foc, ∀ q ∈ news, p.1 ≠ q.1)
    (hQ : ∀ r foc' h' tk', post r foc' → Fr h₀ L h' m → News h₀ L h' (foc' ++ news) → (∀ p ∈ foc', ∀ q ∈ news, p.1 ≠ q.1) → Q r { s with heap := h', toks := tk' }) : wpAny (model Pg w) A t Q E s := by
  have N₂ : News h₀ L s.heap (foc ++ news) := fun p hp => N p (hsub p hp)
  obtain ⟨oL, D, hne, back, hlt⟩ := frame_obj F N₂
  refine H (news ++ [(L, oL)]) Q E ⟨X, mean, mg, mb, T⟩ (Kp.of_fr F) (by rw [← List.append_assoc]; exact D) (fun p hp q hq => ?_) fun r foc' h' tk' hp hn K' D' => ?_
  · rcases List.mem_append.mp hq with hq | hq
    · exact hap p hp q hq
    · rw [List.mem_singleton.mp hq]
      exact hne p (List.mem_append_left _ hp)
  have hL : h'.get? L = some oL := (D' (L, oL) (by simp)).1
  refine hQ r foc' h' tk' hp (back h' hL K') (fun p hp' => ?_) (fun p hp' q hq => hn p hp' q (List.mem_append_left _ hq))
  have hm : p ∈ foc' ++ (news ++ [(L, oL)]) := by
    rcases List.mem_append.mp hp' with h | h
    · exact List.mem_append_left _ h
    · exact List.mem_append_right _ (List.mem_append_left _ h)
  refine ⟨(D' p hm).1, ?_, (D' p hm).2⟩
  rcases List.mem_append.mp hp' with h | h
  · exact hn p h (L, oL) (by simp)
  · exact hne p (List.mem_append_right _ h)
/-- a pure call: nothing is turned -/
theorem Tell.use0 {w : World} {A : Around} {h₀ : Heap} {s : Shared} {t : Sem Value} {post : Value → List (Addr × Obj) → Prop} (H : Tell w A h₀ s [] t post)
    {L : Addr} {m : Str → Option Value} {news : List (Addr × Obj)} {mean : ExcName → Option Value} {mg mb : Str → Option Value} {Q E : Value → Shared → Prop}
    (X : (hd.heap_1 w.params).In h₀) (T : Top Vw Lo mean mg mb h₀) (F : Fr h₀ L s.heap m) (N : News h₀ L s.heap news)
    (hQ : ∀ r new h' tk', post r new → Fr h₀ L h' m → News h₀ L h' (new ++ news) → (∀ p ∈ new, ∀ q ∈ news, p.1 ≠ q.1) → Q r { s with heap := h', toks := tk' }) : wpAny (model Pg w) A t Q E s :=
  H.use X T F N (fun p hp => by simpa using hp) (fun p hp => nomatch hp) hQ
/-- the way back out of a def -/
theorem fin {h₀ : Heap} {s : Shared} {foc rest : List (Addr × Obj)} {post : Value → List (Addr × Obj) → Prop} {Q : Value → Shared → Prop} (O : Kp h₀ s.heap) (D : Led h₀ s.heap (foc ++ rest)) (hap : ∀ p ∈ foc, ∀ q ∈ rest, p.1 ≠ q.1)
    (hQ : ∀ r foc' h' tk', post r foc' → (∀ p ∈ foc', ∀ q ∈ rest, p.1 ≠ q.1) → Kp h₀ h' → Led h₀ h' (foc' ++ rest) → Q r { s with heap := h', toks := tk' })
    {L : Addr} {h' : Heap} {m' : Str → Option Value} {led : List (Addr × Obj)} {tk' : Nat} {r : Value} (foc' : List (Addr × Obj)) (hp : post r foc')
    (F : Fr (under s.heap foc) L h' m') (N : News (under s.heap foc) L h' led) (hs : ∀ p ∈ foc', p ∈ led) : Q r { s with heap := h', toks := tk' } := by
  have up : ∀ b o, h₀.get? b = some o → (under s.heap foc).get? b = some o := fun b o e => under_get (O.keep b o e) fun p hp q => by rw [← q, (D p (List.mem_append_left _ hp)).2] at e; cases e
  have hr : ∀ q ∈ rest, (under s.heap foc).get? q.1 = some q.2 := fun q hq => under_get (D q (List.mem_append_right _ hq)).1 fun p hp => hap p hp q hq
  refine hQ r foc' h' tk' hp (fun p hp q hq e => ?_) ⟨fun b o e => F.keep b o (up b o e), Nat.le_trans O.size (Nat.le_trans (Nat.le_of_eq (hideAll_size _ _).symm) (Nat.le_trans F.above (Nat.le_of_lt F.ns.lt)))⟩ fun p hp => ?_
  · have z := (N p (hs p hp)).2.2
    rw [e, hr q hq] at z
    cases z
  · rcases List.mem_append.mp hp with hp | hp
    · refine ⟨(N p (hs p hp)).1, ?_⟩
      cases q : h₀.get? p.1 with
      | none => rfl
      | some o => have := up _ _ q; rw [(N p (hs p hp)).2.2] at this; cases this
    · exact ⟨F.keep _ _ (hr p hp), (D p (List.mem_append_right _ hp)).2⟩
theorem map_at {m : Str → Option Value} {x : Str} {v : Value} (h : m x = some v) : m = fun y => if y = x then some v else m y := by
  funext y
  by_cases e : y = x
  · subst e; simp [h]
  · simp [e]
/-- one more name of a frame -/
noncomputable def at1 (k : Str) (v : Value) (m : Str → Option Value) : Str → Option Value := fun y => if y = k then some v else m y
theorem at1s {m m' : Str → Option Value} {k : Str} {v : Value} (h : m k = some v) (e : m = m') : m = at1 k v m' := by
  subst e
  funext y
  show m y = if y = k then some v else m y
  by_cases e : y = k
  · subst e; rw [if_pos rfl]; exact h
  · rw [if_neg e]
theorem at1c {m m' : Str → Option Value} {k : Str} {v : Value} (e : m = m') : (fun y => if y = k then some v else m y) = at1 k v m' := e ▸ rfl
theorem fr_at {h₀ h : Heap} {L : Addr} {m m' : Str → Option Value} (e : m = m') (F : Fr h₀ L h m) : Fr h₀ L h m' := e ▸ F
theorem storeA_L {M : Model} {A : Around} {E : Value → Shared → Prop} {s : Shared} {h₀ : Heap} {L a : Addr} {m : Str → Option Value} {cn : Str} {cs : Scope} {ccd : Value} {cl : List (Str × Addr)}
    {x : Str} {v : Value} {Q : Unit → Shared → Prop} {news : List (Addr × Obj)} (F : Fr h₀ L s.heap m) (N : News h₀ L s.heap news)
    (h : ∀ h', Fr h₀ L h' (at1 x v m) → News h₀ L h' news → Q () { s with heap := h', toks := s.toks + 1 })
    (hk : cs.kind = .function := by rfl) (hx : (envX cn cs L a ccd cl).kindOf x = some .local := by rfl) : wpAny M A (storeName (envX cn cs L a ccd cl) x v) Q E s :=
  storeX_L F N h hk hx
/-- what a statement's end leads to: the rest of its block, or the way out -/
noncomputable def Nxt (M : Model) (A : Around) (rest : List Stmt) (env : Env) (Q : Flow → Shared → Prop) (E : Value → Shared → Prop) (f : Flow) (s : Shared) : Prop :=
  match f with
  | .next => wpAny M A (execs rest env) Q E s
  | f => Q f s
section
variable {M : Model} {A : Around} {rest : List Stmt} {st : Stmt} {env : Env} {Q : Flow → Shared → Prop} {E : Value → Shared → Prop} {s : Shared} {h : Heap} {t : Nat}
theorem ex_cons0 (H : wpAny M A (exec st env) (Nxt M A rest env Q E) E s) : wpAny M A (execs (st :: rest) env) Q E s :=
  wpAny_execs_cons (wpAny_mono H (fun f s hf => by cases f <;> exact hf) (fun _ _ h => h))
theorem ex_cons (H : wpAny M A (exec st env) (Nxt M A rest env Q E) E { s with heap := h, toks := t }) : wpAny M A (execs (st :: rest) env) Q E { s with heap := h, toks := t } := ex_cons0 H
theorem nx_next (H : wpAny M A (execs rest env) Q E s) : Nxt M A rest env Q E .next s := H
theorem nx_brk (H : Q .brk s) : Nxt M A rest env Q E .brk s := H
theorem nx_cont (H : Q .cont s) : Nxt M A rest env Q E .cont s := H
theorem nx_ret {v : Value} (H : Q (.ret v) s) : Nxt M A rest env Q E (.ret v) s := H
end
theorem lt_of9 {a b c : Int} (h : a < b) (hb : b ≤ c) : a < c := Int.lt_of_lt_of_le h hb
theorem le_of9 {a b c : Int} (h : a < b) (hb : b ≤ c) : a ≤ c := Int.le_of_lt (Int.lt_of_lt_of_le h hb)
/-- a made list goes onto the ledger -/
theorem news_made {h₀ h : Heap} {L D : Addr} {m : Str → Option Value} {news : List (Addr × Obj)} {its : Array Value} (F : Fr h₀ L h m) (N : News h₀ L h news) (P : NewPlain h news D its) (h0 : h₀.get? D = none) :
    ∃ n, News h₀ L h ((D, W.listOf its n) :: news) ∧ ∀ p ∈ news, D ≠ p.1 := by
  have hne := P.ne_locals F
  obtain ⟨⟨n, e⟩, ha⟩ := P
  refine ⟨n, fun p hp => ?_, fun p hp => (ha p hp).symm⟩
  rcases List.mem_cons.mp hp with rfl | hp
  · exact ⟨e, hne, h0⟩
  · exact N p hp
noncomputable def AllNe (d : Nat) : List (Addr × Obj) → Prop
  | [] => True
  | p :: r => (@Ne Nat p.1 d) ∧ AllNe d r
theorem allNe_of {d : Addr} : ∀ {l : List (Addr × Obj)}, (∀ p ∈ l, p.1 ≠ d) → AllNe d l
  | [], _ => trivial
  | p :: _, h => ⟨h p (.head _), allNe_of fun q hq => h q (.tail _ hq)⟩
end -- M0
set_option hygiene false in
local macro_rules | `(tactic| walk_at "execs cons") => `(tactic| (k_here; (try k_gentoks); (try clear qk); (try clear ek); (first | (with_reducible refine ex_cons0 (s := s) ?_) | (k_dflt (refine ex_cons (s := s) ?_)) | (with_reducible refine ex_cons0 ?_)); k_fold))
local macro_rules | `(tactic| walk_at "execs cons") => `(tactic| (k_here; k_made; walk_at "execs cons"))
local macro_rules | `(tactic| walk_at "storeName") => `(tactic| (k_here; k_dflt (refine' storeA_L ?F ?N ?_ ?a ?b; (case F => k_asm); (case N => k_asm); (case a => rfl); (case b => rfl); k_whole; top_caught0)))
local macro_rules | `(tactic| walk_at "Nxt") => `(tactic| with_reducible first | refine nx_next ?_ | refine nx_ret ?_ | refine nx_brk ?_ | refine nx_cont ?_)
example : True := by first | (w_top off; walk1) | trivial
section -- M1
/-- a turn's end: left by return, by break, or the word again -/
noncomputable def TurnTo (h₀ : Heap) (L I : Addr) (own : List (Addr × Obj)) (J : (Str → Option Value) → List (Addr × Obj) → Prop) (s₁ : Shared) (Q : Flow → Shared → Prop) (f : Flow) (s₂ : Shared) : Prop :=
  match f with
  | .ret v => Q (.ret v) s₂
  | .brk => Q .next s₂
  | _ => ∃ h' tk m' led', s₂ = { s₁ with heap := h', toks := tk } ∧ Fr h₀ L h' m' ∧ News h₀ L h' (led' ++ own) ∧ (∀ p ∈ led', p.1 ≠ I) ∧ J m' led'
theorem TurnTo.next {h₀ h' : Heap} {L I : Addr} {own led' : List (Addr × Obj)} {J : (Str → Option Value) → List (Addr × Obj) → Prop} {s₁ : Shared} {Q : Flow → Shared → Prop} {m' : Str → Option Value} {tk : Nat}
    (F : Fr h₀ L h' m') (N : News h₀ L h' (led' ++ own)) (hI : ∀ p ∈ led', p.1 ≠ I) (hJ : J m' led') : TurnTo h₀ L I own J s₁ Q .next { s₁ with heap := h', toks := tk } := ⟨h', tk, m', led', rfl, F, N, hI, hJ⟩
section
variable {w : World} {A : Around} {E : Value → Shared → Prop} {s : Shared} {env : Env} {h₀ : Heap} {x : Str} {body : List Stmt} {Q : Flow → Shared → Prop}
theorem loop_walks {I : Addr} {fp : List Addr} {n : Nat} {P : Nat → Value → Prop} {St : Nat → Heap → Prop} {m : Str → Option Value} {led : List (Addr × Obj)}
    (W : Walks Pg w A I fp [I] n P St) (hLf : env.locals ∉ fp) (hI : h₀.get? I = none) (hst : St 0 s.heap) (F : Fr h₀ env.locals s.heap m) (N : News h₀ env.locals s.heap led) (hne : ∀ p ∈ led, p.1 ≠ I)
    (J : Nat → (Str → Option Value) → List (Addr × Obj) → Prop) (h0 : J 0 m led)
    (step : ∀ i v m₁ led₁ s₁ own, (∃ h tk, s₁ = { s with heap := h, toks := tk }) → i < n → P i v → J i m₁ led₁ → (∀ p ∈ led₁, p.1 ≠ I) → (∀ q ∈ own, q.1 ∈ fp) → (∃ o, s₁.heap.get? I = some o) → (∀ b ∈ fp, h₀.get? b = none → ∀ o, s₁.heap.get? b = some o → (b, o) ∈ own) → St (i + 1) s₁.heap →
      Fr h₀ env.locals s₁.heap (fun y => if y = x then some v else m₁ y) → News h₀ env.locals s₁.heap (led₁ ++ own) →
      wpAny (model Pg w) A (execs body env) (TurnTo h₀ env.locals I own (J (i + 1)) s₁ Q) E s₁)
    (live : ∀ i h, St i h → ∃ o, h.get? I = some o)
    (done : ∀ h' tk m' led', Fr h₀ env.locals h' m' → News h₀ env.locals h' led' → J n m' led' → Q .next { s with heap := h', toks := tk }) :
    LoopAtV Pg w A h₀ env x body Q E (.ref I) s := by
  refine ⟨I, fp, [I], n, P, St, m, led, J, rfl, W, hLf, (fun b hb => by rw [List.mem_singleton.mp hb]; exact hI), (fun p hp hb => hne p hp (List.mem_singleton.mp hb)), hst, F, N, h0, ?_, ?_⟩
  · intro i v m₁ led₁ s₁ own hs hin hP hJ hoff hfp hlive hall hst' F₁ N₁
    have N₂ : News h₀ env.locals s₁.heap (led₁ ++ own) := fun p hp => N₁ p ((List.mem_append.mp hp).elim (List.mem_append_right _) (List.mem_append_left _))
    refine wpAny_mono (step i v m₁ led₁ s₁ own hs hin hP hJ (fun p hp e => hoff p hp (by rw [e]; exact .head _)) hfp (live _ _ hst') hall hst' F₁ N₂) (fun f s₂ h => ?_) fun _ _ e => e
    have back : (∃ h' tk m' led', s₂ = { s₁ with heap := h', toks := tk } ∧ Fr h₀ env.locals h' m' ∧ News h₀ env.locals h' (led' ++ own) ∧ (∀ p ∈ led', p.1 ≠ I) ∧ J (i + 1) m' led') → LoopStepU h₀ env.locals [I] own (J (i + 1)) s₁ .next s₂ := by
      rintro ⟨h', tk, m', led', rfl, F', N', hI', hJ'⟩
      exact .intro F' (fun p hp => N' p ((List.mem_append.mp hp).elim (List.mem_append_right _) (List.mem_append_left _))) (fun p hp hb => hI' p hp (List.mem_singleton.mp hb)) hJ'
    cases f with
    | ret v => exact .ret h
    | brk => exact .brk h
    | next => exact .next (back h)
    | cont => exact .cont (back h)
  · intro h' tk m' led' F' N' _ hJ
    exact done h' tk m' led' F' N' hJ

/-- over a list of the ledger -/
theorem loop_list {l : Addr} {its : Array Value} {nn : Nat} {m : Str → Option Value} {led : List (Addr × Obj)} (hl : (l, W.listOf its nn) ∈ led) (F : Fr h₀ env.locals s.heap m) (N : News h₀ env.locals s.heap led) (hh : A.handled = none)
    (J : Nat → (Str → Option Value) → List (Addr × Obj) → Prop) (h0 : J 0 m led)
    (step : ∀ i v m₁ led₁ s₁ own, (∃ h tk, s₁ = { s with heap := h, toks := tk }) → i < its.size → its[i]? = some v → J i m₁ led₁ → (∀ p ∈ led₁, p.1 ≠ s.heap.objs.size) → (∀ q ∈ own, q.1 = s.heap.objs.size ∨ q.1 = l) → (∃ o, (s.heap.objs.size, o) ∈ own) →
      Fr h₀ env.locals s₁.heap (fun y => if y = x then some v else m₁ y) → News h₀ env.locals s₁.heap (led₁ ++ own) →
      wpAny (model Pg w) A (execs body env) (TurnTo h₀ env.locals s.heap.objs.size own (J (i + 1)) s₁ Q) E s₁)
    (done : ∀ h' tk m' led', Fr h₀ env.locals h' m' → News h₀ env.locals h' led' → J its.size m' led' → Q .next { s with heap := h', toks := tk }) :
    wpAny (model Pg w) A (pyIter (.ref l)) (fun it s₂ => LoopAtV Pg w A h₀ env x body Q E it s₂) E s := by
  have hls : s.heap.IsList l its := ⟨_, (N _ hl).1, rfl, nn, rfl⟩
  have hne : l ≠ s.heap.objs.size := Nat.ne_of_lt (Heap.lt_size (N _ hl).1)
  refine wpAny_pyIter_list hls ?_
  have W := Walks.list (prog := Pg) (w := w) hh s.heap.objs.size l hne its
  have F₂ := F.push { cls := .type "list_iterator", data := .fields #[.ref l, .int 0 0] }
  refine loop_walks (fp := [s.heap.objs.size, l]) (m := m) (led := led) W ?_ (next_is_new F) ⟨⟨_, Heap.get?_push_size _ rfl, rfl, rfl⟩, hls.at fun o e => Heap.get?_push_of_some _ e⟩ F₂ (fun p hp => ⟨Heap.get?_push_of_some _ (N p hp).1, (N p hp).2⟩) (fun p hp => Nat.ne_of_lt (Heap.lt_size (N p hp).1)) J h0 ?_ ?_ ?_
  · intro hm
    rcases List.mem_cons.mp hm with e | hm
    · exact absurd F.ns.lt (e ▸ Nat.lt_irrefl _)
    · exact (N _ hl).2.1 (List.mem_singleton.mp hm).symm
  · intro i v m₁ led₁ s₁ own hs hin hP hJ hI hfp hlive hall _ F₁ N₁
    obtain ⟨o, ho⟩ := hlive
    obtain ⟨h, tk, rfl⟩ := hs
    refine step i v m₁ led₁ _ own ⟨h, tk, rfl⟩ hin hP hJ hI (fun q hq => ?_) ⟨o, hall _ (.head _) (next_is_new F) o ho⟩ F₁ N₁
    rcases List.mem_cons.mp (hfp q hq) with e | e
    · exact .inl e
    · exact .inr (List.mem_singleton.mp e)
  · rintro i h ⟨⟨o, ho, _⟩, _⟩
    exact ⟨o, ho⟩
  · intro h' tk m' led' F' N' hJ
    exact done h' tk m' led' F' N' hJ
end
end -- M1
local macro_rules | `(tactic| top_caught0) => `(tactic| (intros; (try k_sweep)))
example : True := by first | (w_top off; walk1) | trivial
section -- M2
section
variable {w : World} {dp un : Nat} {fr : Option (List Env)} {gd : Option (List Code)} {h₀ : Heap} {s : Shared}
noncomputable def widthOf (v : Int) : Int := [1, 2, 3, 4, 6, 12].getD (v.fmod 6).toNat 0
theorem width_tell (v : Int) (tk : Tok) (hdp : dp + 2 < recursionLimit) : Tell w (mkA dp fr gd un) h₀ s [] (call (.ref 179) [.int v tk]) (fun r new => new = [] ∧ ∃ t, r = .int (widthOf v) t) := by
  intro rest Q E S O D hap hQ
  refine wpAny_call (enter S O (D.sub (List.subset_append_left _ _)) (by k_is) (by k_is) (by omega) (binds := [(Str.ofString "value", .int v tk)]) (BindsTo.of_eq rfl) (locs rfl) ?_ rfl rfl rfl (by decide))
  intro L h₁ mean mg mb X T F N
  k_steps
  all_goals (rename Int.fmod _ _ = _ => e; have q : widthOf v = [1, 2, 3, 4, 6, 12].getD (v.fmod 6).toNat 0 := rfl; rw [e] at q; exact fin O D hap hQ [] ⟨rfl, _, by rw [q]; rfl⟩ (by assumption) (by assumption) (by simp))
theorem widthOf_pos (v : Int) : 1 ≤ widthOf v ∧ widthOf v ≤ 12 := by
  have h : 0 ≤ v.fmod 6 ∧ v.fmod 6 < 6 := ⟨Int.fmod_nonneg_of_pos _ (by decide), Int.fmod_lt_of_pos _ (by decide)⟩
  unfold widthOf
  have : (v.fmod 6).toNat < 6 := by omega
  generalize (v.fmod 6).toNat = n at this
  match n, this with
  | 0, _ => decide
  | 1, _ => decide
  | 2, _ => decide
  | 3, _ => decide
  | 4, _ => decide
  | 5, _ => decide
noncomputable def goBack (p v : Int) : Int := p + widthOf v - 1 - 2 * p.fmod (widthOf v)
theorem use_width {v : Int} {tk : Tok} {L : Addr} {m : Str → Option Value} {news : List (Addr × Obj)} {mean : ExcName → Option Value} {mg mb : Str → Option Value} {Q E : Value → Shared → Prop} (hdp : dp + 2 < recursionLimit)
    (X : (hd.heap_1 w.params).In h₀) (T : Top Vw Lo mean mg mb h₀) (F : Fr h₀ L s.heap m) (N : News h₀ L s.heap news)
    (hQ : ∀ t h' tk', 1 ≤ widthOf v → widthOf v ≤ 12 → Fr h₀ L h' m → News h₀ L h' news → Q (.int (widthOf v) t) { s with heap := h', toks := tk' }) : wpAny (model Pg w) (mkA dp fr gd un) (call (.ref 179) [.int v tk]) Q E s := by
  refine (width_tell v tk hdp).use0 X T F N fun r new h' tk' hp F' N' _ => ?_
  obtain ⟨rfl, t, rfl⟩ := hp
  exact hQ t h' tk' (widthOf_pos v).1 (widthOf_pos v).2 F' N'

section
noncomputable def pl (p v0 v1 v2 v3 v4 : Int) : Nat → Int
  | 0 => p
  | i + 1 => goBack (pl p v0 v1 v2 v3 v4 i) ([v4, v3, v2, v1, v0].getD i 0)
end
end
end -- M2
local macro_rules | `(tactic| l_bnd) => `(tactic| k_dflt (first | exact lt_of9 (by assumption) (by decide) | exact le_of9 (by assumption) (by decide)))
example : True := by first | (w_top off; walk1) | trivial
section -- M3
section
variable {w : World} {dp un : Nat} {fr : Option (List Env)} {gd : Option (List Code)} {h₀ : Heap} {s : Shared}
local macro_rules | `(tactic| l_idx) => `(tactic| k_dflt (exact lt_of9 (by assumption) (by decide)))
local macro_rules | `(tactic| k_ne) => `(tactic| solve_by_elim (maxDepth := 5) only [*, And.left, And.right, Ne.symm])
theorem numbers_tell (a : Addr) (vs : List Value) (ns : List Int) (hl : h₀.IsList a vs.toArray) (hi : IntsAre vs ns) (hlen : ns.length ≤ 63) (hdp : dp + 4 < recursionLimit) : Tell w (mkA dp fr gd un) h₀ s [] (call (.ref 167) [.ref a])
    (fun r new => ∃ l its n, new = [(l, W.listOf its n)] ∧ r = .ref l ∧ IntsAre its.toList (ns.map fun x => x.fmod 1000000)) := by
  intro rest Q E S O D hap hQ
  refine wpAny_call (enter S O (D.sub (List.subset_append_left _ _)) (by k_is) (by k_is) (by omega) (binds := [(Str.ofString "script", .ref a)]) (BindsTo.of_eq rfl) (locs rfl) ?_ rfl rfl rfl (by decide))
  intro L h₁ mean mg mb X T F N
  have hlU : (under s.heap []).IsList a vs.toArray := hl.at fun o e => under_get (O.keep _ o e) (by simp)
  k_steps
  rename_i ys hI hLn Dn h' tk' F' N' hne
  refine fin O D hap hQ [(Dn, LCg.lst ys)] ⟨Dn, ys.toArray, ys.length, rfl, rfl, ?_⟩ F' N' (by simp)
  rw [List.take_of_length_le hlen] at hI
  simpa using hI
theorem use_numbers {a : Addr} {vs : List Value} {ns : List Int} (hl : h₀.IsList a vs.toArray) (hi : IntsAre vs ns) (hlen : ns.length ≤ 63) {L : Addr} {m : Str → Option Value} {news : List (Addr × Obj)} {mean : ExcName → Option Value} {mg mb : Str → Option Value} {Q E : Value → Shared → Prop} (hdp : dp + 4 < recursionLimit)
    (X : (hd.heap_1 w.params).In h₀) (T : Top Vw Lo mean mg mb h₀) (F : Fr h₀ L s.heap m) (N : News h₀ L s.heap news)
    (hQ : ∀ l its n h' tk', IntsAre its.toList (ns.map fun x => x.fmod 1000000) → Fr h₀ L h' m → News h₀ L h' ((l, W.listOf its n) :: news) → (∀ p ∈ news, p.1 ≠ l) → Q (.ref l) { s with heap := h', toks := tk' }) : wpAny (model Pg w) (mkA dp fr gd un) (call (.ref 167) [.ref a]) Q E s := by
  refine (numbers_tell a vs ns hl hi hlen hdp).use0 X T F N fun r new h' tk' hp F' N' hne => ?_
  obtain ⟨l, its, n, rfl, rfl, hi'⟩ := hp
  exact hQ l its n h' tk' hi' F' N' fun p hp => (hne _ (.head _) p hp).symm
theorem sum_pick {A : Around} {E : Value → Shared → Prop} {L l : Addr} {m : Str → Option Value} {news : List (Addr × Obj)} {its : Array Value} {ns : List Int} {lo up st : Option Int} {n : Nat} {Q : Value → Shared → Prop} (hh : A.handled = none) (F : Fr h₀ L s.heap m) (N : News h₀ L s.heap news)
    (hm : (l, ({ cls := .type "list", data := .seq (slicePick its lo up st) n } : Obj)) ∈ news) (hi : IntsAre its.toList ns)
    (h : ∀ h' tk t', Fr h₀ L h' m → News h₀ L h' news → Q (.int (pickNums ns lo up st).sum t') { s with heap := h', toks := tk }) :
    wpAny (model Pg w) A (call (.builtin "sum") [.ref l]) Q E s :=
  sumK hh F N (l := l) (vs := (slicePick its lo up st).toList) ⟨_, (N _ hm).1, rfl, n, by simp⟩ (by simpa using hi.pick lo up st) h
inductive FiveInts (ys : List Value) : Prop
  | mk (v0 v1 v2 v3 v4 : Int) (t0 t1 t2 t3 t4 : Tok) (e : ys = [.int v0 t0, .int v1 t1, .int v2 t2, .int v3 t3, .int v4 t4])
theorem five_ints {ys : List Value} {f : Int → Int} (h : IntsAre ys ((rangeKs 0 (5 - 0 : Int).toNat).map f)) : FiveInts ys := by
  have h5 : IntsAre ys [f (0 + (0 : Nat)), f (0 + (1 : Nat)), f (0 + (2 : Nat)), f (0 + (3 : Nat)), f (0 + (4 : Nat))] := h
  clear h
  obtain ⟨t0, y0, rfl, h6⟩ := h5.cons_inv
  obtain ⟨t1, y1, rfl, h7⟩ := h6.cons_inv
  obtain ⟨t2, y2, rfl, h8⟩ := h7.cons_inv
  obtain ⟨t3, y3, rfl, h9⟩ := h8.cons_inv
  obtain ⟨t4, y4, rfl, h10⟩ := h9.cons_inv
  obtain rfl := h10.nil_inv
  exact ⟨_, _, _, _, _, t0, t1, t2, t3, t4, rfl⟩
theorem off1_mem {D : Addr} {l : List (Addr × Obj)} (h : LCg.Off1 D l) : ∀ p ∈ l, D ≠ p.1 := by
  induction l with
  | nil => intro p hp; exact nomatch hp
  | cons q r ih =>
    intro p hp
    rcases List.mem_cons.mp hp with rfl | hp
    · exact h.1.symm
    · exact ih h.2 p hp
inductive ValPost (r : Value) (new : List (Addr × Obj)) : Prop
  | mk (l : Addr) (v0 v1 v2 v3 v4 : Int) (t0 t1 t2 t3 t4 : Tok) (n : Nat) (e1 : new = [(l, W.listOf #[.int v0 t0, .int v1 t1, .int v2 t2, .int v3 t3, .int v4 t4] n)]) (e2 : r = .ref l)
theorem values_tell (a : Addr) (vs : List Value) (ns : List Int) (hl : h₀.IsList a vs.toArray) (hi : IntsAre vs ns) (hlen : ns.length ≤ 63) (hdp : dp + 6 < recursionLimit) : Tell w (mkA dp fr gd un) h₀ s [] (call (.ref 172) [.ref a])
    ValPost := by
  intro rest Q E S O D hap hQ
  refine wpAny_call (enterC S O (D.sub (List.subset_append_left _ _)) (by k_is) (by k_is) (by omega) (binds := [(Str.ofString "script", .ref a)]) (BindsTo.of_eq rfl) rfl (by decide +kernel) ?_ rfl rfl rfl)
  intro L h₁ tk cells mean mg mb X T F N Y hlt
  have hlU : (under s.heap []).IsList a vs.toArray := hl.at fun o e => under_get (O.keep _ o e) (by simp)
  k_cells Y
  simp only [List.cons_append, List.nil_append] at N
  repeat (first | k_unfold | ((fail_if_success (with_reducible show wpAny _ _ (call (Value.ref 167) [Value.ref _]) _ _ _)); first | walk1 | (dsimp only; walk1)))
  refine use_numbers (by assumption) (by assumption) (by assumption) (by simp only [Around.deeper]; omega) (by k_asm) (by k_asm) (by k_asm) (by k_asm) ?_
  intro _ _ _ _ _ _ _ _ l1
  replace l1 := allNe_of l1
  simp only [AllNe] at l1
  try k_sweep
  repeat (first | k_unfold | ((fail_if_success (with_reducible show wpAny _ _ (call (Value.builtin "sum") [Value.ref _]) _ _ _)); first | walk1 | (dsimp only; walk1)))
  refine sum_pick rfl (by k_asm) (by k_asm) (by k_mem) (by assumption) ?_
  intros
  try k_sweep
  all_goals k_steps
  rename_i ys hI8 hL8 D' h' tk' F' N' o1
  obtain ⟨v0, v1, v2, v3, v4, t0, t1, t2, t3, t4, rfl⟩ := five_ints hI8
  refine fin O D hap hQ [(D', LCg.lst [.int v0 t0, .int v1 t1, .int v2 t2, .int v3 t3, .int v4 t4])] ⟨D', v0, v1, v2, v3, v4, t0, t1, t2, t3, t4, 5, rfl, rfl⟩ F' N' ?_
  · simp
end
end -- M3
example : True := by first | (w_top off; walk1) | trivial
section -- M4
section
variable {w : World} {dp un : Nat} {fr : Option (List Env)} {gd : Option (List Code)} {h₀ : Heap} {s : Shared}
local macro_rules | `(tactic| k_ne) => `(tactic| solve_by_elim (maxDepth := 5) only [*, And.left, And.right, Ne.symm])
theorem sum_led {A : Around} {E : Value → Shared → Prop} {L l : Addr} {m : Str → Option Value} {news : List (Addr × Obj)} {its : Array Value} {ns : List Int} {n : Nat} {Q : Value → Shared → Prop} (hh : A.handled = none) (F : Fr h₀ L s.heap m) (N : News h₀ L s.heap news)
    (hm : (l, W.listOf its n) ∈ news) (hi : IntsAre its.toList ns)
    (h : ∀ h' tk t', Fr h₀ L h' m → News h₀ L h' news → Q (.int ns.sum t') { s with heap := h', toks := tk }) :
    wpAny (model Pg w) A (call (.builtin "sum") [.ref l]) Q E s :=
  sumK hh F N (l := l) (vs := its.toList) ⟨_, (N _ hm).1, rfl, n, by simp⟩ hi h
theorem foldl_filter (P : Int → Prop) [DecidablePred P] : ∀ (ks acc : List Int), ks.foldl (fun l k => if P k then l ++ [k] else l) acc = acc ++ ks.filter fun k => decide (P k)
  | [], acc => by simp
  | k :: ks, acc => by
    rw [List.foldl_cons, foldl_filter P ks, List.filter_cons]
    by_cases h : P k <;> simp [h]
theorem open_ints {ys : List Value} {P : Int → Prop} [DecidablePred P] (h : IntsAre ys ((rangeKs 0 (12 - 0 : Int).toNat).foldl (fun l k => if P k then l ++ [k] else l) [])) : ∃ q : Nat → Bool, IntsAre ys (((List.range 12).filter q).map fun (i : Nat) => (i : Int)) := by
  rw [foldl_filter, List.nil_append] at h
  have e : rangeKs 0 (12 - 0 : Int).toNat = (List.range 12).map fun (i : Nat) => (i : Int) := by decide
  rw [e, List.filter_map] at h
  exact ⟨_, h⟩
theorem open_tell (a : Addr) (vs : List Value) (ns : List Int) (hl : h₀.IsList a vs.toArray) (hi : IntsAre vs ns) (hlen : ns.length ≤ 63) (hdp : dp + 6 < recursionLimit) : Tell w (mkA dp fr gd un) h₀ s [] (call (.ref 184) [.ref a])
    (fun r new => ∃ l its n, ∃ q : Nat → Bool, new = [(l, W.listOf its n)] ∧ r = .ref l ∧ IntsAre its.toList (((List.range 12).filter q).map fun (i : Nat) => (i : Int))) := by
  intro rest Q E S O D hap hQ
  refine wpAny_call (enterC S O (D.sub (List.subset_append_left _ _)) (by k_is) (by k_is) (by omega) (binds := [(Str.ofString "script", .ref a)]) (BindsTo.of_eq rfl) rfl (by decide +kernel) ?_ rfl rfl rfl)
  intro L h₁ tk cells mean mg mb X T F N Y hlt
  have hlU : (under s.heap []).IsList a vs.toArray := hl.at fun o e => under_get (O.keep _ o e) (by simp)
  k_cells Y
  simp only [List.cons_append, List.nil_append] at N
  repeat (first | k_unfold | ((fail_if_success (with_reducible show wpAny _ _ (call (Value.ref 167) [Value.ref _]) _ _ _)); first | walk1 | (dsimp only; walk1)))
  refine use_numbers (by assumption) (by assumption) (by assumption) (by simp only [Around.deeper]; omega) (by k_asm) (by k_asm) (by k_asm) (by k_asm) ?_
  intro _ _ _ _ _ _ _ _ l1
  replace l1 := allNe_of l1
  simp only [AllNe] at l1
  try k_sweep
  repeat (first | k_unfold | ((fail_if_success (with_reducible show wpAny _ _ (call (Value.builtin "sum") [Value.ref _]) _ _ _)); first | walk1 | (dsimp only; walk1)))
  refine sum_led rfl (by k_asm) (by k_asm) (by k_mem) (by assumption) ?_
  intros
  try k_sweep
  all_goals k_steps
  rename_i ys hI hLe hLn Dn h' tk' F' N' hne
  obtain ⟨q, hq⟩ := open_ints hI
  exact fin O D hap hQ [(Dn, LCg.lst ys)] ⟨Dn, ys.toArray, ys.length, q, rfl, rfl, by simpa using hq⟩ F' N' (by simp)
end
end -- M4
example : True := by first | (w_top off; walk1) | trivial
section -- MB
open Sem (wp)
open Builtin
noncomputable abbrev barr (b : Array UInt8) : Obj := { cls := .type "bytearray", data := .bytearray b }
theorem ba_mro : mroOf (.type "bytearray") = pure [.type "bytearray", .type "object"] := by rw [mroOf_type]; kernel_rfl
theorem ba_lookup_new : typeLookup (.type "bytearray") "__new__" = pure (some (.builtin "bytearray.__new__")) := by rw [typeLookup_type, builtinLookup_eq_fast]; kernel_rfl
theorem ba_slot_init : Slot "bytearray" "__init__" "bytearray.__init__" :=
  .of (owner := "bytearray") (n := "__init__") (by rw [typeLookup_type, builtinLookup_eq_fast]; kernel_rfl) (by decide +kernel) (by decide +kernel) (by decide +kernel)
    (by first | exact .inl (by decide +kernel) | exact .inr (by decide +kernel)) (by rw [isSubtype_type]; kernel_rfl)
theorem ba_called : TypeCalled "bytearray" "bytearray.__new__" "bytearray.__init__" :=
  ⟨by decide +kernel, by decide +kernel, ⟨_, _, ba_mro⟩, madeBy_type ba_mro ba_lookup_new (by decide +kernel), by decide +kernel, by rw [isSubtype_type]; kernel_rfl, ba_slot_init⟩
theorem ba_typeCall (a : Value) : checkTypeCall "bytearray" ⟨[a], []⟩ = pure () := by kernel_rfl
theorem ba_newCall (a : Value) : checkBuiltinCall "bytearray.__new__" ⟨[.type "bytearray", a], []⟩ = pure () := by kernel_rfl
theorem ba_plain_new : plainId "bytearray.__new__" = true := by decide +kernel
theorem ba_entry_new : entryFor table "bytearray.__new__" = some Builtin.«list.__new__» := entryFor_alias (id' := "list.__new__") (by rw [fastTable_eq_tree]; kernel_rfl) (by decide +kernel) (by decide +kernel) (by rw [fastTable_eq_tree]; kernel_rfl)
theorem ba_entry_init : entryFor table "bytearray.__init__" = some Builtin.«bytearray.__init__» := by first | exact entryFor_of_fast (by kernel_rfl) | exact entryFor_of_tree (by kernel_rfl)
theorem ba_owner : ("bytearray.__new__".splitOn ".__new__").headD "" = "bytearray" := by simp +decide [String.splitOn, String.splitOnAux]
theorem ba_sub : isSubtype (.type "bytearray") (.type "bytearray") = pure true := by rw [isSubtype_type]; kernel_rfl
theorem ba_release : typeLookup (.type "bytearray") "__release_buffer__" = pure (some (.builtin "bytearray.__release_buffer__")) := by rw [typeLookup_type, builtinLookup_eq_fast]; kernel_rfl
theorem ba_buffer : typeLookup (.type "bytearray") "__buffer__" = pure (some (.builtin "bytearray.__buffer__")) := by rw [typeLookup_type, builtinLookup_eq_fast]; kernel_rfl
theorem ba_bind (v : Value) : Builtin.Bytes.bindOptional "bytearray.__init__" "bytearray" ["source", "encoding", "errors"] [v] [] = pure [some v, none, none] := by kernel_rfl
theorem ba_init_args (o v : Value) : argsOk "bytearray.__init__" ⟨[o, v], []⟩ := by
  first | rfl | trivial | (unfold argsOk; kernel_rfl) | (show _ ; decide +kernel)
section
variable {prog : Program} {w : World} {A : Around} {E : Value → Shared → Prop} {s : Shared}
theorem ba_new (a : Value) {Q₁ : Value → Shared → Prop} (h : Q₁ (.ref s.heap.objs.size) { s with heap := s.heap.push (barr #[]) }) :
    codeAny (model prog w) A (.call (.builtin "bytearray.__new__") ⟨[.type "bytearray", a], []⟩) (wants Q₁ E) s := by
  refine codeAny_of_tree ?_
  show wpAny _ A.in1 (do checkBuiltinCall "bytearray.__new__" ⟨[.type "bytearray", a], []⟩; again (.builtin "bytearray.__new__" ⟨[.type "bytearray", a], []⟩)) _ _ s
  refine wpAny_bind (wpAny_of_eq (ba_newCall a) (wpAny_pure ⟨plainId_quiet ba_plain_new _, codeAny_builtin_stack ba_entry_new rfl fun p st => ?_⟩))
  rw [Around.under_plainId ba_plain_new _]
  have hsub := ba_sub
  have hown := ba_owner
  obtain ⟨hp, g, d, tk, os⟩ := s
  simp only [hown]
  wp_walk
  exact h
theorem ba_typeIs {h : Heap} {g d t os} {a : Addr} {b : Array UInt8} (ho : h.get? a = some (barr b)) : (⟨h, g, d, t, os⟩ : Shared).TypeIs (.ref a) "bytearray" := ⟨_, ho, rfl⟩
theorem ba_ownRelease {a : Addr} {b : Array UInt8} {Q : Bool → Shared → Prop} {M : Model} (ho : s.heap.get? a = some (barr b)) (h : Q false s) : wpAny M A (Bytes.ownRelease (.ref a)) Q E s := by
  have hT : s.TypeIs (.ref a) "bytearray" := ⟨_, ho, rfl⟩
  unfold Bytes.ownRelease Bytes.slotIsOwn
  refine wpAny_bind (wpAny_bind (wpAny_specialOf hT ba_release ?_))
  dsimp only
  rw [if_neg (by decide +kernel)]
  have e : "bytearray.__release_buffer__".dropRight ("__release_buffer__".length + 1) = "bytearray" := by decide +kernel
  rw [e]
  exact wpAny_isInstance hT ba_sub (wpAny_pure h)
theorem okc_bad {i : String} {a : Args} (h : okc (.builtin i a) = true) : badId i = false := by
  have h2 : (!badId i) = true := h
  simpa using h2
theorem exportedC {M : Model} {self : Value} {Q : Bool → Shared → Prop} (h : Q false s) : wpC M A (Bytes.exported self) Q E s := by
  unfold Bytes.exported
  refine wpC_stackAny (fun c p hc => ?_) h
  cases c with
  | builtin i a =>
    have hb := okc_bad hc
    have n1 : ¬ i = "bytearray.__contains__" := fun e => absurd hb (by rw [e]; decide +kernel)
    have n2 : ¬ i = "bytearray.__mod__" := fun e => absurd hb (by rw [e]; decide +kernel)
    have n3 : ¬ i = "bytearray.__rmod__" := fun e => absurd hb (by rw [e]; decide +kernel)
    have n4 : ¬ i = "_struct.pack_into.held" := fun e => absurd hb (by rw [e]; decide +kernel)
    have n5 : ¬ i = "bytearray.find.held" := fun e => absurd hb (by rw [e]; decide +kernel)
    have h3 : Bytes.decodersThatHold.contains i = false := by
      unfold badId at hb
      exact (Bool.or_eq_false_iff.mp hb).2
    obtain ⟨pos, kw⟩ := a
    unfold Bytes.exported.match_1
    simp only [n1, n2, n3, n4, n5, dif_neg, not_false_eq_true, Bytes.exported._sparseCasesOn_1]
    cases pos with
    | nil => rfl
    | cons v r =>
      show (Bytes.sameRef v self && Bytes.decodersThatHold.contains i) = false
      rw [h3, Bool.and_false]
  | _ => rfl
theorem ba_write {M : Model} {a : Addr} {b : Array UInt8} {f : Array UInt8 → Array UInt8} {Q : Unit → Shared → Prop} (ho : s.heap.get? a = some (barr b)) (hz : (f b).size ≤ sizeLine)
    (h : ∀ h', h'.get? a = some (barr (f b)) → Heap.SameBut a s.heap h' → Q () { s with heap := h' }) : wpAny M A (Bytes.write (.ref a) f) Q E s := by
  show wpAny _ _ (updateBytearray a f) _ _ _
  unfold updateBytearray
  refine wpAny_bind (wpAny_load ho ?_)
  show wpAny _ _ (update a (Obj.mapBytearray f) >>= fun _ => lookBehind a) _ _ _
  refine wpAny_bind (wpAny_update ho ?_)
  have h2 : (s.heap.update a (Obj.mapBytearray f)).get? a = some (barr (f b)) := Heap.get?_update_self (Obj.mapBytearray f) ho rfl
  refine wpAny_lookBehind h2 ?_ (h _ h2 (Heap.SameBut.update ..))
  show (if (f b).size > sizeLine then some "bytearray:memory" else none) = none
  rw [if_neg (by omega)]
theorem ba_noExports {M : Model} {a : Addr} {b : Array UInt8} {Q : Bool → Shared → Prop} (ho : s.heap.get? a = some (barr b)) (h : Q false s) :
    wpC M A (Bytes.exported (.ref a) <||> do return (← Bytes.exportsOf (.ref a)) > 0) Q E s := by
  show wpC M A (Bytes.exported (.ref a) >>= _) Q E s
  refine wpC_bind (exportedC ?_)
  refine wpC_of_any ?_
  show wpAny M A (do return decide ((← Bytes.exportsOf (.ref a)) > 0)) Q E s
  unfold Bytes.exportsOf
  exact wpAny_bind (wpAny_bind (wpAny_load ho (wpAny_pure (wpAny_pure h))))
theorem ba_init_int {a : Addr} {n : Int} {tk : Tok} {Q : Fin → Shared → Prop} (ho : s.heap.get? a = some (barr #[])) (h0 : 0 < n) (h1 : n ≤ 12)
    (h : ∀ h', h'.get? a = some (barr (Array.replicate n.toNat 0)) → Heap.SameBut a s.heap h' → Q (.done (.ret .none)) { s with heap := h' }) : wpC (model prog w) A (Builtin.«bytearray.__init__» ⟨[.ref a, .int n tk], []⟩) Q E s := by
  unfold Builtin.«bytearray.__init__»
  dsimp only
  refine wpC_bindA (ba_ownRelease ho ?_)
  refine ifC_false rfl ?_
  refine wpC_bindA (wpAny_of_eq (ba_bind _) ?_)
  refine wpC_bindA (wpAny_of_eq (a := ()) rfl ?_)
  refine wpC_bindA (wpAny_of_eq (a := ()) rfl ?_)
  refine wpC_bind (ba_noExports ho ?_)
  refine ifC_false rfl (wpC_of_any ?_)
  refine wpAny_bind (ba_write ho (by decide +kernel) fun h₁ ho₁ hs₁ => ?_)
  dsimp only
  refine wpAny_bind (wpAny_of_eq (a := none) rfl ?_)
  refine bm_if_false rfl ?_
  refine bm_if_false (by simp [Bytes.fitsIndex]; omega) ?_
  rw [if_neg (by omega)]
  refine bm_if_false (by simp; omega) ?_
  refine bm_if_false (by unfold Bytes.tooLong; rw [sizeLine_eq]; exact decide_eq_false (by omega)) ?_
  refine wpAny_bind (wpAny_rule ?_)
  rw [if_pos (by omega)]
  refine wpAny_bind (ba_write ho₁ (by rw [sizeLine_eq, Array.size_replicate]; omega) fun h₂ ho₂ hs₂ => wpAny_pure (h h₂ ho₂ (hs₁.trans hs₂)))
theorem bytes_no_index : typeLookup (.type "bytes") "__index__" = pure none := by rw [typeLookup_type, builtinLookup_eq_fast]; kernel_rfl
theorem buffer_full {id : String} {b : Array UInt8} {t : Tok} : Bytes.buffer? id (.bytes b t) true = pure (some b) := by
  unfold Bytes.buffer?
  rw [KBy.special_eq KBy.look_buffer, KBy.own_buffer, KBy.own_release]
  kernel_rfl
theorem ba_init_bytes {a : Addr} {b : Array UInt8} {tk : Tok} {Q : Fin → Shared → Prop} (ho : s.heap.get? a = some (barr #[])) (hz : b.size ≤ 12)
    (h : ∀ h', h'.get? a = some (barr b) → Heap.SameBut a s.heap h' → Q (.done (.ret .none)) { s with heap := h' }) : wpC (model prog w) A (Builtin.«bytearray.__init__» ⟨[.ref a, .bytes b tk], []⟩) Q E s := by
  unfold Builtin.«bytearray.__init__»
  dsimp only
  refine wpC_bindA (ba_ownRelease ho ?_)
  refine ifC_false rfl ?_
  refine wpC_bindA (wpAny_of_eq (ba_bind _) ?_)
  refine wpC_bindA (wpAny_of_eq (a := ()) rfl ?_)
  refine wpC_bindA (wpAny_of_eq (a := ()) rfl ?_)
  refine wpC_bind (ba_noExports ho ?_)
  refine ifC_false rfl (wpC_of_any ?_)
  refine wpAny_bind (ba_write ho (by decide +kernel) fun h₁ ho₁ hs₁ => ?_)
  dsimp only
  refine wpAny_bind (wpAny_of_eq (a := none) rfl ?_)
  refine bm_if_false rfl ?_
  refine wpAny_bind (wpAny_of_eq (a := ()) rfl ?_)
  refine wpAny_bind (wpAny_of_eq (KBy.special_eq bytes_no_index) ?_)
  refine bm_if_false rfl ?_
  refine wpAny_bind (wpAny_of_eq buffer_full ?_)
  dsimp only
  refine wpAny_bind (wpAny_rule ?_)
  exact wpAny_bind (ba_write ho₁ (by rw [sizeLine_eq]; omega) fun h₂ ho₂ hs₂ => wpAny_pure (h h₂ ho₂ (hs₁.trans hs₂)))
theorem okc_ba (a : Args) : okc (.builtin "bytearray.__init__" a) = true := by show (!badId "bytearray.__init__") = true; decide +kernel
theorem call_ba_int {n : Int} {tk : Tok} {Q : Value → Shared → Prop} (h0 : 0 < n) (h1 : n ≤ 12)
    (h : ∀ h', h'.get? s.heap.objs.size = some (barr (Array.replicate n.toNat 0)) → (∀ b o, s.heap.get? b = some o → h'.get? b = some o) → Q (.ref s.heap.objs.size) { s with heap := h' }) : wpC (model prog w) A (call (.type "bytearray") [.int n tk]) Q E s := by
  refine callType_C (Q₁ := fun obj s₁ => obj = .ref s.heap.objs.size ∧ s₁ = { s with heap := s.heap.push (barr #[]) }) ba_called (ba_typeCall _) ba_entry_init okc_ba (ba_new _ ⟨rfl, rfl⟩) ?_
  rintro obj s₁ ⟨rfl, rfl⟩
  have hg : (s.heap.push (barr #[])).get? s.heap.objs.size = some (barr #[]) := Heap.get?_push_size _ rfl
  refine ⟨⟨_, hg, rfl⟩, ba_init_args _ _, ba_init_int hg h0 h1 fun h' e hs => ⟨rfl, h h' e fun b o eb => ?_⟩⟩
  exact (hs.2 b (Nat.ne_of_lt (Heap.lt_size eb))).trans (Heap.get?_push_of_some _ eb)
theorem call_ba_bytes {b : Array UInt8} {tk : Tok} {Q : Value → Shared → Prop} (hz : b.size ≤ 12)
    (h : ∀ h', h'.get? s.heap.objs.size = some (barr b) → (∀ b o, s.heap.get? b = some o → h'.get? b = some o) → Q (.ref s.heap.objs.size) { s with heap := h' }) : wpC (model prog w) A (call (.type "bytearray") [.bytes b tk]) Q E s := by
  refine callType_C (Q₁ := fun obj s₁ => obj = .ref s.heap.objs.size ∧ s₁ = { s with heap := s.heap.push (barr #[]) }) ba_called (ba_typeCall _) ba_entry_init okc_ba (ba_new _ ⟨rfl, rfl⟩) ?_
  rintro obj s₁ ⟨rfl, rfl⟩
  have hg : (s.heap.push (barr #[])).get? s.heap.objs.size = some (barr #[]) := Heap.get?_push_size _ rfl
  refine ⟨⟨_, hg, rfl⟩, ba_init_args _ _, ba_init_bytes hg hz fun h' e hs => ⟨rfl, h h' e fun b o eb => ?_⟩⟩
  exact (hs.2 b (Nat.ne_of_lt (Heap.lt_size eb))).trans (Heap.get?_push_of_some _ eb)
end
end -- MB
example : True := by first | (w_top off; walk1) | trivial
section -- ME
open Sem (wp)
open Builtin
theorem ba_slot_len : Slot "bytearray" "__len__" "bytearray.__len__" :=
  .of (owner := "bytearray") (n := "__len__") (by rw [typeLookup_type, builtinLookup_eq_fast]; kernel_rfl) (by decide +kernel) (by decide +kernel) (by decide +kernel)
    (by first | exact .inl (by decide +kernel) | exact .inr (by decide +kernel)) (by rw [isSubtype_type]; kernel_rfl)
theorem ba_slot_get : Slot "bytearray" "__getitem__" "bytearray.__getitem__" :=
  .of (owner := "bytearray") (n := "__getitem__") (by rw [typeLookup_type, builtinLookup_eq_fast]; kernel_rfl) (by decide +kernel) (by decide +kernel) (by decide +kernel)
    (by first | exact .inl (by decide +kernel) | exact .inr (by decide +kernel)) (by rw [isSubtype_type]; kernel_rfl)
theorem ba_slot_set : Slot "bytearray" "__setitem__" "bytearray.__setitem__" :=
  .of (owner := "bytearray") (n := "__setitem__") (by rw [typeLookup_type, builtinLookup_eq_fast]; kernel_rfl) (by decide +kernel) (by decide +kernel) (by decide +kernel)
    (by first | exact .inl (by decide +kernel) | exact .inr (by decide +kernel)) (by rw [isSubtype_type]; kernel_rfl)
theorem ba_entry_len : entryFor table "bytearray.__len__" = some Builtin.«bytearray.__len__» := by first | exact entryFor_of_fast (by kernel_rfl) | exact entryFor_of_tree (by kernel_rfl)
theorem ba_entry_get : entryFor table "bytearray.__getitem__" = some Builtin.«bytearray.__getitem__» := by first | exact entryFor_of_fast (by kernel_rfl) | exact entryFor_of_tree (by kernel_rfl)
theorem ba_entry_set : entryFor table "bytearray.__setitem__" = some Builtin.«bytearray.__setitem__» := by first | exact entryFor_of_fast (by kernel_rfl) | exact entryFor_of_tree (by kernel_rfl)
theorem ba_args_len (a : Value) : argsOk "bytearray.__len__" ⟨[a], []⟩ := by first | rfl | trivial | (unfold argsOk; kernel_rfl)
theorem ba_args_get (a i : Value) : argsOk "bytearray.__getitem__" ⟨[a, i], []⟩ := by first | rfl | trivial | (unfold argsOk; kernel_rfl)
theorem ba_args_set (a i v : Value) : argsOk "bytearray.__setitem__" ⟨[a, i, v], []⟩ := by first | rfl | trivial | (unfold argsOk; kernel_rfl)
section
variable {prog : Program} {w : World} {A : Around} {E : Value → Shared → Prop} {s : Shared} {a : Addr} {b : Array UInt8}
theorem ba_payload {M : Model} {Q : Array UInt8 → Shared → Prop} (ho : s.heap.get? a = some (barr b)) (h : Q b s) : wpAny M A (Bytes.payload (.ref a)) Q E s := by
  unfold Bytes.payload Bytes.payload?
  exact wpAny_bind (wpAny_bind (wpAny_load ho (wpAny_pure (wpAny_pure h))))
theorem ba_len {Q : Value → Shared → Prop} (ho : s.heap.get? a = some (barr b)) (hz : b.size ≤ 12) (h : ∀ k t, Q (.int b.size t) { s with toks := k }) : wpAny (model prog w) A (call (.builtin "len") [.ref a]) Q E s := by
  have hT : s.TypeIs (.ref a) "bytearray" := ⟨_, ho, rfl⟩
  refine call_len_meets (n := b.size) (S := fun _ R s' => s'.heap.get? a = some (barr b) ∧ R (.ok (.ret (.int b.size s'.toks))) { s' with toks := s'.toks + 1 }) hT ba_slot_len ba_entry_len (ba_args_len _) ?_ (by omega) (by omega) (fun Q' q => ⟨ho, q⟩) (h _ _)
  rintro prog w A R s ⟨ho, hR⟩
  unfold Builtin.«bytearray.__len__»
  refine wpAny_bind (wpAny_of_eq (a := (.ref a, [])) rfl ?_)
  exact wpAny_bind (ba_payload ho (wpAny_bind (wpAny_mkInt (wpAny_pure hR))))
theorem sub_int {M : Model} {i : Int} {u : Tok} {Q : Option Int → Shared → Prop} (h0 : 0 ≤ i) (h1 : i < 256) (h : Q (some i) s) : wpAny M A (Bytes.subscript? (.int i u)) Q E s := by
  unfold Bytes.subscript?
  refine wpAny_bind (wpAny_specialOf (typeIs_int s i u) F.slot_int_index.lookup ?_)
  show wpAny M A (if (!Bytes.fitsIndex i) = true then _ else pure (some i)) _ E s
  rw [show Bytes.fitsIndex i = true by simp [Bytes.fitsIndex]; omega]
  exact wpAny_pure h
theorem seqIndex_in {i : Int} {n : Nat} (h0 : 0 ≤ i) (h1 : i < n) : seqIndex? i n = some i.toNat := by
  have hn : ¬ i < 0 := by omega
  simp [seqIndex?, hn, h0, h1]
theorem ba_get {i : Int} {u : Tok} {x : UInt8} {Q : Value → Shared → Prop} (ho : s.heap.get? a = some (barr b)) (h0 : 0 ≤ i) (h1 : i < 12) (hx : b[i.toNat]? = some x) (h : ∀ k t, Q (.int x.toNat t) { s with toks := k }) : wpAny (model prog w) A (getItem (.ref a) (.int i u)) Q E s := by
  have hT : s.TypeIs (.ref a) "bytearray" := ⟨_, ho, rfl⟩
  refine wpAny_getItem_slot hT (by decide) ba_slot_get ?_
  refine wpAny_call_entry ba_slot_get hT ba_entry_get ?_ (ba_args_get _ _)
  unfold Builtin.«bytearray.__getitem__»
  refine wpAny_bind (wpAny_of_eq (a := (.ref a, [.int i u])) rfl ?_)
  refine wpAny_bind (sub_int h0 (by omega) ?_)
  refine wpAny_bind (ba_payload ho ?_)
  have hlt : i.toNat < b.size := (Array.getElem?_eq_some_iff.mp hx).1
  rw [seqIndex_in h0 (by omega)]
  show wpAny _ _ (match b[i.toNat]? with | some x => retInt x.toNat | none => _) _ _ _
  rw [hx]
  exact wpAny_bind (wpAny_mkInt (wpAny_pure ⟨_, rfl, h _ _⟩))
theorem ba_set {i n : Int} {u t : Tok} {Q : Unit → Shared → Prop} (ho : s.heap.get? a = some (barr b)) (h0 : 0 ≤ i) (h1 : i < b.size) (hz : b.size ≤ 12) (hn0 : 0 ≤ n) (hn1 : n < 256)
    (h : ∀ h', h'.get? a = some (barr (b.setIfInBounds i.toNat n.toNat.toUInt8)) → Heap.SameBut a s.heap h' → Q () { s with heap := h' }) : wpAny (model prog w) A (setItem (.ref a) (.int i u) (.int n t)) Q E s := by
  have hT : s.TypeIs (.ref a) "bytearray" := ⟨_, ho, rfl⟩
  unfold setItem
  refine wpAny_holding ?_
  refine wpAny_bind (wpAny_sequenceKey hT (by decide) ?_)
  refine wpAny_bind (wpAny_callSpecial?_slot (name := Str.ofString "__setitem__") hT ba_slot_set
    (wpAny_call_entry ba_slot_set hT ba_entry_set ?_ (ba_args_set _ _ _)))
  unfold Builtin.«bytearray.__setitem__»
  show wpAny _ _ (Bytes.subscript? (.int i u) >>= _) _ _ _
  refine wpAny_bind (sub_int h0 (by omega) ?_)
  show wpAny _ _ (Bytes.byteValue (.int n t) >>= _) _ _ _
  refine wpAny_bind (m := Bytes.byteValue (.int n t)) ?_
  unfold Bytes.byteValue
  refine wpAny_bind (wpAny_of_eq (rfl : asIndex (.int n t) = pure n) ?_)
  refine bm_if_false (by simp only [Bool.or_eq_false_iff, decide_eq_false_iff_not]; omega) ?_
  refine wpAny_pure ?_
  refine wpAny_bind (ba_payload ho ?_)
  rw [seqIndex_in h0 h1]
  refine wpAny_bind (ba_write ho (by rw [sizeLine_eq, Array.size_setIfInBounds]; omega) fun h' e hs => ?_)
  exact wpAny_pure ⟨_, rfl, wpAny_pure (h h' e hs)⟩
end
end -- ME
example : True := by first | (w_top off; walk1) | trivial
section -- MF
open Sem (wp)
open Builtin
theorem ba_no_bytes : typeLookup (.type "bytearray") "__bytes__" = pure none := by rw [typeLookup_type, builtinLookup_eq_fast]; kernel_rfl
theorem ba_no_index : typeLookup (.type "bytearray") "__index__" = pure none := by rw [typeLookup_type, builtinLookup_eq_fast]; kernel_rfl
theorem rg_no_bytes : typeLookup (.type "range") "__bytes__" = pure none := by rw [typeLookup_type, builtinLookup_eq_fast]; kernel_rfl
theorem rg_no_index : typeLookup (.type "range") "__index__" = pure none := by rw [typeLookup_type, builtinLookup_eq_fast]; kernel_rfl
theorem rg_no_buffer : typeLookup (.type "range") "__buffer__" = pure none := by rw [typeLookup_type, builtinLookup_eq_fast]; kernel_rfl
section
variable {prog : Program} {w : World} {A : Around} {E : Value → Shared → Prop} {s : Shared} {a : Addr} {b : Array UInt8}
theorem ba_ownBuffer {Q : Bool → Shared → Prop} {M : Model} (ho : s.heap.get? a = some (barr b)) (h : Q true s) : wpAny M A (Bytes.slotIsOwn (.ref a) "__buffer__") Q E s := by
  have hT : s.TypeIs (.ref a) "bytearray" := ⟨_, ho, rfl⟩
  unfold Bytes.slotIsOwn
  refine wpAny_bind (wpAny_specialOf hT ba_buffer ?_)
  dsimp only
  rw [if_neg (by decide +kernel)]
  have e : "bytearray.__buffer__".dropRight ("__buffer__".length + 1) = "bytearray" := by decide +kernel
  rw [e]
  exact wpAny_isInstance hT ba_sub h
theorem ba_bufferFull {id : String} {Q : Option (Array UInt8) → Shared → Prop} {M : Model} (ho : s.heap.get? a = some (barr b)) (h : Q (some b) s) : wpAny M A (Bytes.buffer? id (.ref a) true) Q E s := by
  have hT : s.TypeIs (.ref a) "bytearray" := ⟨_, ho, rfl⟩
  unfold Bytes.buffer?
  refine wpAny_bind (wpAny_specialOf hT ba_buffer ?_)
  refine wpAny_bind (ba_ownBuffer ho ?_)
  refine bm_if_false rfl ?_
  refine wpAny_bind (wpAny_specialOf hT ba_buffer ?_)
  refine wpAny_bind (ba_ownRelease ho ?_)
  refine bm_if_false rfl ?_
  exact wpAny_bind (ba_payload ho (wpAny_pure h))
theorem bytes_new_ba {Q : Value → Shared → Prop} (ho : s.heap.get? a = some (barr b)) (hz : b.size ≤ 12) (hQ : ∀ t k, Q (.bytes b t) { s with toks := k }) :
    codeAny (model prog w) A (.call (.builtin "bytes.__new__") ⟨[.type "bytes", .ref a], []⟩) (wants Q E) s := by
  have hT : s.TypeIs (.ref a) "bytearray" := ⟨_, ho, rfl⟩
  refine codeAny_of_tree ?_
  show wpAny _ A.in1 (do checkBuiltinCall "bytes.__new__" ⟨[.type "bytes", .ref a], []⟩; again (.builtin "bytes.__new__" ⟨[.type "bytes", .ref a], []⟩)) _ _ s
  refine wpAny_bind (wpAny_of_eq (F.bm_newCall _) (wpAny_pure ⟨plainId_quiet F.bm_plain _, codeAny_builtin F.bm_entry ?_⟩))
  rw [Around.under_plainId F.bm_plain _]
  unfold Builtin.«bytes.__new__»
  refine wpAny_bind (wpAny_of_eq (a := true) rfl ?_)
  refine bm_if_false rfl ?_
  refine wpAny_bind (wpAny_of_eq F.bm_sub ?_)
  refine bm_if_false rfl ?_
  refine wpAny_bind (wpAny_of_eq (F.bm_bind _) ?_)
  refine wpAny_bind (wpAny_of_eq (a := ()) rfl ?_)
  refine wpAny_bind (wpAny_of_eq (a := ()) rfl ?_)
  refine bm_if_false rfl ?_
  refine wpAny_bind (wpAny_specialOf hT ba_no_bytes ?_)
  refine wpAny_bind (wpAny_bind ?_)
  show wpAny _ _ (load a >>= _) _ _ _
  refine wpAny_bind (wpAny_load ho ?_)
  refine wpAny_pure (wpAny_pure ?_)
  refine bm_if_false rfl ?_
  refine wpAny_bind (wpAny_specialOf hT ba_no_index ?_)
  refine bm_if_true rfl ?_
  show wpAny _ _ (Builtin.Bytes.buffer? "bytes.__new__" (.ref a) true >>= _) _ _ _
  refine wpAny_bind (ba_bufferFull ho ?_)
  refine wpAny_bind (wpAny_rule ?_)
  refine wpAny_bind (wpAny_mkBytes ?_ (by rw [sizeLine_eq]; omega))
  show wpAny _ _ (if (Value.type "bytes" == Value.type "bytes") = true then _ else _) _ _ _
  refine bm_if_true (by decide) ?_
  first
    | exact wpAny_pure (hQ _ _)
    | exact wpAny_bind (wpAny_pure (wpAny_pure (hQ _ _)))
theorem call_bytes_ba {Q : Value → Shared → Prop} (ho : s.heap.get? a = some (barr b)) (hz : b.size ≤ 12) (hQ : ∀ t k, Q (.bytes b t) { s with toks := k }) : wpAny (model prog w) A (call (.type "bytes") [.ref a]) Q E s := by
  refine callType_codes (Q₁ := fun obj s₁ => s₁.TypeIs obj "bytes" ∧ Q obj s₁) F.bm_called (F.bm_typeCall _) F.entry_object_init
    (bytes_new_ba ho hz fun t k => ⟨PySem.W.typeIs_bytes _ _ _, hQ t k⟩) fun obj s₁ h₁ => ?_
  exact ⟨h₁.1, F.args_object_init_2 obj _, object_init_meets F.bm_called.init.lookup F.bm_called.made (by decide) prog w A.in1 _ s₁ ⟨h₁.1, rfl, h₁.2⟩⟩
end
end -- MF
example : True := by first | (w_top off; walk1) | trivial
section -- MG
open Sem (wp)
open Builtin
section
variable {prog : Program} {w : World} {A : Around} {E : Value → Shared → Prop} {s : Shared}
noncomputable def upBytes (n : Nat) : Array UInt8 := ((List.range n).map fun i => i.toUInt8).toArray
theorem upBytes_push (n : Nat) : upBytes (n + 1) = (upBytes n).push n.toUInt8 := by
  unfold upBytes
  rw [List.range_succ]
  simp
theorem upBytes_size (n : Nat) : (upBytes n).size = n := by simp [upBytes]
theorem rb_loop {R : Result → Shared → Prop} {I S : Addr} (hh : A.handled = none) (hIS : I ≠ S) (n : Nat) (hn : n ≤ 12) :
    ∀ (k i : Nat) (s : Shared), n - i = k → i ≤ n → IsRangeIter s.heap I (0 + (i : Nat) * 1) ((n : Int) - (i : Nat)) 1 → s.heap.get? S = some (barr (upBytes i)) →
      (∀ h' t k', (∀ b o, b ≠ I → b ≠ S → s.heap.get? b = some o → h'.get? b = some o) → R (.ok (.ret (.bytes (upBytes n) t))) { s with heap := h', toks := k' }) →
      codeAny (model prog w) A (.builtin "bytes.__new__.loop" ⟨[.type "bytes", .ref I, .ref S], []⟩) R s := by
  have W := Walks.range (prog := prog) (w := w) (A := A.in1) hh I 0 1 n
  intro k
  induction k with
  | zero =>
    intro i s hk hle hit hS hR
    have hin : i = n := by omega
    subst hin
    refine codeAny_builtin F.bm_entry_loop ?_
    rw [Around.under_plainId F.bm_plain_loop _]
    show wpAny _ A.in1 (pyNext (.ref I) >>= _) _ _ s
    refine wpAny_bind (W.done s _ _ hit fun h' tk he => ?_)
    have hS' : h'.get? S = some (barr (upBytes i)) := he S _ (by simp; exact Ne.symm hIS) hS
    refine wpAny_bind (ba_payload hS' ?_)
    refine wpAny_bind (wpAny_mkBytes ?_ (by rw [upBytes_size, sizeLine_eq]; omega))
    show wpAny _ _ (if (Value.type "bytes" == Value.type "bytes") = true then _ else _) _ _ _
    refine bm_if_true (by decide) ?_
    first
      | exact wpAny_pure (hR h' _ _ fun b o hb _ e => he b o (by simpa using hb) e)
      | exact wpAny_bind (wpAny_pure (wpAny_pure (hR h' _ _ fun b o hb _ e => he b o (by simpa using hb) e)))
  | succ k ih =>
    intro i s hk hle hit hS hR
    have hlt : i < n := by omega
    refine codeAny_builtin F.bm_entry_loop ?_
    rw [Around.under_plainId F.bm_plain_loop _]
    show wpAny _ A.in1 (pyNext (.ref I) >>= _) _ _ s
    refine wpAny_bind (W.item i s _ _ hlt hit fun v h' tk hv hit' hs => ?_)
    obtain ⟨t, rfl⟩ := hv
    have hS' : h'.get? S = some (barr (upBytes i)) := hs S _ (by simp; exact Ne.symm hIS) hS
    refine wpAny_bind (wpAny_holding (wpAny_of_eq (rfl : asIndex (.int (0 + (i : Int) * 1) t) = pure (0 + (i : Int) * 1)) ?_))
    refine wpAny_bind (wpAny_letGo ?_)
    refine bm_if_false (by simp only [Bool.or_eq_false_iff, decide_eq_false_iff_not]; omega) ?_
    refine wpAny_bind (ba_write hS' (by rw [sizeLine_eq, Array.size_push, upBytes_size]; omega) fun h₂ hS₂ hs₂ => ?_)
    have e : (0 + (i : Int) * 1).toNat = i := by omega
    rw [e, ← upBytes_push] at hS₂
    refine wpAny_pure ⟨plainId_quiet F.bm_plain_loop _, ih (i + 1) { s with heap := h₂, toks := tk } (by omega) hlt ?_ hS₂ fun h3 t' k' hk3 => ?_⟩
    · exact (hs₂.2 I hIS).trans hit'
    · exact hR h3 t' k' fun b o hbI hbS e => hk3 b o hbI hbS ((hs₂.2 b hbS).trans (hs b o (by simpa using hbI) e))
theorem rg_split : splitId "range.__len__" = some ("range", "__len__") := by decide +kernel
theorem rg_sub : isSubtype (.type "range") (.type "range") = pure true := by rw [isSubtype_type]; kernel_rfl
theorem rg_hint {r : Addr} {t u v : Tok} {Q : Unit → Shared → Prop} (hr : IsRange s.heap r 0 12 1 t u v) (h : ∀ k, Q () { s with toks := k }) : wpAny (model prog w) A (Bytes.lengthHint "bytes.__new__" (.ref r)) Q E s := by
  have hT : s.TypeIs (.ref r) "range" := ⟨_, hr, rfl⟩
  unfold Bytes.lengthHint
  refine wpAny_bind (wpAny_specialOf hT F.slot_range_len.lookup ?_)
  dsimp only
  rw [rg_split]
  dsimp only
  refine wpAny_bind (wpAny_isInstance hT rg_sub ?_)
  refine bm_if_false rfl ?_
  refine bm_if_false (by decide +kernel) ?_
  refine bm_if_true rfl ?_
  refine wpAny_bind (wpAny_rule ?_)
  refine wpAny_bind (wpAny_attempt (call_len_range (n := 12) hr (by decide +kernel) (by decide) ?_))
  refine wpAny_bind (wpAny_of_eq (a := some 12) rfl ?_)
  dsimp only
  refine bm_if_false (by unfold Bytes.tooLong; rw [sizeLine_eq]; decide) ?_
  exact wpAny_pure (h _)
theorem bytes_new_range {r : Addr} {t u v : Tok} {Q : Value → Shared → Prop} (hh : A.handled = none) (hr : IsRange s.heap r 0 12 1 t u v)
    (hQ : ∀ h' t k, (∀ b o, s.heap.get? b = some o → h'.get? b = some o) → Q (.bytes (upBytes 12) t) { s with heap := h', toks := k }) :
    codeAny (model prog w) A (.call (.builtin "bytes.__new__") ⟨[.type "bytes", .ref r], []⟩) (wants Q E) s := by
  have hT : s.TypeIs (.ref r) "range" := ⟨_, hr, rfl⟩
  refine codeAny_of_tree ?_
  show wpAny _ A.in1 (do checkBuiltinCall "bytes.__new__" ⟨[.type "bytes", .ref r], []⟩; again (.builtin "bytes.__new__" ⟨[.type "bytes", .ref r], []⟩)) _ _ s
  refine wpAny_bind (wpAny_of_eq (F.bm_newCall _) (wpAny_pure ⟨plainId_quiet F.bm_plain _, codeAny_builtin F.bm_entry ?_⟩))
  rw [Around.under_plainId F.bm_plain _]
  unfold Builtin.«bytes.__new__»
  refine wpAny_bind (wpAny_of_eq (a := true) rfl ?_)
  refine bm_if_false rfl ?_
  refine wpAny_bind (wpAny_of_eq F.bm_sub ?_)
  refine bm_if_false rfl ?_
  refine wpAny_bind (wpAny_of_eq (F.bm_bind _) ?_)
  refine wpAny_bind (wpAny_of_eq (a := ()) rfl ?_)
  refine wpAny_bind (wpAny_of_eq (a := ()) rfl ?_)
  refine bm_if_false rfl ?_
  refine wpAny_bind (wpAny_specialOf hT rg_no_bytes ?_)
  refine wpAny_bind (wpAny_bind ?_)
  show wpAny _ _ (load r >>= _) _ _ _
  refine wpAny_bind (wpAny_load hr ?_)
  refine wpAny_pure (wpAny_pure ?_)
  refine bm_if_false rfl ?_
  refine wpAny_bind (wpAny_specialOf hT rg_no_index ?_)
  refine bm_if_true rfl ?_
  show wpAny _ _ (Builtin.Bytes.buffer? "bytes.__new__" (.ref r) true >>= _) _ _ _
  refine wpAny_bind ?_
  unfold Builtin.Bytes.buffer?
  refine wpAny_bind (wpAny_specialOf hT rg_no_buffer ?_)
  refine wpAny_bind (wpAny_specialOf hT rg_no_buffer ?_)
  refine wpAny_pure ?_
  refine wpAny_bind (wpAny_tryCatch (wpAny_pyIter_range hr (by decide +kernel) ?_))
  refine wpAny_bind (wpAny_holding ?_)
  have hI₀ : (s.heap.push { cls := .type "range_iterator", data := .fields #[rawInt 0, rawInt (Range.rangeSize 0 12 1), rawInt 1] }).get? s.heap.objs.size = some { cls := .type "range_iterator", data := .fields #[rawInt 0, rawInt (Range.rangeSize 0 12 1), rawInt 1] } := Heap.get?_push_size _ rfl
  refine rg_hint (Heap.get?_push_of_some _ hr) fun k => ?_
  refine wpAny_bind ?_
  unfold Builtin.Bytes.newBytearray
  refine wpAny_newObj_type ?_ (Nat.zero_le _)
  have hsz : (s.heap.push { cls := .type "range_iterator", data := .fields #[rawInt 0, rawInt (Range.rangeSize 0 12 1), rawInt 1] }).objs.size = s.heap.objs.size + 1 := Heap.size_push _ _
  refine wpAny_pure ⟨plainId_quiet F.bm_plain_loop _, rb_loop (n := 12) hh (I := s.heap.objs.size) ?_ (Nat.le_refl _) 12 0 _ rfl (Nat.zero_le _) ?_ (Heap.get?_push_size _ rfl) ?_⟩
  · exact Nat.ne_of_lt (by rw [hsz]; exact Nat.lt_succ_self _)
  · exact Heap.get?_push_of_some _ hI₀
  · intro h' t' k' hk
    exact hQ h' t' k' fun b o e => hk b o (Nat.ne_of_lt (Heap.lt_size e)) (Nat.ne_of_lt (by rw [hsz]; exact Nat.lt_succ_of_lt (Heap.lt_size e))) (Heap.get?_push_of_some _ (Heap.get?_push_of_some _ e))
theorem call_bytes_range {r : Addr} {t u v : Tok} {Q : Value → Shared → Prop} (hh : A.handled = none) (hr : IsRange s.heap r 0 12 1 t u v)
    (hQ : ∀ h' t k, (∀ b o, s.heap.get? b = some o → h'.get? b = some o) → Q (.bytes (upBytes 12) t) { s with heap := h', toks := k }) : wpAny (model prog w) A (call (.type "bytes") [.ref r]) Q E s := by
  refine callType_codes (Q₁ := fun obj s₁ => s₁.TypeIs obj "bytes" ∧ Q obj s₁) F.bm_called (F.bm_typeCall _) F.entry_object_init
    (bytes_new_range hh hr fun h' t k hk => ⟨PySem.W.typeIs_bytes _ _ _, hQ h' t k hk⟩) fun obj s₁ h₁ => ?_
  exact ⟨h₁.1, F.args_object_init_2 obj _, object_init_meets F.bm_called.init.lookup F.bm_called.made (by decide) prog w A.in1 _ s₁ ⟨h₁.1, rfl, h₁.2⟩⟩
end
end -- MG
example : True := by first | (w_top off; walk1) | trivial
section -- MI
open Sem (wp)
open Builtin
theorem by_slot_iter : Slot "bytes" "__iter__" "bytes.__iter__" :=
  .of (owner := "bytes") (n := "__iter__") (by rw [typeLookup_type, builtinLookup_eq_fast]; kernel_rfl) (by decide +kernel) (by decide +kernel) (by decide +kernel)
    (by first | exact .inl (by decide +kernel) | exact .inr (by decide +kernel)) (by rw [isSubtype_type]; kernel_rfl)
theorem bi_slot_next : Slot "bytes_iterator" "__next__" "bytes_iterator.__next__" :=
  .of (owner := "bytes_iterator") (n := "__next__") (by rw [typeLookup_type, builtinLookup_eq_fast]; kernel_rfl) (by decide +kernel) (by decide +kernel) (by decide +kernel)
    (by first | exact .inl (by decide +kernel) | exact .inr (by decide +kernel)) (by rw [isSubtype_type]; kernel_rfl)
theorem bi_slot_iter : Slot "bytes_iterator" "__iter__" "bytes_iterator.__iter__" :=
  .of (owner := "bytes_iterator") (n := "__iter__") (by rw [typeLookup_type, builtinLookup_eq_fast]; kernel_rfl) (by decide +kernel) (by decide +kernel) (by decide +kernel)
    (by first | exact .inl (by decide +kernel) | exact .inr (by decide +kernel)) (by rw [isSubtype_type]; kernel_rfl)
theorem by_entry_iter : entryFor table "bytes.__iter__" = some Builtin.«bytes.__iter__» := by first | exact entryFor_of_fast (by kernel_rfl) | exact entryFor_of_tree (by kernel_rfl)
theorem bi_entry_next : entryFor table "bytes_iterator.__next__" = some Builtin.«bytes_iterator.__next__» := by first | exact entryFor_of_fast (by kernel_rfl) | exact entryFor_of_tree (by kernel_rfl)
theorem bi_entry_iter : entryFor table "bytes_iterator.__iter__" = some Builtin.«dict_keyiterator.__iter__» := entryFor_alias (id' := "dict_keyiterator.__iter__") (by kernel_rfl) rfl (by decide +kernel) (by kernel_rfl)
theorem by_args_iter (a : Value) : argsOk "bytes.__iter__" ⟨[a], []⟩ := by first | rfl | trivial | (unfold argsOk; kernel_rfl)
theorem bi_args_next (a : Value) : argsOk "bytes_iterator.__next__" ⟨[a], []⟩ := by first | rfl | trivial | (unfold argsOk; kernel_rfl)
theorem bi_args_iter (a : Value) : argsOk "bytes_iterator.__iter__" ⟨[a], []⟩ := by first | rfl | trivial | (unfold argsOk; kernel_rfl)
noncomputable abbrev biObj (b : Array UInt8) (t : Tok) (i : Nat) : Obj := { cls := .type "bytes_iterator", data := .fields #[.bytes b t, .int i 0] }
section
variable {prog : Program} {w : World} {A : Around} {E : Value → Shared → Prop} {s : Shared} {b : Array UInt8} {t : Tok} {it : Addr} {i : Nat}
theorem by_iter {Q : Value → Shared → Prop} (hQ : Q (.ref s.heap.objs.size) { s with heap := s.heap.push (biObj b t 0) }) : wpAny (model prog w) A (pyIter (.bytes b t)) Q E s := by
  refine wpAny_pyIter_slot (PySem.W.typeIs_bytes s b t) by_slot_iter (wpAny_call_entry by_slot_iter (PySem.W.typeIs_bytes s b t) by_entry_iter ?_ (by_args_iter _))
  show wpAny _ _ (do ret (← newFields "bytes_iterator" [.bytes b t, rawInt 0])) _ _ s
  exact wpAny_bind (wpAny_newObj_type (wpAny_pure ⟨_, rfl, "bytes_iterator", _, ⟨_, Heap.get?_push_size _ rfl, rfl⟩, bi_slot_next.lookup, hQ⟩))
theorem bi_item {c : UInt8} {Q : Option Value → Shared → Prop} (ho : s.heap.get? it = some (biObj b t i)) (hx : b[i]? = some c)
    (hQ : ∀ h', h'.get? it = some (biObj b t (i + 1)) → Heap.SameBut it s.heap h' → Q (some (.int c.toNat s.toks)) { s with heap := h', toks := s.toks + 1 }) : wpAny (model prog w) A (pyNext (.ref it)) Q E s := by
  have hT : s.TypeIs (.ref it) "bytes_iterator" := ⟨_, ho, rfl⟩
  unfold pyNext
  refine wpAny_bind (wpAny_attempt (wpAny_callSpecial?_slot (name := Str.ofString "__next__") hT bi_slot_next (wpAny_call_entry bi_slot_next hT bi_entry_next ?_ (bi_args_next _))))
  show wpAny _ _ (field (.ref it) 0 >>= _) _ _ s
  refine wpAny_bind (wpAny_field ho rfl (x := .bytes b t) rfl ?_)
  show wpAny _ _ (field (.ref it) 1 >>= _) _ _ s
  refine wpAny_bind (wpAny_field ho rfl (x := .int i 0) rfl ?_)
  refine wpAny_bind (wpAny_of_eq (a := b) rfl ?_)
  simp only [Int.toNat_natCast, hx]
  refine wpAny_bind (wpAny_setField ho rfl (by simp) (wpAny_bind (wpAny_mkInt (wpAny_pure ⟨_, rfl, wpAny_pure (hQ _ ?_ (Heap.SameBut.update ..))⟩))))
  refine (Heap.get?_update_self _ ho (Obj.isFreed_of_fields (Obj.data_mapFields rfl _))).trans ?_
  simp [Obj.mapFields, rawInt]
theorem bi_end {Q : Option Value → Shared → Prop} (hh : A.handled = none) (ho : s.heap.get? it = some (biObj b t i)) (hx : b[i]? = none)
    (hQ : ∀ h', Heap.ExtBut it s.heap h' → Q none { s with heap := h' }) : wpAny (model prog w) A (pyNext (.ref it)) Q E s := by
  have hT : s.TypeIs (.ref it) "bytes_iterator" := ⟨_, ho, rfl⟩
  unfold pyNext
  refine wpAny_bind (wpAny_attempt (wpAny_callSpecial?_slot (name := Str.ofString "__next__") hT bi_slot_next (wpAny_call_entry bi_slot_next hT bi_entry_next ?_ (bi_args_next _))))
  show wpAny _ _ (field (.ref it) 0 >>= _) _ _ s
  refine wpAny_bind (wpAny_field ho rfl (x := .bytes b t) rfl ?_)
  show wpAny _ _ (field (.ref it) 1 >>= _) _ _ s
  refine wpAny_bind (wpAny_field ho rfl (x := .int i 0) rfl ?_)
  refine wpAny_bind (wpAny_of_eq (a := b) rfl ?_)
  simp only [Int.toNat_natCast, hx]
  refine wpAny_bind (wpAny_rule (wpAny_bind (wpAny_setField ho rfl (by simp) ?_)))
  show wpAny _ _ (newExc (.type "StopIteration") [] >>= _) _ _ _
  refine wpAny_bind ?_
  simp only [newExc, newTuple]
  refine wpAny_bind (wpAny_newObj_type ?_ (by size_fits))
  refine wpAny_bind (m := firstArgMember _ _) (wpAny_of_eq (a := Value.none) (by first | rfl | (simp only [firstArgMember]; rfl)) ?_)
  refine wpAny_newObj_type ?_ (by size_fits)
  simp only [raiseNew]
  refine wpAny_bind (wpAny_handled ?_)
  rw [show A.in1.handled = none from hh]
  refine wpAny_bind (wpAny_pure (wpAny_throw ?_))
  refine wpAny_bind (wpAny_isInstance (T := "StopIteration") (b := true) ⟨_, Heap.get?_push_size _ rfl, rfl⟩ isSubtype_stop ?_)
  exact wpAny_pure (hQ _ (((Heap.SameBut.update ..).extBut.push _).push _))
noncomputable def ByteAt (b : Array UInt8) (i : Nat) (v : Value) : Prop := ∃ c u, b[i]? = some c ∧ v = .int c.toNat u
theorem walks_bytes (hh : A.handled = none) (I : Addr) (b : Array UInt8) (t : Tok) : Walks prog w A I [I] [I] b.size (ByteAt b) (fun i h => h.get? I = some (biObj b t i)) where
  sub := fun _ hb => hb
  frame := fun _ _ _ st hk => hk I (by simp) _ st
  item := fun i s Q E hi st hQ => by
    refine bi_item st (c := b[i]) (by simp [hi]) fun h' hit' hs' => ?_
    exact hQ _ h' (s.toks + 1) ⟨_, _, by simp [hi], rfl⟩ hit' fun b o hb e => hs'.extBut b o (fun h => hb (by simp [h])) e
  done := fun s Q E st hQ => bi_end hh st (by simp) fun h' he' => hQ h' s.toks fun b o hb e => he' b o (fun h => hb (by simp [h])) e
  self := fun i s Q E st hQ => by
    have hT : s.TypeIs (.ref I) "bytes_iterator" := ⟨_, st, rfl⟩
    refine wpAny_pyIter_slot hT bi_slot_iter (wpAny_call_entry bi_slot_iter hT bi_entry_iter ?_ (bi_args_iter _))
    show wpAny _ _ (ret (.ref I)) _ _ s
    exact wpAny_pure ⟨_, rfl, "bytes_iterator", _, hT, bi_slot_next.lookup, hQ⟩
theorem by_len : typeLookup (.type "bytes") "__len__" = pure (some (.builtin "bytes.__len__")) := by rw [typeLookup_type, builtinLookup_eq_fast]; kernel_rfl
theorem by_extend {R : Result → Shared → Prop} (hh : A.handled = none) (b : Array UInt8) (t : Tok) (S : Addr) (res : Value) (c₀ : Nat) (hS : s.heap.get? S = some { cls := .type "list", data := .seq #[] c₀ })
    (hR : ∀ h' tk acc' c', (∀ b o, b ≠ S → s.heap.get? b = some o → h'.get? b = some o) → h'.get? S = some { cls := .type "list", dict := none, data := .seq acc' c', slots := #[] } →
      ItemsOf (ByteAt b) acc' b.size → R (.ok (.ret res)) { s with heap := h', toks := tk }) (hn : b.size ≤ 12) :
    wpAny (model prog w) A.in1 (Builtin.List.listExtendWith (.ref S) (.bytes b t) res)
      (fun fin s' => match fin with | .done f => R (.ok f) s' | .again c' => c'.quiet = true ∧ codeAny (model prog w) A c' R s') (fun e s' => R (.error e) s') s := by
  have hSI : S ≠ s.heap.objs.size := Nat.ne_of_lt (Heap.lt_size hS)
  have hSf : S ∉ [s.heap.objs.size] := fun hm => hSI (List.mem_singleton.mp hm)
  unfold Builtin.List.listExtendWith
  refine wpAny_bind (wpAny_typeOf (T := "bytes") (v := .bytes b t) rfl ?_)
  have h1 : Builtin.List.listSameRef (.ref S) (.bytes b t) = false := rfl
  have h2 : (Value.type "bytes" == Value.type "list") = false := by decide
  have h3 : (Value.type "bytes" == Value.type "tuple") = false := by decide
  simp only [h1, h2, h3, Bool.or_false, Bool.false_eq_true, if_false]
  refine wpAny_bind (by_iter ?_)
  refine wpAny_bind (wpAny_holding ?_)
  unfold Builtin.List.listLengthHint
  refine wpAny_bind (wpAny_specialOf (T := "bytes") (v := .bytes b t) rfl by_len ?_)
  wp_delta
  refine wpAny_bind (wpAny_isInstance (T := "bytes") (v := .bytes b t) (b := true) rfl (by rw [isSubtype_type]; kernel_rfl) ?_)
  show wpAny _ _ (typeOf (Value.bytes b t) >>= _) _ _ _
  refine wpAny_bind (wpAny_typeOf (T := "bytes") (v := .bytes b t) rfl ?_)
  refine wpAny_pure ?_
  rw [if_neg (by decide)]
  refine wpAny_pure ⟨plainId_quiet F.plain_extend_loop _, codeAny_extend_loopS (walks_bytes (A := A.in1) hh s.heap.objs.size b t).toS (by rw [sizeLine_eq]; omega) _ hSf _ b.size 0 _ _ _ rfl (Nat.zero_le _) (Heap.get?_push_size _ rfl) (Heap.get?_push_of_some _ hS) (ItemsOf.nil _) fun s' acc' c' hm hS' hacc => ?_⟩
  rw [Moved.eq_with hm]
  refine hR s'.heap s'.toks acc' c' (fun b ob hb e => hm.heap b ob (fun hmem => ?_) (Heap.get?_push_of_some _ e)) hS' hacc
  rcases List.mem_cons.mp hmem with e' | hmem
  · exact hb e'
  · exact absurd (Heap.lt_size e) (by rw [List.mem_singleton.mp hmem]; exact Nat.lt_irrefl _)
theorem list_init_bytes {R : Result → Shared → Prop} (hh : A.handled = none) (b : Array UInt8) (t : Tok) (S : Addr) (hS : s.heap.get? S = some { cls := .type "list", data := .seq #[] })
    (hR : ∀ h' tk acc' c', (∀ b o, b ≠ S → s.heap.get? b = some o → h'.get? b = some o) → h'.get? S = some { cls := .type "list", dict := none, data := .seq acc' c', slots := #[] } →
      ItemsOf (ByteAt b) acc' b.size → R (.ok (.ret .none)) { s with heap := h', toks := tk }) (hn : b.size ≤ 12) :
    wpAny (model prog w) A.in1 (Builtin.«list.__init__» ⟨[.ref S, .bytes b t], []⟩)
      (fun fin s' => match fin with | .done f => R (.ok f) s' | .again c' => c'.quiet = true ∧ codeAny (model prog w) A c' R s') (fun e s' => R (.error e) s') s := by
  show wpAny _ _ (do let old ← Builtin.List.listItems (.ref S); Builtin.List.listUpdate (.ref S) (fun _ => #[]); letGo old.toList.reverse; Builtin.List.listExtendWith (.ref S) (.bytes b t) .none) _ _ s
  refine wpAny_bind ?_
  unfold Builtin.List.listItems
  refine wpAny_bind (wpAny_seqItems hS rfl (wpAny_pure ?_))
  show wpAny _ _ (updateSeq S (fun _ => #[]) >>= fun _ => letGo (#[] : Array Value).toList.reverse >>= fun _ => Builtin.List.listExtendWith (.ref S) (.bytes b t) .none) _ _ s
  refine wpAny_bind (wpAny_updateSeq hS rfl ?_)
  have hS₂ := Heap.get?_update_self (Obj.mapSeq (fun _ => (#[] : Array Value))) hS rfl
  have oth : ∀ b o, b ≠ S → s.heap.get? b = some o → (s.heap.update S (Obj.mapSeq (fun _ => (#[] : Array Value)))).get? b = some o :=
    fun b o hb e => (Heap.get?_update_other _ _ (Ne.symm hb)).trans e
  refine wpAny_bind (wpAny_letGo ?_)
  refine by_extend hh b t S .none _ hS₂ (fun h' tk acc' c' hk hS' hacc => ?_) hn
  exact hR h' tk acc' c' (fun b o hb e => hk b o hb (oth b o hb e)) hS' hacc
theorem call_list_bytes {Q : Value → Shared → Prop} (hh : A.handled = none) (b : Array UInt8) (t : Tok) (hn : b.size ≤ 12)
    (hQ : ∀ h' tk acc' c', (∀ b o, s.heap.get? b = some o → h'.get? b = some o) →
      h'.get? s.heap.objs.size = some { cls := .type "list", dict := none, data := .seq acc' c', slots := #[] } → ItemsOf (ByteAt b) acc' b.size → Q (.ref s.heap.objs.size) { s with heap := h', toks := tk }) :
    wpAny (model prog w) A (call (.type "list") [.bytes b t]) Q E s := by
  refine callType_codes (Q₁ := fun obj s₁ => obj = .ref s.heap.objs.size ∧ s₁ = { s with heap := s.heap.push { cls := .type "list", data := .seq #[] } }) F.called_list (F.typeCall_list_1 _) F.entry_list_init
    (code_list_new _ ⟨rfl, rfl⟩) fun obj s₁ h₁ => ?_
  obtain ⟨rfl, rfl⟩ := h₁
  have hS : (s.heap.push { cls := .type "list", data := .seq #[] }).get? s.heap.objs.size = some { cls := .type "list", data := .seq #[] } := Heap.get?_push_size _ rfl
  refine ⟨⟨_, hS, rfl⟩, F.args_list_init_2 _ _, list_init_bytes (A := A.in1) hh b t _ hS (fun h' tk acc' c' hk hS' hacc => ?_) hn⟩
  exact ⟨rfl, hQ h' tk acc' c' (fun b o e => hk b o (Nat.ne_of_lt (Heap.lt_size e)) (Heap.get?_push_of_some _ e)) hS' hacc⟩
end
end -- MI
example : True := by first | (w_top off; walk1) | trivial
section -- MJ
section
variable {w : World} {A : Around} {E : Value → Shared → Prop} {s : Shared} {env : Env} {h₀ : Heap} {x : Str} {body : List Stmt} {Q : Flow → Shared → Prop}
theorem TurnTo.sub {L I : Addr} {own own' : List (Addr × Obj)} {J : (Str → Option Value) → List (Addr × Obj) → Prop} {s₁ : Shared} {f : Flow} {s₂ : Shared} (h : ∀ p ∈ own', p ∈ own) (t : TurnTo h₀ L I own J s₁ Q f s₂) : TurnTo h₀ L I own' J s₁ Q f s₂ := by
  cases f with
  | ret v => exact t
  | brk => exact t
  | next =>
    obtain ⟨h', tk, m', led', e, F, N, hI, hJ⟩ := t
    exact ⟨h', tk, m', led', e, F, fun p hp => N p ((List.mem_append.mp hp).elim (List.mem_append_left _) fun q => List.mem_append_right _ (h p q)), hI, hJ⟩
  | cont =>
    obtain ⟨h', tk, m', led', e, F, N, hI, hJ⟩ := t
    exact ⟨h', tk, m', led', e, F, fun p hp => N p ((List.mem_append.mp hp).elim (List.mem_append_left _) fun q => List.mem_append_right _ (h p q)), hI, hJ⟩
noncomputable abbrev riObj (x left step : Int) : Obj := { cls := .type "range_iterator", data := .fields #[rawInt x, rawInt left, rawInt step] }
/-- over a range -/
theorem loop_range {r : Addr} {a b c : Int} {t u v : Tok} {n : Nat} {m : Str → Option Value} {led : List (Addr × Obj)} (hr : IsRange s.heap r a b c t u v) (hsmall : Builtin.Range.small a b c = true) (hn : Builtin.Range.rangeSize a b c = n)
    (F : Fr h₀ env.locals s.heap m) (N : News h₀ env.locals s.heap led) (hh : A.handled = none)
    (J : Nat → (Str → Option Value) → List (Addr × Obj) → Prop) (h0 : J 0 m led)
    (step : ∀ I i t' m₁ led₁ h₁ tk₁ oI, I = s.heap.objs.size → i < n → J i m₁ led₁ → (∀ p ∈ led₁, p.1 ≠ I) →
      Fr h₀ env.locals h₁ (fun y => if y = x then some (.int (a + (i : Int) * c) t') else m₁ y) → News h₀ env.locals h₁ (led₁ ++ [(I, oI)]) →
      wpAny (model Pg w) A (execs body env) (TurnTo h₀ env.locals I [(I, oI)] (J (i + 1)) { s with heap := h₁, toks := tk₁ } Q) E { s with heap := h₁, toks := tk₁ })
    (done : ∀ h' tk m' led', Fr h₀ env.locals h' m' → News h₀ env.locals h' led' → J n m' led' → Q .next { s with heap := h', toks := tk }) :
    wpAny (model Pg w) A (pyIter (.ref r)) (fun it s₂ => LoopAtV Pg w A h₀ env x body Q E it s₂) E s := by
  refine wpAny_pyIter_range hr hsmall ?_
  have W := Walks.range (prog := Pg) (w := w) (A := A) hh s.heap.objs.size a c n
  have F₂ := F.push (riObj a (Builtin.Range.rangeSize a b c) c)
  have h0' : IsRangeIter (s.heap.push (riObj a (Builtin.Range.rangeSize a b c) c)) s.heap.objs.size (a + ((0 : Nat) : Int) * c) ((n : Int) - ((0 : Nat) : Int)) c := by
    show _ = _
    rw [hn]; simpa using Heap.get?_push_size _ rfl
  refine loop_walks (fp := [s.heap.objs.size]) (m := m) (led := led) W ?_ (next_is_new F) h0' F₂ (fun p hp => ⟨Heap.get?_push_of_some _ (N p hp).1, (N p hp).2⟩) (fun p hp => Nat.ne_of_lt (Heap.lt_size (N p hp).1)) J h0 ?_ ?_ ?_
  · intro hm
    exact absurd F.ns.lt (List.mem_singleton.mp hm ▸ Nat.lt_irrefl _)
  · intro i v m₁ led₁ s₁ own hs hin hP hJ hI hfp hlive hall _ F₁ N₁
    obtain ⟨o, ho⟩ := hlive
    obtain ⟨h, tk, rfl⟩ := hs
    obtain ⟨t', rfl⟩ := hP
    have hm := hall _ (.head _) (next_is_new F) o ho
    refine wpAny_mono (step _ i t' m₁ led₁ h tk o rfl hin hJ hI F₁ (fun p hp => N₁ p ?_)) (fun f s₂ q => q.sub fun p hp => ?_) fun _ _ e => e
    · rcases List.mem_append.mp hp with hp | hp
      · exact List.mem_append_left _ hp
      · rw [List.mem_singleton.mp hp]; exact List.mem_append_right _ hm
    · have e1 := List.mem_singleton.mp (hfp p hp)
      have e2 := (N₁ p (List.mem_append_right _ hp)).1
      rw [e1, ho] at e2
      obtain ⟨p1, p2⟩ := p
      cases e1; cases e2
      exact .head _
  · intro i h e
    exact ⟨_, e⟩
  · intro h' tk m' led' F' N' hJ
    exact done h' tk m' led' F' N' hJ
/-- over a list of the ledger that the body leaves alone -/
theorem loop_listE {l : Addr} {its : Array Value} {nn : Nat} {m : Str → Option Value} {led : List (Addr × Obj)} (hl : (l, W.listOf its nn) ∈ led) (F : Fr h₀ env.locals s.heap m) (N : News h₀ env.locals s.heap led) (hh : A.handled = none)
    (J : Nat → (Str → Option Value) → List (Addr × Obj) → Prop) (h0 : J 0 m led)
    (step : ∀ I i v m₁ led₁ h₁ tk₁ oI, I = s.heap.objs.size → i < its.size → its[i]? = some v → J i m₁ led₁ → (∀ p ∈ led₁, p.1 ≠ I) → l ≠ I →
      Fr h₀ env.locals h₁ (fun y => if y = x then some v else m₁ y) → News h₀ env.locals h₁ (led₁ ++ [(I, oI), (l, W.listOf its nn)]) →
      wpAny (model Pg w) A (execs body env) (TurnTo h₀ env.locals I [(I, oI), (l, W.listOf its nn)] (J (i + 1)) { s with heap := h₁, toks := tk₁ } Q) E { s with heap := h₁, toks := tk₁ })
    (done : ∀ h' tk m' led', Fr h₀ env.locals h' m' → News h₀ env.locals h' led' → J its.size m' led' → Q .next { s with heap := h', toks := tk }) :
    wpAny (model Pg w) A (pyIter (.ref l)) (fun it s₂ => LoopAtV Pg w A h₀ env x body Q E it s₂) E s := by
  have hls : s.heap.IsList l its := ⟨_, (N _ hl).1, rfl, nn, rfl⟩
  have hne : l ≠ s.heap.objs.size := Nat.ne_of_lt (Heap.lt_size (N _ hl).1)
  have W₀ := Walks.list (prog := Pg) (w := w) (A := A) hh s.heap.objs.size l hne its
  have W' : Walks Pg w A s.heap.objs.size [s.heap.objs.size, l] [s.heap.objs.size] its.size (fun i v => its[i]? = some v) (fun i h => h.IsListIter s.heap.objs.size l i ∧ h.get? l = some (W.listOf its nn)) := by
    have hl' : ∀ h : Heap, h.get? l = some (W.listOf its nn) → h.IsList l its := fun h e => ⟨_, e, rfl, nn, rfl⟩
    refine ⟨W₀.sub, fun i h h' st hk => ⟨st.1.at fun o e => hk _ (by simp) o e, hk _ (by simp) _ st.2⟩, fun i s Q E hi st hQ => ?_, fun s Q E st hQ => ?_, fun i s Q E st hQ => ?_⟩
    · exact W₀.item i s Q E hi ⟨st.1, hl' _ st.2⟩ fun v h' tk hP hst hk => hQ v h' tk hP ⟨hst.1, hk l _ (by simpa using hne) st.2⟩ hk
    · exact W₀.done s Q E ⟨st.1, hl' _ st.2⟩ hQ
    · exact W₀.self i s Q E ⟨st.1, hl' _ st.2⟩ hQ
  refine wpAny_pyIter_list hls ?_
  have F₂ := F.push { cls := .type "list_iterator", data := .fields #[.ref l, .int 0 0] }
  refine loop_walks (fp := [s.heap.objs.size, l]) (m := m) (led := led) W' ?_ (next_is_new F) ⟨⟨_, Heap.get?_push_size _ rfl, rfl, rfl⟩, Heap.get?_push_of_some _ (N _ hl).1⟩ F₂ (fun p hp => ⟨Heap.get?_push_of_some _ (N p hp).1, (N p hp).2⟩) (fun p hp => Nat.ne_of_lt (Heap.lt_size (N p hp).1)) J h0 ?_ ?_ ?_
  · intro hm
    rcases List.mem_cons.mp hm with e | hm
    · exact absurd F.ns.lt (e ▸ Nat.lt_irrefl _)
    · exact (N _ hl).2.1 (List.mem_singleton.mp hm).symm
  · intro i v m₁ led₁ s₁ own hs hin hP hJ hI hfp hlive hall hst F₁ N₁
    obtain ⟨o, ho⟩ := hlive
    obtain ⟨h, tk, rfl⟩ := hs
    have hmI := hall _ (.head _) (next_is_new F) o ho
    have hml := hall _ (.tail _ (.head _)) (N _ hl).2.2 _ hst.2
    refine wpAny_mono (step _ i v m₁ led₁ h tk o rfl hin hP hJ hI hne F₁ (fun p hp => N₁ p ?_)) (fun f s₂ q => q.sub fun p hp => ?_) fun _ _ e => e
    · rcases List.mem_append.mp hp with hp | hp
      · exact List.mem_append_left _ hp
      · rcases List.mem_cons.mp hp with rfl | hp
        · exact List.mem_append_right _ hmI
        · rw [List.mem_singleton.mp hp]; exact List.mem_append_right _ hml
    · have e2 := (N₁ p (List.mem_append_right _ hp)).1
      rcases List.mem_cons.mp (hfp _ hp) with e1 | e1
      · rw [e1] at e2
        have e3 : p = (s.heap.objs.size, o) := Prod.ext e1 (Option.some.inj (e2.symm.trans ho))
        rw [e3]; exact .head _
      · have e1 := List.mem_singleton.mp e1
        rw [e1] at e2
        have e3 : p = (l, W.listOf its nn) := Prod.ext e1 (Option.some.inj (e2.symm.trans hst.2))
        rw [e3]; exact .tail _ (.head _)
  · rintro i h ⟨⟨o, ho, _⟩, _⟩
    exact ⟨o, ho⟩
  · intro h' tk m' led' F' N' hJ
    exact done h' tk m' led' F' N' hJ
end
/-- a stop for the walk -/
noncomputable def Hold (p : Prop) : Prop := p
theorem for_hold {w : World} {A : Around} {E : Value → Shared → Prop} {s : Shared} {env : Env} {h₀ : Heap} {x : Str} {body : List Stmt} {Q : Flow → Shared → Prop} {m : Str → Option Value} {px pos : Pos} {iter : Expr} (F : Fr h₀ env.locals s.heap m) (hx : env.kindOf x = some .local)
    (hp : (env.scope.kind == .class || (env.scope.kind == .module && env.locals != env.globals)) = false)
    (h : wpAny (model Pg w) A (eval iter env) (fun xv s₁ => Hold (wpAny (model Pg w) A (pyIter xv) (fun it s₂ => LoopAtV Pg w A h₀ env x body Q E it s₂) E s₁)) E s)
    (hs : ∀ x, foldedSetIterable iter env x = pure x := by intro _; rfl)
    (hE : PassesOwn (model Pg w) A env E := by passes_own) :
    wpAny (model Pg w) A (exec (.For (.Name x px) iter body [] pos) env) Q E s := For_invVF F hx hp h hs
/-- what a clean call says -/
noncomputable def TellC (w : World) (A : Around) (h₀ : Heap) (s : Shared) (foc : List (Addr × Obj)) (t : Sem Value) (post : Value → List (Addr × Obj) → Prop) : Prop :=
  ∀ (rest : List (Addr × Obj)) (Q E : Value → Shared → Prop), Stat w h₀ → Kp h₀ s.heap → Led h₀ s.heap (foc ++ rest) → (∀ p ∈ foc, ∀ q ∈ rest, p.1 ≠ q.1) →
    (∀ r foc' h' tk', post r foc' → (∀ p ∈ foc', ∀ q ∈ rest, p.1 ≠ q.1) → Kp h₀ h' → Led h₀ h' (foc' ++ rest) → Q r { s with heap := h', toks := tk' }) →
    wpC (model Pg w) A t Q E s
theorem TellC.use {w : World} {A : Around} {h₀ : Heap} {s : Shared} {foc : List (Addr × Obj)} {t : Sem Value} {post : Value → List (Addr × Obj) → Prop} (H : TellC w A h₀ s foc t post)
    {L : Addr} {m : Str → Option Value} {led news : List (Addr × Obj)} {mean : ExcName → Option Value} {mg mb : Str → Option Value} {Q E : Value → Shared → Prop}
    (X : (hd.heap_1 w.params).In h₀) (T : Top Vw Lo mean mg mb h₀) (F : Fr h₀ L s.heap m) (N : News h₀ L s.heap led) (hsub : ∀ p ∈ foc ++ news, p ∈ led) (hap : ∀ p ∈ foc, ∀ q ∈ news, p.1 ≠ q.1)
    (hQ : ∀ r foc' h' tk', post r foc' → Fr h₀ L h' m → News h₀ L h' (foc' ++ news) → (∀ p ∈ foc', ∀ q ∈ news, p.1 ≠ q.1) → Q r { s with heap := h', toks := tk' }) : wpC (model Pg w) A t Q E s := by
  have N₂ : News h₀ L s.heap (foc ++ news) := fun p hp => N p (hsub p hp)
  obtain ⟨oL, D, hne, back, hlt⟩ := frame_obj F N₂
  refine H (news ++ [(L, oL)]) Q E ⟨X, mean, mg, mb, T⟩ (Kp.of_fr F) (by rw [← List.append_assoc]; exact D) (fun p hp q hq => ?_) fun r foc' h' tk' hp hn K' D' => ?_
  · rcases List.mem_append.mp hq with hq | hq
    · exact hap p hp q hq
    · rw [List.mem_singleton.mp hq]
      exact hne p (List.mem_append_left _ hp)
  have hL : h'.get? L = some oL := (D' (L, oL) (by simp)).1
  refine hQ r foc' h' tk' hp (back h' hL K') (fun p hp' => ?_) (fun p hp' q hq => hn p hp' q (List.mem_append_left _ hq))
  have hm : p ∈ foc' ++ (news ++ [(L, oL)]) := by
    rcases List.mem_append.mp hp' with h | h
    · exact List.mem_append_left _ h
    · exact List.mem_append_right _ (List.mem_append_left _ h)
  refine ⟨(D' p hm).1, ?_, (D' p hm).2⟩
  rcases List.mem_append.mp hp' with h | h
  · exact hn p h (L, oL) (by simp)
  · exact hne p (List.mem_append_right _ h)
section
variable {w : World} {dp un : Nat} {fr : Option (List Env)} {gd : Option (List Code)} {h₀ : Heap} {s : Shared}
theorem enterK {foc : List (Addr × Obj)} {R : Result → Shared → Prop} {name qual : Str} {params : Arguments} {body : List Stmt} {scope : Scope} {dV kV doc pm cdv ct oc : Value} {an od : Option Addr} {osl : Array (Option Value)} {f : Addr} {args : Args} {binds : List (Str × Value)}
    (S : Stat w h₀) (O : Kp h₀ s.heap) (D : Led h₀ s.heap foc)
    (ho : (hd.heap_1 w.params).lookup f = some ⟨oc, od, .func (fnOf name qual params body scope dV kV doc pm an cdv ct), osl⟩) (hcd : codeIn (hd.heap_1 w.params) cdv qual = true) (hroom : dp < recursionLimit)
    (hbind : BindsTo s (fnOf name qual params body scope dV kV doc pm an cdv ct) args binds) (hloc : ∀ y ∈ binds, scope.names.lookup y.1 = some .local)
    (h : ∀ L h₁ mean mg mb, (hd.heap_1 w.params).In (under s.heap foc) → Top Vw Lo mean mg mb (under s.heap foc) → Fr (under s.heap foc) L h₁ (fun y => binds.reverse.lookup y) → News (under s.heap foc) L h₁ foc →
      wpC (model Pg w) ((mkA dp fr gd un).deeper (envOf qual scope L f cdv)) (execs body (envOf qual scope L f cdv))
        (fun fl s' => R (.ok (.ret (match fl with | .ret v => v | _ => .none))) s') (fun _ _ => False) { s with heap := h₁, toks := s.toks + binds.length })
    (hco : scope.isCoroutine = false) (hgen : scope.isGenerator = false) (hk : scope.kind = .function)
    (hcell : ∀ x ∈ scope.names, x.2 ≠ .cell) : codeC (model Pg w) (mkA dp fr gd un) (.call (.ref f) args) R s := by
  have SU := under_stat S O D
  obtain ⟨X₀, mean, mg, mb, T⟩ := S
  have X := X₀.keeps O.keep
  obtain ⟨XU, mean', mg', mb', TU⟩ := SU
  refine codeC_call_function hroom (X _ _ ho) rfl hco hgen rfl (codeRec_of X hcd) (hbind _ _ _ _ ?_)
  refine wpAny_newFunctionEnv hcell hloc (fun h₁ hns hsb => ⟨(T.nolimit.keeps O.keep).fresh _ hsb, codeC_func ?_⟩) hk
  have hk₁ : ∀ b o, s.heap.get? b = some o → h₁.get? b = some o := fun b o e => hsb.extBut b o (Nat.ne_of_lt (Heap.lt_size e)) (Heap.get?_push_of_some _ e)
  exact h s.heap.objs.size h₁ mean' mg' mb' XU TU ⟨hns, fun b o e => hk₁ b o (under_of e), Nat.le_of_eq (hideAll_size _ _)⟩ (fun p hp => ⟨hk₁ _ _ (D p hp).1, Nat.ne_of_lt (D.lt p hp), under_none hp⟩)
end
end -- MJ
local macro_rules | `(tactic| top_args) => `(tactic| first | (k_unfold; (try dsimp only)) | (k_end; kc_close) | walk1 | (dsimp only; walk1) | (leave1; walk_say "STEP leave1"; (try dsimp only)) | fail "no step")
example : True := by first | (w_top off; walk1) | trivial
section -- M5
section
variable {w : World} {dp un : Nat} {fr : Option (List Env)} {gd : Option (List Code)} {h₀ : Heap} {s : Shared}
theorem fr_keep {L : Addr} {h h' : Heap} {m : Str → Option Value} (F : Fr h₀ L h m) (hk : ∀ b o, h.get? b = some o → h'.get? b = some o) : Fr h₀ L h' m := ⟨F.ns.at' fun o e => hk _ o e, fun b o e => hk b o (F.keep b o e), F.above⟩
theorem news_more {L a : Addr} {h h' : Heap} {m : Str → Option Value} {led : List (Addr × Obj)} {o : Obj} (F : Fr h₀ L h m) (N : News h₀ L h led) (hk : ∀ b o, h.get? b = some o → h'.get? b = some o) (ha : a = h.objs.size) (ho : h'.get? a = some o) : News h₀ L h' ((a, o) :: led) := by
  intro p hp
  subst ha
  rcases List.mem_cons.mp hp with rfl | hp
  · exact ⟨ho, Nat.ne_of_gt F.ns.lt, next_is_new F⟩
  · exact ⟨hk _ _ (N p hp).1, (N p hp).2⟩
theorem len12 {A : Around} {E : Value → Shared → Prop} {b : Array UInt8} {t : Tok} {Q : Value → Shared → Prop} (hb : b.size = 12) (h : ∀ t' k, Q (.int 12 t') { s with toks := k }) : wpAny (model Pg w) A (call (.builtin "len") [.bytes b t]) Q E s := by
  refine len_bytes (by omega) ?_
  rw [hb]
  exact h _ _
/-- what is swapped so far -/
noncomputable def Sw (b : Array UInt8) (w : Nat) (c : Array UInt8) (S : Nat → Prop) : Prop := c.size = 12 ∧ ∀ p, S p → p < 12 → c[p]? = b[p + w - 1 - 2 * (p % w)]?
noncomputable def W12 (x : Int) : Prop := x = 1 ∨ x = 2 ∨ x = 3 ∨ x = 4 ∨ x = 6 ∨ x = 12
theorem w12 (v : Int) : W12 (widthOf v) := by
  have h : 0 ≤ v.fmod 6 ∧ v.fmod 6 < 6 := ⟨Int.fmod_nonneg_of_pos _ (by decide), Int.fmod_lt_of_pos _ (by decide)⟩
  unfold widthOf W12
  have : (v.fmod 6).toNat < 6 := by omega
  generalize (v.fmod 6).toNat = n at this
  match n, this with
  | 0, _ => decide
  | 1, _ => decide
  | 2, _ => decide
  | 3, _ => decide
  | 4, _ => decide
  | 5, _ => decide
theorem small1 {x : Int} (h : W12 x) : Builtin.Range.small 0 x 1 = true := by
  rcases h with rfl | rfl | rfl | rfl | rfl | rfl <;> decide +kernel
theorem size1 {x : Int} (h : W12 x) : Builtin.Range.rangeSize 0 x 1 = (x.toNat : Int) := by
  rcases h with rfl | rfl | rfl | rfl | rfl | rfl <;> decide +kernel
theorem div12 {x : Int} (h : W12 x) {i : Nat} (hi : i < 12 / x.toNat) : 0 ≤ (i : Int) * x ∧ (i : Int) * x + x ≤ 12 ∧ ((i * x.toNat : Nat) : Int) = (i : Int) * x ∧ 1 ≤ x.toNat ∧ (x.toNat : Int) = x := by
  rcases h with rfl | rfl | rfl | rfl | rfl | rfl <;> simp at hi ⊢ <;> omega
theorem small3 {x : Int} (h : W12 x) : Builtin.Range.small 0 12 x = true := by
  rcases h with rfl | rfl | rfl | rfl | rfl | rfl <;> decide +kernel
theorem size3 {x : Int} (h : W12 x) : Builtin.Range.rangeSize 0 12 x = ((12 / x.toNat : Nat) : Int) := by
  rcases h with rfl | rfl | rfl | rfl | rfl | rfl <;> decide +kernel
theorem item12 {A : Around} {E : Value → Shared → Prop} {value slice : Expr} {b : Array UInt8} {t u : Tok} {i : Int} {Q : Value → Shared → Prop} (hb : b.size = 12) (h0 : 0 ≤ i) (h1 : i < 12) (h : ∀ t' k, Q (.int (b.getD i.toNat 0).toNat t') { s with toks := k })
    (hs : subscripted slice false (.bytes b t) (.int i u) = operate [.bytes b t, .int i u] (getItem (.bytes b t) (.int i u)) := by with_unfolding_all rfl)
    (ht : ∀ r, letTemporaryGo value (.bytes b t) r = pure () := by intro _; with_unfolding_all rfl) :
    wpAny (model Pg w) A (subscriptTail value slice (.bytes b t) (.int i u)) Q E s := by
  refine tail_of_ItemOn ⟨"bytes", _, FB.slot_bytes_getitem.lookup, typeIs_bytes _ _ _, ?_⟩ hs ht
  have e : b = b.toList.toArray := by simp
  have e2 : b.getD i.toNat 0 = b.toList.getD i.toNat 0 := by rw [Array.getD_eq_getD_getElem?, List.getD_eq_getElem?_getD, Array.getElem?_toList]
  rw [e]
  refine getItem_bytes (by simp; omega) h0 (by simp; omega) ?_
  rw [← e2]
  exact h _ _
theorem fr_but {L a : Addr} {h h' : Heap} {m : Str → Option Value} (F : Fr h₀ L h m) (hs : Heap.SameBut a h h') (hL : a ≠ L) (h0 : h₀.get? a = none) : Fr h₀ L h' m :=
  ⟨F.ns.at' fun o e => (hs.2 L (Ne.symm hL)).trans e, fun b o e => (hs.2 b fun q => by rw [q, h0] at e; cases e).trans (F.keep b o e), F.above⟩
theorem news_but {L a : Addr} {h h' : Heap} {o o' : Obj} {rest : List (Addr × Obj)} (N : News h₀ L h ((a, o) :: rest)) (hs : Heap.SameBut a h h') (hap : AllNe a rest) (ho : h'.get? a = some o') : News h₀ L h' ((a, o') :: rest) := by
  have hap' : ∀ p ∈ rest, p.1 ≠ a := by
    clear N
    intro p hp
    induction rest with
    | nil => cases hp
    | cons q r ih => rcases List.mem_cons.mp hp with rfl | hp
                     · exact hap.1
                     · exact ih hap.2 hp
  intro p hp
  rcases List.mem_cons.mp hp with rfl | hp
  · exact ⟨ho, (N _ (.head _)).2⟩
  · have z := N p (.tail _ hp)
    exact ⟨(hs.2 _ (hap' p hp)).trans z.1, z.2⟩
theorem ba_setN {A : Around} {E : Value → Shared → Prop} {L a : Addr} {b : Array UInt8} {m : Str → Option Value} {rest : List (Addr × Obj)} {i n : Int} {u t : Tok} {Q : Unit → Shared → Prop} (F : Fr h₀ L s.heap m) (N : News h₀ L s.heap ((a, barr b) :: rest)) (hap : AllNe a rest) (hb : b.size = 12) (h0 : 0 ≤ i) (h1 : i < 12) (hn0 : 0 ≤ n) (hn1 : n < 256)
    (h : ∀ h', Fr h₀ L h' m → News h₀ L h' ((a, barr (b.setIfInBounds i.toNat n.toNat.toUInt8)) :: rest) → Q () { s with heap := h' }) : wpAny (model Pg w) A (setItem (.ref a) (.int i u) (.int n t)) Q E s := by
  have z := N _ (.head _)
  exact ba_set z.1 h0 (by omega) (by omega) hn0 hn1 fun h' e hs => h h' (fr_but F hs z.2.1 z.2.2) (news_but N hs hap e)
theorem byte_lt (x : UInt8) : (0 : Int) ≤ (x.toNat : Int) ∧ (x.toNat : Int) < 256 := ⟨Int.natCast_nonneg _, by show ((x.toNat : Nat) : Int) < ((256 : Nat) : Int); exact Int.ofNat_lt.mpr (UInt8.toNat_lt x)⟩
theorem bytes_baN {A : Around} {E : Value → Shared → Prop} {L a : Addr} {b : Array UInt8} {news : List (Addr × Obj)} {Q : Value → Shared → Prop} (N : News h₀ L s.heap news) (hm : (a, barr b) ∈ news) (hb : b.size = 12) (h : ∀ t k, Q (.bytes b t) { s with toks := k }) : wpAny (model Pg w) A (call (.type "bytes") [.ref a]) Q E s :=
  call_bytes_ba (N _ hm).1 (by omega) h
theorem sw_s (y j r : Nat) : y + (j + r + 1) - 1 - j = y + r := Nat.sub_eq_of_eq_add (Nat.sub_eq_of_eq_add (by omega))
theorem sw_t (j r : Nat) : j + r + 1 - 1 - j = r := Nat.sub_eq_of_eq_add (Nat.add_comm j r)
theorem sw_k {n y j k : Nat} (hk : k = y + n - 1 - j) (hj : j < n) : k = y + (n - 1 - j) := by
  obtain ⟨r, rfl⟩ := Nat.exists_eq_add_of_lt hj
  rw [hk, sw_s, sw_t]
theorem sw_l {n y j k : Nat} (hk : k = y + n - 1 - j) (hj : j < n) : k + n - 1 - 2 * (n - 1 - j) = y + j := by
  obtain ⟨r, rfl⟩ := Nat.exists_eq_add_of_lt hj
  rw [hk, sw_s, sw_t]
  exact Nat.sub_eq_of_eq_add (Nat.sub_eq_of_eq_add (by omega))
theorem sw_p {n y j k p : Nat} (hk : k = y + n - 1 - j) (e : ¬ k = p) (hj : j < n) (hp : p < y ∨ (y + n ≤ p + (j + 1) ∧ p < y + n)) : p < y ∨ (y + n ≤ p + j ∧ p < y + n) := by omega
theorem sw_step0 {b c : Array UInt8} {n y j k l : Nat} (hb : b.size = 12) (hj : j < n) (hy : y + n ≤ 12) (hm : y % n = 0) (hk : k = y + n - 1 - j) (hl : l = y + j)
    (hc : Sw b n c fun p => p < y ∨ (y + n ≤ p + j ∧ p < y + n)) : Sw b n (c.setIfInBounds k (((b.getD l 0).toNat : Int)).toNat.toUInt8) fun p => p < y ∨ (y + n ≤ p + (j + 1) ∧ p < y + n) := by
  refine ⟨by rw [Array.size_setIfInBounds]; exact hc.1, fun p hp hlt => ?_⟩
  have hlb : l < b.size := by rw [hb, hl]; exact Nat.lt_of_lt_of_le (Nat.add_lt_add_left hj y) hy
  have hval : (((b.getD l 0).toNat : Int)).toNat.toUInt8 = b[l] := by
    rw [Int.toNat_natCast, Array.getD_eq_getD_getElem?, Array.getElem?_eq_getElem hlb]
    simp
  rw [hval]
  by_cases e : k = p
  · subst e
    have hkb : k < c.size := by rw [hc.1]; exact hlt
    rw [Array.getElem?_setIfInBounds_self_of_lt hkb]
    have hmk : k % n = n - 1 - j := by
      rw [sw_k hk hj, Nat.add_mod, hm, Nat.zero_add, Nat.mod_mod]
      exact Nat.mod_eq_of_lt (Nat.lt_of_le_of_lt (Nat.sub_le _ _) (Nat.sub_lt (Nat.lt_of_le_of_lt (Nat.zero_le _) hj) Nat.one_pos))
    rw [hmk, sw_l hk hj, ← hl, Array.getElem?_eq_getElem hlb]
  · rw [Array.getElem?_setIfInBounds_ne e]
    exact hc.2 p (sw_p hk e hj hp) hlt
theorem sw_kn {X x k : Int} {y n j : Nat} (hy : (y : Int) = X) (hn : (n : Int) = x) (hj : j < n) (hk : k = 0 + X + x - 1 - (0 + (j : Int) * 1)) : k.toNat = y + n - 1 - j := by
  obtain ⟨r, rfl⟩ := Nat.exists_eq_add_of_lt hj
  have e : k = ((y + r : Nat) : Int) := by omega
  rw [sw_s, e, Int.toNat_natCast]
theorem sw_ln {X l : Int} {y j : Nat} (hy : (y : Int) = X) (hl : l = 0 + X + (0 + (j : Int) * 1)) : l.toNat = y + j := by omega
theorem sw_yn {X x : Int} {y n : Nat} (hy : (y : Int) = X) (hn : (n : Int) = x) (h : X + x ≤ 12) : y + n ≤ 12 := by omega
theorem sw_step {b c : Array UInt8} {x : Int} {i j : Nat} {k l : Int} (h : W12 x) (hb : b.size = 12) (hi : i < 12 / x.toNat) (hj : j < x.toNat) (hk : k = 0 + (i : Int) * x + x - 1 - (0 + (j : Int) * 1)) (hl : l = 0 + (i : Int) * x + (0 + (j : Int) * 1))
    (hc : Sw b x.toNat c fun p => p < i * x.toNat ∨ (i * x.toNat + x.toNat ≤ p + j ∧ p < i * x.toNat + x.toNat)) :
    Sw b x.toNat (c.setIfInBounds k.toNat (((b.getD l.toNat 0).toNat : Int)).toNat.toUInt8) fun p => p < i * x.toNat ∨ (i * x.toNat + x.toNat ≤ p + (j + 1) ∧ p < i * x.toNat + x.toNat) :=
  have d := div12 h hi
  sw_step0 hb hj (sw_yn d.2.2.1 d.2.2.2.2 d.2.1) (Nat.mul_mod_left _ _) (sw_kn d.2.2.1 d.2.2.2.2 hj hk) (sw_ln d.2.2.1 hl) hc
noncomputable def swapA (b : Array UInt8) (w : Nat) : Array UInt8 := Array.ofFn (n := 12) fun p => b.getD (p.val + w - 1 - 2 * (p.val % w)) 0
theorem swapA_size (b : Array UInt8) (w : Nat) : (swapA b w).size = 12 := by simp [swapA]
theorem back_lt {x : Int} (h : W12 x) {p : Nat} (hp : p < 12) : p + x.toNat - 1 - 2 * (p % x.toNat) < 12 := by
  have : ∀ x ∈ [1, 2, 3, 4, 6, 12], ∀ p : Fin 12, p.val + x - 1 - 2 * (p.val % x) < 12 := by decide
  have hx : x.toNat ∈ [1, 2, 3, 4, 6, 12] := by rcases h with rfl | rfl | rfl | rfl | rfl | rfl <;> decide
  exact this _ hx ⟨p, hp⟩
theorem sw_done {b c : Array UInt8} {x : Int} (h : W12 x) (hb : b.size = 12) (hc : Sw b x.toNat c fun p => p < 12 / x.toNat * x.toNat) : c = swapA b x.toNat := by
  have hd : 12 / x.toNat * x.toNat = 12 := by rcases h with rfl | rfl | rfl | rfl | rfl | rfl <;> decide
  refine Array.ext (by rw [hc.1, swapA_size]) fun p h1 h2 => ?_
  have hp : p < 12 := by rw [hc.1] at h1; exact h1
  have e := hc.2 p (by rw [hd]; exact hp) hp
  have hl := back_lt h hp
  rw [Array.getElem?_eq_getElem h1, Array.getElem?_eq_getElem (by rw [hb]; exact hl)] at e
  rw [Option.some.inj e]
  simp only [swapA, Array.getElem_ofFn]
  rw [Array.getD_eq_getD_getElem?, Array.getElem?_eq_getElem (by rw [hb]; exact hl)]
  rfl
inductive SwA (b : Array UInt8) (t : Tok) (v : Int) (tv : Tok) (D : Addr) (i : Nat) (m : Str → Option Value) (led : List (Addr × Obj)) : Prop
  | mk (m1 : m (Str.ofString "data") = some (.bytes b t)) (m2 : m (Str.ofString "width") = some (.int (widthOf v) tv)) (m3 : m (Str.ofString "swapped_data") = some (.ref D)) (c : Array UInt8) (e : led = [(D, barr c)]) (h : Sw b (widthOf v).toNat c fun p => p < i * (widthOf v).toNat)
inductive SwB (b : Array UInt8) (t : Tok) (v : Int) (tv : Tok) (D : Addr) (Io : Addr) (oI : Obj) (i : Nat) (t' : Tok) (j : Nat) (m : Str → Option Value) (led : List (Addr × Obj)) : Prop
  | mk (m1 : m (Str.ofString "data") = some (.bytes b t)) (m2 : m (Str.ofString "width") = some (.int (widthOf v) tv)) (m3 : m (Str.ofString "swapped_data") = some (.ref D)) (m4 : m (Str.ofString "i") = some (.int (0 + (i : Int) * widthOf v) t')) (c' : Array UInt8) (e : led = [(D, barr c'), (Io, oI)]) (h : Sw b (widthOf v).toNat c' fun p => p < i * (widthOf v).toNat ∨ (i * (widthOf v).toNat + (widthOf v).toNat ≤ p + j ∧ p < i * (widthOf v).toNat + (widthOf v).toNat))
theorem swap_tell (b : Array UInt8) (hb : b.size = 12) (t : Tok) (v : Int) (tv : Tok) (hdp : dp + 4 < recursionLimit) : TellC w (mkA dp fr gd un) h₀ s [] (call (.ref 162) [.bytes b t, .int (widthOf v) tv]) (fun r new => new = [] ∧ ∃ t', r = .bytes (swapA b (widthOf v).toNat) t') := by
  intro rest Q E S O D hap hQ
  refine wpC_call (enterK S O (D.sub (List.subset_append_left _ _)) (by k_is) (by k_is) (by omega) (binds := [(Str.ofString "data", .bytes b t), (Str.ofString "width", .int (widthOf v) tv)]) (BindsTo.of_eq rfl) (locs rfl) ?_ rfl rfl rfl (by decide))
  intro L h₁ mean mg mb X T F N
  have hw12 := w12 v
  have hwp := widthOf_pos v
  refine wpC_execs_cons (wpC_Assign_Name rfl (wpC_Call_Name ?_))
  refine wpC_of_any ?_
  k_steps
  refine callWithC_type (args := [(false, eval _ _)]) rfl (evalArgsC (splicedC_cons (wpC_of_any ?_)))
  repeat' (first | ((with_reducible show wpAny _ _ (call (Value.builtin "len") _) _ _ _); refine len12 (by assumption) ?_; top_caught0) | top_args)
  refine splicedC_nil ?_
  refine call_ba_int (by decide) (by decide) fun h₂ e₂ k₂ => ?_
  rename Fr _ _ _ _ => F
  rename News _ _ _ _ => N
  dsimp only at e₂ k₂ ⊢
  have F₂ := fr_keep F k₂
  have N₂ := news_more F N k₂ rfl e₂
  clear F N
  k_steps
  refine wpC_of_any ?_
  repeat' (first | ((with_reducible show wpAny _ _ (exec (Stmt.For (Expr.Name _ _) _ _ _ _) _) _ _ _); with_unfolding_all refine for_hold ‹Fr _ _ _ _› rfl rfl ?_) | ((with_reducible show wpAny _ _ (call (Value.builtin "len") _) _ _ _); refine len12 (by assumption) ?_; top_caught0) | top_args)
  rename Fr _ _ _ _ => F
  rename News _ _ _ _ => N
  rename IsRange _ _ _ _ _ _ _ _ => hr
  unfold Hold
  refine loop_range hr (small3 hw12) (size3 hw12) F N rfl (fun i m led => SwA b t v tv h₁.objs.size i m led) ?_ ?_ ?_
  · refine ⟨rfl, rfl, rfl, _, rfl, ?_, fun p hp => ?_⟩
    · rfl
    · omega
  · intro Io i t' m₁ led₁ h4 tk4 oI hIo hi hZ0 hne F4 N4
    refine byProp fun Pz hPz => ?_
    obtain ⟨m1, m2, m3, c, rfl, hc⟩ := hZ0
    first | replace F4 := fr_at (at1s m1 (at1s m2 (at1s m3 rfl))) F4 | replace F4 := fr_at (at1c (at1s m1 (at1s m2 (at1s m3 rfl)))) F4
    simp only [List.cons_append, List.nil_append] at N4
    try dsimp only at F4 N4
    have hdiv := div12 hw12 hi
    have hne' := allNe_of hne
    simp only [AllNe] at hne'
    refine hPz ?_
    clear hPz Pz
    repeat' (first | ((with_reducible show wpAny _ _ (exec (Stmt.For (Expr.Name _ _) _ _ _ _) _) _ _ _); with_unfolding_all refine for_hold ‹Fr _ _ _ _› rfl rfl ?_) | top_args)
    unfold Hold
    rename Fr _ _ _ _ => F
    rename News _ _ _ _ => N
    rename IsRange _ _ _ _ _ _ _ _ => hr
    refine loop_range hr (small1 hw12) (size1 hw12) F N rfl (fun j m led => SwB b t v tv h₁.objs.size Io oI i t' j m led) ?_ ?_ ?_
    · refine ⟨rfl, rfl, rfl, rfl, _, rfl, hc.1, fun p hp => hc.2 p ?_⟩
      omega
    · intro Ij j t5 m5 led5 h5 tk5 oJ hIj hj hZ0 hnej F5 N5
      refine byProp fun Pz hPz => ?_
      obtain ⟨n1, n2, n3, n4, c', rfl, hc'⟩ := hZ0
      first | replace F5 := fr_at (at1s n1 (at1s n2 (at1s n3 (at1s n4 rfl)))) F5 | replace F5 := fr_at (at1c (at1s n1 (at1s n2 (at1s n3 (at1s n4 rfl))))) F5
      simp only [List.cons_append, List.nil_append] at N5
      try dsimp only at F5 N5
      have hcs := hc'.1
      have hne5 := allNe_of hnej
      simp only [AllNe] at hne5
      refine hPz ?_
      clear hPz Pz
      repeat' (first | ((with_reducible show wpAny _ _ (setItem (Value.ref _) (Value.int _ _) _) _ _ _); refine ba_setN ‹Fr _ _ _ _› ‹News _ _ _ _› (by simp only [AllNe, and_true]; omega) (by assumption) (by omega) (by omega) (byte_lt _).1 (byte_lt _).2 ?_; top_caught0) | ((with_reducible show wpAny _ _ (subscriptTail _ _ _ _) _ _ _); refine item12 (by assumption) (by omega) (by omega) ?_; top_caught0) | top_args)
      rename Fr _ _ _ _ => F9
      rename News _ _ _ _ => N9
      refine TurnTo.next (led' := [(h₁.objs.size, barr _), (Io, oI)]) F9 N9 ?_ ⟨rfl, rfl, rfl, rfl, _, rfl, sw_step hw12 hb hi hj rfl rfl hc'⟩
      · intro p hp
        simp only [List.mem_cons, List.mem_nil_iff, or_false] at hp
        rcases hp with rfl | rfl
        · exact hne5.1
        · exact hne5.2.1
    · intro h6 tk6 m6 led6 F6 N6 hZ0
      refine byProp fun Pz hPz => ?_
      obtain ⟨n1, n2, n3, n4, c', rfl, hc'⟩ := hZ0
      refine hPz ?_
      clear hPz Pz
      dsimp only
      k_steps
      refine TurnTo.next (led' := [(h₁.objs.size, barr c')]) F6 N6 (fun p hp => by rw [List.mem_singleton.mp hp]; exact hne'.1) ⟨n1, n2, n3, _, rfl, hc'.1, fun p hp hlt => hc'.2 p ?_ hlt⟩
      rw [Nat.add_mul, Nat.one_mul] at hp
      omega
  · intro h6 tk6 m6 led6 F6 N6 hZ0
    refine byProp fun Pz hPz => ?_
    obtain ⟨n1, n2, n3, c', rfl, hc'⟩ := hZ0
    refine hPz ?_
    clear hPz Pz
    dsimp only
    first | replace F6 := fr_at (at1s n1 (at1s n2 (at1s n3 rfl))) F6 | replace F6 := fr_at (at1c (at1s n1 (at1s n2 (at1s n3 rfl)))) F6
    have hcs := hc'.1
    repeat' (first | ((with_reducible show wpAny _ _ (call (Value.type "bytes") _) _ _ _); refine bytes_baN ‹News _ _ _ _› (by k_mem) (by assumption) ?_; top_caught0) | top_args)
    exact fin O D hap hQ [] ⟨rfl, _, by rw [sw_done hw12 hb hc']⟩ (by assumption) (by assumption) (by simp)
end
end -- M5
example : True := by first | (w_top off; walk1) | trivial
section -- M6
section
variable {w : World} {dp un : Nat} {fr : Option (List Env)} {gd : Option (List Code)} {h₀ : Heap} {s : Shared}
theorem ba_lenN {A : Around} {E : Value → Shared → Prop} {L a : Addr} {b : Array UInt8} {news : List (Addr × Obj)} {Q : Value → Shared → Prop} (N : News h₀ L s.heap news) (hm : (a, barr b) ∈ news) (hb : b.size = 12) (h : ∀ t' k, Q (.int 12 t') { s with toks := k }) : wpAny (model Pg w) A (call (.builtin "len") [.ref a]) Q E s := by
  refine ba_len (N _ hm).1 (by omega) fun k t' => ?_
  rw [hb]
  exact h t' k
theorem ba_itemN {A : Around} {E : Value → Shared → Prop} {L a : Addr} {b : Array UInt8} {news : List (Addr × Obj)} {value slice : Expr} {u : Tok} {i : Int} {Q : Value → Shared → Prop} (N : News h₀ L s.heap news) (hm : (a, barr b) ∈ news) (hb : b.size = 12) (h0 : 0 ≤ i) (h1 : i < 12) (h : ∀ t' k, Q (.int (b.getD i.toNat 0).toNat t') { s with toks := k })
    (hs : subscripted slice false (.ref a) (.int i u) = operate [.ref a, .int i u] (getItem (.ref a) (.int i u)) := by with_unfolding_all rfl)
    (ht : ∀ r, letTemporaryGo value (.ref a) r = pure () := by intro _; with_unfolding_all rfl) :
    wpAny (model Pg w) A (subscriptTail value slice (.ref a) (.int i u)) Q E s := by
  have hlb : i.toNat < b.size := by omega
  refine tail_of_ItemOn ⟨"bytearray", _, ba_slot_get.lookup, ⟨_, (N _ hm).1, rfl⟩, ba_get (x := b[i.toNat]) (N _ hm).1 h0 h1 (by simp [hlb]) fun k t' => ?_⟩ hs ht
  have e : b.getD i.toNat 0 = b[i.toNat] := by rw [Array.getD_eq_getD_getElem?, Array.getElem?_eq_getElem hlb]; rfl
  rw [← e]
  exact h t' k
inductive SwC (b : Array UInt8) (a : Addr) (v : Int) (tv : Tok) (D : Addr) (i : Nat) (m : Str → Option Value) (led : List (Addr × Obj)) : Prop
  | mk (m1 : m (Str.ofString "data") = some (.ref a)) (m2 : m (Str.ofString "width") = some (.int (widthOf v) tv)) (m3 : m (Str.ofString "swapped_data") = some (.ref D)) (c : Array UInt8) (e : led = [(D, barr c), (a, barr b)]) (h : Sw b (widthOf v).toNat c fun p => p < i * (widthOf v).toNat)
inductive SwD (b : Array UInt8) (a : Addr) (v : Int) (tv : Tok) (D : Addr) (Io : Addr) (oI : Obj) (i : Nat) (t' : Tok) (j : Nat) (m : Str → Option Value) (led : List (Addr × Obj)) : Prop
  | mk (m1 : m (Str.ofString "data") = some (.ref a)) (m2 : m (Str.ofString "width") = some (.int (widthOf v) tv)) (m3 : m (Str.ofString "swapped_data") = some (.ref D)) (m4 : m (Str.ofString "i") = some (.int (0 + (i : Int) * widthOf v) t')) (c' : Array UInt8) (e : led = [(D, barr c'), (a, barr b), (Io, oI)]) (h : Sw b (widthOf v).toNat c' fun p => p < i * (widthOf v).toNat ∨ (i * (widthOf v).toNat + (widthOf v).toNat ≤ p + j ∧ p < i * (widthOf v).toNat + (widthOf v).toNat))
theorem swap_tell_ba (b : Array UInt8) (hb : b.size = 12) (a : Addr) (v : Int) (tv : Tok) (hdp : dp + 4 < recursionLimit) : TellC w (mkA dp fr gd un) h₀ s [(a, barr b)] (call (.ref 162) [.ref a, .int (widthOf v) tv]) (fun r new => new = [(a, barr b)] ∧ ∃ t', r = .bytes (swapA b (widthOf v).toNat) t') := by
  intro rest Q E S O D hap hQ
  refine wpC_call (enterK S O (D.sub (List.subset_append_left _ _)) (by k_is) (by k_is) (by omega) (binds := [(Str.ofString "data", .ref a), (Str.ofString "width", .int (widthOf v) tv)]) (BindsTo.of_eq rfl) (locs rfl) ?_ rfl rfl rfl (by decide))
  intro L h₁ mean mg mb X T F N
  have hlt : @LT.lt Nat _ a h₁.objs.size := Heap.lt_size (N _ (.head _)).1
  have hw12 := w12 v
  have hwp := widthOf_pos v
  refine wpC_execs_cons (wpC_Assign_Name rfl (wpC_Call_Name ?_))
  refine wpC_of_any ?_
  k_steps
  refine callWithC_type (args := [(false, eval _ _)]) rfl (evalArgsC (splicedC_cons (wpC_of_any ?_)))
  repeat' (first | ((with_reducible show wpAny _ _ (call (Value.builtin "len") _) _ _ _); refine ba_lenN ‹News _ _ _ _› (by k_mem) (by assumption) ?_; top_caught0) | top_args)
  refine splicedC_nil ?_
  refine call_ba_int (by decide) (by decide) fun h₂ e₂ k₂ => ?_
  rename Fr _ _ _ _ => F
  rename News _ _ _ _ => N
  dsimp only at e₂ k₂ ⊢
  have F₂ := fr_keep F k₂
  have N₂ := news_more F N k₂ rfl e₂
  clear F N
  k_steps
  refine wpC_of_any ?_
  repeat' (first | ((with_reducible show wpAny _ _ (exec (Stmt.For (Expr.Name _ _) _ _ _ _) _) _ _ _); with_unfolding_all refine for_hold ‹Fr _ _ _ _› rfl rfl ?_) | ((with_reducible show wpAny _ _ (call (Value.builtin "len") _) _ _ _); refine ba_lenN ‹News _ _ _ _› (by k_mem) (by assumption) ?_; top_caught0) | top_args)
  rename Fr _ _ _ _ => F
  rename News _ _ _ _ => N
  rename IsRange _ _ _ _ _ _ _ _ => hr
  unfold Hold
  refine loop_range hr (small3 hw12) (size3 hw12) F N rfl (fun i m led => SwC b a v tv h₁.objs.size i m led) ?_ ?_ ?_
  · refine ⟨rfl, rfl, rfl, _, rfl, ?_, fun p hp => ?_⟩
    · rfl
    · omega
  · intro Io i t' m₁ led₁ h4 tk4 oI hIo hi hZ0 hne F4 N4
    refine byProp fun Pz hPz => ?_
    obtain ⟨m1, m2, m3, c, rfl, hc⟩ := hZ0
    first | replace F4 := fr_at (at1s m1 (at1s m2 (at1s m3 rfl))) F4 | replace F4 := fr_at (at1c (at1s m1 (at1s m2 (at1s m3 rfl)))) F4
    simp only [List.cons_append, List.nil_append] at N4
    try dsimp only at F4 N4
    have hdiv := div12 hw12 hi
    have hne' := allNe_of hne
    simp only [AllNe] at hne'
    refine hPz ?_
    clear hPz Pz
    repeat' (first | ((with_reducible show wpAny _ _ (exec (Stmt.For (Expr.Name _ _) _ _ _ _) _) _ _ _); with_unfolding_all refine for_hold ‹Fr _ _ _ _› rfl rfl ?_) | top_args)
    unfold Hold
    rename Fr _ _ _ _ => F
    rename News _ _ _ _ => N
    rename IsRange _ _ _ _ _ _ _ _ => hr
    refine loop_range hr (small1 hw12) (size1 hw12) F N rfl (fun j m led => SwD b a v tv h₁.objs.size Io oI i t' j m led) ?_ ?_ ?_
    · refine ⟨rfl, rfl, rfl, rfl, _, rfl, hc.1, fun p hp => hc.2 p ?_⟩
      omega
    · intro Ij j t5 m5 led5 h5 tk5 oJ hIj hj hZ0 hnej F5 N5
      refine byProp fun Pz hPz => ?_
      obtain ⟨n1, n2, n3, n4, c', rfl, hc'⟩ := hZ0
      first | replace F5 := fr_at (at1s n1 (at1s n2 (at1s n3 (at1s n4 rfl)))) F5 | replace F5 := fr_at (at1c (at1s n1 (at1s n2 (at1s n3 (at1s n4 rfl))))) F5
      simp only [List.cons_append, List.nil_append] at N5
      try dsimp only at F5 N5
      have hcs := hc'.1
      have hne5 := allNe_of hnej
      simp only [AllNe] at hne5
      refine hPz ?_
      clear hPz Pz
      repeat' (first | ((with_reducible show wpAny _ _ (setItem (Value.ref _) (Value.int _ _) _) _ _ _); refine ba_setN ‹Fr _ _ _ _› ‹News _ _ _ _› (by simp only [AllNe, and_true]; omega) (by assumption) (by omega) (by omega) (byte_lt _).1 (byte_lt _).2 ?_; top_caught0) | ((with_reducible show wpAny _ _ (subscriptTail _ _ _ _) _ _ _); refine ba_itemN ‹News _ _ _ _› (by k_mem) (by assumption) (by omega) (by omega) ?_; top_caught0) | top_args)
      rename Fr _ _ _ _ => F9
      rename News _ _ _ _ => N9
      refine TurnTo.next (led' := [(h₁.objs.size, barr _), (a, barr b), (Io, oI)]) F9 N9 ?_ ⟨rfl, rfl, rfl, rfl, _, rfl, sw_step hw12 hb hi hj rfl rfl hc'⟩
      · intro p hp
        simp only [List.mem_cons, List.mem_nil_iff, or_false] at hp
        rcases hp with rfl | rfl | rfl
        · exact hne5.1
        · exact hne5.2.1
        · exact hne5.2.2.1
    · intro h6 tk6 m6 led6 F6 N6 hZ0
      refine byProp fun Pz hPz => ?_
      obtain ⟨n1, n2, n3, n4, c', rfl, hc'⟩ := hZ0
      refine hPz ?_
      clear hPz Pz
      dsimp only
      k_steps
      refine TurnTo.next (led' := [(h₁.objs.size, barr c'), (a, barr b)]) F6 N6 (fun p hp => by simp only [List.mem_cons, List.mem_nil_iff, or_false] at hp; rcases hp with rfl | rfl; exact hne'.1; exact hne'.2.1) ⟨n1, n2, n3, _, rfl, hc'.1, fun p hp hlt => hc'.2 p ?_ hlt⟩
      rw [Nat.add_mul, Nat.one_mul] at hp
      omega
  · intro h6 tk6 m6 led6 F6 N6 hZ0
    refine byProp fun Pz hPz => ?_
    obtain ⟨n1, n2, n3, c', rfl, hc'⟩ := hZ0
    refine hPz ?_
    clear hPz Pz
    dsimp only
    first | replace F6 := fr_at (at1s n1 (at1s n2 (at1s n3 rfl))) F6 | replace F6 := fr_at (at1c (at1s n1 (at1s n2 (at1s n3 rfl)))) F6
    have hcs := hc'.1
    repeat' (first | ((with_reducible show wpAny _ _ (call (Value.type "bytes") _) _ _ _); refine bytes_baN ‹News _ _ _ _› (by k_mem) (by assumption) ?_; top_caught0) | top_args)
    exact fin O D hap hQ [(a, barr b)] ⟨rfl, _, by rw [sw_done hw12 hb hc']⟩ (by assumption) (by assumption) (by simp)
end
end -- M6
example : True := by first | (w_top off; walk1) | trivial
section -- M7
section
variable {w : World} {dp un : Nat} {fr : Option (List Env)} {gd : Option (List Code)} {h₀ : Heap} {s : Shared}
theorem wpC_IfExp {M : Model} {A : Around} {E : Value → Shared → Prop} {env : Env} {test a b : Expr} {pos : Pos} {Q : Value → Shared → Prop}
    (h : wpAny M A (isTrue test env (eval test env)) (fun c s' => (c = true → wpC M A (eval a env) Q E s') ∧ (c = false → wpC M A (eval b env) Q E s')) E s) : wpC M A (eval (.IfExp test a b pos) env) Q E s := by
  rw [arm_eval_IfExp]
  refine wpC_bindA (wpAny_mono h (fun c s' h' => ?_) fun _ _ x => x)
  cases c
  · exact h'.2 rfl
  · exact h'.1 rfl
theorem fn_at {L f : Addr} {h : Heap} {m : Str → Option Value} {name qual : Str} {params : Arguments} {body : List Stmt} {scope : Scope} {dV kV doc pm cdv ct oc : Value} {an od : Option Addr} {osl : Array (Option Value)}
    (X : (hd.heap_1 w.params).In h₀) (F : Fr h₀ L h m) (ho : (hd.heap_1 w.params).lookup f = some ⟨oc, od, .func (fnOf name qual params body scope dV kV doc pm an cdv ct), osl⟩) : ∃ o fd, h.get? f = some o ∧ o.data = .func fd := ⟨_, _, F.keep _ _ (X _ _ ho), rfl⟩
theorem callWithC_fn {M : Model} {A : Around} {E : Value → Shared → Prop} {pos : Pos} {a : Addr} {args : List (Bool × Sem Value)} {Q : Value → Shared → Prop} (hs : args.any (·.1) = false) (hn : args.length ≤ 30)
    (h : wpC M A (evalArgs (.ref a) true args []) (fun x s₁ => (∃ o fd, s₁.heap.get? a = some o ∧ o.data = .func fd) ∧ wpC M A (call (.ref a) x.pos x.kw) Q E s₁) E s) :
    wpC M A (callWith pos (.ref a) [] args []) Q E s := by
  unfold callWith
  refine wpC_bind (wpC_holding (wpC_mono h (fun x s₁ h₁ => wpC_bindA (wpAny_standAt ?_)) fun _ _ x => x))
  obtain ⟨⟨o, fd, h1, h2⟩, h₁⟩ := h₁
  have tail : ∀ {t : Sem Value}, wpC M A t Q E s₁ → wpC M A (t >>= fun r => holding [r] point >>= fun _ => pure r) Q E s₁ :=
    fun ht => wpC_bind (wpC_mono ht (fun r s₂ hr => wpC_bind (wpC_holding (wpC_of_any (wpAny_point (wpC_pure hr))))) fun _ _ x => x)
  have hs' : (args.any (·.1) || ([] : List (Option Str × Sem Value)).any (·.1.isNone)) = false := by simp [hs]
  rw [hs']
  refine wpC_bindA (m := keeperOf (.ref a)) ?_
  unfold keeperOf
  refine wpAny_bind (wpAny_load h1 ?_)
  rw [h2]
  refine wpAny_pure ?_
  dsimp only
  rw [if_neg (by simp; omega)]
  exact tail (by unfold callMarked; exact wpC_keep h₁)
theorem turned_tell (b : Array UInt8) (hb : b.size = 12) (t : Tok) (v : Int) (tv : Tok) (hdp : dp + 6 < recursionLimit) : TellC w (mkA dp fr gd un) h₀ s [] (call (.ref 191) [.bytes b t, .int v tv]) (fun r new => new = [] ∧ ∃ t', r = .bytes (swapA b (widthOf v).toNat) t') := by
  intro rest Q E S O D hap hQ
  refine wpC_call (enterK S O (D.sub (List.subset_append_left _ _)) (by k_is) (by k_is) (by omega) (binds := [(Str.ofString "octets", .bytes b t), (Str.ofString "value", .int v tv)]) (BindsTo.of_eq rfl) (locs rfl) ?_ rfl rfl rfl (by decide))
  intro L h₁ mean mg mb X T F N
  refine wpC_execs_cons (wpC_Return (wpC_Call_Name (wpC_of_any ?_)))
  k_steps
  refine callWithC_fn (args := [(false, eval _ _), (false, eval _ _)]) rfl (Nat.le_of_ble_eq_true rfl) (evalArgsC (splicedC_cons (wpC_IfExp ?_)))
  k_steps
  · refine wpC_Call_Name (wpC_of_any ?_)
    k_steps
    refine callWithC_type (args := [(false, eval _ _)]) rfl (evalArgsC (splicedC_cons (wpC_of_any ?_)))
    k_steps
    refine splicedC_nil (call_ba_bytes (by omega) fun h₂ e₂ k₂ => ?_)
    rename Fr _ _ _ _ => F
    rename News _ _ _ _ => N
    dsimp only at e₂ k₂ ⊢
    have F₂ := fr_keep F k₂
    have N₂ := news_more F N k₂ rfl e₂
    clear F N
    refine splicedC_cons (wpC_of_any ?_)
    repeat' (first | ((with_reducible show wpAny _ _ (call (Value.ref _) _) _ _ _); refine use_width (by simp only [Around.deeper]; omega) (by k_asm) (by k_asm) (by k_asm) (by k_asm) ?_; top_caught0) | top_args)
    refine splicedC_nil ⟨fn_at X (by assumption) (by k_is), ?_⟩
    rename Fr _ _ _ _ => F
    rename News _ _ _ _ => N
    refine (swap_tell_ba b hb _ v _ (by simp only [Around.deeper]; omega)).use (news := []) X T F N (by simp) (by simp) ?_
    rintro r foc' h' tk' ⟨rfl, t', rfl⟩ F' N' _
    exact fin O D hap hQ [] ⟨rfl, _, rfl⟩ F' N' (by simp)
  · refine wpC_of_any ?_
    k_steps
    refine splicedC_cons (wpC_of_any ?_)
    repeat' (first | ((with_reducible show wpAny _ _ (call (Value.ref _) _) _ _ _); refine use_width (by simp only [Around.deeper]; omega) (by k_asm) (by k_asm) (by k_asm) (by k_asm) ?_; top_caught0) | top_args)
    refine splicedC_nil ⟨fn_at X (by assumption) (by k_is), ?_⟩
    rename Fr _ _ _ _ => F
    rename News _ _ _ _ => N
    refine (swap_tell b hb _ v _ (by simp only [Around.deeper]; omega)).use (news := []) X T F N (by simp) (by simp) ?_
    rintro r foc' h' tk' ⟨rfl, t', rfl⟩ F' N' _
    exact fin O D hap hQ [] ⟨rfl, _, rfl⟩ F' N' (by simp)
end
end -- M7
example : True := by first | (w_top off; walk1) | trivial
section -- M8
noncomputable abbrev liObj (l : Addr) (i : Nat) : Obj := { cls := .type "list_iterator", data := .fields #[.ref l, .int i 0] }
theorem li_iter {h : Heap} {I l : Addr} {i : Nat} (x : h.IsListIter I l i) : ∃ o, h.get? I = some o := let ⟨o, ho, _⟩ := x; ⟨o, ho⟩
section
variable {w : World} {A : Around} {s : Shared} {env : Env} {h₀ : Heap} {x : Str} {body : List Stmt}
theorem for_listC {px : Pos} {R : Result → Shared → Prop} {l I : Addr} {its : Array Value} {nn : Nat} (hh : A.handled = none) (hx : env.kindOf x = some .local)
    (hp : (env.scope.kind == .class || (env.scope.kind == .module && env.locals != env.globals)) = false) (hne : l ≠ I)
    (J : Nat → (Str → Option Value) → List (Addr × Obj) → Prop)
    (step : ∀ i v m₁ led₁ h₁ tk₁ oI, its[i]? = some v → J i m₁ led₁ → (∀ p ∈ led₁, p.1 ≠ I) → Fr h₀ env.locals h₁ (fun y => if y = x then some v else m₁ y) → News h₀ env.locals h₁ (led₁ ++ [(I, oI), (l, W.listOf its nn)]) →
      wpC (model Pg w) A (execs body env) (fun f s₂ => f = .next ∧ ∃ h' tk m' led', s₂ = { s with heap := h', toks := tk } ∧ Fr h₀ env.locals h' m' ∧ News h₀ env.locals h' (led' ++ [(I, oI), (l, W.listOf its nn)]) ∧ (∀ p ∈ led', p.1 ≠ I) ∧ J (i + 1) m' led') (fun _ _ => False) { s with heap := h₁, toks := tk₁ })
    (done : ∀ h' tk m' led', Fr h₀ env.locals h' m' → News h₀ env.locals h' (led' ++ [(l, W.listOf its nn)]) → J its.size m' led' → R (.ok .next) { s with heap := h', toks := tk }) :
    ∀ (k i : Nat) (h : Heap) (tk : Nat) (m : Str → Option Value) (led : List (Addr × Obj)), its.size - i = k → i ≤ its.size → h.IsListIter I l i → I ≠ env.locals → h₀.get? I = none → Fr h₀ env.locals h m → News h₀ env.locals h (led ++ [(l, W.listOf its nn)]) → (∀ p ∈ led, p.1 ≠ I) → J i m led →
      codeC (model Pg w) A (.forLoop (.Name x px) (.ref I) body [] env) R { s with heap := h, toks := tk } := by
  intro k
  induction k with
  | zero =>
    intro i h tk m led hk hi hit hIL hI0 F N hoff hJ
    have hin : i = its.size := by omega
    subst hin
    have hl : h.IsList l its := ⟨_, (N (l, W.listOf its nn) (by simp)).1, rfl, nn, rfl⟩
    refine codeC_of_tree ?_
    show wpC _ A ((forTurn (.Name x px) (.ref I) body [] env).onRaise (fun x => do noteFrame x env; theTreesLotGoes x)) _ _ _
    refine wpC_onRaise ?_
    simp only [forTurn]
    refine wpC_bindA (wpAny_standAt (wpC_bindA (wpAny_onRaise (wpAny_pyNext_list_end hh hit hl (by simp) fun h' he => ?_))))
    refine wpC_pure ⟨rfl, rfl, codeC_of_any (codeAny_block (wpAny_execs_nil ?_))⟩
    refine done h' _ m led ⟨F.ns.at' fun o e => he _ o (Ne.symm hIL) e, fun b o e => he b o (fun q => by rw [q, hI0] at e; cases e) (F.keep b o e), F.above⟩ (fun p hp => ?_) hJ
    have z := N p hp
    refine ⟨he _ _ ?_ z.1, z.2⟩
    rcases List.mem_append.mp hp with hp | hp
    · exact hoff p hp
    · rw [List.mem_singleton.mp hp]; exact hne
  | succ k ih =>
    intro i h tk m led hk hi hit hIL hI0 F N hoff hJ
    have hlt : i < its.size := by omega
    have hl : h.IsList l its := ⟨_, (N (l, W.listOf its nn) (by simp)).1, rfl, nn, rfl⟩
    have hv : its[i]? = some its[i] := Array.getElem?_eq_getElem hlt
    refine codeC_of_tree ?_
    show wpC _ A ((forTurn (.Name x px) (.ref I) body [] env).onRaise (fun x => do noteFrame x env; theTreesLotGoes x)) _ _ _
    refine wpC_onRaise ?_
    simp only [forTurn]
    refine wpC_bindA (wpAny_standAt (wpC_bindA (wpAny_onRaise (wpAny_pyNext_list_item hit hl hv fun h' hit' hs => ?_))))
    refine wpC_bindA (wpAny_of_eq (a := ()) rfl ?_)
    have F' : Fr h₀ env.locals h' m := fr_but F hs hIL hI0
    refine wpC_bindA (wpAny_assign_Name (wpAny_storeName_local hx F'.ns (fun h'' hns hs'' => ?_) hp))
    have F'' := F'.set hns hs''
    obtain ⟨oI, hoI⟩ := li_iter hit'
    have hoI'' : h''.get? I = some oI := (hs''.2 I hIL).trans hoI
    have N'' : News h₀ env.locals h'' (led ++ [(I, oI), (l, W.listOf its nn)]) := by
      intro p hp
      have old : ∀ p ∈ led ++ [(l, W.listOf its nn)], p.1 ≠ I → h''.get? p.1 = some p.2 ∧ p.1 ≠ env.locals ∧ h₀.get? p.1 = none := fun p hp hpI =>
        have z := N p hp
        ⟨(hs''.2 _ z.2.1).trans ((hs.2 _ hpI).trans z.1), z.2⟩
      rcases List.mem_append.mp hp with hp | hp
      · exact old p (List.mem_append_left _ hp) (hoff p hp)
      · rcases List.mem_cons.mp hp with rfl | hp
        · exact ⟨hoI'', hIL, hI0⟩
        · rw [List.mem_singleton.mp hp]
          exact old _ (by simp) hne
    refine wpC_bind (wpC_mono (step i _ m led h'' _ oI hv hJ hoff F'' N'') (fun f s₂ h₂ => ?_) fun _ _ e => e.elim)
    obtain ⟨rfl, h3, tk3, m3, led3, rfl, F3, N3, hoff3, hJ3⟩ := h₂
    have hit3 : h3.IsListIter I l (i + 1) := by
      obtain ⟨o, ho, r⟩ := hit'
      rw [hoI] at ho
      cases ho
      exact ⟨oI, (N3 (I, oI) (by simp)).1, r⟩
    exact wpC_pure ⟨rfl, rfl, ih (i + 1) h3 tk3 m3 led3 (by omega) (by omega) hit3 hIL hI0 F3 (fun p hp => N3 p (by
      rcases List.mem_append.mp hp with hp | hp
      · exact List.mem_append_left _ hp
      · rw [List.mem_singleton.mp hp]; simp)) hoff3 hJ3⟩
theorem for_startC {px pos : Pos} {iter : Expr} {Q : Flow → Shared → Prop} {l : Addr} {its : Array Value} {nn : Nat} (hh : A.handled = none) (hx : env.kindOf x = some .local)
    (hp : (env.scope.kind == .class || (env.scope.kind == .module && env.locals != env.globals)) = false)
    (J : Nat → (Str → Option Value) → List (Addr × Obj) → Prop)
    (hs : ∀ x, foldedSetIterable iter env x = pure x := by intro _; rfl)
    (h : wpAny (model Pg w) A (eval iter env) (fun xv s' => Hold (xv = .ref l ∧ ∃ m led h tk, s' = { s with heap := h, toks := tk } ∧ Fr h₀ env.locals h m ∧ News h₀ env.locals h (led ++ [(l, W.listOf its nn)]) ∧ J 0 m led)) (fun _ _ => False) s)
    (step : ∀ I i v m₁ led₁ h₁ tk₁ oI, l ≠ I → its[i]? = some v → J i m₁ led₁ → (∀ p ∈ led₁, p.1 ≠ I) → Fr h₀ env.locals h₁ (fun y => if y = x then some v else m₁ y) → News h₀ env.locals h₁ (led₁ ++ [(I, oI), (l, W.listOf its nn)]) →
      wpC (model Pg w) A (execs body env) (fun f s₂ => f = .next ∧ ∃ h' tk m' led', s₂ = { s with heap := h', toks := tk } ∧ Fr h₀ env.locals h' m' ∧ News h₀ env.locals h' (led' ++ [(I, oI), (l, W.listOf its nn)]) ∧ (∀ p ∈ led', p.1 ≠ I) ∧ J (i + 1) m' led') (fun _ _ => False) { s with heap := h₁, toks := tk₁ })
    (done : ∀ h' tk m' led', Fr h₀ env.locals h' m' → News h₀ env.locals h' (led' ++ [(l, W.listOf its nn)]) → J its.size m' led' → Q .next { s with heap := h', toks := tk }) :
    wpC (model Pg w) A (exec (.For (.Name x px) iter body [] pos) env) Q (fun _ _ => False) s := by
  rw [exec_For]
  refine wpC_bindA (wpAny_standAt (wpC_bindA (wpAny_mono h (fun xv s₁ h₁ => ?_) fun _ _ e => e)))
  obtain ⟨rfl, m, led, h', tk, rfl, F, N, hJ⟩ := h₁
  refine wpC_bindA (wpAny_of_eq (hs _) (wpC_bindA (wpAny_standAt (wpC_bindA (wpAny_holding ?_)))))
  have hl : h'.IsList l its := ⟨_, (N (l, W.listOf its nn) (by simp)).1, rfl, nn, rfl⟩
  refine wpAny_pyIter_list (s := { s with heap := h', toks := tk }) hl ?_
  unfold runOwn
  have hne : l ≠ h'.objs.size := Nat.ne_of_lt (Heap.lt_size (N (l, W.listOf its nn) (by simp)).1)
  refine wpC_onRaise (wpC_run rfl ?_)
  refine codeC_mono (for_listC (s := s) (R := fun r s' => match r with | .ok f => Q f s' | .error e => False) hh hx hp hne J (fun i v m₁ led₁ h₁ tk₁ oI => step _ i v m₁ led₁ h₁ tk₁ oI hne) done its.size 0 _ tk m led rfl (Nat.zero_le _) ⟨_, Heap.get?_push_size _ rfl, rfl, rfl⟩ (Nat.ne_of_gt F.ns.lt) (next_is_new F) (F.push _)
    (fun p hp => ⟨Heap.get?_push_of_some _ (N p hp).1, (N p hp).2⟩) (fun p hp => Nat.ne_of_lt (Heap.lt_size (N p (List.mem_append_left _ hp)).1)) hJ) fun r s' hr => ?_
  cases r with
  | ok f => exact hr
  | error e => exact hr.elim
end
end -- M8
example : True := by first | (w_top off; walk1) | trivial
section -- M9
section
variable {prog : Program} {w : World} {A : Around} {s : Shared} {env : Env} {E : Value → Shared → Prop}
theorem callWithC_builtin {M : Model} {pos : Pos} {id : String} {first : List Value} {args : List (Bool × Sem Value)} {Q : Value → Shared → Prop} (hs : args.any (·.1) = false)
    (h : wpC M A (evalArgs (.builtin id) true args []) (fun x s₁ => wpC M A (call (.builtin id) (first ++ x.pos) x.kw) Q E s₁) E s) :
    wpC M A (callWith pos (.builtin id) first args []) Q E s := by
  unfold callWith
  refine wpC_bind (wpC_holding (wpC_mono h (fun x s₁ h₁ => wpC_bindA (wpAny_standAt ?_)) fun _ _ x => x))
  have hs' : (args.any (·.1) || ([] : List (Option Str × Sem Value)).any (·.1.isNone)) = false := by simp [hs]
  rw [hs']
  refine wpC_bindA (m := keeperOf (.builtin id)) (wpAny_pure ?_)
  dsimp only
  exact wpC_bind (wpC_mono h₁ (fun r s₂ hr => wpC_bind (wpC_holding (wpC_of_any (wpAny_point (wpC_pure hr))))) fun _ _ x => x)
theorem wpC_Call_append {o elt : Expr} {apos pos : Pos} {Q : Value → Shared → Prop}
    (hbase : attributeBase o "append" env (eval o env) = eval o env)
    (hfew : ((backTo pos (starEach [elt] env)).all (fun x => !x.1) && (backToKw pos (keywordEach [] env)).all (fun x => x.1.isSome)
      && decide (([elt] : List Expr).length + ([] : List Keyword).length + (if ([] : List Keyword).isEmpty then 0 else 1) < 30)) = true)
    (hline : (apos.endLine == pos.line) = true)
    (htrees : backTo pos (starEach [elt] env) = [(false, eval elt env)])
    (h : wpAny (model prog w) A (eval o env) (fun ov s₁ => Hold (∃ D its, ov = .ref D ∧ PlainL s₁.heap D its ∧
      wpC (model prog w) A (eval elt env) (fun y s₂ => wpAny (model prog w) A (call (.builtin "list.append") [.ref D, y]) Q E s₂) E s₁)) E s) :
    wpC (model prog w) A (eval (.Call (.Attribute o "append" apos) [elt] [] pos) env) Q E s := by
  rw [arm_eval_Call, hbase]
  refine wpC_bindA (wpAny_mono h (fun ov s₁ h₁ => ?_) fun _ _ e => e)
  refine byProp fun Pz hPz => ?_
  obtain ⟨D, its, rfl, ⟨ob, n, hob, hc, hd, _⟩, hcall⟩ := h₁
  refine hPz ?_
  clear hPz Pz
  refine wpC_bindA (wpAny_standAt ?_)
  have fin : wpC (model prog w) A (callWith pos (.builtin "list.append") [.ref D] (backTo pos (starEach [elt] env)) []) Q E s₁ := by
    rw [htrees]
    exact callWithC_builtin rfl (evalArgsC (splicedC_cons (wpC_mono hcall (fun y s₂ h₂ => splicedC_nil (wpC_of_any h₂)) fun _ _ e => e)))
  have hform : methodCallForm (([elt] : List Expr).length + ([] : List Keyword).length) (backTo pos (starEach [elt] env)) (backToKw pos (keywordEach [] env)) = true := hfew
  have hpos : methodCallPos true o env apos pos = pure pos := by unfold methodCallPos; simp [hline]
  unfold methodCall
  rw [hform]
  refine wpC_bindA (wpAny_holding (Calls.getMethod_list_append hob hc hd ?_))
  exact wpC_bindA (wpAny_of_eq hpos fin)
theorem wpC_Expr {M : Model} {e : Expr} {pos : Pos} {Q : Flow → Shared → Prop} (hi : interactive env = false) (hs : swapsWith e none pos.line env = pure false)
    (h : wpC M A (eval e env) (fun v s₁ => Hold (v = .none ∧ Q .next s₁)) E s) : wpC M A (exec (.Expr e pos) env) Q E s := by
  rw [exec_Expr env e pos hi hs]
  refine wpC_bindA (wpAny_standAt (wpC_bind (wpC_mono h (fun v s₁ h₁ => ?_) fun _ _ x => x)))
  obtain ⟨rfl, h₁⟩ := h₁
  rw [dropValue_plain (by intro a e; cases e)]
  exact wpC_pure h₁
end
theorem last_N {w : World} {A : Around} {s : Shared} {E : Value → Shared → Prop} {h₀ : Heap} {L l : Addr} {its : Array Value} {n : Nat} {news : List (Addr × Obj)} {value slice : Expr} {u : Tok} {x : Value} {Q : Value → Shared → Prop} (N : News h₀ L s.heap news) (hm : (l, W.listOf its n) ∈ news) (hx : its.back? = some x) (hz : its.size ≤ 1000) (h : Q x s)
    (hs : subscripted slice false (.ref l) (.int (-1) u) = operate [.ref l, .int (-1) u] (getItem (.ref l) (.int (-1) u)) := by with_unfolding_all rfl)
    (ht : ∀ r, letTemporaryGo value (.ref l) r = pure () := by intro _; with_unfolding_all rfl) :
    wpAny (model Pg w) A (subscriptTail value slice (.ref l) (.int (-1) u)) Q E s := by
  have hl : s.heap.IsList l its := ⟨_, (N _ hm).1, rfl, n, rfl⟩
  have hp : 0 < its.size := by
    rcases Nat.eq_zero_or_pos its.size with e | e
    · rw [Array.back?, show its.size - 1 = 0 by omega, Array.getElem?_eq_none (by omega)] at hx; cases hx
    · exact e
  refine tail_of_ItemOn ⟨"list", _, slot_list_getitem.lookup, hl.typeIs, wpAny_getItem_list_neg hl (by decide) (by omega) (by omega) ?_ h⟩ hs ht
  rw [← hx, Array.back?]
  congr 1
  obtain ⟨k, hk⟩ := Nat.exists_eq_add_of_lt hp
  clear h hx hm N hp hz hl
  rw [hk]
  have e : (-1 : Int) + ((0 + k + 1 : Nat) : Int) = ((0 + k : Nat) : Int) := by omega
  rw [e, Int.toNat_natCast]
  rfl
section
variable {w : World} {dp un : Nat} {fr : Option (List Env)} {gd : Option (List Code)} {h₀ : Heap} {s : Shared}
theorem TellC.use0 {A : Around} {t : Sem Value} {post : Value → List (Addr × Obj) → Prop} (H : TellC w A h₀ s [] t post)
    {L : Addr} {m : Str → Option Value} {news : List (Addr × Obj)} {mean : ExcName → Option Value} {mg mb : Str → Option Value} {Q E : Value → Shared → Prop}
    (X : (hd.heap_1 w.params).In h₀) (T : Top Vw Lo mean mg mb h₀) (F : Fr h₀ L s.heap m) (N : News h₀ L s.heap news)
    (hQ : ∀ r new h' tk', post r new → Fr h₀ L h' m → News h₀ L h' (new ++ news) → (∀ p ∈ new, ∀ q ∈ news, p.1 ≠ q.1) → Q r { s with heap := h', toks := tk' }) : wpC (model Pg w) A t Q E s :=
  H.use X T F N (fun p hp => by simpa using hp) (fun p hp => nomatch hp) hQ
/-- the rows of a turning -/
noncomputable def turnsOf (b : Array UInt8) : List Int → List (Array UInt8)
  | [] => [b]
  | v :: vs => b :: turnsOf (swapA b (widthOf v).toNat) vs
inductive BytesAre : List Value → List (Array UInt8) → Prop
  | nil : BytesAre [] []
  | cons (b t) {vs bs} : BytesAre vs bs → BytesAre (.bytes b t :: vs) (b :: bs)
/-- the rows so far, and the last of them -/
noncomputable def RowsTo (b : Array UInt8) (vs : List Int) (its : Array Value) : Prop := ∃ pre last t, its = (pre ++ [Value.bytes last t]).toArray ∧ last.size = 12 ∧ ∃ bs, BytesAre pre bs ∧ ∀ rest, turnsOf b (vs ++ rest) = bs ++ turnsOf last rest
theorem five_at {v0 v1 v2 v3 v4 : Int} {t0 t1 t2 t3 t4 : Tok} {i : Nat} {v : Value} (h : (#[Value.int v0 t0, .int v1 t1, .int v2 t2, .int v3 t3, .int v4 t4] : Array Value)[i]? = some v) : ∃ vi ti, v = .int vi ti ∧ [v0, v1, v2, v3, v4][i]? = some vi := by
  match i, h with
  | 0, h => exact ⟨v0, t0, by simpa using h.symm, rfl⟩
  | 1, h => exact ⟨v1, t1, by simpa using h.symm, rfl⟩
  | 2, h => exact ⟨v2, t2, by simpa using h.symm, rfl⟩
  | 3, h => exact ⟨v3, t3, by simpa using h.symm, rfl⟩
  | 4, h => exact ⟨v4, t4, by simpa using h.symm, rfl⟩
  | n + 5, h => simp at h
theorem BytesAre.snoc {vs : List Value} {bs : List (Array UInt8)} (h : BytesAre vs bs) (b : Array UInt8) (t : Tok) : BytesAre (vs ++ [.bytes b t]) (bs ++ [b]) := by
  induction h with
  | nil => exact .cons b t .nil
  | cons c u _ ih => exact .cons c u ih
theorem BytesAre.len {vs : List Value} {bs : List (Array UInt8)} (h : BytesAre vs bs) : vs.length = bs.length := by
  induction h with
  | nil => rfl
  | cons c u _ ih => simp [ih]
theorem turnsOf_len (b : Array UInt8) (vs : List Int) : (turnsOf b vs).length = vs.length + 1 := by
  induction vs generalizing b with
  | nil => rfl
  | cons v vs ih => simp [turnsOf, ih]
theorem rows_size {b last : Array UInt8} {vs : List Int} {pre : List Value} {bs : List (Array UInt8)} (h : BytesAre pre bs) (e : turnsOf b (vs ++ []) = bs ++ turnsOf last []) : pre.length = vs.length := by
  have := congrArg List.length e
  rw [turnsOf_len] at this
  simp [turnsOf] at this
  rw [h.len]
  omega
theorem rows_step {b : Array UInt8} {vs : List Int} {i : Nat} {vi : Int} {pre : List Value} {last : Array UInt8} {tl t' : Tok} (h : RowsTo b (vs.take i) (pre ++ [Value.bytes last tl]).toArray) (hv : vs[i]? = some vi) :
    RowsTo b (vs.take (i + 1)) (((pre ++ [Value.bytes last tl]).toArray).push (.bytes (swapA last (widthOf vi).toNat) t')) := by
  refine byProp fun Pz hPz => ?_
  obtain ⟨pre', last', t1, e, hs, bs, hb, ht⟩ := h
  have e' : pre ++ [Value.bytes last tl] = pre' ++ [Value.bytes last' t1] := by
    have := congrArg Array.toList e
    rwa [List.toList_toArray, List.toList_toArray] at this
  obtain ⟨rfl, e2⟩ := List.append_inj' e' rfl
  refine hPz ?_
  clear hPz Pz
  cases e2
  refine ⟨pre ++ [.bytes last tl], swapA last (widthOf vi).toNat, t', by simp, swapA_size _ _, bs ++ [last], hb.snoc _ _, fun rest => ?_⟩
  rw [List.take_add_one, hv]
  have := ht (vi :: rest)
  simp [turnsOf] at this ⊢
  exact this
inductive AllJ (b : Array UInt8) (v0 v1 v2 v3 v4 : Int) (l' : Addr) (i : Nat) (m : Str → Option Value) (led : List (Addr × Obj)) : Prop
  | mk (m1 : m (Str.ofString "rows") = some (.ref l')) (its : Array Value) (n' : Nat) (e : led = [(l', W.listOf its n')]) (hsz : its.size ≤ 6) (hR : RowsTo b ([v0, v1, v2, v3, v4].take i) its)
theorem alls_tell (b : Array UInt8) (hb : b.size = 12) (t : Tok) (v0 v1 v2 v3 v4 : Int) (t0 t1 t2 t3 t4 : Tok) (lv : Addr) (n : Nat) (hdp : dp + 8 < recursionLimit) :
    TellC w (mkA dp fr gd un) h₀ s [(lv, W.listOf #[.int v0 t0, .int v1 t1, .int v2 t2, .int v3 t3, .int v4 t4] n)] (call (.ref 198) [.bytes b t, .ref lv])
      (fun r new => ∃ l its n', new = [(l, W.listOf its n'), (lv, W.listOf #[.int v0 t0, .int v1 t1, .int v2 t2, .int v3 t3, .int v4 t4] n)] ∧ r = .ref l ∧ RowsTo b [v0, v1, v2, v3, v4] its) := by
  intro rest Q E S O D hap hQ
  refine wpC_call (enterK S O (D.sub (List.subset_append_left _ _)) (by k_is) (by k_is) (by omega) (binds := [(Str.ofString "octets", .bytes b t), (Str.ofString "values", .ref lv)]) (BindsTo.of_eq rfl) (locs rfl) ?_ rfl rfl rfl (by decide))
  intro L h₁ mean mg mb X T F N
  refine wpC_execs_cons (wpC_of_any ?_)
  k_steps
  rename_i l' hx1 hlt h2 F2 N2
  have hl' : @Ne Nat lv l' := Nat.ne_of_lt hlt
  refine wpC_execs_cons (for_startC (h₀ := under s.heap [(lv, W.listOf #[.int v0 t0, .int v1 t1, .int v2 t2, .int v3 t3, .int v4 t4] n)]) (l := lv) (its := #[.int v0 t0, .int v1 t1, .int v2 t2, .int v3 t3, .int v4 t4]) (nn := n) rfl rfl rfl
    (fun i m led => AllJ b v0 v1 v2 v3 v4 l' i m led) (by intro _; rfl) ?_ ?_ ?_)
  · k_steps
    refine ⟨rfl, _, [(l', W.listOf #[Value.bytes b t] 0)], _, _, rfl, F2, N2, rfl, _, _, rfl, Nat.le_of_ble_eq_true rfl, [], b, t, rfl, hb, [], .nil, fun _ => rfl⟩
  · intro I i v m₁ led₁ h3 tk3 oI hne hv hZ0 hoff F3 N3
    refine byProp fun Pz hPz => ?_
    obtain ⟨m1, its, n', rfl, hsz, hR⟩ := hZ0
    first | replace F3 := fr_at (at1s m1 rfl) F3 | replace F3 := fr_at (at1c (at1s m1 rfl)) F3
    simp only [List.cons_append, List.nil_append] at N3
    refine hPz ?_
    clear hPz Pz
    refine wpC_execs_cons (wpC_Expr rfl rfl (wpC_Call_append rfl rfl rfl rfl ?_))
    refine byProp fun Pz hPz => ?_
    obtain ⟨pre, last, tl, rfl, hls, bs, hbs, hturn⟩ := hR
    obtain ⟨vi, ti, rfl, hvi⟩ := five_at hv
    have hlast : ((pre ++ [Value.bytes last tl]).toArray).back? = some (.bytes last tl) := by simp
    have hne' := allNe_of hoff
    simp only [AllNe] at hne'
    refine hPz ?_
    clear hPz Pz
    k_steps
    refine ⟨l', _, rfl, ⟨_, n', (N3 _ (.head _)).1, rfl, rfl, rfl⟩, wpC_Call_Name (wpC_of_any ?_)⟩
    k_steps
    refine callWithC_fn (args := [(false, eval _ _), (false, eval _ _)]) rfl (Nat.le_of_ble_eq_true rfl) (evalArgsC (splicedC_cons (wpC_of_any ?_)))
    repeat' (first | ((with_reducible show wpAny _ _ (subscriptTail _ _ _ _) _ _ _); refine last_N ‹News _ _ _ _› (by k_mem) (by assumption) (by omega) ?_) | top_args)
    refine splicedC_cons (wpC_of_any ?_)
    k_steps
    refine splicedC_nil ⟨fn_at X (by assumption) (by k_is), ?_⟩
    rename Fr _ _ _ _ => F
    rename News _ _ _ _ => N
    refine (turned_tell last hls tl vi _ (by simp only [Around.deeper]; omega)).use0 X T F N ?_
    intro r foc' h' tk' hZ0 F' N' _
    refine byProp fun Pz hPz => ?_
    obtain ⟨rfl, t', rfl⟩ := hZ0
    refine hPz ?_
    clear hPz Pz
    refine append_K F' N' (.head (by
      intro p hp
      simp only [List.mem_cons, List.mem_nil_iff, or_false] at hp
      rcases hp with rfl | rfl
      · exact Ne.symm hne'.1
      · exact hl')) (fun h9 F9 N9 => ?_) (by rw [sizeLine_eq]; omega)
    refine ⟨rfl, wpC_of_any (wpAny_execs_nil ⟨rfl, h9, _, _, [(l', W.listOf _ _)], rfl, F9, N9, ?_, rfl, _, _, rfl, ?_, rows_step ⟨pre, last, tl, rfl, hls, bs, hbs, hturn⟩ hvi⟩)⟩
    · intro p hp; rw [List.mem_singleton.mp hp]; exact hne'.1
    · have h5 : i < 5 := by
        rcases Nat.lt_or_ge i 5 with e | e
        · exact e
        · rw [List.getElem?_eq_none (by simpa using e)] at hvi; cases hvi
      have := rows_size hbs (hturn [])
      simp at this hsz ⊢
      omega
  · intro h3 tk3 m3 led3 F3 N3 hZ0
    refine byProp fun Pz hPz => ?_
    obtain ⟨m1, its, n', rfl, hsz, hR⟩ := hZ0
    refine hPz ?_
    clear hPz Pz
    dsimp only
    first | replace F3 := fr_at (at1s m1 rfl) F3 | replace F3 := fr_at (at1c (at1s m1 rfl)) F3
    refine wpC_of_any ?_
    simp only [List.cons_append, List.nil_append] at N3
    k_steps
    exact fin O D hap hQ [(l', W.listOf its n'), (lv, W.listOf #[.int v0 t0, .int v1 t1, .int v2 t2, .int v3 t3, .int v4 t4] n)] ⟨l', its, n', rfl, rfl, hR⟩ F3 N3 (by simp)
end
end -- M9
example : True := by first | (w_top off; walk1) | trivial
section -- M2c
section
variable {w : World} {dp un : Nat} {fr : Option (List Env)} {gd : Option (List Code)} {h₀ : Heap} {s : Shared}
theorem back_at {v0 v1 v2 v3 v4 : Int} {t0 t1 t2 t3 t4 : Tok} {i : Nat} {v : Value} (h : (#[Value.int v4 t4, .int v3 t3, .int v2 t2, .int v1 t1, .int v0 t0] : Array Value)[i]? = some v) : ∃ vi ti, v = .int vi ti ∧ [v4, v3, v2, v1, v0].getD i 0 = vi := by
  match i, h with
  | 0, h => exact ⟨_, _, (Option.some.inj h).symm, rfl⟩
  | 1, h => exact ⟨_, _, (Option.some.inj h).symm, rfl⟩
  | 2, h => exact ⟨_, _, (Option.some.inj h).symm, rfl⟩
  | 3, h => exact ⟨_, _, (Option.some.inj h).symm, rfl⟩
  | 4, h => exact ⟨_, _, (Option.some.inj h).symm, rfl⟩
  | n + 5, h => cases h
inductive CameJ (p v0 v1 v2 v3 v4 : Int) (led0 : List (Addr × Obj)) (i : Nat) : (Str → Option Value) → List (Addr × Obj) → Prop
  | mk {m : Str → Option Value} (t : Tok) (m1 : m (Str.ofString "place") = some (.int (pl p v0 v1 v2 v3 v4 i) t)) : CameJ p v0 v1 v2 v3 v4 led0 i m led0
theorem came_tell (p v0 v1 v2 v3 v4 : Int) (tp t0 t1 t2 t3 t4 : Tok) (lv : Addr) (n : Nat) (hdp : dp + 4 < recursionLimit) : Tell w (mkA dp fr gd un) h₀ s [(lv, W.listOf #[.int v0 t0, .int v1 t1, .int v2 t2, .int v3 t3, .int v4 t4] n)] (call (.ref 205) [.int p tp, .ref lv])
    (fun r new => new = [(lv, W.listOf #[.int v0 t0, .int v1 t1, .int v2 t2, .int v3 t3, .int v4 t4] n)] ∧ ∃ t, r = .int (pl p v0 v1 v2 v3 v4 5) t) := by
  intro rest Q E S O D hap hQ
  refine wpAny_call (enter S O (D.sub (List.subset_append_left _ _)) (by k_is) (by k_is) (by omega) (binds := [(Str.ofString "place", .int p tp), (Str.ofString "values", .ref lv)]) (BindsTo.of_eq rfl) (locs rfl) ?_ rfl rfl rfl (by decide))
  intro L h₁ mean mg mb X T F N
  repeat' (first | ((with_reducible show wpAny _ _ (exec (Stmt.For (Expr.Name _ _) (Expr.Subscript _ _ _) _ _ _) _) _ _ _); with_unfolding_all refine for_hold ‹Fr _ _ _ _› rfl rfl ?_) | top_args)
  rename Fr _ _ _ _ => F2
  rename News _ _ _ _ => N2
  rename_i D9 _ _
  unfold Hold
  refine loop_listE (l := D9) (its := #[.int v4 t4, .int v3 t3, .int v2 t2, .int v1 t1, .int v0 t0]) (.head _) F2 N2 rfl (fun i m led => CameJ p v0 v1 v2 v3 v4 ((D9, W.listOf #[.int v4 t4, .int v3 t3, .int v2 t2, .int v1 t1, .int v0 t0] 0) :: [(lv, W.listOf #[.int v0 t0, .int v1 t1, .int v2 t2, .int v3 t3, .int v4 t4] n)]) i m led) (.mk tp rfl) ?_ ?_
  · intro I i v m₁ led₁ h₂ tk₂ oI hI hi hv hJ hoI hne F N
    clear F2 N2
    refine byProp fun Pz hPz => ?_
    obtain ⟨t, m1⟩ := hJ
    obtain ⟨vi, ti, rfl, hvi⟩ := back_at hv
    first | replace F := fr_at (at1s m1 rfl) F | replace F := fr_at (at1c (at1s m1 rfl)) F
    refine hPz ?_
    clear hPz Pz
    repeat' (first | ((with_reducible show wpAny _ _ (call (Value.ref _) _) _ _ _); k_dflt (refine use_width (by simp only [Around.deeper]; omega) (by k_asm) (by k_asm) (by k_asm) (by k_asm) ?_); top_caught0) | top_args)
    rename Fr _ _ _ _ => F4
    rename News _ _ _ _ => N4
    have e : goBack (pl p v0 v1 v2 v3 v4 i) vi = pl p v0 v1 v2 v3 v4 (i + 1) := by rw [← hvi]; rfl
    refine TurnTo.next (led' := (D9, W.listOf #[.int v4 t4, .int v3 t3, .int v2 t2, .int v1 t1, .int v0 t0] 0) :: [(lv, W.listOf #[.int v0 t0, .int v1 t1, .int v2 t2, .int v3 t3, .int v4 t4] n)]) F4 N4 hoI (.mk _ (Eq.trans (b := some (.int (goBack (pl p v0 v1 v2 v3 v4 i) vi) _)) rfl (congrArg (fun z => some (Value.int z _)) e)))
  · intro h' tk' m' led' F N hJ
    refine byProp fun Pz hPz => ?_
    obtain ⟨t, m1⟩ := hJ
    first | replace F := fr_at (at1s m1 rfl) F | replace F := fr_at (at1c (at1s m1 rfl)) F
    refine hPz ?_
    clear hPz Pz F2 N2
    k_steps
    exact fin O D hap hQ _ ⟨rfl, _, rfl⟩ (by assumption) (by assumption) (by simp)
end
end -- M2c
example : True := by first | (w_top off; walk1) | trivial
section -- MX
open TI (Frs SameUp)
section
variable {w : World} {dp un : Nat} {l : List Env} {gd : Option (List Code)} {h₀ : Heap} {s : Shared}
/-- a call within which exceptions are raised: the frames' objects `frs` of all that stand on the stack may take slots -/
noncomputable def TellX (w : World) (dp : Nat) (l : List Env) (gd : Option (List Code)) (un : Nat) (h₀ : Heap) (s : Shared) (foc frs : List (Addr × Obj)) (t : Sem Value) (post : Value → List (Addr × Obj) → Prop) : Prop :=
  Frs l frs → Tell w (mkA dp (some l) gd un) h₀ s (foc ++ frs) t (fun r foc' => ∃ foc1 frs', foc' = foc1 ++ frs' ∧ SameUp frs frs' ∧ (∀ p ∈ foc1, ∀ q ∈ frs', p.1 ≠ q.1) ∧ post r foc1)
theorem SameUp.addr : ∀ {a b : List (Addr × Obj)}, SameUp a b → a.map (·.1) = b.map (·.1)
  | [], [], _ => rfl
  | [], _ :: _, h => h.elim
  | _ :: _, [], h => h.elim
  | _ :: _, _ :: _, h => by rw [List.map_cons, List.map_cons, SameUp.addr h.2.2, h.1]
theorem off_up {a b : List (Addr × Obj)} {d : Addr} (SU : SameUp a b) (h : ∀ p ∈ a, p.1 ≠ d) : ∀ p ∈ b, p.1 ≠ d := fun p hp e => by
  refine byProp fun Pz hPz => ?_
  obtain ⟨x, hx, q⟩ := SU.fwd p hp
  refine hPz ?_
  clear hPz Pz
  exact h x hx (q ▸ e)
theorem off_app {T a b : List (Addr × Obj)} {d : Addr} (SU : SameUp a b) (h : ∀ p ∈ T ++ a, p.1 ≠ d) : ∀ p ∈ T ++ b, p.1 ≠ d := fun p hp => by
  rcases List.mem_append.mp hp with hp | hp
  · exact h p (List.mem_append_left _ hp)
  · exact off_up SU (fun q hq => h q (List.mem_append_right _ hq)) p hp
theorem off_lt {d : Addr} {a : List (Addr × Obj)} (h : PySem.W.AllLt d a) : ∀ p ∈ a, p.1 ≠ d := by
  intro p hp
  induction a with
  | nil => cases hp
  | cons q r ih => rcases List.mem_cons.mp hp with rfl | hp
                   · exact Nat.ne_of_lt h.1
                   · exact ih h.2 hp
noncomputable def AllOff (frs : List (Addr × Obj)) : List (Addr × Obj) → Prop
  | [] => True
  | p :: r => (∀ q ∈ frs, q.1 ≠ p.1) ∧ AllOff frs r
theorem AllOff.mem {frs new : List (Addr × Obj)} (h : AllOff frs new) : ∀ p ∈ new, ∀ q ∈ frs, p.1 ≠ q.1 := by
  intro p hp
  induction new with
  | nil => cases hp
  | cons q r ih => rcases List.mem_cons.mp hp with rfl | hp
                   · exact fun q hq => Ne.symm (h.1 q hq)
                   · exact ih h.2 hp
/-- the frame takes note of a new exception -/
theorem noted_x {A₀ : Around} {E : Value → Shared → Prop} {s' : Shared} {hb h : Heap} {L a e : Addr} {m : Str → Option Value} {name : Str} {scope : Scope} {cd : Value} {Q : Unit → Shared → Prop} {X : String} {frs new : List (Addr × Obj)}
    (hfr : A₀.frames = some l) (Fs : Frs l frs) (hx : Heap.NewExc h s'.heap e X) (F : Fr hb L h m) (N : News hb L h (new ++ frs)) (ho : AllOff frs new)
    (k : ∀ h' frs', SameUp frs frs' → Frs l frs' → TT.HeldN hb L h' m e X (new ++ frs') → Q () { s' with heap := h' }) (hk : scope.kind = .function := by rfl) :
    wpAny (model Pg w) (A₀.deeper (envOf name scope L a cd)) (noteFrame (.ref e) (envOf name scope L a cd)) Q E s' := by
  refine TLg.noted_newA hfr Fs hx F N (fun p hp hm => ?_) k hk
  rcases List.mem_cons.mp hm with e | hm
  · exact (N p (List.mem_append_left _ hp)).2.1 e
  · obtain ⟨q, hq, e⟩ := List.mem_map.mp hm
    exact ho.mem p hp q hq e.symm
theorem TellX.use {foc frs : List (Addr × Obj)} {t : Sem Value} {post : Value → List (Addr × Obj) → Prop} {name : Str} {scope : Scope} {L a : Addr} {cd : Value}
    (H : ∀ oL, TellX w dp (envOf name scope L a cd :: l) gd un h₀ s foc ((L, oL) :: frs) t post) (Fs : Frs l frs)
    {m : Str → Option Value} {led news : List (Addr × Obj)} {mean : ExcName → Option Value} {mg mb : Str → Option Value} {Q E : Value → Shared → Prop}
    (X : (hd.heap_1 w.params).In h₀) (T : Top Vw Lo mean mg mb h₀) (F : Fr h₀ L s.heap m) (N : News h₀ L s.heap led) (hsub : ∀ p ∈ foc ++ frs ++ news, p ∈ led) (hap : ∀ p ∈ foc ++ frs, ∀ q ∈ news, p.1 ≠ q.1) (hk : scope.kind = .function)
    (hQ : ∀ r foc' frs' h' tk', post r foc' → SameUp frs frs' → Frs l frs' → Fr h₀ L h' m → News h₀ L h' (foc' ++ news ++ frs') → (∀ p ∈ foc', ∀ q ∈ news ++ frs', p.1 ≠ q.1) → Q r { s with heap := h', toks := tk' }) :
    wpAny (model Pg w) (mkA dp (some (envOf name scope L a cd :: l)) gd un) t Q E s := by
  have N₂ : News h₀ L s.heap (foc ++ frs ++ news) := fun p hp => N p (hsub p hp)
  refine byProp fun Pz hPz => ?_
  obtain ⟨oL, es, ep, hL, hLd, hLk, hLf⟩ := F.ns
  have hLn : h₀.get? L = none := Heap.get?_none_of_le F.above
  have FF : Frs (envOf name scope L a cd :: l) ((L, oL) :: frs) := ⟨by show scope.kind ≠ .module; rw [hk]; decide, rfl, ⟨es, ep, hLd⟩, Fs⟩
  refine hPz ?_
  clear hPz Pz
  refine H oL FF news Q E ⟨X, mean, mg, mb, T⟩ (Kp.of_fr F) (fun p hp => ?_) (fun p hp q hq => ?_) fun r foc' h' tk' hp hn K' D' => ?_
  · rcases List.mem_append.mp hp with hp | hp
    · rcases List.mem_append.mp hp with hp | hp
      · exact ⟨(N₂ p (by simp [hp])).1, (N₂ p (by simp [hp])).2.2⟩
      · rcases List.mem_cons.mp hp with rfl | hp
        · exact ⟨hL, hLn⟩
        · exact ⟨(N₂ p (by simp [hp])).1, (N₂ p (by simp [hp])).2.2⟩
    · exact ⟨(N₂ p (by simp [hp])).1, (N₂ p (by simp [hp])).2.2⟩
  · rcases List.mem_append.mp hp with hp | hp
    · exact hap p (List.mem_append_left _ hp) q hq
    · rcases List.mem_cons.mp hp with rfl | hp
      · exact Ne.symm (N₂ q (by simp [hq])).2.1
      · exact hap p (List.mem_append_right _ hp) q hq
  · obtain ⟨foc1, frs', rfl, SU, hfa, hp⟩ := hp
    cases frs' with
    | nil => exact False.elim SU
    | cons q qs =>
      refine byProp fun Pz hPz => ?_
      obtain ⟨q1, q2⟩ := q
      obtain ⟨e1, ⟨sl, e2⟩, SU'⟩ := SU
      refine hPz ?_
      clear hPz Pz
      cases e1; cases e2
      have hL' : h'.get? L = some { oL with slots := sl } := (D' (L, { oL with slots := sl }) (by first | top_raise0 | simp)).1
      have hne : ∀ p ∈ qs, p.1 ≠ L := fun p hp e => by
        have : p.1 ∈ frs.map (·.1) := by rw [SameUp.addr SU']; exact List.mem_map_of_mem hp
        refine byProp fun Pz hPz => ?_
        obtain ⟨x, hx, ex⟩ := List.mem_map.mp this
        refine hPz ?_
        clear hPz Pz
        exact (N₂ x (by simp [hx])).2.1 (ex.trans e)
      refine hQ r foc1 qs h' tk' hp SU' (Fs.up SU') ⟨⟨_, es, ep, hL', hLd, hLk, hLf⟩, K'.keep, F.above⟩ (fun p hp' => ?_) (fun p hp' q hq => (List.mem_append.mp hq).elim (fun hq => hn p (by simp [hp']) q hq) fun hq => hfa p hp' q (.tail _ hq))
      have hm : p ∈ foc1 ++ (L, { oL with slots := sl }) :: qs ++ news := by
        refine memIn ?_ hp'; top_name
      refine ⟨(D' p hm).1, ?_, (D' p hm).2⟩
      simp only [List.mem_append] at hp'
      rcases hp' with (h | h) | h
      · exact hfa p h (L, _) (.head _)
      · exact (N₂ p (by simp [h])).2.1
      · exact hne p h
end
/-- a while's turn: left by return, by break, or the word again below -/
noncomputable def TurnW (h₀ : Heap) (L : Addr) (J : Nat → (Str → Option Value) → List (Addr × Obj) → Prop) (n : Nat) (s₁ : Shared) (Q : Flow → Shared → Prop) (f : Flow) (s₂ : Shared) : Prop :=
  match f with
  | .ret v => Q (.ret v) s₂
  | .brk => Q .next s₂
  | _ => ∃ n' h' tk m' led', n' < n ∧ s₂ = { s₁ with heap := h', toks := tk } ∧ Fr h₀ L h' m' ∧ News h₀ L h' led' ∧ J n' m' led'
theorem TurnW.next {h₀ h' : Heap} {L : Addr} {led' : List (Addr × Obj)} {J : Nat → (Str → Option Value) → List (Addr × Obj) → Prop} {n : Nat} {s₁ : Shared} {Q : Flow → Shared → Prop} {m' : Str → Option Value} {tk : Nat} (n' : Nat) (hn : n' < n)
    (F : Fr h₀ L h' m') (N : News h₀ L h' led') (hJ : J n' m' led') : TurnW h₀ L J n s₁ Q .next { s₁ with heap := h', toks := tk } := ⟨n', h', tk, m', led', hn, rfl, F, N, hJ⟩
theorem TurnW.brk {h₀ : Heap} {L : Addr} {J : Nat → (Str → Option Value) → List (Addr × Obj) → Prop} {n : Nat} {s₁ s₂ : Shared} {Q : Flow → Shared → Prop} (h : Q .next s₂) : TurnW h₀ L J n s₁ Q .brk s₂ := h
section
variable {w : World} {A : Around} {E : Value → Shared → Prop} {env : Env} {test : PySem.Expr} {body orelse : List Stmt} {Q : Flow → Shared → Prop} {h₀ : Heap} {s : Shared}
theorem while_hold {pos : Pos} (k : Nat) (h : Hold (WhlRest Pg w A E env test body orelse Q k s)) : wpAny (model Pg w) A (exec (.While test body orelse pos) env) Q E s := whl_start k h
theorem whl_inv (s : Shared) (h₀ : Heap) (L : Addr) (hE : PassesOwn (model Pg w) A env E) (J : Nat → (Str → Option Value) → List (Addr × Obj) → Prop)
    (step : ∀ n m led h tk, J n m led → Fr h₀ L h m → News h₀ L h led → wpAny (model Pg w) A (isTrue test env (eval test env)) (fun b s₂ => WhlIf b (wpAny (model Pg w) A (execs body env) (TurnW h₀ L J n s Q) E s₂) (wpAny (model Pg w) A (execs orelse env) Q E s₂)) E { s with heap := h, toks := tk }) :
    ∀ n m led h tk k, J n m led → Fr h₀ L h m → News h₀ L h led → Hold (WhlRest Pg w A E env test body orelse Q k { s with heap := h, toks := tk }) := by
  intro n
  induction n using Nat.strongRecOn with
  | _ n ih =>
    intro m led h tk k hJ F N
    refine whl_turn (k := 0) hE (wpAny_mono (step n m led h tk hJ F N) (fun b s₂ hb => ?_) fun _ _ e => e)
    cases b with
    | false => exact hb
    | true =>
      refine WhlIf.yes rfl (wpAny_mono (show wpAny _ _ _ (TurnW h₀ L J n s Q) _ _ from hb) (fun f s₃ hf => ?_) fun _ _ e => e)
      cases f with
      | ret v => exact hf
      | brk => exact hf
      | next =>
        refine byProp fun Pz hPz => ?_
        obtain ⟨n', h', tk', m', led', hn, rfl, F', N', hJ'⟩ := hf
        refine hPz ?_
        clear hPz Pz
        exact ih n' hn m' led' h' tk' 0 hJ' F' N'
      | cont =>
        refine byProp fun Pz hPz => ?_
        obtain ⟨n', h', tk', m', led', hn, rfl, F', N', hJ'⟩ := hf
        refine hPz ?_
        clear hPz Pz
        exact ih n' hn m' led' h' tk' 0 hJ' F' N'
end
end -- MX
example : True := by first | (w_top off; walk1) | trivial
section -- MY
theorem ints_kf {us : List Value} {l : List Int} (h : IntsAre us l) : kf_ints us = true := by
  induction h with
  | nil => rfl
  | cons _ _ _ ih => exact ih
theorem any_mem (k : Int) (l : List Int) : (l.any fun x => x == k) = decide (k ∈ l) := by
  induction l with
  | nil => rfl
  | cons x r ih => rw [List.any_cons, ih]; by_cases h : x = k
                   · simp [h]
                   · rw [beq_false_of_ne h]; simp [Ne.symm h]
theorem ints_in {us : List Value} {l : List Int} (k : Int) (h : IntsAre us l) : us.any (isInt k) = decide (k ∈ l) := by
  rw [any_isInt k h, any_mem]
theorem ints_none {us : List Value} {l : List Int} {k : Int} (h : IntsAre us l) (hk : k ∉ l) : ∀ m (hm : m < us.length), isInt k us[m] = false := by
  intro m hm
  have := ints_in k h
  rw [decide_eq_false hk, List.any_eq_false] at this
  simpa using this us[m] (List.getElem_mem hm)
theorem ints_at {us : List Value} {l : List Int} {k : Int} (h : IntsAre us l) (hk : k ∈ l) : kf_at k us = some (l.idxOf k) := by
  induction h with
  | nil => cases hk
  | cons n t r ih =>
    rename_i vs ns
    unfold kf_at
    by_cases e : n = k
    · subst e
      simp [isInt, List.idxOf_cons]
    · have hk' : k ∈ ns := by
        rcases List.mem_cons.mp hk with h | h
        · exact absurd h.symm e
        · exact h
      have : isInt k (Value.int n t) = false := by simp [isInt, e]
      rw [this, ih hk', List.idxOf_cons, beq_false_of_ne e]
      rfl
theorem ints_erase {us : List Value} {l : List Int} {k : Int} (h : IntsAre us l) (hk : k ∈ l) : ∃ q, ki_delL us (l.idxOf k) = some q ∧ IntsAre q (l.erase k) := by
  induction h with
  | nil => cases hk
  | cons n t r ih =>
    rename_i vs ns
    by_cases e : n = k
    · subst e
      exact ⟨vs, by simp [List.idxOf_cons, ki_delL], by simpa using r⟩
    · have hk' : k ∈ ns := by
        rcases List.mem_cons.mp hk with h | h
        · exact absurd h.symm e
        · exact h
      obtain ⟨q, e1, e2⟩ := ih hk'
      refine ⟨.int n t :: q, ?_, ?_⟩
      · rw [List.idxOf_cons, beq_false_of_ne e]
        show ki_delL (Value.int n t :: vs) (ns.idxOf k + 1) = _
        simp [ki_delL, e1]
      · rw [List.erase_cons_tail (by simpa using e)]
        exact .cons n t e2
theorem updF_upd {d : Addr} {o : Obj} {l : List (Addr × Obj)} {g : Obj → List (Addr × Obj)} (U : UpdF d o l g) (o' : Obj) : Upd d o o' l (g o') := by
  induction U with
  | head h => exact .head h
  | tail h _ ih => exact .tail h ih
section
variable {prog : Program} {w : World} {A : Around} {E : Value → Shared → Prop} {s : Shared} {h₀ h : Heap} {L D : Addr} {m : Str → Option Value} {news news' : List (Addr × Obj)} {us : List Value} {n : Nat} {xs : List Int} {k : Int} {t : Tok}
theorem li_in {Q : Value → Shared → Prop} (N : News h₀ L s.heap news) (hm : (D, W.listOf us.toArray n) ∈ news) (hi : IntsAre us xs) (h : Q (.bool (decide (k ∈ xs))) s) :
    wpAny (model prog w) A (compareOp .In (.int k t) (.ref D)) Q E s := kf_in N hm (by simpa using ints_kf hi) (by simpa using ints_in k hi) h
theorem li_notin {Q : Value → Shared → Prop} (N : News h₀ L s.heap news) (hm : (D, W.listOf us.toArray n) ∈ news) (hi : IntsAre us xs) (h : Q (.bool (!decide (k ∈ xs))) s) :
    wpAny (model prog w) A (compareOp .NotIn (.int k t) (.ref D)) Q E s := kf_notin N hm (by simpa using ints_kf hi) (by simpa using ints_in k hi) h
theorem li_index {Q : Value → Shared → Prop} (N : News h₀ L s.heap news) (hm : (D, W.listOf us.toArray n) ∈ news) (hi : IntsAre us xs) (hk : k ∈ xs) (hz : xs.length ≤ 1000)
    (h : Q (.int (xs.idxOf k : Nat) s.toks) { s with toks := s.toks + 1 }) : wpAny (model prog w) A (call (.builtin "list.index") [.ref D, .int k t]) Q E s :=
  kf_index N hm (by simpa using ints_kf hi) (by simpa using ints_at hi hk) rfl (by have := hi.length; rw [sizeLine_eq]; simp; omega) h
theorem li_remove {Q : Value → Shared → Prop} (F : Fr h₀ L s.heap m) (N : News h₀ L s.heap news) {g : Obj → List (Addr × Obj)} (U : UpdF D (W.listOf us.toArray n) news g) (hi : IntsAre us xs) (hk : k ∈ xs) (hz : xs.length ≤ 1000)
    (h : ∀ h' q, Fr h₀ L h' m → News h₀ L h' (g (W.listOf q.toArray (n + 1))) → IntsAre q (xs.erase k) → Q .none { s with heap := h' }) : wpAny (model prog w) A (call (.builtin "list.remove") [.ref D, .int k t]) Q E s := by
  obtain ⟨q, e1, e2⟩ := ints_erase hi hk
  exact kf_remove F N (by simpa using ints_kf hi) (by simpa using ints_at hi hk) (by simpa using e1) (updF_upd U _) (by have := hi.length; rw [sizeLine_eq]; simp; omega) fun h' F' N' => h h' q F' N' e2
theorem li_remove_none {Q : Value → Shared → Prop} (hh : A.handled = none) (N : News h₀ L s.heap news) (hm : (D, W.listOf us.toArray n) ∈ news) (hi : IntsAre us xs) (hk : k ∉ xs)
    (h : ∀ h' tk e, Heap.NewExc s.heap h' e "ValueError" → E (.ref e) { s with heap := h', toks := tk }) : wpAny (model prog w) A (call (.builtin "list.remove") [.ref D, .int k t]) Q E s := by
  have z := N _ hm
  refine call_meets PySem.F.slot_list_remove ⟨_, z.1, rfl⟩ PySem.F.entry_list_remove (PySem.F.args_list_remove_2 _ _)
    (MeetsSeq.list_remove_none D us.toArray n (.int k t) (isInt k) (fun y hy => kf_eq (ints_kf hi) y (by simpa using hy)) (fun i hi' => ?_)) ⟨z.1, hh, fun h' tk e x => h h' tk e x⟩
  have := ints_none hi hk i (by simpa using hi')
  simpa using this
theorem li_append {v : Value} {Q : Value → Shared → Prop} (F : Fr h₀ L s.heap m) (N : News h₀ L s.heap news) (U : Upd D (W.listOf us.toArray n) (W.listOf (us ++ [v]).toArray (n + 1)) news news') (hz : us.length ≤ 1000)
    (h : ∀ h', Fr h₀ L h' m → News h₀ L h' news' → Q .none { s with heap := h' }) : wpAny (model prog w) A (call (.builtin "list.append") [.ref D, v]) Q E s :=
  append_K F N (its := us.toArray) (by simpa using U) h (by rw [sizeLine_eq]; simp; omega)
theorem li_item {value slice : PySem.Expr} {k : Int} {u : Tok} {x : Int} {Q : Value → Shared → Prop} (N : News h₀ L s.heap news) (hm : (D, W.listOf us.toArray n) ∈ news) (hi : IntsAre us xs) (hx : xs[k.toNat]? = some x) (h0 : 0 ≤ k) (hz : k ≤ 1000) (h : ∀ t, Q (.int x t) s)
    (hs : subscripted slice false (.ref D) (.int k u) = operate [.ref D, .int k u] (getItem (.ref D) (.int k u)) := by with_unfolding_all rfl) :
    wpAny (model prog w) A (subscriptTail value slice (.ref D) (.int k u)) Q E s := by
  have hl : s.heap.IsList D us.toArray := ⟨_, (N _ hm).1, rfl, n, rfl⟩
  obtain ⟨t, e⟩ := hi.get _ x hx
  have e' : us.toArray[k.toNat]? = some (.int x t) := by simpa using e
  exact tail_any hl.typeIs slot_list_getitem.lookup (wpAny_getItem_list hl (by omega) (by omega) e' (h t)) hs
theorem li_item_out {value slice : PySem.Expr} {k : Int} {u : Tok} {Q : Value → Shared → Prop} (hh : A.handled = none) (N : News h₀ L s.heap news) (hm : (D, W.listOf us.toArray n) ∈ news) (hi : IntsAre us xs) (hx : (xs.length : Int) ≤ k) (hz : k ≤ 1000)
    (h : ∀ h' tk e, Heap.NewExc s.heap h' e "IndexError" → E (.ref e) { s with heap := h', toks := tk })
    (hs : subscripted slice false (.ref D) (.int k u) = operate [.ref D, .int k u] (getItem (.ref D) (.int k u)) := by with_unfolding_all rfl) :
    wpAny (model prog w) A (subscriptTail value slice (.ref D) (.int k u)) Q E s := by
  have hl : s.heap.IsList D us.toArray := ⟨_, (N _ hm).1, rfl, n, rfl⟩
  exact tail_any hl.typeIs slot_list_getitem.lookup (wpAny_getItem_list_out hh hl (.inr (by have := hi.length; simp; omega)) (by omega) (by omega) h) hs
theorem li_extend {b : Addr} {ws : List Value} {n2 : Nat} {Q : Value → Shared → Prop} (F : Fr h₀ L s.heap m) (N : News h₀ L s.heap news) (hb : (b, W.listOf ws.toArray n2) ∈ news) {g : Obj → List (Addr × Obj)} (U : UpdF D (W.listOf us.toArray n) news g) (hz : us.length ≤ 1000) (hz2 : ws.length ≤ 1000)
    (h : ∀ h' n', Fr h₀ L h' m → News h₀ L h' (g (W.listOf (us ++ ws).toArray n')) → Q .none { s with heap := h' }) : wpAny (model prog w) A (call (.builtin "list.extend") [.ref D, .ref b]) Q E s := by
  have hd : ¬(!us.toArray.isEmpty && Builtin.List.listTooLong (us.toArray.size + ws.toArray.size)) = true := by
    have : Builtin.List.listTooLong (us.toArray.size + ws.toArray.size) = false := by
      unfold Builtin.List.listTooLong; rw [sizeLine_eq]; simp; omega
    rw [this]; simp
  have k1 : us.toArray.toList.length ≤ sizeLine := by rw [sizeLine_eq]; simp; omega
  have k2 : us.toArray.size + ws.toArray.size ≤ sizeLine + 1 := by rw [sizeLine_eq]; simp; omega
  cases ws with
  | nil => exact kxn_extend F N hb rfl (updF_upd U _) hd k1 k2 fun h' F' N' => h h' n F' (by simpa using N')
  | cons x r => exact kl_extend F N hb (l := us ++ x :: r) (by simp) (by simp) (updF_upd U _) hd k1 k2 fun h' F' N' => h h' (n + 1) F' N'
theorem li_clear {Q : Value → Shared → Prop} (F : Fr h₀ L s.heap m) (N : News h₀ L s.heap news) (U : Upd D (W.listOf us.toArray n) (W.listOf #[] (n + 1)) news news') (hne : 0 < us.length) (hz : us.length ≤ 1000)
    (h : ∀ h', Fr h₀ L h' m → News h₀ L h' news' → Q .none { s with heap := h' }) : wpAny (model prog w) A (call (.builtin "list.clear") [.ref D]) Q E s :=
  kl_clear F N U (by simp; intro e; simp [e] at hne) (by rw [sizeLine_eq]; simp; omega) h
theorem li_lenT {Q : Value → Shared → Prop} (N : News h₀ L s.heap news) (hm : (D, ({ cls := .type "tuple", data := .seq us.toArray n } : Obj)) ∈ news) (hz : us.length ≤ 1000) (h : ∀ t tk, Q (.int us.length t) { s with toks := tk }) :
    wpAny (model prog w) A (call (.builtin "len") [.ref D]) Q E s := by
  exact kun_lenT (k := (us.length : Int)) (News.isTup N hm) (by simp) (by omega) (h _ _)
theorem li_lenL {Q : Value → Shared → Prop} (N : News h₀ L s.heap news) (hm : (D, W.listOf us.toArray n) ∈ news) (hz : us.length ≤ 1000) (h : ∀ t tk, Q (.int us.length t) { s with toks := tk }) :
    wpAny (model prog w) A (call (.builtin "len") [.ref D]) Q E s := by
  exact kun_lenL (k := (us.length : Int)) (News.isList N hm) (by simp) (by omega) (h _ _)
theorem li_last {value slice : PySem.Expr} {u : Tok} {v : Value} {Q : Value → Shared → Prop} (N : News h₀ L s.heap news) (hm : (D, W.listOf (us ++ [v]).toArray n) ∈ news) (hz : us.length ≤ 1000) (h : Q v s)
    (hs : subscripted slice false (.ref D) (.int (-1) u) = operate [.ref D, .int (-1) u] (getItem (.ref D) (.int (-1) u)) := by with_unfolding_all rfl) :
    wpAny (model prog w) A (subscriptTail value slice (.ref D) (.int (-1) u)) Q E s := by
  have hl : s.heap.IsList D (us ++ [v]).toArray := ⟨_, (N _ hm).1, rfl, n, rfl⟩
  refine tail_any hl.typeIs slot_list_getitem.lookup (wpAny_getItem_list_neg hl (by decide) (by simp; omega) (by decide) ?_ h) hs
  have : ((-1 : Int) + ((us ++ [v]).toArray.size : Int)).toNat = us.length := by simp; omega
  rw [this]; simp
theorem li_truthy_yes {Q : Bool → Shared → Prop} (N : News h₀ L s.heap news) (hm : (D, W.listOf us.toArray n) ∈ news) (hp : 0 < us.length) (hz : us.length ≤ 1000) (h : ∀ tk, Q true { s with toks := tk }) : wpAny (model prog w) A (truthy (.ref D)) Q E s := by
  refine wpAny_truthy_list (items := us.toArray) ⟨_, (N _ hm).1, rfl, n, rfl⟩ (by simp; omega) ?_
  have : (!us.toArray.isEmpty) = true := by simp; intro e; simp [e] at hp
  rw [this]; exact h _
theorem li_truthy_no {Q : Bool → Shared → Prop} (N : News h₀ L s.heap news) (hm : (D, W.listOf #[] n) ∈ news) (h : ∀ tk, Q false { s with toks := tk }) : wpAny (model prog w) A (truthy (.ref D)) Q E s := by
  refine wpAny_truthy_list (items := #[]) ⟨_, (N _ hm).1, rfl, n, rfl⟩ (by decide) (h _)
theorem li_pop {p : List Value} {y : Value} {Q : Value → Shared → Prop} (F : Fr h₀ L s.heap m) (N : News h₀ L s.heap news) (U : Upd D (W.listOf (p ++ [y]).toArray n) (W.listOf p.toArray (n + 1)) news news') (hz : p.length ≤ 1000)
    (h : ∀ h', Fr h₀ L h' m → News h₀ L h' news' → Q y { s with heap := h' }) : wpAny (model prog w) A (call (.builtin "list.pop") [.ref D]) Q E s :=
  kl_pop F N (p := p) (y := y) (by simpa using kpa_last y p) U (by rw [sizeLine_eq]; simp; omega) h
end
end -- MY
example : True := by first | (w_top off; walk1) | trivial
section -- MLa
open PySem.SeqAt
section
variable {prog : Program} {w : World} {A : Around} {E : Value → Shared → Prop} {s : Shared} {h₀ : Heap} {L : Addr} {m : Str → Option Value} {news : List (Addr × Obj)} {Q : Value → Shared → Prop}
theorem EqAt_bytes (b : Array UInt8) (t u : Tok) : EqAt A s (.bytes b t) (.bytes b u) true := fun prog w E Q h => by
  unfold eqBool
  refine wpAny_holding ?_
  refine wpAny_ite_split (fun _ => wpAny_bind (wpAny_rule (wpAny_pure h))) (fun _ => ?_)
  refine wpAny_bind (eq_bytes (prog := prog) (w := w) (E := E) ?_)
  rw [beq_self_eq_true]
  exact wpAny_truthy_bool h
theorem BytesAre.at {us : List Value} {xs : List (Array UInt8)} (h : BytesAre us xs) : ∀ {i : Nat} (hi : i < us.length), ∃ b t, us[i] = .bytes b t ∧ xs[i]? = some b := by
  induction h with
  | nil => intro i hi; exact absurd hi (Nat.not_lt_zero _)
  | cons b t _ ih =>
    intro i hi
    cases i with
    | zero => exact ⟨b, t, rfl, rfl⟩
    | succ i =>
      obtain ⟨b', t', e1, e2⟩ := ih (i := i) (by simpa using hi)
      exact ⟨b', t', e1, e2⟩
/-- two lists of the same bytes -/
theorem eq_bytesL {a b : Addr} {na nb : Nat} {us vs : List Value} {xs : List (Array UInt8)} (N : News h₀ L s.heap news) (ha : (a, W.listOf us.toArray na) ∈ news) (hb : (b, W.listOf vs.toArray nb) ∈ news) (h1 : BytesAre us xs) (h2 : BytesAre vs xs) (hu : A.units < cLine) (h : Q (.bool true) s) :
    wpAny (model prog w) A (compareOp .Eq (.ref a) (.ref b)) Q E s := by
  refine eq_listAt (e := fun _ => true) ⟨_, (N _ ha).1, rfl, na, rfl⟩ ⟨_, (N _ hb).1, rfl, nb, rfl⟩ (by rw [List.size_toArray, List.size_toArray, h1.len, h2.len]) hu (fun j j1 j2 => ?_) (by rw [List.all_eq_true.mpr (fun _ _ => rfl)]; exact h)
  obtain ⟨c, t, e1, e2⟩ := h1.at (i := j) (by simpa using j1)
  obtain ⟨c', t', e3, e4⟩ := h2.at (i := j) (by simpa using j2)
  rw [e2] at e4
  cases e4
  have g1 : us.toArray[j] = .bytes c t := by simpa using e1
  have g2 : vs.toArray[j] = .bytes c t' := by simpa using e3
  rw [g1, g2]
  exact EqAt_bytes c t t'
/-- no False among Trues -/
theorem notin_bools {a : Addr} {n : Nat} {us : List Value} (N : News h₀ L s.heap news) (ha : (a, W.listOf us.toArray n) ∈ news) (h1 : ∀ y ∈ us, y = .bool true) (h : Q (.bool true) s) :
    wpAny (model prog w) A (compareOp .NotIn (.bool false) (.ref a)) Q E s := by
  refine notIn_listAt (fun _ => false) ⟨_, (N _ ha).1, rfl, n, rfl⟩ (fun y hy => ?_) ?_
  · rw [h1 y (by simpa using hy)]
    exact EqAt.bool_bool true false
  · rw [Array.any_eq_false.mpr (by simp)]
    exact h
end
theorem BytesAre.cons_inv {us : List Value} {b : Array UInt8} {bs : List (Array UInt8)} (h : BytesAre us (b :: bs)) : ∃ t vs, us = .bytes b t :: vs ∧ BytesAre vs bs := by
  cases h with
  | cons _ t h => exact ⟨t, _, rfl, h⟩
theorem BytesAre.nil_inv {us : List Value} (h : BytesAre us []) : us = [] := by
  cases h; rfl
theorem RowsTo.all {b : Array UInt8} {vs : List Int} {its : Array Value} (h : RowsTo b vs its) : BytesAre its.toList (turnsOf b vs) := by
  obtain ⟨pre, last, t, rfl, _, bs, hb, ht⟩ := h
  have := ht []
  rw [List.append_nil] at this
  rw [this]
  exact hb.snoc last t
/-- six rows -/
inductive RowsLit (b : Array UInt8) (v0 v1 v2 v3 v4 : Int) (its : Array Value) : Prop
  | mk (b1 b2 b3 b4 b5 : Array UInt8) (t0 t1 t2 t3 t4 t5 : Tok) (e1 : its = #[.bytes b t0, .bytes b1 t1, .bytes b2 t2, .bytes b3 t3, .bytes b4 t4, .bytes b5 t5]) (e2 : turnsOf b [v0, v1, v2, v3, v4] = [b, b1, b2, b3, b4, b5]) (e3 : b5.size = 12)
theorem rows_lit {b : Array UInt8} {v0 v1 v2 v3 v4 : Int} {its : Array Value} (h : RowsTo b [v0, v1, v2, v3, v4] its) : RowsLit b v0 v1 v2 v3 v4 its := by
  have h1 := h.all
  obtain ⟨l, hl⟩ : ∃ l, its.toList = l := ⟨_, rfl⟩
  rw [hl] at h1
  have hits : its = l.toArray := by rw [← hl]
  clear hl h
  subst hits
  have z := swapA_size
  simp only [turnsOf] at h1
  obtain ⟨t0, y0, rfl, h2⟩ := h1.cons_inv
  clear h1
  obtain ⟨t1, y1, rfl, h3⟩ := h2.cons_inv
  clear h2
  obtain ⟨t2, y2, rfl, h4⟩ := h3.cons_inv
  clear h3
  obtain ⟨t3, y3, rfl, h5⟩ := h4.cons_inv
  clear h4
  obtain ⟨t4, y4, rfl, h6⟩ := h5.cons_inv
  clear h5
  obtain ⟨t5, y5, rfl, h7⟩ := h6.cons_inv
  clear h6
  obtain rfl := h7.nil_inv
  exact ⟨_, _, _, _, _, t0, t1, t2, t3, t4, t5, rfl, rfl, z _ _⟩
theorem byte_ints {b : Array UInt8} {us : List Value} (h : ItemsOf (ByteAt b) us.toArray b.size) : IntsAre us (b.toList.map fun x => ((x.toNat : Nat) : Int)) := by
  obtain ⟨hz, hv⟩ := h
  rw [List.size_toArray] at hz
  have gen : ∀ (us : List Value) (l : List UInt8), us.length = l.length → (∀ (j : Nat) (v : Value), us[j]? = some v → ∃ (c : UInt8) (u : Tok), l[j]? = some c ∧ v = Value.int ((c.toNat : Nat) : Int) u) → IntsAre us (l.map fun x => ((x.toNat : Nat) : Int)) := by
    intro us
    induction us with
    | nil => intro l hl _; cases l with
      | nil => exact .nil
      | cons => cases hl
    | cons v us ih =>
      intro l hl hv
      cases l with
      | nil => cases hl
      | cons c l =>
        obtain ⟨c', u, e1, e2⟩ := hv 0 v rfl
        cases e1
        subst e2
        exact .cons _ u (ih l (by simpa using hl) fun j v hj => hv (j + 1) v (by simpa using hj))
  refine gen us b.toList (by simpa using hz) fun j v hj => ?_
  obtain ⟨c, u, e1, e2⟩ := hv j v (by simpa using hj)
  exact ⟨c, u, by simpa using e1, e2⟩
theorem list_by {prog : Program} {w : World} {A : Around} {E : Value → Shared → Prop} {s : Shared} {h₀ : Heap} {L : Addr} {m : Str → Option Value} {news : List (Addr × Obj)} {b : Array UInt8} {t : Tok} {Q : Value → Shared → Prop} (hh : A.handled = none) (F : Fr h₀ L s.heap m) (N : News h₀ L s.heap news) (hb : b.size = 12)
    (h : ∀ D us c h' tk, Fr h₀ L h' m → News h₀ L h' ((D, W.listOf (List.toArray us) c) :: news) → (∀ q ∈ news, q.1 < D) → IntsAre us (b.toList.map fun x => ((x.toNat : Nat) : Int)) → Q (.ref D) { s with heap := h', toks := tk }) : wpAny (model prog w) A (call (.type "list") [.bytes b t]) Q E s := by
  refine call_list_bytes hh b t (by omega) fun h' tk acc' c' hk hS hI => ?_
  have hI' : ItemsOf (ByteAt b) acc'.toList.toArray b.size := by rw [Array.toArray_toList]; exact hI
  refine h s.heap.objs.size acc'.toList c' h' tk (fr_keep F hk) (news_more F N hk rfl ?_) (fun q hq => Heap.lt_size (N q hq).1) (byte_ints hI')
  rw [Array.toArray_toList]
  exact hS
end -- MLa
example : True := by first | (w_top off; walk1) | trivial
section -- MK
section
variable {w : World} {dp un : Nat} {fr : Option (List Env)} {gd : Option (List Code)} {h₀ : Heap} {s : Shared}
/-- the sorter's own attributes -/
noncomputable def sortD (P : Params) (t0 t1 t2 t3 : Tok) (n2i ready pass fini : Value) : Obj :=
  dictOf [⟨PyData.keyHash P (Str.ofString "_node2info"), .str (Str.ofString "_node2info") t0, n2i⟩, ⟨PyData.keyHash P (Str.ofString "_ready_nodes"), .str (Str.ofString "_ready_nodes") t1, ready⟩,
    ⟨PyData.keyHash P (Str.ofString "_npassedout"), .str (Str.ofString "_npassedout") t2, pass⟩, ⟨PyData.keyHash P (Str.ofString "_nfinished"), .str (Str.ofString "_nfinished") t3, fini⟩] 4
inductive MkPost (w : World) (sz : Nat) (r : Value) (new : List (Addr × Obj)) : Prop
  | mk (x dx dn : Addr) (o : Obj) (t0 t1 t2 t3 t4 t5 : Tok) (f1 : r = .ref x) (f2 : new = [(x, instObj 137 dx), (dx, sortD w.params t0 t1 t2 t3 (.ref dn) .none (.int 0 t4) (.int 0 t5)), (dn, o)]) (f3 : o.IsDictOf (intKind Pg w) []) (f4 : (dn == sysModules) = false) (f5 : @LT.lt Nat _ dx x) (f6 : @LT.lt Nat _ x dn) (f7 : @LE.le Nat _ sz dx)
theorem mk_tell (hdp : dp + 8 < recursionLimit) : Tell w (mkA dp fr gd un) h₀ s [] (call (.ref 137) []) (MkPost w s.heap.objs.size) := by
  intro rest Q E S O D hap hQ
  obtain ⟨X₀, mean₀, mg₀, mb₀, T₀⟩ := id S
  have X := X₀.keeps O.keep
  refine wpAny_call ?_
  obtain ⟨hh, g, d, t, os⟩ := s
  have e1 : makesIn (hd.heap_1 w.params) 137 = true := by k_is
  have e2 : findIn (hd.heap_1 w.params) (.ref 137) "__init__" = some (some (.ref 73)) := by k_is
  have e3 : typeIn (hd.heap_1 w.params) (.ref 73) = some (.type "function") := by k_is
  refine make_core (makes_of X e1) (looks_findIn X e2) (fun self => bind_fn X self e3) (.inl rfl) ?_
  have k : ∀ b o, hh.get? b = some o → ((hh.push emptyDict).push (instObj 137 hh.objs.size)).get? b = some o := fun b o e => Heap.get?_push_of_some _ (Heap.get?_push_of_some _ e)
  have hw : (Code.builtin "type.__call__" { pos := [Value.ref 137] }).weight = 1 := by decide +kernel
  have hd0 : (mkA dp fr gd un).depth = dp := rfl
  have hz : ((hh.push emptyDict).push (instObj 137 hh.objs.size)).objs.size = hh.objs.size + 2 := by rw [Heap.size_push, Heap.size_push]
  have O' : Kp h₀ ((hh.push emptyDict).push (instObj 137 hh.objs.size)) := ⟨fun b o e => k b o (O.keep b o e), by rw [hz]; exact Nat.le_add_right_of_le O.size⟩
  have D' : Led h₀ ((hh.push emptyDict).push (instObj 137 hh.objs.size)) ([(hh.objs.size + 1, instObj 137 hh.objs.size), (hh.objs.size, emptyDict)] ++ rest) := by
    intro p hp
    rcases List.mem_append.mp hp with hp | hp
    · rcases List.mem_cons.mp hp with rfl | hp
      · exact ⟨by heap_get, Heap.get?_none_of_le (Nat.le_succ_of_le O.size)⟩
      · rw [List.mem_singleton.mp hp]
        exact ⟨Heap.get?_push_of_some _ (Heap.get?_push_size _ rfl), Heap.get?_none_of_le O.size⟩
    · exact ⟨k _ _ (D p hp).1, (D p hp).2⟩
  have hap' : ∀ p ∈ [(hh.objs.size + 1, instObj 137 hh.objs.size), (hh.objs.size, emptyDict)], ∀ q ∈ rest, p.1 ≠ q.1 := by
    intro p hp q hq
    have hl : q.1 < hh.objs.size := Heap.lt_size (D q hq).1
    rcases List.mem_cons.mp hp with rfl | hp
    · exact Nat.ne_of_gt (Nat.lt_succ_of_lt hl)
    · rw [List.mem_singleton.mp hp]; exact Nat.ne_of_gt hl
  refine enter (s := ⟨(hh.push emptyDict).push (instObj 137 hh.objs.size), g, d, t, os⟩) (foc := [(hh.objs.size + 1, instObj 137 hh.objs.size), (hh.objs.size, emptyDict)]) S O' (D'.sub (List.subset_append_left _ _)) (by k_is) (by k_is) (by omega) (binds := [(Str.ofString "self", .ref (hh.objs.size + 1)), (Str.ofString "graph", .none)]) (binds_K (X.keeps k) rfl (by k_is) rfl rfl rfl) (locs rfl) ?_ rfl rfl rfl (by decide)
  intro L h₁ mean mg mb X T F N
  k_steps
  rename_i dn _ o lo _ _ hi _ hl1 _ _ _ _ _ _ h' F' N'
  obtain ⟨t0, t1, t2, t3, t4, t5, N2⟩ : ∃ t0 t1 t2 t3 t4 t5, News (under ((hh.push emptyDict).push (instObj 137 hh.objs.size)) [(hh.objs.size + 1, instObj 137 hh.objs.size), (hh.objs.size, emptyDict)]) L h' [(dn, o), (hh.objs.size + 1, instObj 137 hh.objs.size), (hh.objs.size, sortD w.params t0 t1 t2 t3 (.ref dn) .none (.int 0 t4) (.int 0 t5))] := ⟨_, _, _, _, _, _, N'⟩
  refine ⟨rfl, fin (s := ⟨(hh.push emptyDict).push (instObj 137 hh.objs.size), g, d, t, os⟩) O' D' hap' (fun r foc' h' tk' hp => hQ r foc' h' tk' hp) [(hh.objs.size + 1, instObj 137 hh.objs.size), (hh.objs.size, sortD w.params t0 t1 t2 t3 (.ref dn) .none (.int 0 t4) (.int 0 t5)), (dn, o)] ⟨hh.objs.size + 1, hh.objs.size, dn, o, t0, t1, t2, t3, t4, t5, rfl, rfl, hi, lo, Nat.lt_succ_self _, hl1.1, Nat.le_refl _⟩ F' N2 ?_⟩
  intro p hp
  simp only [List.mem_cons, List.mem_nil_iff, or_false] at hp ⊢
  rcases hp with rfl | rfl | rfl
  · exact .inr (.inl rfl)
  · exact .inr (.inr rfl)
  · exact .inl rfl
end
end -- MK
example : True := by first | (w_top off; walk1) | trivial
section -- MK2
section
variable {w : World} {dp un : Nat} {fr : Option (List Env)} {gd : Option (List Code)} {h₀ : Heap} {s : Shared}
/-- a node's record -/
noncomputable abbrev infoObj (dy : Addr) (node np succ : Value) : Obj := { cls := .ref 40, dict := some dy, data := .plain, slots := #[some node, some np, some succ] }
inductive InfoPost (sz : Nat) (v : Int) (tv : Tok) (r : Value) (new : List (Addr × Obj)) : Prop
  | mk (y dy l : Addr) (t : Tok) (f1 : r = .ref y) (f2 : new = [(y, infoObj dy (.int v tv) (.int 0 t) (.ref l)), (dy, emptyDict), (l, W.listOf #[] 0)]) (f3 : @LE.le Nat _ sz dy) (f4 : @LT.lt Nat _ dy y) (f5 : @LT.lt Nat _ y l)
theorem info_tell (v : Int) (tv : Tok) (hdp : dp + 8 < recursionLimit) : Tell w (mkA dp fr gd un) h₀ s [] (call (.ref 40) [.int v tv]) (InfoPost s.heap.objs.size v tv) := by
  intro rest Q E S O D hap hQ
  obtain ⟨X₀, mean₀, mg₀, mb₀, T₀⟩ := id S
  have X := X₀.keeps O.keep
  refine wpAny_call ?_
  obtain ⟨hh, g, d, t, os⟩ := s
  have e1 : makesIn (hd.heap_1 w.params) 40 = true := by k_is
  have e2 : findIn (hd.heap_1 w.params) (.ref 40) "__init__" = some (some (.ref 36)) := by k_is
  have e3 : typeIn (hd.heap_1 w.params) (.ref 36) = some (.type "function") := by k_is
  refine make_core (makes_of X e1) (looks_findIn X e2) (fun self => bind_fn X self e3) (.inl rfl) ?_
  have k : ∀ b o, hh.get? b = some o → ((hh.push emptyDict).push (instObj 40 hh.objs.size)).get? b = some o := fun b o e => Heap.get?_push_of_some _ (Heap.get?_push_of_some _ e)
  have hw : (Code.builtin "type.__call__" { pos := [Value.ref 40, Value.int v tv] }).weight = 1 := rfl
  have hd0 : (mkA dp fr gd un).depth = dp := rfl
  have hz : ((hh.push emptyDict).push (instObj 40 hh.objs.size)).objs.size = hh.objs.size + 2 := by rw [Heap.size_push, Heap.size_push]
  have O' : Kp h₀ ((hh.push emptyDict).push (instObj 40 hh.objs.size)) := ⟨fun b o e => k b o (O.keep b o e), by rw [hz]; exact Nat.le_add_right_of_le O.size⟩
  have D' : Led h₀ ((hh.push emptyDict).push (instObj 40 hh.objs.size)) ([(hh.objs.size + 1, instObj 40 hh.objs.size), (hh.objs.size, emptyDict)] ++ rest) := by
    intro p hp
    rcases List.mem_append.mp hp with hp | hp
    · rcases List.mem_cons.mp hp with rfl | hp
      · exact ⟨by heap_get, Heap.get?_none_of_le (Nat.le_succ_of_le O.size)⟩
      · rw [List.mem_singleton.mp hp]
        exact ⟨Heap.get?_push_of_some _ (Heap.get?_push_size _ rfl), Heap.get?_none_of_le O.size⟩
    · exact ⟨k _ _ (D p hp).1, (D p hp).2⟩
  have hap' : ∀ p ∈ [(hh.objs.size + 1, instObj 40 hh.objs.size), (hh.objs.size, emptyDict)], ∀ q ∈ rest, p.1 ≠ q.1 := by
    intro p hp q hq
    have hl : q.1 < hh.objs.size := Heap.lt_size (D q hq).1
    rcases List.mem_cons.mp hp with rfl | hp
    · exact Nat.ne_of_gt (Nat.lt_succ_of_lt hl)
    · rw [List.mem_singleton.mp hp]; exact Nat.ne_of_gt hl
  refine enter (s := ⟨(hh.push emptyDict).push (instObj 40 hh.objs.size), g, d, t, os⟩) (foc := [(hh.objs.size + 1, instObj 40 hh.objs.size), (hh.objs.size, emptyDict)]) S O' (D'.sub (List.subset_append_left _ _)) (by k_is) (by k_is) (by omega) (binds := [(Str.ofString "self", .ref (hh.objs.size + 1)), (Str.ofString "node", .int v tv)]) (BindsTo.of_eq rfl) (locs rfl) ?_ rfl rfl rfl (by decide)
  intro L h₁ mean mg mb X T F N
  k_steps
  rename_i l _ hl1 h' F' N'
  obtain ⟨t1, N2⟩ : ∃ t1, News (under ((hh.push emptyDict).push (instObj 40 hh.objs.size)) [(hh.objs.size + 1, instObj 40 hh.objs.size), (hh.objs.size, emptyDict)]) L h' [(l, W.listOf #[] 0), (hh.objs.size + 1, infoObj hh.objs.size (.int v tv) (.int 0 t1) (.ref l)), (hh.objs.size, emptyDict)] := ⟨_, N'⟩
  refine ⟨rfl, fin (s := ⟨(hh.push emptyDict).push (instObj 40 hh.objs.size), g, d, t, os⟩) O' D' hap' (fun r foc' h' tk' hp => hQ r foc' h' tk' hp) [(hh.objs.size + 1, infoObj hh.objs.size (.int v tv) (.int 0 t1) (.ref l)), (hh.objs.size, emptyDict), (l, W.listOf #[] 0)] ⟨hh.objs.size + 1, hh.objs.size, l, t1, rfl, rfl, Nat.le_refl _, Nat.lt_succ_self _, hl1.1⟩ F' N2 ?_⟩
  intro p hp
  simp only [List.mem_cons, List.mem_nil_iff, or_false] at hp ⊢
  rcases hp with rfl | rfl | rfl
  · exact .inr (.inl rfl)
  · exact .inr (.inr rfl)
  · exact .inl rfl
end
end -- MK2
example : True := by first | (w_top off; walk1) | trivial
section -- MK3
section
variable {w : World} {dp un : Nat} {fr : Option (List Env)} {gd : Option (List Code)} {h₀ : Heap} {s : Shared}
noncomputable def AllLt (d : Nat) : List (Addr × Obj) → Prop
  | [] => True
  | p :: r => (@LT.lt Nat _ p.1 d) ∧ AllLt d r
theorem allLt_of {d : Nat} {l : List (Addr × Obj)} (h : ∀ p ∈ l, @LT.lt Nat _ p.1 d) : AllLt d l := by
  induction l with
  | nil => trivial
  | cons q r ih => exact ⟨h q (.head _), ih fun p hp => h p (.tail _ hp)⟩
theorem AllNe.mem {d : Addr} {l : List (Addr × Obj)} (h : AllNe d l) : ∀ p ∈ l, p.1 ≠ d := by
  intro p hp
  induction l with
  | nil => cases hp
  | cons q r ih => rcases List.mem_cons.mp hp with rfl | hp
                   · exact h.1
                   · exact ih h.2 hp
theorem getold_tell (x dx dn y : Addr) (o : Obj) (t0 t1 t2 t3 : Tok) (ready pass fini : Value) (kvs : List (Int × Value)) (k : Int) (tk : Tok) (ho : o.IsDictOf (intKind Pg w) kvs) (hk : valueAt kvs k = some (.ref y)) (hdn : (dn == sysModules) = false) (hdp : dp + 8 < recursionLimit) :
    Tell w (mkA dp fr gd un) h₀ s [(x, instObj 137 dx), (dx, sortD w.params t0 t1 t2 t3 (.ref dn) ready pass fini), (dn, o)] (call (.ref 80) [.ref x, .int k tk])
      (fun r new => r = .ref y ∧ new = [(x, instObj 137 dx), (dx, sortD w.params t0 t1 t2 t3 (.ref dn) ready pass fini), (dn, o)]) := by
  intro rest Q E S O D hap hQ
  refine wpAny_call (enter S O (D.sub (List.subset_append_left _ _)) (by k_is) (by k_is) (by omega) (binds := [(Str.ofString "self", .ref x), (Str.ofString "node", .int k tk)]) (BindsTo.of_eq rfl) (locs rfl) ?_ rfl rfl rfl (by decide))
  intro L h₁ mean mg mb X T F N
  unfold sortD at N
  repeat (first | k_unfold | ((fail_if_success (with_reducible show wpAny _ _ (call (Value.builtin "dict.get") _) _ _ _)); first | walk1 | (dsimp only; walk1)))
  refine kdg_get1 (knd := PySem.intKind _ _) (by k_asm) (by k_mem) (by assumption) (by assumption) (intKind_is _ _ _ _) (some _) (by assumption) ?_
  dsimp only [Option.getD]
  k_steps
  exact fin O D hap hQ _ ⟨rfl, rfl⟩ (by assumption) (by assumption) (by simp [sortD])
theorem use_info {v : Int} {tk : Tok} {L : Addr} {m : Str → Option Value} {news : List (Addr × Obj)} {mean : ExcName → Option Value} {mg mb : Str → Option Value} {Q E : Value → Shared → Prop} (hdp : dp + 8 < recursionLimit)
    (X : (hd.heap_1 w.params).In h₀) (T : Top Vw Lo mean mg mb h₀) (F : Fr h₀ L s.heap m) (N : News h₀ L s.heap news)
    (hQ : ∀ y dy l t h' tk', @LT.lt Nat _ L dy → AllLt dy news → @LT.lt Nat _ dy y → @LT.lt Nat _ y l → Fr h₀ L h' m → News h₀ L h' ((y, infoObj dy (.int v tk) (.int 0 t) (.ref l)) :: (dy, emptyDict) :: (l, W.listOf #[] 0) :: news) → Q (.ref y) { s with heap := h', toks := tk' }) : wpAny (model Pg w) (mkA dp fr gd un) (call (.ref 40) [.int v tk]) Q E s := by
  refine (info_tell v tk hdp).use0 X T F N fun r new h' tk' hp F' N' hn => ?_
  refine byProp fun Pz hPz => ?_
  obtain ⟨y, dy, l, t, rfl, rfl, n1, n2, n3⟩ := hp
  refine hPz ?_
  clear hPz Pz
  exact hQ y dy l t h' tk' (Nat.lt_of_lt_of_le F.ns.lt n1) (allLt_of fun q hq => Nat.lt_of_lt_of_le (Heap.lt_size (N q hq).1) n1) n2 n3 F' N'
inductive NewPost (w : World) (sz : Nat) (x dx dn : Addr) (t0 t1 t2 t3 : Tok) (ready pass fini : Value) (kvs : List (Int × Value)) (k : Int) (r : Value) (new : List (Addr × Obj)) : Prop
  | mk (y dy l : Addr) (t tk' : Tok) (o' : Obj) (f1 : r = .ref y) (f2 : new = [(x, instObj 137 dx), (dx, sortD w.params t0 t1 t2 t3 (.ref dn) ready pass fini), (dn, o'), (y, infoObj dy (.int k tk') (.int 0 t) (.ref l)), (dy, emptyDict), (l, W.listOf #[] 0)]) (f3 : o'.IsDictOf (intKind Pg w) (stored kvs k (.ref y))) (f4 : @LE.le Nat _ sz dy) (f5 : @LT.lt Nat _ dy y) (f6 : @LT.lt Nat _ y l)
theorem getnew_tell (x dx dn : Addr) (o : Obj) (t0 t1 t2 t3 : Tok) (ready pass fini : Value) (kvs : List (Int × Value)) (k : Int) (tn : Tok) (ho : o.IsDictOf (intKind Pg w) kvs) (hk : valueAt kvs k = none) (hdn : (dn == sysModules) = false) (hlen : kvs.length ≤ 12) (hn1 : @LT.lt Nat _ dx x) (hn2 : @LT.lt Nat _ x dn) (hdp : dp + 12 < recursionLimit) :
    Tell w (mkA dp fr gd un) h₀ s [(x, instObj 137 dx), (dx, sortD w.params t0 t1 t2 t3 (.ref dn) ready pass fini), (dn, o)] (call (.ref 80) [.ref x, .int k tn])
      (NewPost w s.heap.objs.size x dx dn t0 t1 t2 t3 ready pass fini kvs k) := by
  intro rest Q E S O D hap hQ
  refine wpAny_call (enter S O (D.sub (List.subset_append_left _ _)) (by k_is) (by k_is) (by omega) (binds := [(Str.ofString "self", .ref x), (Str.ofString "node", .int k tn)]) (BindsTo.of_eq rfl) (locs rfl) ?_ rfl rfl rfl (by decide))
  intro L h₁ mean mg mb X T F N
  unfold sortD at N
  repeat (first | k_unfold | ((fail_if_success (with_reducible show wpAny _ _ (call (Value.builtin "dict.get") _) _ _ _)); first | walk1 | (dsimp only; walk1)))
  refine kdg_get1 (knd := PySem.intKind _ _) (by k_asm) (by k_mem) (by assumption) (by assumption) (intKind_is _ _ _ _) none (by assumption) ?_
  dsimp only [Option.getD]
  repeat (first | k_unfold | ((fail_if_success (with_reducible show wpAny _ _ (call (Value.ref 40) [Value.int _ _]) _ _ _)); first | walk1 | (dsimp only; walk1)))
  refine use_info (by simp only [Around.deeper]; omega) (by k_asm) (by k_asm) (by k_asm) (by k_asm) ?_
  intro _ _ _ _ _ _ _ l1 _ _ _ _
  simp only [AllLt, and_true] at l1
  try k_sweep
  repeat (first | k_unfold | ((fail_if_success (with_reducible show wpAny _ _ (setItem (Value.ref _) (Value.int _ _) _) _ _ _)); first | walk1 | (dsimp only; walk1)))
  rename Fr _ _ _ _ => F9
  rename News _ _ _ _ => N9
  refine kda_set (knd := PySem.intKind _ _) F9 N9 (by k_updF) (by assumption) (intKind_is _ _ _ _) (by rw [sizeLine_eq]; omega) ?_
  clear F9 N9
  intros
  try k_sweep
  k_steps
  rename_i y dy l t' h2 tk' nL nA nB h1 o' hd' h' F' N'
  refine fin O D hap hQ [(x, instObj 137 dx), (dx, sortD w.params t0 t1 t2 t3 (.ref dn) ready pass fini), (dn, o'), (y, infoObj dy (.int k tn) (.int 0 t') (.ref l)), (dy, emptyDict), (l, W.listOf #[] 0)] ⟨y, dy, l, t', tn, o', rfl, rfl, hd', Nat.le_of_lt (Nat.lt_of_le_of_lt (Nat.le_trans (Nat.le_of_eq (hideAll_size _ _).symm) F'.above) nL), nA, nB⟩ F' N' ?_
  intro p hp
  revert p; top_name
theorem use_getold {x dx dn y : Addr} {o : Obj} {t0 t1 t2 t3 : Tok} {ready pass fini : Value} {kvs : List (Int × Value)} {k : Int} {tk : Tok} {L : Addr} {m : Str → Option Value} {led : List (Addr × Obj)} {mean : ExcName → Option Value} {mg mb : Str → Option Value} {Q E : Value → Shared → Prop}
    (ho : o.IsDictOf (intKind Pg w) kvs) (hk : valueAt kvs k = some (.ref y)) (hdn : (dn == sysModules) = false) (hdp : dp + 8 < recursionLimit)
    (X : (hd.heap_1 w.params).In h₀) (T : Top Vw Lo mean mg mb h₀) (F : Fr h₀ L s.heap m) (N : News h₀ L s.heap led)
    (news : List (Addr × Obj)) (hsub : ∀ p ∈ [(x, instObj 137 dx), (dx, sortD w.params t0 t1 t2 t3 (.ref dn) ready pass fini), (dn, o)] ++ news, p ∈ led) (a1 : AllNe x news) (a2 : AllNe dx news) (a3 : AllNe dn news)
    (hQ : ∀ h' tk', Fr h₀ L h' m → News h₀ L h' ([(x, instObj 137 dx), (dx, sortD w.params t0 t1 t2 t3 (.ref dn) ready pass fini), (dn, o)] ++ news) → Q (.ref y) { s with heap := h', toks := tk' }) :
    wpAny (model Pg w) (mkA dp fr gd un) (call (.ref 80) [.ref x, .int k tk]) Q E s := by
  refine (getold_tell x dx dn y o t0 t1 t2 t3 ready pass fini kvs k tk ho hk hdn hdp).use X T F N hsub (fun p hp q hq => ?_) fun r foc' h' tk' hp F' N' hn => ?_
  · simp only [List.mem_cons, List.mem_nil_iff, or_false] at hp
    rcases hp with rfl | rfl | rfl
    · exact Ne.symm (a1.mem q hq)
    · exact Ne.symm (a2.mem q hq)
    · exact Ne.symm (a3.mem q hq)
  · obtain ⟨rfl, rfl⟩ := hp
    exact hQ h' tk' F' N'
theorem use_getnew {x dx dn : Addr} {o : Obj} {t0 t1 t2 t3 : Tok} {ready pass fini : Value} {kvs : List (Int × Value)} {k : Int} {tn : Tok} {L : Addr} {m : Str → Option Value} {led : List (Addr × Obj)} {mean : ExcName → Option Value} {mg mb : Str → Option Value} {Q E : Value → Shared → Prop}
    (ho : o.IsDictOf (intKind Pg w) kvs) (hk : valueAt kvs k = none) (hdn : (dn == sysModules) = false) (hlen : kvs.length ≤ 12) (hn1 : @LT.lt Nat _ dx x) (hn2 : @LT.lt Nat _ x dn) (hdp : dp + 12 < recursionLimit)
    (X : (hd.heap_1 w.params).In h₀) (T : Top Vw Lo mean mg mb h₀) (F : Fr h₀ L s.heap m) (N : News h₀ L s.heap led)
    (news : List (Addr × Obj)) (hsub : ∀ p ∈ [(x, instObj 137 dx), (dx, sortD w.params t0 t1 t2 t3 (.ref dn) ready pass fini), (dn, o)] ++ news, p ∈ led) (a1 : AllNe x news) (a2 : AllNe dx news) (a3 : AllNe dn news)
    (hQ : ∀ y dy l t tk' o' h' tk'', o'.IsDictOf (intKind Pg w) (stored kvs k (.ref y)) → @LT.lt Nat _ L dy → AllLt dy ([(x, instObj 137 dx), (dx, sortD w.params t0 t1 t2 t3 (.ref dn) ready pass fini), (dn, o)] ++ news) → @LT.lt Nat _ dy y → @LT.lt Nat _ y l →
      Fr h₀ L h' m → News h₀ L h' ([(x, instObj 137 dx), (dx, sortD w.params t0 t1 t2 t3 (.ref dn) ready pass fini), (dn, o'), (y, infoObj dy (.int k tk') (.int 0 t) (.ref l)), (dy, emptyDict), (l, W.listOf #[] 0)] ++ news) → Q (.ref y) { s with heap := h', toks := tk'' }) :
    wpAny (model Pg w) (mkA dp fr gd un) (call (.ref 80) [.ref x, .int k tn]) Q E s := by
  refine (getnew_tell x dx dn o t0 t1 t2 t3 ready pass fini kvs k tn ho hk hdn hlen hn1 hn2 hdp).use X T F N hsub (fun p hp q hq => ?_) fun r foc' h' tk' hp F' N' hn => ?_
  · simp only [List.mem_cons, List.mem_nil_iff, or_false] at hp
    rcases hp with rfl | rfl | rfl
    · exact Ne.symm (a1.mem q hq)
    · exact Ne.symm (a2.mem q hq)
    · exact Ne.symm (a3.mem q hq)
  · obtain ⟨y, dy, l, t, tk', o', rfl, rfl, hd', n1, n2, n3⟩ := hp
    exact hQ y dy l t tk' o' h' _ hd' (Nat.lt_of_lt_of_le F.ns.lt n1) (allLt_of fun q hq => Nat.lt_of_lt_of_le (Heap.lt_size (N q (hsub q hq)).1) n1) n2 n3 F' N'
end
end -- MK3
example : True := by first | (w_top off; walk1) | trivial
section -- MK4
section
variable {w : World} {dp un : Nat} {fr : Option (List Env)} {gd : Option (List Code)} {h₀ : Heap} {s : Shared}
noncomputable abbrev tupO (vs : List Value) : Obj := { cls := .type "tuple", data := .seq vs.toArray }
theorem push_led {foc rest : List (Addr × Obj)} {o : Obj} (O : Kp h₀ s.heap) (D : Led h₀ s.heap (foc ++ rest)) (hap : ∀ p ∈ foc, ∀ q ∈ rest, p.1 ≠ q.1) (hf : o.isFreed = false) :
    Kp h₀ (s.heap.push o) ∧ Led h₀ (s.heap.push o) (((s.heap.objs.size, o) :: foc) ++ rest) ∧ (∀ p ∈ (s.heap.objs.size, o) :: foc, ∀ q ∈ rest, p.1 ≠ q.1) := by
  refine ⟨⟨fun b o e => Heap.get?_push_of_some _ (O.keep b o e), by rw [Heap.size_push]; exact Nat.le_succ_of_le O.size⟩, fun p hp => ?_, fun p hp q hq => ?_⟩
  · rcases List.mem_cons.mp hp with rfl | hp
    · exact ⟨Heap.get?_push_size _ hf, Heap.get?_none_of_le O.size⟩
    · exact ⟨Heap.get?_push_of_some _ (D p hp).1, (D p hp).2⟩
  · rcases List.mem_cons.mp hp with rfl | hp
    · exact Nat.ne_of_gt (Heap.lt_size (D q (List.mem_append_right _ hq)).1)
    · exact hap p hp q hq
/-- entering a def that takes *args -/
theorem enterV {foc : List (Addr × Obj)} {R : Result → Shared → Prop} {name qual nm : Str} {params : Arguments} {body : List Stmt} {scope : Scope} {dV kV doc pm cdv ct oc : Value} {an od : Option Addr} {osl : Array (Option Value)} {f : Addr} {args : Args} {binds : List (Str × Value)} {vs : List Value}
    (S : Stat w h₀) (O : Kp h₀ s.heap) (D : Led h₀ s.heap foc)
    (ho : (hd.heap_1 w.params).lookup f = some ⟨oc, od, .func (fnOf name qual params body scope dV kV doc pm an cdv ct), osl⟩) (hcd : codeIn (hd.heap_1 w.params) cdv qual = true) (hroom : dp < recursionLimit)
    (hbind : bindArgs (fnOf name qual params body scope dV kV doc pm an cdv ct) args = (newTuple vs >>= fun v => pure (binds ++ [(nm, v)]))) (hvs : vs.length ≤ 1000)
    (hloc : ∀ y ∈ binds, scope.names.lookup y.1 = some .local) (hnm : scope.names.lookup nm = some .local)
    (h : ∀ T L h₁ mean mg mb, T = s.heap.objs.size → (hd.heap_1 w.params).In (under (s.heap.push (tupO vs)) ((T, tupO vs) :: foc)) → Top Vw Lo mean mg mb (under (s.heap.push (tupO vs)) ((T, tupO vs) :: foc)) →
      Fr (under (s.heap.push (tupO vs)) ((T, tupO vs) :: foc)) L h₁ (fun y => (binds ++ [(nm, Value.ref T)]).reverse.lookup y) → News (under (s.heap.push (tupO vs)) ((T, tupO vs) :: foc)) L h₁ ((T, tupO vs) :: foc) →
      wpAny (model Pg w) ((mkA dp fr gd un).deeper (envOf qual scope L f cdv)) (execs body (envOf qual scope L f cdv))
        (fun fl s' => R (.ok (.ret (match fl with | .ret v => v | _ => .none))) s')
        (fun e s' => wpAny (model Pg w) ((mkA dp fr gd un).deeper (envOf qual scope L f cdv)) (leaving (envOf qual scope L f cdv) e) (fun _ s'' => R (.error e) s'') (fun e' s'' => R (.error e') s'') s')
        { s with heap := h₁, toks := s.toks + (binds ++ [(nm, Value.ref T)]).length })
    (hco : scope.isCoroutine = false) (hgen : scope.isGenerator = false) (hk : scope.kind = .function)
    (hcell : ∀ x ∈ scope.names, x.2 ≠ .cell) : codeAny (model Pg w) (mkA dp fr gd un) (.call (.ref f) args) R s := by
  have z := push_led (rest := []) (o := tupO vs) O (by simpa using D) (by simp) rfl
  have SU := under_stat S z.1 (z.2.1.sub (List.subset_append_left _ _))
  obtain ⟨X₀, mean, mg, mb, T⟩ := S
  have X := X₀.keeps O.keep
  obtain ⟨XU, mean', mg', mb', TU⟩ := SU
  refine codeAny_call_function hroom (X _ _ ho) rfl hco hgen rfl (codeRec_of X hcd) ?_
  rw [hbind]
  unfold newTuple
  refine wpAny_bind (wpAny_newObj_type (wpAny_pure ?_) (by show vs.toArray.size ≤ sizeLine; rw [sizeLine_eq]; simp; omega))
  refine wpAny_newFunctionEnv hcell (fun y hy => ?_) (fun h₁ hns hsb => ⟨(T.nolimit.keeps z.1.keep).fresh _ hsb, codeAny_func ?_⟩) hk
  · rcases List.mem_append.mp hy with hy | hy
    · exact hloc y hy
    · rw [List.mem_singleton.mp hy]; exact hnm
  have hk₁ : ∀ b o, (s.heap.push (tupO vs)).get? b = some o → h₁.get? b = some o := fun b o e => hsb.extBut b o (Nat.ne_of_lt (Heap.lt_size e)) (Heap.get?_push_of_some _ e)
  refine h s.heap.objs.size (s.heap.push (tupO vs)).objs.size h₁ mean' mg' mb' rfl XU TU ⟨hns, fun b o e => hk₁ b o (under_of e), Nat.le_of_eq (hideAll_size _ _)⟩ (fun p hp => ?_)
  have zp := z.2.1 p (List.mem_append_left _ hp)
  exact ⟨hk₁ _ _ zp.1, Nat.ne_of_lt (Heap.lt_size zp.1), under_none hp⟩
end
end -- MK4
example : True := by first | (w_top off; walk1) | trivial
section -- MA1
/-- the way out, the base as a name -/
theorem finB {h₀ B0 : Heap} {s : Shared} {foc rest : List (Addr × Obj)} {post : Value → List (Addr × Obj) → Prop} {Q : Value → Shared → Prop} (hB : B0 = under s.heap foc) (O : Kp h₀ s.heap) (D : Led h₀ s.heap (foc ++ rest)) (hap : ∀ p ∈ foc, ∀ q ∈ rest, p.1 ≠ q.1)
    (hQ : ∀ r foc' h' tk', post r foc' → (∀ p ∈ foc', ∀ q ∈ rest, p.1 ≠ q.1) → Kp h₀ h' → Led h₀ h' (foc' ++ rest) → Q r { s with heap := h', toks := tk' })
    {L : Addr} {h' : Heap} {m' : Str → Option Value} {led : List (Addr × Obj)} {tk' : Nat} {r : Value} (foc' : List (Addr × Obj)) (hp : post r foc')
    (F : Fr B0 L h' m') (N : News B0 L h' led) (hs : ∀ p ∈ foc', p ∈ led) : Q r { s with heap := h', toks := tk' } := by
  subst hB
  exact fin O D hap hQ foc' hp F N hs
end -- MA1
example : True := by first | (w_top off; walk1) | trivial
section -- MK5
section
variable {w : World} {dp un : Nat} {fr : Option (List Env)} {gd : Option (List Code)} {h₀ : Heap} {s : Shared}
theorem sub31 {a b c d : Addr × Obj} : ∀ p ∈ [a, b, c] ++ [d], p ∈ [d, a, b, c] := by
  intro p hp
  revert p; top_name
inductive AddPost (w : World) (sz : Nat) (x dx dn : Addr) (t0 t1 t2 t3 : Tok) (pass fini : Value) (kvs : List (Int × Value)) (k : Int) (r : Value) (new : List (Addr × Obj)) : Prop
  | mk (y dy l : Addr) (t tk' : Tok) (o' : Obj) (f1 : r = .none) (f2 : new = [(x, instObj 137 dx), (dx, sortD w.params t0 t1 t2 t3 (.ref dn) .none pass fini), (dn, o'), (y, infoObj dy (.int k tk') (.int 0 t) (.ref l)), (dy, emptyDict), (l, W.listOf #[] 0)]) (f3 : o'.IsDictOf (intKind Pg w) (stored kvs k (.ref y))) (f4 : @LE.le Nat _ sz dy) (f5 : @LT.lt Nat _ dy y) (f6 : @LT.lt Nat _ y l)
theorem addnew_tell (x dx dn : Addr) (o : Obj) (t0 t1 t2 t3 : Tok) (pass fini : Value) (kvs : List (Int × Value)) (k : Int) (tn : Tok) (ho : o.IsDictOf (intKind Pg w) kvs) (hk : valueAt kvs k = none) (hdn : (dn == sysModules) = false) (hlen : kvs.length ≤ 12) (hn1 : @LT.lt Nat _ dx x) (hn2 : @LT.lt Nat _ x dn) (hdp : dp + 14 < recursionLimit) :
    Tell w (mkA dp fr gd un) h₀ s [(x, instObj 137 dx), (dx, sortD w.params t0 t1 t2 t3 (.ref dn) .none pass fini), (dn, o)] (call (.ref 87) [.ref x, .int k tn])
      (AddPost w s.heap.objs.size x dx dn t0 t1 t2 t3 pass fini kvs k) := by
  intro rest Q E S O D hap hQ
  have Z := push_led (o := tupO []) O D hap rfl
  refine wpAny_call (enterV S O (D.sub (List.subset_append_left _ _)) (by k_is) (by k_is) (by omega) (vs := []) (nm := Str.ofString "predecessors") (binds := [(Str.ofString "self", .ref x), (Str.ofString "node", .int k tn)]) rfl (by decide) (locs rfl) rfl ?_ rfl rfl rfl (by decide))
  intro Tp L h₁ mean mg mb hTp X T F N
  obtain ⟨B0, hB0⟩ : ∃ B0, B0 = under (s.heap.push (tupO [])) ((Tp, tupO []) :: [(x, instObj 137 dx), (dx, sortD w.params t0 t1 t2 t3 (.ref dn) .none pass fini), (dn, o)]) := ⟨_, rfl⟩
  rw [← hB0] at X T F N
  have b1 : @LT.lt Nat _ x Tp := hTp ▸ D.lt _ (.head _)
  have b2 : @LT.lt Nat _ dx Tp := hTp ▸ D.lt _ (.tail _ (.head _))
  have b3 : @LT.lt Nat _ dn Tp := hTp ▸ D.lt _ (.tail _ (.tail _ (.head _)))
  have N0 := N
  clear N
  unfold sortD at N0
  repeat (first | k_unfold | ((fail_if_success (with_reducible show wpAny _ _ (call (Value.ref 80) [Value.ref _, Value.int _ _]) _ _ _)); first | walk1 | (dsimp only; walk1)))
  rename Fr _ _ _ _ => F9
  rename News _ _ _ _ => N9
  refine use_getnew (by assumption) (by assumption) (by assumption) (by assumption) (by assumption) (by assumption) (by simp only [Around.deeper]; omega) (by k_asm) (by k_asm) F9 N9 [(_, tupO [])] sub31 (by simp only [AllNe, and_true]; omega) (by simp only [AllNe, and_true]; omega) (by simp only [AllNe, and_true]; omega) ?_
  intro _ _ _ _ _ _ _ _ _ _ lq _ _ _ N'
  simp only [List.cons_append, List.nil_append, AllLt, and_true] at lq
  try unfold sortD at N'
  try simp only [List.cons_append, List.nil_append] at N'
  try k_sweep
  k_steps
  rename_i y dy l t' tkk o' hA tkA hd' nL n2 n3 hB tkB hC NC ii l1 hD tkD F' N'
  obtain ⟨t9, N2⟩ : ∃ t9, News B0 L hD [(x, instObj 137 dx), (dx, sortD w.params t0 t1 t2 t3 (.ref dn) .none pass fini), (dn, o'), (y, infoObj dy (.int k tkk) (.int 0 t9) (.ref l)), (dy, emptyDict), (l, W.listOf #[] 0), (Tp, tupO [])] := ⟨_, N'⟩
  subst hTp
  refine finB (s := { s with heap := s.heap.push (tupO []) }) hB0 Z.1 Z.2.1 Z.2.2 (fun r foc' h' tk' hp => hQ r foc' h' tk' hp) [(x, instObj 137 dx), (dx, sortD w.params t0 t1 t2 t3 (.ref dn) .none pass fini), (dn, o'), (y, infoObj dy (.int k tkk) (.int 0 t9) (.ref l)), (dy, emptyDict), (l, W.listOf #[] 0)] ⟨y, dy, l, t9, tkk, o', rfl, rfl, hd', Nat.le_of_lt lq.2.2.2, n2, n3⟩ F' N2 ?_
  intro p hp
  revert p; top_name
end
end -- MK5
local macro_rules | `(tactic| k_ne) => `(tactic| first | with_reducible assumption | (refine Ne.symm ?_; with_reducible assumption) | exact Nat.ne_of_lt (by with_reducible assumption) | exact Nat.ne_of_gt (by with_reducible assumption))
local macro_rules | `(tactic| k_all) => `(tactic| first | assumption | exact off_app (by assumption) (by assumption) | exact off_up (by assumption) (by assumption))
example : True := by first | (w_top off; walk1) | trivial
section -- MK6
section
variable {w : World} {dp un : Nat} {fr : Option (List Env)} {gd : Option (List Code)} {h₀ : Heap} {s : Shared}
/-- a call that only reads -/
theorem Tell.useR {A : Around} {foc : List (Addr × Obj)} {t : Sem Value} {post : Value → List (Addr × Obj) → Prop} (H : Tell w A h₀ s foc t post)
    {L : Addr} {m : Str → Option Value} {led : List (Addr × Obj)} {mean : ExcName → Option Value} {mg mb : Str → Option Value} {Q E : Value → Shared → Prop}
    (X : (hd.heap_1 w.params).In h₀) (T : Top Vw Lo mean mg mb h₀) (F : Fr h₀ L s.heap m) (N : News h₀ L s.heap led) (hsub : ∀ p ∈ foc, p ∈ led) (hp : ∀ r foc', post r foc' → foc' = foc)
    (hQ : ∀ r h' tk', post r foc → Fr h₀ L h' m → News h₀ L h' led → Q r { s with heap := h', toks := tk' }) : wpAny (model Pg w) A t Q E s := by
  refine H.use (led := led) (news := led.filter fun p => decide (p.1 ∉ foc.map (·.1))) X T F N (fun p h => ?_) (fun p hp q hq e => ?_) fun r foc' h' tk' h1 F' N' _ => ?_
  · rcases List.mem_append.mp h with h | h
    · exact hsub p h
    · exact (List.mem_filter.mp h).1
  · have := (List.mem_filter.mp hq).2
    simp only [decide_eq_true_eq] at this
    exact this (e ▸ List.mem_map_of_mem hp)
  · obtain rfl := hp r foc' h1
    refine hQ r h' tk' h1 F' fun p hp => ?_
    by_cases hm : p.1 ∈ foc'.map (·.1)
    · obtain ⟨q, hq, e⟩ := List.mem_map.mp hm
      have z1 := (N q (hsub q hq)).1
      have z2 := (N p hp).1
      rw [e, z2] at z1
      have e2 : q = p := Prod.ext e (Option.some.inj z1).symm
      subst e2
      exact N' q (List.mem_append_left _ hq)
    · exact N' p (List.mem_append_right _ (List.mem_filter.mpr ⟨hp, by simpa using hm⟩))
theorem use_getR {x dx dn y : Addr} {o : Obj} {t0 t1 t2 t3 : Tok} {ready pass fini : Value} {kvs : List (Int × Value)} {k : Int} {tk : Tok} {L : Addr} {m : Str → Option Value} {led : List (Addr × Obj)} {mean : ExcName → Option Value} {mg mb : Str → Option Value} {Q E : Value → Shared → Prop}
    (X : (hd.heap_1 w.params).In h₀) (T : Top Vw Lo mean mg mb h₀) (F : Fr h₀ L s.heap m) (N : News h₀ L s.heap led)
    (i1 : (x, instObj 137 dx) ∈ led) (i2 : (dx, sortD w.params t0 t1 t2 t3 (.ref dn) ready pass fini) ∈ led) (i3 : (dn, o) ∈ led)
    (ho : o.IsDictOf (intKind Pg w) kvs) (hk : valueAt kvs k = some (.ref y)) (hdn : (dn == sysModules) = false) (hdp : dp + 8 < recursionLimit)
    (hQ : ∀ h' tk', Fr h₀ L h' m → News h₀ L h' led → Q (.ref y) { s with heap := h', toks := tk' }) :
    wpAny (model Pg w) (mkA dp fr gd un) (call (.ref 80) [.ref x, .int k tk]) Q E s :=
  (getold_tell x dx dn y o t0 t1 t2 t3 ready pass fini kvs k tk ho hk hdn hdp).useR X T F N (fun p hp => by
    simp only [List.mem_cons, List.mem_nil_iff, or_false] at hp
    rcases hp with rfl | rfl | rfl <;> assumption) (fun r foc' h => h.2) fun r h' tk' h F' N' => by
      obtain ⟨rfl, _⟩ := h
      exact hQ h' tk' F' N'
/-- all addresses differ -/
noncomputable def Apart (l : List (Addr × Obj)) : Prop := (l.map (·.1)).Nodup
/-- the addresses of a ledger apart, opened fact by fact (T: a tail that is not written out) -/
noncomputable def NeP (a : Addr) (T : List (Addr × Obj)) (P : Prop) : List (Addr × Obj) → Prop
  | [] => (∀ q ∈ T, q.1 ≠ a) → P
  | (b, _) :: r => a ≠ b → NeP a T P r
noncomputable def NeA (T : List (Addr × Obj)) (P : Prop) : List (Addr × Obj) → Prop
  | [] => P
  | (a, _) :: r => NeP a T (NeA T P r) r
noncomputable def OfP (a : Addr) (P : Prop) : List (Addr × Obj) → Prop
  | [] => P
  | (b, _) :: r => b ≠ a → OfP a P r
theorem neP_of {a : Addr} {T : List (Addr × Obj)} {P : Prop} {l : List (Addr × Obj)} (h : ∀ q ∈ l ++ T, q.1 ≠ a) (k : NeP a T P l) : P := by
  induction l with
  | nil => exact k h
  | cons p l ih => obtain ⟨b, o⟩ := p; exact ih (fun q hq => h q (.tail _ hq)) (k (Ne.symm (h _ (.head _))))
theorem apart_open {T : List (Addr × Obj)} {P : Prop} {l : List (Addr × Obj)} (S : Apart (l ++ T)) (k : NeA T P l) : P := by
  induction l with
  | nil => exact k
  | cons p l ih =>
    obtain ⟨a, o⟩ := p
    have S1 := List.nodup_cons.mp (show (a :: (l ++ T).map (·.1)).Nodup from S)
    exact ih S1.2 (neP_of (fun q hq e => S1.1 (List.mem_map.mpr ⟨q, hq, e⟩)) k)
theorem apart_open0 {P : Prop} {l : List (Addr × Obj)} (S : Apart l) (k : NeA [] P l) : P := apart_open (T := []) (by rw [List.append_nil]; exact S) k
theorem of_open {a : Addr} {P : Prop} {l : List (Addr × Obj)} (h : ∀ q ∈ l, q.1 ≠ a) (k : OfP a P l) : P := by
  induction l with
  | nil => exact k
  | cons p l ih => obtain ⟨b, o⟩ := p; exact ih (fun q hq => h q (.tail _ hq)) (k (h _ (.head _)))
theorem edge_tell (x dx dn y dy l y2 dy2 l2 : Addr) (o : Obj) (t0 t1 t2 t3 : Tok) (pass fini : Value) (kvs : List (Int × Value)) (k p np np2 : Int) (tn tp ta tb tc td : Tok) (us us2 : List Value) (n n2 : Nat) (ho : o.IsDictOf (intKind Pg w) kvs) (hk : valueAt kvs k = some (.ref y)) (hk2 : valueAt kvs p = some (.ref y2)) (hdn : (dn == sysModules) = false) (hz : us2.length ≤ 100)
    (hap : Apart [(x, instObj 137 dx), (dx, sortD w.params t0 t1 t2 t3 (.ref dn) .none pass fini), (dn, o), (y, infoObj dy (.int k ta) (.int np tb) (.ref l)), (dy, emptyDict), (l, W.listOf us.toArray n), (y2, infoObj dy2 (.int p tc) (.int np2 td) (.ref l2)), (dy2, emptyDict), (l2, W.listOf us2.toArray n2)]) (hdp : dp + 14 < recursionLimit) :
    Tell w (mkA dp fr gd un) h₀ s [(x, instObj 137 dx), (dx, sortD w.params t0 t1 t2 t3 (.ref dn) .none pass fini), (dn, o), (y, infoObj dy (.int k ta) (.int np tb) (.ref l)), (dy, emptyDict), (l, W.listOf us.toArray n), (y2, infoObj dy2 (.int p tc) (.int np2 td) (.ref l2)), (dy2, emptyDict), (l2, W.listOf us2.toArray n2)] (call (.ref 87) [.ref x, .int k tn, .int p tp])
      (fun r new => ∃ tb' tk', r = .none ∧ new = [(x, instObj 137 dx), (dx, sortD w.params t0 t1 t2 t3 (.ref dn) .none pass fini), (dn, o), (y, infoObj dy (.int k ta) (.int (np + 1) tb') (.ref l)), (dy, emptyDict), (l, W.listOf us.toArray n), (y2, infoObj dy2 (.int p tc) (.int np2 td) (.ref l2)), (dy2, emptyDict), (l2, W.listOf (us2 ++ [Value.int k tk']).toArray (n2 + 1))]) := by
  intro rest Q E S O D hapR hQ
  have Z := push_led (o := tupO [.int p tp]) O D hapR rfl
  refine wpAny_call (enterV S O (D.sub (List.subset_append_left _ _)) (by k_is) (by k_is) (by omega) (vs := [.int p tp]) (nm := Str.ofString "predecessors") (binds := [(Str.ofString "self", .ref x), (Str.ofString "node", .int k tn)]) rfl (Nat.le_of_ble_eq_true rfl) (locs rfl) rfl ?_ rfl rfl rfl (by decide))
  intro Tp L h₁ mean mg mb hTp X T F N
  obtain ⟨B0, hB0⟩ : ∃ B0, B0 = under (s.heap.push (tupO [.int p tp])) ((Tp, tupO [.int p tp]) :: [(x, instObj 137 dx), (dx, sortD w.params t0 t1 t2 t3 (.ref dn) .none pass fini), (dn, o), (y, infoObj dy (.int k ta) (.int np tb) (.ref l)), (dy, emptyDict), (l, W.listOf us.toArray n), (y2, infoObj dy2 (.int p tc) (.int np2 td) (.ref l2)), (dy2, emptyDict), (l2, W.listOf us2.toArray n2)]) := ⟨_, rfl⟩
  rw [← hB0] at X T F N
  have bT := fun q hq => Nat.ne_of_lt (hTp ▸ D.lt q (List.mem_append_left rest hq) : q.1 < Tp)
  refine byProp fun Pz hPz => ?_
  refine apart_open0 hap ?_
  intro a1 a2 a3 a4 a5 a6 a7 a8 _ b1 b2 b3 b4 b5 b6 b7 _ c1 c2 c3 c4 c5 c6 _ d1 d2 d3 d4 d5 _ e1 e2 e3 e4 _ f1 f2 f3 _ g1 g2 _ h1 _ _
  clear hap
  refine of_open bT ?_
  intro k1 k2 k3 k4 k5 k6 k7 k8 k9
  clear bT
  have N0 := N
  clear N
  refine hPz ?_
  clear hPz Pz
  repeat' (first | ((with_reducible show wpAny _ _ (call (Value.ref _) _) _ _ _); k_dflt (refine use_getR (by k_asm) (by k_asm) (by k_asm) (by k_asm) (by k_mem) (by k_mem) (by k_mem) (by assumption) (by assumption) (by assumption) (by simp only [Around.deeper]; omega) ?_); top_caught0) | top_args)
  rename Fr _ _ _ _ => F2
  rename News _ _ _ _ => N2
  rw [List.push_toArray] at N2
  obtain ⟨tb', N3⟩ : ∃ tb', News _ _ _ ((Tp, tupO [Value.int p tp]) :: [(x, instObj 137 dx), (dx, sortD w.params t0 t1 t2 t3 (.ref dn) .none pass fini), (dn, o), (y, infoObj dy (.int k ta) (.int (np + 1) tb') (.ref l)), (dy, emptyDict), (l, W.listOf us.toArray n), (y2, infoObj dy2 (.int p tc) (.int np2 td) (.ref l2)), (dy2, emptyDict), (l2, W.listOf (us2 ++ [Value.int k tn]).toArray (n2 + 1))]) := ⟨_, N2⟩
  subst hTp
  exact finB (s := { s with heap := s.heap.push (tupO [Value.int p tp]) }) hB0 Z.1 Z.2.1 Z.2.2 (fun r foc' h' tk' hp => hQ r foc' h' tk' hp) _ ⟨tb', tn, rfl, rfl⟩ F2 N3 (fun q hq => List.mem_cons_of_mem _ hq)
/-- add(k, k) -/
theorem self_tell (x dx dn y dy l : Addr) (o : Obj) (t0 t1 t2 t3 : Tok) (pass fini : Value) (kvs : List (Int × Value)) (k np : Int) (tn tp ta tb : Tok) (us : List Value) (n : Nat) (ho : o.IsDictOf (intKind Pg w) kvs) (hk : valueAt kvs k = some (.ref y)) (hdn : (dn == sysModules) = false) (hz : us.length ≤ 100)
    (hap : Apart [(x, instObj 137 dx), (dx, sortD w.params t0 t1 t2 t3 (.ref dn) .none pass fini), (dn, o), (y, infoObj dy (.int k ta) (.int np tb) (.ref l)), (dy, emptyDict), (l, W.listOf us.toArray n)]) (hdp : dp + 14 < recursionLimit) :
    Tell w (mkA dp fr gd un) h₀ s [(x, instObj 137 dx), (dx, sortD w.params t0 t1 t2 t3 (.ref dn) .none pass fini), (dn, o), (y, infoObj dy (.int k ta) (.int np tb) (.ref l)), (dy, emptyDict), (l, W.listOf us.toArray n)] (call (.ref 87) [.ref x, .int k tn, .int k tp])
      (fun r new => ∃ tb' tk', r = .none ∧ new = [(x, instObj 137 dx), (dx, sortD w.params t0 t1 t2 t3 (.ref dn) .none pass fini), (dn, o), (y, infoObj dy (.int k ta) (.int (np + 1) tb') (.ref l)), (dy, emptyDict), (l, W.listOf (us ++ [Value.int k tk']).toArray (n + 1))]) := by
  intro rest Q E S O D hapR hQ
  have Z := push_led (o := tupO [.int k tp]) O D hapR rfl
  refine wpAny_call (enterV S O (D.sub (List.subset_append_left _ _)) (by k_is) (by k_is) (by omega) (vs := [.int k tp]) (nm := Str.ofString "predecessors") (binds := [(Str.ofString "self", .ref x), (Str.ofString "node", .int k tn)]) rfl (Nat.le_of_ble_eq_true rfl) (locs rfl) rfl ?_ rfl rfl rfl (by decide))
  intro Tp L h₁ mean mg mb hTp X T F N
  obtain ⟨B0, hB0⟩ : ∃ B0, B0 = under (s.heap.push (tupO [.int k tp])) ((Tp, tupO [.int k tp]) :: [(x, instObj 137 dx), (dx, sortD w.params t0 t1 t2 t3 (.ref dn) .none pass fini), (dn, o), (y, infoObj dy (.int k ta) (.int np tb) (.ref l)), (dy, emptyDict), (l, W.listOf us.toArray n)]) := ⟨_, rfl⟩
  rw [← hB0] at X T F N
  have bT := fun q hq => Nat.ne_of_lt (hTp ▸ D.lt q (List.mem_append_left rest hq) : q.1 < Tp)
  refine byProp fun Pz hPz => ?_
  refine apart_open0 hap ?_
  intro a1 a2 a3 a4 a5 _ b1 b2 b3 b4 _ c1 c2 c3 _ d1 d2 _ e1 _ _
  clear hap
  refine of_open bT ?_
  intro k1 k2 k3 k4 k5 k6
  clear bT
  have N0 := N
  clear N
  refine hPz ?_
  clear hPz Pz
  repeat' (first | ((with_reducible show wpAny _ _ (call (Value.ref _) _) _ _ _); k_dflt (refine use_getR (by k_asm) (by k_asm) (by k_asm) (by k_asm) (by k_mem) (by k_mem) (by k_mem) (by assumption) (by assumption) (by assumption) (by simp only [Around.deeper]; omega) ?_); top_caught0) | top_args)
  rename Fr _ _ _ _ => F2
  rename News _ _ _ _ => N2
  rw [List.push_toArray] at N2
  obtain ⟨tb', N3⟩ : ∃ tb', News _ _ _ ((Tp, tupO [Value.int k tp]) :: [(x, instObj 137 dx), (dx, sortD w.params t0 t1 t2 t3 (.ref dn) .none pass fini), (dn, o), (y, infoObj dy (.int k ta) (.int (np + 1) tb') (.ref l)), (dy, emptyDict), (l, W.listOf (us ++ [Value.int k tn]).toArray (n + 1))]) := ⟨_, N2⟩
  subst hTp
  exact finB (s := { s with heap := s.heap.push (tupO [Value.int k tp]) }) hB0 Z.1 Z.2.1 Z.2.2 (fun r foc' h' tk' hp => hQ r foc' h' tk' hp) _ ⟨tb', tn, rfl, rfl⟩ F2 N3 (fun q hq => List.mem_cons_of_mem _ hq)
end
end -- MK6
example : True := by first | (w_top off; walk1) | trivial
section -- MN
section
variable {w : World} {A : Around} {E : Value → Shared → Prop} {s : Shared} {env : Env} {h₀ : Heap} {x : Str} {body : List Stmt} {Q : Flow → Shared → Prop}
/-- over a source of the ledger that the body leaves alone -/
theorem loop_at {I ax : Addr} {oS : Obj} {n : Nat} {P : Nat → Value → Prop} {StI : Nat → Heap → Prop} {m : Str → Option Value} {led : List (Addr × Obj)}
    (W : Walks Pg w A I [I, ax] [I] n P (fun i h => StI i h ∧ h.get? ax = some oS)) (live : ∀ i h, StI i h → ∃ o, h.get? I = some o) (hI : h₀.get? I = none) (hIL : env.locals ≠ I) (hst : StI 0 s.heap) (hl : (ax, oS) ∈ led)
    (F : Fr h₀ env.locals s.heap m) (N : News h₀ env.locals s.heap led) (hne : ∀ p ∈ led, p.1 ≠ I)
    (J : Nat → (Str → Option Value) → List (Addr × Obj) → Prop) (h0 : J 0 m led)
    (step : ∀ i v m₁ led₁ h₁ tk₁ oI, i < n → P i v → J i m₁ led₁ → (∀ p ∈ led₁, p.1 ≠ I) →
      Fr h₀ env.locals h₁ (fun y => if y = x then some v else m₁ y) → News h₀ env.locals h₁ (led₁ ++ [(I, oI), (ax, oS)]) →
      wpAny (model Pg w) A (execs body env) (TurnTo h₀ env.locals I [(I, oI), (ax, oS)] (J (i + 1)) { s with heap := h₁, toks := tk₁ } Q) E { s with heap := h₁, toks := tk₁ })
    (done : ∀ h' tk m' led', Fr h₀ env.locals h' m' → News h₀ env.locals h' led' → J n m' led' → Q .next { s with heap := h', toks := tk }) :
    LoopAtV Pg w A h₀ env x body Q E (.ref I) s := by
  have zl := N _ hl
  refine loop_walks (fp := [I, ax]) (m := m) (led := led) W ?_ hI ⟨hst, zl.1⟩ F N hne J h0 ?_ ?_ ?_
  · intro hm
    rcases List.mem_cons.mp hm with e | hm
    · exact hIL e
    · exact zl.2.1 (List.mem_singleton.mp hm).symm
  · intro i v m₁ led₁ s₁ own hs hin hP hJ hoff hfp hlive hall hst F₁ N₁
    obtain ⟨o, ho⟩ := hlive
    obtain ⟨h, tk, rfl⟩ := hs
    have hmI := hall _ (.head _) hI o ho
    have hml := hall _ (.tail _ (.head _)) zl.2.2 _ hst.2
    refine wpAny_mono (step i v m₁ led₁ h tk o hin hP hJ hoff F₁ (fun p hp => N₁ p ?_)) (fun f s₂ q => q.sub fun p hp => ?_) fun _ _ e => e
    · rcases List.mem_append.mp hp with hp | hp
      · exact List.mem_append_left _ hp
      · rcases List.mem_cons.mp hp with rfl | hp
        · exact List.mem_append_right _ hmI
        · rw [List.mem_singleton.mp hp]; exact List.mem_append_right _ hml
    · have e2 := (N₁ p (List.mem_append_right _ hp)).1
      rcases List.mem_cons.mp (hfp _ hp) with e1 | e1
      · rw [e1] at e2
        have e3 : p = (I, o) := Prod.ext e1 (Option.some.inj (e2.symm.trans ho))
        rw [e3]; exact .head _
      · have e1 := List.mem_singleton.mp e1
        rw [e1] at e2
        have e3 : p = (ax, oS) := Prod.ext e1 (Option.some.inj (e2.symm.trans hst.2))
        rw [e3]; exact .tail _ (.head _)
  · rintro i h ⟨q, _⟩
    exact live i h q
  · intro h' tk m' led' F' N' hJ
    exact done h' tk m' led' F' N' hJ
noncomputable abbrev tupN (its : Array Value) (n : Nat) : Obj := { cls := .type "tuple", data := .seq its n }
theorem loop_tupleE {l : Addr} {its : Array Value} {nn : Nat} {m : Str → Option Value} {led : List (Addr × Obj)} (hl : (l, tupN its nn) ∈ led) (F : Fr h₀ env.locals s.heap m) (N : News h₀ env.locals s.heap led) (hh : A.handled = none)
    (J : Nat → (Str → Option Value) → List (Addr × Obj) → Prop) (h0 : J 0 m led)
    (step : ∀ I i v m₁ led₁ h₁ tk₁ oI, I = s.heap.objs.size → i < its.size → its[i]? = some v → J i m₁ led₁ → (∀ p ∈ led₁, p.1 ≠ I) →
      Fr h₀ env.locals h₁ (fun y => if y = x then some v else m₁ y) → News h₀ env.locals h₁ (led₁ ++ [(I, oI), (l, tupN its nn)]) →
      wpAny (model Pg w) A (execs body env) (TurnTo h₀ env.locals I [(I, oI), (l, tupN its nn)] (J (i + 1)) { s with heap := h₁, toks := tk₁ } Q) E { s with heap := h₁, toks := tk₁ })
    (done : ∀ h' tk m' led', Fr h₀ env.locals h' m' → News h₀ env.locals h' led' → J its.size m' led' → Q .next { s with heap := h', toks := tk }) :
    wpAny (model Pg w) A (pyIter (.ref l)) (fun it s₂ => LoopAtV Pg w A h₀ env x body Q E it s₂) E s := by
  have hne : l ≠ s.heap.objs.size := Nat.ne_of_lt (Heap.lt_size (N _ hl).1)
  have W₀ := Walks.tuple (prog := Pg) (w := w) (A := A) hh s.heap.objs.size l hne its
  have hl' : ∀ h : Heap, h.get? l = some (tupN its nn) → h.IsTuple l its := fun h e => ⟨_, e, rfl, nn, rfl⟩
  have W' : Walks Pg w A s.heap.objs.size [s.heap.objs.size, l] [s.heap.objs.size] its.size (fun i v => its[i]? = some v) (fun i h => h.IsTupleIter s.heap.objs.size l i ∧ h.get? l = some (tupN its nn)) := by
    refine ⟨W₀.sub, fun i h h' st hk => ⟨st.1.at fun o e => hk _ (by simp) o e, hk _ (by simp) _ st.2⟩, fun i s Q E hi st hQ => ?_, fun s Q E st hQ => ?_, fun i s Q E st hQ => ?_⟩
    · exact W₀.item i s Q E hi ⟨st.1, hl' _ st.2⟩ fun v h' tk hP hst hk => hQ v h' tk hP ⟨hst.1, hk l _ (by simpa using hne) st.2⟩ hk
    · exact W₀.done s Q E ⟨st.1, hl' _ st.2⟩ hQ
    · exact W₀.self i s Q E ⟨st.1, hl' _ st.2⟩ hQ
  refine wpAny_pyIter_tuple (hl' _ (N _ hl).1) ?_
  have F₂ := F.push { cls := .type "tuple_iterator", data := .fields #[.ref l, .int 0 0] }
  exact loop_at (s := { s with heap := s.heap.push { cls := .type "tuple_iterator", data := .fields #[.ref l, .int 0 0] } }) W' (fun i h st => by obtain ⟨o, e, _⟩ := st; exact ⟨o, e⟩) (next_is_new F) (fun e => absurd F.ns.lt (e ▸ Nat.lt_irrefl _)) ⟨_, Heap.get?_push_size _ rfl, rfl, rfl⟩ hl F₂ (fun p hp => ⟨Heap.get?_push_of_some _ (N p hp).1, (N p hp).2⟩) (fun p hp => Nat.ne_of_lt (Heap.lt_size (N p hp).1)) J h0
    (fun i v m₁ led₁ h₁ tk₁ oI hi hP hJ ho F₁ N₁ => step _ i v m₁ led₁ h₁ tk₁ oI rfl hi hP hJ ho F₁ N₁) done
theorem loop_nil {l : Addr} {nn : Nat} {m : Str → Option Value} {led : List (Addr × Obj)} (hl : (l, W.listOf #[] nn) ∈ led) (F : Fr h₀ env.locals s.heap m) (N : News h₀ env.locals s.heap led) (hh : A.handled = none)
    (done : ∀ h' tk, Fr h₀ env.locals h' m → News h₀ env.locals h' led → Q .next { s with heap := h', toks := tk }) :
    wpAny (model Pg w) A (pyIter (.ref l)) (fun it s₂ => LoopAtV Pg w A h₀ env x body Q E it s₂) E s :=
  loop_listE hl F N hh (fun _ m' led' => m' = m ∧ led' = led) ⟨rfl, rfl⟩ (fun I i v m₁ led₁ h₁ tk₁ oI _ hi => absurd hi (Nat.not_lt_zero _)) fun h' tk m' led' F' N' hJ => by
    obtain ⟨rfl, rfl⟩ := hJ
    exact done h' tk F' N'
theorem loop_one {l : Addr} {nn : Nat} {v : Value} {m : Str → Option Value} {led : List (Addr × Obj)} (hl : (l, W.listOf #[v] nn) ∈ led) (F : Fr h₀ env.locals s.heap m) (N : News h₀ env.locals s.heap led) (hh : A.handled = none)
    (step : ∀ I h₁ tk₁ oI, (∀ p ∈ led, p.1 ≠ I) → Fr h₀ env.locals h₁ (fun y => if y = x then some v else m y) → News h₀ env.locals h₁ ((I, oI) :: led) →
      wpAny (model Pg w) A (execs body env) (TurnTo h₀ env.locals I [(I, oI), (l, W.listOf #[v] nn)] (fun m' led' => ∀ h' tk, Fr h₀ env.locals h' m' → News h₀ env.locals h' led' → Q .next { s with heap := h', toks := tk }) { s with heap := h₁, toks := tk₁ } Q) E { s with heap := h₁, toks := tk₁ }) :
    wpAny (model Pg w) A (pyIter (.ref l)) (fun it s₂ => LoopAtV Pg w A h₀ env x body Q E it s₂) E s :=
  loop_listE hl F N hh (fun i m' led' => match i with | 0 => m' = m ∧ led' = led | _ + 1 => ∀ h' tk, Fr h₀ env.locals h' m' → News h₀ env.locals h' led' → Q .next { s with heap := h', toks := tk }) ⟨rfl, rfl⟩ (fun I i v' m₁ led₁ h₁ tk₁ oI _ hi hv hJ ho _ F₁ N₁ => by
    match i, hi with
    | 0, _ =>
      obtain ⟨rfl, rfl⟩ := hJ
      obtain rfl : v = v' := by simpa using hv
      exact step I h₁ tk₁ oI ho F₁ fun p hp => N₁ p (by
        rcases List.mem_cons.mp hp with rfl | hp
        · simp
        · exact List.mem_append_left _ hp)) fun h' tk m' led' F' N' hJ => hJ h' tk F' N'
theorem TurnTo.one {h' : Heap} {L I l : Addr} {oI ol : Obj} {led' : List (Addr × Obj)} {s₁ : Shared} {m' : Str → Option Value} {tk : Nat} {P : (Str → Option Value) → List (Addr × Obj) → Prop} (F : Fr h₀ L h' m') (N : News h₀ L h' ((I, oI) :: led')) (hl : (l, ol) ∈ led') (hI : ∀ p ∈ led', p.1 ≠ I)
    (done : P m' led') : TurnTo h₀ L I [(I, oI), (l, ol)] P s₁ Q .next { s₁ with heap := h', toks := tk } :=
  TurnTo.next F (fun p hp => N p (by
    rcases List.mem_append.mp hp with hp | hp
    · exact .tail _ hp
    · rcases List.mem_cons.mp hp with rfl | hp
      · exact .head _
      · rw [List.mem_singleton.mp hp]; exact .tail _ hl)) hI done
end
end -- MN
example : True := by first | (w_top off; walk1) | trivial
section -- MO
/-- what is kept of a node -/
structure Nd where
  y : Addr
  d : Addr
  l : Addr
  t1 : Tok
  t2 : Tok
  np : Int
  sc : List Value
  n : Nat
noncomputable abbrev ndY (k : Nat) (r : Nd) : Addr × Obj := (r.y, infoObj r.d (.int k r.t1) (.int r.np r.t2) (.ref r.l))
noncomputable abbrev ndD (r : Nd) : Addr × Obj := (r.d, emptyDict)
noncomputable abbrev ndL (r : Nd) : Addr × Obj := (r.l, W.listOf r.sc.toArray r.n)
noncomputable def fam (nd : Nat → Nd) (ks : List Nat) : List (Addr × Obj) := ks.flatMap fun k => [ndY k (nd k), ndD (nd k), ndL (nd k)]
noncomputable def upd (nd : Nat → Nd) (k : Nat) (r : Nd) : Nat → Nd := fun j => if j = k then r else nd j
theorem upd_self {nd : Nat → Nd} {k : Nat} {r : Nd} : upd nd k r k = r := if_pos rfl
theorem upd_ne {nd : Nat → Nd} {k j : Nat} {r : Nd} (h : j ≠ k) : upd nd k r j = nd j := if_neg h
theorem fam_cons (nd : Nat → Nd) (k : Nat) (ks : List Nat) : fam nd (k :: ks) = ndY k (nd k) :: ndD (nd k) :: ndL (nd k) :: fam nd ks := rfl
theorem fam_upd {nd : Nat → Nd} {k : Nat} {r : Nd} {ks : List Nat} (h : k ∉ ks) : fam (upd nd k r) ks = fam nd ks := by
  unfold fam
  have : ∀ j ∈ ks, upd nd k r j = nd j := fun j hj => upd_ne fun e => h (e ▸ hj)
  induction ks with
  | nil => rfl
  | cons j js ih =>
    rw [List.flatMap_cons, List.flatMap_cons, this j (.head _), ih (fun h' => h (.tail _ h')) fun i hi => this i (.tail _ hi)]
noncomputable abbrev but (k : Nat) : List Nat := (List.range 12).erase k
theorem but_perm {k : Nat} (h : k < 12) : (List.range 12).Perm (k :: but k) := List.perm_cons_erase (List.mem_range.mpr h)
theorem not_but {k : Nat} : k ∉ but k := fun h => (List.Nodup.not_mem_erase List.nodup_range) h
theorem fam_perm {nd : Nat → Nd} {k : Nat} (h : k < 12) : (fam nd (List.range 12)).Perm (ndY k (nd k) :: ndD (nd k) :: ndL (nd k) :: fam nd (but k)) :=
  (but_perm h).flatMap_right _
/-- the fam with one node turned -/
theorem fam_turn {nd : Nat → Nd} {k : Nat} {r : Nd} (h : k < 12) : (fam (upd nd k r) (List.range 12)).Perm (ndY k r :: ndD r :: ndL r :: fam nd (but k)) := by
  have := fam_perm (nd := upd nd k r) h
  rw [upd_self, fam_upd not_but] at this
  exact this
theorem Apart.perm {l l' : List (Addr × Obj)} (h : Apart l) (p : l.Perm l') : Apart l' := (p.map Prod.fst).nodup_iff.mp h
theorem Apart.addr {l l' : List (Addr × Obj)} (h : Apart l) (p : l.map (·.1) = l'.map (·.1)) : Apart l' := by unfold Apart; rw [← p]; exact h
theorem Apart.head {a : Addr × Obj} {l : List (Addr × Obj)} (h : Apart (a :: l)) : ∀ p ∈ l, p.1 ≠ a.1 := by
  intro p hp e
  simp only [Apart, List.map_cons, List.nodup_cons] at h
  exact h.1 (e ▸ List.mem_map_of_mem hp)
theorem Apart.tail {a : Addr × Obj} {l : List (Addr × Obj)} (h : Apart (a :: l)) : Apart l := by
  simp only [Apart, List.map_cons, List.nodup_cons] at h
  exact h.2
theorem Apart.cons {a : Addr × Obj} {l : List (Addr × Obj)} (h : Apart l) (ha : ∀ p ∈ l, p.1 ≠ a.1) : Apart (a :: l) := by
  simp only [Apart, List.map_cons, List.nodup_cons]
  refine ⟨fun hm => ?_, h⟩
  obtain ⟨p, hp, e⟩ := List.mem_map.mp hm
  exact ha p hp e
theorem Apart.cross {a b : List (Addr × Obj)} (h : Apart (a ++ b)) : ∀ p ∈ a, ∀ q ∈ b, p.1 ≠ q.1 := by
  induction a with
  | nil => intro p hp; cases hp
  | cons x r ih =>
    intro p hp q hq
    rcases List.mem_cons.mp hp with rfl | hp
    · exact Ne.symm (Apart.head h q (List.mem_append_right _ hq))
    · exact ih (Apart.tail h) p hp q hq
theorem Apart.right {a b : List (Addr × Obj)} (h : Apart (a ++ b)) : Apart b := by
  induction a with
  | nil => exact h
  | cons x r ih => exact ih (Apart.tail h)
theorem Apart.left {a b : List (Addr × Obj)} (h : Apart (a ++ b)) : Apart a := by
  simp only [Apart, List.map_append] at h ⊢
  exact (List.nodup_append.mp h).1
theorem addr_cons {x y : Addr × Obj} {a b : List (Addr × Obj)} (h : x.1 = y.1) (e : a.map (·.1) = b.map (·.1)) : (x :: a).map (·.1) = (y :: b).map (·.1) := by rw [List.map_cons, List.map_cons, h, e]
theorem addr_app {a b x y : List (Addr × Obj)} (h : a.map (·.1) = b.map (·.1)) (e : x.map (·.1) = y.map (·.1)) : (a ++ x).map (·.1) = (b ++ y).map (·.1) := by rw [List.map_append, List.map_append, h, e]
theorem off_addr {a b : List (Addr × Obj)} {I : Addr} (h : ∀ p ∈ a, p.1 ≠ I) (e : b.map (·.1) = a.map (·.1)) : ∀ p ∈ b, p.1 ≠ I := fun p hp q => by
  have hm : p.1 ∈ a.map (·.1) := e ▸ List.mem_map_of_mem hp
  obtain ⟨x, hx, r⟩ := List.mem_map.mp hm
  exact h x hx (r.trans q)
theorem fam_addr {nd nd' : Nat → Nd} {ks : List Nat} (h : ∀ k, (nd' k).y = (nd k).y ∧ (nd' k).d = (nd k).d ∧ (nd' k).l = (nd k).l) : (fam nd' ks).map (·.1) = (fam nd ks).map (·.1) := by
  induction ks with
  | nil => rfl
  | cons j js ih => simp only [fam_cons, List.map_cons, ih, (h j).1, (h j).2.1, (h j).2.2]
theorem fam_cls {nd : Nat → Nd} {ks : List Nat} : ∀ p ∈ fam nd ks, p.2.cls = .ref 40 ∨ p.2 = emptyDict ∨ p.2.cls = .type "list" := by
  intro p hp
  obtain ⟨k, _, hk⟩ := List.mem_flatMap.mp hp
  simp only [List.mem_cons, List.mem_nil_iff, or_false] at hk
  rcases hk with rfl | rfl | rfl
  · exact .inl rfl
  · exact .inr (.inl rfl)
  · exact .inr (.inr rfl)
theorem news_ne {h₀ h : Heap} {L a b : Addr} {o o' : Obj} {led : List (Addr × Obj)} (N : News h₀ L h led) (ha : (a, o) ∈ led) (hb : (b, o') ∈ led) (ne : o ≠ o') : a ≠ b := fun e => by
  have z1 := (N _ ha).1
  have z2 := (N _ hb).1
  simp only [e] at z1 z2
  rw [z2] at z1
  exact ne (Option.some.inj z1).symm
theorem apart_new {h₀ h : Heap} {L a : Addr} {o : Obj} {led : List (Addr × Obj)} (N : News h₀ L h ((a, o) :: led)) (ne : ∀ p ∈ led, p.2 ≠ o) (hA : Apart led) : Apart ((a, o) :: led) :=
  hA.cons fun p hp e => by
    have z1 := (N (a, o) (.head _)).1
    have z2 := (N p (.tail _ hp)).1
    rw [e, z1] at z2
    exact ne p hp (Option.some.inj z2).symm
theorem perm_front {A F R : List (Addr × Obj)} {y : Addr × Obj} (h : F.Perm (y :: R)) : (A ++ F).Perm (y :: (A ++ R)) := (h.append_left A).trans List.perm_middle
theorem take_in {rs : List Int} {i : Nat} {k : Int} (h : rs[i]? = some k) (j : Int) : j ∈ rs.take (i + 1) ↔ j = k ∨ j ∈ rs.take i := by
  rw [List.take_add_one, h]
  simp [or_comm]
/-- the keys and what lies under them -/
noncomputable def kvsOf (nd : Nat → Nd) (n : Nat) : List (Int × Value) := (List.range n).map fun (k : Nat) => ((k : Int), Value.ref (nd k).y)
theorem kvs_at {nd : Nat → Nd} {n k : Nat} (h : k < n) : valueAt (kvsOf nd n) (k : Int) = some (.ref (nd k).y) := by
  unfold valueAt kvsOf
  rw [List.find?_map]
  have : ((List.range n).find? ((fun kv : Int × Value => decide (kv.1 = (k : Int))) ∘ fun (k : Nat) => ((k : Int), Value.ref (nd k).y))) = some k := by
    rw [List.find?_eq_some_iff_getElem]
    refine ⟨by simp, k, by simpa using h, by simp, fun j hj => ?_⟩
    simp
    omega
  rw [this]; rfl
theorem kvs_none {nd : Nat → Nd} {n : Nat} : valueAt (kvsOf nd n) (n : Int) = none := by
  unfold valueAt kvsOf
  rw [List.find?_map]
  have : ((List.range n).find? ((fun kv : Int × Value => decide (kv.1 = (n : Int))) ∘ fun (k : Nat) => ((k : Int), Value.ref (nd k).y))) = none := by
    rw [List.find?_eq_none]
    intro j hj
    have := List.mem_range.mp hj
    simp
    omega
  rw [this]; rfl
theorem kvs_stored {nd : Nat → Nd} {n : Nat} {r : Nd} : stored (kvsOf nd n) (n : Int) (.ref r.y) = kvsOf (upd nd n r) (n + 1) := by
  unfold stored
  have : ((kvsOf nd n).any fun kv => decide (kv.1 = (n : Int))) = false := by
    rw [List.any_eq_false]
    intro kv hkv
    obtain ⟨j, hj, rfl⟩ := List.mem_map.mp hkv
    have := List.mem_range.mp hj
    simp
    omega
  rw [this, if_neg (by simp)]
  unfold kvsOf
  rw [List.range_succ, List.map_append]
  congr 1
  · refine List.map_congr_left fun j hj => ?_
    have := List.mem_range.mp hj
    rw [upd_ne (by omega)]
  · simp [upd_self]
theorem kvs_len {nd : Nat → Nd} {n : Nat} : (kvsOf nd n).length = n := by simp [kvsOf]
theorem kvs_eq {nd nd' : Nat → Nd} {n : Nat} (h : ∀ k, (nd' k).y = (nd k).y) : kvsOf nd' n = kvsOf nd n := by
  unfold kvsOf
  exact List.map_congr_left fun j _ => by rw [h]
end -- MO
example : True := by first | (w_top off; walk1) | trivial
section -- MP
section
variable {w : World} {dp un : Nat} {fr : Option (List Env)} {gd : Option (List Code)} {h₀ : Heap} {s : Shared}
noncomputable abbrev sortL (P : Params) (x dx dn rl : Addr) (o : Obj) (t0 t1 t2 t3 tp tf : Tok) (pa fi : Int) (us : List Value) (n : Nat) : List (Addr × Obj) :=
  [(x, instObj 137 dx), (dx, sortD P t0 t1 t2 t3 (.ref dn) (.ref rl) (.int pa tp) (.int fi tf)), (dn, o), (rl, W.listOf us.toArray n)]
inductive GrJ (w : World) (x dx dn rl : Addr) (o : Obj) (t0 t1 t2 t3 tp tf : Tok) (pa fi : Int) (us : List Value) (n : Nat) (nd : Nat → Nd) (rs : List Int) (D' : Addr) (i : Nat) (m : Str → Option Value) (led : List (Addr × Obj)) : Prop
  | mk (nd' : Nat → Nd) (m1 : m (Str.ofString "self") = some (.ref x)) (m2 : m (Str.ofString "n2i") = some (.ref dn)) (m3 : m (Str.ofString "result") = some (.ref D')) (e : led = (D', tupO us) :: (sortL w.params x dx dn rl o t0 t1 t2 t3 tp tf pa fi us n ++ fam nd' (List.range 12))) (hnd : ∀ j : Nat, ∃ t, nd' j = { nd j with np := if (j : Int) ∈ rs.take i then -1 else (nd j).np, t2 := t })
inductive ReadyPost (w : World) (x dx dn rl : Addr) (o : Obj) (t0 t1 t2 t3 tf : Tok) (pa fi : Int) (us : List Value) (rs : List Int) (nd : Nat → Nd) (r : Value) (new : List (Addr × Obj)) : Prop
  | mk (D' : Addr) (tp' : Tok) (nd' : Nat → Nd) (n' : Nat) (f1 : r = .ref D') (f2 : new = (D', tupO us) :: (sortL w.params x dx dn rl o t0 t1 t2 t3 tp' tf (pa + us.length) fi [] n' ++ fam nd' (List.range 12))) (f3 : (∀ j : Nat, ∃ t, nd' j = { nd j with np := if (j : Int) ∈ rs then -1 else (nd j).np, t2 := t })) (f4 : Apart new)
theorem getready_tell (x dx dn rl : Addr) (o : Obj) (t0 t1 t2 t3 tp tf : Tok) (pa fi : Int) (us : List Value) (rs : List Int) (n : Nat) (nd : Nat → Nd) (fm : List (Addr × Obj)) (hfm : fm = fam nd (List.range 12)) (ho : o.IsDictOf (intKind Pg w) (kvsOf nd 12)) (hus : IntsAre us rs) (hrs : ∀ k ∈ rs, 0 ≤ k ∧ k < 12) (hz : us.length ≤ 12) (hpos : 0 < us.length) (hdn : (dn == sysModules) = false)
    (hap : Apart (sortL w.params x dx dn rl o t0 t1 t2 t3 tp tf pa fi us n ++ fm)) (hdp : dp + 8 < recursionLimit) :
    Tell w (mkA dp fr gd un) h₀ s (sortL w.params x dx dn rl o t0 t1 t2 t3 tp tf pa fi us n ++ fm) (call (.ref 99) [.ref x])
      (ReadyPost w x dx dn rl o t0 t1 t2 t3 tf pa fi us rs nd) := by
  intro rest Q E S O D hapR hQ
  refine wpAny_call (enter S O (D.sub (List.subset_append_left _ _)) (by k_is) (by k_is) (by omega) (binds := [(Str.ofString "self", .ref x)]) (BindsTo.of_eq rfl) (locs rfl) ?_ rfl rfl rfl (by decide))
  intro L h₁ mean mg mb X T F N
  unfold sortL sortD at N
  simp only [List.cons_append, List.nil_append] at N
  repeat' (first | ((with_reducible show wpAny _ _ (exec (Stmt.For (Expr.Name _ _) (Expr.Name _ _) _ _ _) _) _ _ _); with_unfolding_all refine for_hold ‹Fr _ _ _ _› rfl rfl ?_) | top_args)
  rename Fr _ _ _ _ => F2
  rename News _ _ _ _ => N2
  rename_i D' _ _ _ _ _
  have A0 : Apart ((D', tupO us) :: (sortL w.params x dx dn rl o t0 t1 t2 t3 tp tf pa fi us n ++ fm)) := by
    refine apart_new N2 (fun p hp e => ?_) hap
    have hc : p.2.cls = .type "tuple" := by rw [e]
    simp only [List.cons_append, List.nil_append, List.mem_cons] at hp
    rcases hp with rfl | rfl | rfl | rfl | hp
    · exact absurd hc (by first | top_raise0 | simp)
    · exact absurd hc (by simp [sortD, dictOf])
    · obtain ⟨es, ep, q, q2, _⟩ := ho
      have e : o = tupO us := e
      rw [e] at q2
      cases q2
    · exact absurd hc (by first | top_raise0 | simp)
    · rw [hfm] at hp
      rcases fam_cls p hp with q | q | q
      · exact absurd (q.symm.trans hc) (by first | top_raise0 | simp)
      · rw [q] at hc; exact absurd hc (by simp [emptyDict])
      · exact absurd (q.symm.trans hc) (by first | top_raise0 | simp)
  refine loop_tupleE (nn := 0) (its := us.toArray) (.head _) F2 N2 rfl (fun i m led => GrJ w x dx dn rl o t0 t1 t2 t3 tp tf pa fi us n nd rs D' i m led) ?_ ?_ ?_
  · exact ⟨nd, rfl, rfl, rfl, by rw [hfm]; rfl, fun j => ⟨(nd j).t2, by simp⟩⟩
  · intro I i v m₁ led₁ h₁ tk₁ oI hI hi hv hZ0 hoI F N
    refine byProp fun Pz hPz => ?_
    obtain ⟨nd', m1, m2, m3, rfl, hnd⟩ := hZ0
    obtain ⟨z, hz1⟩ : ∃ z, rs[i]? = some z := by
      have : i < rs.length := by have := hus.length; simp at hi; omega
      exact ⟨_, List.getElem?_eq_getElem this⟩
    obtain ⟨t, hv2⟩ := hus.get i z hz1
    obtain rfl : v = .int z t := by rw [List.getElem?_toArray, hv2] at hv; exact (Option.some.inj hv).symm
    obtain ⟨k, rfl⟩ : ∃ k : Nat, z = (k : Int) := ⟨z.toNat, by have := hrs z (List.mem_of_getElem? hz1); omega⟩
    have hk : k < 12 := by have := hrs k (List.mem_of_getElem? hz1); omega
    have hst : ∀ j, (nd' j).y = (nd j).y ∧ (nd' j).d = (nd j).d ∧ (nd' j).l = (nd j).l := fun j => by obtain ⟨t, e⟩ := hnd j; rw [e]; exact ⟨rfl, rfl, rfl⟩
    have hkv : valueAt (kvsOf nd 12) (k : Int) = some (.ref (nd' k).y) := by rw [(hst k).1]; exact kvs_at hk
    have A1 : Apart ([(D', tupO us), (x, instObj 137 dx), (dx, sortD w.params t0 t1 t2 t3 (.ref dn) (.ref rl) (.int pa tp) (.int fi tf)), (dn, o), (rl, W.listOf us.toArray n)] ++ fam nd' (List.range 12)) := A0.addr (by rw [hfm]; simp [fam_addr hst])
    have A2 := (A1.perm (perm_front (fam_perm hk))).head
    have hyI : I ≠ (nd' k).y := fun e => hoI (ndY k (nd' k)) (by
      have := (fam_perm (nd := nd') hk).symm.subset (List.mem_cons_self)
      simp [this]) e.symm
    have N3 : News (under s.heap (sortL w.params x dx dn rl o t0 t1 t2 t3 tp tf pa fi us n ++ fm)) L h₁ (ndY k (nd' k) :: (I, oI) :: ([(D', tupO us), (x, instObj 137 dx), (dx, sortD w.params t0 t1 t2 t3 (.ref dn) (.ref rl) (.int pa tp) (.int fi tf)), (dn, o), (rl, W.listOf us.toArray n)] ++ (ndD (nd' k) :: ndL (nd' k) :: fam nd' (but k)))) := fun p hp => N p (by
      rcases List.mem_cons.mp hp with rfl | hp
      · have := (fam_perm (nd := nd') hk).symm.subset (List.mem_cons_self)
        simp [this]
      · rcases List.mem_cons.mp hp with rfl | hp
        · simp
        · rcases List.mem_append.mp hp with hp | hp
          · refine memIn ?_ hp; top_name
          · have := (fam_perm (nd := nd') hk).symm.subset (List.mem_cons_of_mem _ hp)
            simp [this])
    have hoffY : ∀ p ∈ (I, oI) :: ([(D', tupO us), (x, instObj 137 dx), (dx, sortD w.params t0 t1 t2 t3 (.ref dn) (.ref rl) (.int pa tp) (.int fi tf)), (dn, o), (rl, W.listOf us.toArray n)] ++ (ndD (nd' k) :: ndL (nd' k) :: fam nd' (but k))), p.1 ≠ (nd' k).y := List.forall_mem_cons.mpr ⟨hyI, A2⟩
    simp only [List.cons_append, List.nil_append] at N3 hoffY
    clear N F2 N2
    first | replace F := fr_at (at1s m2 rfl) F | replace F := fr_at (at1c (at1s m2 rfl)) F
    refine hPz ?_
    clear hPz Pz
    repeat (first | k_unfold | ((fail_if_success (with_reducible show wpAny _ _ (subscriptTail _ _ (Value.ref _) (Value.int _ _)) _ _ _)); first | walk1 | (dsimp only; walk1)))
    with_unfolding_all refine kda_item (knd := PySem.intKind _ _) (by k_asm) (by k_mem) (by assumption) (intKind_is _ _ _ _) (by assumption) ?_
    k_steps
    rename Fr _ _ _ _ => F4
    rename News _ _ _ _ => N4
    obtain ⟨t9, N5⟩ : ∃ t9, News _ _ _ (ndY k { nd' k with np := -1, t2 := t9 } :: (I, oI) :: (D', tupO us) :: (x, instObj 137 dx) :: (dx, sortD w.params t0 t1 t2 t3 (.ref dn) (.ref rl) (.int pa tp) (.int fi tf)) :: (dn, o) :: (rl, W.listOf us.toArray n) :: ndD (nd' k) :: ndL (nd' k) :: fam nd' (but k)) := ⟨_, N4⟩
    have hst' : ∀ j, (upd nd' k { nd' k with np := -1, t2 := t9 } j).y = (nd' j).y ∧ (upd nd' k { nd' k with np := -1, t2 := t9 } j).d = (nd' j).d ∧ (upd nd' k { nd' k with np := -1, t2 := t9 } j).l = (nd' j).l := fun j => by
      by_cases e : j = k
      · subst e; rw [upd_self]; exact ⟨rfl, rfl, rfl⟩
      · rw [upd_ne e]; exact ⟨rfl, rfl, rfl⟩
    refine TurnTo.next (led' := (D', tupO us) :: (sortL w.params x dx dn rl o t0 t1 t2 t3 tp tf pa fi us n ++ fam (upd nd' k { nd' k with np := -1, t2 := t9 }) (List.range 12))) F4 (fun p hp => N5 p ?_) (fun p hp e => ?_) ⟨upd nd' k { nd' k with np := -1, t2 := t9 }, m1, rfl, m3, rfl, fun j => ?_⟩
    · rcases List.mem_append.mp hp with hp | hp
      · rcases List.mem_append.mp (show p ∈ [(D', tupO us), (x, instObj 137 dx), (dx, sortD w.params t0 t1 t2 t3 (.ref dn) (.ref rl) (.int pa tp) (.int fi tf)), (dn, o), (rl, W.listOf us.toArray n)] ++ fam (upd nd' k { nd' k with np := -1, t2 := t9 }) (List.range 12) from hp) with hp | hp
        · refine memIn ?_ hp; top_name
        · have := (fam_turn hk).subset hp
          refine memIn ?_ this; top_name
      · refine memIn ?_ hp; top_name
    · refine off_addr hoI ?_ p hp e
      exact addr_cons rfl (addr_app rfl (fam_addr hst'))
    · by_cases e : j = k
      · subst e
        rw [upd_self]
        obtain ⟨t', e'⟩ := hnd j
        refine ⟨t9, ?_⟩
        rw [e', if_pos ((take_in hz1 _).mpr (.inl rfl))]
      · rw [upd_ne e]
        obtain ⟨t', e'⟩ := hnd j
        refine ⟨t', ?_⟩
        rw [e']
        have : ((j : Int) ∈ rs.take (i + 1)) = ((j : Int) ∈ rs.take i) := propext ((take_in hz1 _).trans ⟨fun h => h.resolve_left (fun h => e (by omega)), .inr⟩)
        simp only [this]
  · intro h' tk m' led' F N hZ0
    refine byProp fun Pz hPz => ?_
    obtain ⟨nd', m1, m2, m3, rfl, hnd⟩ := hZ0
    have hst : ∀ j, (nd' j).y = (nd j).y ∧ (nd' j).d = (nd j).d ∧ (nd' j).l = (nd j).l := fun j => by obtain ⟨t, e⟩ := hnd j; rw [e]; exact ⟨rfl, rfl, rfl⟩
    have A1 : Apart ((D', tupO us) :: (sortL w.params x dx dn rl o t0 t1 t2 t3 tp tf pa fi us n ++ fam nd' (List.range 12))) := A0.addr (by rw [hfm]; simp [fam_addr hst])
    clear F2 N2
    refine hPz ?_
    clear hPz Pz
    generalize hfm' : fam nd' (List.range 12) = fm' at A1 N
    simp only [sortL, List.cons_append, List.nil_append] at A1 N
    refine byProp fun Pz hPz => ?_
    refine apart_open (l := [(D', _), (x, _), (dx, _), (dn, _), (rl, _)]) (T := fm') A1 ?_
    intro b1 b2 b3 b4 b5 c1 c2 c3 c4 d1 d2 d3 e1 e2 a5
    have N0 := N
    clear N
    unfold sortD at N0
    first | replace F := fr_at (at1s m1 (at1s m2 (at1s m3 rfl))) F | replace F := fr_at (at1c (at1s m1 (at1s m2 (at1s m3 rfl)))) F
    try dsimp only at F
    refine hPz ?_
    clear hPz Pz
    repeat (first | k_unfold | ((fail_if_success (with_reducible show wpAny _ _ (call (Value.builtin "list.clear") _) _ _ _)); first | walk1 | (dsimp only; walk1)))
    refine li_clear (by k_asm) (by k_asm) (by k_upd) (by assumption) (by omega) ?_
    intros
    try k_sweep
    repeat (first | k_unfold | ((fail_if_success (with_reducible show wpAny _ _ (call (Value.builtin "len") [Value.ref _]) _ _ _)); first | walk1 | (dsimp only; walk1)))
    refine li_lenT (by k_asm) (by k_mem) (by omega) ?_
    intro _ _
    k_steps
    show Q (.ref D') _
    rename Fr _ _ _ _ => F4
    rename News _ _ _ _ => N4
    obtain ⟨t9, N5⟩ : ∃ t9, News _ _ _ ((D', tupO us) :: (sortL w.params x dx dn rl o t0 t1 t2 t3 t9 tf (pa + us.length) fi [] (n + 1) ++ fm')) := ⟨_, N4⟩
    refine fin O D hapR hQ _ ⟨D', t9, nd', n + 1, rfl, rfl, fun j => ?_, ?_⟩ F4 N5 (fun p hp => by rw [← hfm']; exact hp)
    · obtain ⟨t, e⟩ := hnd j
      rw [List.take_of_length_le (by have := hus.length; simp; omega)] at e
      exact ⟨t, e⟩
    · rw [← hfm'] at A1
      exact A1.addr rfl
end
end -- MP
example : True := by first | (w_top off; walk1) | trivial
section -- MQ
section
variable {w : World} {dp un : Nat} {fr : Option (List Env)} {gd : Option (List Code)} {h₀ : Heap} {s : Shared}
theorem meets_bool_list (D : Addr) (us : List Value) (n : Nat) (hz : us.length ≤ 1000) : Meets (Builtin.«bool.__new__» ⟨[.type "bool", .ref D], []⟩) (fun _ R s => s.heap.get? D = some (W.listOf us.toArray n) ∧ ∀ tk, R (.ok (.ret (.bool (!us.isEmpty)))) { s with toks := tk }) := by
  intro prog w A R s h
  obtain ⟨hl, h⟩ := h
  show wpAny _ _ (truthy (.ref D) >>= fun b => ret (.bool b)) _ _ s
  refine wpAny_bind (wpAny_truthy_list (items := us.toArray) ⟨_, hl, rfl, n, rfl⟩ (by simp; omega) ?_)
  rw [show us.toArray.isEmpty = us.isEmpty by simp]
  exact wpAny_pure (h _)
theorem li_bool {prog : Program} {A : Around} {E : Value → Shared → Prop} {L D : Addr} {news : List (Addr × Obj)} {us : List Value} {n : Nat} {Q : Value → Shared → Prop} (N : News h₀ L s.heap news) (hm : (D, W.listOf us.toArray n) ∈ news) (hz : us.length ≤ 1000) (h : ∀ tk, Q (.bool (!us.isEmpty)) { s with toks := tk }) :
    wpAny (model prog w) A (call (.type "bool") [.ref D]) Q E s :=
  call_bool_1 (meets_bool_list D us n hz) ⟨(N _ hm).1, fun tk => ⟨rfl, h tk⟩⟩
theorem active_tell (x dx dn rl : Addr) (t0 t1 t2 t3 tp tf : Tok) (pa fi : Int) (us : List Value) (n : Nat) (hz : us.length ≤ 1000) (hfi : ¬ fi < pa) (hdp : dp + 8 < recursionLimit) :
    Tell w (mkA dp fr gd un) h₀ s [(x, instObj 137 dx), (dx, sortD w.params t0 t1 t2 t3 (.ref dn) (.ref rl) (.int pa tp) (.int fi tf)), (rl, W.listOf us.toArray n)] (call (.ref 106) [.ref x])
      (fun r new => r = .bool (!us.isEmpty) ∧ new = [(x, instObj 137 dx), (dx, sortD w.params t0 t1 t2 t3 (.ref dn) (.ref rl) (.int pa tp) (.int fi tf)), (rl, W.listOf us.toArray n)]) := by
  intro rest Q E S O D hapR hQ
  refine wpAny_call (enter S O (D.sub (List.subset_append_left _ _)) (by k_is) (by k_is) (by omega) (binds := [(Str.ofString "self", .ref x)]) (BindsTo.of_eq rfl) (locs rfl) ?_ rfl rfl rfl (by decide))
  intro L h₁ mean mg mb X T F N
  have N0 := N
  clear N
  unfold sortD at N0
  repeat (first | k_unfold | ((fail_if_success (with_reducible show wpAny _ _ (call (Value.type "bool") _) _ _ _)); first | walk1 | (dsimp only; walk1)))
  refine li_bool (by k_asm) (by k_mem) (by assumption) ?_
  intro _
  k_steps
  exact fin O D hapR hQ _ ⟨rfl, rfl⟩ (by assumption) (by assumption) (by simp [sortD])
theorem use_active {x dx dn rl : Addr} {t0 t1 t2 t3 tp tf : Tok} {pa fi : Int} {us : List Value} {n : Nat} {L : Addr} {m : Str → Option Value} {led : List (Addr × Obj)} {mean : ExcName → Option Value} {mg mb : Str → Option Value} {Q E : Value → Shared → Prop}
    (X : (hd.heap_1 w.params).In h₀) (T : Top Vw Lo mean mg mb h₀) (F : Fr h₀ L s.heap m) (N : News h₀ L s.heap led)
    (i1 : (x, instObj 137 dx) ∈ led) (i2 : (dx, sortD w.params t0 t1 t2 t3 (.ref dn) (.ref rl) (.int pa tp) (.int fi tf)) ∈ led) (i3 : (rl, W.listOf us.toArray n) ∈ led) (hz : us.length ≤ 1000) (hfi : ¬ fi < pa) (hdp : dp + 8 < recursionLimit)
    (hQ : ∀ h' tk', Fr h₀ L h' m → News h₀ L h' led → Q (.bool (!us.isEmpty)) { s with heap := h', toks := tk' }) :
    wpAny (model Pg w) (mkA dp fr gd un) (call (.ref 106) [.ref x]) Q E s :=
  (active_tell x dx dn rl t0 t1 t2 t3 tp tf pa fi us n hz hfi hdp).useR X T F N (fun p hp => by
    simp only [List.mem_cons, List.mem_nil_iff, or_false] at hp
    rcases hp with rfl | rfl | rfl <;> assumption) (fun r foc' h => h.2) fun r h' tk' h F' N' => by
      obtain ⟨rfl, _⟩ := h
      exact hQ h' tk' F' N'
end
end -- MQ
example : True := by first | (w_top off; walk1) | trivial
section -- MR
section
variable {w : World} {dp un : Nat} {fr : Option (List Env)} {gd : Option (List Code)} {h₀ : Heap} {s : Shared}
local macro_rules | `(tactic| walk_at "pyIter ref") => `(tactic| (k_here; (rename Fr _ _ _ _ => F9); (rename News _ _ _ _ => N9); k_dflt (first
  | (refine loop_nil (by k_mem) F9 N9 rfl ?_; clear F9 N9; intro h' tk' F' N')
  | (refine loop_one (by k_mem) F9 N9 rfl ?_; clear F9 N9; intro I' h' tk' oI' hI' F' N'; (try simp only [List.forall_mem_cons] at hI'); (obtain ⟨i1, i2, i3, i4, i5, i6, i7, i8, i9, i10, i11, i12, i13⟩ := hI')))))
/-- a contract of a code -/
noncomputable def TellK (w : World) (A : Around) (h₀ : Heap) (s : Shared) (foc : List (Addr × Obj)) (t : Code) (post : Value → List (Addr × Obj) → Prop) : Prop :=
  ∀ (rest : List (Addr × Obj)) (Q E : Value → Shared → Prop), Stat w h₀ → Kp h₀ s.heap → Led h₀ s.heap (foc ++ rest) → (∀ p ∈ foc, ∀ q ∈ rest, p.1 ≠ q.1) →
    (∀ r foc' h' tk', post r foc' → (∀ p ∈ foc', ∀ q ∈ rest, p.1 ≠ q.1) → Kp h₀ h' → Led h₀ h' (foc' ++ rest) → Q r { s with heap := h', toks := tk' }) →
    codeAny (model Pg w) A t (fun r s' => match r with | .ok (.ret v) => Q v s' | .ok _ => False | .error e => E e s') s
theorem TellK.use {w : World} {A : Around} {h₀ : Heap} {s : Shared} {foc : List (Addr × Obj)} {t : Code} {post : Value → List (Addr × Obj) → Prop} (H : TellK w A h₀ s foc t post)
    {L : Addr} {m : Str → Option Value} {led news : List (Addr × Obj)} {mean : ExcName → Option Value} {mg mb : Str → Option Value} {Q E : Value → Shared → Prop}
    (X : (hd.heap_1 w.params).In h₀) (T : Top Vw Lo mean mg mb h₀) (F : Fr h₀ L s.heap m) (N : News h₀ L s.heap led) (hsub : ∀ p ∈ foc ++ news, p ∈ led) (hap : ∀ p ∈ foc, ∀ q ∈ news, p.1 ≠ q.1)
    (hQ : ∀ r foc' h' tk', post r foc' → Fr h₀ L h' m → News h₀ L h' (foc' ++ news) → (∀ p ∈ foc', ∀ q ∈ news, p.1 ≠ q.1) → Q r { s with heap := h', toks := tk' }) : codeAny (model Pg w) A t (fun r s' => match r with | .ok (.ret v) => Q v s' | .ok _ => False | .error e => E e s') s := by
  have N₂ : News h₀ L s.heap (foc ++ news) := fun p hp => N p (hsub p hp)
  refine byProp fun Pz hPz => ?_
  obtain ⟨oL, D, hne, back, hlt⟩ := frame_obj F N₂
  refine hPz ?_
  clear hPz Pz
  refine H (news ++ [(L, oL)]) Q E ⟨X, mean, mg, mb, T⟩ (Kp.of_fr F) (by rw [← List.append_assoc]; exact D) (fun p hp q hq => ?_) fun r foc' h' tk' hp hn K' D' => ?_
  · rcases List.mem_append.mp hq with hq | hq
    · exact hap p hp q hq
    · rw [List.mem_singleton.mp hq]
      exact hne p (List.mem_append_left _ hp)
  have hL : h'.get? L = some oL := (D' (L, oL) (by simp)).1
  refine hQ r foc' h' tk' hp (back h' hL K') (fun p hp' => ?_) (fun p hp' q hq => hn p hp' q (List.mem_append_left _ hq))
  have hm : p ∈ foc' ++ (news ++ [(L, oL)]) := by
    rcases List.mem_append.mp hp' with h | h
    · exact List.mem_append_left _ h
    · exact List.mem_append_right _ (List.mem_append_left _ h)
  refine ⟨(D' p hm).1, ?_, (D' p hm).2⟩
  rcases List.mem_append.mp hp' with h | h
  · exact hn p h (L, oL) (by simp)
  · exact hne p (List.mem_append_right _ h)
/-- the ints of nats -/
noncomputable abbrev zs (ns : List Nat) : List Int := ns.map fun (i : Nat) => (i : Int)
noncomputable def npF (nd : Nat → Nd) (succ : Nat → Option Nat) (l : List Nat) (j : Nat) : Int := if j ∈ l then -2 else if j ∈ l.filterMap succ then 0 else (nd j).np
theorem nodup_take {ns : List Nat} {i k : Nat} (h : ns.Nodup) (hk : ns[i]? = some k) : k ∉ ns.take i := by
  intro hm
  refine byProp fun Pz hPz => ?_
  obtain ⟨j, hj, e⟩ := List.mem_iff_getElem?.mp hm |>.imp fun j hj => (⟨(List.getElem?_eq_some_iff.mp hj).1, hj⟩ : ∃ _ : j < (ns.take i).length, (ns.take i)[j]? = some k)
  have hji : j < i := by have := List.length_take_le i ns; omega
  rw [List.getElem?_take_of_lt hji] at e
  have := (List.getElem?_inj (by have := (List.getElem?_eq_some_iff.mp e).1; omega) h).mp (e.trans hk.symm)
  refine hPz ?_
  clear hPz Pz
  omega
theorem take_snoc {ns : List Nat} {i k : Nat} (hk : ns[i]? = some k) : ns.take (i + 1) = ns.take i ++ [k] := by rw [List.take_add_one, hk]; rfl
theorem npF_none {nd : Nat → Nd} {succ : Nat → Option Nat} {l : List Nat} {k j : Nat} (e : j ≠ k) (h : succ k = none) : npF nd succ (l ++ [k]) j = npF nd succ l j := by
  unfold npF
  rw [List.filterMap_append]
  simp [h, e]
theorem npF_some {nd : Nat → Nd} {succ : Nat → Option Nat} {l : List Nat} {k j j' : Nat} (e : j' ≠ k) (e2 : j' ≠ j) (h : succ k = some j) : npF nd succ (l ++ [k]) j' = npF nd succ l j' := by
  unfold npF
  rw [List.filterMap_append]
  simp [h, e, e2]
theorem npF_at {nd : Nat → Nd} {succ : Nat → Option Nat} {l : List Nat} {k j : Nat} (hl : j ∉ l) (e : j ≠ k) (h : succ k = some j) : npF nd succ (l ++ [k]) j = 0 := by
  unfold npF
  rw [List.filterMap_append]
  simp [h, e, hl]
theorem off_notin {a : Addr} {F : List (Addr × Obj)} (h : a ∉ F.map (·.1)) : ∀ p ∈ F, p.1 ≠ a := fun p hp e => h (e ▸ List.mem_map_of_mem hp)
theorem fam_perm1 {nd : Nat → Nd} {k : Nat} {ks : List Nat} (h : k ∈ ks) : (fam nd ks).Perm (ndY k (nd k) :: ndD (nd k) :: ndL (nd k) :: fam nd (ks.erase k)) := (List.perm_cons_erase h).flatMap_right _
theorem fam_perm2 {nd : Nat → Nd} {k j : Nat} (hk : k < 12) (hj : j < 12) (hjk : j ≠ k) : (fam nd (List.range 12)).Perm (ndY k (nd k) :: ndD (nd k) :: ndL (nd k) :: ndY j (nd j) :: ndD (nd j) :: ndL (nd j) :: fam nd ((but k).erase j)) :=
  (fam_perm hk).trans (.cons _ (.cons _ (.cons _ (fam_perm1 ((List.mem_erase_of_ne hjk).mpr (List.mem_range.mpr hj))))))
inductive DoJ (w : World) (x dx dn rl : Addr) (o : Obj) (t0 t1 t2 t3 tp : Tok) (pa fi : Int) (us : List Value) (ns : List Nat) (nd : Nat → Nd) (succ : Nat → Option Nat) (Tp : Addr) (i : Nat) (m : Str → Option Value) (led : List (Addr × Obj)) : Prop
  | mk (nd' : Nat → Nd) (us' : List Value) (n' : Nat) (tf' : Tok) (m1 : m (Str.ofString "self") = some (.ref x)) (m2 : m (Str.ofString "n2i") = some (.ref dn)) (e : led = (Tp, tupO us) :: (sortL w.params x dx dn rl o t0 t1 t2 t3 tp tf' pa (fi + (i : Nat)) us' n' ++ fam nd' (List.range 12))) (hus : IntsAre us' (zs ((ns.take i).filterMap succ))) (hnd : ∀ j : Nat, ∃ t, nd' j = { nd j with np := npF nd succ (ns.take i) j, t2 := t })
noncomputable def SameA (a b : Nat → Nd) : Prop := ∀ j, (a j).y = (b j).y ∧ (a j).d = (b j).d ∧ (a j).l = (b j).l
theorem SameA.refl {a : Nat → Nd} : SameA a a := fun _ => ⟨rfl, rfl, rfl⟩
theorem SameA.upd {a b : Nat → Nd} (h : SameA a b) {k : Nat} {r : Nd} (e : r.y = (b k).y ∧ r.d = (b k).d ∧ r.l = (b k).l) : SameA (upd a k r) b := fun j => by
  by_cases q : j = k
  · subst q; rw [upd_self]; exact e
  · rw [upd_ne q]; exact h j
theorem nd_step {a b : Nd} {np np' : Int} {t t' : Tok} (e : a = { b with np := np, t2 := t }) : ({ a with np := np', t2 := t' } : Nd) = { b with np := np', t2 := t' } := by rw [e]
inductive DonePost (w : World) (x dx dn rl : Addr) (o : Obj) (t0 t1 t2 t3 tp : Tok) (pa fi : Int) (ns : List Nat) (nd : Nat → Nd) (succ : Nat → Option Nat) (r : Value) (new : List (Addr × Obj)) : Prop
  | mk (tf' : Tok) (nd' : Nat → Nd) (us' : List Value) (n' : Nat) (f1 : r = .none) (f2 : new = sortL w.params x dx dn rl o t0 t1 t2 t3 tp tf' pa (fi + ns.length) us' n' ++ fam nd' (List.range 12)) (f3 : IntsAre us' (zs (ns.filterMap succ))) (f4 : (∀ j : Nat, ∃ t, nd' j = { nd j with np := npF nd succ ns j, t2 := t })) (f5 : Apart new)
theorem done_code (x dx dn rl : Addr) (o : Obj) (t0 t1 t2 t3 tp tf : Tok) (pa fi : Int) (us : List Value) (ns : List Nat) (n : Nat) (nd : Nat → Nd) (succ : Nat → Option Nat) (fm : List (Addr × Obj)) (hfm : fm = fam nd (List.range 12)) (ho : o.IsDictOf (intKind Pg w) (kvsOf nd 12)) (hus : IntsAre us (zs ns)) (hns : ∀ k ∈ ns, k < 12) (hnd : ns.Nodup) (hz : ns.length ≤ 12)
    (hsc : ∀ k ∈ ns, IntsAre (nd k).sc (zs (succ k).toList)) (hout : ∀ k ∈ ns, (nd k).np = -1) (hone : ∀ k ∈ ns, ∀ j, succ k = some j → j < 12 ∧ (nd j).np = 1) (hinj : ∀ k k' j, succ k = some j → succ k' = some j → k = k') (hdn : (dn == sysModules) = false)
    (hap : Apart (sortL w.params x dx dn rl o t0 t1 t2 t3 tp tf pa fi [] n ++ fm)) (hdp : dp + 8 < recursionLimit) :
    TellK w (mkA dp fr gd un) h₀ s (sortL w.params x dx dn rl o t0 t1 t2 t3 tp tf pa fi [] n ++ fm) (.call (.ref 120) ⟨.ref x :: us, []⟩) 
      (DonePost w x dx dn rl o t0 t1 t2 t3 tp pa fi ns nd succ) := by
  intro rest Q E S O D hapR hQ
  have Z := push_led (o := tupO us) O D hapR rfl
  refine (enterV S O (D.sub (List.subset_append_left _ _)) (by k_is) (by k_is) (by omega) (vs := us) (nm := Str.ofString "nodes") (binds := [(Str.ofString "self", .ref x)]) (by cases us <;> rfl) (by have := hus.length; simp at this; omega) (locs rfl) rfl ?_ rfl rfl rfl (by decide))
  intro Tp L h₁ mean mg mb hTp X T F N
  obtain ⟨B0, hB0⟩ : ∃ B0, B0 = under (s.heap.push (tupO us)) ((Tp, tupO us) :: (sortL w.params x dx dn rl o t0 t1 t2 t3 tp tf pa fi [] n ++ fm)) := ⟨_, rfl⟩
  rw [← hB0] at X T F N
  have N0 := N
  clear N
  simp only [sortL, List.cons_append, List.nil_append] at N0
  repeat' (first | ((with_reducible show wpAny _ _ (exec (Stmt.For (Expr.Name _ _) (Expr.Name _ _) _ _ _) _) _ _ _); with_unfolding_all refine for_hold ‹Fr _ _ _ _› rfl rfl ?_) | (first | (k_dflt (refine ite_neg (by decide) ?_)) | (k_dflt (refine ite_pos (by decide) ?_)) | (k_dflt (refine ite_neg (by omega) ?_))) | top_args)
  rename Fr _ _ _ _ => F2
  rename News _ _ _ _ => N2
  have A0 : Apart ((Tp, tupO us) :: (sortL w.params x dx dn rl o t0 t1 t2 t3 tp tf pa fi [] n ++ fm)) :=
    hap.cons fun p hp => Nat.ne_of_lt (hTp ▸ D.lt p (List.mem_append_left _ hp))
  refine loop_tupleE (nn := 0) (its := us.toArray) (.head _) F2 N2 rfl (fun i m led => DoJ w x dx dn rl o t0 t1 t2 t3 tp pa fi us ns nd succ Tp i m led) ?_ ?_ ?_
  · exact ⟨nd, [], n, tf, rfl, rfl, by rw [hfm]; simp, .nil, fun j => ⟨(nd j).t2, by simp [npF]⟩⟩
  · intro I i v m₁ led₁ h₁ tk₁ oI hI hi hv hZ0 hoI F N
    refine byProp fun Pz hPz => ?_
    obtain ⟨nd', us', n', tf', m1, m2, rfl, hus', hnd'⟩ := hZ0
    obtain ⟨k, hz1⟩ : ∃ k, ns[i]? = some k := by
      have : i < ns.length := by have := hus.length; simp at hi this; omega
      exact ⟨_, List.getElem?_eq_getElem this⟩
    obtain ⟨t, hv2⟩ := hus.get i (k : Int) (by simp [zs, hz1])
    obtain rfl : v = .int k t := by rw [List.getElem?_toArray, hv2] at hv; exact (Option.some.inj hv).symm
    have hkm : k ∈ ns := List.mem_of_getElem? hz1
    have hk : k < 12 := hns k hkm
    have hkt : k ∉ ns.take i := nodup_take hnd hz1
    have hkf : k ∉ (ns.take i).filterMap succ := fun h => by
      refine byProp fun Pz hPz => ?_
      obtain ⟨a, ha, e⟩ := List.mem_filterMap.mp h
      have := (hone a (List.mem_of_mem_take ha) k e).2
      rw [hout k hkm] at this
      refine hPz ?_
      clear hPz Pz
      omega
    have hst : ∀ j, (nd' j).y = (nd j).y ∧ (nd' j).d = (nd j).d ∧ (nd' j).l = (nd j).l ∧ (nd' j).sc = (nd j).sc := fun j => by obtain ⟨t, e⟩ := hnd' j; rw [e]; exact ⟨rfl, rfl, rfl, rfl⟩
    have hnpk : (nd' k).np = -1 := by
      obtain ⟨t, e⟩ := hnd' k
      rw [e]
      show npF nd succ (ns.take i) k = -1
      rw [npF, if_neg hkt, if_neg hkf, hout k hkm]
    have hkv : valueAt (kvsOf nd 12) (k : Int) = some (.ref (nd' k).y) := by rw [(hst k).1]; exact kvs_at hk
    have A1 : Apart ([(Tp, tupO us), (x, instObj 137 dx), (dx, sortD w.params t0 t1 t2 t3 (.ref dn) (.ref rl) (.int pa tp) (.int (fi + i) tf')), (dn, o), (rl, W.listOf us'.toArray n')] ++ fam nd' (List.range 12)) := A0.addr (by rw [hfm]; simp [fam_addr fun j => ⟨(hst j).1, (hst j).2.1, (hst j).2.2.1⟩])
    have hsk := hsc k hkm
    rw [← (hst k).2.2.2] at hsk
    have hlen : us'.length ≤ 1000 := by
      have h1 := hus'.length
      have h2 := List.length_filterMap_le succ (ns.take i)
      have h3 := List.length_take_le' i ns
      rw [List.length_map] at h1
      omega
    first | replace F := fr_at (at1s m1 (at1s m2 rfl)) F | replace F := fr_at (at1c (at1s m1 (at1s m2 rfl))) F
    try dsimp only at F
    clear F2 N2
    refine hPz ?_
    clear hPz Pz
    cases hsu : succ k with
    | none =>
      rw [hsu] at hsk
      have hsc0 : (nd' k).sc = [] := hsk.nil_inv
      have PM := fam_perm (nd := nd') hk
      have S1 : Apart ((I, oI) :: ((Tp, tupO us) :: (x, instObj 137 dx) :: (dx, sortD w.params t0 t1 t2 t3 (.ref dn) (.ref rl) (.int pa tp) (.int (fi + i) tf')) :: (dn, o) :: (rl, W.listOf us'.toArray n') :: (ndY k (nd' k) :: ndD (nd' k) :: ndL (nd' k) :: fam nd' (but k)))) := by
        have P2 := List.Perm.append_left [(Tp, tupO us), (x, instObj 137 dx), (dx, sortD w.params t0 t1 t2 t3 (.ref dn) (.ref rl) (.int pa tp) (.int (fi + i) tf')), (dn, o), (rl, W.listOf us'.toArray n')] PM
        exact (A1.perm P2).cons fun p hp => hoI p (P2.symm.subset hp)
      have N3 : News B0 L h₁ ((I, oI) :: ((Tp, tupO us) :: (x, instObj 137 dx) :: (dx, sortD w.params t0 t1 t2 t3 (.ref dn) (.ref rl) (.int pa tp) (.int (fi + i) tf')) :: (dn, o) :: (rl, W.listOf us'.toArray n') :: (ndY k (nd' k) :: ndD (nd' k) :: ndL (nd' k) :: fam nd' (but k)))) := fun p hp => N p (by
        rcases List.mem_cons.mp hp with rfl | hp
        · simp
        · have P2 := List.Perm.append_left [(Tp, tupO us), (x, instObj 137 dx), (dx, sortD w.params t0 t1 t2 t3 (.ref dn) (.ref rl) (.int pa tp) (.int (fi + i) tf')), (dn, o), (rl, W.listOf us'.toArray n')] PM
          have := P2.symm.subset hp
          exact List.mem_append_left _ this)
      clear N
      generalize hFF : fam nd' (but k) = FF at S1 N3
      refine byProp fun Pz hPz => ?_
      obtain ⟨yk, dk, lk, t1k, t2k, npk, sck, nk, hndk⟩ : ∃ yk dk lk t1k t2k npk sck nk, nd' k = ⟨yk, dk, lk, t1k, t2k, npk, sck, nk⟩ := ⟨_, _, _, _, _, _, _, _, rfl⟩
      simp only [hndk, ndY, ndD, ndL] at S1 N3 hkv hsc0 hnpk
      subst hsc0 hnpk
      refine apart_open (l := [(I, oI), (Tp, _), (x, _), (dx, _), (dn, _), (rl, _), (yk, _), (dk, _), (lk, _)]) (T := FF) S1 ?_
      intro r0_0 r0_1 r0_2 r0_3 r0_4 r0_5 r0_6 r0_7 r0_8 r1_0 r1_1 r1_2 r1_3 r1_4 r1_5 r1_6 r1_7 r2_0 r2_1 r2_2 r2_3 r2_4 r2_5 r2_6 r3_0 r3_1 r3_2 r3_3 r3_4 r3_5 r4_0 r4_1 r4_2 r4_3 r4_4 r5_0 r5_1 r5_2 r5_3 r6_0 r6_1 r6_2 r7_0 r7_1 r8_0
      clear S1
      have q3 := r3_5
      have q6 := r6_2
      have N4 := N3
      clear N3
      unfold sortD at N4
      refine hPz ?_
      clear hPz Pz
      repeat' (first | ((with_reducible show wpAny _ _ (call (Value.builtin "dict.get") _) _ _ _); (refine kdg_get1 (knd := PySem.intKind _ _) (by k_asm) (by k_mem) (by assumption) (by assumption) (intKind_is _ _ _ _) (some _) (by assumption) ?_; dsimp only [Option.getD])) | (first | (k_dflt (refine ite_neg (by decide) ?_)) | (k_dflt (refine ite_pos (by decide) ?_)) | (k_dflt (refine ite_neg (by omega) ?_))) | top_args)
      rename Fr _ _ _ _ => F8
      rename News _ _ _ _ => N8
      rw [Int.add_assoc] at N8
      refine byProp fun Pz hPz => ?_
      obtain ⟨t8, t9, n9, N9⟩ : ∃ t8 t9 n9, News _ _ _ ((I, oI) :: ((Tp, tupO us) :: (x, instObj 137 dx) :: (dx, sortD w.params t0 t1 t2 t3 (.ref dn) (.ref rl) (.int pa tp) (.int (fi + ((i + 1 : Nat) : Int)) t8)) :: (dn, o) :: (rl, W.listOf us'.toArray n9) :: (ndY k ⟨yk, dk, lk, t1k, t9, -2, [], nk⟩ :: ndD ⟨yk, dk, lk, t1k, t9, -2, [], nk⟩ :: ndL ⟨yk, dk, lk, t1k, t9, -2, [], nk⟩ :: FF))) := ⟨_, _, _, N8⟩
      have hndn : SameA (upd nd' k ⟨yk, dk, lk, t1k, t9, -2, [], nk⟩) nd' := SameA.refl.upd (by rw [hndk]; exact ⟨rfl, rfl, rfl⟩)
      have PM2 : (fam (upd nd' k ⟨yk, dk, lk, t1k, t9, -2, [], nk⟩) (List.range 12)).Perm (ndY k ⟨yk, dk, lk, t1k, t9, -2, [], nk⟩ :: ndD ⟨yk, dk, lk, t1k, t9, -2, [], nk⟩ :: ndL ⟨yk, dk, lk, t1k, t9, -2, [], nk⟩ :: FF) := by rw [← hFF]; exact fam_turn hk
      refine hPz ?_
      clear hPz Pz
      refine TurnTo.next (led' := (Tp, tupO us) :: (sortL w.params x dx dn rl o t0 t1 t2 t3 tp t8 pa (fi + ((i + 1 : Nat) : Int)) us' n9 ++ fam (upd nd' k ⟨yk, dk, lk, t1k, t9, -2, [], nk⟩) (List.range 12))) F8 (fun p hp => N9 p ?_) (fun p hp e => ?_) ⟨(upd nd' k ⟨yk, dk, lk, t1k, t9, -2, [], nk⟩), us', n9, t8, rfl, rfl, rfl, ?_, fun j' => ?_⟩
      · rcases List.mem_append.mp hp with hp | hp
        · refine .tail _ ?_
          exact (List.Perm.append_left [(Tp, tupO us), (x, instObj 137 dx), (dx, sortD w.params t0 t1 t2 t3 (.ref dn) (.ref rl) (.int pa tp) (.int (fi + ((i + 1 : Nat) : Int)) t8)), (dn, o), (rl, W.listOf us'.toArray n9)] PM2).subset hp
        · rcases List.mem_cons.mp hp with rfl | hp
          · exact .head _
          · rw [List.mem_singleton.mp hp]; exact .tail _ (.head _)
      · refine off_addr hoI ?_ p hp e
        exact addr_cons rfl (addr_app rfl (fam_addr hndn))
      · rw [take_snoc hz1, List.filterMap_append]
        simpa [hsu] using hus'
      · rw [take_snoc hz1]
        by_cases e : j' = k
        · subst e
          rw [upd_self]
          obtain ⟨t, e⟩ := hnd' j'
          refine ⟨t9, ?_⟩
          rw [npF, if_pos (by simp), ← nd_step e, hndk]
        · rw [upd_ne e]
          obtain ⟨t, e2⟩ := hnd' j'
          refine ⟨t, ?_⟩
          rw [e2, npF_none e hsu]
    | some j =>
      rw [hsu] at hsk
      refine byProp fun Pz hPz => ?_
      obtain ⟨tj, vs0, hsc1, hvs0⟩ := hsk.cons_inv
      obtain rfl := hvs0.nil_inv
      have hj := (hone k hkm j hsu).1
      have hjk : j ≠ k := fun e => by have := (hone k hkm j hsu).2; rw [e, hout k hkm] at this; omega
      have hj1 := (hone k hkm j hsu).2
      have hjt : j ∉ ns.take i := fun h => by have := hout j (List.mem_of_mem_take h); omega
      have hjf : j ∉ (ns.take i).filterMap succ := fun h => by
        refine byProp fun Pz hPz => ?_
        obtain ⟨a, ha, e⟩ := List.mem_filterMap.mp h
        refine hPz ?_
        clear hPz Pz
        exact hkt (hinj a k j e hsu ▸ ha)
      have hnpj : (nd' j).np = 1 := by
        obtain ⟨t, e⟩ := hnd' j
        rw [e]
        show npF nd succ (ns.take i) j = 1
        rw [npF, if_neg hjt, if_neg hjf, hj1]
      have hjv : valueAt (kvsOf nd 12) (j : Int) = some (.ref (nd' j).y) := by rw [(hst j).1]; exact kvs_at hj
      have PM := fam_perm2 (nd := nd') hk hj hjk
      have S1 : Apart ((I, oI) :: ((Tp, tupO us) :: (x, instObj 137 dx) :: (dx, sortD w.params t0 t1 t2 t3 (.ref dn) (.ref rl) (.int pa tp) (.int (fi + i) tf')) :: (dn, o) :: (rl, W.listOf us'.toArray n') :: (ndY k (nd' k) :: ndD (nd' k) :: ndL (nd' k) :: ndY j (nd' j) :: ndD (nd' j) :: ndL (nd' j) :: fam nd' ((but k).erase j)))) := by
        have P2 := List.Perm.append_left [(Tp, tupO us), (x, instObj 137 dx), (dx, sortD w.params t0 t1 t2 t3 (.ref dn) (.ref rl) (.int pa tp) (.int (fi + i) tf')), (dn, o), (rl, W.listOf us'.toArray n')] PM
        exact (A1.perm P2).cons fun p hp => hoI p (P2.symm.subset hp)
      have N3 : News B0 L h₁ ((I, oI) :: ((Tp, tupO us) :: (x, instObj 137 dx) :: (dx, sortD w.params t0 t1 t2 t3 (.ref dn) (.ref rl) (.int pa tp) (.int (fi + i) tf')) :: (dn, o) :: (rl, W.listOf us'.toArray n') :: (ndY k (nd' k) :: ndD (nd' k) :: ndL (nd' k) :: ndY j (nd' j) :: ndD (nd' j) :: ndL (nd' j) :: fam nd' ((but k).erase j)))) := fun p hp => N p (by
        rcases List.mem_cons.mp hp with rfl | hp
        · simp
        · have P2 := List.Perm.append_left [(Tp, tupO us), (x, instObj 137 dx), (dx, sortD w.params t0 t1 t2 t3 (.ref dn) (.ref rl) (.int pa tp) (.int (fi + i) tf')), (dn, o), (rl, W.listOf us'.toArray n')] PM
          have := P2.symm.subset hp
          exact List.mem_append_left _ this)
      clear N
      refine hPz ?_
      clear hPz Pz
      generalize hFF : fam nd' ((but k).erase j) = FF at S1 N3
      refine byProp fun Pz hPz => ?_
      obtain ⟨yk, dk, lk, t1k, t2k, npk, sck, nk, hndk⟩ : ∃ yk dk lk t1k t2k npk sck nk, nd' k = ⟨yk, dk, lk, t1k, t2k, npk, sck, nk⟩ := ⟨_, _, _, _, _, _, _, _, rfl⟩
      simp only [hndk, ndY, ndD, ndL] at S1 N3 hkv hsc1 hnpk
      subst hsc1 hnpk
      obtain ⟨yj, dj, lj, t1j, t2j, npj, scj, nj, hndj⟩ : ∃ yk dk lk t1k t2k npk sck nk, nd' j = ⟨yk, dk, lk, t1k, t2k, npk, sck, nk⟩ := ⟨_, _, _, _, _, _, _, _, rfl⟩
      simp only [hndj, ndY, ndD, ndL] at S1 N3 hjv hnpj
      subst hnpj
      refine apart_open (l := [(I, oI), (Tp, _), (x, _), (dx, _), (dn, _), (rl, _), (yk, _), (dk, _), (lk, _), (yj, _), (dj, _), (lj, _)]) (T := FF) S1 ?_
      intro r0_0 r0_1 r0_2 r0_3 r0_4 r0_5 r0_6 r0_7 r0_8 r0_9 r0_10 r0_11 r1_0 r1_1 r1_2 r1_3 r1_4 r1_5 r1_6 r1_7 r1_8 r1_9 r1_10 r2_0 r2_1 r2_2 r2_3 r2_4 r2_5 r2_6 r2_7 r2_8 r2_9 r3_0 r3_1 r3_2 r3_3 r3_4 r3_5 r3_6 r3_7 r3_8 r4_0 r4_1 r4_2 r4_3 r4_4 r4_5 r4_6 r4_7 r5_0 r5_1 r5_2 r5_3 r5_4 r5_5 r5_6 r6_0 r6_1 r6_2 r6_3 r6_4 r6_5 r7_0 r7_1 r7_2 r7_3 r7_4 r8_0 r8_1 r8_2 r8_3 r9_0 r9_1 r9_2 r10_0 r10_1 r11_0
      clear S1
      have q3 := r3_8
      have q5 := r5_6
      have q6 := r6_5
      have q9 := r9_2
      have N4 := N3
      clear N3
      unfold sortD at N4
      refine hPz ?_
      clear hPz Pz
      repeat' (first | ((with_reducible show wpAny _ _ (subscriptTail (Expr.Name _ _) (Expr.Name _ _) (Value.ref _) (Value.int _ _)) _ _ _); with_unfolding_all refine kda_item (knd := PySem.intKind _ _) (by k_asm) (by k_mem) (by assumption) (intKind_is _ _ _ _) (by assumption) ?_) | ((with_reducible show wpAny _ _ (call (Value.builtin "list.append") _) _ _ _); refine li_append (by k_asm) (by k_asm) (by k_upd) (by assumption) ?_; top_caught0) | ((with_reducible show wpAny _ _ (call (Value.builtin "dict.get") _) _ _ _); (refine kdg_get1 (knd := PySem.intKind _ _) (by k_asm) (by k_mem) (by assumption) (by assumption) (intKind_is _ _ _ _) (some _) (by assumption) ?_; dsimp only [Option.getD])) | (first | (k_dflt (refine ite_neg (by decide) ?_)) | (k_dflt (refine ite_pos (by decide) ?_)) | (k_dflt (refine ite_neg (by omega) ?_))) | top_args)
      rename Fr _ _ _ _ => F5
      rename News _ _ _ _ => N5
      refine TurnTo.one F5 N5 (by k_mem) (by simp only [List.forall_mem_cons]; repeat' (first | assumption | apply And.intro)) ?_
      intro h7 tk7 F7 N7
      clear F5 N5
      k_steps
      rename Fr _ _ _ _ => F8
      rename News _ _ _ _ => N8
      rw [Int.add_assoc] at N8
      refine byProp fun Pz hPz => ?_
      obtain ⟨t8, t9, t7, n9, N9⟩ : ∃ t8 t9 t7 n9, News _ _ _ ((I, oI) :: ((Tp, tupO us) :: (x, instObj 137 dx) :: (dx, sortD w.params t0 t1 t2 t3 (.ref dn) (.ref rl) (.int pa tp) (.int (fi + ((i + 1 : Nat) : Int)) t8)) :: (dn, o) :: (rl, W.listOf (us' ++ [Value.int j tj]).toArray n9) :: (ndY k ⟨yk, dk, lk, t1k, t9, -2, [.int j tj], nk⟩ :: ndD ⟨yk, dk, lk, t1k, t9, -2, [.int j tj], nk⟩ :: ndL ⟨yk, dk, lk, t1k, t9, -2, [.int j tj], nk⟩ :: ndY j ⟨yj, dj, lj, t1j, t7, 0, scj, nj⟩ :: ndD ⟨yj, dj, lj, t1j, t7, 0, scj, nj⟩ :: ndL ⟨yj, dj, lj, t1j, t7, 0, scj, nj⟩ :: FF))) := ⟨_, _, _, _, N8⟩
      have hndn : SameA (upd (upd nd' k ⟨yk, dk, lk, t1k, t9, -2, [.int j tj], nk⟩) j ⟨yj, dj, lj, t1j, t7, 0, scj, nj⟩) nd' := (SameA.refl.upd (by rw [hndk]; exact ⟨rfl, rfl, rfl⟩)).upd (by rw [hndj]; exact ⟨rfl, rfl, rfl⟩)
      have PM2 : (fam (upd (upd nd' k ⟨yk, dk, lk, t1k, t9, -2, [.int j tj], nk⟩) j ⟨yj, dj, lj, t1j, t7, 0, scj, nj⟩) (List.range 12)).Perm (ndY k ⟨yk, dk, lk, t1k, t9, -2, [.int j tj], nk⟩ :: ndD ⟨yk, dk, lk, t1k, t9, -2, [.int j tj], nk⟩ :: ndL ⟨yk, dk, lk, t1k, t9, -2, [.int j tj], nk⟩ :: ndY j ⟨yj, dj, lj, t1j, t7, 0, scj, nj⟩ :: ndD ⟨yj, dj, lj, t1j, t7, 0, scj, nj⟩ :: ndL ⟨yj, dj, lj, t1j, t7, 0, scj, nj⟩ :: FF) := by
        have := fam_perm2 (nd := (upd (upd nd' k ⟨yk, dk, lk, t1k, t9, -2, [.int j tj], nk⟩) j ⟨yj, dj, lj, t1j, t7, 0, scj, nj⟩)) hk hj hjk
        rw [upd_ne (Ne.symm hjk), upd_self, upd_self, fam_upd (fun h => (List.Nodup.not_mem_erase (List.nodup_range.erase _)) h), fam_upd (fun h => not_but (List.mem_of_mem_erase h)), hFF] at this
        exact this
      refine hPz ?_
      clear hPz Pz
      refine TurnTo.next (led' := (Tp, tupO us) :: (sortL w.params x dx dn rl o t0 t1 t2 t3 tp t8 pa (fi + ((i + 1 : Nat) : Int)) (us' ++ [Value.int j tj]) n9 ++ fam (upd (upd nd' k ⟨yk, dk, lk, t1k, t9, -2, [.int j tj], nk⟩) j ⟨yj, dj, lj, t1j, t7, 0, scj, nj⟩) (List.range 12))) F8 (fun p hp => N9 p ?_) (fun p hp e => ?_) ⟨(upd (upd nd' k ⟨yk, dk, lk, t1k, t9, -2, [.int j tj], nk⟩) j ⟨yj, dj, lj, t1j, t7, 0, scj, nj⟩), (us' ++ [Value.int j tj]), n9, t8, rfl, rfl, rfl, ?_, fun j' => ?_⟩
      · rcases List.mem_append.mp hp with hp | hp
        · refine .tail _ ?_
          exact (List.Perm.append_left [(Tp, tupO us), (x, instObj 137 dx), (dx, sortD w.params t0 t1 t2 t3 (.ref dn) (.ref rl) (.int pa tp) (.int (fi + ((i + 1 : Nat) : Int)) t8)), (dn, o), (rl, W.listOf (us' ++ [Value.int j tj]).toArray n9)] PM2).subset hp
        · rcases List.mem_cons.mp hp with rfl | hp
          · exact .head _
          · rw [List.mem_singleton.mp hp]; exact .tail _ (.head _)
      · refine off_addr hoI ?_ p hp e
        exact addr_cons rfl (addr_app rfl (fam_addr hndn))
      · rw [take_snoc hz1, List.filterMap_append, zs, List.map_append]
        refine hus'.append ?_
        simpa [hsu] using IntsAre.cons (j : Int) tj .nil
      · rw [take_snoc hz1]
        by_cases e3 : j' = j
        · subst e3
          rw [upd_self]
          obtain ⟨t, e⟩ := hnd' j'
          refine ⟨t7, ?_⟩
          rw [npF_at hjt hjk hsu, ← nd_step e, hndj]
        · rw [upd_ne e3]
          by_cases e : j' = k
          · subst e
            rw [upd_self]
            obtain ⟨t, e⟩ := hnd' j'
            refine ⟨t9, ?_⟩
            rw [npF, if_pos (by simp), ← nd_step e, hndk]
          · rw [upd_ne e]
            obtain ⟨t, e2⟩ := hnd' j'
            refine ⟨t, ?_⟩
            rw [e2, npF_some e e3 hsu]
  · intro h' tk m' led' F N hZ0
    refine byProp fun Pz hPz => ?_
    obtain ⟨nd', us', n', tf', m1, m2, rfl, hus', hnd'⟩ := hZ0
    have hsz : us.toArray.size = ns.length := by have := hus.length; simpa [zs] using this
    rw [hsz] at N hus' hnd'
    rw [List.take_length] at hus' hnd'
    have hst : ∀ j, (nd' j).y = (nd j).y ∧ (nd' j).d = (nd j).d ∧ (nd' j).l = (nd j).l := fun j => by obtain ⟨t, e⟩ := hnd' j; rw [e]; exact ⟨rfl, rfl, rfl⟩
    have A1 : Apart (sortL w.params x dx dn rl o t0 t1 t2 t3 tp tf' pa (fi + ns.length) us' n' ++ fam nd' (List.range 12)) := hap.addr (by rw [hfm]; simp [fam_addr hst])
    clear F2 N2
    refine hPz ?_
    clear hPz Pz
    k_steps
    subst hTp
    rename Fr _ _ _ _ => F3
    exact finB (s := { s with heap := s.heap.push (tupO us) }) hB0 Z.1 Z.2.1 Z.2.2 (fun r foc' h' tk' hp => hQ r foc' h' tk' hp) _ ⟨tf', nd', us', n', rfl, rfl, hus', hnd', A1⟩ F3 N (fun q hq => List.mem_cons_of_mem _ hq)
end
end -- MR
example : True := by first | (w_top off; walk1) | trivial
section -- MU
open TI (Frs SameUp)
section
variable {w : World} {dp un : Nat} {l : List Env} {gd : Option (List Code)} {h₀ : Heap} {s : Shared}
noncomputable def unordF : Nat → List Int → List Int → List Int × List Int
  | 0, xs, ms => (ms, xs)
  | n + 1, xs, ms => if (n : Int) ∈ xs then unordF n (xs.erase n) ms else unordF n xs (ms ++ [(n : Int)])
noncomputable def upTo (n : Nat) : List Int := (List.range n).map fun (i : Nat) => (i : Int)
theorem upTo_succ (n : Nat) : upTo (n + 1) = upTo n ++ [(n : Int)] := by simp [upTo, List.range_succ]
theorem ints_last {us : List Value} {l : List Int} {k : Int} (h : IntsAre us (l ++ [k])) : ∃ us0 t, us = us0 ++ [.int k t] ∧ IntsAre us0 l := by
  induction l generalizing us with
  | nil => obtain ⟨t, vs, rfl, h'⟩ := h.cons_inv; obtain rfl := h'.nil_inv; exact ⟨[], t, rfl, .nil⟩
  | cons x r ih => obtain ⟨t, vs, rfl, h'⟩ := h.cons_inv; obtain ⟨us0, t', rfl, h2⟩ := ih h'; exact ⟨.int x t :: us0, t', rfl, .cons x t h2⟩
theorem upTo_last {us : List Value} {n : Nat} (h : IntsAre us (upTo (n + 1))) : ∃ us0 t, us = us0 ++ [.int n t] ∧ IntsAre us0 (upTo n) := ints_last (upTo_succ n ▸ h)
local macro_rules | `(tactic| walk_at "noteFrame ref") => `(tactic| (k_here; (rename Heap.NewExc _ _ _ _ => xX); k_dflt (refine noted_x (new := [_, _, _]) rfl (by assumption) xX (by k_asm) (by k_asm) ⟨by assumption, by assumption, by assumption, trivial⟩ ?_); clear xX; intro h' frs' su' fs' ttN; (try simp only [List.cons_append, List.nil_append] at ttN)))
inductive UnJ (le la lm : Addr) (xs : List Int) (frs : List (Addr × Obj)) (n : Nat) (m : Str → Option Value) (led : List (Addr × Obj)) : Prop
  | mk (us vs ms : List Value) (nu nv nm : Nat) (xs' ys' : List Int) (frs' : List (Addr × Obj)) (m1 : m (Str.ofString "expected") = some (.ref le)) (m2 : m (Str.ofString "actual") = some (.ref la)) (m3 : m (Str.ofString "missing") = some (.ref lm))
    (e : led = (lm, W.listOf (List.toArray ms) nm) :: (le, W.listOf (List.toArray us) nu) :: (la, W.listOf (List.toArray vs) nv) :: frs') (h1 : IntsAre us (upTo n)) (h2 : IntsAre vs xs') (h3 : IntsAre ms ys') (h4 : xs'.length ≤ 100) (h5 : ys'.length + n ≤ 12) (SU : SameUp frs frs') (h6 : unordF n xs' ys' = unordF 12 xs [])
inductive UnPost (le la : Addr) (xs : List Int) (r : Value) (new : List (Addr × Obj)) : Prop
  | mk (lt lm : Addr) (ms : List Value) (nm nu : Nat) (vs : List Value) (nv : Nat) (f1 : r = .ref lt) (f2 : new = [(lt, ({ cls := .type "tuple", data := .seq #[.ref lm, .ref la] } : Obj)), (lm, W.listOf (List.toArray ms) nm), (le, W.listOf #[] nu), (la, W.listOf (List.toArray vs) nv)]) (f3 : IntsAre ms (unordF 12 xs []).1) (f4 : IntsAre vs (unordF 12 xs []).2) (f5 : @LT.lt Nat _ la lm) (f6 : @LT.lt Nat _ lm lt)
theorem unord_tell (le la : Addr) (ues uas : List Value) (xs : List Int) (ne na : Nat) (frs : List (Addr × Obj)) (hne : @LT.lt Nat _ le la) (of1 : ∀ p ∈ frs, p.1 ≠ le) (of2 : ∀ p ∈ frs, p.1 ≠ la) (he : IntsAre ues (upTo 12)) (ha : IntsAre uas xs) (hx : xs.length ≤ 100) (hdp : dp + 4 < recursionLimit) :
    TellX w dp l gd un h₀ s [(le, W.listOf ues.toArray ne), (la, W.listOf uas.toArray na)] frs (call (.ref 155) [.ref le, .ref la]) (UnPost le la xs) := by
  intro Fs rest Q E S O D hap hQ
  refine wpAny_call (enter S O (D.sub (List.subset_append_left _ _)) (by k_is) (by k_is) (by omega) (binds := [(Str.ofString "expected", .ref le), (Str.ofString "actual", .ref la)]) (BindsTo.of_eq rfl) (locs rfl) ?_ rfl rfl rfl (by decide))
  intro L h₁ mean mg mb X T F N
  obtain ⟨B0, hB0⟩ : ∃ B0, B0 = under s.heap ([(le, W.listOf ues.toArray ne), (la, W.listOf uas.toArray na)] ++ frs) := ⟨_, rfl⟩
  rw [← hB0] at X T F N
  simp only [List.cons_append, List.nil_append] at N
  repeat' (first | ((with_reducible show wpAny _ _ (exec (Stmt.While (Expr.Name ..) ..) _) _ _ _); refine while_hold 0 ?_) | top_args)
  rename_i tk lm hx1 l1 h' F' N'
  refine whl_inv s B0 L ?hE (fun n m led => UnJ le la lm xs frs n m led) ?_ 12 _ _ h' tk 0 ?_ F' N'
  case hE => exact PassesOwn.leaving
  · intro n m led h tk ⟨us, vs, ms, nu, nv, nm, xs', ys', frs', m1, m2, m3, e, hu, hv, hm, hxl, hyl, SU, eq⟩ F N
    subst e
    have Fs' := Fs.up SU
    have o1 := off_up SU of1
    have o2 := off_up SU of2
    have o3 := off_up SU (off_lt l1.2.2)
    clear F' N'
    first | replace F := fr_at (at1s m1 (at1s m2 (at1s m3 rfl))) F | replace F := fr_at (at1c (at1s m1 (at1s m2 (at1s m3 rfl)))) F
    cases n with
    | zero =>
      obtain rfl : us = [] := hu.nil_inv
      repeat' (first | ((with_reducible show wpAny _ _ (truthy (Value.ref _)) _ _ _); first | (refine li_truthy_yes (by k_asm) (by k_mem) (by assumption) (by assumption) ?_; intro _) | (refine li_truthy_no (by k_asm) (by k_mem) ?_; intro _)) | top_args)
      rename_i tk0 lt h2 F2 N2 l2
      have eq' : unordF 12 xs [] = (ys', xs') := eq.symm
      refine finB hB0 O D hap hQ ([(lt, ({ cls := .type "tuple", data := .seq #[.ref lm, .ref la] } : Obj)), (lm, W.listOf (List.toArray ms) nm), (le, W.listOf #[] nu), (la, W.listOf (List.toArray vs) nv)] ++ frs') ⟨_, frs', rfl, SU, AllOff.mem ⟨off_lt l2.2.2.2, o3, o1, o2, trivial⟩, lt, lm, ms, nm, nu, vs, nv, rfl, rfl, by rw [eq']; exact hm, by rw [eq']; exact hv, l1.2.1, l2.1⟩ F2 N2 (fun p hp => hp)
    | succ n =>
      obtain ⟨us0, t0, rfl, hu0⟩ := upTo_last hu
      have hp : 0 < (us0 ++ [Value.int n t0]).length := by simp
      have hz : (us0 ++ [Value.int n t0]).length ≤ 1000 := by have := hu.length; simp [upTo] at this ⊢; omega
      have hz0 : us0.length ≤ 1000 := by simp at hz; omega
      have hz1 : xs'.length ≤ 1000 := by omega
      have hz2 : ms.length ≤ 1000 := by have := hm.length; omega
      by_cases hk : (n : Int) ∈ xs'
      · repeat' (first | ((with_reducible show wpAny _ _ (call (Value.builtin "list.remove") _) _ _ _); first | (refine li_remove (by k_asm) (by k_asm) (by k_updF) (by assumption) (by assumption) (by assumption) ?_; top_caught0) | (refine li_remove_none rfl (by k_asm) (by k_mem) (by assumption) (by assumption) ?_; intro _ _ _ _)) | ((with_reducible show wpAny _ _ (call (Value.builtin "list.pop") _) _ _ _); refine li_pop (by k_asm) (by k_asm) (by k_upd) (by assumption) ?_; top_caught0) | ((with_reducible show wpAny _ _ (truthy (Value.ref _)) _ _ _); first | (refine li_truthy_yes (by k_asm) (by k_mem) (by assumption) (by assumption) ?_; intro _) | (refine li_truthy_no (by k_asm) (by k_mem) ?_; intro _)) | top_args)
        rename Fr _ _ _ _ => F2
        rename News _ _ _ _ => N2
        rename IntsAre _ (List.erase _ _) => hi
        refine TurnW.next n (Nat.lt_succ_self n) F2 N2 ⟨us0, _, ms, _, _, _, _, ys', frs', rfl, rfl, rfl, rfl, hu0, hi, hm, Nat.le_trans (List.length_erase_le) hxl, by omega, SU, ?_⟩
        rw [← eq, unordF, if_pos hk]
      · repeat' (first | ((with_reducible show wpAny _ _ (call (Value.builtin "list.append") _) _ _ _); refine li_append (by k_asm) (by k_asm) (by k_upd) (by assumption) ?_; top_caught0) | ((with_reducible show wpAny _ _ (call (Value.builtin "list.remove") _) _ _ _); first | (refine li_remove (by k_asm) (by k_asm) (by k_updF) (by assumption) (by assumption) (by assumption) ?_; top_caught0) | (refine li_remove_none rfl (by k_asm) (by k_mem) (by assumption) (by assumption) ?_; intro _ _ _ _)) | ((with_reducible show wpAny _ _ (call (Value.builtin "list.pop") _) _ _ _); refine li_pop (by k_asm) (by k_asm) (by k_upd) (by assumption) ?_; top_caught0) | ((with_reducible show wpAny _ _ (truthy (Value.ref _)) _ _ _); first | (refine li_truthy_yes (by k_asm) (by k_mem) (by assumption) (by assumption) ?_; intro _) | (refine li_truthy_no (by k_asm) (by k_mem) ?_; intro _)) | top_args)
        rename Fr _ _ _ _ => F2
        rename News _ _ _ _ => N2
        rename SameUp _ _ => su2
        refine TurnW.next n (Nat.lt_succ_self n) F2 N2 ⟨us0, vs, _, _, _, _, xs', ys' ++ [(n : Int)], _, rfl, rfl, rfl, rfl, hu0, hv, hm.append (.cons _ t0 .nil), hxl, by simp; omega, SU.trans su2, ?_⟩
        rw [← eq, unordF, if_neg hk]
  · exact ⟨ues, uas, [], ne, na, 0, xs, [], frs, rfl, rfl, rfl, rfl, he, ha, .nil, hx, by simp, SameUp.refl _, rfl⟩
end
end -- MU
example : True := by first | (w_top off; walk1) | trivial
section -- MW
open TI (Frs SameUp)
noncomputable def Noting : Prop := True
noncomputable abbrev fldO (c : Value) (vs : Array Value) (d : Option Addr := none) (sl : Array (Option Value) := #[]) : Obj := ⟨c, d, .fields vs, sl⟩
section
variable {w : World} {l : List Env} {A₀ A : Around} {E : Value → Shared → Prop} {s : Shared} {hb h : Heap} {L a e T : Addr} {m : Str → Option Value} {name : Str} {scope : Scope} {cd : Value} {X : String} {frs new : List (Addr × Obj)}
/-- a field of a made record is set -/
theorem fld_set {D : Addr} {c : Value} {dd : Option Addr} {sl : Array (Option Value)} {vs : Array Value} {i : Nat} {x : Value} {pre post : List (Addr × Obj)} {Q : Unit → Shared → Prop} (F : Fr hb L s.heap m) (N : News hb L s.heap (pre ++ (D, fldO c vs dd sl) :: post)) (h1 : ∀ p ∈ pre, p.1 ≠ D) (h2 : ∀ p ∈ post, p.1 ≠ D) (hi : i < vs.size)
    (k : ∀ h', Fr hb L h' m → News hb L h' (pre ++ (D, fldO c (vs.setIfInBounds i x) dd sl) :: post) → Q () { s with heap := h' }) : wpAny (model Pg w) A (setField (.ref D) i x) Q E s := by
  have z := N (D, fldO c vs dd sl) (by simp)
  refine wpAny_setField z.1 rfl hi (k _ (F.change (Heap.SameBut.update ..) z.2.1 z.2.2) (news_set N h1 h2 (Heap.SameBut.update ..) ?_))
  exact Heap.get?_update_self _ z.1 rfl
/-- the frame takes note: the exception lies on the ledger -/
theorem noted_led {c : Value} {dd : Option Addr} {sl : Array (Option Value)} {vs : Array Value} {Q : Unit → Shared → Prop} (hfr : A₀.frames = some l) (Fs : Frs l frs) (F : Fr hb L s.heap m) (N : News hb L s.heap ((e, fldO c vs dd sl) :: (new ++ frs))) (h1 : vs[1]? = some .none) (oe : ∀ p ∈ new ++ frs, p.1 ≠ e) (ho : AllOff frs new)
    (k : ∀ h' frs' T ts, SameUp frs frs' → Frs l frs' → Fr hb L h' m → News hb L h' ((T, fldO (.type "traceback") ts) :: (e, fldO c (vs.setIfInBounds 1 (.ref T)) dd sl) :: (new ++ frs')) → ts[3]? = some (rawInt L) → (∀ p ∈ (e, fldO c (vs.setIfInBounds 1 (.ref T)) dd sl) :: (new ++ frs'), p.1 < T) → (∀ p ∈ new ++ frs', p.1 ≠ e) → Q () { s with heap := h' })
    (hk : scope.kind = .function := by rfl) : wpAny (model Pg w) (A₀.deeper (envOf name scope L a cd)) (noteFrame (.ref e) (envOf name scope L a cd)) Q E s := by
  have z := N (e, fldO c vs dd sl) (.head _)
  have NN : News hb L s.heap (new ++ frs) := fun p hp => N p (.tail _ hp)
  have hsz : 1 < vs.size := (Array.getElem?_eq_some_iff.mp h1).1
  have hbase : ∀ b ∈ L :: frs.map (·.1), hb.get? b = none := fun b hm => by
    rcases List.mem_cons.mp hm with rfl | hm
    · exact Heap.get?_none_of_le F.above
    · obtain ⟨p, hp, rfl⟩ := List.mem_map.mp hm
      exact (NN p (List.mem_append_right _ hp)).2.2
  refine byProp fun Pz hPz => ?_
  obtain ⟨hff, hNs, _⟩ := TI.frames_at (name := name) (a := a) (cd := cd) (h' := s.heap) (base := hb) hk Fs F NN (fun p hp => List.mem_append_right _ hp) (fun b o hb' => ⟨o.slots, hb'⟩) hbase
  have hfrs : ∀ (l : List Env) (frs : List (Addr × Obj)), Frs l frs → l.filterMap (·.frame) = frs.map (·.1) := by
    intro l
    induction l with
    | nil => intro frs Fs; cases frs with | nil => rfl | cons _ _ => exact Fs.elim
    | cons x r ih => intro frs Fs; cases frs with
      | nil => exact Fs.elim
      | cons p q => rw [List.filterMap_cons, Fs.2.1]; simp [ih q Fs.2.2.2]
  have hS : (envOf name scope L a cd :: l).filterMap (·.frame) = L :: frs.map (·.1) := by
    rw [List.filterMap_cons]; simp [envOf, hfrs l frs Fs]
  have heL : e ∉ L :: frs.map (·.1) := fun hm => by
    rcases List.mem_cons.mp hm with q | hm
    · exact z.2.1 q
    · obtain ⟨p, hp, q⟩ := List.mem_map.mp hm
      exact oe p (List.mem_append_right _ hp) q
  refine hPz ?_
  clear hPz Pz
  unfold noteFrame
  simp only [show (envOf name scope L a cd).frame = some L from rfl]
  refine wpAny_bind (wpAny_field z.1 rfl h1 ?_)
  rw [if_neg (by decide)]
  refine wpAny_bind (wpAny_frameOf_fun (Around.frames_deeper hfr) hff rfl fun h₁ hs₁ => ?_)
  rw [hS] at hs₁
  refine wpAny_bind (wpAny_entryPlaceOf fun pl hpl => ?_)
  unfold EntryCells.newEntry newFields
  refine wpAny_bind (wpAny_newObj_type ?_ (hpl.sizeOk5 _ _ _ _ _))
  refine byProp fun Pz hPz => ?_
  obtain ⟨frs', SU, ht⟩ := TI.sameUp_of (h' := h₁) (frs := frs) fun p hp => hs₁.2.2 p.1 p.2 (NN p (List.mem_append_right _ hp)).1
  refine hPz ?_
  clear hPz Pz
  generalize hts : ([Value.none, Value.ref L, Value.none, rawInt L, Value.none] ++ (if pl.isEmpty then List.replicate 6 Value.none else pl)).toArray = ts
  have h3 : ts[3]? = some (rawInt L) := by rw [← hts]; simp
  have hnL : ∀ b o, b ∉ L :: frs.map (·.1) → s.heap.get? b = some o → h₁.get? b = some o := fun b o hn ho => (hs₁.2.1 b hn).trans ho
  have hbk : ∀ b o, hb.get? b = some o → h₁.get? b = some o := fun b o ho => hnL b o (fun hm => by rw [hbase b hm] at ho; cases ho) (F.keep b o ho)
  refine byProp fun Pz hPz => ?_
  obtain ⟨oL, es, ep, hL, r⟩ := F.ns
  obtain ⟨slL, hL₁⟩ := hs₁.2.2 L oL hL
  have F₁ : Fr hb L h₁ m := ⟨⟨_, es, ep, hL₁, r⟩, hbk, F.above⟩
  have haddr := SameUp.addr SU
  have hfr' : ∀ p ∈ frs', ∃ q ∈ frs, p.1 = q.1 := fun p hp => SU.fwd p hp
  have N₁ : News hb L h₁ ((e, fldO c vs dd sl) :: (new ++ frs')) := fun p hp => by
    rcases List.mem_cons.mp hp with rfl | hp
    · exact ⟨hnL _ _ heL z.1, z.2⟩
    · rcases List.mem_append.mp hp with hp | hp
      · have y := NN p (List.mem_append_left _ hp)
        refine ⟨hnL _ _ (fun hm => ?_) y.1, y.2⟩
        rcases List.mem_cons.mp hm with q | hm
        · exact y.2.1 q
        · obtain ⟨x, hx, q⟩ := List.mem_map.mp hm
          exact ho.mem p hp x hx q.symm
      · obtain ⟨x, hx, q⟩ := hfr' p hp
        have y := NN x (List.mem_append_right _ hx)
        exact ⟨ht p hp, by rw [q]; exact y.2.1, by rw [q]; exact y.2.2⟩
  have up : ∀ b o, h₁.get? b = some o → (h₁.push (fldO (.type "traceback") ts)).get? b = some o := fun b o q => Heap.get?_push_of_some _ q
  have F₂ : Fr hb L (h₁.push (fldO (.type "traceback") ts)) m := F₁.push _
  have ltT : ∀ p ∈ (e, fldO c vs dd sl) :: (new ++ frs'), p.1 < h₁.objs.size := fun p hp => Heap.lt_size (N₁ p hp).1
  have N₂ : News hb L (h₁.push (fldO (.type "traceback") ts)) ((h₁.objs.size, fldO (.type "traceback") ts) :: (e, fldO c vs dd sl) :: (new ++ frs')) := fun p hp => by
    rcases List.mem_cons.mp hp with rfl | hp
    · exact ⟨Heap.get?_push_size _ rfl, Ne.symm (Nat.ne_of_lt (Heap.lt_size hL₁)), Heap.get?_none_of_le (Nat.le_trans F.above (Nat.le_of_lt (Heap.lt_size hL₁)))⟩
    · exact ⟨up _ _ (N₁ p hp).1, (N₁ p hp).2⟩
  have oe' : ∀ p ∈ new ++ frs', p.1 ≠ e := fun p hp => by
    rcases List.mem_append.mp hp with hp | hp
    · exact oe p (List.mem_append_left _ hp)
    · obtain ⟨x, hx, q⟩ := hfr' p hp
      rw [q]; exact oe x (List.mem_append_right _ hx)
  refine hPz ?_
  clear hPz Pz
  refine fld_set (pre := [(h₁.objs.size, fldO (.type "traceback") ts)]) (s := { s with heap := h₁.push (fldO (.type "traceback") ts) }) F₂ N₂ (fun p hp => ?_) oe' hsz fun h' F' N' => ?_
  · rw [List.mem_singleton.mp hp]
    exact Ne.symm (Nat.ne_of_lt (ltT _ (.head _)))
  · exact k h' frs' h₁.objs.size ts SU (Fs.up SU) F' N' h3 (fun p hp => by
      rcases List.mem_cons.mp hp with rfl | hp
      · exact ltT (e, fldO c vs dd sl) (.head _)
      · exact ltT p (.tail _ hp)) oe'
theorem again_led {led : List (Addr × Obj)} {dd : Option Addr} {sl : Array (Option Value)} {c c' : Value} {vs ts : Array Value} {Q : Unit → Shared → Prop} (N : News hb L s.heap led) (he : (e, fldO c vs dd sl) ∈ led) (hT : (T, fldO c' ts) ∈ led) (h1 : vs[1]? = some (.ref T)) (h3 : ts[3]? = some (rawInt L)) (k : Q () s) :
    wpAny (model Pg w) A (noteFrame (.ref e) (envOf name scope L a cd)) Q E s := by
  unfold noteFrame
  simp only [show (envOf name scope L a cd).frame = some L from rfl]
  refine wpAny_bind (wpAny_field (N _ he).1 rfl h1 ?_)
  rw [if_pos (show (Value.ref T != Value.none) = true from by simp)]
  refine wpAny_bind (wpAny_field (N _ hT).1 rfl h3 ?_)
  simp only [beq_self_eq_true, if_true]
  exact wpAny_pure k
theorem flight_led {dd : Option Addr} {sl : Array (Option Value)} {c c' : Value} {vs ts : Array Value} {x : Option Addr} {rest : List (Addr × Obj)} {Q : Unit → Shared → Prop} (F : Fr hb L s.heap m) (N : News hb L s.heap ((T, fldO c' ts) :: (e, fldO c vs dd sl) :: rest)) (h1 : vs[1]? = some (.ref T)) (h3 : 3 < ts.size) (hlt : ∀ p ∈ (e, fldO c vs dd sl) :: rest, p.1 < T)
    (k : ∀ h' ts', Fr hb L h' m → News hb L h' ((T, fldO c' ts') :: (e, fldO c vs dd sl) :: rest) → ts'[3]? = some (x.elim .none fun f => rawInt f) → Q () { s with heap := h' }) :
    wpAny (model Pg w) A (setFlight (.ref e) x) Q E s := by
  unfold setFlight
  refine wpAny_bind (wpAny_field (N (e, fldO c vs dd sl) (.tail _ (.head _))).1 rfl h1 ?_)
  rw [if_pos (show (Value.ref T != Value.none) = true from by simp)]
  refine fld_set (pre := []) F N (fun p hp => nomatch hp) (fun p hp => Nat.ne_of_lt (hlt p hp)) h3 fun h' F' N' => k h' _ F' N' (by simp [h3])
/-- the new exception goes onto the ledger -/
theorem exc_led {g : Heap} (hx : Heap.NewExc h g e X) (F : Fr hb L h m) (N : News hb L h new) :
    ∃ dd sl t, Fr hb L g m ∧ News hb L g ((e, fldO (.type X) #[t, .none, .none, .none, .bool false, .none] dd sl) :: new) ∧ ∀ p ∈ new, p.1 ≠ e := by
  refine byProp fun Pz hPz => ?_
  obtain ⟨ob, t, he, hc, hd⟩ := hx.there
  obtain ⟨c1, dd, dt, sl⟩ := ob
  obtain rfl : c1 = _ := hc
  obtain rfl : dt = _ := hd
  refine hPz ?_
  clear hPz Pz
  refine ⟨dd, sl, t, F.keeps hx.keeps, fun p hp => ?_, fun p hp q => ?_⟩
  · rcases List.mem_cons.mp hp with rfl | hp
    · refine ⟨he, fun q => ?_, TT.none_of F.keep hx.new⟩
      refine byProp fun Pz hPz => ?_
      obtain ⟨oL, _, _, hL, _⟩ := F.ns
      have q' : e = L := q
      have := hx.new
      rw [q', hL] at this
      refine hPz ?_
      clear hPz Pz
      cases this
    · exact ⟨hx.keeps _ _ (N p hp).1, (N p hp).2⟩
  · have := hx.new
    rw [← q, (N p hp).1] at this
    cases this
theorem held_led {dd : Option Addr} {sl : Array (Option Value)} {c' : Value} {vs ts : Array Value} {fl : Value} (F : Fr hb L h m) (N : News hb L h ((T, fldO c' ts) :: (e, fldO (.type X) vs dd sl) :: new)) (h1 : vs[1]? = some (.ref T)) (h3 : ts[3]? = some fl) (hlt : ∀ p ∈ (e, fldO (.type X) vs dd sl) :: new, p.1 < T) :
    TT.HeldNA hb L h m e X new fl := by
  have ze := N (e, fldO (.type X) vs dd sl) (.tail _ (.head _))
  have zT := N (T, fldO c' ts) (.head _)
  have hTe : T ≠ e := Ne.symm (Nat.ne_of_lt (hlt _ (.head _)))
  refine ⟨⟨F, ⟨_, vs, T, _, ts, ze.1, rfl, rfl, h1, zT.1, rfl, h3, zT.2.1, hTe, zT.2.2⟩, ze.2.2⟩, fun p hp => N p (.tail _ (.tail _ hp)), fun ob ws tb q1 q2 q3 p hp q => ?_⟩
  rw [ze.1] at q1
  cases q1
  cases q2
  rw [h1] at q3
  cases q3
  exact Nat.ne_of_lt (hlt p (.tail _ hp)) q
theorem held_sub {new' : List (Addr × Obj)} {fl : Value} (H : TT.HeldNA hb L h m e X new fl) (hs : ∀ p ∈ new', p ∈ new) : TT.HeldNA hb L h m e X new' fl :=
  ⟨H.held, fun p hp => H.made p (hs p hp), fun ob vs tb a b c p hp => H.apart ob vs tb a b c p (hs p hp)⟩
/-- raised while another is handled -/
theorem raise_in {α : Type} {cls msg : String} {e₁ : Addr} {c₁ : Value} {d₁ : Option Addr} {sl₁ : Array (Option Value)} {vs₁ : Array Value} {Q : α → Shared → Prop} (hp : PlainExc cls) (hh : A.handled = some (.ref e₁)) (F : Fr hb L s.heap m) (N : News hb L s.heap new) (he : (e₁, fldO c₁ vs₁ d₁ sl₁) ∈ new) (h2 : vs₁[2]? = some .none)
    (k : ∀ h' tk e t, Fr hb L h' m → News hb L h' ((e, fldO (.type cls) #[t, .none, .ref e₁, .none, .bool false, .none]) :: new) → (∀ p ∈ new, p.1 ≠ e) → E (.ref e) { s with heap := h', toks := tk }) :
    wpAny (model Pg w) A (raiseErrorWords cls msg : Sem α) Q E s := by
  unfold raiseErrorWords
  refine wpAny_bind (wpAny_mkText (wpAny_bind ?_))
  unfold newExc newTuple
  refine wpAny_bind (wpAny_newObj_type ?_)
  refine wpAny_bind (m := firstArgMember _ _) (wpAny_of_eq (a := Value.none) (by simp only [firstArgMember, hp.first]; rfl) ?_)
  rw [hp.own]
  refine wpAny_newObj_type ?_
  unfold raiseNew
  refine wpAny_bind (wpAny_handled ?_)
  rw [hh]
  have hne : ∀ p ∈ new, p.1 < s.heap.objs.size := fun p hp => Heap.lt_size (N p hp).1
  have z₁ := N _ he
  dsimp only
  generalize hH : s.heap.push { cls := Value.type "tuple", data := Data.seq #[Value.str (Str.ofString msg) s.toks] } = H2
  have hsz : H2.objs.size = s.heap.objs.size + 1 := by rw [← hH, Heap.size_push]
  have up2 : ∀ b o, s.heap.get? b = some o → H2.get? b = some o := fun b o q => hH ▸ Heap.get?_push_of_some _ q
  have hlt1 : e₁ < H2.objs.size := by rw [hsz]; exact Nat.lt_succ_of_lt (hne _ he)
  rw [if_pos (by simp; exact Nat.ne_of_lt hlt1)]
  generalize hO : ({ cls := Value.type cls, data := Data.fields (#[Value.ref s.heap.objs.size, .none, .none, .none, .bool false, .none] ++ #[]) } : Obj) = ob at *
  have up3 : ∀ b o, s.heap.get? b = some o → (H2.push ob).get? b = some o := fun b o q => Heap.get?_push_of_some _ (up2 b o q)
  have hent : entryFor table "proto.unchain" = some Builtin.«proto.unchain» := entryFor_of_fast (by kernel_rfl)
  refine wpAny_bind (wpAny_holding (wpAny_runValue (codeAny_builtin hent ?_)))
  show wpAny _ _ (field (.ref e₁) 2 >>= _) _ _ _
  refine wpAny_bind (wpAny_field (s := { s with heap := H2.push ob, toks := s.toks + 1 }) (up3 _ _ z₁.1) rfl h2 ?_)
  simp only [beq_self_eq_true, if_true]
  refine wpAny_pure ?_
  have zE : (H2.push ob).get? H2.objs.size = some ob := Heap.get?_push_size _ (by rw [← hO]; rfl)
  have eO : ob = fldO (.type cls) #[Value.ref s.heap.objs.size, .none, .none, .none, .bool false, .none] := by rw [← hO]; simp
  subst eO
  have zL : ∃ oL, s.heap.get? L = some oL := by obtain ⟨oL, _, _, hL, _⟩ := F.ns; exact ⟨oL, hL⟩
  obtain ⟨oL, hL⟩ := zL
  have hEL : H2.objs.size ≠ L := Ne.symm (Nat.ne_of_lt (Heap.lt_size (up2 _ _ hL)))
  have hE0 : hb.get? H2.objs.size = none := Heap.get?_none_of_le (Nat.le_trans F.above (Nat.le_of_lt (Heap.lt_size (up2 _ _ hL))))
  have hoff : ∀ p ∈ new, p.1 ≠ H2.objs.size := fun p hp => Nat.ne_of_lt (by rw [hsz]; exact Nat.lt_succ_of_lt (hne p hp))
  have F2 : Fr hb L (H2.push _) m := F.keeps up3
  have N2 : News hb L (H2.push (fldO (.type cls) #[Value.ref s.heap.objs.size, .none, .none, .none, .bool false, .none])) ((H2.objs.size, fldO (.type cls) #[Value.ref s.heap.objs.size, .none, .none, .none, .bool false, .none]) :: new) := fun p hp => by
    rcases List.mem_cons.mp hp with rfl | hp
    · exact ⟨zE, hEL, hE0⟩
    · exact ⟨up3 _ _ (N p hp).1, (N p hp).2⟩
  show wpAny _ _ (setField (.ref H2.objs.size) 2 (.ref e₁) >>= fun _ => throw (Value.ref H2.objs.size)) _ _ _
  refine wpAny_bind (fld_set (pre := []) (s := { s with heap := H2.push _, toks := s.toks + 1 }) F2 N2 (fun p hp => nomatch hp) hoff (by simp) fun h' F' N' => wpAny_throw (k h' _ _ (Value.ref s.heap.objs.size) F' N' hoff))
/-- xs[k] out of bounds, while another is handled -/
theorem item_out_in {value slice : PySem.Expr} {D e₁ : Addr} {us : List Value} {n : Nat} {k : Int} {u : Tok} {c₁ : Value} {d₁ : Option Addr} {sl₁ : Array (Option Value)} {vs₁ : Array Value} {Q : Value → Shared → Prop} (hh : A.handled = some (.ref e₁)) (F : Fr hb L s.heap m) (N : News hb L s.heap new) (hm : (D, W.listOf us.toArray n) ∈ new) (he : (e₁, fldO c₁ vs₁ d₁ sl₁) ∈ new) (h2 : vs₁[2]? = some .none) (hx : (us.length : Int) ≤ k) (hz : k ≤ 1000)
    (hE : ∀ h' tk e t, Fr hb L h' m → News hb L h' ((e, fldO (.type "IndexError") #[t, .none, .ref e₁, .none, .bool false, .none]) :: new) → (∀ p ∈ new, p.1 ≠ e) → E (.ref e) { s with heap := h', toks := tk })
    (hs : subscripted slice false (.ref D) (.int k u) = operate [.ref D, .int k u] (getItem (.ref D) (.int k u)) := by with_unfolding_all rfl) :
    wpAny (model Pg w) A (subscriptTail value slice (.ref D) (.int k u)) Q E s := by
  have hl : s.heap.IsList D us.toArray := ⟨_, (N _ hm).1, rfl, n, rfl⟩
  refine tail_any hl.typeIs slot_list_getitem.lookup ?_ hs
  refine byProp fun Pz hPz => ?_
  obtain ⟨o, ho, hc, ne, hd⟩ := id hl
  refine hPz ?_
  clear hPz Pz
  unfold getItem
  try with_reducible refine wpAny_holding ?_
  first | refine wpAny_bind (wpAny_pure ?_) | skip
  refine wpAny_bind (wpAny_sequenceKey hl.typeIs (by decide) ?_)
  refine wpAny_bind (wpAny_callSpecial?_slot (name := Str.ofString "__getitem__") hl.typeIs slot_list_getitem
    (wpAny_call_entry slot_list_getitem hl.typeIs entry_list_getitem ?_ (args_list_getitem _ _)))
  show wpAny _ _ (Builtin.List.listSubscript? (.int k u) >>= _) _ _ s
  refine wpAny_bind (wpAny_listSubscript_int (fitsIndex_both (by omega) (by omega)) ?_)
  cases k with
  | negSucc j => exact absurd hx (by have := Int.negSucc_lt_zero j; omega)
  | ofNat j =>
    have hx : us.toArray[j]? = none := Array.getElem?_eq_none (by have : (us.length : Int) ≤ (j : Int) := hx; simp; omega)
    show wpAny _ _ ((seqItemAt D j >>= fun r => pure (r.map (j, ·))) >>= _) _ _ s
    refine wpAny_bind (wpAny_bind (wpAny_seqItemAt ho hd (wpAny_pure ?_)))
    rw [hx]
    have hh' : A.in1.handled = some (.ref e₁) := hh
    first
      | exact wpAny_bind (wpAny_rule (raise_in plainExc_IndexError hh' F N he h2 hE))
      | exact wpAny_bind (wpAny_rule (wpAny_bind (raise_in plainExc_IndexError hh' F N he h2 hE)))
      | exact wpAny_bind (wpAny_bind (wpAny_rule (raise_in plainExc_IndexError hh' F N he h2 hE)))
      | exact wpAny_rule (raise_in plainExc_IndexError hh' F N he h2 hE)
end
end -- MW
example : True := by first | (w_top off; walk1) | trivial
section -- MS
open TI (Frs SameUp)
section
variable {w : World} {A : Around} {E : Value → Shared → Prop} {s : Shared} {env : Env} {h₀ : Heap} {x : Str} {body : List Stmt} {Q : Flow → Shared → Prop}
/-- over a dict's keys -/
theorem loop_dictE {d : Addr} {o : Obj} {kvs : List (Int × Value)} {m : Str → Option Value} {led : List (Addr × Obj)} (ho : o.IsDictOf (intKind Pg w) kvs) (hd : (d == sysModules) = false) (hl : (d, o) ∈ led) (F : Fr h₀ env.locals s.heap m) (N : News h₀ env.locals s.heap led) (hh : A.handled = none)
    (J : Nat → (Str → Option Value) → List (Addr × Obj) → Prop) (h0 : J 0 m led)
    (step : ∀ I i k x' v m₁ led₁ h₁ tk₁ oI, I = s.heap.objs.size → i < kvs.length → kvs[i]? = some (k, x') → (intKind Pg w).is k v = true → J i m₁ led₁ → (∀ p ∈ led₁, p.1 ≠ I) →
      Fr h₀ env.locals h₁ (fun y => if y = x then some v else m₁ y) → News h₀ env.locals h₁ (led₁ ++ [(I, oI), (d, o)]) →
      wpAny (model Pg w) A (execs body env) (TurnTo h₀ env.locals I [(I, oI), (d, o)] (J (i + 1)) { s with heap := h₁, toks := tk₁ } Q) E { s with heap := h₁, toks := tk₁ })
    (done : ∀ h' tk m' led', Fr h₀ env.locals h' m' → News h₀ env.locals h' led' → J kvs.length m' led' → Q .next { s with heap := h', toks := tk }) :
    wpAny (model Pg w) A (pyIter (.ref d)) (fun it s₂ => LoopAtV Pg w A h₀ env x body Q E it s₂) E s := by
  have hne : d ≠ s.heap.objs.size := Nat.ne_of_lt (Heap.lt_size (N _ hl).1)
  obtain ⟨es, ep, x1, x2, x3, x4, x5⟩ := id ho
  have hl' : ∀ h : Heap, h.get? d = some o → h.DictAt (intKind Pg w) d kvs ep := fun h e => ⟨o, es, e, x1, x2, x3, x4, x5⟩
  have W₀ := Walks.dictKeys (prog := Pg) (w := w) (A := A) (knd := intKind Pg w) hh s.heap.objs.size d hne kvs ep
  have W' : Walks Pg w A s.heap.objs.size [s.heap.objs.size, d] [s.heap.objs.size] kvs.length (fun i v => ∃ k x, kvs[i]? = some (k, x) ∧ (intKind Pg w).is k v = true) (fun i h => h.IsKeyIter s.heap.objs.size d i kvs.length ep ∧ h.get? d = some o) := by
    refine ⟨W₀.sub, fun i h h' st hk => ⟨st.1.at fun o e => hk _ (by simp) o e, hk _ (by simp) _ st.2⟩, fun i s Q E hi st hQ => ?_, fun s Q E st hQ => ?_, fun i s Q E st hQ => ?_⟩
    · exact W₀.item i s Q E hi ⟨st.1, hl' _ st.2⟩ fun v h' tk hP hst hk => hQ v h' tk hP ⟨hst.1, hk d _ (by simpa using hne) st.2⟩ hk
    · exact W₀.done s Q E ⟨st.1, hl' _ st.2⟩ hQ
    · exact W₀.self i s Q E ⟨st.1, hl' _ st.2⟩ hQ
  refine wpAny_pyIter_dict hd (hl' _ (N _ hl).1) ?_
  have F₂ := F.push { cls := .type "dict_keyiterator", data := .fields #[.ref d, .int 0 0, .int kvs.length 0, .int ep 0] }
  exact loop_at (s := { s with heap := s.heap.push { cls := .type "dict_keyiterator", data := .fields #[.ref d, .int 0 0, .int kvs.length 0, .int ep 0] } }) W' (fun i h st => by obtain ⟨o, e, _⟩ := st; exact ⟨o, e⟩) (next_is_new F) (fun e => absurd F.ns.lt (e ▸ Nat.lt_irrefl _)) ⟨_, Heap.get?_push_size _ rfl, rfl, rfl⟩ hl F₂ (fun p hp => ⟨Heap.get?_push_of_some _ (N p hp).1, (N p hp).2⟩) (fun p hp => Nat.ne_of_lt (Heap.lt_size (N p hp).1)) J h0
    (fun i v m₁ led₁ h₁ tk₁ oI hi hP hJ ho F₁ N₁ => by obtain ⟨k, x', e1, e2⟩ := hP; exact step _ i k x' v m₁ led₁ h₁ tk₁ oI rfl hi e1 e2 hJ ho F₁ N₁) done
end
end -- MS
example : True := by first | (w_top off; walk1) | trivial
section -- MI2
noncomputable abbrev itO (l : Addr) (i : Int) : Obj := { cls := .type "list_iterator", data := .fields #[.ref l, .int i 0] }
noncomputable abbrev mwO (I : Addr) : Obj := { cls := .type "method-wrapper", data := .fields #[.builtin "list_iterator.__next__", .ref I] }
section
variable {prog : Program} {w : World} {A : Around} {E : Value → Shared → Prop} {s : Shared} {h₀ h : Heap} {L D : Addr} {m : Str → Option Value} {news news' : List (Addr × Obj)} {us : List Value} {n : Nat}
/-- iter(xs) -/
theorem lst_iter {Q : Value → Shared → Prop} (F : Fr h₀ L s.heap m) (N : News h₀ L s.heap news) (hm : (D, W.listOf us.toArray n) ∈ news)
    (k : ∀ I h', Fr h₀ L h' m → News h₀ L h' ((I, itO D 0) :: news) → (∀ p ∈ news, p.1 < I) → Q (.ref I) { s with heap := h' }) : wpAny (model prog w) A (call (.builtin "iter") [.ref D]) Q E s := by
  refine call_function_entry (by decide +kernel) (by decide +kernel) kdk_entry_iter (kdk_args_iter _) ?_
  unfold Builtin.«iter»
  refine wpAny_bind (m := someArgs "iter" 1 2 _) (wpAny_of_eq (a := [Value.ref D]) (by first | rfl | kernel_rfl!) ?_)
  show wpAny _ _ (pyIter (.ref D) >>= _) _ _ _
  refine wpAny_bind (wpAny_pyIter_list ⟨_, (N _ hm).1, rfl, n, rfl⟩ ?_)
  exact wpAny_pure ⟨_, rfl, k _ _ (F.push _) (News.push F N _ rfl) (fun q hq => Heap.lt_size (N q hq).1)⟩
theorem slot_li_ga : Slot "list_iterator" "__getattribute__" "object.__getattribute__" := .of (owner := "object") (n := "__getattribute__") (by rw [typeLookup_type, builtinLookup_eq_fast]; kernel_rfl) (by decide +kernel) (by decide +kernel) (by decide +kernel)
    (by first | exact .inl (by decide +kernel) | exact .inr (by decide +kernel)) (by rw [isSubtype_type]; kernel_rfl)
theorem ent_ga : entryFor table "object.__getattribute__" = some Builtin.«object.__getattribute__» := F.entry_object_getattribute
theorem ent_wd : entryFor table "wrapper_descriptor.__get__" = some Builtin.«wrapper_descriptor.__get__» := entryFor_of_tree (by kernel_rfl)
theorem args_ga (a b : Value) : argsOk "object.__getattribute__" ⟨[a, b], []⟩ := by unfold argsOk; kernel_rfl
theorem args_wd (a b c : Value) : argsOk "wrapper_descriptor.__get__" ⟨[a, b, c], []⟩ := by unfold argsOk; kernel_rfl
theorem type_next : typeOf (.builtin "list_iterator.__next__") = pure (.type "wrapper_descriptor") := by kernel_rfl
theorem slot_wd : Slot "wrapper_descriptor" "__get__" "wrapper_descriptor.__get__" := .of (owner := "wrapper_descriptor") (n := "__get__") (by rw [typeLookup_type, builtinLookup_eq_fast]; kernel_rfl) (by decide +kernel) (by decide +kernel) (by decide +kernel)
    (by first | exact .inl (by decide +kernel) | exact .inr (by decide +kernel)) (by rw [isSubtype_type]; kernel_rfl)
theorem lk_wd_set : typeLookup (.type "wrapper_descriptor") "__set__" = pure none := by rw [typeLookup_type, builtinLookup_eq_fast]; kernel_rfl
theorem lk_wd_del : typeLookup (.type "wrapper_descriptor") "__delete__" = pure none := by rw [typeLookup_type, builtinLookup_eq_fast]; kernel_rfl
theorem isi_next {I : Addr} {l : Addr} {i : Int} {Q : Bool → Shared → Prop} (hx : s.heap.get? I = some (itO l i)) (h : Q true s) : wpAny (model prog w) A (isInstance (.ref I) (.type "list_iterator")) Q E s := by
  have hT : s.TypeIs (.ref I) "list_iterator" := ⟨_, hx, rfl⟩
  have f8 : isSubtype (.type "list_iterator") (.type "list_iterator") = pure true := by rw [isSubtype_type]; kernel_rfl
  obtain ⟨hp, g, d, tk, os⟩ := s
  repeat (any_goals (first | assumption | wp_step))
theorem sub_own : isSubtype (.type "list_iterator") (.type (".".intercalate ("list_iterator.__next__".cutAt '.').dropLast)) = pure true := by
  rw [show (".".intercalate ("list_iterator.__next__".cutAt '.').dropLast) = "list_iterator" by decide +kernel, isSubtype_type]; kernel_rfl
theorem next_get {I : Addr} {l : Addr} {i : Int} {R : Result → Shared → Prop} (hx : s.heap.get? I = some (itO l i)) (h : R (.ok (.ret (.ref s.heap.objs.size))) { s with heap := s.heap.push (mwO I) }) :
    codeAny (model prog w) A (.call (.builtin "wrapper_descriptor.__get__") ⟨[.builtin "list_iterator.__next__", .ref I, .type "list_iterator"], []⟩) R s := by
  have hT5 : s.TypeIs (.builtin "list_iterator.__next__") "wrapper_descriptor" := type_next
  refine codeAny_call_builtin slot_wd.plain ent_wd (slot_wd.check _ _ _ _ _ _ _ _ hT5 (args_wd _ _ _) ?_)
  have f8 : isSubtype (itO l i).cls (.type (".".intercalate ("list_iterator.__next__".cutAt '.').dropLast)) = pure true := sub_own
  obtain ⟨hp, g, d, tk, os⟩ := s
  unfold Builtin.«wrapper_descriptor.__get__»
  repeat (any_goals (first | assumption | (with_reducible apply isi_next hx) | wp_step))
theorem ga_next {I : Addr} {l : Addr} {i : Int} {t : Tok} {Q : Fin → Shared → Prop} (hx : s.heap.get? I = some (itO l i)) (h : Q (.done (.ret (.ref s.heap.objs.size))) { s with heap := s.heap.push (mwO I) }) :
    wpAny (model prog w) A (Builtin.«object.__getattribute__» ⟨[.ref I, .str "__next__" t], []⟩) Q E s := by
  have hT : s.TypeIs (.ref I) "list_iterator" := ⟨_, hx, rfl⟩
  have hT5 : s.TypeIs (.builtin "list_iterator.__next__") "wrapper_descriptor" := type_next
  have f4 := slot_listiter_next.lookup
  have f5 := type_next
  have f6 := slot_wd.lookup
  have f7 := lk_wd_set
  have f9 := lk_wd_del
  obtain ⟨hp, g, d, tk, os⟩ := s
  unfold Builtin.«object.__getattribute__»
  repeat (any_goals (first | assumption | wp_step))
  exact next_get hx (wpAny_pure h)
theorem next_attr {I : Addr} {l : Addr} {i : Int} {Q : Value → Shared → Prop} (hx : s.heap.get? I = some (itO l i)) (h : ∀ tk, Q (.ref s.heap.objs.size) { s with heap := s.heap.push (mwO I), toks := tk }) :
    wpAny (model prog w) A (getAttr (.ref I) (Str.ofString "__next__") true) Q E s := by
  obtain ⟨hp, g, d, tk, os⟩ := s
  have hT : ∀ tk', (⟨hp, g, d, tk', os⟩ : Shared).TypeIs (.ref I) "list_iterator" := fun _ => ⟨_, hx, rfl⟩
  have f2 := slot_li_ga.lookup
  have f3 := slot_li_ga.bind (.ref I)
  unfold getAttr getAttrBy
  repeat (any_goals (first | assumption | exact hT _ | ((with_reducible show wpAny _ _ (call (Value.builtin "object.__getattribute__") _ _) _ _ _); refine wpAny_call (codeAny_call_builtin slot_li_ga.plain ent_ga (slot_li_ga.check _ _ _ _ _ _ _ _ (hT _) (args_ga _ _) (ga_next hx ?_)))) | wp_step))
  exact h _
theorem li_next {I l : Addr} {i : Int} {Q : Value → Shared → Prop} (F : Fr h₀ L s.heap m) (N : News h₀ L s.heap news) (hm : (I, itO l i) ∈ news)
    (k : ∀ M h' tk, Fr h₀ L h' m → News h₀ L h' ((M, mwO I) :: news) → (∀ p ∈ news, p.1 < M) → Q (.ref M) { s with heap := h', toks := tk }) : wpAny (model prog w) A (getAttr (.ref I) (Str.ofString "__next__") true) Q E s :=
  next_attr (N _ hm).1 fun tk => k _ _ _ (F.push _) (News.push F N _ rfl) (fun q hq => Heap.lt_size (N q hq).1)
theorem mw_code {M I : Addr} {R : Result → Shared → Prop} (ho : s.heap.get? M = some (mwO I)) (h : codeAny (model prog w) A (.builtin "list_iterator.__next__" ⟨[.ref I], []⟩) R s) :
    codeAny (model prog w) A (.call (.ref M) ⟨[], []⟩) R s := by
  obtain ⟨hh, g, dr, t, os⟩ := s
  refine codeAny_of_tree ?_
  show wpAny _ _ (callAny (.ref M) _) _ _ _
  dsimp only at ho
  refine nd_load ho ?_
  show wpAny _ _ (checkBoundCall "list_iterator.__next__" ⟨[.ref I], []⟩ >>= fun _ => again (.builtin "list_iterator.__next__" ⟨[.ref I], []⟩)) _ _ _
  refine wpAny_bind (wpAny_of_eq (a := ()) (by kernel_rfl) ?_)
  exact wpAny_pure ⟨plainId_quiet slot_listiter_next.plain _, h⟩
/-- the iterator gives an item -/
theorem mw_item {M I l : Addr} {i : Nat} {v : Value} {Q : Value → Shared → Prop} (F : Fr h₀ L s.heap m) (N : News h₀ L s.heap news) (hM : (M, mwO I) ∈ news) (U : Upd I (itO l i) (itO l ((i : Int) + 1)) news news') (hl : (l, W.listOf us.toArray n) ∈ news) (hv : us[i]? = some v)
    (k : ∀ h', Fr h₀ L h' m → News h₀ L h' news' → Q v { s with heap := h' }) : wpAny (model prog w) A (call (.ref M) []) Q E s := by
  obtain ⟨pre, post, rfl, rfl, a, b⟩ := U.split
  have z := N (I, itO l i) (List.mem_append.mpr (.inr (.head _)))
  refine wpAny_call (mw_code (N _ hM).1 (codeAny_builtin entry_listiter_next ?_))
  show wpAny _ _ (field (.ref I) 0 >>= _) _ _ s
  refine wpAny_bind (wpAny_field z.1 rfl (x := .ref l) rfl ?_)
  show wpAny _ _ (if (Value.ref l == Value.none) = true then _ else _) _ _ s
  rw [if_neg (show ¬ ((Value.ref l == Value.none) = true) from Bool.false_ne_true)]
  show wpAny _ _ (field (.ref I) 1 >>= _) _ _ s
  refine wpAny_bind (wpAny_field z.1 rfl (x := .int i 0) rfl ?_)
  show wpAny _ _ (seqItems? (.ref l) >>= _) _ _ s
  refine wpAny_bind (wpAny_seqItems (N _ hl).1 rfl ?_)
  have hx : us.toArray[i]? = some v := by simpa using hv
  simp only [Int.toNat_natCast, hx]
  refine wpAny_bind (wpAny_setField z.1 rfl (by simp) (wpAny_pure (k _ (F.change (Heap.SameBut.update ..) z.2.1 z.2.2) (news_set N a b (Heap.SameBut.update ..) ?_))))
  exact Heap.get?_update_self _ z.1 rfl
/-- the iterator is at its end -/
theorem mw_stop {M I l : Addr} {i : Nat} {Q : Value → Shared → Prop} (hh : A.handled = none) (F : Fr h₀ L s.heap m) (N : News h₀ L s.heap news) (hM : (M, mwO I) ∈ news) (U : Upd I (itO l i) { cls := .type "list_iterator", data := .fields #[.none, .int i 0] } news news') (hl : (l, W.listOf us.toArray n) ∈ news) (hv : us.length ≤ i)
    (k : ∀ h' h'' e, Fr h₀ L h' m → News h₀ L h' news' → Heap.NewExc h' h'' e "StopIteration" → E (.ref e) { s with heap := h'' }) : wpAny (model prog w) A (call (.ref M) []) Q E s := by
  obtain ⟨pre, post, rfl, rfl, a, b⟩ := U.split
  have z := N (I, itO l i) (List.mem_append.mpr (.inr (.head _)))
  refine wpAny_call (mw_code (N _ hM).1 (codeAny_builtin entry_listiter_next ?_))
  show wpAny _ _ (field (.ref I) 0 >>= _) _ _ s
  refine wpAny_bind (wpAny_field z.1 rfl (x := .ref l) rfl ?_)
  show wpAny _ _ (if (Value.ref l == Value.none) = true then _ else _) _ _ s
  rw [if_neg (show ¬ ((Value.ref l == Value.none) = true) from Bool.false_ne_true)]
  show wpAny _ _ (field (.ref I) 1 >>= _) _ _ s
  refine wpAny_bind (wpAny_field z.1 rfl (x := .int i 0) rfl ?_)
  show wpAny _ _ (seqItems? (.ref l) >>= _) _ _ s
  refine wpAny_bind (wpAny_seqItems (N _ hl).1 rfl ?_)
  have hx : us.toArray[i]? = none := by simpa using hv
  simp only [Int.toNat_natCast, hx]
  refine wpAny_bind (wpAny_rule (wpAny_bind (wpAny_setField z.1 rfl (by simp) ?_)))
  show wpAny _ _ (newExc (.type "StopIteration") [] >>= _) _ _ _
  refine wpAny_bind ?_
  simp only [newExc, newTuple]
  refine wpAny_bind (wpAny_newObj_type ?_ (by size_fits))
  refine wpAny_bind (m := firstArgMember _ _) (wpAny_of_eq (a := Value.none) (by first | rfl | (simp only [firstArgMember]; rfl)) ?_)
  refine wpAny_newObj_type ?_ (by size_fits)
  simp only [raiseNew]
  refine wpAny_bind (wpAny_handled ?_)
  rw [show (A.under (.builtin "list_iterator.__next__" ⟨[.ref I], []⟩)).handled = none from by rw [Around.under_plainId slot_listiter_next.plain]; exact hh]
  refine wpAny_bind (wpAny_pure (wpAny_throw ?_))
  refine k (s.heap.update I (Obj.mapFields (·.setIfInBounds 0 .none))) _ _ (F.change (Heap.SameBut.update ..) z.2.1 z.2.2) (news_set N a b (Heap.SameBut.update ..) (Heap.get?_update_self _ z.1 rfl)) ⟨fun b o hb => Heap.get?_push_of_some _ (Heap.get?_push_of_some _ hb), Heap.get?_none_of_le (by simp [Heap.size_push]), _, .ref _, Heap.get?_push_size _ rfl, rfl, rfl⟩
end
end -- MI2
example : True := by first | (w_top off; walk1) | trivial
section -- MT1
open TI (Frs SameUp)
/-- what lies under a place of the stack: the wrapper, the iterator, its list, how far it is -/
structure It where
  M : Addr
  I : Addr
  l : Addr
  i : Nat
noncomputable abbrev itM (r : It) : Addr × Obj := (r.M, mwO r.I)
noncomputable abbrev itI (r : It) : Addr × Obj := (r.I, itO r.l r.i)
noncomputable def itF (rs : List It) : List (Addr × Obj) := rs.flatMap fun r => [itM r, itI r]
theorem itF_snoc (rs : List It) (r : It) : itF (rs ++ [r]) = itF rs ++ [itM r, itI r] := by simp [itF]
noncomputable def refsOf (rs : List It) : List Value := rs.map fun r => .ref r.M
theorem refs_snoc (rs : List It) (r : It) : refsOf (rs ++ [r]) = refsOf rs ++ [.ref r.M] := by simp [refsOf]
/-- the places of a path -/
noncomputable def placesOf (p : List Nat) : List (Int × Nat) := (p.map fun (k : Nat) => (k : Int)).zipIdx
theorem execs_mid {w : World} {A : Around} {E : Value → Shared → Prop} {s : Shared} {env : Env} {st : Stmt} {rest : List Stmt} {Q : Flow → Shared → Prop} (J : Shared → Prop)
    (h1 : wpAny (model Pg w) A (exec st env) (fun f s' => match f with | .next => J s' | f => Q f s') E s) (h2 : ∀ s', J s' → wpAny (model Pg w) A (execs rest env) Q E s') : wpAny (model Pg w) A (execs (st :: rest) env) Q E s := by
  refine wpAny_execs_cons (wpAny_mono h1 (fun f s' h => ?_) fun _ _ e => e)
  cases f with
  | next => exact h2 s' h
  | _ => exact h
end -- MT1
example : True := by first | (w_top off; walk1) | trivial
section -- MZ1
/- plain: chains of a partial map -/
section
variable (succ : Nat → Option Nat)
noncomputable def walkN : Nat → Nat → Option Nat
  | 0, k => some k
  | n + 1, k => (succ k).bind (walkN n)
/-- the chain from k ends -/
noncomputable def Term (k : Nat) : Prop := ∃ n, walkN succ n k = none
variable {succ}
theorem term_none {k : Nat} (h : succ k = none) : Term succ k := ⟨1, by simp [walkN, h]⟩
theorem term_some {k j : Nat} (h : succ k = some j) (t : Term succ j) : Term succ k := by
  obtain ⟨n, e⟩ := t
  exact ⟨n + 1, by simp [walkN, h, e]⟩
theorem term_next {k j : Nat} (h : succ k = some j) (t : Term succ k) : Term succ j := by
  obtain ⟨n, e⟩ := t
  cases n with
  | zero => cases e
  | succ n => exact ⟨n, by simpa [walkN, h] using e⟩
theorem walk_add (a b k : Nat) : walkN succ (a + b) k = (walkN succ a k).bind (walkN succ b) := by
  induction a generalizing k with
  | zero => simp [walkN]
  | succ a ih =>
    rw [Nat.succ_add]
    simp only [walkN]
    cases h : succ k with
    | none => rfl
    | some j => simp [ih]
/-- a chain that comes back never ends -/
theorem ring_never {k m : Nat} (h : walkN succ (m + 1) k = some k) : ¬ Term succ k := by
  rintro ⟨n, e⟩
  have hr : ∀ r, walkN succ (r * (m + 1)) k = some k := by
    intro r
    induction r with
    | zero => simp [walkN]
    | succ r ih => rw [Nat.succ_mul, walk_add, ih]; exact h
  have hge : ∀ a b j, walkN succ a j = none → walkN succ (a + b) j = none := by
    intro a b j h
    rw [walk_add, h]; rfl
  have := hge n (n * m) k e
  rw [show n + n * m = n * (m + 1) by rw [Nat.mul_add, Nat.mul_one, Nat.add_comm], hr n] at this
  cases this
/-- a path: each leads to the next -/
noncomputable def Path (succ : Nat → Option Nat) : List Nat → Nat → Prop
  | [], _ => True
  | [a], c => succ a = some c
  | a :: b :: r, c => succ a = some b ∧ Path succ (b :: r) c
theorem path_snoc {p : List Nat} {c d : Nat} (h : Path succ p c) (e : succ c = some d) : Path succ (p ++ [c]) d := by
  induction p with
  | nil => exact e
  | cons a r ih =>
    cases r with
    | nil => exact ⟨h, e⟩
    | cons b r => exact ⟨h.1, ih h.2⟩
theorem path_term {p : List Nat} {c : Nat} (h : Path succ p c) (t : Term succ c) : ∀ k ∈ p, Term succ k := by
  induction p with
  | nil => intro k hk; cases hk
  | cons a r ih =>
    cases r with
    | nil => intro k hk; rw [List.mem_singleton.mp hk]; exact term_some h t
    | cons b r =>
      intro k hk
      have := ih h.2
      rcases List.mem_cons.mp hk with rfl | hk
      · exact term_some h.1 (this b (.head _))
      · exact this k hk
theorem path_walk {p : List Nat} {c : Nat} (h : Path succ p c) : ∀ k ∈ p, ∃ m, walkN succ (m + 1) k = some c := by
  induction p with
  | nil => intro k hk; cases hk
  | cons a r ih =>
    cases r with
    | nil => intro k hk; rw [List.mem_singleton.mp hk]; exact ⟨0, by simp [walkN, show succ a = some c from h]⟩
    | cons b r =>
      intro k hk
      have := ih h.2
      rcases List.mem_cons.mp hk with rfl | hk
      · obtain ⟨m, e⟩ := this b (.head _)
        exact ⟨m + 1, by rw [walkN, h.1]; exact e⟩
      · exact this k hk
end
end -- MZ1
example : True := by first | (w_top off; walk1) | trivial
section -- MT2
open TI (Frs SameUp)
/-- what is known of the search's state -/
structure CyOK (w : World) (succ : Nat → Option Nat) (p : List Nat) (its : List It) (us : List Value) (kvs : List (Int × Value)) (sl : List Nat) (S : Int → Bool) (oN oS : Obj) : Prop where
  ius : IntsAre us (zs p)
  len : its.length = p.length
  dN : oN.IsDictOf (intKind Pg w) kvs
  keys : kvs.map (·.1) = zs p
  vals : ∀ kv ∈ kvs, ∃ (i : Nat) (t : Tok), kv.2 = .int i t ∧ i ≤ 12
  dS : oS.SetObjOf (intKind Pg w) S sl.length
  mem : ∀ k : Nat, S k = decide (k ∈ sl)
  nds : sl.Nodup
  lts : ∀ k ∈ sl, k < 12
  ndp : p.Nodup
  sub : ∀ k ∈ p, k ∈ sl
  off : ∀ k ∈ sl, k ∉ p → Term succ k
/-- an iterator at its end -/
noncomputable def AtEnd (BG : List (Addr × Obj)) (r : It) : Prop := ∃ sc nn, (r.l, W.listOf (List.toArray sc) nn) ∈ BG ∧ sc.length ≤ r.i
theorem nodup_le {l : List Nat} {n : Nat} (h : l.Nodup) (hl : ∀ k ∈ l, k < n) : l.length ≤ n := by
  induction n generalizing l with
  | zero =>
    cases l with
    | nil => exact Nat.le_refl _
    | cons a r => exact absurd (hl a (.head _)) (Nat.not_lt_zero _)
  | succ n ih =>
    have h2 : (l.erase n).length ≤ n := ih (h.erase n) fun k hk => by
      have h3 := (h.mem_erase_iff).mp hk
      have := hl k h3.2
      omega
    rw [List.length_erase] at h2
    split at h2 <;> omega
theorem CyOK.lenS {w : World} {succ : Nat → Option Nat} {p : List Nat} {its : List It} {us : List Value} {kvs : List (Int × Value)} {sl : List Nat} {S : Int → Bool} {oN oS : Obj} (C : CyOK w succ p its us kvs sl S oN oS) : sl.length ≤ 12 := nodup_le C.nds C.lts
theorem CyOK.lenP {w : World} {succ : Nat → Option Nat} {p : List Nat} {its : List It} {us : List Value} {kvs : List (Int × Value)} {sl : List Nat} {S : Int → Bool} {oN oS : Obj} (C : CyOK w succ p its us kvs sl S oN oS) : p.length ≤ 12 := nodup_le C.ndp fun k hk => C.lts k (C.sub k hk)
theorem CyOK.lenU {w : World} {succ : Nat → Option Nat} {p : List Nat} {its : List It} {us : List Value} {kvs : List (Int × Value)} {sl : List Nat} {S : Int → Bool} {oN oS : Obj} (C : CyOK w succ p its us kvs sl S oN oS) : us.length ≤ 12 := by
  have := C.ius.length; have := C.lenP; simp at *; omega
/-- a push -/
theorem CyOK.push {w : World} {succ : Nat → Option Nat} {p : List Nat} {its : List It} {us : List Value} {kvs : List (Int × Value)} {sl : List Nat} {S : Int → Bool} {oN oS oN' oS' : Obj} (C : CyOK w succ p its us kvs sl S oN oS) {c : Nat} {t t' : Tok} {i : Nat} {r : It}
    (hc : c < 12) (hcs : c ∉ sl) (hi : i ≤ 12) (hN : oN'.IsDictOf (intKind Pg w) (stored kvs (c : Int) (.int i t'))) (hS : oS'.SetObjOf (intKind Pg w) (fun k' => S k' || decide (k' = (c : Int))) (if S c then sl.length else sl.length + 1)) :
    ∃ kvs' S', CyOK w succ (p ++ [c]) (its ++ [r]) (us ++ [.int c t]) kvs' (c :: sl) S' oN' oS' := by
  have hcp : c ∉ p := fun h => hcs (C.sub c h)
  have hab : valueAt kvs (c : Int) = none := by
    unfold valueAt
    rw [Option.map_eq_none_iff, List.find?_eq_none]
    intro kv hkv
    have : kv.1 ∈ zs p := C.keys ▸ List.mem_map_of_mem hkv
    obtain ⟨j, hj, e⟩ := List.mem_map.mp this
    simp only [decide_eq_true_eq]
    intro e2
    rw [← e] at e2
    have : j = c := by exact_mod_cast e2
    exact hcp (this ▸ hj)
  rw [stored_absent hab] at hN
  have hSc : S c = false := by rw [C.mem]; simpa using hcs
  rw [hSc] at hS
  refine ⟨_, _, ⟨?_, ?_, hN, ?_, ?_, hS, ?_, ?_, ?_, ?_, ?_, ?_⟩⟩
  · simpa [zs] using C.ius.append (.cons _ t .nil)
  · simp [C.len]
  · simp [C.keys]
  · intro kv hkv
    rcases List.mem_append.mp hkv with h | h
    · exact C.vals kv h
    · rw [List.mem_singleton.mp h]; exact ⟨i, t', rfl, hi⟩
  · intro k
    rw [C.mem]
    by_cases e : k = c
    · simp [e]
    · have : ((k : Int) = (c : Int)) = False := by simp; omega
      simp [e, this]
  · exact List.nodup_cons.mpr ⟨hcs, C.nds⟩
  · intro k hk
    rcases List.mem_cons.mp hk with rfl | hk
    · exact hc
    · exact C.lts k hk
  · rw [List.nodup_append]
    exact ⟨C.ndp, by simp, fun a ha b hb e => by rw [List.mem_singleton.mp hb] at e; exact hcp (e ▸ ha)⟩
  · intro k hk
    rcases List.mem_append.mp hk with h | h
    · exact .tail _ (C.sub k h)
    · rw [List.mem_singleton.mp h]; exact .head _
  · intro k hk hn
    rcases List.mem_cons.mp hk with rfl | hk
    · exact absurd (List.mem_append_right _ (.head _)) hn
    · exact C.off k hk fun h => hn (List.mem_append_left _ h)
/-- a pop -/
theorem CyOK.pop {w : World} {succ : Nat → Option Nat} {p : List Nat} {its : List It} {us : List Value} {kvs : List (Int × Value)} {sl : List Nat} {S : Int → Bool} {oN oS oN' : Obj} {c : Nat} {r : It} {u : Value} (C : CyOK w succ (p ++ [c]) (its ++ [r]) (us ++ [u]) kvs sl S oN oS)
    (hT : ∀ k ∈ sl, Term succ k) (hN : oN'.IsDictOf (intKind Pg w) (without kvs (c : Int))) : CyOK w succ p its us (without kvs (c : Int)) sl S oN' oS := by
  have hnd := C.ndp
  rw [List.nodup_append] at hnd
  have hcp : c ∉ p := fun h => hnd.2.2 c h c (.head _) rfl
  refine ⟨?_, ?_, hN, ?_, ?_, C.dS, C.mem, C.nds, C.lts, hnd.1, fun k hk => C.sub k (List.mem_append_left _ hk), fun k hk _ => hT k hk⟩
  · have h := C.ius
    have e : zs (p ++ [c]) = zs p ++ [(c : Int)] := by simp [zs]
    rw [e] at h
    obtain ⟨us0, t, e1, h2⟩ := ints_last h
    obtain ⟨rfl, _⟩ := List.append_inj' e1 rfl
    exact h2
  · have := C.len
    simpa using this
  · have e : (without kvs (c : Int)).map (·.1) = (kvs.map (·.1)).filter (fun k => decide (k ≠ (c : Int))) := by
      unfold without
      rw [List.filter_map]
      rfl
    rw [e, C.keys]
    have e2 : zs (p ++ [c]) = zs p ++ [(c : Int)] := by simp [zs]
    rw [e2, List.filter_append, List.filter_eq_self.mpr]
    · simp
    · intro a ha
      obtain ⟨j, hj, rfl⟩ := List.mem_map.mp ha
      simp only [decide_eq_true_eq]
      intro e
      have : j = c := by exact_mod_cast e
      exact hcp (this ▸ hj)
  · exact fun kv hkv => C.vals kv (List.mem_filter.mp hkv).1
theorem CyOK.has {w : World} {succ : Nat → Option Nat} {p : List Nat} {its : List It} {us : List Value} {kvs : List (Int × Value)} {sl : List Nat} {S : Int → Bool} {oN oS : Obj} (C : CyOK w succ p its us kvs sl S oN oS) (c : Nat) :
    (c ∈ p → ∃ (i : Nat) (t : Tok), valueAt kvs (c : Int) = some (.int i t) ∧ i ≤ 12) ∧ (c ∉ p → valueAt kvs (c : Int) = none) := by
  constructor
  · intro h
    have hm : (c : Int) ∈ kvs.map (·.1) := by rw [C.keys]; exact List.mem_map_of_mem h
    obtain ⟨kv, hkv, e⟩ := List.mem_map.mp hm
    have : ((kvs.find? fun kv => decide (kv.1 = (c : Int)))).isSome = true := List.find?_isSome.mpr ⟨kv, hkv, by simpa using e⟩
    obtain ⟨y, hy⟩ := Option.isSome_iff_exists.mp this
    obtain ⟨i, t, e1, e2⟩ := C.vals y (List.mem_of_find?_eq_some hy)
    exact ⟨i, t, by unfold valueAt; rw [hy]; simp [e1], e2⟩
  · intro h
    unfold valueAt
    rw [Option.map_eq_none_iff, List.find?_eq_none]
    intro kv hkv
    have : kv.1 ∈ zs p := C.keys ▸ List.mem_map_of_mem hkv
    obtain ⟨j, hj, e⟩ := List.mem_map.mp this
    simp only [decide_eq_true_eq]
    intro e2
    rw [← e] at e2
    have : j = c := by exact_mod_cast e2
    exact h (this ▸ hj)
end -- MT2
local macro_rules | `(tactic| k_mem) => `(tactic| with_reducible assumption)
local macro_rules | `(tactic| kmk_nums) => `(tactic| exact kmk_from (by assumption) (by omega))
example : True := by first | (w_top off; walk1) | trivial
section -- MT3
open TI (Frs SameUp)
section
variable {w : World} {A : Around} {E : Value → Shared → Prop} {s : Shared} {h₀ : Heap} {L : Addr} {m : Str → Option Value}
/-- the call of a method-wrapper -/
theorem callWith_mw {M I : Addr} {pos : Pos} {env : Env} {news : List (Addr × Obj)} {Q : Value → Shared → Prop} (N : News h₀ L s.heap news) (hM : (M, mwO I) ∈ news) (h : wpAny (model Pg w) A (call (.ref M) []) Q E s) :
    wpAny (model Pg w) A (callWith pos (.ref M) [] (backTo pos (starEach [] env)) []) Q E s :=
  callWith_of (P := fun h => h.get? M = some (mwO I)) rfl (fun _ x => ⟨.machine, .inr (.inl rfl), (Looks.ld (part := none) x).andThen .now⟩) (evalArgs_nil3 ⟨(N _ hM).1, h⟩)
/-- the frame takes note; a tail of the ledger is opaque -/
theorem noted_y {l : List Env} {A₀ : Around} {s' : Shared} {hb h : Heap} {a e : Addr} {name : Str} {scope : Scope} {cd : Value} {Q : Unit → Shared → Prop} {X : String} {frs new T : List (Addr × Obj)}
    (hfr : A₀.frames = some l) (Fs : Frs l frs) (hx : Heap.NewExc h s'.heap e X) (F : Fr hb L h m) (N : News hb L h (new ++ (T ++ frs))) (ho : AllOff frs new) (hT : ∀ p ∈ T, ∀ q ∈ frs, p.1 ≠ q.1)
    (k : ∀ h' frs', SameUp frs frs' → Frs l frs' → TT.HeldN hb L h' m e X (new ++ (T ++ frs')) → Q () { s' with heap := h' }) (hk : scope.kind = .function := by rfl) :
    wpAny (model Pg w) (A₀.deeper (envOf name scope L a cd)) (noteFrame (.ref e) (envOf name scope L a cd)) Q E s' := by
  rw [← List.append_assoc] at N
  refine TLg.noted_newA hfr Fs hx F N (fun p hp hm => ?_) (fun h' frs' su fs H => k h' frs' su fs (by rw [← List.append_assoc]; exact H)) hk
  rcases List.mem_cons.mp hm with e | hm
  · exact (N p (List.mem_append_left _ hp)).2.1 e
  · obtain ⟨q, hq, e⟩ := List.mem_map.mp hm
    rcases List.mem_append.mp hp with hp | hp
    · exact ho.mem p hp q hq e.symm
    · exact hT p hp q hq e.symm
end
theorem TurnTo.cont {h₀ h' : Heap} {L I : Addr} {own led' : List (Addr × Obj)} {J : (Str → Option Value) → List (Addr × Obj) → Prop} {s₁ : Shared} {Q : Flow → Shared → Prop} {m' : Str → Option Value} {tk : Nat}
    (F : Fr h₀ L h' m') (N : News h₀ L h' (led' ++ own)) (hI : ∀ p ∈ led', p.1 ≠ I) (hJ : J m' led') : TurnTo h₀ L I own J s₁ Q .cont { s₁ with heap := h', toks := tk } := ⟨h', tk, m', led', rfl, F, N, hI, hJ⟩
theorem cross_up {a frs frs' : List (Addr × Obj)} (SU : SameUp frs frs') (h : ∀ p ∈ a, ∀ q ∈ frs, p.1 ≠ q.1) : ∀ p ∈ a, ∀ q ∈ frs', p.1 ≠ q.1 := fun p hp q hq => by
  obtain ⟨x, hx, e⟩ := SU.fwd q hq
  rw [e]
  exact h p hp x hx
/-- where the search's own things lie: apart from each other and from all else -/
noncomputable def AP (OT : List (Addr × Obj)) (as : List Addr) : Prop := as.Nodup ∧ ∀ a ∈ as, ∀ q ∈ OT, q.1 ≠ a
noncomputable def addrs (its : List It) : List Addr := its.flatMap fun r => [r.I, r.M]
theorem addrs_snoc (rs : List It) (r : It) : addrs (rs ++ [r]) = addrs rs ++ [r.I, r.M] := by simp [addrs]
theorem itF_addr {rs : List It} {p : Addr × Obj} (hp : p ∈ itF rs) : p.1 ∈ addrs rs := by
  obtain ⟨r, hr, hp⟩ := List.mem_flatMap.mp hp
  refine List.mem_flatMap.mpr ⟨r, hr, ?_⟩
  simp only [List.mem_cons, List.mem_nil_iff, or_false] at hp ⊢
  rcases hp with rfl | rfl <;> simp
theorem addrs_itF {rs : List It} {a : Addr} (ha : a ∈ addrs rs) : ∃ p ∈ itF rs, p.1 = a := by
  obtain ⟨r, hr, ha⟩ := List.mem_flatMap.mp ha
  simp only [List.mem_cons, List.mem_nil_iff, or_false] at ha
  rcases ha with rfl | rfl
  · exact ⟨itI r, List.mem_flatMap.mpr ⟨r, hr, by simp⟩, rfl⟩
  · exact ⟨itM r, List.mem_flatMap.mpr ⟨r, hr, by simp⟩, rfl⟩
theorem al4 {P : Addr → Prop} {a b c d : Addr} {l : List Addr} (h1 : P a) (h2 : P b) (h3 : P c) (h4 : P d) (h : ∀ x ∈ l, P x) : ∀ x ∈ a :: b :: c :: d :: l, P x := fun x hx => by
  cases hx with
  | head => exact h1
  | tail _ hx => cases hx with
    | head => exact h2
    | tail _ hx => cases hx with
      | head => exact h3
      | tail _ hx => cases hx with
        | head => exact h4
        | tail _ hx => exact h x hx
theorem AP.four {OT : List (Addr × Obj)} {a b c d : Addr} (h1 : @LT.lt Nat _ b a) (h2 : @LT.lt Nat _ c b) (h3 : @LT.lt Nat _ d c) (o1 : ∀ q ∈ OT, q.1 ≠ a) (o2 : ∀ q ∈ OT, q.1 ≠ b) (o3 : ∀ q ∈ OT, q.1 ≠ c) (o4 : ∀ q ∈ OT, q.1 ≠ d) : AP OT [a, b, c, d] := by
  refine ⟨?_, al4 o1 o2 o3 o4 fun _ h => nomatch h⟩
  have e1 : a ≠ b := Nat.ne_of_gt h1
  have e2 : a ≠ c := Nat.ne_of_gt (Nat.lt_trans h2 h1)
  have e3 : a ≠ d := Nat.ne_of_gt (Nat.lt_trans h3 (Nat.lt_trans h2 h1))
  have e4 : b ≠ c := Nat.ne_of_gt h2
  have e5 : b ≠ d := Nat.ne_of_gt (Nat.lt_trans h3 h2)
  have e6 : c ≠ d := Nat.ne_of_gt h3
  simp [e1, e2, e3, e4, e5, e6]
theorem AP.more {OT : List (Addr × Obj)} {as : List Addr} {x : Addr × Obj} (h : AP OT as) (hx : ∀ a ∈ as, x.1 ≠ a) : AP (x :: OT) as := ⟨h.1, fun a ha q hq => by
  cases hq with
  | head => exact hx a ha
  | tail _ hq => exact h.2 a ha q hq⟩
theorem ne_cons {a : Addr} {x : Addr × Obj} {l : List (Addr × Obj)} (h : x.1 ≠ a) (hl : ∀ p ∈ l, p.1 ≠ a) : ∀ p ∈ x :: l, p.1 ≠ a := fun p hp => by
  cases hp with
  | head => exact h
  | tail _ hp => exact hl p hp
theorem AP.push {OT : List (Addr × Obj)} {as : List Addr} {I M : Addr} (h : AP OT as) (h1 : ∀ a ∈ as, a ≠ I) (h2 : ∀ a ∈ as, a ≠ M) (h3 : I ≠ M) (h4 : ∀ q ∈ OT, q.1 ≠ I) (h5 : ∀ q ∈ OT, q.1 ≠ M) : AP OT (as ++ [I, M]) := by
  refine ⟨?_, fun a ha q hq => ?_⟩
  · rw [List.nodup_append]
    refine ⟨h.1, by simp [h3], fun a ha b hb => ?_⟩
    simp only [List.mem_cons, List.mem_nil_iff, or_false] at hb
    rcases hb with rfl | rfl
    · exact h1 a ha
    · exact h2 a ha
  · rcases List.mem_append.mp ha with ha | ha
    · exact h.2 a ha q hq
    · simp only [List.mem_cons, List.mem_nil_iff, or_false] at ha
      rcases ha with rfl | rfl
      · exact h4 q hq
      · exact h5 q hq
theorem CyOK.its {w : World} {succ : Nat → Option Nat} {p : List Nat} {its its' : List It} {us : List Value} {kvs : List (Int × Value)} {sl : List Nat} {S : Int → Bool} {oN oS : Obj} (C : CyOK w succ p its us kvs sl S oN oS) (h : its'.length = its.length) : CyOK w succ p its' us kvs sl S oN oS :=
  ⟨C.ius, h.trans C.len, C.dN, C.keys, C.vals, C.dS, C.mem, C.nds, C.lts, C.ndp, C.sub, C.off⟩
theorem AP.sub {OT : List (Addr × Obj)} {a b c d I M : Addr} {as : List Addr} (h : AP OT (a :: b :: c :: d :: (as ++ [I, M]))) : AP OT (a :: b :: c :: d :: as) :=
  ⟨h.1.sublist (.cons₂ _ (.cons₂ _ (.cons₂ _ (.cons₂ _ (List.sublist_append_left _ _))))), fun x hx => h.2 x (by refine memIn ?_ hx; top_name)⟩
theorem nil_or_snoc {α : Type} (l : List α) : l = [] ∨ ∃ L b, l = L ++ [b] := by
  rcases List.eq_nil_or_concat l with h | ⟨L, b, h⟩
  · exact .inl h
  · exact .inr ⟨L, b, by rw [h, List.concat_eq_append]⟩
theorem nn {a x : Addr} {l : List Addr} (n : a ∉ l) (hx : x ∈ l) : a ≠ x := fun e => n (e ▸ hx)
inductive APTop (its0 : List It) (a b c d I M : Addr) : Prop
  | mk (f1 : a ≠ I) (f2 : b ≠ I) (f3 : c ≠ I) (f4 : d ≠ I) (f5 : M ≠ I) (f6 : a ≠ M) (f7 : b ≠ M) (f8 : c ≠ M) (f9 : d ≠ M) (f10 : a ≠ b) (f11 : a ≠ c) (f12 : a ≠ d) (f13 : b ≠ c) (f14 : b ≠ d) (f15 : c ≠ d) (f16 : ∀ x ∈ addrs its0, x ≠ I ∧ x ≠ M ∧ x ≠ a ∧ x ≠ b ∧ x ≠ c ∧ x ≠ d)
theorem AP.top {OT : List (Addr × Obj)} {its0 : List It} {a b c d I M : Addr} (h : AP OT (a :: b :: c :: d :: (addrs its0 ++ [I, M]))) : APTop its0 a b c d I M := by
  obtain ⟨na, h1⟩ := List.nodup_cons.mp h.1
  obtain ⟨nb, h2⟩ := List.nodup_cons.mp h1
  obtain ⟨nc, h3⟩ := List.nodup_cons.mp h2
  obtain ⟨nd, h4⟩ := List.nodup_cons.mp h3
  obtain ⟨_, h5, h6⟩ := List.nodup_append.mp h4
  have mI : I ∈ addrs its0 ++ [I, M] := List.mem_append_right _ (.head _)
  have mM : M ∈ addrs its0 ++ [I, M] := List.mem_append_right _ (.tail _ (.head _))
  have mx : ∀ x ∈ addrs its0, x ∈ addrs its0 ++ [I, M] := fun x hx => List.mem_append_left _ hx
  exact .mk (nn na (.tail _ (.tail _ (.tail _ mI)))) (nn nb (.tail _ (.tail _ mI))) (nn nc (.tail _ mI)) (nn nd mI) (Ne.symm (nn (List.nodup_cons.mp h5).1 (.head _)))
    (nn na (.tail _ (.tail _ (.tail _ mM)))) (nn nb (.tail _ (.tail _ mM))) (nn nc (.tail _ mM)) (nn nd mM) (nn na (.head _)) (nn na (.tail _ (.head _))) (nn na (.tail _ (.tail _ (.head _)))) (nn nb (.head _)) (nn nb (.tail _ (.head _))) (nn nc (.head _))
    fun x hx => ⟨h6 x hx I (.head _), h6 x hx M (.tail _ (.head _)), Ne.symm (nn na (.tail _ (.tail _ (.tail _ (mx x hx))))), Ne.symm (nn nb (.tail _ (.tail _ (mx x hx)))), Ne.symm (nn nc (.tail _ (mx x hx))), Ne.symm (nn nd (mx x hx))⟩
section
variable {w : World} {dp un : Nat} {l : List Env} {gd : Option (List Code)} {h₀ : Heap} {s : Shared}
local macro_rules | `(tactic| walk_at "call builtin:iter") => `(tactic| (k_here; refine lst_iter (by k_asm) (by k_asm) (by k_mem) ?_; intro I' h' F' N' l1; have l2 := l1; simp only [List.forall_mem_cons] at l2; obtain ⟨j1, j2, j3, j4, _⟩ := l2; (try k_sweep)))
local macro_rules | `(tactic| walk_at "getAttr ref") => `(tactic| (k_here; (with_reducible show wpAny _ _ (getAttr (Value.ref _) (PySem.Str.ofString "__next__") _) _ _ _); refine li_next (by k_asm) (by k_asm) (by k_mem) ?_; intro M' h' tk' F' N' l1; have l2 := l1; simp only [List.forall_mem_cons] at l2; obtain ⟨j0, j1, j2, j3, j4, _⟩ := l2; (try k_sweep)))
local macro_rules | `(tactic| walk_at "noteFrame ref") => `(tactic| (k_here; (rename Heap.NewExc _ _ _ _ => xX); k_dflt (refine noted_y (new := [_, _, _, _, _, _, _]) rfl (by assumption) xX (by k_asm) (by k_asm) ⟨by assumption, by assumption, by assumption, by assumption, by assumption, by assumption, by assumption, trivial⟩ (by assumption) ?_); clear xX; intro h' frs' su' fs' ttN; (try simp only [List.cons_append, List.nil_append] at ttN)))
local macro_rules | `(tactic| walk_at "delItem ref int") => `(tactic| (k_here; k_dflt (refine' kob_del (knd := PySem.intKind _ _) ?F ?N ?U ?d (intKind_is _ _ _ _) ?l ?z ?_; (case F => k_asm); (case N => k_asm); (case U => k_updF); (case d => k_asm); (case l => assumption); (case z => assumption)); intro h' o' F' N' hd'; (try dsimp only at N')))
inductive CyA (w : World) (succ : Nat → Option Nat) (BG frs : List (Addr × Obj)) (stk itk sn n2s dn : Addr) (i : Nat) : (Str → Option Value) → List (Addr × Obj) → Prop
  | mk {m : Str → Option Value} (oN oS : Obj) (sl : List Nat) (S : Int → Bool) (n1 n2 : Nat) (frs' : List (Addr × Obj)) (m1 : m (Str.ofString "stack") = some (.ref stk)) (m2 : m (Str.ofString "itstack") = some (.ref itk)) (m3 : m (Str.ofString "seen") = some (.ref sn)) (m4 : m (Str.ofString "node2stacki") = some (.ref n2s)) (m5 : m (Str.ofString "n2i") = some (.ref dn))
    (C : CyOK w succ [] [] [] [] sl S oN oS) (hsub : ∀ j, j < i → j ∈ sl) (SU : SameUp frs frs') : CyA w succ BG frs stk itk sn n2s dn i m ((n2s, oN) :: (sn, oS) :: (itk, W.listOf (List.toArray (refsOf [])) n1) :: (stk, W.listOf (List.toArray []) n2) :: (BG ++ frs'))
inductive CyB (w : World) (succ : Nat → Option Nat) (BI frs : List (Addr × Obj)) (stk itk sn n2s dn : Addr) (i : Nat) : Nat → (Str → Option Value) → List (Addr × Obj) → Prop
  | mk {n : Nat} {m : Str → Option Value} (cur : Nat) (tc : Tok) (p : List Nat) (its : List It) (us : List Value) (kvs : List (Int × Value)) (sl : List Nat) (S : Int → Bool) (oN oS : Obj) (n1 n2 : Nat) (frs' : List (Addr × Obj)) (m1 : m (Str.ofString "node") = some (.int (cur : Nat) tc)) (m2 : m (Str.ofString "stack") = some (.ref stk)) (m3 : m (Str.ofString "itstack") = some (.ref itk)) (m4 : m (Str.ofString "seen") = some (.ref sn)) (m5 : m (Str.ofString "node2stacki") = some (.ref n2s)) (m6 : m (Str.ofString "n2i") = some (.ref dn))
    (C : CyOK w succ p its us kvs sl S oN oS) (hP : Path succ p cur) (hc : cur < 12) (hn : n + sl.length = 12) (hsub : ∀ j, j < i → j ∈ sl) (hii : i ∈ sl ∨ cur = i) (HA : AP (BI ++ frs) (n2s :: sn :: itk :: stk :: addrs its)) (hend : ∀ r ∈ its, AtEnd BI r) (SU : SameUp frs frs') :
    CyB w succ BI frs stk itk sn n2s dn i n m ((n2s, oN) :: (sn, oS) :: (itk, W.listOf (List.toArray (refsOf its)) n1) :: (stk, W.listOf (List.toArray us) n2) :: ((itF its ++ BI) ++ frs'))
inductive CyM (w : World) (succ : Nat → Option Nat) (B0 : Heap) (L : Addr) (BI frs : List (Addr × Obj)) (stk itk sn n2s dn : Addr) (i n9 : Nat) (s : Shared) : Shared → Prop
  | mk (h : Heap) (tk : Nat) (m : Str → Option Value) (cur : Nat) (tc : Tok) (p : List Nat) (its : List It) (us : List Value) (kvs : List (Int × Value)) (sl : List Nat) (S : Int → Bool) (oN oS : Obj) (n1 n2 : Nat) (frs' : List (Addr × Obj)) (F : Fr B0 L h m) (N : News B0 L h ((n2s, oN) :: (sn, oS) :: (itk, W.listOf (List.toArray (refsOf its)) n1) :: (stk, W.listOf (List.toArray us) n2) :: ((itF its ++ BI) ++ frs')))
    (m1 : m (Str.ofString "node") = some (.int (cur : Nat) tc)) (m2 : m (Str.ofString "stack") = some (.ref stk)) (m3 : m (Str.ofString "itstack") = some (.ref itk)) (m4 : m (Str.ofString "seen") = some (.ref sn)) (m5 : m (Str.ofString "node2stacki") = some (.ref n2s)) (m6 : m (Str.ofString "n2i") = some (.ref dn))
    (h12 : n9 ≤ 12) (hsub : ∀ j, j < i → j ∈ sl) (hii : i ∈ sl) (HA : AP (BI ++ frs) (n2s :: sn :: itk :: stk :: addrs its)) (SU : SameUp frs frs') (C : CyOK w succ p its us kvs sl S oN oS)
    (kind : (∃ its0 r j tj sc nn, its = its0 ++ [r] ∧ (r.l, W.listOf (List.toArray sc) nn) ∈ BI ∧ sc[r.i]? = some (Value.int (j : Nat) tj) ∧ sc.length ≤ r.i + 1 ∧ j < 12 ∧ Path succ p j ∧ (∀ r ∈ its0, AtEnd BI r) ∧ sl.length + n9 = 13) ∨ ((∀ r ∈ its, AtEnd BI r) ∧ ∀ k ∈ sl, Term succ k)) :
    CyM w succ B0 L BI frs stk itk sn n2s dn i n9 s { s with heap := h, toks := tk }
inductive CyC (w : World) (succ : Nat → Option Nat) (BI frs : List (Addr × Obj)) (stk itk sn n2s dn : Addr) (sl : List Nat) (S : Int → Bool) (oS : Obj) : Nat → (Str → Option Value) → List (Addr × Obj) → Prop
  | mk {m : Str → Option Value} (cur : Nat) (tc : Tok) (p : List Nat) (its : List It) (us : List Value) (kvs : List (Int × Value)) (oN : Obj) (n1 n2 : Nat) (frs' : List (Addr × Obj)) (m1 : m (Str.ofString "node") = some (.int (cur : Nat) tc)) (m2 : m (Str.ofString "stack") = some (.ref stk)) (m3 : m (Str.ofString "itstack") = some (.ref itk)) (m4 : m (Str.ofString "seen") = some (.ref sn)) (m5 : m (Str.ofString "node2stacki") = some (.ref n2s)) (m6 : m (Str.ofString "n2i") = some (.ref dn))
    (C : CyOK w succ p its us kvs sl S oN oS) (HA : AP (BI ++ frs) (n2s :: sn :: itk :: stk :: addrs its)) (hend : ∀ r ∈ its, AtEnd BI r) (SU : SameUp frs frs') {n : Nat} (hn : n = its.length) :
    CyC w succ BI frs stk itk sn n2s dn sl S oS n m ((n2s, oN) :: (sn, oS) :: (itk, W.listOf (List.toArray (refsOf its)) n1) :: (stk, W.listOf (List.toArray us) n2) :: ((itF its ++ BI) ++ frs'))
theorem cycle_tell (x dx dn rl : Addr) (o : Obj) (t0 t1 t2 t3 tp tf : Tok) (pa fi : Int) (us : List Value) (n : Nat) (nd : Nat → Nd) (succ : Nat → Option Nat) (fm frs : List (Addr × Obj)) (hfm : fm = fam nd (List.range 12)) (ho : o.IsDictOf (intKind Pg w) (kvsOf nd 12))
    (hsc : ∀ k, k < 12 → IntsAre (nd k).sc (zs (succ k).toList)) (hlt : ∀ k j, succ k = some j → j < 12) (hdn : (dn == sysModules) = false)
    (hap : Apart (sortL w.params x dx dn rl o t0 t1 t2 t3 tp tf pa fi us n ++ fm ++ frs)) (hdp : dp + 8 < recursionLimit) :
    TellX w dp l gd un h₀ s (sortL w.params x dx dn rl o t0 t1 t2 t3 tp tf pa fi us n ++ fm) frs (call (.ref 127) [.ref x])
      (fun r new => (r = .none ∧ (∀ k, k < 12 → Term succ k) ∧ new = sortL w.params x dx dn rl o t0 t1 t2 t3 tp tf pa fi us n ++ fm) ∨
        (∃ D vs nn, r = .ref D ∧ 0 < vs.length ∧ vs.length ≤ 20 ∧ (∃ k, k < 12 ∧ ¬ Term succ k) ∧ new = (D, W.listOf (List.toArray vs) nn) :: (sortL w.params x dx dn rl o t0 t1 t2 t3 tp tf pa fi us n ++ fm) ∧ ∀ p ∈ sortL w.params x dx dn rl o t0 t1 t2 t3 tp tf pa fi us n ++ fm, p.1 ≠ D)) := by
  intro Fs rest Q E S O D hapR hQ
  refine wpAny_call (enter S O (D.sub (List.subset_append_left _ _)) (by k_is) (by k_is) (by omega) (binds := [(Str.ofString "self", .ref x)]) (BindsTo.of_eq rfl) (locs rfl) ?_ rfl rfl rfl (by decide))
  intro L h₁ mean mg mb X T F N
  obtain ⟨BG, hBG⟩ : ∃ BG, BG = sortL w.params x dx dn rl o t0 t1 t2 t3 tp tf pa fi us n ++ fm := ⟨_, rfl⟩
  have b1 : (x, instObj 137 dx) ∈ BG := by rw [hBG]; simp [sortL]
  have b2 : (dx, sortD w.params t0 t1 t2 t3 (.ref dn) (.ref rl) (.int pa tp) (.int fi tf)) ∈ BG := by rw [hBG]; simp [sortL]
  have b3 : (dn, o) ∈ BG := by rw [hBG]; simp [sortL]
  have b4 : ∀ k, k < 12 → ndY k (nd k) ∈ BG ∧ ndD (nd k) ∈ BG ∧ ndL (nd k) ∈ BG := fun k hk => by
    have := (fam_perm (nd := nd) hk).symm.subset
    rw [← hfm] at this
    have a1 := this (List.mem_cons_self)
    have a2 := this (List.mem_cons_of_mem _ List.mem_cons_self)
    have a3 := this (List.mem_cons_of_mem _ (List.mem_cons_of_mem _ List.mem_cons_self))
    rw [hBG]
    exact ⟨List.mem_append_right _ a1, List.mem_append_right _ a2, List.mem_append_right _ a3⟩
  rw [← hBG] at hap F N D hQ hapR X T
  clear hfm
  have N0 : News (under s.heap (BG ++ frs)) L h₁ ((x, instObj 137 dx) :: (dx, sortD w.params t0 t1 t2 t3 (.ref dn) (.ref rl) (.int pa tp) (.int fi tf)) :: (BG ++ frs)) := fun p hp => N p (by
    rcases List.mem_cons.mp hp with rfl | hp
    · exact List.mem_append_left _ b1
    · rcases List.mem_cons.mp hp with rfl | hp
      · exact List.mem_append_left _ b2
      · exact hp)
  clear N
  unfold sortD at N0
  repeat' (first | ((with_reducible show wpAny _ _ (exec (Stmt.For (Expr.Name _ _) (Expr.Name _ _) _ _ _) _) _ _ _); with_unfolding_all refine for_hold ‹Fr _ _ _ _› rfl rfl ?_) | top_args)
  rename Fr _ _ _ _ => F2
  rename News _ _ _ _ => N2
  rename_i stk _ l1 _ _ itk _ l2 _ _ sn _ ledb hs _ l3 _ _ n2s _ oN0 lo _ _ hi _ l4 _
  have os1 := off_lt l1.2.2
  have os2 := off_lt l2.2.2.2
  have os3 := off_lt l3.2.2.2.2
  have os4 := off_lt l4.2.2.2.2.2
  have AP0 : AP (BG ++ frs) [n2s, sn, itk, stk] := .four l4.1 l3.1 l2.1 os4 os3 os2 os1
  clear os1 os2 os3 os4 l1 l2 l3 l4
  have N3 : News (under s.heap (BG ++ frs)) L _ ((n2s, oN0) :: (sn, ({ cls := Value.type "set", data := Data.set #[] 0 (SetTable.fresh 0 0 ledb) } : Obj)) :: (itk, W.listOf (List.toArray (refsOf [])) 0) :: (stk, W.listOf (List.toArray []) 0) :: (BG ++ frs)) := fun p hp => N2 p (by revert p; top_name)
  refine loop_dictE (led := (n2s, oN0) :: (sn, ({ cls := Value.type "set", data := Data.set #[] 0 (SetTable.fresh 0 0 ledb) } : Obj)) :: (itk, W.listOf (List.toArray (refsOf [])) 0) :: (stk, W.listOf (List.toArray []) 0) :: (BG ++ frs)) ho hdn (by top_raise0) F2 N3 rfl (fun i m led => CyA w succ BG frs stk itk sn n2s dn i m led) ?_ ?_ ?_
  · exact .mk oN0 _ [] (fun _ => false) 0 0 frs rfl rfl rfl rfl rfl ⟨.nil, rfl, hi, rfl, (fun _ h => nomatch h), hs, (fun _ => by simp), .nil, (fun _ h => nomatch h), .nil, (fun _ h => nomatch h), (fun _ h => nomatch h)⟩ (fun j hj => absurd hj (Nat.not_lt_zero _)) (SameUp.refl _)
  · intro I i z x' v m₁ led₁ h₁ tk₁ oI hI hi1 hv hv2 hZ0 hoI F N
    refine byProp fun Pz hPz => ?_
    obtain ⟨oN, oS, sl, S, n1, n2, frs', m1, m2, m3, m4, m5, C, hsub, SU⟩ := hZ0
    have hi12 : i < 12 := by simpa [kvs_len] using hi1
    obtain rfl : z = (i : Int) := by
      simp [kvsOf, hi12] at hv
      exact hv.1.symm
    obtain ⟨t, rfl⟩ := Value.isInt_shape hv2
    clear F2 N2
    first | replace F := fr_at (at1s m1 (at1s m2 (at1s m3 (at1s m4 (at1s m5 rfl))))) F | replace F := fr_at (at1c (at1s m1 (at1s m2 (at1s m3 (at1s m4 (at1s m5 rfl)))))) F
    try dsimp only at F
    have hlS := C.lenS
    have hdS := C.dS
    have hdN := C.dN
    obtain ⟨BI, hBI⟩ : ∃ BI, BI = (I, oI) :: BG := ⟨_, rfl⟩
    have hbi : ∀ p ∈ BG, p ∈ BI := fun p hp => hBI ▸ .tail _ hp
    have N0 : News (under s.heap (BG ++ frs)) L h₁ ((n2s, oN) :: (sn, oS) :: (itk, W.listOf (List.toArray (refsOf [])) n1) :: (stk, W.listOf (List.toArray []) n2) :: (BI ++ frs')) := fun p hp => N p (by
      rw [hBI] at hp; revert p; top_name)
    clear N
    have AP1 : AP (BI ++ frs) [n2s, sn, itk, stk] := by
      rw [hBI]
      exact AP0.more (al4 (Ne.symm (hoI (n2s, oN) (by top_raise0))) (Ne.symm (hoI (sn, oS) (by top_raise0))) (Ne.symm (hoI (itk, W.listOf (List.toArray (refsOf [])) n1) (by top_raise0))) (Ne.symm (hoI (stk, W.listOf (List.toArray []) n2) (by top_raise0))) fun _ h => nomatch h)
    have hIB : ∀ p ∈ BG ++ frs, p.1 ≠ I := fun p hp => by
      rcases List.mem_append.mp hp with hp | hp
      · exact hoI p (by simp [hp])
      · obtain ⟨sl9, hq'⟩ := SU.back p hp
        exact hoI (p.1, ({ p.2 with slots := sl9 } : Obj)) (by simp only [List.mem_cons, List.mem_append]; exact .inr (.inr (.inr (.inr (.inr hq')))))
    have hTF : ∀ p ∈ BI, ∀ q ∈ frs, p.1 ≠ q.1 := fun p hp q hq => by
      rw [hBI] at hp
      rcases List.mem_cons.mp hp with rfl | hp
      · obtain ⟨sl9, hq'⟩ := SU.back q hq
        exact fun e => hoI (q.1, ({ q.2 with slots := sl9 } : Obj)) (by simp only [List.mem_cons, List.mem_append]; exact .inr (.inr (.inr (.inr (.inr hq'))))) e.symm
      · exact Apart.cross hap p hp q hq
    have z1 := AP1.2 n2s (by first | top_raise0 | simp)
    have z2 := AP1.2 sn (by first | top_raise0 | simp)
    have z3 := AP1.2 itk (by first | top_raise0 | simp)
    have z4 := AP1.2 stk (by first | top_raise0 | simp)
    have y1 := off_app SU z1
    have y2 := off_app SU z2
    have y3 := off_app SU z3
    have y4 := off_app SU z4
    have nd1 := AP1.1
    simp only [List.nodup_cons, List.mem_cons, List.mem_nil_iff, or_false, not_or] at nd1
    obtain ⟨⟨e1, e2, e3⟩, ⟨e4, e5⟩, e6, _⟩ := nd1
    refine hPz ?_
    clear hPz Pz
    by_cases hin : i ∈ sl
    · have hSk : S (i : Int) = true := by rw [C.mem]; simpa using hin
      k_steps
      rename Fr _ _ _ _ => F4
      rename News _ _ _ _ => N4
      refine TurnTo.cont (led' := (n2s, oN) :: (sn, oS) :: (itk, W.listOf (List.toArray (refsOf [])) n1) :: (stk, W.listOf (List.toArray []) n2) :: (BG ++ frs')) F4 (fun p hp => N4 p ?_) hoI (.mk oN oS sl S n1 n2 frs' rfl rfl rfl rfl rfl C (fun j hj => ?_) SU)
      · rw [hBI]; revert p; top_name
      · rcases Nat.lt_succ_iff_lt_or_eq.mp hj with h | rfl
        · exact hsub j h
        · exact hin
    · have hSk : S (i : Int) = false := by rw [C.mem]; simpa using hin
      repeat' (first | ((with_reducible show wpAny _ _ (exec (Stmt.While (Expr.Constant ..) ..) _) _ _ _); refine while_hold 0 ?_) | top_args)
      rename Fr _ _ _ _ => F4
      rename News _ _ _ _ => N4
      refine whl_inv s (under s.heap (BG ++ frs)) L ?hE (fun n m led => CyB w succ BI frs stk itk sn n2s dn i n m led) ?_ (12 - sl.length) _ _ h₁ _ 0 ?_ F4 N4
      case hE => exact PassesOwn.leaving
      · clear F4 N4 hoI y1 y2 y3 y4 hdS hdN hlS C hSk hin hsub SU oN oS S sl n1 n2 frs'
        intro n9 m led h tk hZ0 F N
        refine byProp fun Pz hPz => ?_
        obtain ⟨cur, tc, p, its, us, kvs, sl, S, oN, oS, n1, n2, frs', m1, m2, m3, m4, m5, m6, C, hP, hc12, hn9, hsub, hii, HA, hend, SU⟩ := hZ0
        first | replace F := fr_at (at1s m1 (at1s m2 (at1s m3 (at1s m4 (at1s m5 (at1s m6 rfl)))))) F | replace F := fr_at (at1c (at1s m1 (at1s m2 (at1s m3 (at1s m4 (at1s m5 (at1s m6 rfl))))))) F
        try dsimp only at F
        obtain ⟨TL, hTL⟩ : ∃ TL, TL = itF its ++ BI := ⟨_, rfl⟩
        have hlS := C.lenS
        have hlP := C.lenP
        have hlU := C.lenU
        have hdS := C.dS
        have hdN := C.dN
        have hiu := C.ius
        have off1 : ∀ a ∈ [n2s, sn, itk, stk], ∀ q ∈ TL ++ frs', q.1 ≠ a := fun a ha q hq => by
          have ha' : a ∈ n2s :: sn :: itk :: stk :: addrs its := List.mem_append_left (addrs its) ha
          rcases List.mem_append.mp hq with hq | hq
          · rw [hTL] at hq
            rcases List.mem_append.mp hq with hq | hq
            · intro e
              have h1 : ([n2s, sn, itk, stk] ++ addrs its).Nodup := HA.1
              rw [List.nodup_append] at h1
              exact h1.2.2 a ha q.1 (itF_addr hq) e.symm
            · exact HA.2 a ha' q (List.mem_append_left _ hq)
          · exact off_app SU (fun q hq => HA.2 a ha' q hq) q (List.mem_append_right _ hq)
        have y1 := off1 n2s (by first | top_raise0 | simp)
        have y2 := off1 sn (by first | top_raise0 | simp)
        have y3 := off1 itk (by first | top_raise0 | simp)
        have y4 := off1 stk (by first | top_raise0 | simp)
        rw [← hTL] at N
        refine hPz ?_
        clear hPz Pz
        walk1
        walk1
        walk1
        refine WhlIf.yes rfl ?_
        refine execs_mid (fun s' => Hold (CyM w succ (under s.heap (BG ++ frs)) L BI frs stk itk sn n2s dn i n9 s s')) ?_ ?_
        · by_cases hcs : cur ∈ sl
          · have hSk : S (cur : Int) = true := by rw [C.mem]; simpa using hcs
            by_cases hcp : cur ∈ p
            · obtain ⟨i7, t7, hv7, hi7⟩ := (C.has cur).1 hcp
              have hv8 : (valueAt kvs (cur : Int)).isSome = true := by rw [hv7]; rfl
              have hP' := hP
              have hbt : ∀ p ∈ BG, p ∈ TL := fun p hp => by rw [hTL]; exact List.mem_append_right _ (hbi p hp)
              repeat' (first | ((with_reducible show wpAny _ _ (subscriptTail (Expr.Name _ _) (Expr.Name _ _) (Value.ref _) (Value.int _ _)) _ _ _); with_unfolding_all refine kda_item (knd := PySem.intKind _ _) (by k_asm) (by k_mem) (by assumption) (intKind_is _ _ _ _) (by assumption) ?_) | ((with_reducible show wpAny _ _ (compareOp CmpOp.In (Value.int _ _) (Value.ref _)) _ _ _); refine kda_in (knd := PySem.intKind _ _) (by k_asm) (by k_mem) (by assumption) (by assumption) (intKind_is _ _ _ _) _ (by assumption) ?_) | top_args)
              show Q (.ref _) _
              rename Fr _ _ _ _ => F4
              rename News _ _ _ _ => N4
              rename_i D9 ws9 _ hI9 l9
              have o9 := off_lt l9.2.2.2.2.2.2
              refine fin O D hapR hQ ((D9, W.listOf ws9.toArray 0) :: BG ++ frs') ⟨(D9, W.listOf ws9.toArray 0) :: BG, frs', rfl, SU, ?_, .inr ⟨D9, ws9, 0, rfl, ?_, ?_, ⟨cur, hc12, ?_⟩, rfl, fun p hp => o9 p (List.mem_append_left _ (hbt p hp))⟩⟩ F4 N4 (fun p hp => ?_)
              · intro p hp q hq
                rcases List.mem_cons.mp hp with rfl | hp
                · exact Ne.symm (o9 q (List.mem_append_right _ hq))
                · exact cross_up SU hTF p (hbi p hp) q hq
              · rw [hI9.length]; simp
              · rw [hI9.length]; simp [zs]; omega
              · obtain ⟨m9, hm9⟩ := path_walk hP' cur hcp
                exact ring_never hm9
              · revert p; top_name
            · have hv7 := (C.has cur).2 hcp
              have hv8 : (valueAt kvs (cur : Int)).isSome = false := by rw [hv7]; rfl
              have hT : ∀ k ∈ sl, Term succ k := fun k hk => by
                by_cases hkp : k ∈ p
                · exact path_term hP (C.off cur hcs hcp) k hkp
                · exact C.off k hk hkp
              have hii' : i ∈ sl := hii.elim id fun e => e ▸ hcs
              repeat' (first | ((with_reducible show wpAny _ _ (compareOp CmpOp.In (Value.int _ _) (Value.ref _)) _ _ _); refine kda_in (knd := PySem.intKind _ _) (by k_asm) (by k_mem) (by assumption) (by assumption) (intKind_is _ _ _ _) _ (by assumption) ?_) | top_args)
              rename Fr _ _ _ _ => F4
              rename News _ _ _ _ => N4
              rw [hTL] at N4
              exact .mk _ _ _ cur tc p its us kvs sl S oN oS n1 n2 frs' F4 N4 rfl rfl rfl rfl rfl rfl (by omega) hsub hii' HA SU C (.inr ⟨hend, hT⟩)
          · have hSk : S (cur : Int) = false := by rw [C.mem]; simpa using hcs
            refine byProp fun Pz hPz => ?_
            obtain ⟨by1, by2, by3⟩ := b4 cur hc12
            have hsk := hsc cur hc12
            have hkv : valueAt (kvsOf nd 12) (cur : Int) = some (.ref (nd cur).y) := kvs_at hc12
            obtain ⟨yk, dk, lk, t1k, t2k, npk, sck, nk, hndk⟩ : ∃ yk dk lk t1k t2k npk sck nk, nd cur = ⟨yk, dk, lk, t1k, t2k, npk, sck, nk⟩ := ⟨_, _, _, _, _, _, _, _, rfl⟩
            simp only [hndk] at by1 by2 by3 hsk hkv
            have hbt : ∀ p ∈ BG, p ∈ TL ++ frs' := fun p hp => List.mem_append_left _ (by rw [hTL]; exact List.mem_append_right _ (hbi p hp))
            have hdn1 := hbt _ b3
            have hy := hbt _ by1
            have hd := hbt _ by2
            have hl := hbt _ by3
            have N5 : News (under s.heap (BG ++ frs)) L h ((n2s, oN) :: (sn, oS) :: (itk, W.listOf (List.toArray (refsOf its)) n1) :: (stk, W.listOf us.toArray n2) :: (dn, o) :: (yk, infoObj dk (.int cur t1k) (.int npk t2k) (.ref lk)) :: (dk, emptyDict) :: (lk, W.listOf sck.toArray nk) :: (TL ++ frs')) := fun p hp => N p (by
              revert p; top_name)
            clear N
            have hzI : (refsOf its).length ≤ 1000 := by rw [refsOf, List.length_map, C.len]; omega
            have hzU : us.length ≤ 1000 := by omega
            have hkl : kvs.length ≤ 12 := by have := congrArg List.length C.keys; simp [zs] at this; omega
            have w00 := off1 n2s (by first | top_raise0 | simp) _ hdn1
            have w01 := off1 n2s (by first | top_raise0 | simp) _ hy
            have w02 := off1 n2s (by first | top_raise0 | simp) _ hd
            have w03 := off1 n2s (by first | top_raise0 | simp) _ hl
            have w10 := off1 sn (by first | top_raise0 | simp) _ hdn1
            have w11 := off1 sn (by first | top_raise0 | simp) _ hy
            have w12 := off1 sn (by first | top_raise0 | simp) _ hd
            have w13 := off1 sn (by first | top_raise0 | simp) _ hl
            have w20 := off1 itk (by first | top_raise0 | simp) _ hdn1
            have w21 := off1 itk (by first | top_raise0 | simp) _ hy
            have w22 := off1 itk (by first | top_raise0 | simp) _ hd
            have w23 := off1 itk (by first | top_raise0 | simp) _ hl
            have w30 := off1 stk (by first | top_raise0 | simp) _ hdn1
            have w31 := off1 stk (by first | top_raise0 | simp) _ hy
            have w32 := off1 stk (by first | top_raise0 | simp) _ hd
            have w33 := off1 stk (by first | top_raise0 | simp) _ hl
            refine hPz ?_
            clear hPz Pz
            repeat' (first | ((with_reducible show wpAny _ _ (subscriptTail (Expr.Name _ _) (Expr.Name _ _) (Value.ref _) (Value.int _ _)) _ _ _); with_unfolding_all refine kda_item (knd := PySem.intKind _ _) (by k_asm) (by k_mem) (by assumption) (intKind_is _ _ _ _) (by assumption) ?_) | ((with_reducible show wpAny _ _ (setItem (Value.ref _) (Value.int _ _) _) _ _ _); refine kda_set (knd := PySem.intKind _ _) ‹Fr _ _ _ _› ‹News _ _ _ _› (by k_updF) (by assumption) (intKind_is _ _ _ _) (by rw [sizeLine_eq]; omega) ?_; top_caught0) | ((with_reducible show wpAny _ _ (call (Value.builtin "list.append") _) _ _ _); refine li_append (by k_asm) (by k_asm) (by k_upd) (by assumption) ?_; top_caught0) | top_args)
            rename Fr _ _ _ _ => F4
            rename News _ _ _ _ => N4
            rename_i oS9 hS9 _ I9 _ lI9 a1 a2 a3 a4 rI9 M9 _ _ lM9 a0 c1 c2 c3 c4 rM9 _ _ oN9 hN9 _
            have tI := rI9.2.2.2.2
            have tM := rM9.2.2.2.2
            refine byProp fun Pz hPz => ?_
            obtain ⟨kvs9, S9, C9⟩ := C.push (t := tc) (r := ⟨M9, I9, lk, 0⟩) hc12 hcs (by simp [zs]; omega) hN9 hS9
            have hFA : ∀ q ∈ BI ++ frs, ∃ q' ∈ TL ++ frs', q'.1 = q.1 := fun q hq => by
              rcases List.mem_append.mp hq with hq | hq
              · exact ⟨q, List.mem_append_left _ (by rw [hTL]; exact List.mem_append_right _ hq), rfl⟩
              · obtain ⟨sl9, hq'⟩ := SU.back q hq
                exact ⟨_, List.mem_append_right _ hq', rfl⟩
            have hAA : ∀ a ∈ addrs its, ∃ q' ∈ TL ++ frs', q'.1 = a := fun a ha => by
              refine byProp fun Pz hPz => ?_
              obtain ⟨q, hq, e⟩ := addrs_itF ha
              refine hPz ?_
              clear hPz Pz
              exact ⟨q, List.mem_append_left _ (by rw [hTL]; exact List.mem_append_left _ hq), e⟩
            have HA9 : AP (BI ++ frs) (n2s :: sn :: itk :: stk :: addrs (its ++ [⟨M9, I9, lk, 0⟩])) := by
              rw [addrs_snoc]
              refine AP.push (as := n2s :: sn :: itk :: stk :: addrs its) HA (fun a ha => ?_) (fun a ha => ?_) (Nat.ne_of_lt a0) (fun q hq => ?_) (fun q hq => ?_)
              · exact al4 (P := fun a => a ≠ _) (Nat.ne_of_lt a1) (Nat.ne_of_lt a2) (Nat.ne_of_lt a3) (Nat.ne_of_lt a4) (fun a ha => by
                  obtain ⟨q, hq, rfl⟩ := hAA a ha
                  exact Nat.ne_of_lt (tI q hq)) a ha
              · exact al4 (P := fun a => a ≠ _) (Nat.ne_of_lt c1) (Nat.ne_of_lt c2) (Nat.ne_of_lt c3) (Nat.ne_of_lt c4) (fun a ha => by
                  obtain ⟨q, hq, rfl⟩ := hAA a ha
                  exact Nat.ne_of_lt (tM q hq)) a ha
              · obtain ⟨q', hq', e⟩ := hFA q hq
                rw [← e]; exact Nat.ne_of_lt (tI q' hq')
              · obtain ⟨q', hq', e⟩ := hFA q hq
                rw [← e]; exact Nat.ne_of_lt (tM q' hq')
            have N6 : News (under s.heap (BG ++ frs)) L _ ((n2s, oN9) :: (sn, oS9) :: (itk, W.listOf (List.toArray (refsOf (its ++ [⟨M9, I9, lk, 0⟩]))) (n1 + 1)) :: (stk, W.listOf (List.toArray (us ++ [.int cur tc])) (n2 + 1)) :: ((itF (its ++ [⟨M9, I9, lk, 0⟩]) ++ BI) ++ frs')) := fun p hp => N4 p (by
              rw [refs_snoc, itF_snoc] at hp
              rw [hTL]
              revert p; top_name)
            have hsub' : ∀ j, j < i → j ∈ cur :: sl := fun j hj => .tail _ (hsub j hj)
            have hii' : i ∈ cur :: sl := hii.elim (fun h => .tail _ h) fun e => e ▸ .head _
            have hlk : (lk, W.listOf (List.toArray sck) nk) ∈ BI := hbi _ by3
            refine hPz ?_
            clear hPz Pz
            cases hsu : succ cur with
            | none =>
              rw [hsu] at hsk
              obtain rfl : sck = [] := hsk.nil_inv
              have hend' : ∀ r ∈ its ++ [(⟨M9, I9, lk, 0⟩ : It)], AtEnd BI r := fun r hr => by
                rcases List.mem_append.mp hr with hr | hr
                · exact hend r hr
                · rw [List.mem_singleton.mp hr]; exact ⟨[], nk, hlk, Nat.le_refl _⟩
              have hT : ∀ k ∈ cur :: sl, Term succ k := fun k hk => by
                have hTc := term_none hsu
                rcases List.mem_cons.mp hk with rfl | hk
                · exact hTc
                · by_cases hkp : k ∈ p
                  · exact path_term hP hTc k hkp
                  · exact C.off k hk hkp
              exact .mk _ _ _ cur tc (p ++ [cur]) (its ++ [⟨M9, I9, lk, 0⟩]) (us ++ [.int cur tc]) kvs9 (cur :: sl) S9 oN9 oS9 (n1 + 1) (n2 + 1) frs' F4 N6 rfl rfl rfl rfl rfl rfl (by omega) hsub' hii' HA9 SU C9 (.inr ⟨hend', hT⟩)
            | some j =>
              rw [hsu] at hsk
              refine byProp fun Pz hPz => ?_
              obtain ⟨tj, vs9, rfl, hsk'⟩ := IntsAre.cons_inv (show IntsAre sck ((j : Int) :: []) from hsk)
              obtain rfl := hsk'.nil_inv
              refine hPz ?_
              clear hPz Pz
              exact .mk _ _ _ cur tc (p ++ [cur]) (its ++ [⟨M9, I9, lk, 0⟩]) (us ++ [.int cur tc]) kvs9 (cur :: sl) S9 oN9 oS9 (n1 + 1) (n2 + 1) frs' F4 N6 rfl rfl rfl rfl rfl rfl (by omega) hsub' hii' HA9 SU C9 (.inl ⟨its, ⟨M9, I9, lk, 0⟩, j, tj, _, nk, rfl, hlk, rfl, Nat.le_refl _, hlt cur j hsu, path_snoc hP hsu, hend, by simp; omega⟩)
        · intro s9 hZ0
          refine byProp fun Pz hPz => ?_
          obtain ⟨h, tk, m, cur, tc, p, its, us, kvs, sl, S, oN, oS, n1, n2, frs', F, N, m1, m2, m3, m4, m5, m6, hn12, hsub, hii, HA, SU, C, kind⟩ := hZ0
          first | replace F := fr_at (at1s m1 (at1s m2 (at1s m3 (at1s m4 (at1s m5 (at1s m6 rfl)))))) F | replace F := fr_at (at1c (at1s m1 (at1s m2 (at1s m3 (at1s m4 (at1s m5 (at1s m6 rfl))))))) F
          try dsimp only at F
          refine hPz ?_
          clear hPz Pz
          rcases kind with ⟨its0, ⟨M9, I9, lk, i9⟩, j, tj, sc, nn, rfl, hlk, hv, hsl, hj12, hPj, hend0, hn13⟩ | ⟨hend, hT⟩
          · have HA0 := HA
            rw [addrs_snoc] at HA0
            dsimp only at HA0 hv hsl hlk
            refine byProp fun Pz hPz => ?_
            obtain ⟨g1, g2, g3, g4, g5, g6, g7, g8, g9, e1, e2, e3, e4, e5, e6, gA⟩ := HA0.top
            obtain ⟨TL, hTL⟩ : ∃ TL, TL = itF its0 ++ BI := ⟨_, rfl⟩
            have hiu := C.ius
            have hlP := C.lenP
            have hlU := C.lenU
            have hp : 0 < us.length := by
              have h1 := C.len; have h2 := hiu.length
              simp [zs] at h1 h2; omega
            have hzU : us.length ≤ 1000 := by omega
            have hzI : (refsOf its0).length ≤ 1000 := by have := C.len; simp [refsOf] at this ⊢; omega
            have o9 : ∀ q ∈ TL ++ frs', q.1 ≠ I9 := fun q hq => by
              rcases List.mem_append.mp hq with hq | hq
              · rw [hTL] at hq
                rcases List.mem_append.mp hq with hq | hq
                · exact (gA q.1 (itF_addr hq)).1
                · exact HA0.2 I9 (by first | top_raise0 | simp) q (List.mem_append_left _ hq)
              · exact off_app SU (fun q hq => HA0.2 I9 (by first | top_raise0 | simp) q hq) q (List.mem_append_right _ hq)
            have hlkT : (lk, W.listOf sc.toArray nn) ∈ TL ++ frs' := List.mem_append_left _ (by rw [hTL]; exact List.mem_append_right _ hlk)
            have g10 := o9 _ hlkT
            have N5 : News (under s.heap (BG ++ frs)) L h ((n2s, oN) :: (sn, oS) :: (itk, W.listOf (List.toArray (refsOf its0 ++ [.ref M9])) n1) :: (stk, W.listOf us.toArray n2) :: (M9, mwO I9) :: (I9, itO lk i9) :: (lk, W.listOf sc.toArray nn) :: (TL ++ frs')) := fun p hp => N p (by
              rw [hTL] at hp
              rw [refs_snoc, itF_snoc]
              revert p; top_name)
            clear N
            refine hPz ?_
            clear hPz Pz
            repeat' (first | ((with_reducible show wpAny _ _ (exec (Stmt.While (Expr.Name ..) ..) _) _ _ _); refine while_hold 0 ?_) | top_args)
            unfold Hold
            refine whl_turn (k := 0) ?hE ?_
            case hE => exact PassesOwn.leaving
            walk1
            walk1
            refine li_truthy_yes (by k_asm) (by k_mem) (by assumption) (by assumption) ?_
            intro tk'
            repeat' (first | ((with_reducible show wpAny _ _ (call (Value.ref _) _) _ _ _); first | (refine mw_item (by k_asm) (by k_asm) (by k_mem) (by k_upd) (by k_mem) (by assumption) ?_; top_caught0) | (refine mw_stop rfl (by k_asm) (by k_asm) (by k_mem) (by k_upd) (by k_mem) (by assumption) ?_; top_caught0)) | ((with_reducible show wpAny _ _ (callWith _ (Value.ref _) _ _ _) _ _ _); refine callWith_mw (by k_asm) (by k_mem) ?_) | ((with_reducible show wpAny _ _ (subscriptTail _ _ _ _) _ _ _); with_unfolding_all refine li_last (by k_asm) (by k_mem) (by assumption) ?_) | top_args)
            rename Fr _ _ _ _ => F4
            rename News _ _ _ _ => N4
            have hlS := C.lenS
            have N6 : News (under s.heap (BG ++ frs)) L _ ((n2s, oN) :: (sn, oS) :: (itk, W.listOf (List.toArray (refsOf (its0 ++ [⟨M9, I9, lk, i9 + 1⟩]))) n1) :: (stk, W.listOf (List.toArray us) n2) :: ((itF (its0 ++ [⟨M9, I9, lk, i9 + 1⟩]) ++ BI) ++ frs')) := fun p hp => N4 p (by
              rw [refs_snoc, itF_snoc] at hp
              rw [hTL]
              revert p; top_name)
            refine TurnW.next (n9 - 1) (by omega) F4 N6 (.mk j tj p (its0 ++ [⟨M9, I9, lk, i9 + 1⟩]) us kvs sl S oN oS n1 n2 frs' rfl rfl rfl rfl rfl rfl (C.its (by first | top_raise0 | simp)) hPj hj12 (by omega) hsub (.inl hii) (by rw [addrs_snoc]; exact HA0) (fun r hr => ?_) SU)
            rcases List.mem_append.mp hr with hr | hr
            · exact hend0 r hr
            · rw [List.mem_singleton.mp hr]; exact ⟨sc, nn, hlk, hsl⟩
          · repeat' (first | ((with_reducible show wpAny _ _ (exec (Stmt.While (Expr.Name ..) ..) _) _ _ _); refine while_hold 0 ?_) | top_args)
            rename Fr _ _ _ _ => F4
            rename News _ _ _ _ => N4
            refine whl_inv s (under s.heap (BG ++ frs)) L ?hE (fun n m led => CyC w succ BI frs stk itk sn n2s dn sl S oS n m led) ?_ its.length _ _ h _ 0 ?_ F4 N4
            case hE => exact PassesOwn.leaving
            · clear F4 N4 hend SU HA C
              clear oN n1 n2 frs' us kvs p its
              intro n8 m led h tk hZ0 F N
              refine byProp fun Pz hPz => ?_
              obtain ⟨cur, tc, p, its, us, kvs, oN, n1, n2, frs', m1, m2, m3, m4, m5, m6, C, HA, hend, SU, hn8⟩ := hZ0
              first | replace F := fr_at (at1s m1 (at1s m2 (at1s m3 (at1s m4 (at1s m5 (at1s m6 rfl)))))) F | replace F := fr_at (at1c (at1s m1 (at1s m2 (at1s m3 (at1s m4 (at1s m5 (at1s m6 rfl))))))) F
              try dsimp only at F
              have hiu := C.ius
              have hlP := C.lenP
              refine hPz ?_
              clear hPz Pz
              rcases nil_or_snoc its with rfl | ⟨its0, ⟨M9, I9, lk, i9⟩, rfl⟩
              · obtain rfl : p = [] := List.length_eq_zero_iff.mp (by have := C.len; simpa using this.symm)
                obtain rfl : us = [] := hiu.nil_inv
                walk1
                walk1
                refine li_truthy_no (by k_asm) (by k_mem) ?_
                intro tk'
                k_steps
                rename Fr _ _ _ _ => F4
                rename News _ _ _ _ => N4
                refine TurnW.brk ?_
                refine wpAny_execs_nil ?_
                have g1 := HA.2 n2s (by first | top_raise0 | simp) (I, oI) (by rw [hBI]; first | top_raise0 | simp)
                have g2 := HA.2 sn (by first | top_raise0 | simp) (I, oI) (by rw [hBI]; first | top_raise0 | simp)
                have g3 := HA.2 itk (by first | top_raise0 | simp) (I, oI) (by rw [hBI]; first | top_raise0 | simp)
                have g4 := HA.2 stk (by first | top_raise0 | simp) (I, oI) (by rw [hBI]; first | top_raise0 | simp)
                have hk0 : kvs = [] := List.map_eq_nil_iff.mp C.keys
                subst hk0
                refine TurnTo.next (led' := (n2s, oN) :: (sn, oS) :: (itk, W.listOf (List.toArray (refsOf [])) n1) :: (stk, W.listOf (List.toArray []) n2) :: (BG ++ frs')) F4 (fun p hp => N4 p ?_) (fun p hp => ?_) (.mk oN oS sl S n1 n2 frs' rfl rfl rfl rfl rfl C (fun j hj => ?_) SU)
                · rw [hBI]; revert p; top_name
                · exact ne_cons (Ne.symm g1) (ne_cons (Ne.symm g2) (ne_cons (Ne.symm g3) (ne_cons (Ne.symm g4) (off_app SU hIB)))) p hp
                · rcases Nat.lt_succ_iff_lt_or_eq.mp hj with h | rfl
                  · exact hsub j h
                  · exact hii
              · have HA0 := HA
                rw [addrs_snoc] at HA0
                dsimp only at HA0
                refine byProp fun Pz hPz => ?_
                obtain ⟨g1, g2, g3, g4, g5, g6, g7, g8, g9, e1, e2, e3, e4, e5, e6, gA⟩ := HA0.top
                obtain ⟨TL, hTL⟩ : ∃ TL, TL = itF its0 ++ BI := ⟨_, rfl⟩
                obtain ⟨sc, nn, hlk, hsl⟩ := hend ⟨M9, I9, lk, i9⟩ (by first | top_raise0 | simp)
                dsimp only at hlk hsl
                obtain ⟨p0, c, rfl⟩ : ∃ p0 c, p = p0 ++ [c] := by
                  rcases nil_or_snoc p with rfl | ⟨p0, c, rfl⟩
                  · have := C.len; simp at this
                  · exact ⟨p0, c, rfl⟩
                obtain ⟨us0, tu, rfl, hiu0⟩ := ints_last (show IntsAre us (zs p0 ++ [(c : Int)]) by simpa [zs] using hiu)
                have hp : 0 < (us0 ++ [Value.int c tu]).length := by simp
                have hlu0 : us0.length ≤ 12 := by have h1 := hiu0.length; simp [zs] at h1 hlP; omega
                have hzU : (us0 ++ [Value.int c tu]).length ≤ 1000 := by simp; omega
                have hzU0 : us0.length ≤ 1000 := by omega
                have hzI : (refsOf its0).length ≤ 1000 := by have := C.len; simp [refsOf] at this ⊢; simp at hlP; omega
                have hkl : kvs.length ≤ sizeLine := by have := congrArg List.length C.keys; simp [zs] at this; rw [sizeLine_eq]; simp at hlP; omega
                have hdN := C.dN
                have hvc : (valueAt kvs (c : Int)).isSome = true := by
                  refine byProp fun Pz hPz => ?_
                  obtain ⟨i7, t7, hv7, hi7⟩ := (C.has c).1 (by first | top_raise0 | simp)
                  refine hPz ?_
                  clear hPz Pz
                  rw [hv7]; rfl
                have offT : ∀ a ∈ n2s :: sn :: itk :: stk :: (addrs its0 ++ [I9, M9]), (∀ x ∈ addrs its0, x ≠ a) → ∀ q ∈ TL ++ frs', q.1 ≠ a := fun a ha hx q hq => by
                  rcases List.mem_append.mp hq with hq | hq
                  · rw [hTL] at hq
                    rcases List.mem_append.mp hq with hq | hq
                    · exact hx q.1 (itF_addr hq)
                    · exact HA0.2 a ha q (List.mem_append_left _ hq)
                  · exact off_app SU (fun q hq => HA0.2 a ha q hq) q (List.mem_append_right _ hq)
                have o1 := offT n2s (by first | top_raise0 | simp) fun x hx => (gA x hx).2.2.1
                have o2 := offT sn (by first | top_raise0 | simp) fun x hx => (gA x hx).2.2.2.1
                have o3 := offT itk (by first | top_raise0 | simp) fun x hx => (gA x hx).2.2.2.2.1
                have o4 := offT stk (by first | top_raise0 | simp) fun x hx => (gA x hx).2.2.2.2.2
                have o5 := offT I9 (by first | top_raise0 | simp) fun x hx => (gA x hx).1
                have o6 := offT M9 (by first | top_raise0 | simp) fun x hx => (gA x hx).2.1
                have hlkT : (lk, W.listOf sc.toArray nn) ∈ TL ++ frs' := List.mem_append_left _ (by rw [hTL]; exact List.mem_append_right _ hlk)
                have w1 := o1 _ hlkT
                have w2 := o2 _ hlkT
                have w3 := o3 _ hlkT
                have w4 := o4 _ hlkT
                have w5 := o5 _ hlkT
                have w6 := o6 _ hlkT
                have Fs' := Fs.up SU
                have u1 : ∀ q ∈ frs', q.1 ≠ n2s := fun q hq => o1 q (List.mem_append_right _ hq)
                have u2 : ∀ q ∈ frs', q.1 ≠ sn := fun q hq => o2 q (List.mem_append_right _ hq)
                have u3 : ∀ q ∈ frs', q.1 ≠ itk := fun q hq => o3 q (List.mem_append_right _ hq)
                have u4 : ∀ q ∈ frs', q.1 ≠ stk := fun q hq => o4 q (List.mem_append_right _ hq)
                have u5 : ∀ q ∈ frs', q.1 ≠ I9 := fun q hq => o5 q (List.mem_append_right _ hq)
                have u6 : ∀ q ∈ frs', q.1 ≠ M9 := fun q hq => o6 q (List.mem_append_right _ hq)
                have hTT : ∀ q ∈ TL, ∀ f ∈ frs', q.1 ≠ f.1 := fun q hq f hf => by
                  rw [hTL] at hq
                  rcases List.mem_append.mp hq with hq | hq
                  · obtain ⟨x, hx, e⟩ := SU.fwd f hf
                    rw [e]
                    exact Ne.symm (HA0.2 q.1 (List.mem_cons_of_mem _ (List.mem_cons_of_mem _ (List.mem_cons_of_mem _ (List.mem_cons_of_mem _ (List.mem_append_left _ (itF_addr hq)))))) x (List.mem_append_right _ hx))
                  · exact cross_up SU hTF q hq f hf
                have u7 : ∀ q ∈ frs', q.1 ≠ lk := fun q hq => Ne.symm (hTT (lk, W.listOf sc.toArray nn) (by rw [hTL]; exact List.mem_append_right _ hlk) q hq)
                have N5 : News (under s.heap (BG ++ frs)) L h ((n2s, oN) :: (sn, oS) :: (itk, W.listOf (List.toArray (refsOf its0 ++ [.ref M9])) n1) :: (stk, W.listOf (List.toArray (us0 ++ [Value.int c tu])) n2) :: (M9, mwO I9) :: (I9, itO lk i9) :: (lk, W.listOf sc.toArray nn) :: (TL ++ frs')) := fun p hp => N p (by
                  rw [hTL] at hp
                  rw [refs_snoc, itF_snoc]
                  revert p; top_name)
                clear N
                refine hPz ?_
                clear hPz Pz
                walk1
                walk1
                refine li_truthy_yes (by k_asm) (by k_mem) (by assumption) (by assumption) ?_
                intro tk'
                repeat' (first | ((with_reducible show wpAny _ _ (call (Value.builtin "list.pop") _) _ _ _); refine li_pop (by k_asm) (by k_asm) (by k_upd) (by assumption) ?_; top_caught0) | ((with_reducible show wpAny _ _ (call (Value.ref _) _) _ _ _); first | (refine mw_item (by k_asm) (by k_asm) (by k_mem) (by k_upd) (by k_mem) (by assumption) ?_; top_caught0) | (refine mw_stop rfl (by k_asm) (by k_asm) (by k_mem) (by k_upd) (by k_mem) (by assumption) ?_; top_caught0)) | ((with_reducible show wpAny _ _ (callWith _ (Value.ref _) _ _ _) _ _ _); refine callWith_mw (by k_asm) (by k_mem) ?_) | ((with_reducible show wpAny _ _ (subscriptTail _ _ _ _) _ _ _); with_unfolding_all refine li_last (by k_asm) (by k_mem) (by assumption) ?_) | top_args)
                rename Fr _ _ _ _ => F4
                rename News _ _ _ _ => N4
                rename Obj.IsDictOf _ _ (without _ _) => hN9
                rename SameUp frs' _ => su9
                rename_i fq _ _ _ _ _ _ oq _
                have N6 : News (under s.heap (BG ++ frs)) L _ ((n2s, oq) :: (sn, oS) :: (itk, W.listOf (List.toArray (refsOf its0)) (n1 + 1)) :: (stk, W.listOf (List.toArray us0) (n2 + 1)) :: ((itF its0 ++ BI) ++ fq)) := fun p hp => N4 p (by
                  rw [hTL]
                  revert p; top_name)
                refine TurnW.next its0.length (by rw [hn8]; first | top_raise0 | simp) F4 N6 (.mk cur tc p0 its0 us0 _ oq (n1 + 1) (n2 + 1) fq rfl rfl rfl rfl rfl rfl (C.pop hT hN9) HA0.sub (fun r hr => hend r (List.mem_append_left _ hr)) (SU.trans su9) rfl)
            · exact .mk cur tc p its us kvs oN n1 n2 frs' rfl rfl rfl rfl rfl rfl C HA hend SU rfl
      · exact .mk i t [] [] [] [] sl S oN oS n1 n2 frs' rfl rfl rfl rfl rfl rfl C trivial hi12 (by omega) hsub (.inr rfl) AP1 (fun _ h => nomatch h) SU
  · intro h' tk m' led' F N hZ0
    refine byProp fun Pz hPz => ?_
    obtain ⟨oN, oS, sl, S, n1, n2, frs', m1, m2, m3, m4, m5, C, hsub, SU⟩ := hZ0
    clear F2 N2
    have hcr := cross_up SU (Apart.cross hap)
    refine hPz ?_
    clear hPz Pz
    k_steps
    show Q .none _
    rename Fr _ _ _ _ => F4
    rename News _ _ _ _ => N4
    refine fin O D hapR hQ (BG ++ frs') ⟨BG, frs', rfl, SU, hcr, .inl ⟨rfl, (fun k hk => C.off k (hsub k (by rw [kvs_len]; exact hk)) (fun h => nomatch h)), rfl⟩⟩ F4 N4 (fun p hp => ?_)
    simp only [List.mem_cons]
    exact .inr (.inr (.inr (.inr hp)))
end
end -- MT3
example : True := by first | (w_top off; walk1) | trivial
section -- MCo
section
variable {prog : Program} {w : World} {A : Around} {E : Value → Shared → Prop} {s : Shared} {h₀ : Heap} {L : Addr} {m : Str → Option Value} {env : Env}
/-- a comprehension's source: any iterator that walks -/
inductive SrcW (prog : Program) (w : World) (A : Around) (h₀ : Heap) (L : Addr) (m : Str → Option Value) (env : Env) (ct elt : Expr) (x : Str) (scope : Scope) (cl : List (Str × Addr)) (Fin : Shared → List Value → List (Addr × Obj) → Prop) (it : Value) (s₂ : Shared) : Prop
  | mk (I : Addr) (fp : List Addr) (n : Nat) (P : Nat → Value → Prop) (St : Nat → Heap → Prop) (S : List (Addr × Obj) → Prop) (news : List (Addr × Obj)) (f1 : it = .ref I) (f2 : Walks prog w A I fp [I] n P St) (f3 : n ≤ sizeLine) (f4 : (∀ i h, St i h → ∃ o, h.get? I = some o)) (f5 : (∀ i h h' o nw, St i h → h.get? I = some o → h'.get? I = some o → (∀ b o, h₀.get? b = some o → h'.get? b = some o) → News h₀ L h' nw → S nw → St i h')) (f6 : St 0 s₂.heap) (f7 : (∀ b ∈ fp, b < s₂.heap.objs.size)) (f8 : Fr h₀ L s₂.heap m) (f9 : News h₀ L s₂.heap news) (f10 : L ≠ I) (f11 : h₀.get? I = none) (f12 : (∀ p ∈ news, p.1 ≠ I)) (f13 : S news) (f14 : LCt.CompRestT prog w A h₀ L m env ct elt x scope cl s₂ S P (Fin s₂) n 0 [] news)
theorem ListComp_W {ct elt iter : Expr} {x : Str} {px : Pos} {scope : Scope} {cl : List (Str × Addr)} {pos : Pos} {Q : Value → Shared → Prop} (_F₀ : Fr h₀ L s.heap m)
    (hclos : closureFor scope env = pure cl) (hcell : ∀ y ∈ scope.names, y.2 ≠ .cell) (hkind : scope.kind = .function)
    (hnames : ∀ y ∈ scope.names, y.2 = .local → scope.names.lookup y.1 = some .local) (hx : scope.names.lookup x = some .local)
    (h : wpAny (model prog w) A (eval iter env) (fun xv s₁ => Hold (wpAny (model prog w) A (pyIter xv) (SrcW prog w A h₀ L m env ct elt x scope cl (fun s₂ => LCg.FinE h₀ L m s₂ Q)) E s₁)) E s)
    (hs : ∀ x, foldedSetIterable iter env x = pure x := by intro _; rfl) :
    wpAny (model prog w) A (eval (.ListComp elt [⟨.Name x px, iter, [ct], 0⟩] scope pos) env) Q E s := by
  rw [eval_ListComp]
  refine wpAny_comprehension_free (use := none) rfl hs hclos hkind hnames (wpAny_mono h (fun xv s₁ h₁ => wpAny_mono h₁ (fun it s₂ h₂ => ?_) fun _ _ e => e) fun _ _ e => e)
  refine byProp fun Pz hPz => ?_
  obtain ⟨I, fp, n, P, St, S, news, rfl, W, hsz, hlive, hSt, hst, hfp, F, N, hLI, hI0, hoff, hS, R⟩ := h₂
  refine hPz ?_
  clear hPz Pz
  refine LCt.block_T W hsz hlive hSt hcell hkind hx hst hfp F N hLI hI0 hoff hS R ?_
  intro D C h tk m' ys news' F' N' o1 hn hC₀ hD₀ hCL hDL hCD offC fin
  refine ⟨m', hn, fun h'' hs'' => fin D h'' tk (F'.change hs'' hCL hC₀) (fun p hp => ?_) o1⟩
  refine ⟨hs''.extBut _ _ ?_ (N' p hp).1, (N' p hp).2⟩
  rcases List.mem_cons.mp hp with rfl | hp
  · exact Ne.symm hCD
  · exact offC p hp
/-- the turns by an invariant: with a test -/
theorem turnsT {ct elt : Expr} {x : Str} {scope : Scope} {cl : List (Str × Addr)} {S : List (Addr × Obj) → Prop} {P : Nat → Value → Prop} {Fin : List Value → List (Addr × Obj) → Prop} {n : Nat} (J : Nat → List Value → List (Addr × Obj) → Prop)
    (step : ∀ i ys news, i < n → J i ys news → ∀ v I oI C oC D m₂ h tk (E' : Value → Shared → Prop), P i v → LCg.NsObj oC m₂ → m₂ x = some v → Fr h₀ L h m → News h₀ L h ((I, oI) :: (C, oC) :: (D, LCg.lst ys) :: news) → LCg.Off3 I C D news → ((@Ne Nat I C) ∧ (@Ne Nat I D) ∧ (@Ne Nat C D)) →
      wpAny (model prog w) A (PySem.isTrue ct (compEnvC scope cl C env) (eval ct (compEnvC scope cl C env))) (fun ok s' => if ok = true then
        wpAny (model prog w) A (eval elt (compEnvC scope cl C env)) (LCg.CompEnd h₀ L m { s with heap := h, toks := tk } I oI C oC D (LCg.lst ys) S (fun y news' => J (i + 1) (ys ++ [y]) news')) E' s'
        else LCg.CompEnd h₀ L m { s with heap := h, toks := tk } I oI C oC D (LCg.lst ys) S (fun _ news' => J (i + 1) ys news') Value.none s') E' { s with heap := h, toks := tk })
    (done : ∀ ys news, J n ys news → Fin ys news) : ∀ k i ys news, i + k = n → J i ys news → LCt.CompRestT prog w A h₀ L m env ct elt x scope cl s S P Fin k i ys news := by
  intro k
  induction k with
  | zero => intro i ys news e hJ; obtain rfl : i = n := by omega
            exact LCt.CompRestT.zero (done ys news hJ)
  | succ k ih =>
    intro i ys news e hJ
    refine LCt.CompRestT.succ fun v I oI C oC D m₂ h tk E' hP hC hx F N off ne => ?_
    refine wpAny_mono (step i ys news (by omega) hJ v I oI C oC D m₂ h tk E' hP hC hx F N off ne) (fun ok s' h' => ?_) fun _ _ e => e
    cases ok with
    | true =>
      simp only [if_true] at h' ⊢
      refine wpAny_mono h' (fun y s₂ h₂ => ?_) fun _ _ e => e
      refine byProp fun Pz hPz => ?_
      obtain ⟨g, tk2, news', rfl, F2, N2, off2, S2, J2⟩ := h₂
      refine hPz ?_
      clear hPz Pz
      exact ⟨g, tk2, news', rfl, F2, N2, off2, S2, ih _ _ _ (by omega) J2⟩
    | false =>
      simp only [Bool.false_eq_true, if_false] at h' ⊢
      refine byProp fun Pz hPz => ?_
      obtain ⟨g, tk2, news', rfl, F2, N2, off2, S2, J2⟩ := h'
      refine hPz ?_
      clear hPz Pz
      exact ⟨g, tk2, news', rfl, F2, N2, off2, S2, ih _ _ _ (by omega) J2⟩
/-- the turns by an invariant: no test -/
theorem turnsU {elt : Expr} {x : Str} {scope : Scope} {cl : List (Str × Addr)} {S : List (Addr × Obj) → Prop} {P : Nat → Value → Prop} {Fin : List Value → List (Addr × Obj) → Prop} {n : Nat} (J : Nat → List Value → List (Addr × Obj) → Prop)
    (step : ∀ i ys news, i < n → J i ys news → ∀ v I oI C oC D m₂ h tk (E' : Value → Shared → Prop), P i v → LCg.NsObj oC m₂ → m₂ x = some v → Fr h₀ L h m → News h₀ L h ((I, oI) :: (C, oC) :: (D, LCg.lst ys) :: news) → LCg.Off3 I C D news → ((@Ne Nat I C) ∧ (@Ne Nat I D) ∧ (@Ne Nat C D)) →
      wpAny (model prog w) A (eval elt (compEnvC scope cl C env)) (LCg.CompEnd h₀ L m { s with heap := h, toks := tk } I oI C oC D (LCg.lst ys) S (fun y news' => J (i + 1) (ys ++ [y]) news')) E' { s with heap := h, toks := tk })
    (done : ∀ ys news, J n ys news → Fin ys news) : ∀ k i ys news, i + k = n → J i ys news → LCg.CompRest prog w A h₀ L m env elt x scope cl s S P Fin k i ys news := by
  intro k
  induction k with
  | zero => intro i ys news e hJ; obtain rfl : i = n := by omega
            exact LCg.CompRest.zero (done ys news hJ)
  | succ k ih =>
    intro i ys news e hJ
    refine LCg.CompRest.succ fun v I oI C oC D m₂ h tk E' hP hC hx F N off ne => ?_
    refine wpAny_mono (step i ys news (by omega) hJ v I oI C oC D m₂ h tk E' hP hC hx F N off ne) (fun y s₂ h₂ => ?_) fun _ _ e => e
    refine byProp fun Pz hPz => ?_
    obtain ⟨g, tk2, news', rfl, F2, N2, off2, S2, J2⟩ := h₂
    refine hPz ?_
    clear hPz Pz
    exact ⟨g, tk2, news', rfl, F2, N2, off2, S2, ih _ _ _ (by omega) J2⟩
theorem srcValues {d D : Addr} {o : Obj} {kvs : List (Int × Value)} {ct elt : Expr} {x : Str} {scope : Scope} {cl : List (Str × Addr)} {news : List (Addr × Obj)} {Fin : Shared → List Value → List (Addr × Obj) → Prop}
    (ho : o.IsDictOf (PySem.intKind prog w) kvs) (hh : A.handled = none) (F : Fr h₀ L s.heap m) (N : News h₀ L s.heap news) (hD : (D, ({ cls := .type "dict_values", data := .fields #[.ref d] } : Obj)) ∈ news) (hd : (d, o) ∈ news) (hsz : kvs.length ≤ sizeLine)
    (h : ∀ g, LCt.CompRestT prog w A h₀ L m env ct elt x scope cl { s with heap := g } (fun nw => (d, o) ∈ nw) (fun i v => ∃ k, kvs[i]? = some (k, v)) (Fin { s with heap := g }) kvs.length 0 [] news) :
    wpAny (model prog w) A (pyIter (.ref D)) (SrcW prog w A h₀ L m env ct elt x scope cl Fin) E s := by
  have hne : d ≠ s.heap.objs.size := Nat.ne_of_lt (Heap.lt_size (N _ hd).1)
  refine byProp fun Pz hPz => ?_
  obtain ⟨es, ep, x1, x2, x3, x4, x5⟩ := id ho
  have hl' : ∀ h : Heap, h.get? d = some o → h.DictAt (PySem.intKind prog w) d kvs ep := fun h e => ⟨o, es, e, x1, x2, x3, x4, x5⟩
  have W₀ := Walks.dictValues (prog := prog) (w := w) (A := A) (knd := PySem.intKind prog w) hh s.heap.objs.size d hne kvs ep
  have W' : Walks prog w A s.heap.objs.size [s.heap.objs.size, d] [s.heap.objs.size] kvs.length (fun i v => ∃ k, kvs[i]? = some (k, v)) (fun i h => h.IsValIter s.heap.objs.size d i kvs.length ep ∧ h.get? d = some o) := by
    refine ⟨W₀.sub, fun i h h' st hk => ⟨st.1.at fun o e => hk _ (by simp) o e, hk _ (by simp) _ st.2⟩, fun i s Q E hi st hQ => ?_, fun s Q E st hQ => ?_, fun i s Q E st hQ => ?_⟩
    · exact W₀.item i s Q E hi ⟨st.1, hl' _ st.2⟩ fun v h' tk hP hst hk => hQ v h' tk hP ⟨hst.1, hk d _ (by simpa using hne) st.2⟩ hk
    · exact W₀.done s Q E ⟨st.1, hl' _ st.2⟩ hQ
    · exact W₀.self i s Q E ⟨st.1, hl' _ st.2⟩ hQ
  refine hPz ?_
  clear hPz Pz
  refine wpAny_pyIter_values ⟨_, (N _ hD).1, rfl, rfl⟩ (hl' _ (N _ hd).1) ?_
  refine ⟨s.heap.objs.size, _, _, _, _, fun nw => (d, o) ∈ nw, news, rfl, W', hsz, fun i h st => ?_, fun i h h' o' nw st e e' _ N' hS => ?_, ⟨⟨_, Heap.get?_push_size _ rfl, rfl, rfl⟩, Heap.get?_push_of_some _ (N _ hd).1⟩, fun b hb => ?_, F.push _, fun p hp => ⟨Heap.get?_push_of_some _ (N p hp).1, (N p hp).2⟩, Nat.ne_of_lt F.ns.lt, next_is_new F, fun p hp => Nat.ne_of_lt (Heap.lt_size (N p hp).1), hd, h _⟩
  · obtain ⟨⟨o, e, _⟩, _⟩ := st; exact ⟨o, e⟩
  · exact ⟨st.1.at fun o9 e9 => by rw [e] at e9; cases e9; exact e', (N' _ hS).1⟩
  · show b < (s.heap.push _).objs.size
    rw [Heap.size_push]
    simp only [List.mem_cons, List.mem_nil_iff, or_false] at hb
    rcases hb with rfl | rfl
    · exact Nat.lt_succ_self _
    · exact Nat.lt_succ_of_lt (Heap.lt_size (N _ hd).1)
end
end -- MCo
example : True := by first | (w_top off; walk1) | trivial
section -- MTE
open TI (Frs SameUp)
/-- as Tell, with the exceptions that may leave -/
noncomputable def TellE (w : World) (A : Around) (h₀ : Heap) (s : Shared) (foc : List (Addr × Obj)) (t : Sem Value) (post : Value → List (Addr × Obj) → Prop) (postE : Addr → List (Addr × Obj) → Prop) : Prop :=
  ∀ (rest : List (Addr × Obj)) (Q E : Value → Shared → Prop), Stat w h₀ → Kp h₀ s.heap → Led h₀ s.heap (foc ++ rest) → (∀ p ∈ foc, ∀ q ∈ rest, p.1 ≠ q.1) →
    (∀ r foc' h' tk', post r foc' → (∀ p ∈ foc', ∀ q ∈ rest, p.1 ≠ q.1) → Kp h₀ h' → Led h₀ h' (foc' ++ rest) → Q r { s with heap := h', toks := tk' }) →
    (∀ e foc' h' tk', postE e foc' → (∀ p ∈ foc', ∀ q ∈ rest, p.1 ≠ q.1) → Kp h₀ h' → Led h₀ h' (foc' ++ rest) → E (.ref e) { s with heap := h', toks := tk' }) →
    wpAny (model Pg w) A t Q E s
section
variable {w : World} {dp un : Nat} {l : List Env} {gd : Option (List Code)} {h₀ : Heap} {s : Shared}
noncomputable def TellXE (w : World) (dp : Nat) (l : List Env) (gd : Option (List Code)) (un : Nat) (h₀ : Heap) (s : Shared) (foc frs : List (Addr × Obj)) (t : Sem Value) (post : Value → List (Addr × Obj) → Prop) (postE : Addr → List (Addr × Obj) → Prop) : Prop :=
  Frs l frs → TellE w (mkA dp (some l) gd un) h₀ s (foc ++ frs) t (fun r foc' => ∃ foc1 frs', foc' = foc1 ++ frs' ∧ SameUp frs frs' ∧ (∀ p ∈ foc1, ∀ q ∈ frs', p.1 ≠ q.1) ∧ post r foc1) (fun e foc' => ∃ foc1 frs', foc' = foc1 ++ frs' ∧ SameUp frs frs' ∧ (∀ p ∈ foc1, ∀ q ∈ frs', p.1 ≠ q.1) ∧ postE e foc1)
theorem back_here {foc1 frs frs9 news : List (Addr × Obj)} {L : Addr} {oL : Obj} {es : Array DictEntry} {ep : Nat} {m : Str → Option Value} {h h' : Heap} (hLk : StrKeys es) (hLd : oL.data = .dict es ep) (hLf : ∀ nm, nsFind es nm = m nm)
    (F : Fr h₀ L h m) (N₂ : ∀ p ∈ frs ++ news, h.get? p.1 = some p.2 ∧ p.1 ≠ L ∧ h₀.get? p.1 = none) (Fs : Frs l frs) (SU : SameUp ((L, oL) :: frs) frs9) (hfa : ∀ p ∈ foc1, ∀ q ∈ frs9, p.1 ≠ q.1) (hn : ∀ p ∈ foc1 ++ frs9, ∀ q ∈ news, p.1 ≠ q.1) (K' : Kp h₀ h') (D' : Led h₀ h' (foc1 ++ frs9 ++ news)) :
    ∃ qs, SameUp frs qs ∧ Frs l qs ∧ Fr h₀ L h' m ∧ News h₀ L h' (foc1 ++ news ++ qs) ∧ (∀ p ∈ foc1, ∀ q ∈ news ++ qs, p.1 ≠ q.1) := by
  cases frs9 with
  | nil => exact False.elim SU
  | cons q qs =>
    refine byProp fun Pz hPz => ?_
    obtain ⟨q1, q2⟩ := q
    obtain ⟨e1, ⟨sl, e2⟩, SU'⟩ := SU
    refine hPz ?_
    clear hPz Pz
    cases e1; cases e2
    have hL' : h'.get? L = some { oL with slots := sl } := (D' (L, { oL with slots := sl }) (by first | top_raise0 | simp)).1
    have hne : ∀ p ∈ qs, p.1 ≠ L := fun p hp e => by
      have : p.1 ∈ frs.map (·.1) := by rw [SameUp.addr SU']; exact List.mem_map_of_mem hp
      refine byProp fun Pz hPz => ?_
      obtain ⟨x, hx, ex⟩ := List.mem_map.mp this
      refine hPz ?_
      clear hPz Pz
      exact (N₂ x (by simp [hx])).2.1 (ex.trans e)
    refine ⟨qs, SU', Fs.up SU', ⟨⟨_, es, ep, hL', hLd, hLk, hLf⟩, K'.keep, F.above⟩, fun p hp' => ?_, fun p hp' q hq => (List.mem_append.mp hq).elim (fun hq => hn p (by simp [hp']) q hq) fun hq => hfa p hp' q (.tail _ hq)⟩
    have hm : p ∈ foc1 ++ (L, { oL with slots := sl }) :: qs ++ news := by
      refine memIn ?_ hp'; top_name
    refine ⟨(D' p hm).1, ?_, (D' p hm).2⟩
    simp only [List.mem_append] at hp'
    rcases hp' with (h | h) | h
    · exact hfa p h (L, _) (.head _)
    · exact (N₂ p (by simp [h])).2.1
    · exact hne p h
theorem TellXE.use {foc frs : List (Addr × Obj)} {t : Sem Value} {post : Value → List (Addr × Obj) → Prop} {postE : Addr → List (Addr × Obj) → Prop} {name : Str} {scope : Scope} {L a : Addr} {cd : Value}
    (H : ∀ oL, TellXE w dp (envOf name scope L a cd :: l) gd un h₀ s foc ((L, oL) :: frs) t post postE) (Fs : Frs l frs)
    {m : Str → Option Value} {led news : List (Addr × Obj)} {mean : ExcName → Option Value} {mg mb : Str → Option Value} {Q E : Value → Shared → Prop}
    (X : (hd.heap_1 w.params).In h₀) (T : Top Vw Lo mean mg mb h₀) (F : Fr h₀ L s.heap m) (N : News h₀ L s.heap led) (hsub : ∀ p ∈ foc ++ frs ++ news, p ∈ led) (hap : ∀ p ∈ foc ++ frs, ∀ q ∈ news, p.1 ≠ q.1) (hk : scope.kind = .function)
    (hQ : ∀ r foc' frs' h' tk', post r foc' → SameUp frs frs' → Frs l frs' → Fr h₀ L h' m → News h₀ L h' (foc' ++ news ++ frs') → (∀ p ∈ foc', ∀ q ∈ news ++ frs', p.1 ≠ q.1) → Q r { s with heap := h', toks := tk' })
    (hE : ∀ e foc' frs' h' tk', postE e foc' → SameUp frs frs' → Frs l frs' → Fr h₀ L h' m → News h₀ L h' (foc' ++ news ++ frs') → (∀ p ∈ foc', ∀ q ∈ news ++ frs', p.1 ≠ q.1) → E (.ref e) { s with heap := h', toks := tk' }) :
    wpAny (model Pg w) (mkA dp (some (envOf name scope L a cd :: l)) gd un) t Q E s := by
  have N₂ : News h₀ L s.heap (foc ++ frs ++ news) := fun p hp => N p (hsub p hp)
  refine byProp fun Pz hPz => ?_
  obtain ⟨oL, es, ep, hL, hLd, hLk, hLf⟩ := F.ns
  have hLn : h₀.get? L = none := Heap.get?_none_of_le F.above
  have FF : Frs (envOf name scope L a cd :: l) ((L, oL) :: frs) := ⟨by show scope.kind ≠ .module; rw [hk]; decide, rfl, ⟨es, ep, hLd⟩, Fs⟩
  refine hPz ?_
  clear hPz Pz
  refine H oL FF news Q E ⟨X, mean, mg, mb, T⟩ (Kp.of_fr F) (fun p hp => ?_) (fun p hp q hq => ?_) (fun r foc' h' tk' hp hn K' D' => ?_) fun r foc' h' tk' hp hn K' D' => ?_
  · rcases List.mem_append.mp hp with hp | hp
    · rcases List.mem_append.mp hp with hp | hp
      · exact ⟨(N₂ p (by simp [hp])).1, (N₂ p (by simp [hp])).2.2⟩
      · rcases List.mem_cons.mp hp with rfl | hp
        · exact ⟨hL, hLn⟩
        · exact ⟨(N₂ p (by simp [hp])).1, (N₂ p (by simp [hp])).2.2⟩
    · exact ⟨(N₂ p (by simp [hp])).1, (N₂ p (by simp [hp])).2.2⟩
  · rcases List.mem_append.mp hp with hp | hp
    · exact hap p (List.mem_append_left _ hp) q hq
    · rcases List.mem_cons.mp hp with rfl | hp
      · exact Ne.symm (N₂ q (by simp [hq])).2.1
      · exact hap p (List.mem_append_right _ hp) q hq
  · obtain ⟨foc1, frs', rfl, SU, hfa, hp⟩ := hp
    refine byProp fun Pz hPz => ?_
    obtain ⟨qs, SU', Fs', F', N', ha⟩ := back_here hLk hLd hLf F (fun p hp => N₂ p (by simp only [List.mem_append] at hp ⊢; rcases hp with h | h <;> simp [h])) Fs SU hfa hn K' D'
    refine hPz ?_
    clear hPz Pz
    exact hQ r foc1 qs h' tk' hp SU' Fs' F' N' ha
  · obtain ⟨foc1, frs', rfl, SU, hfa, hp⟩ := hp
    refine byProp fun Pz hPz => ?_
    obtain ⟨qs, SU', Fs', F', N', ha⟩ := back_here hLk hLd hLf F (fun p hp => N₂ p (by simp only [List.mem_append] at hp ⊢; rcases hp with h | h <;> simp [h])) Fs SU hfa hn K' D'
    refine hPz ?_
    clear hPz Pz
    exact hE r foc1 qs h' tk' hp SU' Fs' F' N' ha
theorem AllOff.of {frs : List (Addr × Obj)} : ∀ {new : List (Addr × Obj)}, (∀ p ∈ new, ∀ q ∈ frs, p.1 ≠ q.1) → AllOff frs new
  | [], _ => trivial
  | p :: _, h => ⟨fun q hq => Ne.symm (h p (.head _) q hq), AllOff.of fun p hp => h p (.tail _ hp)⟩
/-- a made exception of an own class goes onto the ledger -/
theorem exc_ledO {hb h g : Heap} {L e : Addr} {m : Str → Option Value} {new : List (Addr × Obj)} {c : Value} {args : List Value} (hx : Heap.MadeExcOf h g e c args) (F : Fr hb L h m) (N : News hb L h new) :
    ∃ t, Fr hb L g m ∧ News hb L g ((e, fldO c #[.ref t, .none, .none, .none, .bool false, .none]) :: new) ∧ ∀ p ∈ new, p.1 ≠ e := by
  refine byProp fun Pz hPz => ?_
  obtain ⟨t, he, _, _⟩ := hx.there
  refine hPz ?_
  clear hPz Pz
  refine ⟨t, F.keeps hx.keeps, fun p hp => ?_, fun p hp q => ?_⟩
  · rcases List.mem_cons.mp hp with rfl | hp
    · refine ⟨he, fun q => ?_, TT.none_of F.keep hx.new⟩
      refine byProp fun Pz hPz => ?_
      obtain ⟨oL, _, _, hL, _⟩ := F.ns
      have q' : e = L := q
      have := hx.new
      rw [q', hL] at this
      refine hPz ?_
      clear hPz Pz
      cases this
    · exact ⟨hx.keeps _ _ (N p hp).1, (N p hp).2⟩
  · have := hx.new
    rw [← q, (N p hp).1] at this
    cases this
/-- the way out by an exception -/
theorem finE {foc rest : List (Addr × Obj)} {postE : Addr → List (Addr × Obj) → Prop} {E : Value → Shared → Prop} (O : Kp h₀ s.heap) (D : Led h₀ s.heap (foc ++ rest)) (hap : ∀ p ∈ foc, ∀ q ∈ rest, p.1 ≠ q.1)
    (hE : ∀ e foc' h' tk', postE e foc' → (∀ p ∈ foc', ∀ q ∈ rest, p.1 ≠ q.1) → Kp h₀ h' → Led h₀ h' (foc' ++ rest) → E (.ref e) { s with heap := h', toks := tk' })
    {L : Addr} {h' : Heap} {m' : Str → Option Value} {led : List (Addr × Obj)} {tk' : Nat} {e : Addr} (foc' : List (Addr × Obj)) (hp : postE e foc')
    (F : Fr (under s.heap foc) L h' m') (N : News (under s.heap foc) L h' led) (hs : ∀ p ∈ foc', p ∈ led) : E (.ref e) { s with heap := h', toks := tk' } :=
  fin (post := fun r foc' => ∃ e, r = .ref e ∧ postE e foc') (Q := E) O D hap (fun r foc' h' tk' hp a b c => by obtain ⟨e, rfl, hp⟩ := hp; exact hE e foc' h' tk' hp a b c) foc' ⟨e, rfl, hp⟩ F N hs
/-- a second frame takes note -/
theorem noted_next {hb : Heap} {A₀ : Around} {E : Value → Shared → Prop} {name : Str} {scope : Scope} {L a e T : Addr} {cd : Value} {m : Str → Option Value} {frs new₀ : List (Addr × Obj)} {c : Value} {dd : Option Addr} {sl : Array (Option Value)} {vs ts₀ : Array Value} {Q : Unit → Shared → Prop} (hfr : A₀.frames = some l) (Fs : Frs l frs) (F₀ : Fr hb L s.heap m) (N₀ : News hb L s.heap ((T, fldO (.type "traceback") ts₀) :: (e, fldO c vs dd sl) :: (new₀ ++ frs))) (h1 : vs[1]? = some (.ref T)) (h30 : ts₀[3]? = some .none) (hlt₀ : ∀ p ∈ (e, fldO c vs dd sl) :: (new₀ ++ frs), p.1 ≠ T) (oe₀ : ∀ p ∈ new₀ ++ frs, p.1 ≠ e) (ho₀ : AllOff frs new₀)
    (k : ∀ h' frs' T' ts, SameUp frs frs' → Frs l frs' → Fr hb L h' m → News hb L h' ((T', fldO (.type "traceback") ts) :: (e, fldO c (vs.setIfInBounds 1 (.ref T')) dd sl) :: (new₀ ++ frs')) → ts[3]? = some (rawInt L) → (∀ p ∈ (e, fldO c (vs.setIfInBounds 1 (.ref T')) dd sl) :: (new₀ ++ frs'), p.1 < T') → (∀ p ∈ new₀ ++ frs', p.1 ≠ e) → Q () { s with heap := h' })
    (hk : scope.kind = .function := by rfl) : wpAny (model Pg w) (A₀.deeper (envOf name scope L a cd)) (noteFrame (.ref e) (envOf name scope L a cd)) Q E s := by
  unfold noteFrame
  simp only [show (envOf name scope L a cd).frame = some L from rfl]
  refine wpAny_bind (wpAny_field (N₀ (e, fldO c vs dd sl) (.tail _ (.head _))).1 rfl h1 ?_)
  rw [if_pos (show (Value.ref T != Value.none) = true from by simp)]
  refine wpAny_bind (wpAny_field (N₀ (T, fldO (.type "traceback") ts₀) (.head _)).1 rfl h30 ?_)
  rw [if_neg (show ¬ ((Value.none == rawInt L) = true) from by simp [rawInt])]
  refine wpAny_bind (fld_set (pre := []) F₀ N₀ (fun p hp => nomatch hp) (fun p hp => hlt₀ p hp) (Array.getElem?_eq_some_iff.mp h30).1 fun h₂ F N₃ => ?_)
  refine byProp fun Pz hPz => ?_
  obtain ⟨new, hnew⟩ : ∃ new, new = (T, fldO (.type "traceback") (ts₀.setIfInBounds 3 .none)) :: new₀ := ⟨_, rfl⟩
  have N : News hb L h₂ ((e, fldO c vs dd sl) :: (new ++ frs)) := fun p hp => N₃ p (by
    rw [hnew] at hp
    refine memIn ?_ hp; top_name)
  have oe : ∀ p ∈ new ++ frs, p.1 ≠ e := fun p hp => by
    rw [hnew] at hp
    rcases List.mem_cons.mp hp with rfl | hp
    · exact Ne.symm (hlt₀ _ (.head _))
    · exact oe₀ p hp
  have ho : AllOff frs new := by
    rw [hnew]
    exact ⟨fun q hq => hlt₀ q (.tail _ (List.mem_append_right _ hq)), ho₀⟩
  have kk : ∀ h' frs' T' ts, SameUp frs frs' → Frs l frs' → Fr hb L h' m → News hb L h' ((T', fldO (.type "traceback") ts) :: (e, fldO c (vs.setIfInBounds 1 (.ref T')) dd sl) :: (new ++ frs')) → ts[3]? = some (rawInt L) → (∀ p ∈ (e, fldO c (vs.setIfInBounds 1 (.ref T')) dd sl) :: (new ++ frs'), p.1 < T') → (∀ p ∈ new ++ frs', p.1 ≠ e) → Q () { s with heap := h' } := fun h' frs' T' ts SU Fs' F' N' h3 hl he => by
    have hsub : ∀ p ∈ new₀ ++ frs', p ∈ new ++ frs' := fun p hp => by rw [hnew]; exact .tail _ hp
    refine k h' frs' T' ts SU Fs' F' (fun p hp => N' p ?_) h3 (fun p hp => hl p ?_) fun p hp => he p (hsub p hp)
    · rcases List.mem_cons.mp hp with h | hp
      · rw [h]; exact .head _
      · rcases List.mem_cons.mp hp with h | hp
        · rw [h]; exact .tail _ (.head _)
        · exact .tail _ (.tail _ (hsub p hp))
    · rcases List.mem_cons.mp hp with h | hp
      · rw [h]; exact .head _
      · exact .tail _ (hsub p hp)
  clear k N₃ N₀ F₀ hlt₀ oe₀ ho₀ h30 hnew
  have z := N (e, fldO c vs dd sl) (.head _)
  have NN : News hb L h₂ (new ++ frs) := fun p hp => N p (.tail _ hp)
  have hsz : 1 < vs.size := (Array.getElem?_eq_some_iff.mp h1).1
  have hbase : ∀ b ∈ L :: frs.map (·.1), hb.get? b = none := fun b hm => by
    rcases List.mem_cons.mp hm with rfl | hm
    · exact Heap.get?_none_of_le F.above
    · obtain ⟨p, hp, rfl⟩ := List.mem_map.mp hm
      exact (NN p (List.mem_append_right _ hp)).2.2
  obtain ⟨hff, hNs, _⟩ := TI.frames_at (name := name) (a := a) (cd := cd) (h' := h₂) (base := hb) hk Fs F NN (fun p hp => List.mem_append_right _ hp) (fun b o hb' => ⟨o.slots, hb'⟩) hbase
  have hfrs : ∀ (l : List Env) (frs : List (Addr × Obj)), Frs l frs → l.filterMap (·.frame) = frs.map (·.1) := by
    intro l
    induction l with
    | nil => intro frs Fs; cases frs with | nil => rfl | cons _ _ => exact Fs.elim
    | cons x r ih => intro frs Fs; cases frs with
      | nil => exact Fs.elim
      | cons p q => rw [List.filterMap_cons, Fs.2.1]; simp [ih q Fs.2.2.2]
  have hS : (envOf name scope L a cd :: l).filterMap (·.frame) = L :: frs.map (·.1) := by
    rw [List.filterMap_cons]; simp [envOf, hfrs l frs Fs]
  have heL : e ∉ L :: frs.map (·.1) := fun hm => by
    rcases List.mem_cons.mp hm with q | hm
    · exact z.2.1 q
    · obtain ⟨p, hp, q⟩ := List.mem_map.mp hm
      exact oe p (List.mem_append_right _ hp) q
  refine hPz ?_
  clear hPz Pz
  refine wpAny_bind (wpAny_frameOf_fun (Around.frames_deeper hfr) hff rfl fun h₁ hs₁ => ?_)
  rw [hS] at hs₁
  refine wpAny_bind (wpAny_entryPlaceOf fun pl hpl => ?_)
  unfold EntryCells.newEntry newFields
  refine wpAny_bind (wpAny_newObj_type ?_ (hpl.sizeOk5 _ _ _ _ _))
  refine byProp fun Pz hPz => ?_
  obtain ⟨frs', SU, ht⟩ := TI.sameUp_of (h' := h₁) (frs := frs) fun p hp => hs₁.2.2 p.1 p.2 (NN p (List.mem_append_right _ hp)).1
  refine hPz ?_
  clear hPz Pz
  generalize hts : ([Value.ref T, Value.ref L, Value.none, rawInt L, Value.none] ++ (if pl.isEmpty then List.replicate 6 Value.none else pl)).toArray = ts
  have h3 : ts[3]? = some (rawInt L) := by rw [← hts]; simp
  have hnL : ∀ b o, b ∉ L :: frs.map (·.1) → h₂.get? b = some o → h₁.get? b = some o := fun b o hn ho => (hs₁.2.1 b hn).trans ho
  have hbk : ∀ b o, hb.get? b = some o → h₁.get? b = some o := fun b o ho => hnL b o (fun hm => by rw [hbase b hm] at ho; cases ho) (F.keep b o ho)
  refine byProp fun Pz hPz => ?_
  obtain ⟨oL, es, ep, hL, r⟩ := F.ns
  obtain ⟨slL, hL₁⟩ := hs₁.2.2 L oL hL
  have F₁ : Fr hb L h₁ m := ⟨⟨_, es, ep, hL₁, r⟩, hbk, F.above⟩
  have haddr := SameUp.addr SU
  have hfr' : ∀ p ∈ frs', ∃ q ∈ frs, p.1 = q.1 := fun p hp => SU.fwd p hp
  have N₁ : News hb L h₁ ((e, fldO c vs dd sl) :: (new ++ frs')) := fun p hp => by
    rcases List.mem_cons.mp hp with rfl | hp
    · exact ⟨hnL _ _ heL z.1, z.2⟩
    · rcases List.mem_append.mp hp with hp | hp
      · have y := NN p (List.mem_append_left _ hp)
        refine ⟨hnL _ _ (fun hm => ?_) y.1, y.2⟩
        rcases List.mem_cons.mp hm with q | hm
        · exact y.2.1 q
        · obtain ⟨x, hx, q⟩ := List.mem_map.mp hm
          exact ho.mem p hp x hx q.symm
      · obtain ⟨x, hx, q⟩ := hfr' p hp
        have y := NN x (List.mem_append_right _ hx)
        exact ⟨ht p hp, by rw [q]; exact y.2.1, by rw [q]; exact y.2.2⟩
  have up : ∀ b o, h₁.get? b = some o → (h₁.push (fldO (.type "traceback") ts)).get? b = some o := fun b o q => Heap.get?_push_of_some _ q
  have F₂ : Fr hb L (h₁.push (fldO (.type "traceback") ts)) m := F₁.push _
  have ltT : ∀ p ∈ (e, fldO c vs dd sl) :: (new ++ frs'), p.1 < h₁.objs.size := fun p hp => Heap.lt_size (N₁ p hp).1
  have N₂ : News hb L (h₁.push (fldO (.type "traceback") ts)) ((h₁.objs.size, fldO (.type "traceback") ts) :: (e, fldO c vs dd sl) :: (new ++ frs')) := fun p hp => by
    rcases List.mem_cons.mp hp with rfl | hp
    · exact ⟨Heap.get?_push_size _ rfl, Ne.symm (Nat.ne_of_lt (Heap.lt_size hL₁)), Heap.get?_none_of_le (Nat.le_trans F.above (Nat.le_of_lt (Heap.lt_size hL₁)))⟩
    · exact ⟨up _ _ (N₁ p hp).1, (N₁ p hp).2⟩
  have oe' : ∀ p ∈ new ++ frs', p.1 ≠ e := fun p hp => by
    rcases List.mem_append.mp hp with hp | hp
    · exact oe p (List.mem_append_left _ hp)
    · obtain ⟨x, hx, q⟩ := hfr' p hp
      rw [q]; exact oe x (List.mem_append_right _ hx)
  refine hPz ?_
  clear hPz Pz
  refine fld_set (pre := [(h₁.objs.size, fldO (.type "traceback") ts)]) (s := { s with heap := h₁.push (fldO (.type "traceback") ts) }) F₂ N₂ (fun p hp => ?_) oe' hsz fun h' F' N' => ?_
  · rw [List.mem_singleton.mp hp]
    exact Ne.symm (Nat.ne_of_lt (ltT _ (.head _)))
  · exact kk h' frs' h₁.objs.size ts SU (Fs.up SU) F' N' h3 (fun p hp => by
      rcases List.mem_cons.mp hp with rfl | hp
      · exact ltT (e, fldO c vs dd sl) (.head _)
      · exact ltT p (.tail _ hp)) oe'
/-- an exception of an own class, from a callee, is taken by a clause of that class -/
theorem caught_led {hb : Heap} {A₀ : Around} {E : Value → Shared → Prop} {name : Str} {scope : Scope} {L a e T : Addr} {cd : Value} {m : Str → Option Value} {frs new : List (Addr × Obj)} {c : Value} {vs ts : Array Value} {x : Str} {np pos : Pos} {b₀ : Stmt} {suite : List Stmt} {rest : List ExceptHandler} {Q : Flow → Shared → Prop} {mean : ExcName → Option Value} {mg mb : Str → Option Value}
    (X : (hd.heap_1 w.params).In hb) (TP : Top Vw Lo mean mg mb hb) (hfr : A₀.frames = some l) (Fs : Frs l frs) (F : Fr hb L s.heap m) (N : News hb L s.heap ((T, fldO (.type "traceback") ts) :: (e, fldO c vs) :: (new ++ frs))) (h1 : vs[1]? = some (.ref T)) (h3 : ts[3]? = some .none) (hlt : ∀ p ∈ (e, fldO c vs) :: (new ++ frs), p.1 ≠ T) (oe : ∀ p ∈ new ++ frs, p.1 ≠ e) (ho : AllOff frs new)
    (hn : KtsName (hd.heap_1 w.params) x c) (he : exmOne (hd.heap_1 w.params) c c = some true)
    (k : ∀ h' frs', SameUp frs frs' → Frs l frs' → Fr hb L h' m → News hb L h' (new ++ frs') → wpAny (model Pg w) ((A₀.deeper (envOf name scope L a cd)).mark (some (.ref e))) (execs (b₀ :: suite) (envOf name scope L a cd)) Q E { s with heap := h' })
    (hk : scope.kind = .function := by rfl) (hx : (envOf name scope L a cd).kindOf x = some .globalImplicit := by rfl) (hdb : (x == ("__debug__" : Str)) = false := by decide)
    (hE : PassesOwnAt (model Pg w) ((A₀.deeper (envOf name scope L a cd)).mark (some (.ref e))) (A₀.deeper (envOf name scope L a cd)) (envOf name scope L a cd) E := by passes_own) :
    wpAny (model Pg w) (A₀.deeper (envOf name scope L a cd)) (noteFrame (.ref e) (envOf name scope L a cd))
      (fun _ s₂ => wpAny (model Pg w) (A₀.deeper (envOf name scope L a cd)) (setFlight (.ref e) none) (fun _ s₃ =>
        wpAny (model Pg w) (A₀.deeper (envOf name scope L a cd)) (handleBy (.ref e) (envOf name scope L a cd) (.ExceptHandler (some (.Name x np)) none (b₀ :: suite) pos :: rest)) Q E s₃) E s₂) E s := by
  refine noted_next hfr Fs F N h1 h3 hlt oe ho (fun h2 frs2 T2 ts2 SU2 Fs2 F2 N2 h23 hlt2 oe2 => ?_) hk
  have hv1 : (vs.setIfInBounds 1 (Value.ref T2))[1]? = some (.ref T2) := by
    have := (Array.getElem?_eq_some_iff.mp h1).1
    simp [this]
  refine flight_led (s := { s with heap := h2 }) F2 N2 hv1 (Array.getElem?_eq_some_iff.mp h23).1 hlt2 fun h4 ts4 F4 N4 h43 => ?_
  have LT : Looks (model Pg w) h4 (typeOf (.ref e)) c := (Looks.ld (part := none) (N4 (e, fldO c (vs.setIfInBounds 1 (.ref T2))) (.tail _ (.head _))).1).andThen .now
  refine wpAny_handleBy_cons (codeAny_handlers_test (test_name (p := Vw) (loose := Lo) (mg := mg) (mb := mb) hn he hk hx hdb _ _ _ { s with heap := h4 } hb e m F4 X (topRead_of TP) LT fun h5 kp => ?_)) (by intro q; cases q)
  refine codeAny_handlers_suite ?_
  have F5 : Fr hb L h5 m := F4.keeps kp
  have N5 := N4.grown kp
  refine flight_led (s := { s with heap := h5 }) F5 N5 hv1 (Array.getElem?_eq_some_iff.mp h43).1 hlt2 fun h6 ts6 F6 N6 _ => ?_
  exact wpAny_passesOwnAt hE (k h6 frs2 SU2 Fs2 F6 fun p hp => N6 p (.tail _ (.tail _ hp)))
end
end -- MTE
example : True := by first | (w_top off; walk1) | trivial
section -- MP1
open TI (Frs SameUp)
theorem off1_mem' {D : Addr} {l : List (Addr × Obj)} (h : LCg.Off1 D l) : ∀ p ∈ l, p.1 ≠ D := by
  intro p hp
  induction l with
  | nil => cases hp
  | cons q r ih => rcases List.mem_cons.mp hp with rfl | hp
                   · exact h.1
                   · exact ih h.2 hp
section
variable {w : World} {dp un : Nat} {l : List Env} {gd : Option (List Code)} {h₀ : Heap} {s : Shared}
theorem prepare_tell (x dx dn : Addr) (o : Obj) (t0 t1 t2 t3 tp tf : Tok) (pa fi : Int) (nd : Nat → Nd) (succ : Nat → Option Nat) (fm frs : List (Addr × Obj)) (hfm : fm = fam nd (List.range 12)) (ho : o.IsDictOf (intKind Pg w) (kvsOf nd 12))
    (hsc : ∀ k, k < 12 → IntsAre (nd k).sc (zs (succ k).toList)) (hlt : ∀ k j, succ k = some j → j < 12) (hdn : (dn == sysModules) = false) (BG : List (Addr × Obj)) (hBG : BG = (x, instObj 137 dx) :: (dx, sortD w.params t0 t1 t2 t3 (.ref dn) .none (.int pa tp) (.int fi tf)) :: (dn, o) :: fm)
    (hap : Apart (BG ++ frs)) (hdp : dp + 12 < recursionLimit) :
    TellXE w dp l gd un h₀ s BG frs (call (.ref 92) [.ref x])
      (fun r new => r = .none ∧ (∀ k, k < 12 → Term succ k) ∧ ∃ rl n ys, new = sortL w.params x dx dn rl o t0 t1 t2 t3 tp tf pa fi ys n ++ fm ∧ IntsAre ys (zs ((List.range 12).filter fun k => decide ((nd k).np = 0))) ∧ Apart new)
      (fun e new => (∃ k, k < 12 ∧ ¬ Term succ k) ∧ ∃ T vs ts rl n ys, new = (T, fldO (.type "traceback") ts) :: (e, fldO (.ref 55) vs) :: (sortL w.params x dx dn rl o t0 t1 t2 t3 tp tf pa fi ys n ++ fm) ∧ IntsAre ys (zs ((List.range 12).filter fun k => decide ((nd k).np = 0))) ∧ Apart (sortL w.params x dx dn rl o t0 t1 t2 t3 tp tf pa fi ys n ++ fm) ∧ vs[1]? = some (.ref T) ∧ ts[3]? = some .none ∧
        (∀ p ∈ (e, fldO (.ref 55) vs) :: (sortL w.params x dx dn rl o t0 t1 t2 t3 tp tf pa fi ys n ++ fm), p.1 < T) ∧ (∀ p ∈ sortL w.params x dx dn rl o t0 t1 t2 t3 tp tf pa fi ys n ++ fm, p.1 ≠ e)) := by
  intro Fs rest Q E S O D hapR hQ hE
  refine wpAny_call (enter S O (D.sub (List.subset_append_left _ _)) (by k_is) (by k_is) (by omega) (binds := [(Str.ofString "self", .ref x)]) (BindsTo.of_eq rfl) (locs rfl) ?_ rfl rfl rfl (by decide))
  intro L h₁ mean mg mb X T F N
  have N0 : News (under s.heap (BG ++ frs)) L h₁ ((x, instObj 137 dx) :: (dx, sortD w.params t0 t1 t2 t3 (.ref dn) .none (.int pa tp) (.int fi tf)) :: (dn, o) :: (fm ++ frs)) := fun p hp => N p (by rw [hBG]; exact hp)
  clear N
  unfold sortD at N0
  repeat' (first | ((with_reducible show wpAny _ _ (eval (Expr.ListComp _ _ _ _) _) _ _ _); with_unfolding_all refine ListComp_W ‹Fr _ _ _ _› (by rfl) (by decide) (by rfl) (by decide) (by rfl) ?_) | (first | (k_dflt (refine ite_neg (by decide) ?_)) | (k_dflt (refine ite_pos (by decide) ?_))) | top_args)
  rename Fr _ _ _ _ => F2
  rename News _ _ _ _ => N2
  rename_i vw _ l1
  have b4 : ∀ k, k < 12 → ndY k (nd k) ∈ fm ++ frs ∧ ndD (nd k) ∈ fm ++ frs := fun k hk => by
    have := (fam_perm (nd := nd) hk).symm.subset
    rw [← hfm] at this
    exact ⟨List.mem_append_left _ (this (List.mem_cons_self)), List.mem_append_left _ (this (List.mem_cons_of_mem _ List.mem_cons_self))⟩
  refine srcValues ho rfl F2 N2 (.head _) (by first | top_raise0 | simp) (by rw [kvs_len, sizeLine_eq]; decide) fun g => ?_
  refine turnsT (fun i ys news => news = (vw, ({ cls := .type "dict_values", data := .fields #[.ref dn] } : Obj)) :: (x, instObj 137 dx) :: (dx, sortD w.params t0 t1 t2 t3 (.ref dn) .none (.int pa tp) (.int fi tf)) :: (dn, o) :: (fm ++ frs) ∧ IntsAre ys (zs ((List.range i).filter fun k => decide ((nd k).np = 0)))) ?_ ?_ _ 0 [] _ (Nat.zero_add _) ⟨rfl, .nil⟩
  · intro i ys news hi hZ0 v I oI C oC D' m₂ h tk E' hZ1 hC hx F N off ne
    refine byProp fun Pz hPz => ?_
    obtain ⟨rfl, hys⟩ := hZ0
    obtain ⟨k, hv⟩ := hZ1
    have hi12 : i < 12 := by simpa [kvs_len] using hi
    obtain ⟨rfl, rfl⟩ : k = (i : Int) ∧ v = .ref (nd i).y := by
      simp [kvsOf, hi12] at hv
      exact ⟨hv.1.symm, hv.2.symm⟩
    obtain ⟨by1, by2⟩ := b4 i hi12
    clear F2 N2
    have N9 := N
    have N5 : News (under s.heap (BG ++ frs)) L h ((I, oI) :: (C, oC) :: (D', LCg.lst ys) :: ndY i (nd i) :: ndD (nd i) :: (vw, ({ cls := .type "dict_values", data := .fields #[.ref dn] } : Obj)) :: (x, instObj 137 dx) :: (dx, sortD w.params t0 t1 t2 t3 (.ref dn) .none (.int pa tp) (.int fi tf)) :: (dn, o) :: (fm ++ frs)) := fun p hp => N p (by
      revert p; top_name)
    obtain ⟨yk, dk, lk, t1k, t2k, npk, sck, nk, hndk⟩ : ∃ yk dk lk t1k t2k npk sck nk, nd i = ⟨yk, dk, lk, t1k, t2k, npk, sck, nk⟩ := ⟨_, _, _, _, _, _, _, _, rfl⟩
    simp only [hndk] at N5 hx
    clear N
    unfold sortD at N5
    refine hPz ?_
    clear hPz Pz
    k_steps
    · rename_i hz
      refine LCg.CompEnd.intro F N9 ((vw, ({ cls := .type "dict_values", data := .fields #[.ref dn] } : Obj)) :: (x, instObj 137 dx) :: (dx, sortD w.params t0 t1 t2 t3 (.ref dn) .none (.int pa tp) (.int fi tf)) :: (dn, o) :: (fm ++ frs)) (fun p hp => hp) off (by first | top_raise0 | simp) ⟨rfl, ?_⟩
      rw [List.range_succ, List.filter_append]
      have : decide ((nd i).np = 0) = true := by rw [hndk]; simpa using hz
      simpa [this] using hys.append (.cons (i : Int) t1k .nil)
    · rename_i hz
      refine LCg.CompEnd.intro F N9 ((vw, ({ cls := .type "dict_values", data := .fields #[.ref dn] } : Obj)) :: (x, instObj 137 dx) :: (dx, sortD w.params t0 t1 t2 t3 (.ref dn) .none (.int pa tp) (.int fi tf)) :: (dn, o) :: (fm ++ frs)) (fun p hp => hp) off (by first | top_raise0 | simp) ⟨rfl, ?_⟩
      rw [List.range_succ, List.filter_append]
      have : decide ((nd i).np = 0) = false := by rw [hndk]; simpa using hz
      simpa [this] using hys
  · rintro ys news ⟨rfl, hys⟩
    rw [kvs_len] at hys
    clear F2 N2
    unfold LCg.FinE
    intro rl h2 tk2 F2 N2 o2
    simp only [LCg.Off1] at o2
    refine byProp fun Pz hPz => ?_
    obtain ⟨p1, p2, p3, p4, p5⟩ := o2
    have hap' : Apart ((x, instObj 137 dx) :: (dx, sortD w.params t0 t1 t2 t3 (.ref dn) .none (.int pa tp) (.int fi tf)) :: (dn, o) :: (fm ++ frs)) := by rw [hBG] at hap; exact hap
    have q1 := hap'.head
    have q2 := hap'.tail.head
    simp only [List.forall_mem_cons] at q1 q2
    obtain ⟨q3, q4, q5⟩ := q1
    obtain ⟨q6, q7⟩ := q2
    have q8 : vw ≠ dx := Nat.ne_of_gt l1.2.1
    have N0 := N2
    clear N2
    unfold sortD at N0
    refine hPz ?_
    clear hPz Pz
    k_steps
    rename Fr _ _ _ _ => F4
    rename News _ _ _ _ => N4
    have hap3 : ∀ oL, Apart (sortL w.params x dx dn rl o t0 t1 t2 t3 tp tf pa fi ys ys.length ++ fm ++ ((L, oL) :: frs)) := fun oL => by
      have g1 : ∀ p ∈ fm ++ frs, p.1 ≠ rl := fun p hp => off1_mem' p5 p hp
      have h1 : Apart ((L, oL) :: (rl, LCg.lst ys) :: (x, instObj 137 dx) :: (dx, sortD w.params t0 t1 t2 t3 (.ref dn) .none (.int pa tp) (.int fi tf)) :: (dn, o) :: (fm ++ frs)) := by
        refine (hap'.cons (a := (rl, LCg.lst ys)) fun p hp => ?_).cons fun p hp => ?_
        · simp only [List.mem_cons] at hp
          rcases hp with h | h | h | h
          · rw [h]; exact p2
          · rw [h]; exact p3
          · rw [h]; exact p4
          · exact g1 p h
        · simp only [List.mem_cons] at hp
          rcases hp with h | h | h | h | h
          · rw [h]; exact (N4 (rl, _) (.head _)).2.1
          · rw [h]; exact (N4 (x, _) (.tail _ (.tail _ (.head _)))).2.1
          · rw [h]; exact (N4 (dx, _) (.tail _ (.tail _ (.tail _ (.head _))))).2.1
          · rw [h]; exact (N4 (dn, _) (.tail _ (.tail _ (.tail _ (.tail _ (.head _)))))).2.1
          · exact (N4 p (.tail _ (.tail _ (.tail _ (.tail _ (.tail _ h)))))).2.1
      refine (h1.perm ?_).addr (l' := sortL w.params x dx dn rl o t0 t1 t2 t3 tp tf pa fi ys ys.length ++ fm ++ ((L, oL) :: frs)) (l := (x, instObj 137 dx) :: (dx, sortD w.params t0 t1 t2 t3 (.ref dn) .none (.int pa tp) (.int fi tf)) :: (dn, o) :: (rl, LCg.lst ys) :: (fm ++ ((L, oL) :: frs))) (by simp [sortL])
      refine List.Perm.trans ?_ (List.Perm.cons _ (List.Perm.cons _ (List.Perm.cons _ (List.Perm.cons _ (List.perm_middle.symm)))))
      refine List.Perm.trans (l₂ := (L, oL) :: (x, instObj 137 dx) :: (dx, sortD w.params t0 t1 t2 t3 (.ref dn) .none (.int pa tp) (.int fi tf)) :: (dn, o) :: (rl, LCg.lst ys) :: (fm ++ frs)) (List.Perm.cons _ (List.perm_middle (l₁ := [(x, instObj 137 dx), (dx, sortD w.params t0 t1 t2 t3 (.ref dn) .none (.int pa tp) (.int fi tf)), (dn, o)])).symm) ?_
      exact (List.perm_middle (l₁ := [(x, instObj 137 dx), (dx, sortD w.params t0 t1 t2 t3 (.ref dn) .none (.int pa tp) (.int fi tf)), (dn, o), (rl, LCg.lst ys)])).symm
    refine TellX.use (foc := sortL w.params x dx dn rl o t0 t1 t2 t3 tp tf pa fi ys ys.length ++ fm) (news := []) (fun oL => cycle_tell x dx dn rl o t0 t1 t2 t3 tp tf pa fi ys ys.length nd succ fm _ hfm ho hsc hlt hdn (hap3 oL) (by simp only [Around.deeper]; omega)) Fs X T F4 N4 (fun p hp => ?_) (fun p _ q hq => nomatch hq) rfl ?_
    · revert p; top_name
    · have hA3 : Apart (sortL w.params x dx dn rl o t0 t1 t2 t3 tp tf pa fi ys ys.length ++ fm) := (hap3 (instObj 137 dx)).left
      rintro r foc' frs' h' tk' hpost SU Fs' F' N' hoff
      clear F4 N4
      rcases hpost with ⟨rfl, hT, rfl⟩ | ⟨D9, vs, nn, rfl, hpos, hlen, hno, rfl, hD9⟩
      · repeat' (first | (first | (k_dflt (refine ite_neg (by decide) ?_)) | (k_dflt (refine ite_pos (by decide) ?_))) | top_args)
        show Q .none _
        rename Fr _ _ _ _ => F4
        rename News _ _ _ _ => N4
        refine fin O D hapR hQ (sortL w.params x dx dn rl o t0 t1 t2 t3 tp tf pa fi ys ys.length ++ fm ++ frs') ⟨_, frs', rfl, SU, fun p hp q hq => hoff p hp q (by simpa using hq), rfl, hT, rl, ys.length, ys, rfl, hys, hA3⟩ F4 N4 (fun p hp => by simpa [sortL] using hp)
      · have hz : vs.length ≤ 1000 := by omega
        repeat' (first | ((with_reducible show wpAny _ _ (truthy (Value.ref _)) _ _ _); first | (k_dflt (refine li_truthy_yes (by k_asm) (by k_mem) (by assumption) (by assumption) ?_); intro _) | (k_dflt (refine li_truthy_no (by k_asm) (by k_mem) ?_); intro _)) | (first | (k_dflt (refine ite_neg (by decide) ?_)) | (k_dflt (refine ite_pos (by decide) ?_))) | top_args)
        rename Fr _ _ _ _ => F4
        rename News _ _ _ _ => N4
        rename Heap.MadeExcOf _ _ _ _ _ => hx
        rename_i e9
        refine byProp fun Pz hPz => ?_
        obtain ⟨t9, F5, N5, hoe⟩ := exc_ledO hx F4 N4
        have hall : ∀ p ∈ (sortL w.params x dx dn rl o t0 t1 t2 t3 tp tf pa fi ys ys.length ++ fm) ++ frs', p ∈ (D9, W.listOf vs.toArray nn) :: (sortL w.params x dx dn rl o t0 t1 t2 t3 tp tf pa fi ys ys.length ++ fm) ++ [] ++ frs' := fun p hp => by
          rw [List.append_nil, List.cons_append]
          exact List.mem_cons_of_mem _ hp
        have N6 : News (under s.heap (BG ++ frs)) L _ ((e9, fldO (.ref 55) #[.ref t9, .none, .none, .none, .bool false, .none]) :: ((sortL w.params x dx dn rl o t0 t1 t2 t3 tp tf pa fi ys ys.length ++ fm) ++ frs')) := fun p hp => N5 p (by
          rcases List.mem_cons.mp hp with h | h
          · rw [h]; exact .head _
          · exact .tail _ (hall p h))
        refine hPz ?_
        clear hPz Pz
        unfold leaving
        refine wpAny_bind (noted_led (l := l) rfl Fs' F5 N6 rfl (fun p hp => hoe p (hall p hp)) (AllOff.of fun p hp q hq => hoff p (.tail _ hp) q (by simpa using hq)) fun h7 frs2 T7 ts7 SU2 Fs2 F7 N7 h3 hlt7 hoffe => ?_)
        refine flight_led F7 N7 rfl (Array.getElem?_eq_some_iff.mp h3).1 hlt7 fun h8 ts8 F8 N8 h38 => ?_
        have hne : ∀ p ∈ sortL w.params x dx dn rl o t0 t1 t2 t3 tp tf pa fi ys ys.length ++ fm, p.1 ≠ e9 := fun p hp => hoffe p (List.mem_append_left _ hp)
        refine finE O D hapR hE ((T7, fldO (.type "traceback") ts8) :: (e9, fldO (.ref 55) #[.ref t9, .ref T7, .none, .none, .bool false, .none]) :: (sortL w.params x dx dn rl o t0 t1 t2 t3 tp tf pa fi ys ys.length ++ fm) ++ frs2) ⟨(T7, fldO (.type "traceback") ts8) :: (e9, fldO (.ref 55) #[.ref t9, .ref T7, .none, .none, .bool false, .none]) :: (sortL w.params x dx dn rl o t0 t1 t2 t3 tp tf pa fi ys ys.length ++ fm), frs2, rfl, SU.trans SU2, ?_, hno, T7, _, ts8, rl, ys.length, ys, rfl, hys, hA3, rfl, h38, ?_, hne⟩ F8 N8 (fun p hp => hp)
        · intro p hp q hq
          rcases List.mem_cons.mp hp with rfl | hp
          · exact Ne.symm (Nat.ne_of_lt (hlt7 q (.tail _ (List.mem_append_right _ hq))))
          · rcases List.mem_cons.mp hp with rfl | hp
            · exact Ne.symm (hoffe q (List.mem_append_right _ hq))
            · obtain ⟨q', hq', e⟩ := SU2.fwd q hq
              rw [e]
              exact hoff p (.tail _ hp) q' (by simpa using hq')
        · intro p hp
          rcases List.mem_cons.mp hp with rfl | hp
          · exact hlt7 _ (.head _)
          · exact hlt7 p (.tail _ (List.mem_append_left _ hp))
end
end -- MP1
example : True := by first | (w_top off; walk1) | trivial
section -- MZ2
/- plain: the rounds -/
section
variable {succ : Nat → Option Nat} {q : Nat → Bool}
structure SuccOK (succ : Nat → Option Nat) (q : Nat → Bool) : Prop where
  lt : ∀ k j, succ k = some j → j < 12
  cut : ∀ k j, succ k = some j → q j = false
  inj : ∀ k k' j, succ k = some j → succ k' = some j → k = k'
structure Lev (succ : Nat → Option Nat) (q : Nat → Bool) (Rs : List (List Nat)) (cur : List Nat) : Prop where
  nd : (Rs.flatten ++ cur).Nodup
  lt : ∀ k ∈ Rs.flatten ++ cur, k < 12
  back : ∀ j ∈ Rs.flatten ++ cur, q j = true ∨ ∃ k ∈ Rs.flatten, succ k = some j
  ne : ∀ R ∈ Rs, R ≠ []
theorem nodup_filterMap {f : Nat → Option Nat} (inj : ∀ k k' j, f k = some j → f k' = some j → k = k') : ∀ {l : List Nat}, l.Nodup → (l.filterMap f).Nodup
  | [], _ => .nil
  | a :: r, h => by
    rw [List.nodup_cons] at h
    rw [List.filterMap_cons]
    cases e : f a with
    | none => exact nodup_filterMap inj h.2
    | some j =>
      refine List.nodup_cons.mpr ⟨fun hm => ?_, nodup_filterMap inj h.2⟩
      obtain ⟨b, hb, eb⟩ := List.mem_filterMap.mp hm
      exact h.1 (inj a b j e eb ▸ hb)
theorem Lev.step {Rs : List (List Nat)} {cur : List Nat} (H : SuccOK succ q) (L : Lev succ q Rs cur) (hne : cur ≠ []) : Lev succ q (Rs ++ [cur]) (cur.filterMap succ) := by
  have hfl : (Rs ++ [cur]).flatten = Rs.flatten ++ cur := by simp
  refine ⟨?_, ?_, ?_, ?_⟩
  · rw [hfl, List.nodup_append]
    refine ⟨L.nd, nodup_filterMap H.inj (List.nodup_append.mp L.nd).2.1, fun a ha b hb e => ?_⟩
    subst e
    obtain ⟨k, hk, ek⟩ := List.mem_filterMap.mp hb
    rcases L.back a ha with h | ⟨k', hk', ek'⟩
    · rw [H.cut k a ek] at h; cases h
    · exact (List.nodup_append.mp L.nd).2.2 k' hk' k hk (H.inj k' k a ek' ek)
  · intro k hk
    rw [hfl] at hk
    rcases List.mem_append.mp hk with h | h
    · exact L.lt k h
    · obtain ⟨k', _, e⟩ := List.mem_filterMap.mp h
      exact H.lt k' k e
  · intro j hj
    rw [hfl] at hj ⊢
    rcases List.mem_append.mp hj with h | h
    · rcases L.back j h with h | ⟨k, hk, e⟩
      · exact .inl h
      · exact .inr ⟨k, List.mem_append_left _ hk, e⟩
    · obtain ⟨k, hk, e⟩ := List.mem_filterMap.mp h
      exact .inr ⟨k, List.mem_append_right _ hk, e⟩
  · intro R hR
    rcases List.mem_append.mp hR with h | h
    · exact L.ne R h
    · rw [List.mem_singleton.mp h]; exact hne
/-- the rounds from here on -/
noncomputable def roundsF (succ : Nat → Option Nat) : Nat → List Nat → List (List Nat)
  | 0, _ => []
  | n + 1, cur => if cur = [] then [] else cur :: roundsF succ n (cur.filterMap succ)
theorem nodup_len {l : List Nat} {n : Nat} (h : l.Nodup) (hl : ∀ k ∈ l, k < n) : l.length ≤ n := by
  induction n generalizing l with
  | zero =>
    cases l with
    | nil => exact Nat.le_refl _
    | cons a r => exact absurd (hl a (.head _)) (Nat.not_lt_zero _)
  | succ n ih =>
    have h2 : (l.erase n).length ≤ n := ih (h.erase n) fun k hk => by
      have h3 := (h.mem_erase_iff).mp hk
      have := hl k h3.2
      omega
    rw [List.length_erase] at h2
    split at h2 <;> omega
theorem Lev.len {Rs : List (List Nat)} {cur : List Nat} (L : Lev succ q Rs cur) : Rs.flatten.length + cur.length ≤ 12 := by
  have := nodup_len L.nd L.lt
  simpa using this
theorem len_flatten {Rs : List (List Nat)} (h : ∀ R ∈ Rs, R ≠ []) : Rs.length ≤ Rs.flatten.length := by
  induction Rs with
  | nil => exact Nat.le_refl _
  | cons R r ih =>
    have h1 := ih fun R hR => h R (.tail _ hR)
    have h2 : 0 < R.length := List.length_pos_iff.mpr (h R (.head _))
    simp only [List.length_cons, List.flatten_cons, List.length_append]
    omega
noncomputable def npS (Rs : List (List Nat)) (cur : List Nat) (j : Nat) : Int := if j ∈ Rs.flatten then -2 else if j ∈ cur then 0 else 1
theorem lev0 (q : Nat → Bool) : Lev succ q [] ((List.range 12).filter q) :=
  ⟨by rw [List.flatten_nil, List.nil_append]; exact List.Pairwise.filter _ List.nodup_range, fun k hk => by simp at hk; exact hk.1, fun j hj => by simp at hj; exact .inl hj.2, fun _ h => nomatch h⟩
theorem rounds_nil (f : Nat) : roundsF succ f [] = [] := by cases f <;> simp [roundsF]
theorem rounds_step {f : Nat} {cur : List Nat} {Rs : List (List Nat)} {C : List (List Nat)} (hne : cur ≠ []) (h : C = Rs ++ roundsF succ (f + 1) cur) : C = (Rs ++ [cur]) ++ roundsF succ f (cur.filterMap succ) := by
  rw [h, roundsF, if_neg hne]; simp
theorem npS_step {Rs : List (List Nat)} {cur : List Nat} (H : SuccOK succ q) (L : Lev succ q Rs cur) (hne : cur ≠ []) (j : Nat) :
    npS (Rs ++ [cur]) (cur.filterMap succ) j = if j ∈ cur then -2 else if j ∈ cur.filterMap succ then 0 else npS Rs cur j := by
  have L2 := (L.step H hne).nd
  have hfl : (Rs ++ [cur]).flatten = Rs.flatten ++ cur := by simp
  rw [hfl] at L2
  unfold npS
  rw [hfl]
  by_cases h1 : j ∈ cur
  · simp [h1]
  · by_cases h2 : j ∈ cur.filterMap succ
    · have h3 : j ∉ Rs.flatten ++ cur := fun h => (List.nodup_append.mp L2).2.2 j h j h2 rfl
      simp only [List.mem_append, not_or] at h3
      rw [if_neg (by simp [h3.1, h3.2]), if_pos h2, if_neg h1, if_pos h2]
    · rw [if_neg h1, if_neg h2, if_neg h2]
      by_cases h3 : j ∈ Rs.flatten
      · rw [if_pos (List.mem_append_left _ h3), if_pos h3]
      · rw [if_neg (by simp only [List.mem_append, not_or]; exact ⟨h3, h1⟩), if_neg h3, if_neg h1]
end
end -- MZ2
example : True := by first | (w_top off; walk1) | trivial
section -- MRa
open TI (Frs SameUp)
theorem fam_snoc (nd : Nat → Nd) (k : Nat) (ks : List Nat) : fam nd (ks ++ [k]) = fam nd ks ++ [ndY k (nd k), ndD (nd k), ndL (nd k)] := by simp [fam]
theorem fam_grow {nd : Nat → Nd} {k : Nat} {r : Nd} : fam (upd nd k r) (List.range (k + 1)) = fam nd (List.range k) ++ [ndY k r, ndD r, ndL r] := by
  rw [List.range_succ, fam_snoc, upd_self, fam_upd (by first | top_raise0 | simp)]
noncomputable def LtCh : List (Addr × Obj) → Prop
  | p :: q :: r => @LT.lt Nat _ p.1 q.1 ∧ LtCh (q :: r)
  | _ => True
theorem LtCh.all {l : List (Addr × Obj)} : ∀ {p : Addr × Obj}, LtCh (p :: l) → ∀ q ∈ l, @LT.lt Nat _ p.1 q.1 := by
  induction l with
  | nil => intro p _ q hq; cases hq
  | cons a l ih =>
    intro p h q hq
    cases hq with
    | head => exact h.1
    | tail _ hq => exact Nat.lt_trans h.1 (ih h.2 q hq)
theorem LtCh.apart {l : List (Addr × Obj)} (h : LtCh l) : Apart l := by
  induction l with
  | nil => exact List.nodup_nil
  | cons a l ih =>
    refine Apart.cons (ih ?_) fun p hp => Nat.ne_of_gt (h.all p hp)
    cases l with
    | nil => trivial
    | cons b l => exact h.2
theorem Apart.app {a b : List (Addr × Obj)} (ha : Apart a) (hb : Apart b) (h : ∀ p ∈ a, ∀ q ∈ b, p.1 ≠ q.1) : Apart (a ++ b) := by
  induction a with
  | nil => exact hb
  | cons x r ih =>
    refine (ih ha.tail fun p hp => h p (.tail _ hp)).cons fun p hp => ?_
    rcases List.mem_append.mp hp with hp | hp
    · exact ha.head p hp
    · exact Ne.symm (h x (.head _) p hp)
/-- the node i is put behind the node p -/
noncomputable def turnN (nd : Nat → Nd) (i p : Nat) (tb tk : Tok) : Nat → Nd := fun j => { nd j with np := if j = i then (nd j).np + 1 else (nd j).np, t2 := if j = i then tb else (nd j).t2, sc := if j = p then (nd j).sc ++ [.int i tk] else (nd j).sc, n := if j = p then (nd j).n + 1 else (nd j).n }
theorem fam_congr {nd nd' : Nat → Nd} {ks : List Nat} (h : ∀ j ∈ ks, nd' j = nd j) : fam nd' ks = fam nd ks := by
  induction ks with
  | nil => rfl
  | cons j js ih => rw [fam_cons, fam_cons, h j (.head _), ih fun k hk => h k (.tail _ hk)]
theorem turnN_off {nd : Nat → Nd} {i p j : Nat} {tb tk : Tok} (h : j ≠ i) (h2 : j ≠ p) : turnN nd i p tb tk j = nd j := by simp [turnN, h, h2]
theorem turnN_self {nd : Nat → Nd} {i : Nat} {tb tk : Tok} (hi : i < 12) : (fam (turnN nd i i tb tk) (List.range 12)).Perm (ndY i { nd i with np := (nd i).np + 1, t2 := tb } :: ndD (nd i) :: ((nd i).l, W.listOf (List.toArray ((nd i).sc ++ [.int i tk])) ((nd i).n + 1)) :: fam nd (but i)) := by
  have h := fam_perm (nd := turnN nd i i tb tk) hi
  have e0 : fam (turnN nd i i tb tk) (but i) = fam nd (but i) := fam_congr fun j hj => turnN_off (fun e => not_but (e ▸ hj)) (fun e => not_but (e ▸ hj))
  rw [e0] at h
  have e : turnN nd i i tb tk i = { nd i with np := (nd i).np + 1, t2 := tb, sc := (nd i).sc ++ [.int i tk], n := (nd i).n + 1 } := by simp [turnN]
  rw [e] at h
  exact h
theorem turnN_two {nd : Nat → Nd} {i p : Nat} {tb tk : Tok} (hi : i < 12) (hp : p < 12) (hpi : p ≠ i) : (fam (turnN nd i p tb tk) (List.range 12)).Perm (ndY i { nd i with np := (nd i).np + 1, t2 := tb } :: ndD (nd i) :: ndL (nd i) :: ndY p (nd p) :: ndD (nd p) :: ((nd p).l, W.listOf (List.toArray ((nd p).sc ++ [.int i tk])) ((nd p).n + 1)) :: fam nd ((but i).erase p)) := by
  have h := fam_perm2 (nd := turnN nd i p tb tk) hi hp hpi
  have hnd : (but i).Nodup := List.Nodup.erase _ List.nodup_range
  have e0 : fam (turnN nd i p tb tk) ((but i).erase p) = fam nd ((but i).erase p) := fam_congr fun j hj => turnN_off (fun e => not_but (e ▸ (List.mem_of_mem_erase hj))) (fun e => (List.Nodup.not_mem_erase hnd) (e ▸ hj))
  rw [e0] at h
  have e : turnN nd i p tb tk i = { nd i with np := (nd i).np + 1, t2 := tb } := by simp [turnN, Ne.symm hpi]
  have e2 : turnN nd i p tb tk p = { nd p with sc := (nd p).sc ++ [.int i tk], n := (nd p).n + 1 } := by simp [turnN, hpi]
  rw [e, e2] at h
  exact h
theorem mem_zs {l : List Nat} {i : Nat} : (i : Int) ∈ zs l ↔ i ∈ l := by
  constructor
  · intro h
    obtain ⟨j, hj, e⟩ := List.mem_map.mp h
    have : j = i := by exact_mod_cast e
    exact this ▸ hj
  · exact fun h => List.mem_map_of_mem h
/-- who stands behind k, by the first i places -/
noncomputable def scL (perm : Nat → Nat) (q : Nat → Bool) (i k : Nat) : List Nat := (List.range i).filter fun j => !q j && (perm j == k)
theorem scL_succ (perm : Nat → Nat) (q : Nat → Bool) (i k : Nat) : scL perm q (i + 1) k = scL perm q i k ++ (if q i = false ∧ perm i = k then [i] else []) := by
  unfold scL
  rw [List.range_succ, List.filter_append]
  congr 1
  by_cases h : q i = false <;> by_cases h2 : perm i = k <;> simp [h, h2]
theorem scL_len {perm : Nat → Nat} {q : Nat → Bool} {i k : Nat} : (scL perm q i k).length ≤ i := by
  have := List.length_filter_le (fun j => !q j && (perm j == k)) (List.range i)
  simpa [scL] using this
/-- who stands behind k -/
noncomputable def succP (perm : Nat → Nat) (q : Nat → Bool) (k : Nat) : Option Nat := (scL perm q 12 k).head?
theorem succP_some {perm : Nat → Nat} {q : Nat → Bool} {k j : Nat} (h : succP perm q k = some j) : j < 12 ∧ q j = false ∧ perm j = k := by
  have := List.mem_of_mem_head? (show j ∈ (scL perm q 12 k).head? from h)
  simp [scL] at this
  exact ⟨this.1, this.2⟩
theorem scL_succP {perm : Nat → Nat} (hinj : ∀ i j, i < 12 → j < 12 → perm i = perm j → i = j) (q : Nat → Bool) (k : Nat) : scL perm q 12 k = (succP perm q k).toList := by
  have hu : ∀ a ∈ scL perm q 12 k, ∀ b ∈ scL perm q 12 k, a = b := fun a ha b hb => by
    simp [scL] at ha hb
    exact hinj a b ha.1 hb.1 (ha.2.2.trans hb.2.2.symm)
  have hn : (scL perm q 12 k).Nodup := List.Pairwise.filter _ List.nodup_range
  unfold succP
  match h : scL perm q 12 k with
  | [] => rfl
  | [a] => rfl
  | a :: b :: r =>
    rw [h] at hu hn
    have := hu a (.head _) b (.tail _ (.head _))
    subst this
    simp at hn
theorem succP_ok (perm : Nat → Nat) (q : Nat → Bool) : SuccOK (succP perm q) q :=
  ⟨fun _ _ h => (succP_some h).1, fun _ _ h => (succP_some h).2.1, fun _ _ _ h h' => (succP_some h).2.2.symm.trans (succP_some h').2.2⟩
/-- a round handed out: a tuple on the ledger -/
structure Tu where
  D : Addr
  us : List Value
noncomputable abbrev tupT (t : Tu) : Addr × Obj := (t.D, tupO t.us)
noncomputable def tupsT (ts : List Tu) : List (Addr × Obj) := ts.map tupT
noncomputable def refsT (ts : List Tu) : List Value := ts.map fun t => .ref t.D
theorem refsT_snoc (ts : List Tu) (t : Tu) : refsT (ts ++ [t]) = refsT ts ++ [.ref t.D] := by simp [refsT]
theorem tupsT_snoc (ts : List Tu) (t : Tu) : tupsT (ts ++ [t]) = tupsT ts ++ [tupT t] := by simp [tupsT]
inductive TuAre : List Tu → List (List Nat) → Prop
  | nil : TuAre [] []
  | cons {t R ts Rs} : IntsAre t.us (zs R) → TuAre ts Rs → TuAre (t :: ts) (R :: Rs)
theorem TuAre.snoc {ts : List Tu} {Rs : List (List Nat)} {t : Tu} {R : List Nat} (h : TuAre ts Rs) (ht : IntsAre t.us (zs R)) : TuAre (ts ++ [t]) (Rs ++ [R]) := by
  induction h with
  | nil => exact .cons ht .nil
  | cons a _ ih => exact .cons a ih
theorem TuAre.len {ts : List Tu} {Rs : List (List Nat)} (h : TuAre ts Rs) : ts.length = Rs.length := by
  induction h with
  | nil => rfl
  | cons _ _ ih => simp [ih]
theorem Apart.sublist {l l' : List (Addr × Obj)} (h : Apart l) (s : l'.Sublist l) : Apart l' := List.Nodup.sublist (s.map Prod.fst) h
section
variable {w : World} {dp un : Nat} {l : List Env} {gd : Option (List Code)} {h₀ : Heap} {s : Shared}
theorem item_p {A : Around} {E : Value → Shared → Prop} {value slice : Expr} {b : Array UInt8} {t u : Tok} {i : Nat} {p : Nat} {Q : Value → Shared → Prop} (hb : b.size = 12) (h1 : i < 12) (hp : (b.getD i 0).toNat = p) (h : ∀ t' k, Q (.int p t') { s with toks := k })
    (hs : subscripted slice false (.bytes b t) (.int i u) = operate [.bytes b t, .int i u] (getItem (.bytes b t) (.int i u)) := by with_unfolding_all rfl)
    (ht : ∀ r, letTemporaryGo value (.bytes b t) r = pure () := by intro _; with_unfolding_all rfl) :
    wpAny (model Pg w) A (subscriptTail value slice (.bytes b t) (.int i u)) Q E s :=
  item12 hb (by omega) (by omega) (fun t' k => by rw [Int.toNat_natCast, hp]; exact h t' k) hs ht
theorem li_notinB {prog : Program} {A : Around} {E : Value → Shared → Prop} {L D : Addr} {news : List (Addr × Obj)} {us : List Value} {n : Nat} {xs : List Int} {k : Int} {t : Tok} {Q : Value → Shared → Prop} {c : Bool} (N : News h₀ L s.heap news) (hm : (D, W.listOf us.toArray n) ∈ news) (hi : IntsAre us xs) (hc : decide (k ∈ xs) = c) (h : Q (.bool (!c)) s) :
    wpAny (model prog w) A (compareOp .NotIn (.int k t) (.ref D)) Q E s := li_notin N hm hi (by rw [hc]; exact h)
theorem star_tup {prog : Program} {A : Around} {E : Value → Shared → Prop} {L a : Addr} {m : Str → Option Value} {news : List (Addr × Obj)} {us : List Value} {Q : List Value → Shared → Prop} (F : Fr h₀ L s.heap m) (N : News h₀ L s.heap news) (hm : (a, tupO us) ∈ news) (hz : us.length ≤ 1000)
    (h : ∀ h', Fr h₀ L h' m → News h₀ L h' news → Q us { s with heap := h' }) : StarOf (model prog w) A E (.ref a) Q s :=
  star_seq F N hm rfl rfl (.inr rfl) (by first | top_raise0 | simp) (by rw [sizeLine_eq]; simp; omega) h
/-- o.name( *e ): the method is made first -/
theorem methodStar {A : Around} {E : Value → Shared → Prop} {o e : Expr} {name : Str} {apos pos p : Pos} {env : Env} {Q : Value → Shared → Prop}
    (h : wpAny (model Pg w) A (eval o env) (fun ov s₁ => wpAny (model Pg w) A (getAttr ov name true) (fun fv s₂ => wpAny (model Pg w) A (callWith pos fv [] (backTo pos (starEach [.Starred e p] env)) []) Q E s₂) E s₁) E s)
    (he : eval (.Call (.Attribute o name apos) [.Starred e p] [] pos) env = (do
      let ov ← eval o env
      standAt apos.atName
      let (f, first) ← holding [ov] (do pure (← getAttr ov name true, []))
      callWith pos f first (backTo pos (starEach [.Starred e p] env)) []) := by rfl) :
    wpAny (model Pg w) A (eval (.Call (.Attribute o name apos) [.Starred e p] [] pos) env) Q E s := by
  rw [he]
  refine wpAny_bind (wpAny_mono h (fun ov s₁ h₁ => wpAny_bind (wpAny_standAt (wpAny_bind (wpAny_holding (wpAny_bind (wpAny_mono h₁ (fun fx s₂ h₂ => wpAny_pure ?_) fun _ _ x => x)))))) fun _ _ x => x)
  exact h₂
theorem callWith_MS {A : Around} {E : Value → Shared → Prop} {K : Frag} {q g : Addr} {self : Value} {pos p : Pos} {env : Env} {e : Expr} {Q : Value → Shared → Prop} (hf : fnIn K g = true)
    (h : wpAny (model Pg w) A (eval e env) (fun v s₁ => StarOf (model Pg w) A E v (fun vs s₂ => Hold (MethP K q g self s₂.heap ∧ codeAny (model Pg w) A (.call (.ref g) ⟨self :: vs, []⟩) (fun r s' => match r with | .ok (.ret v) => Q v s' | .ok _ => False | .error e => E e s') s₂)) s₁) E s)
    (he : starEach [.Starred e p] env = [(true, eval e env)] := by rfl) :
    wpAny (model Pg w) A (callWith pos (.ref q) [] (backTo pos (starEach [.Starred e p] env)) []) Q E s := by
  rw [he]
  refine ks_call rfl (keeps_M (K := K) (f := g) (self := self) hf) (ks_lone (wpAny_mono h (fun v s₁ h₁ => ?_) fun _ _ x => x))
  unfold StarOf at h₁ ⊢
  refine wpAny_mono h₁ (fun b s₂ h₂ => ⟨h₂.1, wpAny_mono h₂.2 (fun vs s₃ h₃ => ⟨h₃.1, wpAny_call (method_call h₃.1.1 h₃.2)⟩) fun _ _ x => x⟩) fun _ _ x => x
/-- the sorter as it is filled -/
noncomputable abbrev sortN (P : Params) (x dx dn : Addr) (o : Obj) (t0 t1 t2 t3 t4 t5 : Tok) : List (Addr × Obj) :=
  [(x, instObj 137 dx), (dx, sortD P t0 t1 t2 t3 (.ref dn) .none (.int 0 t4) (.int 0 t5)), (dn, o)]
inductive RuA (w : World) (b : Array UInt8) (tb : Tok) (lc x dx dn : Addr) (t0 t1 t2 t3 t4 t5 : Tok) (RS : List (Addr × Obj)) (i : Nat) (m : Str → Option Value) (led : List (Addr × Obj)) : Prop
  | mk (nd : Nat → Nd) (o : Obj) (m1 : m (Str.ofString "octets") = some (.bytes b tb)) (m2 : m (Str.ofString "cut") = some (.ref lc)) (m3 : m (Str.ofString "sorter") = some (.ref x))
    (e : led = sortN w.params x dx dn o t0 t1 t2 t3 t4 t5 ++ (fam nd (List.range i) ++ RS)) (ho : o.IsDictOf (intKind Pg w) (kvsOf nd i)) (hnd : ∀ k, k < i → (nd k).np = 0 ∧ (nd k).sc = []) (hA : Apart led)
inductive RuB (w : World) (b : Array UInt8) (tb : Tok) (lc x dx dn : Addr) (t0 t1 t2 t3 t4 t5 : Tok) (o : Obj) (RS : List (Addr × Obj)) (nd : Nat → Nd) (perm : Nat → Nat) (q : Nat → Bool) (i : Nat) (m : Str → Option Value) (led : List (Addr × Obj)) : Prop
  | mk (nd' : Nat → Nd) (m1 : m (Str.ofString "octets") = some (.bytes b tb)) (m2 : m (Str.ofString "cut") = some (.ref lc)) (m3 : m (Str.ofString "sorter") = some (.ref x))
    (e : led = sortN w.params x dx dn o t0 t1 t2 t3 t4 t5 ++ (fam nd' (List.range 12) ++ RS)) (hst : ∀ k, (nd' k).y = (nd k).y ∧ (nd' k).d = (nd k).d ∧ (nd' k).l = (nd k).l) (hnp : ∀ k, k < 12 → (nd' k).np = if k < i ∧ q k = false then 1 else 0) (hsc : ∀ k, k < 12 → IntsAre (nd' k).sc (zs (scL perm q i k)))
inductive RuM (w : World) (b : Array UInt8) (tb : Tok) (lc x dx dn : Addr) (t0 t1 t2 t3 t4 t5 : Tok) (o : Obj) (cs : List Value) (nc : Nat) (perm : Nat → Nat) (q : Nat → Bool) (fm frs : List (Addr × Obj)) (B0 : Heap) (L : Addr) (s s' : Shared) : Prop
  | mk (h : Heap) (tk : Nat) (m : Str → Option Value) (rl : Addr) (n1 : Nat) (ys : List Value) (frs' : List (Addr × Obj)) (c : Bool) (e : s' = { s with heap := h, toks := tk }) (F : Fr B0 L h m) (N : News B0 L h (sortL w.params x dx dn rl o t0 t1 t2 t3 t4 t5 0 0 ys n1 ++ fm ++ [(lc, W.listOf cs.toArray nc)] ++ frs'))
    (m1 : m (Str.ofString "octets") = some (.bytes b tb)) (m2 : m (Str.ofString "cut") = some (.ref lc)) (m3 : m (Str.ofString "sorter") = some (.ref x)) (m4 : m (Str.ofString "refused") = some (.bool c)) (hc : c = true ↔ ∃ k, k < 12 ∧ ¬ Term (succP perm q) k) (hys : IntsAre ys (zs ((List.range 12).filter q))) (hA3 : Apart (sortL w.params x dx dn rl o t0 t1 t2 t3 t4 t5 0 0 ys n1 ++ fm))
    (hoff : ∀ p ∈ sortL w.params x dx dn rl o t0 t1 t2 t3 t4 t5 0 0 ys n1 ++ fm, ∀ r ∈ [(lc, W.listOf cs.toArray nc)] ++ frs', p.1 ≠ r.1) (SU : SameUp frs frs')
inductive RuC (w : World) (b : Array UInt8) (tb : Tok) (lc x dx dn : Addr) (rl : Addr) (t0 t1 t2 t3 : Tok) (o : Obj) (RR : List (Addr × Obj)) (nd' : Nat → Nd) (perm : Nat → Nat) (q : Nat → Bool) (c : Bool) (lr : Addr) (n : Nat) (m : Str → Option Value) (led : List (Addr × Obj)) : Prop
  | mk (ts : List Tu) (Rs : List (List Nat)) (cur : List Nat) (us : List Value) (nd9 : Nat → Nd) (tp tf : Tok) (pa : Int) (n1 nr f : Nat) (m1 : m (Str.ofString "octets") = some (.bytes b tb)) (m2 : m (Str.ofString "cut") = some (.ref lc)) (m3 : m (Str.ofString "sorter") = some (.ref x)) (m4 : m (Str.ofString "refused") = some (.bool c)) (m5 : m (Str.ofString "rounds") = some (.ref lr))
    (e : led = (lr, W.listOf (refsT ts).toArray nr) :: (sortL w.params x dx dn rl o t0 t1 t2 t3 tp tf pa pa us n1 ++ (fam nd9 (List.range 12) ++ (tupsT ts ++ RR)))) (hTu : TuAre ts Rs) (hus : IntsAre us (zs cur)) (hL : Lev (succP perm q) q Rs cur) (hst9 : ∀ k, (nd9 k).y = (nd' k).y ∧ (nd9 k).d = (nd' k).d ∧ (nd9 k).l = (nd' k).l ∧ (nd9 k).sc = (nd' k).sc) (hnp9 : ∀ k, k < 12 → (nd9 k).np = npS Rs cur k)
    (hn9 : n + Rs.flatten.length = 12) (hf : f + Rs.length = 13) (hro : roundsF (succP perm q) 13 ((List.range 12).filter q) = Rs ++ roundsF (succP perm q) f cur) (hA : Apart led)
inductive RunPost (perm : Nat → Nat) (q : Nat → Bool) (lc : Addr) (cs : List Value) (nc : Nat) (r : Value) (new : List (Addr × Obj)) : Prop
  | mk (D : Addr) (c : Bool) (lr : Addr) (ts : List Tu) (nr : Nat) (f1 : r = .ref D) (f2 : new = (D, ({ cls := .type "tuple", data := .seq #[.bool c, .ref lr] } : Obj)) :: (lr, W.listOf (List.toArray (refsT ts)) nr) :: (tupsT ts ++ [(lc, W.listOf cs.toArray nc)])) (f3 : TuAre ts (roundsF (succP perm q) 13 ((List.range 12).filter q))) (f4 : (c = true ↔ ∃ k, k < 12 ∧ ¬ Term (succP perm q) k)) (f5 : Apart new)
theorem run_tell (b : Array UInt8) (hb : b.size = 12) (tb : Tok) (perm : Nat → Nat) (hperm : ∀ j, j < 12 → (b.getD j 0).toNat = perm j) (hlt : ∀ j, j < 12 → perm j < 12) (hinj : ∀ i j, i < 12 → j < 12 → perm i = perm j → i = j) (q : Nat → Bool)
    (lc : Addr) (cs : List Value) (nc : Nat) (hcs : IntsAre cs (zs ((List.range 12).filter q))) (frs : List (Addr × Obj)) (hapF : Apart ((lc, W.listOf cs.toArray nc) :: frs)) (hdp : dp + 40 < recursionLimit) :
    TellX w dp l gd un h₀ s [(lc, W.listOf cs.toArray nc)] frs (call (.ref 212) [.bytes b tb, .ref lc])
      (RunPost perm q lc cs nc) := by
  intro Fs rest Q E S O D hapR hQ
  refine wpAny_call (enter S O (D.sub (List.subset_append_left _ _)) (by k_is) (by k_is) (by omega) (binds := [(Str.ofString "octets", .bytes b tb), (Str.ofString "cut", .ref lc)]) (BindsTo.of_eq rfl) (locs rfl) ?_ rfl rfl rfl (by decide))
  intro L h₁ mean mg mb X T F N
  obtain ⟨B0, hB0⟩ : ∃ B0, B0 = under s.heap ([(lc, W.listOf cs.toArray nc)] ++ frs) := ⟨_, rfl⟩
  rw [← hB0] at X T F N
  have N0 : News B0 L h₁ ((lc, W.listOf cs.toArray nc) :: frs) := N
  clear N
  k_steps
  dsimp only [List.nil_append]
  refine (mk_tell (by simp only [Around.deeper]; omega)).use0 X T (by assumption) N0 ?_
  intro r new h' tk' hZ0 F N hoff
  refine byProp fun Pz hPz => ?_
  obtain ⟨x, dx, dn, o, t0, t1, t2, t3, t4, t5, rfl, rfl, ho, hdn, hl1, hl2, hl3⟩ := hZ0
  clear N0
  refine hPz ?_
  clear hPz Pz
  repeat' (first | ((with_reducible show wpAny _ _ (exec (Stmt.For (Expr.Name _ _) _ _ _ _) _) _ _ _); with_unfolding_all refine for_hold ‹Fr _ _ _ _› rfl rfl ?_) | top_args)
  rename Fr _ _ _ _ => F2
  rename News _ _ _ _ => N2
  rename IsRange _ _ _ _ _ _ _ _ => hr
  unfold Hold
  obtain ⟨RS, hRS⟩ : ∃ RS, RS = (lc, W.listOf cs.toArray nc) :: frs := ⟨_, rfl⟩
  have hA0 : Apart (sortN w.params x dx dn o t0 t1 t2 t3 t4 t5 ++ ([] ++ RS)) := by
    refine Apart.app ?_ (by rw [hRS]; exact hapF) (by rw [hRS]; exact hoff)
    have e1 : x ≠ dx := Nat.ne_of_gt hl1
    have e2 : x ≠ dn := Nat.ne_of_lt hl2
    have e3 : dx ≠ dn := Nat.ne_of_lt (Nat.lt_trans hl1 hl2)
    simp [Apart, e1, e2, e3]
  refine loop_range hr rfl (n := 12) rfl F2 N2 rfl (fun i m led => RuA w b tb lc x dx dn t0 t1 t2 t3 t4 t5 RS i m led) ?_ ?_ ?_
  · exact ⟨fun _ => ⟨0, 0, 0, 0, 0, 0, [], 0⟩, o, rfl, rfl, rfl, by rw [hRS]; rfl, ho, (fun k hk => absurd hk (Nat.not_lt_zero _)), by rw [← hRS]; exact hA0⟩
  · intro I i t' m₁ led₁ h₁ tk₁ oI hI hi hZ0 hoI F N
    refine byProp fun Pz hPz => ?_
    obtain ⟨nd, o, m1, m2, m3, rfl, ho, hnd, hA⟩ := hZ0
    clear F2 N2
    first | replace F := fr_at (at1s m1 (at1s m2 (at1s m3 rfl))) F | replace F := fr_at (at1c (at1s m1 (at1s m2 (at1s m3 rfl)))) F
    rw [show (0 + (i : Int) * 1) = (i : Int) by omega] at F
    try dsimp only at F
    refine hPz ?_
    clear hPz Pz
    k_steps
    rename Fr _ _ _ _ => F4
    rename News _ _ _ _ => N4
    refine (addnew_tell x dx dn o t0 t1 t2 t3 (.int 0 t4) (.int 0 t5) (kvsOf nd i) i t' ho kvs_none hdn (by rw [kvs_len]; omega) hl1 hl2 (by simp only [Around.deeper]; omega)).use (news := fam nd (List.range i) ++ RS ++ [(I, oI)]) X T F4 N4 (fun p hp => ?_) ?_ ?_
    · simpa [sortN, or_assoc] using hp
    · intro p hp p' hp'
      rcases List.mem_append.mp hp' with hp' | hp'
      · exact hA.cross p hp p' hp'
      · rw [List.mem_singleton.mp hp']; exact hoI p (List.mem_append_left _ hp)
    · intro r foc' h' tk' hZ0 F' N' hoff'
      refine byProp fun Pz hPz => ?_
      obtain ⟨y, dy, ly, t9, tk9, o', rfl, rfl, hd', hge, hy1, hy2⟩ := hZ0
      have hdl := Heap.lt_size (N4 (dn, o) (by simp [sortN])).1
      clear F4 N4
      have A6 : Apart [(x, instObj 137 dx), (dx, sortD w.params t0 t1 t2 t3 (.ref dn) .none (.int 0 t4) (.int 0 t5)), (dn, o'), (y, infoObj dy (.int i tk9) (.int 0 t9) (.ref ly)), (dy, emptyDict), (ly, W.listOf #[] 0)] := by
        refine (LtCh.apart (l := [(dx, sortD w.params t0 t1 t2 t3 (.ref dn) .none (.int 0 t4) (.int 0 t5)), (x, instObj 137 dx), (dn, o'), (dy, emptyDict), (y, infoObj dy (.int i tk9) (.int 0 t9) (.ref ly)), (ly, W.listOf #[] 0)]) ⟨hl1, hl2, Nat.lt_of_lt_of_le hdl hge, hy1, hy2, trivial⟩).perm ?_
        exact (List.Perm.swap _ _ _).trans (.cons _ (.cons _ (.cons _ (.swap _ _ _))))
      have hA9 := A6.app hA.right fun p hp p' hp' => hoff' p hp p' (List.mem_append_left _ hp')
      have hfg := fam_grow (nd := nd) (k := i) (r := ⟨y, dy, ly, tk9, t9, 0, [], 0⟩)
      refine hPz ?_
      clear hPz Pz
      k_steps
      rename Fr _ _ _ _ => F4
      rename News _ _ _ _ => N4
      refine TurnTo.next (led' := sortN w.params x dx dn o' t0 t1 t2 t3 t4 t5 ++ (fam (upd nd i ⟨y, dy, ly, tk9, t9, 0, [], 0⟩) (List.range (i + 1)) ++ RS)) F4 (fun p hp => N4 p ?_) (fun p hp => ?_) ⟨_, o', rfl, rfl, rfl, rfl, ?_, (fun k hk => ?_), ?_⟩
      · rw [hfg] at hp
        revert p; top_name
      · rw [hfg] at hp
        have h1 : ∀ p' ∈ [(x, instObj 137 dx), (dx, sortD w.params t0 t1 t2 t3 (.ref dn) .none (.int 0 t4) (.int 0 t5)), (dn, o'), (y, infoObj dy (.int i tk9) (.int 0 t9) (.ref ly)), (dy, emptyDict), (ly, W.listOf #[] 0)], p'.1 ≠ I := fun p' hp' => hoff' p' hp' (I, oI) (by first | top_raise0 | simp)
        rcases List.mem_append.mp hp with hp | hp
        · exact h1 p (show p ∈ [(x, instObj 137 dx), (dx, sortD w.params t0 t1 t2 t3 (.ref dn) .none (.int 0 t4) (.int 0 t5)), (dn, o')] ++ [(y, infoObj dy (.int i tk9) (.int 0 t9) (.ref ly)), (dy, emptyDict), (ly, W.listOf #[] 0)] from List.mem_append_left _ hp)
        · rcases List.mem_append.mp hp with hp | hp
          · rcases List.mem_append.mp hp with hp | hp
            · exact hoI p (List.mem_append_right _ (List.mem_append_left _ hp))
            · exact h1 p (.tail _ (.tail _ (.tail _ hp)))
          · exact hoI p (List.mem_append_right _ (List.mem_append_right _ hp))
      · rw [← kvs_stored (r := ⟨y, dy, ly, tk9, t9, 0, [], 0⟩)]; exact hd'
      · by_cases e : k = i
        · subst e; rw [upd_self]; exact ⟨rfl, rfl⟩
        · rw [upd_ne e]; exact hnd k (by omega)
      · rw [hfg]
        refine hA9.perm ?_
        refine (List.Perm.append_left [(x, instObj 137 dx), (dx, sortD w.params t0 t1 t2 t3 (.ref dn) .none (.int 0 t4) (.int 0 t5)), (dn, o')] (t₁ := [(y, infoObj dy (.int i tk9) (.int 0 t9) (.ref ly)), (dy, emptyDict), (ly, W.listOf #[] 0)] ++ (fam nd (List.range i) ++ RS)) ?_)
        rw [← List.append_assoc]
        exact List.Perm.append_right _ List.perm_append_comm
  · intro h' tk m' led' F N hZ0
    refine byProp fun Pz hPz => ?_
    obtain ⟨nd, o, m1, m2, m3, rfl, ho2, hnd, hA⟩ := hZ0
    clear F2 N2 hA0 hr ho
    first | replace F := fr_at (at1s m1 (at1s m2 (at1s m3 rfl))) F | replace F := fr_at (at1c (at1s m1 (at1s m2 (at1s m3 rfl)))) F
    try dsimp only at F
    refine hPz ?_
    clear hPz Pz
    repeat' (first | ((with_reducible show wpAny _ _ (exec (Stmt.For (Expr.Name _ _) _ _ _ _) _) _ _ _); with_unfolding_all refine for_hold ‹Fr _ _ _ _› rfl rfl ?_) | top_args)
    rename Fr _ _ _ _ => F2
    rename News _ _ _ _ => N2
    rename IsRange _ _ _ _ _ _ _ _ => hr
    unfold Hold
    refine loop_range hr rfl (n := 12) rfl F2 N2 rfl (fun i m led => RuB w b tb lc x dx dn t0 t1 t2 t3 t4 t5 o RS nd perm q i m led) ?_ ?_ ?_
    · exact ⟨nd, rfl, rfl, rfl, rfl, fun k => ⟨rfl, rfl, rfl⟩, fun k hk => by simp [(hnd k hk).1], fun k hk => by rw [(hnd k hk).2]; exact .nil⟩
    · intro I i t' m₁ led₁ h₁ tk₁ oI hI hi hZ0 hoI F N
      refine byProp fun Pz hPz => ?_
      obtain ⟨nd', m1, m2, m3, rfl, hst, hnp, hsc⟩ := hZ0
      clear F2 N2 hr
      first | replace F := fr_at (at1s m1 (at1s m2 (at1s m3 rfl))) F | replace F := fr_at (at1c (at1s m1 (at1s m2 (at1s m3 rfl)))) F
      rw [show (0 + (i : Int) * 1) = (i : Int) by omega] at F
      try dsimp only at F
      have hA2 : Apart (sortN w.params x dx dn o t0 t1 t2 t3 t4 t5 ++ (fam nd' (List.range 12) ++ RS)) := hA.addr (by simp [fam_addr hst])
      have hm : (lc, W.listOf cs.toArray nc) ∈ RS := by rw [hRS]; exact .head _
      have hN2 : News B0 L h₁ ((lc, W.listOf cs.toArray nc) :: (sortN w.params x dx dn o t0 t1 t2 t3 t4 t5 ++ (fam nd' (List.range 12) ++ RS) ++ [(I, oI)])) := fun p hp => N p (by
        rcases List.mem_cons.mp hp with rfl | hp
        · simp [hm]
        · exact hp)
      clear N
      refine hPz ?_
      clear hPz Pz
      by_cases hq : q i = true
      · have hin : decide ((i : Int) ∈ zs ((List.range 12).filter q)) = true := by rw [decide_eq_true_eq, mem_zs]; simp [hi, hq]
        repeat' (first | ((with_reducible show wpAny _ _ (compareOp CmpOp.NotIn (Value.int _ _) (Value.ref _)) _ _ _); k_dflt (refine li_notinB (by k_asm) (by k_mem) (by assumption) (by assumption) ?_); (try dsimp only [Bool.not_true, Bool.not_false])) | top_args)
        rename Fr _ _ _ _ => F4
        rename News _ _ _ _ => N4
        refine TurnTo.next (led' := sortN w.params x dx dn o t0 t1 t2 t3 t4 t5 ++ (fam nd' (List.range 12) ++ RS)) F4 (fun p hp => N4 p (.tail _ hp)) hoI ⟨nd', rfl, rfl, rfl, rfl, hst, fun k hk => ?_, fun k hk => ?_⟩
        · rw [hnp k hk]
          by_cases e : k = i
          · subst e; simp [hq]
          · have : (k < i + 1) = (k < i) := by simp; omega
            simp [this]
        · rw [scL_succ]
          simpa [hq] using hsc k hk
      · have hin : decide ((i : Int) ∈ zs ((List.range 12).filter q)) = false := by rw [decide_eq_false_iff_not, mem_zs]; simp [hq]
        have hpi := hperm i hi
        have hp12 := hlt i hi
        have hqf : q i = false := by simpa using hq
        have hki : valueAt (kvsOf nd 12) (i : Int) = some (.ref (nd' i).y) := by rw [(hst i).1]; exact kvs_at hi
        have hkp : valueAt (kvsOf nd 12) (perm i : Int) = some (.ref (nd' (perm i)).y) := by rw [(hst _).1]; exact kvs_at hp12
        have hlen : ∀ k, k < 12 → (nd' k).sc.length ≤ 100 := fun k hk => by
          rw [(hsc k hk).length]; simp only [zs, List.length_map]; have := scL_len (perm := perm) (q := q) (i := i) (k := k); omega
        repeat' (first | ((with_reducible show wpAny _ _ (compareOp CmpOp.NotIn (Value.int _ _) (Value.ref _)) _ _ _); k_dflt (refine li_notinB (by k_asm) (by k_mem) (by assumption) (by assumption) ?_); (try dsimp only [Bool.not_true, Bool.not_false])) | ((with_reducible show wpAny _ _ (subscriptTail _ _ _ _) _ _ _); k_dflt (refine item_p (by assumption) (by assumption) (by assumption) ?_); top_caught0) | top_args)
        rename Fr _ _ _ _ => F4
        rename News _ _ _ _ => N4
        by_cases hpe : perm i = i
        · have PM := fam_perm (nd := nd') hi
          rw [hpe]
          have hAf : Apart (sortN w.params x dx dn o t0 t1 t2 t3 t4 t5 ++ [ndY i (nd' i), ndD (nd' i), ndL (nd' i)] ++ (fam nd' (but i) ++ RS)) := hA2.perm (by
            rw [List.append_assoc]
            refine List.Perm.append_left _ ?_
            rw [← List.append_assoc]
            exact List.Perm.append_right _ PM)
          refine (self_tell x dx dn (nd' i).y (nd' i).d (nd' i).l o t0 t1 t2 t3 (.int 0 t4) (.int 0 t5) (kvsOf nd 12) i (nd' i).np _ _ (nd' i).t1 (nd' i).t2 (nd' i).sc (nd' i).n ho2 hki hdn (hlen i hi) hAf.left (by simp only [Around.deeper]; omega)).use (news := fam nd' (but i) ++ RS ++ [(I, oI)]) X T F4 N4 (fun p hp => ?_) (fun p hp p' hp' => ?_) ?_
          · have h0 := PM.symm.subset
            have f1 := h0 (.head _)
            have f2 := h0 (.tail _ (.head _))
            have f3 := h0 (.tail _ (.tail _ (.head _)))
            have f4 : ∀ p ∈ fam nd' (but i), p ∈ fam nd' (List.range 12) := fun p hp => h0 (.tail _ (.tail _ (.tail _ hp)))
            revert p; top_name
          · rcases List.mem_append.mp hp' with hp' | hp'
            · exact hAf.cross p hp p' hp'
            · rw [List.mem_singleton.mp hp']
              have h0 := PM.symm.subset
              have f1 := h0 (.head _)
              have f2 := h0 (.tail _ (.head _))
              have f3 := h0 (.tail _ (.tail _ (.head _)))
              refine hoI p ?_
              revert p; top_name
          · intro r foc' h' tk' hZ0 F' N' hoff'
            refine byProp fun Pz hPz => ?_
            obtain ⟨tb', tk9, rfl, rfl⟩ := hZ0
            clear F4 N4
            have PM2 := turnN_self (nd := nd') (tb := tb') (tk := tk9) hi
            refine hPz ?_
            clear hPz Pz
            k_steps
            rename Fr _ _ _ _ => F4
            rename News _ _ _ _ => N4
            refine TurnTo.next (led' := sortN w.params x dx dn o t0 t1 t2 t3 t4 t5 ++ (fam (turnN nd' i i tb' tk9) (List.range 12) ++ RS)) F4 (fun p hp => N4 p ?_) (fun p hp => ?_) ⟨_, rfl, rfl, rfl, rfl, (fun k => hst k), (fun k hk => ?_), (fun k hk => ?_)⟩
            · revert p
              refine fa_app (fa_app (by top_name) (fa_app (fun p hp => ?_) (by top_name))) (by top_name)
              have h9 := PM2.subset hp
              revert h9; clear hp; revert p; top_name
            · refine off_addr hoI ?_ p hp
              exact addr_app rfl (addr_app (fam_addr fun k => ⟨rfl, rfl, rfl⟩) rfl)
            · show (if k = i then (nd' k).np + 1 else (nd' k).np) = _
              rw [hnp k hk]
              by_cases e : k = i
              · subst e; simp [hqf]
              · have : (k < i + 1) = (k < i) := by simp; omega
                simp [this, e]
            · show IntsAre (if k = i then (nd' k).sc ++ [.int i tk9] else (nd' k).sc) _
              rw [scL_succ, hpe]
              by_cases e : k = i
              · subst e; simpa [hqf, zs] using (hsc k hk).append (.cons _ tk9 .nil)
              · simpa [e, Ne.symm e, hqf] using hsc k hk
        · have PM := fam_perm2 (nd := nd') hi hp12 hpe
          have hAf : Apart (sortN w.params x dx dn o t0 t1 t2 t3 t4 t5 ++ [ndY i (nd' i), ndD (nd' i), ndL (nd' i), ndY (perm i) (nd' (perm i)), ndD (nd' (perm i)), ndL (nd' (perm i))] ++ (fam nd' ((but i).erase (perm i)) ++ RS)) := hA2.perm (by
            rw [List.append_assoc]
            refine List.Perm.append_left _ ?_
            rw [← List.append_assoc]
            exact List.Perm.append_right _ PM)
          refine (edge_tell x dx dn (nd' i).y (nd' i).d (nd' i).l (nd' (perm i)).y (nd' (perm i)).d (nd' (perm i)).l o t0 t1 t2 t3 (.int 0 t4) (.int 0 t5) (kvsOf nd 12) i (perm i) (nd' i).np (nd' (perm i)).np _ _ (nd' i).t1 (nd' i).t2 (nd' (perm i)).t1 (nd' (perm i)).t2 (nd' i).sc (nd' (perm i)).sc (nd' i).n (nd' (perm i)).n ho2 hki hkp hdn (hlen _ hp12) hAf.left (by simp only [Around.deeper]; omega)).use (news := fam nd' ((but i).erase (perm i)) ++ RS ++ [(I, oI)]) X T F4 N4 (fun p hp => ?_) (fun p hp p' hp' => ?_) ?_
          · have h0 := PM.symm.subset
            have f1 := h0 (.head _)
            have f2 := h0 (.tail _ (.head _))
            have f3 := h0 (.tail _ (.tail _ (.head _)))
            have f4 := h0 (.tail _ (.tail _ (.tail _ (.head _))))
            have f5 := h0 (.tail _ (.tail _ (.tail _ (.tail _ (.head _)))))
            have f6 := h0 (.tail _ (.tail _ (.tail _ (.tail _ (.tail _ (.head _))))))
            have f7 : ∀ p ∈ fam nd' ((but i).erase (perm i)), p ∈ fam nd' (List.range 12) := fun p hp => h0 (.tail _ (.tail _ (.tail _ (.tail _ (.tail _ (.tail _ hp))))))
            revert p; top_name
          · rcases List.mem_append.mp hp' with hp' | hp'
            · exact hAf.cross p hp p' hp'
            · rw [List.mem_singleton.mp hp']
              have h0 := PM.symm.subset
              have f1 := h0 (.head _)
              have f2 := h0 (.tail _ (.head _))
              have f3 := h0 (.tail _ (.tail _ (.head _)))
              have f4 := h0 (.tail _ (.tail _ (.tail _ (.head _))))
              have f5 := h0 (.tail _ (.tail _ (.tail _ (.tail _ (.head _)))))
              have f6 := h0 (.tail _ (.tail _ (.tail _ (.tail _ (.tail _ (.head _))))))
              refine hoI p ?_
              revert p; top_name
          · intro r foc' h' tk' hZ0 F' N' hoff'
            refine byProp fun Pz hPz => ?_
            obtain ⟨tb', tk9, rfl, rfl⟩ := hZ0
            clear F4 N4
            have PM2 := turnN_two (nd := nd') (tb := tb') (tk := tk9) hi hp12 hpe
            refine hPz ?_
            clear hPz Pz
            k_steps
            rename Fr _ _ _ _ => F4
            rename News _ _ _ _ => N4
            refine TurnTo.next (led' := sortN w.params x dx dn o t0 t1 t2 t3 t4 t5 ++ (fam (turnN nd' i (perm i) tb' tk9) (List.range 12) ++ RS)) F4 (fun p hp => N4 p ?_) (fun p hp => ?_) ⟨_, rfl, rfl, rfl, rfl, (fun k => hst k), (fun k hk => ?_), (fun k hk => ?_)⟩
            · revert p
              refine fa_app (fa_app (by top_name) (fa_app (fun p hp => ?_) (by top_name))) (by top_name)
              have h9 := PM2.subset hp
              revert h9; clear hp; revert p; top_name
            · refine off_addr hoI ?_ p hp
              exact addr_app rfl (addr_app (fam_addr fun k => ⟨rfl, rfl, rfl⟩) rfl)
            · show (if k = i then (nd' k).np + 1 else (nd' k).np) = _
              rw [hnp k hk]
              by_cases e : k = i
              · subst e; simp [hqf]
              · have : (k < i + 1) = (k < i) := by simp; omega
                simp [this, e]
            · show IntsAre (if k = perm i then (nd' k).sc ++ [.int i tk9] else (nd' k).sc) _
              rw [scL_succ]
              by_cases e : k = perm i
              · subst e; simpa [hqf, zs] using (hsc _ hk).append (.cons _ tk9 .nil)
              · simpa [e, Ne.symm e, hqf] using hsc k hk
    · intro h' tk m' led' F N hZ0
      refine byProp fun Pz hPz => ?_
      obtain ⟨nd', m1, m2, m3, rfl, hst, hnp, hsc⟩ := hZ0
      clear F2 N2 hr
      have hA2 : Apart (sortN w.params x dx dn o t0 t1 t2 t3 t4 t5 ++ (fam nd' (List.range 12) ++ RS)) := hA.addr (by simp [fam_addr hst])
      first | replace F := fr_at (at1s m1 (at1s m2 (at1s m3 rfl))) F | replace F := fr_at (at1c (at1s m1 (at1s m2 (at1s m3 rfl)))) F
      try dsimp only at F
      refine hPz ?_
      clear hPz Pz
      walk1
      walk1
      walk1
      walk1
      walk1
      rename Fr _ _ _ _ => F2
      rename News _ _ _ _ => N2
      refine byProp fun Pz hPz => ?_
      obtain ⟨fm, hfm⟩ : ∃ fm, fm = fam nd' (List.range 12) := ⟨_, rfl⟩
      obtain ⟨BG, hBG⟩ : ∃ BG, BG = (x, instObj 137 dx) :: (dx, sortD w.params t0 t1 t2 t3 (.ref dn) .none (.int 0 t4) (.int 0 t5)) :: (dn, o) :: fm := ⟨_, rfl⟩
      have ho3 : o.IsDictOf (intKind Pg w) (kvsOf nd' 12) := by rw [kvs_eq (nd := nd) fun k => (hst k).1]; exact ho2
      have hsc3 : ∀ k, k < 12 → IntsAre (nd' k).sc (zs (succP perm q k).toList) := fun k hk => by rw [← scL_succP hinj]; exact hsc k hk
      have hPB : (sortN w.params x dx dn o t0 t1 t2 t3 t4 t5 ++ (fam nd' (List.range 12) ++ RS)).Perm ((lc, W.listOf cs.toArray nc) :: (BG ++ frs)) := by
        rw [hBG, hRS, hfm]
        have := List.perm_middle (a := (lc, W.listOf cs.toArray nc)) (l₁ := sortN w.params x dx dn o t0 t1 t2 t3 t4 t5 ++ fam nd' (List.range 12)) (l₂ := frs)
        simpa [sortN] using this
      have hall : ∀ p, p ∈ sortN w.params x dx dn o t0 t1 t2 t3 t4 t5 ++ (fam nd' (List.range 12) ++ RS) ↔ p ∈ BG ++ frs ++ [(lc, W.listOf cs.toArray nc)] := fun p => by
        refine hPB.mem_iff.trans ?_
        simp only [List.mem_cons, List.mem_append, List.mem_nil_iff, or_false]
        exact or_comm
      have hAB := hA2.perm hPB
      have hapB : ∀ oL, Apart (BG ++ ((L, oL) :: frs)) := fun oL => by
        have h1 : Apart ((L, oL) :: (BG ++ frs)) := hAB.tail.cons fun p hp => (N2 p ((hall p).mpr (List.mem_append_left _ hp))).2.1
        exact h1.perm List.perm_middle.symm
      have hz : ((List.range 12).filter fun k => decide ((nd' k).np = 0)) = (List.range 12).filter q := List.filter_congr fun k hk => by
        have h12 := List.mem_range.mp hk
        rw [hnp k h12]
        by_cases e : q k = true <;> simp [e, h12]
      refine hPz ?_
      clear hPz Pz
      refine execs_mid (fun s' => Hold (RuM w b tb lc x dx dn t0 t1 t2 t3 t4 t5 o cs nc perm q fm frs B0 L s s')) ?_ ?_
      · k_steps
        rename Fr _ _ _ _ => F2
        rename News _ _ _ _ => N2
        refine TellXE.use (foc := BG) (news := [(lc, W.listOf cs.toArray nc)]) (fun oL => prepare_tell x dx dn o t0 t1 t2 t3 t4 t5 0 0 nd' (succP perm q) fm ((L, oL) :: frs) hfm ho3 hsc3 (fun k j h => (succP_some h).1) hdn BG hBG (hapB oL) (by simp only [Around.deeper]; omega)) Fs X T F2 N2 (fun p hp => (hall p).mpr hp) (fun p hp p' hp' => ?_) rfl ?_ ?_
        · rw [List.mem_singleton.mp hp']; exact hAB.head p hp
        · intro r foc' frs' h' tk' hZ0 SU Fs' F' N' hoff
          refine byProp fun Pz hPz => ?_
          obtain ⟨rfl, hT, rl, n1, ys, rfl, hys, hA3⟩ := hZ0
          clear F2 N2
          refine hPz ?_
          clear hPz Pz
          k_steps
          rename Fr _ _ _ _ => F4
          rename News _ _ _ _ => N4
          rw [hz] at hys
          exact ⟨_, _, _, rl, n1, ys, frs', false, rfl, F4, N4, rfl, rfl, rfl, rfl, ⟨(fun h => nomatch h), fun ⟨k, hk, hn⟩ => absurd (hT k hk) hn⟩, hys, hA3, hoff, SU⟩
        · intro e foc' frs' h' tk' hZ0 SU Fs' F' N' hoff
          refine byProp fun Pz hPz => ?_
          obtain ⟨hno, T7, vs, ts, rl, n1, ys, rfl, hys, hA3, hv1, ht3, hlt7, hne7⟩ := hZ0
          clear F2 N2
          obtain ⟨SO, hSO⟩ : ∃ SO, SO = sortL w.params x dx dn rl o t0 t1 t2 t3 t4 t5 0 0 ys n1 ++ fm := ⟨_, rfl⟩
          rw [← hSO] at hA3 hlt7 hne7 N' hoff
          have hsub : ∀ p ∈ SO, p ∈ (T7, fldO (.type "traceback") ts) :: (e, fldO (.ref 55) vs) :: SO := fun p hp => .tail _ (.tail _ hp)
          have N9 : News B0 L h' ((T7, fldO (.type "traceback") ts) :: (e, fldO (.ref 55) vs) :: ((SO ++ [(lc, W.listOf cs.toArray nc)]) ++ frs')) := N'
          have hLT : ∀ q ∈ [(lc, W.listOf cs.toArray nc)] ++ frs', q.1 ≠ T7 ∧ q.1 ≠ e := fun q hq => ⟨Ne.symm (hoff (T7, fldO (.type "traceback") ts) (.head _) q hq), Ne.symm (hoff (e, fldO (.ref 55) vs) (.tail _ (.head _)) q hq)⟩
          refine hPz ?_
          clear hPz Pz
          refine caught_led X T rfl Fs' F' N9 hv1 ht3 ?_ ?_ ?_ (.inl (by k_is)) (by kts_exm) (fun h2 frs2 SU2 Fs2 F5 N5 => ?_)
          · intro p hp
            rcases List.mem_cons.mp hp with rfl | hp
            · exact Nat.ne_of_lt (hlt7 _ (.head _))
            · rw [List.append_assoc] at hp
              rcases List.mem_append.mp hp with hp | hp
              · exact Nat.ne_of_lt (hlt7 p (.tail _ hp))
              · exact (hLT p hp).1
          · intro p hp
            rw [List.append_assoc] at hp
            rcases List.mem_append.mp hp with hp | hp
            · exact hne7 p hp
            · exact (hLT p hp).2
          · refine AllOff.of fun p hp r hr => ?_
            rcases List.mem_append.mp hp with hp | hp
            · exact hoff p (hsub p hp) r (List.mem_append_right _ hr)
            · rw [List.mem_singleton.mp hp]
              refine byProp fun Pz hPz => ?_
              obtain ⟨r', hr', e'⟩ := SU.fwd r hr
              refine hPz ?_
              clear hPz Pz
              rw [e']
              exact Ne.symm (hapF.head r' hr')
          · have hoff9 : ∀ p ∈ SO, ∀ r ∈ [(lc, W.listOf cs.toArray nc)] ++ frs2, p.1 ≠ r.1 := fun p hp r hr => by
              rcases List.mem_append.mp hr with hr | hr
              · exact hoff p (hsub p hp) r (List.mem_append_left _ hr)
              · obtain ⟨r', hr', e'⟩ := SU2.fwd r hr
                rw [e']
                exact hoff p (hsub p hp) r' (List.mem_append_right _ hr')
            clear N' N9 F'
            k_steps
            rename Fr _ _ _ _ => F4
            rename News _ _ _ _ => N4
            rw [hz] at hys
            rw [hSO] at N4 hA3 hoff9
            exact ⟨_, _, _, rl, n1, ys, frs2, true, rfl, F4, N4, rfl, rfl, rfl, rfl, ⟨fun _ => hno, fun _ => rfl⟩, hys, hA3, hoff9, SU.trans SU2⟩
      · intro s9 hZ0
        refine byProp fun Pz hPz => ?_
        obtain ⟨h, tk, m, rl, n1, ys, frs', c, rfl, F, N, m1, m2, m3, m4, hc, hys, hA3, hoff, SU⟩ := hZ0
        first | replace F := fr_at (at1s m1 (at1s m2 (at1s m3 (at1s m4 rfl)))) F | replace F := fr_at (at1c (at1s m1 (at1s m2 (at1s m3 (at1s m4 rfl))))) F
        try dsimp only at F
        refine hPz ?_
        clear hPz Pz
        repeat' (first | ((with_reducible show wpAny _ _ (exec (Stmt.While (Expr.BoolOp ..) ..) _) _ _ _); refine while_hold 0 ?_) | top_args)
        rename Fr _ _ _ _ => F4
        rename News _ _ _ _ => N4
        rename_i lr _ hlr _
        obtain ⟨RR, hRR⟩ : ∃ RR, RR = [(lc, W.listOf cs.toArray nc)] ++ frs' := ⟨_, rfl⟩
        have hAR : Apart RR := by
          rw [hRR]
          refine hapF.addr ?_
          simp [SameUp.addr SU]
        have hsubs : ∀ p ∈ sortL w.params x dx dn rl o t0 t1 t2 t3 t4 t5 0 0 ys n1 ++ (fam nd' (List.range 12) ++ (tupsT [] ++ RR)), p ∈ sortL w.params x dx dn rl o t0 t1 t2 t3 t4 t5 0 0 ys n1 ++ fm ++ [(lc, W.listOf cs.toArray nc)] ++ frs' := fun p hp => by
          rw [hfm, List.append_assoc, List.append_assoc, ← hRR]
          exact hp
        have N5 : News B0 L _ ((lr, W.listOf (List.toArray (refsT [])) 0) :: (sortL w.params x dx dn rl o t0 t1 t2 t3 t4 t5 0 0 ys n1 ++ (fam nd' (List.range 12) ++ (tupsT [] ++ RR)))) := fun p hp => N4 p (by
          rcases List.mem_cons.mp hp with hh | hh
          · rw [hh]; exact .head _
          · exact .tail _ (hsubs p hh))
        have hSA : Apart (sortL w.params x dx dn rl o t0 t1 t2 t3 t4 t5 0 0 ys n1 ++ (fam nd' (List.range 12) ++ (tupsT [] ++ RR))) := by
          have h1 := hA3.app hAR (by rw [hRR]; exact hoff)
          rw [hfm, List.append_assoc] at h1
          exact h1
        clear N4
        refine whl_inv s B0 L ?hE (fun n m led => RuC w b tb lc x dx dn rl t0 t1 t2 t3 o RR nd' perm q c lr n m led) ?_ 12 _ _ _ _ 0 ?_ F4 N5
        case hE => exact PassesOwn.leaving
        · intro n9 m led h tk hZ0 F N
          refine byProp fun Pz hPz => ?_
          obtain ⟨ts, Rs, cur, us, nd9, tp, tf, pa, n1, nr, f, m1, m2, m3, m4, m5, rfl, hTu, hus, hL, hst9, hnp9, hn9, hf, hro, hA⟩ := hZ0
          clear F4 N5
          first | replace F := fr_at (at1s m1 (at1s m2 (at1s m3 (at1s m4 (at1s m5 rfl))))) F | replace F := fr_at (at1c (at1s m1 (at1s m2 (at1s m3 (at1s m4 (at1s m5 rfl)))))) F
          try dsimp only at F
          have hlen := hL.len
          have hlT := hTu.len
          have hlF := len_flatten hL.ne
          have hlu := hus.length
          simp only [zs, List.length_map] at hlu
          have hz1 : us.length ≤ 1000 := by omega
          have hpa : ¬ pa < pa := by omega
          obtain ⟨TL, hTL⟩ : ∃ TL, TL = fam nd9 (List.range 12) ++ (tupsT ts ++ RR) := ⟨_, rfl⟩
          rw [← hTL] at N hA
          have N0 := N
          clear N
          simp only [sortL, List.cons_append, List.nil_append] at N0
          refine hPz ?_
          clear hPz Pz
          by_cases hcur : cur = []
          · subst hcur
            obtain rfl : us = [] := hus.nil_inv
            repeat' (first | ((with_reducible show wpAny _ _ (call (Value.ref _) _) _ _ _); k_dflt (refine use_active (by k_asm) (by k_asm) (by k_asm) (by k_asm) (by k_mem) (by k_mem) (by k_mem) (by assumption) (by assumption) (by first | omega | (simp only [Around.deeper]; omega)) ?_); top_caught0) | top_args)
            rename Fr _ _ _ _ => F4
            rename News _ _ _ _ => N4
            rename_i D9 _ l9
            rw [rounds_nil, List.append_nil] at hro
            have hAll : Apart ((D9, ({ cls := .type "tuple", data := .seq #[.bool c, .ref lr] } : Obj)) :: (lr, W.listOf (refsT ts).toArray nr) :: (sortL w.params x dx dn rl o t0 t1 t2 t3 tp tf pa pa [] n1 ++ TL)) := by
              exact hA.cons (off_lt l9)
            have hA9 : Apart (((D9, ({ cls := .type "tuple", data := .seq #[.bool c, .ref lr] } : Obj)) :: (lr, W.listOf (refsT ts).toArray nr) :: (tupsT ts ++ [(lc, W.listOf cs.toArray nc)])) ++ frs') := by
              refine hAll.sublist ?_
              rw [hTL, hRR]
              refine .cons₂ _ (.cons₂ _ ?_)
              show ((tupsT ts ++ [(lc, W.listOf cs.toArray nc)]) ++ frs').Sublist _
              rw [List.append_assoc]
              exact (List.sublist_append_right _ _).trans (List.sublist_append_right _ _)
            rw [hB0] at F4 N4
            refine fin O D hapR hQ (((D9, ({ cls := .type "tuple", data := .seq #[.bool c, .ref lr] } : Obj)) :: (lr, W.listOf (refsT ts).toArray nr) :: (tupsT ts ++ [(lc, W.listOf cs.toArray nc)])) ++ frs') ⟨_, frs', rfl, SU, hA9.cross, D9, c, lr, ts, nr, rfl, rfl, by rw [hro]; exact hTu, hc, hA9.left⟩ F4 N4 (fun p hp => ?_)
            rw [hTL, hRR]
            revert p; top_name
          · obtain ⟨u0, us0, hue⟩ : ∃ u0 us0, us = u0 :: us0 := by
              cases us with
              | nil => exact absurd (List.length_eq_zero_iff.mp (by simpa using hlu.symm)) hcur
              | cons a r => exact ⟨a, r, rfl⟩
            have hzr : (refsT ts).length ≤ 1000 := by simp [refsT]; omega
            have hempty : us.isEmpty = false := by rw [hue]; rfl
            have h13 : ((refsT ts).length : Int) < 13 := by simp [refsT]; omega
            repeat' (first | ((with_reducible show wpAny _ _ (call (Value.builtin "len") _) _ _ _); k_dflt (refine li_lenL (by k_asm) (by k_mem) (by assumption) ?_); intro _ _) | ((with_reducible show wpAny _ _ (call (Value.ref _) _) _ _ _); k_dflt (refine use_active (by k_asm) (by k_asm) (by k_asm) (by k_asm) (by k_mem) (by k_mem) (by k_mem) (by assumption) (by assumption) (by first | omega | (simp only [Around.deeper]; omega)) ?_); top_caught0) | top_args)
            rename Fr _ _ _ _ => F4
            rename News _ _ _ _ => N4
            have hAs : Apart (sortL w.params x dx dn rl o t0 t1 t2 t3 tp tf pa pa us n1 ++ fam nd9 (List.range 12)) := by
              have h1 := hA.tail
              rw [hTL, ← List.append_assoc] at h1
              exact h1.left
            have hcr : ∀ p ∈ sortL w.params x dx dn rl o t0 t1 t2 t3 tp tf pa pa us n1 ++ fam nd9 (List.range 12), ∀ r ∈ (lr, W.listOf (refsT ts).toArray nr) :: (tupsT ts ++ RR), p.1 ≠ r.1 := fun p hp r hr => by
              rcases List.mem_cons.mp hr with rfl | hr
              · exact hA.head p (by rw [hTL, ← List.append_assoc]; exact List.mem_append_left _ hp)
              · have h1 := hA.tail
                rw [hTL, ← List.append_assoc] at h1
                exact h1.cross p hp r hr
            have ho9 : o.IsDictOf (intKind Pg w) (kvsOf nd9 12) := by rw [kvs_eq (nd := nd') fun k => (hst9 k).1]; exact ho3
            refine (getready_tell x dx dn rl o t0 t1 t2 t3 tp tf pa pa us (zs cur) n1 nd9 (fam nd9 (List.range 12)) rfl ho9 hus (fun k hk => ?_) (by omega) (by rw [hue]; first | top_raise0 | simp) hdn hAs (by first | omega | (simp only [Around.deeper]; omega))).use (news := (lr, W.listOf (refsT ts).toArray nr) :: (tupsT ts ++ RR)) X T F4 N4 (fun p hp => ?_) hcr ?_
            · obtain ⟨j, hj, rfl⟩ := List.mem_map.mp hk
              have := hL.lt j (List.mem_append_right _ hj)
              omega
            · rw [hTL]
              revert p; top_name
            · intro r foc' h' tk' hZ0 F' N' hoff8
              refine byProp fun Pz hPz => ?_
              obtain ⟨D8, tp8, nd8, n8, rfl, rfl, hst8, hA8⟩ := hZ0
              clear F4 N4
              have g1 := hoff8 (D8, tupO us) (.head _) (lr, W.listOf (refsT ts).toArray nr) (.head _)
              have g2 : ∀ p ∈ sortL w.params x dx dn rl o t0 t1 t2 t3 tp8 tf (pa + us.length) pa [] n8 ++ (fam nd8 (List.range 12) ++ (tupsT ts ++ RR)), p.1 ≠ lr := fun p hp => by
                rw [← List.append_assoc] at hp
                rcases List.mem_append.mp hp with hp | hp
                · exact hoff8 p (.tail _ hp) (lr, W.listOf (refsT ts).toArray nr) (.head _)
                · exact hA.head p (by rw [hTL]; exact List.mem_append_right _ (List.mem_append_right _ hp))
              obtain ⟨TL2, hTL2⟩ : ∃ TL2, TL2 = sortL w.params x dx dn rl o t0 t1 t2 t3 tp8 tf (pa + us.length) pa [] n8 ++ (fam nd8 (List.range 12) ++ (tupsT ts ++ RR)) := ⟨_, rfl⟩
              rw [← hTL2] at g2
              have N5 : News B0 L h' ((lr, W.listOf (refsT ts).toArray nr) :: (D8, tupO us) :: (x, instObj 137 dx) :: (dx, sortD w.params t0 t1 t2 t3 (.ref dn) (.ref rl) (.int (pa + us.length) tp8) (.int pa tf)) :: TL2) := fun p hp => N' p (by
                rw [hTL2] at hp
                revert p; top_name)
              clear N'
              have g3 := g2 (x, instObj 137 dx) (by rw [hTL2]; simp [sortL])
              have g4 := g2 (dx, sortD w.params t0 t1 t2 t3 (.ref dn) (.ref rl) (.int (pa + us.length) tp8) (.int pa tf)) (by rw [hTL2]; simp [sortL])
              have hzus : us.length ≤ 1000 := hz1
              refine hPz ?_
              clear hPz Pz
              repeat' (first | ((with_reducible show wpAny _ _ (eval (Expr.Call (Expr.Attribute _ _ _) [Expr.Starred _ _] [] _) _) _ _ _); k_dflt (refine methodStar ?_)) | ((with_reducible show wpAny _ _ (call (Value.builtin "list.append") _) _ _ _); k_dflt (refine li_append (by k_asm) (by k_asm) (by k_upd) (by assumption) ?_); top_caught0) | top_args)
              refine callWith_MS (K := hd.heap_1 w.params) (g := 120) (self := .ref x) (by k_is) ?_
              repeat' (first | (k_dflt (refine star_tup (by k_asm) (by k_asm) (by k_mem) (by assumption) ?_); intro _ _ _; (try k_sweep); (try dsimp only [List.nil_append, List.cons_append])) | ((with_reducible show wpAny _ _ (subscriptTail _ _ _ _) _ _ _); with_unfolding_all refine li_last (by k_asm) (by k_mem) (by assumption) ?_) | top_args)
              rename Fr _ _ _ _ => F4
              rename News _ _ _ _ => N4
              rename_i q9 _ l9 _
              refine ⟨methP N4 (.head _) (X.keeps F4.keep), ?_⟩
              have hst8y : ∀ k, (nd8 k).y = (nd9 k).y ∧ (nd8 k).d = (nd9 k).d ∧ (nd8 k).l = (nd9 k).l ∧ (nd8 k).sc = (nd9 k).sc := fun k => by obtain ⟨t, e⟩ := hst8 k; rw [e]; exact ⟨rfl, rfl, rfl, rfl⟩
              have hnp8 : ∀ k, (nd8 k).np = if k ∈ cur then -1 else (nd9 k).np := fun k => by
                obtain ⟨t, e⟩ := hst8 k
                rw [e]
                show (if (k : Int) ∈ zs cur then (-1 : Int) else (nd9 k).np) = _
                simp only [mem_zs]
              have ho8 : o.IsDictOf (intKind Pg w) (kvsOf nd8 12) := by rw [kvs_eq (nd := nd9) fun k => (hst8y k).1]; exact ho9
              have L2 := (hL.step (succP_ok perm q) hcur)
              have hfl : (Rs ++ [cur]).flatten = Rs.flatten ++ cur := by simp
              have hlc : cur.length ≤ 12 := by omega
              refine (done_code x dx dn rl o t0 t1 t2 t3 tp8 tf (pa + us.length) pa us cur n8 nd8 (succP perm q) (fam nd8 (List.range 12)) rfl ho8 hus (fun k hk => hL.lt k (List.mem_append_right _ hk)) (List.nodup_append.mp hL.nd).2.1 hlc (fun k hk => ?_) (fun k hk => ?_) (fun k hk j e => ?_) (succP_ok perm q).inj hdn hA8.tail (by first | omega | (simp only [Around.deeper]; omega))).use (news := (lr, W.listOf (List.toArray (refsT ts ++ [.ref D8])) (nr + 1)) :: (D8, tupO us) :: (tupsT ts ++ RR)) X T F4 N4 (fun p hp => ?_) (fun p hp r hr => ?_) ?_
              · rw [(hst8y k).2.2.2, (hst9 k).2.2.2]
                exact hsc3 k (hL.lt k (List.mem_append_right _ hk))
              · rw [hnp8, if_pos hk]
              · have hj : j ∈ cur.filterMap (succP perm q) := List.mem_filterMap.mpr ⟨k, hk, e⟩
                have hnj : j ∉ Rs.flatten ++ cur := fun h => (List.nodup_append.mp L2.nd).2.2 j (by rw [hfl]; exact h) j hj rfl
                simp only [List.mem_append, not_or] at hnj
                have hj12 := (succP_some e).1
                refine ⟨hj12, ?_⟩
                rw [hnp8, if_neg hnj.2, hnp9 j hj12, npS, if_neg hnj.1, if_neg hnj.2]
              · rw [hTL2]
                revert p; top_name
              · rcases List.mem_cons.mp hr with rfl | hr
                · exact hoff8 p (.tail _ hp) (lr, W.listOf (refsT ts).toArray nr) (.head _)
                · rcases List.mem_cons.mp hr with rfl | hr
                  · exact hA8.head p hp
                  · exact hoff8 p (.tail _ hp) r (.tail _ hr)
              · intro r foc' h' tk' hZ0 F' N' hoff7
                refine byProp fun Pz hPz => ?_
                obtain ⟨tf7, nd7, us7, n7, rfl, rfl, hus7, hst7, hA7⟩ := hZ0
                clear F4 N4
                obtain ⟨f', rfl⟩ : ∃ f', f = f' + 1 := ⟨f - 1, by omega⟩
                have hst7y : ∀ k, (nd7 k).y = (nd8 k).y ∧ (nd7 k).d = (nd8 k).d ∧ (nd7 k).l = (nd8 k).l ∧ (nd7 k).sc = (nd8 k).sc := fun k => by obtain ⟨t, e⟩ := hst7 k; rw [e]; exact ⟨rfl, rfl, rfl, rfl⟩
                have hlen9 : ((cur.length : Nat) : Int) = (us.length : Int) := by rw [hlu]
                rw [hlen9] at N' hA7
                refine hPz ?_
                clear hPz Pz
                k_steps
                rename Fr _ _ _ _ => F4
                rename News _ _ _ _ => N4
                have hpos : 0 < cur.length := List.length_pos_iff.mpr hcur
                refine TurnW.next (n9 - cur.length) (by omega) F4 (led' := (lr, W.listOf (List.toArray (refsT (ts ++ [⟨D8, us⟩]))) (nr + 1)) :: (sortL w.params x dx dn rl o t0 t1 t2 t3 tp8 tf7 (pa + us.length) (pa + us.length) us7 n7 ++ (fam nd7 (List.range 12) ++ (tupsT (ts ++ [⟨D8, us⟩]) ++ RR)))) (fun p hp => N4 p ?_) ⟨ts ++ [⟨D8, us⟩], Rs ++ [cur], cur.filterMap (succP perm q), us7, nd7, tp8, tf7, pa + us.length, n7, nr + 1, f', rfl, rfl, rfl, rfl, rfl, rfl, hTu.snoc hus, hus7, L2, (fun k => ?_), (fun k hk => ?_), ?_, ?_, rounds_step hcur hro, ?_⟩
                · rw [refsT_snoc, tupsT_snoc] at hp
                  revert p; top_name
                · exact ⟨((hst7y k).1.trans (hst8y k).1).trans (hst9 k).1, ((hst7y k).2.1.trans (hst8y k).2.1).trans (hst9 k).2.1, ((hst7y k).2.2.1.trans (hst8y k).2.2.1).trans (hst9 k).2.2.1, ((hst7y k).2.2.2.trans (hst8y k).2.2.2).trans (hst9 k).2.2.2⟩
                · obtain ⟨t, e⟩ := hst7 k
                  rw [e, npS_step (succP_ok perm q) hL hcur]
                  show npF nd8 (succP perm q) cur k = _
                  unfold npF
                  by_cases h1 : k ∈ cur
                  · rw [if_pos h1, if_pos h1]
                  · rw [if_neg h1, if_neg h1, hnp8, if_neg h1, hnp9 k hk]
                · rw [hfl, List.length_append]; omega
                · simp; omega
                · have h1 : Apart ((D8, tupO us) :: (lr, W.listOf (refsT ts).toArray nr) :: (sortL w.params x dx dn rl o t0 t1 t2 t3 tp tf pa pa us n1 ++ (fam nd9 (List.range 12) ++ (tupsT ts ++ RR)))) := by
                    rw [← hTL]
                    refine hA.cons fun p hp => ?_
                    have hD : ∀ p' ∈ sortL w.params x dx dn rl o t0 t1 t2 t3 tp8 tf (pa + us.length) pa [] n8 ++ fam nd8 (List.range 12), p'.1 ≠ D8 := hA8.head
                    rcases List.mem_cons.mp hp with rfl | hp
                    · exact Ne.symm (hoff8 (D8, tupO us) (.head _) (lr, W.listOf (refsT ts).toArray nr) (.head _))
                    · rw [hTL, ← List.append_assoc] at hp
                      rcases List.mem_append.mp hp with hp | hp
                      · refine off_addr hD ?_ p hp
                        exact addr_app rfl (fam_addr (nd' := nd8) (nd := nd9) fun k => ⟨(hst8y k).1, (hst8y k).2.1, (hst8y k).2.2.1⟩).symm
                      · exact Ne.symm (hoff8 (D8, tupO us) (.head _) p (.tail _ hp))
                  have h2 := h1.perm (l' := ((lr, W.listOf (refsT ts).toArray nr) :: (sortL w.params x dx dn rl o t0 t1 t2 t3 tp tf pa pa us n1 ++ (fam nd9 (List.range 12) ++ tupsT ts))) ++ (D8, tupO us) :: RR) (by
                    have := (List.perm_middle (a := (D8, tupO us)) (l₁ := (lr, W.listOf (refsT ts).toArray nr) :: (sortL w.params x dx dn rl o t0 t1 t2 t3 tp tf pa pa us n1 ++ (fam nd9 (List.range 12) ++ tupsT ts))) (l₂ := RR)).symm
                    simpa only [List.cons_append, List.append_assoc] using this)
                  refine h2.addr ?_
                  rw [tupsT_snoc]
                  have hfa := fam_addr (nd' := nd7) (nd := nd9) (ks := List.range 12) fun k => ⟨(hst7y k).1.trans (hst8y k).1, (hst7y k).2.1.trans (hst8y k).2.1, (hst7y k).2.2.1.trans (hst8y k).2.2.1⟩
                  simp [sortL, hfa]
        · refine ⟨[], [], (List.range 12).filter q, ys, nd', t4, t5, 0, n1, 0, 13, rfl, rfl, rfl, rfl, rfl, rfl, .nil, hys, lev0 q, fun k => ⟨rfl, rfl, rfl, rfl⟩, fun k hk => ?_, rfl, rfl, rfl, hSA.cons fun p hp => Nat.ne_of_lt (hlr p (hsubs p hp))⟩
          rw [hnp k hk]
          by_cases e : q k = true <;> simp [npS, e, hk]
end
end -- MRa
example : True := by first | (w_top off; walk1) | trivial
section -- MCc
/- comprehensions whose own name stands in a cell (an inner one takes it) -/
section
variable {prog : Program} {w : World} {A : Around} {E : Value → Shared → Prop} {s : Shared} {h₀ : Heap} {L : Addr} {m : Str → Option Value} {env : Env}
noncomputable abbrev cell0 : Obj := { cls := .type "cell", data := .cell none }
theorem newEnv_one {M : Model} {scope : Scope} {globals : Addr} {cl : List (Str × Addr)} {qual x : Str} {Q : Env → Shared → Prop}
    (hcf : ∀ N, cellsFrom N scope.names cl = (x, N) :: cl) (hpc : ∀ h, pushCells h scope.names = h.push cell0)
    (h : Q (newEnv scope s.heap.objs.size globals ((x, s.heap.objs.size + 1) :: cl) qual none .none (some env) builtinsNs) { s with heap := (s.heap.push { cls := .type "dict", data := .dict #[] }).push cell0 }) :
    wpAny M A (newFunctionEnv scope globals cl [] qual none .none (some env)) Q E s := by
  simp only [newFunctionEnv, Option.isSome_some, if_true]
  refine wpAny_bind (wpAny_alloc ?_)
  refine wpAny_bind (wpAny_layCells _ (fun name kind cells => by cases hkc : kind == NameKind.cell <;> simp [hkc]) _ _ _ _ ?_)
  rw [show ({ s with heap := s.heap.push { cls := .type "dict", data := .dict #[] } } : Shared).heap.objs.size = s.heap.objs.size + 1 from Heap.size_push .., hcf, hpc]
  refine wpAny_bind ?_
  rw [List.forIn_nil]
  exact wpAny_pure (wpAny_pure h)
inductive CompEndC (h₀ : Heap) (L : Addr) (m : Str → Option Value) (s₁ : Shared) (I : Addr) (oI : Obj) (C : Addr) (oC : Obj) (c : Addr) (oc : Obj) (D : Addr) (oD : Obj) (S : List (Addr × Obj) → Prop) (rest : Value → List (Addr × Obj) → Prop) (y : Value) (s₂ : Shared) : Prop
  | mk (h' : Heap) (tk : Nat) (news' : List (Addr × Obj)) (f1 : s₂ = { s₁ with heap := h', toks := tk }) (f2 : Fr h₀ L h' m) (f3 : News h₀ L h' ((I, oI) :: (C, oC) :: (c, oc) :: (D, oD) :: news')) (f4 : (∀ p ∈ news', p.1 ≠ I ∧ p.1 ≠ C ∧ p.1 ≠ c ∧ p.1 ≠ D)) (f5 : S news') (f6 : rest y news')
inductive BlkJ (h₀ : Heap) (L I C D : Addr) (m : Str → Option Value) (n : Nat) (St : Nat → Heap → Prop) (S : List (Addr × Obj) → Prop) (J : Nat → List Value → List (Addr × Obj) → Prop) (s₂ : Shared) (k : Nat) (s' : Shared) : Prop
  | mk (h' : Heap) (tk i : Nat) (ys : List Value) (m' : Str → Option Value) (v' : Option Value) (news' : List (Addr × Obj)) (e : s' = { s₂ with heap := h', toks := tk }) (hi : i ≤ n) (hk : k = n + 1 - i) (hyl : ys.length ≤ i) (hst : St i h') (F : Fr h₀ L h' m) (hn : h'.Ns C m') (hce : h'.IsCell (C + 1) v') (N : News h₀ L h' ((D, LCg.lst ys) :: news'))
    (off : ∀ p ∈ news', p.1 ≠ I ∧ p.1 ≠ C ∧ p.1 ≠ C + 1 ∧ p.1 ≠ D) (hS : S news') (hJ : J i ys news')
theorem block_C {elt iter : Expr} {ifs : List Expr} {x : Str} {px : Pos} {scope : Scope} {cl : List (Str × Addr)} {pos : Pos} {s₂ : Shared} {I : Addr} {fp : List Addr} {n : Nat} {P : Nat → Value → Prop} {St : Nat → Heap → Prop} {S : List (Addr × Obj) → Prop} {news : List (Addr × Obj)} {RR : Value → Addr → Result → Shared → Prop}
    (J : Nat → List Value → List (Addr × Obj) → Prop)
    (W : Walks prog w A I fp [I] n P St) (hsz : n ≤ sizeLine) (hIo : ∀ i h, St i h → ∃ o, h.get? I = some o)
    (hSt : ∀ i h h' o nw, St i h → h.get? I = some o → h'.get? I = some o → (∀ b o, h₀.get? b = some o → h'.get? b = some o) → News h₀ L h' nw → S nw → St i h')
    (hcf : ∀ N, cellsFrom N scope.names cl = (x, N) :: cl) (hpc : ∀ h, pushCells h scope.names = h.push cell0) (hkind : scope.kind = .function) (hx : (relabel scope env).names.lookup x = some .cell) (hst : St 0 s₂.heap) (hfp : ∀ b ∈ fp, b < s₂.heap.objs.size)
    (F : Fr h₀ L s₂.heap m) (N : News h₀ L s₂.heap news) (hIL : L ≠ I) (hI₀ : h₀.get? I = none) (off : ∀ p ∈ news, p.1 ≠ I) (hS : S news) (hJ : J 0 [] news)
    (step : ∀ i ys news v oI C oC c oc D m₂ h tk (E' : Value → Shared → Prop), i < n → J i ys news → P i v → LCg.NsObj oC m₂ → oc.data = .cell (some v) → Fr h₀ L h m → News h₀ L h ((I, oI) :: (C, oC) :: (c, oc) :: (D, LCg.lst ys) :: news) → (∀ p ∈ news, p.1 ≠ I ∧ p.1 ≠ C ∧ p.1 ≠ c ∧ p.1 ≠ D) → (I ≠ C ∧ I ≠ c ∧ I ≠ D ∧ C ≠ c ∧ C ≠ D ∧ c ≠ D) → s₂.heap.objs.size ≤ D →
      wpAny (model prog w) A (forIn ifs true fun e r => if r = true then do let ok ← PySem.isTrue e (compEnvC scope ((x, c) :: cl) C env) (eval e (compEnvC scope ((x, c) :: cl) C env)); pure (ForInStep.yield ok) else pure (ForInStep.yield r)) (fun ok s' => if ok = true then
        wpAny (model prog w) A (eval elt (compEnvC scope ((x, c) :: cl) C env)) (CompEndC h₀ L m { s₂ with heap := h, toks := tk } I oI C oC c oc D (LCg.lst ys) S (fun y news' => J (i + 1) (ys ++ [y]) news')) E' s'
        else CompEndC h₀ L m { s₂ with heap := h, toks := tk } I oI C oC c oc D (LCg.lst ys) S (fun _ news' => J (i + 1) ys news') Value.none s') E' { s₂ with heap := h, toks := tk })
    (hRR : ∀ D C h tk m' ys news', Fr h₀ L h m → News h₀ L h ((D, LCg.lst ys) :: news') → (∀ p ∈ news', p.1 ≠ D) → h.Ns C m' → h₀.get? C = none → h₀.get? D = none → C ≠ L → D ≠ L → C ≠ D → (∀ p ∈ news', p.1 ≠ C) → J n ys news' → RR (.ref D) C (.ok .next) { s₂ with heap := h, toks := tk }) :
    wpAny (model prog w) A (newList []) (fun acc s₃ => wpAny (model prog w) A (newFunctionEnv scope env.globals cl [] env.qual none .none (some env)) (fun cenv s₄ =>
      codeAny (model prog w) A (.compStart (.ListComp elt [⟨.Name x px, iter, ifs, 0⟩] scope pos) 0 (.ref I) acc { cenv with scope := relabel scope env }) (RR acc cenv.locals) s₄) E s₃) E s₂ := by
  refine wpAny_newObj_type (newEnv_one (x := x) hcf hpc ?_)
  dsimp only
  generalize hH2 : s₂.heap.push { cls := .type "list", dict := none, data := .seq ([] : List Value).toArray } = H2
  have hC : H2.objs.size = s₂.heap.objs.size + 1 := by rw [← hH2, Heap.size_push]
  generalize hH3 : (H2.push { cls := .type "dict", data := .dict #[] }).push cell0 = h₁
  have hDC : s₂.heap.objs.size ≠ H2.objs.size := by rw [hC]; exact Nat.ne_of_lt (Nat.lt_succ_self _)
  have hDc : s₂.heap.objs.size ≠ H2.objs.size + 1 := by rw [hC]; exact Nat.ne_of_lt (Nat.lt_succ_of_lt (Nat.lt_succ_self _))
  have hCc : H2.objs.size ≠ H2.objs.size + 1 := Nat.ne_of_lt (Nat.lt_succ_self _)
  have below : ∀ b, b < s₂.heap.objs.size → b ≠ H2.objs.size ∧ b ≠ H2.objs.size + 1 ∧ b ≠ s₂.heap.objs.size := fun b hb => ⟨by rw [hC]; exact Nat.ne_of_lt (Nat.lt_succ_of_lt hb), by rw [hC]; exact Nat.ne_of_lt (Nat.lt_succ_of_lt (Nat.lt_succ_of_lt hb)), Nat.ne_of_lt hb⟩
  have hDf : s₂.heap.objs.size ∉ fp := fun hm => Nat.lt_irrefl _ (hfp _ hm)
  have hCf : H2.objs.size ∉ fp := fun hm => (below _ (hfp _ hm)).1 rfl
  have hcf' : H2.objs.size + 1 ∉ fp := fun hm => (below _ (hfp _ hm)).2.1 rfl
  have hIf : I ∈ fp := W.sub I (List.mem_singleton.mpr rfl)
  have hIlt : I < s₂.heap.objs.size := hfp I hIf
  have old2 : ∀ b o, H2.get? b = some o → h₁.get? b = some o := fun b o e => hH3 ▸ Heap.get?_push_of_some _ (Heap.get?_push_of_some _ e)
  have old : ∀ b o, s₂.heap.get? b = some o → h₁.get? b = some o := fun b o e => old2 b o (hH2 ▸ Heap.get?_push_of_some _ e)
  have hacc : h₁.get? s₂.heap.objs.size = some (LCg.lst []) := old2 _ _ (hH2 ▸ Heap.get?_push_size _ rfl)
  have hns₁ : h₁.Ns H2.objs.size (fun _ => none) := (Heap.Ns.new H2 (.type "dict")).keeps fun b o e => hH3 ▸ Heap.get?_push_of_some _ e
  have hcell₁ : h₁.IsCell (H2.objs.size + 1) none := by
    refine ⟨cell0, ?_, rfl⟩
    rw [← hH3]
    have : H2.objs.size + 1 = (H2.push { cls := .type "dict", data := .dict #[] }).objs.size := (Heap.size_push ..).symm
    rw [this]
    exact Heap.get?_push_size _ rfl
  have hst₁ : St 0 h₁ := W.frame _ _ _ hst fun b _ o e => old b o e
  have fresh : ∀ a, s₂.heap.objs.size ≤ a → s₂.heap.get? a = none := fun a ha => by
    cases e : s₂.heap.get? a with
    | none => rfl
    | some o' => exact absurd (Heap.lt_size e) (Nat.not_lt.mpr ha)
  have fresh₀ : ∀ a, s₂.heap.objs.size ≤ a → h₀.get? a = none := fun a ha => by
    cases e : h₀.get? a with
    | none => rfl
    | some o' => have := F.keep a o' e; rw [fresh a ha] at this; cases this
  have hD₀ : h₀.get? s₂.heap.objs.size = none := fresh₀ _ (Nat.le_refl _)
  have hC₀ : h₀.get? H2.objs.size = none := fresh₀ _ (by rw [hC]; exact Nat.le_succ _)
  have hc₀ : h₀.get? (H2.objs.size + 1) = none := fresh₀ _ (by rw [hC]; exact Nat.le_succ_of_le (Nat.le_succ _))
  have hLlt : L < s₂.heap.objs.size := F.ns.lt
  have hDL : s₂.heap.objs.size ≠ L := Ne.symm (below L hLlt).2.2
  have hCL : H2.objs.size ≠ L := Ne.symm (below L hLlt).1
  have hcL : H2.objs.size + 1 ≠ L := Ne.symm (below L hLlt).2.1
  have hCI : I ≠ H2.objs.size := (below I hIlt).1
  have hcI : I ≠ H2.objs.size + 1 := (below I hIlt).2.1
  have hDI : I ≠ s₂.heap.objs.size := (below I hIlt).2.2
  have off₀ : ∀ p ∈ news, p.1 ≠ I ∧ p.1 ≠ H2.objs.size ∧ p.1 ≠ H2.objs.size + 1 ∧ p.1 ≠ s₂.heap.objs.size := fun p hp => ⟨off p hp, (below _ (Heap.lt_size (N p hp).1)).1, (below _ (Heap.lt_size (N p hp).1)).2.1, (below _ (Heap.lt_size (N p hp).1)).2.2⟩
  have hxk : (compEnvC scope ((x, H2.objs.size + 1) :: cl) H2.objs.size env).kindOf x = some .cell := hx
  have loop : ∀ s₃ : Shared, s₃ = { s₂ with heap := h₁ } →
      codeAny (model prog w) A (.compLoop (.ListComp elt [⟨.Name x px, iter, ifs, 0⟩] scope pos) 0 (.ref I) (.ref s₂.heap.objs.size) (compEnvC scope ((x, H2.objs.size + 1) :: cl) H2.objs.size env))
        (RR (.ref s₂.heap.objs.size) H2.objs.size) s₃ := by
    rintro s₃ rfl
    refine codeAny_compLoop_tests
      (fun k s' => BlkJ h₀ L I H2.objs.size s₂.heap.objs.size m n St S J s₂ k s') ?_ (n + 1)
      ⟨h₁, _, 0, [], _, _, news, rfl, Nat.zero_le _, rfl, Nat.le_refl _, hst₁, F.keeps old, hns₁, hcell₁, fun p hp => ?_, off₀, hS, hJ⟩
    · intro k s' hZ0
      refine byProp fun Pz hPz => ?_
      obtain ⟨h', tk, i, ys, m', v', news', rfl, hi, rfl, hyl, hst', F', hn', hce', N', off', hS', J'⟩ := hZ0
      refine hPz ?_
      clear hPz Pz
      by_cases hlt : i < n
      · refine W.item i _ _ _ hlt hst' fun v h₂ tk₂ hPv hst₂ hk₂ => ?_
        have hce₂ : h₂.IsCell (H2.objs.size + 1) v' := by
          refine byProp fun Pz hPz => ?_
          obtain ⟨oc, e, d⟩ := hce'
          refine hPz ?_
          clear hPz Pz
          exact ⟨oc, hk₂ _ _ (by simpa using Ne.symm hcI) e, d⟩
        refine wpAny_assign_Name (wpAny_storeName_cell (c := H2.objs.size + 1) hkind hxk (by simp [compEnvC]) hce₂ (fun h₃ hce₃ hs₃ => ?_))
        have hst₃ : St (i + 1) h₃ := W.frame _ _ _ hst₂ fun b hb o e => hs₃.extBut b o (fun q => hcf' (by have q' : b = H2.objs.size + 1 := q; rw [← q']; exact hb)) e
        refine byProp fun Pz hPz => ?_
        obtain ⟨oI, heI⟩ := hIo _ _ hst₃
        have hn₃ : h₃.Ns H2.objs.size m' := (hn'.at' fun o e => hk₂ _ o (by simpa using Ne.symm hCI) e).sameBut hs₃ hCc
        obtain ⟨oC, heC, hoC⟩ := LCg.ns_obj hn₃
        obtain ⟨oc, hec, hoc⟩ := hce₃
        have F₃ : Fr h₀ L h₃ m := (LCg.fr_but F' hk₂ hIL hI₀).change hs₃ hcL hc₀
        have N₂ : News h₀ L h₂ ((s₂.heap.objs.size, LCg.lst ys) :: news') := LCg.news_but N' hk₂ fun p hp => by
          rcases List.mem_cons.mp hp with rfl | hp
          · exact Ne.symm hDI
          · exact (off' p hp).1
        have N₃ : News h₀ L h₃ ((I, oI) :: (H2.objs.size, oC) :: (H2.objs.size + 1, oc) :: (s₂.heap.objs.size, LCg.lst ys) :: news') := fun p hp => by
          rcases List.mem_cons.mp hp with rfl | hp
          · exact ⟨heI, Ne.symm hIL, hI₀⟩
          · rcases List.mem_cons.mp hp with rfl | hp
            · exact ⟨heC, hCL, hC₀⟩
            · rcases List.mem_cons.mp hp with rfl | hp
              · exact ⟨hec, hcL, hc₀⟩
              · have z := N₂ p hp
                refine ⟨hs₃.extBut _ _ ?_ z.1, z.2⟩
                rcases List.mem_cons.mp hp with rfl | hp
                · exact hDc
                · exact (off' p hp).2.2.1
        refine hPz ?_
        clear hPz Pz
        refine wpAny_mono (step i ys news' v oI H2.objs.size oC (H2.objs.size + 1) oc s₂.heap.objs.size m' h₃ _ _ hlt J' hPv hoC hoc F₃ N₃ off' ⟨hCI, hcI, hDI, hCc, Ne.symm hDC, Ne.symm hDc⟩ (Nat.le_refl _)) (fun ok s₄ h₄ => ?_) fun _ _ e => e
        cases ok with
        | true =>
          simp only [if_true] at h₄ ⊢
          refine wpAny_mono h₄ (fun y s₅ h₅ => ?_) fun _ _ e => e
          refine byProp fun Pz hPz => ?_
          obtain ⟨h₄, tk₄, news₄, rfl, F₄, N₄, off₄, hS₄, J₄⟩ := h₅
          have zI := (N₄ (I, oI) List.mem_cons_self).1
          have zC := (N₄ (H2.objs.size, oC) (.tail _ (.head _))).1
          have zc := (N₄ (H2.objs.size + 1, oc) (.tail _ (.tail _ (.head _)))).1
          have zD := (N₄ (s₂.heap.objs.size, LCg.lst ys) (.tail _ (.tail _ (.tail _ (.head _))))).1
          have N₄' : News h₀ L h₄ news₄ := fun p hp => N₄ p (.tail _ (.tail _ (.tail _ (.tail _ hp))))
          have hst₄ : St (i + 1) h₄ := hSt _ _ _ _ _ hst₃ heI zI F₄.keep N₄' hS₄
          refine hPz ?_
          clear hPz Pz
          refine append_at (hsz := by show ys.toArray.size ≤ sizeLine; rw [List.size_toArray]; exact Nat.le_trans (Nat.le_trans hyl hi) hsz) zD fun h₅ hs₅ hD₅ => ?_
          refine ⟨n + 1 - (i + 1), by omega, h₅, tk₄, i + 1, ys ++ [y], _, _, news₄, rfl, hlt, rfl, by rw [List.length_append, List.length_singleton]; exact Nat.succ_le_succ hyl, W.frame _ _ _ hst₄ fun b hb o e => hs₅.extBut b o (fun q => hDf (q ▸ hb)) e, F₄.change hs₅ hDL hD₀,
            (hoC.ns zC).sameBut hs₅ (Ne.symm hDC), ⟨oc, hs₅.extBut _ _ (Ne.symm hDc) zc, hoc⟩, fun p hp => ?_, off₄, hS₄, J₄⟩
          rcases List.mem_cons.mp hp with rfl | hp
          · exact ⟨hD₅.trans (congrArg some (LCg.lst_snoc ys y)), hDL, hD₀⟩
          · exact ⟨hs₅.extBut _ _ (off₄ p hp).2.2.2 (N₄' p hp).1, (N₄' p hp).2⟩
        | false =>
          simp only [Bool.false_eq_true, if_false] at h₄ ⊢
          refine byProp fun Pz hPz => ?_
          obtain ⟨h₅, tk₄, news₄, rfl, F₄, N₄, off₄, hS₄, J₄⟩ := h₄
          have zI := (N₄ (I, oI) List.mem_cons_self).1
          have zC := (N₄ (H2.objs.size, oC) (.tail _ (.head _))).1
          have zc := (N₄ (H2.objs.size + 1, oc) (.tail _ (.tail _ (.head _)))).1
          have N₄' : News h₀ L h₅ news₄ := fun p hp => N₄ p (.tail _ (.tail _ (.tail _ (.tail _ hp))))
          have hst₄ : St (i + 1) h₅ := hSt _ _ _ _ _ hst₃ heI zI F₄.keep N₄' hS₄
          refine hPz ?_
          clear hPz Pz
          refine ⟨n + 1 - (i + 1), by omega, h₅, tk₄, i + 1, ys, _, _, news₄, rfl, hlt, rfl, Nat.le_succ_of_le hyl, hst₄, F₄, hoC.ns zC, ⟨oc, zc, hoc⟩, fun p hp => ?_, off₄, hS₄, J₄⟩
          rcases List.mem_cons.mp hp with rfl | hp
          · exact N₄ _ (.tail _ (.tail _ (.tail _ (.head _))))
          · exact N₄' p hp
      · obtain rfl : i = n := Nat.le_antisymm hi (Nat.not_lt.mp hlt)
        refine W.done _ _ _ hst' fun h₂ tk₂ hk₂ => ?_
        exact hRR _ _ h₂ tk₂ _ ys news' (LCg.fr_but F' hk₂ hIL hI₀) (LCg.news_but N' hk₂ fun p hp => by
          rcases List.mem_cons.mp hp with rfl | hp
          · exact Ne.symm hDI
          · exact (off' p hp).1) (fun p hp => (off' p hp).2.2.2) (hn'.at' fun o e => hk₂ _ o (by simpa using Ne.symm hCI) e) hC₀ hD₀ hCL hDL (Ne.symm hDC) (fun p hp => (off' p hp).2.1) J'
    · rcases List.mem_cons.mp hp with rfl | hp
      · exact ⟨hacc, hDL, hD₀⟩
      · exact ⟨old _ _ (N p hp).1, (N p hp).2⟩
  exact codeAny_compStart_list (loop _ rfl) (W.self 0 _ _ _ hst₁ (loop _ rfl))
/-- the source of such a comprehension, and its turns -/
inductive SrcC (prog : Program) (w : World) (A : Around) (h₀ : Heap) (L : Addr) (m : Str → Option Value) (env : Env) (ifs : List Expr) (elt : Expr) (x : Str) (scope : Scope) (cl : List (Str × Addr)) (Q : Value → Shared → Prop) (it : Value) (s₂ : Shared) : Prop
  | mk (I : Addr) (fp : List Addr) (n : Nat) (P : Nat → Value → Prop) (St : Nat → Heap → Prop) (S : List (Addr × Obj) → Prop) (news : List (Addr × Obj)) (J : Nat → List Value → List (Addr × Obj) → Prop) (f1 : it = .ref I) (f2 : Walks prog w A I fp [I] n P St) (f3 : n ≤ sizeLine) (f4 : (∀ i h, St i h → ∃ o, h.get? I = some o)) (f5 : (∀ i h h' o nw, St i h → h.get? I = some o → h'.get? I = some o → (∀ b o, h₀.get? b = some o → h'.get? b = some o) → News h₀ L h' nw → S nw → St i h')) (f6 : St 0 s₂.heap) (f7 : (∀ b ∈ fp, b < s₂.heap.objs.size)) (f8 : Fr h₀ L s₂.heap m) (f9 : News h₀ L s₂.heap news) (f10 : L ≠ I) (f11 : h₀.get? I = none) (f12 : (∀ p ∈ news, p.1 ≠ I)) (f13 : S news) (f14 : J 0 [] news) (f15 : (∀ i ys news v oI C oC c oc D m₂ h tk (E' : Value → Shared → Prop), i < n → J i ys news → P i v → LCg.NsObj oC m₂ → oc.data = .cell (some v) → Fr h₀ L h m → News h₀ L h ((I, oI) :: (C, oC) :: (c, oc) :: (D, LCg.lst ys) :: news) → (∀ p ∈ news, p.1 ≠ I ∧ p.1 ≠ C ∧ p.1 ≠ c ∧ p.1 ≠ D) → (I ≠ C ∧ I ≠ c ∧ I ≠ D ∧ C ≠ c ∧ C ≠ D ∧ c ≠ D) → s₂.heap.objs.size ≤ D → wpAny (model prog w) A (forIn ifs true fun e r => if r = true then do let ok ← PySem.isTrue e (compEnvC scope ((x, c) :: cl) C env) (eval e (compEnvC scope ((x, c) :: cl) C env)); pure (ForInStep.yield ok) else pure (ForInStep.yield r)) (fun ok s' => if ok = true then wpAny (model prog w) A (eval elt (compEnvC scope ((x, c) :: cl) C env)) (CompEndC h₀ L m { s₂ with heap := h, toks := tk } I oI C oC c oc D (LCg.lst ys) S (fun y news' => J (i + 1) (ys ++ [y]) news')) E' s' else CompEndC h₀ L m { s₂ with heap := h, toks := tk } I oI C oC c oc D (LCg.lst ys) S (fun _ news' => J (i + 1) ys news') Value.none s') E' { s₂ with heap := h, toks := tk })) (f16 : (∀ ys news D h tk, J n ys news → Fr h₀ L h m → News h₀ L h ((D, LCg.lst ys) :: news) → (∀ p ∈ news, p.1 ≠ D) → Q (.ref D) { s₂ with heap := h, toks := tk }))
theorem ListComp_C {ifs : List Expr} {elt iter : Expr} {x : Str} {px : Pos} {scope : Scope} {cl : List (Str × Addr)} {pos : Pos} {Q : Value → Shared → Prop} (_F₀ : Fr h₀ L s.heap m)
    (hclos : closureFor scope env = pure cl) (hcf : ∀ N, cellsFrom N scope.names cl = (x, N) :: cl) (hpc : ∀ h, pushCells h scope.names = h.push cell0) (hkind : scope.kind = .function)
    (hnames : ∀ y ∈ scope.names, y.2 = .local → scope.names.lookup y.1 = some .local) (hx : (relabel scope env).names.lookup x = some .cell)
    (h : wpAny (model prog w) A (eval iter env) (fun xv s₁ => Hold (wpAny (model prog w) A (pyIter xv) (SrcC prog w A h₀ L m env ifs elt x scope cl Q) E s₁)) E s)
    (hs : ∀ x, foldedSetIterable iter env x = pure x := by intro _; rfl) :
    wpAny (model prog w) A (eval (.ListComp elt [⟨.Name x px, iter, ifs, 0⟩] scope pos) env) Q E s := by
  rw [eval_ListComp]
  refine wpAny_comprehension_free (use := none) rfl hs hclos hkind hnames (wpAny_mono h (fun xv s₁ h₁ => wpAny_mono h₁ (fun it s₂ h₂ => ?_) fun _ _ e => e) fun _ _ e => e)
  refine byProp fun Pz hPz => ?_
  obtain ⟨I, fp, n, P, St, S, news, J, rfl, W, hsz, hlive, hSt, hst, hfp, F, N, hLI, hI0, hoff, hS, hJ, step, done⟩ := h₂
  refine hPz ?_
  clear hPz Pz
  refine block_C J W hsz hlive hSt hcf hpc hkind hx hst hfp F N hLI hI0 hoff hS hJ step ?_
  intro D C h tk m' ys news' F' N' o1 hn hC₀ hD₀ hCL hDL hCD offC hJ'
  refine ⟨m', hn, fun h'' hs'' => done ys news' D h'' tk hJ' (F'.change hs'' hCL hC₀) (fun p hp => ?_) o1⟩
  refine ⟨hs''.extBut _ _ ?_ (N' p hp).1, (N' p hp).2⟩
  rcases List.mem_cons.mp hp with rfl | hp
  · exact Ne.symm hCD
  · exact offC p hp
/-- over a range -/
theorem srcRangeC {ifs : List Expr} {elt : Expr} {x : Str} {scope : Scope} {cl : List (Str × Addr)} {Q : Value → Shared → Prop} {r : Addr} {b : Int} {t u v : Tok} {n : Nat} {news : List (Addr × Obj)} (J : Nat → List Value → List (Addr × Obj) → Prop)
    (hh : A.handled = none) (F : Fr h₀ L s.heap m) (N : News h₀ L s.heap news) (hr : IsRange s.heap r 0 b 1 t u v) (hsm : Builtin.Range.small 0 b 1 = true) (hn : Builtin.Range.rangeSize 0 b 1 = ((n : Nat) : Int)) (hsz : n ≤ sizeLine) (hJ : J 0 [] news)
    (step : ∀ I i ys news t' oI C oC c oc D m₂ h tk s₂ (E' : Value → Shared → Prop), (∃ h', s₂ = { s with heap := h' }) → i < n → J i ys news → LCg.NsObj oC m₂ → oc.data = .cell (some (.int (i : Int) t')) → Fr h₀ L h m → News h₀ L h ((I, oI) :: (C, oC) :: (c, oc) :: (D, LCg.lst ys) :: news) → (∀ p ∈ news, p.1 ≠ I ∧ p.1 ≠ C ∧ p.1 ≠ c ∧ p.1 ≠ D) → (I ≠ C ∧ I ≠ c ∧ I ≠ D ∧ C ≠ c ∧ C ≠ D ∧ c ≠ D) → s.heap.objs.size ≤ I →
      wpAny (model prog w) A (forIn ifs true fun e r => if r = true then do let ok ← PySem.isTrue e (compEnvC scope ((x, c) :: cl) C env) (eval e (compEnvC scope ((x, c) :: cl) C env)); pure (ForInStep.yield ok) else pure (ForInStep.yield r)) (fun ok s' => if ok = true then
        wpAny (model prog w) A (eval elt (compEnvC scope ((x, c) :: cl) C env)) (CompEndC h₀ L m { s₂ with heap := h, toks := tk } I oI C oC c oc D (LCg.lst ys) (fun _ => True) (fun y news' => J (i + 1) (ys ++ [y]) news')) E' s'
        else CompEndC h₀ L m { s₂ with heap := h, toks := tk } I oI C oC c oc D (LCg.lst ys) (fun _ => True) (fun _ news' => J (i + 1) ys news') Value.none s') E' { s₂ with heap := h, toks := tk })
    (done : ∀ ys news D h tk, J n ys news → Fr h₀ L h m → News h₀ L h ((D, LCg.lst ys) :: news) → (∀ p ∈ news, p.1 ≠ D) → Q (.ref D) { s with heap := h, toks := tk }) :
    wpAny (model prog w) A (pyIter (.ref r)) (SrcC prog w A h₀ L m env ifs elt x scope cl Q) E s := by
  refine wpAny_pyIter_range hr hsm ?_
  refine ⟨s.heap.objs.size, _, n, _, _, fun _ => True, news, J, rfl, LCg.range_walks hh 0 n, hsz, fun i h st => ⟨_, st⟩, LCg.range_st, (by show IsRangeIter _ _ _ _ _; rw [hn]; simpa using Heap.get?_push_size _ rfl), fun bb hb => ?_, F.push _, fun p hp => ⟨Heap.get?_push_of_some _ (N p hp).1, (N p hp).2⟩, Nat.ne_of_lt F.ns.lt, next_is_new F, fun p hp => Nat.ne_of_lt (Heap.lt_size (N p hp).1), trivial, hJ, ?_, ?_⟩
  · rw [List.mem_singleton.mp hb]
    show s.heap.objs.size < (s.heap.push _).objs.size
    rw [Heap.size_push]; exact Nat.lt_succ_self _
  · intro i ys news v oI C oC c oc D m₂ h tk E' hi hJ hP hC hc F N off ne _
    obtain ⟨t', rfl⟩ := hP
    rw [Int.zero_add] at hc
    exact step _ i ys news t' oI C oC c oc D m₂ h tk _ E' ⟨_, rfl⟩ hi hJ hC hc F N off ne (Nat.le_refl _)
  · intro ys news D h tk hJ F N off
    exact done ys news D h tk hJ F N off
end
end -- MCc
example : True := by first | (w_top off; walk1) | trivial
section -- MZ3
/- plain: the chains -/
section
variable {succ : Nat → Option Nat} {q : Nat → Bool}
noncomputable def chainF (succ : Nat → Option Nat) : Nat → Nat → List Nat
  | 0, _ => []
  | n + 1, k => k :: match succ k with | none => [] | some j => chainF succ n j
theorem chainF_none {n k : Nat} (h : succ k = none) : chainF succ (n + 1) k = [k] := by simp [chainF, h]
theorem chainF_some {n k j : Nat} (h : succ k = some j) : chainF succ (n + 1) k = k :: chainF succ n j := by simp [chainF, h]
/-- a chain so far: pre, then k -/
structure Chn (succ : Nat → Option Nat) (q : Nat → Bool) (pre : List Nat) (k : Nat) : Prop where
  nd : (pre ++ [k]).Nodup
  lt : ∀ b ∈ pre ++ [k], b < 12
  back : ∀ b ∈ pre ++ [k], q b = true ∨ ∃ a ∈ pre, succ a = some b
theorem Chn.start {c : Nat} (h : c < 12) (hq : q c = true) : Chn succ q [] c := ⟨by simp, fun b hb => by simp at hb; exact hb ▸ h, fun b hb => by simp at hb; exact .inl (hb ▸ hq)⟩
theorem Chn.step {pre : List Nat} {k j : Nat} (H : SuccOK succ q) (C : Chn succ q pre k) (h : succ k = some j) : Chn succ q (pre ++ [k]) j := by
  refine ⟨?_, ?_, ?_⟩
  · rw [List.nodup_append]
    refine ⟨C.nd, by simp, fun a ha b hb e => ?_⟩
    rw [List.mem_singleton.mp hb] at e
    subst e
    rcases C.back a ha with hq | ⟨a', ha', e'⟩
    · rw [H.cut k a h] at hq; cases hq
    · have := H.inj a' k a e' h
      subst this
      exact (List.nodup_append.mp C.nd).2.2 a' ha' a' (.head _) rfl
  · intro b hb
    rcases List.mem_append.mp hb with hb | hb
    · exact C.lt b hb
    · rw [List.mem_singleton.mp hb]; exact H.lt k j h
  · intro b hb
    rcases List.mem_append.mp hb with hb | hb
    · rcases C.back b hb with hq | ⟨a, ha, e⟩
      · exact .inl hq
      · exact .inr ⟨a, List.mem_append_left _ ha, e⟩
    · rw [List.mem_singleton.mp hb]; exact .inr ⟨k, by simp, h⟩
theorem Chn.len {pre : List Nat} {k : Nat} (C : Chn succ q pre k) : pre.length + 1 ≤ 12 := by
  have := nodup_len C.nd C.lt
  simpa using this
/-- the chain ends before the fuel -/
theorem chain_len {pre : List Nat} (H : SuccOK succ q) : ∀ {f k : Nat} {pre : List Nat}, Chn succ q pre k → (chainF succ (f + 1) k).length + pre.length ≤ 12 := by
  intro f
  induction f with
  | zero => intro k pre C; have := C.len; cases h : succ k <;> simp [chainF, h] <;> omega
  | succ f ih =>
    intro k pre C
    cases h : succ k with
    | none => rw [chainF_none h]; have := C.len; simp; omega
    | some j => rw [chainF_some h]; have := ih (C.step H h); simp at this ⊢; omega
theorem chain_at : ∀ {f k i : Nat}, i < f → (chainF succ f k)[i]? = walkN succ i k := by
  intro f
  induction f with
  | zero => intro k i h; omega
  | succ f ih =>
    intro k i h
    cases i with
    | zero => simp [chainF, walkN]
    | succ i =>
      cases hs : succ k with
      | none => rw [chainF_none hs]; simp [walkN, hs]
      | some j => rw [chainF_some hs]; simp [walkN, hs]; exact ih (by omega)
/-- the rounds are the columns of the chains -/
noncomputable def column (chs : List (List Nat)) (k : Nat) : List Nat := chs.filterMap fun ch => ch[k]?
theorem filterMap_filterMap' {f g : Nat → Option Nat} : ∀ (l : List Nat), (l.filterMap f).filterMap g = l.filterMap fun x => (f x).bind g
  | [] => rfl
  | a :: r => by
    rw [List.filterMap_cons, List.filterMap_cons]
    cases h : f a with
    | none => simp [filterMap_filterMap' r]
    | some b => simp only [Option.bind_some]; rw [List.filterMap_cons, filterMap_filterMap' r]
theorem rounds_cols (n : Nat) : ∀ (k : Nat) (C : List Nat), roundsF succ n (C.filterMap (walkN succ k)) = ((List.range n).map fun i => C.filterMap (walkN succ (k + i))).takeWhile (fun l => decide (l ≠ [])) := by
  induction n with
  | zero => intro k C; rfl
  | succ n ih =>
    intro k C
    rw [List.range_succ_eq_map, List.map_cons, List.takeWhile_cons]
    unfold roundsF
    by_cases h : C.filterMap (walkN succ k) = []
    · simp [h]
    · have e : (C.filterMap (walkN succ k)).filterMap succ = C.filterMap (walkN succ (k + 1)) := by
        rw [filterMap_filterMap']
        congr 1
        funext x
        rw [walk_add]
        congr 1
        funext y
        simp [walkN]
      rw [if_neg h, e, ih (k + 1) C]
      simp only [Nat.add_zero, h, ne_eq, not_false_eq_true, decide_true, if_true]
      congr 1
      rw [List.map_map]
      congr 2
      funext i
      simp only [Function.comp]
      rw [show k + 1 + i = k + (i + 1) by omega]
end
end -- MZ3
example : True := by first | (w_top off; walk1) | trivial
section -- MDu
open TI (Frs SameUp)
/-- a chain on the ledger -/
structure Ch where
  l : Addr
  us : List Value
  n : Nat
noncomputable abbrev chL (c : Ch) : Addr × Obj := (c.l, W.listOf c.us.toArray c.n)
noncomputable def chsL (cs : List Ch) : List (Addr × Obj) := cs.map chL
noncomputable def refsC (cs : List Ch) : List Value := cs.map fun c => .ref c.l
theorem chsL_app (a b : List Ch) : chsL (a ++ b) = chsL a ++ chsL b := by simp [chsL]
theorem chsL_mid {A1 A2 : List Ch} {cl : Addr} {us : List Value} {n : Nat} : chsL (A1 ++ ⟨cl, us, n⟩ :: A2) = chsL A1 ++ (cl, W.listOf us.toArray n) :: chsL A2 := by rw [chsL_app]; rfl
theorem chsL_snoc (a : List Ch) (c : Ch) : chsL (a ++ [c]) = chsL a ++ [chL c] := by simp [chsL]
theorem chsL_addr (a : List Ch) : (chsL a).map (·.1) = a.map (·.l) := by unfold chsL; rw [List.map_map]; rfl
theorem refsC_addr (a : List Ch) : refsC a = (a.map (·.l)).map .ref := by unfold refsC; rw [List.map_map]; rfl
theorem refsC_snoc (a : List Ch) (c : Ch) : refsC (a ++ [c]) = refsC a ++ [.ref c.l] := by simp [refsC]
inductive ChAre : List Ch → List (List Nat) → Prop
  | nil : ChAre [] []
  | cons {c k cs ks} : IntsAre c.us (zs k) → ChAre cs ks → ChAre (c :: cs) (k :: ks)
theorem ChAre.app {a b : List Ch} {ka kb : List (List Nat)} (h : ChAre a ka) (h2 : ChAre b kb) : ChAre (a ++ b) (ka ++ kb) := by
  induction h with
  | nil => exact h2
  | cons x _ ih => exact .cons x ih
theorem ChAre.len {a : List Ch} {ka : List (List Nat)} (h : ChAre a ka) : a.length = ka.length := by
  induction h with
  | nil => rfl
  | cons _ _ ih => simp [ih]
theorem ChAre.split {a : List Ch} {ka kb : List (List Nat)} {k : List Nat} (h : ChAre a (ka ++ k :: kb)) : ∃ a1 c a2, a = a1 ++ c :: a2 ∧ ChAre a1 ka ∧ IntsAre c.us (zs k) ∧ ChAre a2 kb := by
  induction ka generalizing a with
  | nil => cases h with | cons x y => exact ⟨[], _, _, rfl, .nil, x, y⟩
  | cons y r ih =>
    cases h with
    | cons x h =>
      refine byProp fun Pz hPz => ?_
      obtain ⟨a1, c, a2, rfl, h1, h2, h3⟩ := ih h
      refine hPz ?_
      clear hPz Pz
      exact ⟨_ :: a1, c, a2, rfl, .cons x h1, h2, h3⟩
theorem nodup_all {l : List Nat} (h : l.Nodup) (hl : l.length = 12) (hb : ∀ k ∈ l, k < 12) {k : Nat} (hk : k < 12) : k ∈ l := by
  refine Classical.byContradiction fun hn => ?_
  have := nodup_len (l := k :: l) (n := 12) (List.nodup_cons.mpr ⟨hn, h⟩) (fun x hx => by
    rcases List.mem_cons.mp hx with rfl | hx
    · exact hk
    · exact hb x hx)
  simp [hl] at this
theorem perm_nodup {perm : Nat → Nat} (hinj : ∀ i j, i < 12 → j < 12 → perm i = perm j → i = j) : ((List.range 12).map perm).Nodup := by
  show List.Pairwise _ _
  rw [List.pairwise_map]
  refine List.Pairwise.imp_of_mem ?_ List.nodup_range
  intro a b ha hb hab e
  exact hab (hinj a b (List.mem_range.mp ha) (List.mem_range.mp hb) e)
theorem came_at {perm : Nat → Nat} (hlt : ∀ j, j < 12 → perm j < 12) (hinj : ∀ i j, i < 12 → j < 12 → perm i = perm j → i = j) {k : Nat} (hk : k < 12) : ∃ j, (zs ((List.range 12).map perm)).idxOf (k : Int) = j ∧ j < 12 ∧ perm j = k := by
  have hm : k ∈ (List.range 12).map perm := nodup_all (perm_nodup hinj) (by first | top_raise0 | simp) (fun x hx => by
    refine byProp fun Pz hPz => ?_
    obtain ⟨j, hj, rfl⟩ := List.mem_map.mp hx
    refine hPz ?_
    clear hPz Pz
    exact hlt j (List.mem_range.mp hj)) hk
  have hmz : (k : Int) ∈ zs ((List.range 12).map perm) := mem_zs.mpr hm
  have hl := List.idxOf_lt_length_of_mem hmz
  have he := List.getElem_idxOf hl
  have hl2 : (zs ((List.range 12).map perm)).idxOf (k : Int) < 12 := by simpa [zs] using hl
  refine ⟨_, rfl, hl2, ?_⟩
  simp only [zs, List.getElem_map, List.getElem_range] at he
  exact_mod_cast he
theorem succP_at {perm : Nat → Nat} {q : Nat → Bool} (hinj : ∀ i j, i < 12 → j < 12 → perm i = perm j → i = j) {k j : Nat} (hj : j < 12) (hp : perm j = k) : succP perm q k = if q j = true then none else some j := by
  by_cases hq : q j = true
  · rw [if_pos hq]
    cases h : succP perm q k with
    | none => rfl
    | some j' =>
      have := succP_some h
      have e := hinj j' j this.1 hj (this.2.2.trans hp.symm)
      subst e
      rw [this.2.1] at hq; cases hq
  · rw [if_neg hq]
    have hm : j ∈ scL perm q 12 k := by simp [scL, hj, hq, hp]
    rw [scL_succP hinj] at hm
    simpa using hm
theorem ChAre.at {a : List Ch} {ka : List (List Nat)} (h : ChAre a ka) {i : Nat} (hi : i < a.length) : ∃ c k, a[i]? = some c ∧ ka[i]? = some k ∧ IntsAre c.us (zs k) ∧ chL c ∈ chsL a := by
  induction h generalizing i with
  | nil => exact absurd hi (Nat.not_lt_zero _)
  | cons x y ih =>
    cases i with
    | zero => exact ⟨_, _, rfl, rfl, x, .head _⟩
    | succ i =>
      refine byProp fun Pz hPz => ?_
      obtain ⟨c, k, h1, h2, h3, h4⟩ := ih (i := i) (by simpa using hi)
      refine hPz ?_
      clear hPz Pz
      exact ⟨c, k, h1, h2, h3, .tail _ h4⟩
theorem take_map_range {α : Type} (f : Nat → α) (p : α → Bool) {m n : Nat} (hmn : m < n) (h1 : ∀ i, i < m → p (f i) = true) (h2 : p (f m) = false) : ((List.range n).map f).takeWhile p = (List.range m).map f := by
  obtain ⟨k, rfl⟩ : ∃ k, n = m + (k + 1) := ⟨n - m - 1, by omega⟩
  rw [List.range_add, List.map_append, List.takeWhile_append_of_pos (by
    intro a ha
    refine byProp fun Pz hPz => ?_
    obtain ⟨i, hi, rfl⟩ := List.mem_map.mp ha
    refine hPz ?_
    clear hPz Pz
    exact h1 i (List.mem_range.mp hi))]
  rw [List.range_succ_eq_map]
  simp [h2]
theorem cols_due {perm : Nat → Nat} {q : Nat → Bool} {Mn : Nat} (C0 : List Nat) (K0 : List (List Nat)) (hK0 : K0 = C0.map (chainF (succP perm q) 13)) (hMle : ∀ k ∈ K0, k.length ≤ Mn) (hMeq : Mn = 0 ∨ ∃ k ∈ K0, k.length = Mn) (hMn : Mn ≤ 12) :
    roundsF (succP perm q) 13 C0 = (List.range Mn).map (column K0) := by
  have h0 : C0.filterMap (walkN (succP perm q) 0) = C0 := by
    have : (walkN (succP perm q) 0) = some := by funext x; rfl
    rw [this, List.filterMap_some]
  have h1 := rounds_cols (succ := succP perm q) 13 0 C0
  rw [h0] at h1
  rw [h1]
  have hcol : ∀ i, i < 13 → C0.filterMap (walkN (succP perm q) (0 + i)) = column K0 i := fun i hi => by
    unfold column
    rw [hK0, List.filterMap_map, Nat.zero_add]
    congr 1
    funext x
    exact (chain_at hi).symm
  rw [show ((List.range 13).map fun i => C0.filterMap (walkN (succP perm q) (0 + i))) = (List.range 13).map (column K0) from List.map_congr_left fun i hi => hcol i (List.mem_range.mp hi)]
  refine take_map_range _ _ (by omega) (fun i hi => ?_) ?_
  · rw [decide_eq_true_eq]
    rcases hMeq with hh | ⟨k, hk, hkl⟩
    · omega
    · intro e
      have : k[i]'(by omega) ∈ column K0 i := List.mem_filterMap.mpr ⟨k, hk, by simp⟩
      rw [e] at this
      cases this
  · rw [decide_eq_false_iff_not]
    refine fun hne => hne ?_
    unfold column
    rw [List.filterMap_eq_nil_iff]
    intro k hk
    exact List.getElem?_eq_none (hMle k hk)
section
variable {w : World} {dp un : Nat} {fr : Option (List Env)} {gd : Option (List Code)} {h₀ : Heap} {s : Shared}
theorem li_indexJ {prog : Program} {A : Around} {E : Value → Shared → Prop} {L D : Addr} {news : List (Addr × Obj)} {us : List Value} {n : Nat} {xs : List Int} {k : Int} {t : Tok} {j : Nat} {Q : Value → Shared → Prop} (N : News h₀ L s.heap news) (hm : (D, W.listOf us.toArray n) ∈ news) (hi : IntsAre us xs) (hk : k ∈ xs) (hz : xs.length ≤ 1000) (hj : xs.idxOf k = j)
    (h : Q (.int (j : Nat) s.toks) { s with toks := s.toks + 1 }) : wpAny (model prog w) A (call (.builtin "list.index") [.ref D, .int k t]) Q E s := li_index N hm hi hk hz (by rw [hj]; exact h)
theorem li_add {prog : Program} {A : Around} {E : Value → Shared → Prop} {L a b : Addr} {m : Str → Option Value} {news : List (Addr × Obj)} {us vs : List Value} {n1 n2 : Nat} {xs ys : List Int} {Q : Value → Shared → Prop} (F : Fr h₀ L s.heap m) (N : News h₀ L s.heap news) (ha : (a, W.listOf us.toArray n1) ∈ news) (hb : (b, W.listOf vs.toArray n2) ∈ news) (hi : IntsAre us xs) (hj : IntsAre vs ys) (hz : xs.length ≤ 1000) (hz2 : ys.length ≤ 1000)
    (h : ∀ D ws h', Fr h₀ L h' m → News h₀ L h' ((D, W.listOf (List.toArray ws) 0) :: news) → (∀ p ∈ news, p.1 < D) → IntsAre ws (xs ++ ys) → Q (.ref D) { s with heap := h' }) : wpAny (model prog w) A (binaryOp .Add (.ref a) (.ref b)) Q E s :=
  kmk_add_ints F N ⟨_, (N _ ha).1, rfl, n1, rfl⟩ ⟨_, (N _ hb).1, rfl, n2, rfl⟩ hi hj h (by rw [sizeLine_eq]; omega)
theorem small12 : ∀ M : Nat, M ≤ 12 → Builtin.Range.small 0 (M : Int) 1 = true := by
  intro M h
  match M, h with
  | 0, _ | 1, _ | 2, _ | 3, _ | 4, _ | 5, _ | 6, _ | 7, _ | 8, _ | 9, _ | 10, _ | 11, _ | 12, _ => decide +kernel
  | n + 13, h => omega
/- tuple_line -/
inductive DuA (L la lc D9 : Addr) (oc2 : Obj) (cm cs : List Value) (na nc : Nat) (chs : List Ch) (C0 : List Nat) (perm : Nat → Nat) (q : Nat → Bool) (i : Nat) (m : Str → Option Value) (led : List (Addr × Obj)) : Prop
  | mk (chs' : List Ch) (m1 : m (Str.ofString "came") = some (.ref la)) (m2 : m (Str.ofString "cut") = some (.ref lc)) (e : led = (L + 1, oc2) :: (D9, LCg.lst (refsC chs)) :: (la, W.listOf cm.toArray na) :: (lc, W.listOf cs.toArray nc) :: chsL chs')
    (h1 : chs'.map (·.l) = chs.map (·.l)) (h2 : ChAre chs' ((C0.take i).map (chainF (succP perm q) 13) ++ (C0.drop i).map fun c => [c]))
inductive DuB (L la lc cl : Addr) (oc2 : Obj) (cm cs : List Value) (na nc : Nat) (TL : List (Addr × Obj)) (perm : Nat → Nat) (q : Nat → Bool) (ci : Nat) (n : Nat) (m : Str → Option Value) (led : List (Addr × Obj)) : Prop
  | mk (us : List Value) (cn : Nat) (pre : List Nat) (k : Nat) (m1 : m (Str.ofString "chain") = some (.ref cl)) (m2 : m (Str.ofString "came") = some (.ref la)) (m3 : m (Str.ofString "cut") = some (.ref lc)) (e : led = (cl, W.listOf us.toArray cn) :: (L + 1, oc2) :: (la, W.listOf cm.toArray na) :: (lc, W.listOf cs.toArray nc) :: TL)
    (hus : IntsAre us (zs pre ++ [(k : Int)])) (hC : Chn (succP perm q) q pre k) (hn : n + pre.length = 12) (hcf : chainF (succP perm q) 13 ci = pre ++ chainF (succP perm q) (n + 1) k)
inductive DuPost (perm : Nat → Nat) (q : Nat → Bool) (la lc : Addr) (cm cs : List Value) (na nc : Nat) (r : Value) (new : List (Addr × Obj)) : Prop
  | mk (ld : Addr) (ds : List Tu) (nd : Nat) (f1 : r = .ref ld) (f2 : new = (ld, W.listOf (refsT ds).toArray nd) :: (tupsT ds ++ [(la, W.listOf cm.toArray na), (lc, W.listOf cs.toArray nc)])) (f3 : TuAre ds (roundsF (succP perm q) 13 ((List.range 12).filter q))) (f4 : Apart new)
theorem due_tell (perm : Nat → Nat) (hlt : ∀ j, j < 12 → perm j < 12) (hinj : ∀ i j, i < 12 → j < 12 → perm i = perm j → i = j) (q : Nat → Bool) (la lc : Addr) (cm cs : List Value) (na nc : Nat) (hcm : IntsAre cm (zs ((List.range 12).map perm))) (hcs : IntsAre cs (zs ((List.range 12).filter q)))
    (hlac : la ≠ lc) (hdp : dp + 10 < recursionLimit) :
    Tell w (mkA dp fr gd un) h₀ s [(la, W.listOf cm.toArray na), (lc, W.listOf cs.toArray nc)] (call (.ref 217) [.ref la, .ref lc])
      (DuPost perm q la lc cm cs na nc) := by
  intro rest Q E S O D hapR hQ
  refine wpAny_call (enterC S O (D.sub (List.subset_append_left _ _)) (by k_is) (by k_is) (by omega) (binds := [(Str.ofString "came", .ref la), (Str.ofString "cut", .ref lc)]) (BindsTo.of_eq rfl) rfl (by decide +kernel) ?_ rfl rfl rfl)
  intro L h₁ tk cells mean mg mb X T F N Y hlt'
  obtain ⟨B0, hB0⟩ : ∃ B0, B0 = under s.heap [(la, W.listOf cm.toArray na), (lc, W.listOf cs.toArray nc)] := ⟨_, rfl⟩
  rw [← hB0] at X T F N
  k_cells Y
  simp only [List.cons_append, List.nil_append] at N
  have hcl : cs.toArray.size ≤ sizeLine := by
    have h1 := hcs.length
    have h2 := List.length_filter_le q (List.range 12)
    simp [zs] at h1 h2
    rw [sizeLine_eq]; simp; omega
  refine byProp fun Pz hPz => ?_
  obtain ⟨m0, hm0⟩ : ∃ m0, Fr B0 L h₁ m0 ∧ m0 (Str.ofString "came") = some (.ref la) ∧ m0 (Str.ofString "cut") = some (.ref lc) := ⟨_, F, rfl, rfl⟩
  clear F
  obtain ⟨F, hm1, hm2⟩ := hm0
  first | replace F := fr_at (at1s hm1 (at1s hm2 rfl)) F | replace F := fr_at (at1c (at1s hm1 (at1s hm2 rfl))) F
  try dsimp only at F
  have hll : la < L := hlt' (la, W.listOf cm.toArray na) (.head _)
  have hlc : lc < L := hlt' (lc, W.listOf cs.toArray nc) (.tail _ (.head _))
  have hlen : cs.length ≤ 12 := by
    have h1 := hcs.length
    have h2 := List.length_filter_le q (List.range 12)
    simp [zs] at h1 h2
    omega
  refine hPz ?_
  clear hPz Pz
  repeat' (first | ((with_reducible show wpAny _ _ (eval (Expr.ListComp _ [Comprehension.mk _ _ [] _] _ _) _) _ _ _); k_dflt (refine LCg.ListComp_U ‹Fr _ _ _ _› (by with_unfolding_all rfl) (by decide) (by rfl) (by decide) (by rfl) ?_)) | (k_dflt (refine LCg.CompSrc.ledger (by rfl) (by k_asm) (by k_asm) (by k_mem) (by first | assumption | size_fits) ?_); intro _) | top_args)
  rename Fr _ _ _ _ => F2
  rename_i oc hoc g1
  refine byProp fun Pz hPz => ?_
  obtain ⟨LD, hLD⟩ : ∃ LD, LD = [(L + 1, oc), (la, W.listOf cm.toArray na), (lc, W.listOf cs.toArray nc)] := ⟨_, rfl⟩
  obtain ⟨C0, hC0⟩ : ∃ C0, C0 = (List.range 12).filter q := ⟨_, rfl⟩
  have hAL : Apart LD := by
    have e1 : L + 1 ≠ la := Nat.ne_of_gt (Nat.lt_succ_of_lt hll)
    have e2 : L + 1 ≠ lc := Nat.ne_of_gt (Nat.lt_succ_of_lt hlc)
    rw [hLD]
    simp [Apart, e1, e2, hlac]
  refine hPz ?_
  clear hPz Pz
  rw [← hLD]
  rw [← hC0] at hcs
  have hcl2 := hcs.length
  simp only [zs, List.length_map] at hcl2
  refine turnsU (fun i ys news => ∃ chs, ys = refsC chs ∧ news = chsL chs ++ LD ∧ ChAre chs ((C0.take i).map fun c => [c]) ∧ Apart news) ?_ ?_ _ 0 [] _ (Nat.zero_add _) ⟨[], rfl, rfl, by simpa using .nil, hAL⟩
  · intro i ys news hi hZ0 v I oI C oC D' m₂ h tk E' hv hC hx F N off ne
    refine byProp fun Pz hPz => ?_
    obtain ⟨chs, rfl, rfl, hch, hA⟩ := hZ0
    have hi2 : i < cs.length := by simpa using hi
    obtain ⟨z, hz⟩ : ∃ z, (zs C0)[i]? = some z := ⟨_, List.getElem?_eq_getElem (by simp [zs]; omega)⟩
    obtain ⟨t, hv2⟩ := hcs.get i z hz
    obtain rfl : v = .int z t := by rw [List.getElem?_toArray, hv2] at hv; exact (Option.some.inj hv).symm
    refine hPz ?_
    clear hPz Pz
    k_steps
    rename Fr _ _ _ _ => F4
    rename News _ _ _ _ => N4
    rename_i l9 _ lt9
    have o9 := off_lt lt9.2.2.2
    have off2 := off.mem
    refine LCg.CompEnd.intro F4 N4 (chsL (chs ++ [⟨l9, [.int z t], 0⟩]) ++ LD) (fun p hp => ?_) (LCg.Off3.of fun p hp => ?_) (.inr ⟨W.listOf cs.toArray nc, ?_, rfl, _, rfl⟩) ⟨chs ++ [⟨l9, [.int z t], 0⟩], by rw [refsC_snoc], rfl, ?_, ?_⟩
    · rw [chsL_snoc] at hp
      refine memIn ?_ hp; top_name
    · rw [chsL_snoc] at hp
      rcases List.mem_append.mp hp with hp | hp
      · rcases List.mem_append.mp hp with hp | hp
        · exact off2 p (List.mem_append_left _ hp)
        · rw [List.mem_singleton.mp hp]
          exact ⟨Nat.ne_of_gt lt9.1, Nat.ne_of_gt lt9.2.1, Nat.ne_of_gt lt9.2.2.1⟩
      · exact off2 p (List.mem_append_right _ hp)
    · rw [hLD]; simp
    · rw [List.take_add_one]
      obtain ⟨cc, hcc⟩ : ∃ cc, C0[i]? = some cc := ⟨_, List.getElem?_eq_getElem (by omega)⟩
      rw [hcc, List.map_append]
      refine hch.app (.cons ?_ .nil)
      have : z = (cc : Int) := by simp [zs, hcc] at hz; exact hz.symm
      rw [this]
      exact .cons (cc : Int) t .nil
    · rw [chsL_snoc]
      have h1 : Apart ((l9, W.listOf #[.int z t] 0) :: (chsL chs ++ LD)) := hA.cons o9
      rw [List.append_assoc]
      exact h1.perm List.perm_middle.symm
  · intro ys news hZ0
    refine byProp fun Pz hPz => ?_
    obtain ⟨chs, rfl, rfl, hch, hA⟩ := hZ0
    refine hPz ?_
    clear hPz Pz
    unfold LCg.FinE
    intro D9 h9 tk9 F9 N9 o9
    have o9' := off1_mem' o9
    have hsz : cs.toArray.size = C0.length := by simp; omega
    rw [hsz, List.take_length] at hch
    have hAD : Apart ((D9, LCg.lst (refsC chs)) :: (chsL chs ++ LD)) := hA.cons o9'
    have N5 : News B0 L h9 ((L + 1, oc) :: (D9, LCg.lst (refsC chs)) :: (la, W.listOf cm.toArray na) :: (lc, W.listOf cs.toArray nc) :: chsL chs) := fun p hp => N9 p (by
      rw [hLD]
      refine memIn ?_ hp; top_name)
    clear N9
    have x1 : ∀ p ∈ chsL chs, p.1 ≠ L + 1 := fun p hp => hA.cross p hp (L + 1, oc) (by rw [hLD]; first | top_raise0 | simp)
    have x2 : D9 ≠ L + 1 := Ne.symm (o9' (L + 1, oc) (by rw [hLD]; first | top_raise0 | simp))
    have x3 : la ≠ L + 1 := Nat.ne_of_lt (Nat.lt_succ_of_lt hll)
    have x4 : lc ≠ L + 1 := Nat.ne_of_lt (Nat.lt_succ_of_lt hlc)
    repeat' (first | ((with_reducible show wpAny _ _ (exec (Stmt.For (Expr.Name _ _) (Expr.Name _ _) _ _ _) _) _ _ _); with_unfolding_all refine for_hold ‹Fr _ _ _ _› rfl rfl ?_) | top_args)
    rename Fr _ _ _ _ => F4
    rename News _ _ _ _ => N4
    rename_i _ oc2 hoc2
    unfold Hold
    have H := succP_ok perm q
    have hCl : ∀ c ∈ C0, c < 12 ∧ q c = true := fun c hc => by rw [hC0] at hc; simpa using hc
    refine loop_listE (l := D9) (its := (refsC chs).toArray) (nn := (refsC chs).length) (by first | top_raise0 | simp) F4 N4 rfl (fun i m led => DuA L la lc D9 oc2 cm cs na nc chs C0 perm q i m led) ?_ ?_ ?_
    · exact ⟨chs, rfl, rfl, rfl, rfl, by simpa using hch⟩
    · intro I i v m₁ led₁ h₁ tk₁ oI hI hi hv hZ0 hoI hDI F N
      refine byProp fun Pz hPz => ?_
      obtain ⟨chs', m1, m2, rfl, had, hch'⟩ := hZ0
      clear F4 N4
      have hchl := hch.len
      have hi2 : i < C0.length := by
        have h1 : i < chs.length := by simpa [refsC] using hi
        rw [hchl] at h1
        simpa using h1
      obtain ⟨ci, hci⟩ : ∃ ci, C0[i]? = some ci := ⟨_, List.getElem?_eq_getElem hi2⟩
      have hciC := hCl ci (List.mem_of_getElem? hci)
      have hdr : C0.drop i = ci :: C0.drop (i + 1) := by
        rw [List.drop_eq_getElem_cons hi2]
        congr 1
        rw [List.getElem?_eq_getElem hi2] at hci
        exact Option.some.inj hci
      rw [hdr, List.map_cons] at hch'
      obtain ⟨A1, c, A2, rfl, hA1, hc, hA2⟩ := hch'.split
      have hA1l : A1.length = i := by rw [hA1.len]; simp; omega
      obtain rfl : v = .ref c.l := by
        have h1 : (refsC chs)[i]? = some v := by simpa using hv
        have h2 : (chs.map (·.l))[i]? = some c.l := by rw [← had]; simp [← hA1l]
        simp only [refsC, List.getElem?_map, Option.map_eq_some_iff] at h1 h2
        refine byProp fun Pz hPz => ?_
        obtain ⟨a, ha, rfl⟩ := h1
        obtain ⟨a', ha', e⟩ := h2
        rw [ha] at ha'
        refine hPz ?_
        clear hPz Pz
        cases ha'
        rw [e]
      obtain ⟨cl, cus, cn0⟩ := c
      dsimp only at hc
      first | replace F := fr_at (at1s m1 (at1s m2 rfl)) F | replace F := fr_at (at1c (at1s m1 (at1s m2 rfl))) F
      try dsimp only at F
      have hA8 : Apart ((D9, LCg.lst (refsC chs)) :: (chsL (A1 ++ ⟨cl, cus, cn0⟩ :: A2) ++ LD)) := hAD.addr (by
        have e : (chsL chs).map (·.1) = (chsL (A1 ++ ⟨cl, cus, cn0⟩ :: A2)).map (·.1) := by
          rw [chsL_addr, chsL_addr]; exact had.symm
        simp only [List.map_cons, List.map_append, e])
      have hA9 : Apart ((cl, W.listOf cus.toArray cn0) :: (D9, LCg.lst (refsC chs)) :: (chsL A1 ++ (chsL A2 ++ LD))) := hA8.perm (by
        refine (List.Perm.cons _ ?_).trans (List.Perm.swap _ _ _)
        rw [chsL_app, List.append_assoc]
        exact List.perm_middle)
      obtain ⟨TL, hTL⟩ : ∃ TL, TL = (I, oI) :: (D9, LCg.lst (refsC chs)) :: (chsL A1 ++ chsL A2) := ⟨_, rfl⟩
      have w0 := hA9.head
      have w1 : L + 1 ≠ cl := w0 (L + 1, oc) (by rw [hLD]; first | top_raise0 | simp)
      have w2 : la ≠ cl := w0 (la, W.listOf cm.toArray na) (by rw [hLD]; first | top_raise0 | simp)
      have w3 : lc ≠ cl := w0 (lc, W.listOf cs.toArray nc) (by rw [hLD]; first | top_raise0 | simp)
      have w4 : ∀ p ∈ TL, p.1 ≠ cl := fun p hp => by
        rw [hTL] at hp
        rcases List.mem_cons.mp hp with rfl | hp
        · exact Ne.symm (hoI (cl, W.listOf cus.toArray cn0) (by simp [chsL]))
        · rcases List.mem_cons.mp hp with rfl | hp
          · exact w0 _ (.head _)
          · exact w0 p (.tail _ (by rw [← List.append_assoc]; exact List.mem_append_left _ hp))
      have N5 : News B0 L h₁ ((cl, W.listOf cus.toArray cn0) :: (L + 1, oc2) :: (la, W.listOf cm.toArray na) :: (lc, W.listOf cs.toArray nc) :: TL) := fun p hp => N p (by
        rw [hTL] at hp
        rw [chsL_mid]
        refine memIn ?_ hp; top_name)
      clear N
      refine hPz ?_
      clear hPz Pz
      repeat' (first | ((with_reducible show wpAny _ _ (exec (Stmt.While (Expr.Compare ..) ..) _) _ _ _); refine while_hold 0 ?_) | top_args)
      rename Fr _ _ _ _ => F4
      rename News _ _ _ _ => N4
      refine whl_inv s B0 L ?hE (fun n m led => DuB L la lc cl oc2 cm cs na nc TL perm q ci n m led) ?_ 12 _ _ _ _ 0 ?_ F4 N4
      case hE => exact PassesOwn.leaving
      · intro n9 m led h tk hZ0 F N
        refine byProp fun Pz hPz => ?_
        obtain ⟨us, cn, pre, k, m1, m2, m3, rfl, hus, hC, hn9, hcf⟩ := hZ0
        clear F4 N4
        first | replace F := fr_at (at1s m1 (at1s m2 (at1s m3 rfl))) F | replace F := fr_at (at1c (at1s m1 (at1s m2 (at1s m3 rfl)))) F
        try dsimp only at F
        obtain ⟨us0, tu, rfl, hus0⟩ := ints_last hus
        have hlp := hC.len
        have hl0 := hus0.length
        simp only [zs, List.length_map] at hl0
        have hz0 : us0.length ≤ 1000 := by omega
        have hz1 : (us0 ++ [Value.int k tu]).length ≤ 1000 := by simp; omega
        have hk12 : k < 12 := hC.lt k (by first | top_raise0 | simp)
        obtain ⟨j, hj, hj12, hpj⟩ := came_at hlt hinj hk12
        have hin : (k : Int) ∈ zs ((List.range 12).map perm) := by rw [mem_zs]; rw [← hpj]; exact List.mem_map_of_mem (List.mem_range.mpr hj12)
        have hzl : (zs ((List.range 12).map perm)).length ≤ 1000 := by simp [zs]
        have hsu : succP perm q k = if q j = true then none else some j := succP_at hinj hj12 hpj
        refine hPz ?_
        clear hPz Pz
        by_cases hq : q j = true
        · have hcd : decide ((j : Int) ∈ zs C0) = true := by rw [decide_eq_true_eq, mem_zs, hC0]; simp [hj12, hq]
          repeat' (first | ((with_reducible show wpAny _ _ (compareOp CmpOp.NotIn (Value.int _ _) (Value.ref _)) _ _ _); k_dflt (refine li_notinB (by k_asm) (by k_mem) (by assumption) (by assumption) ?_); (try dsimp only [Bool.not_true, Bool.not_false])) | ((with_reducible show wpAny _ _ (call (Value.builtin "list.index") _) _ _ _); k_dflt (refine li_indexJ (by k_asm) (by k_mem) (by assumption) (by assumption) (by assumption) (by assumption) ?_)) | top_args)
          rename Fr _ _ _ _ => F4
          rename News _ _ _ _ => N4
          rw [hq, if_pos rfl] at hsu
          rw [chainF_none hsu] at hcf
          refine TurnTo.next (led' := (L + 1, oc2) :: (D9, LCg.lst (refsC chs)) :: (la, W.listOf cm.toArray na) :: (lc, W.listOf cs.toArray nc) :: chsL (A1 ++ ⟨cl, us0 ++ [Value.int k tu], cn⟩ :: A2)) F4 (fun p hp => N4 p ?_) (fun p hp => ?_) ⟨A1 ++ ⟨cl, us0 ++ [Value.int k tu], cn⟩ :: A2, rfl, rfl, rfl, ?_, ?_⟩
          · rw [hTL]
            rw [chsL_mid] at hp
            refine memIn ?_ hp; top_name
          · refine off_addr hoI ?_ p hp
            exact addr_cons rfl (addr_cons rfl (addr_cons rfl (addr_cons rfl (by rw [chsL_addr, chsL_addr, List.map_append, List.map_append]; rfl))))
          · rw [← had]; simp
          · rw [List.take_add_one, hci, List.map_append, List.append_assoc]
            refine hA1.app (.cons ?_ hA2)
            rw [hcf]
            simpa [zs] using hus
        · have hcd : decide ((j : Int) ∈ zs C0) = false := by rw [decide_eq_false_iff_not, mem_zs, hC0]; simp [hq]
          repeat' (first | ((with_reducible show wpAny _ _ (compareOp CmpOp.NotIn (Value.int _ _) (Value.ref _)) _ _ _); k_dflt (refine li_notinB (by k_asm) (by k_mem) (by assumption) (by assumption) ?_); (try dsimp only [Bool.not_true, Bool.not_false])) | ((with_reducible show wpAny _ _ (call (Value.builtin "list.append") _) _ _ _); k_dflt (refine li_append (by k_asm) (by k_asm) (by k_upd) (by assumption) ?_); top_caught0) | ((with_reducible show wpAny _ _ (call (Value.builtin "list.index") _) _ _ _); k_dflt (refine li_indexJ (by k_asm) (by k_mem) (by assumption) (by assumption) (by assumption) (by assumption) ?_)) | top_args)
          rename Fr _ _ _ _ => F4
          rename News _ _ _ _ => N4
          rw [if_neg hq] at hsu
          obtain ⟨n', rfl⟩ : ∃ n', n9 = n' + 1 := ⟨n9 - 1, by omega⟩
          rw [chainF_some hsu] at hcf
          refine TurnW.next n' (Nat.lt_succ_self _) F4 N4 ⟨_, _, pre ++ [k], j, rfl, rfl, rfl, rfl, ?_, hC.step H hsu, by simp; omega, by rw [hcf]; simp⟩
          have e1 : zs (pre ++ [k]) ++ [(j : Int)] = (zs pre ++ [(k : Int)]) ++ [(j : Int)] := by simp [zs]
          rw [e1]
          exact hus.append (.cons (j : Int) _ .nil)
      · exact ⟨cus, cn0, [], ci, rfl, rfl, rfl, rfl, hc, Chn.start hciC.1 hciC.2, rfl, rfl⟩
    · intro h' tk m' led' F N hZ0
      refine byProp fun Pz hPz => ?_
      obtain ⟨chs', m1, m2, rfl, had, hch'⟩ := hZ0
      clear F4 N4
      have hszC : (refsC chs).toArray.size = C0.length := by have := hch.len; simp [refsC] at this ⊢; exact this
      rw [hszC, List.take_length, List.drop_length, List.map_nil, List.append_nil] at hch'
      have hA8 : Apart ((D9, LCg.lst (refsC chs)) :: (chsL chs' ++ LD)) := hAD.addr (by
        have e : (chsL chs).map (·.1) = (chsL chs').map (·.1) := by rw [chsL_addr, chsL_addr]; exact had.symm
        simp only [List.map_cons, List.map_append, e])
      have hrf : refsC chs = refsC chs' := by
        rw [refsC_addr, refsC_addr, had]
      rw [hrf] at N hA8
      first | replace F := fr_at (at1s m1 (at1s m2 rfl)) F | replace F := fr_at (at1c (at1s m1 (at1s m2 rfl))) F
      try dsimp only at F
      have hrl : (refsC chs').toArray.size ≤ sizeLine := by rw [← hrf, hszC, sizeLine_eq]; omega
      refine hPz ?_
      clear hPz Pz
      repeat' (first | ((with_reducible show wpAny _ _ (eval (Expr.ListComp _ _ (Scope.mk _ (_ :: (_, NameKind.cell) :: _) _ _ _) _) _) _ _ _); with_unfolding_all refine ListComp_C ‹Fr _ _ _ _› (by rfl) (fun _ => rfl) (fun _ => rfl) (by rfl) (by decide) (by rfl) ?_) | ((with_reducible show wpAny _ _ (eval (Expr.ListComp _ [Comprehension.mk _ _ [] _] _ _) _) _ _ _); k_dflt (refine LCg.ListComp_U ‹Fr _ _ _ _› (by with_unfolding_all rfl) (by decide) (by rfl) (by decide) (by rfl) ?_)) | (k_dflt (refine LCg.CompSrc.ledger (by rfl) (by k_asm) (by k_asm) (by k_mem) (by first | assumption | size_fits) ?_); intro _) | top_args)
      rename Fr _ _ _ _ => F2
      rename News _ _ _ _ => N2
      rename_i z1 _ lz g2
      refine byProp fun Pz hPz => ?_
      obtain ⟨K0, hK0⟩ : ∃ K0, K0 = C0.map (chainF (succP perm q) 13) := ⟨_, rfl⟩
      rw [← hK0] at hch'
      have hK12 : ∀ k ∈ K0, 1 ≤ k.length ∧ k.length ≤ 12 := fun k hk => by
        rw [hK0] at hk
        refine byProp fun Pz hPz => ?_
        obtain ⟨c, hc, rfl⟩ := List.mem_map.mp hk
        have := chain_len (pre := []) H (f := 12) (Chn.start (hCl c hc).1 (hCl c hc).2)
        refine hPz ?_
        clear hPz Pz
        refine ⟨?_, by simpa using this⟩
        simp [chainF]
      obtain ⟨LX, hLX⟩ : ∃ LX, LX = (z1, W.listOf #[Value.int 0 tk] 0) :: (L + 1, oc2) :: (D9, LCg.lst (refsC chs')) :: (la, W.listOf cm.toArray na) :: (lc, W.listOf cs.toArray nc) :: chsL chs' := ⟨_, rfl⟩
      have hchl := hch'.len
      have hat : ∀ i, i < chs'.length → ∃ c k, chs'[i]? = some c ∧ K0[i]? = some k ∧ IntsAre c.us (zs k) ∧ chL c ∈ chsL chs' := fun i hi => hch'.at hi
      have hD9x : (D9, LCg.lst (refsC chs')) ∈ LX := by rw [hLX]; first | top_raise0 | simp
      rw [← hLX] at N2
      refine hPz ?_
      clear hPz Pz
      rw [← hLX]
      refine turnsU (fun i ys news => news = LX ∧ IntsAre ys ((K0.take i).map fun k => (k.length : Int))) ?_ ?_ _ 0 [] _ (Nat.zero_add _) ⟨rfl, .nil⟩
      · rintro i ys news hi ⟨hnw, hys⟩ v I oI C oC D' m₂ h tk E' hv hC hx F N off ne
        rw [hnw] at N off
        clear F2 N2
        refine byProp fun Pz hPz => ?_
        obtain ⟨c, k, hc, hk, hck, hcm9⟩ := hat i (by simpa [refsC] using hi)
        obtain rfl : v = .ref c.l := by
          have h1 : (refsC chs')[i]? = some v := by simpa using hv
          simp only [refsC, List.getElem?_map, hc, Option.map_some] at h1
          exact (Option.some.inj h1).symm
        have hz : c.us.length ≤ 1000 := by rw [hck.length]; simp [zs]; have := hK12 k (List.mem_of_getElem? hk); omega
        have hzl : c.us.length = k.length := by rw [hck.length]; simp [zs]
        have hcLX : chL c ∈ LX := by rw [hLX]; exact .tail _ (.tail _ (.tail _ (.tail _ (.tail _ hcm9))))
        have N9 := N
        have N5 : News B0 L h ((I, oI) :: (C, oC) :: (D', LCg.lst ys) :: chL c :: LX) := fun p hp => N p (by
          refine memIn ?_ hp; top_name)
        clear N
        obtain ⟨cl, cus, cn⟩ := c
        dsimp only at hz hzl
        refine hPz ?_
        clear hPz Pz
        k_steps
        rename Fr _ _ _ _ => F4
        rename_i t9 tk9
        refine LCg.CompEnd.intro (h' := h) F4 N9 LX (fun p hp => hp) off (.inr ⟨_, hD9x, rfl, _, rfl⟩) ⟨rfl, ?_⟩
        rw [List.take_add_one, hk, List.map_append]
        refine hys.append ?_
        have hzk : (zs k).length = k.length := by simp [zs]
        first
        | (rw [hzl]; exact .cons ((k.length : Nat) : Int) t9 .nil)
        | (rw [hzk]; exact .cons ((k.length : Nat) : Int) _ .nil)
      · rintro ys news ⟨hnw, hys⟩
        unfold LCg.FinE
        intro D8 h8 tk8 F8 N8 o8
        rw [hnw] at N8 o8
        have o8' := off1_mem' o8
        have hszr : (refsC chs').toArray.size = K0.length := by simp [refsC]; exact hchl
        rw [hszr, List.take_length] at hys
        clear F2 N2
        have N5 : News B0 L h8 ((D8, W.listOf ys.toArray ys.length) :: (z1, W.listOf #[Value.int 0 tk] 0) :: (L + 1, oc2) :: (D9, LCg.lst (refsC chs')) :: (la, W.listOf cm.toArray na) :: (lc, W.listOf cs.toArray nc) :: chsL chs') := fun p hp => N8 p (by rw [hLX]; exact hp)
        clear N8
        have hys' : IntsAre ys (K0.map fun k => ((k.length : Nat) : Int)) := hys
        have hKl : K0.length ≤ 12 := by rw [hK0, List.length_map]; omega
        refine li_add F8 N5 (.tail _ (.head _)) (.head _) (.cons 0 tk .nil) hys' (by first | top_raise0 | simp) (by simp; omega) fun D7 ws h7 F7 N7 l7 hws => ?_
        clear F8 N5
        have hw0 : 0 < ([(0 : Int)] ++ K0.map fun k => ((k.length : Nat) : Int)).length := by simp
        k_steps
        rename Fr _ _ _ _ => F4
        rename IsRange _ _ _ _ _ _ _ _ => hr
        rename_i M9 _ _ _ _ hM1 hM2 _ _ _ _ _ N4 hk4
        refine byProp fun Pz hPz => ?_
        obtain ⟨Mn, rfl⟩ : ∃ Mn : Nat, M9 = (Mn : Int) := by
          rcases List.mem_append.mp hM1 with hh | hh
          · exact ⟨0, by simpa using hh⟩
          · obtain ⟨k, _, e⟩ := List.mem_map.mp hh; exact ⟨k.length, e.symm⟩
        have hMn : Mn ≤ 12 := by
          rcases List.mem_append.mp hM1 with hh | hh
          · simp at hh; omega
          · obtain ⟨k, hk, e⟩ := List.mem_map.mp hh
            have := (hK12 k hk).2
            have : k.length = Mn := by exact_mod_cast e
            omega
        have hMle : ∀ k ∈ K0, k.length ≤ Mn := fun k hk => by
          have := hM2 ((k.length : Nat) : Int) (List.mem_append_right _ (List.mem_map.mpr ⟨k, hk, rfl⟩))
          exact_mod_cast this
        have hMeq : Mn = 0 ∨ ∃ k ∈ K0, k.length = Mn := by
          rcases List.mem_append.mp hM1 with hh | hh
          · exact .inl (by simpa using hh)
          · obtain ⟨k, hk, e⟩ := List.mem_map.mp hh; exact .inr ⟨k, hk, by exact_mod_cast e⟩
        obtain ⟨LY, hLY⟩ : ∃ LY, LY = (L + 1, oc2) :: (D9, LCg.lst (refsC chs')) :: (la, W.listOf cm.toArray na) :: (lc, W.listOf cs.toArray nc) :: chsL chs' := ⟨_, rfl⟩
        have N5 : News B0 L _ LY := fun p hp => N4 p (by rw [hLY] at hp; exact .tail _ (.tail _ (.tail _ hp)))
        have hALY : Apart LY := by
          rw [hLY]
          rw [hLD] at hA8
          refine (hA8.perm ?_).addr (l := (L + 1, oc) :: (D9, LCg.lst (refsC chs')) :: (la, W.listOf cm.toArray na) :: (lc, W.listOf cs.toArray nc) :: chsL chs') rfl
          refine (List.Perm.cons _ List.perm_append_comm).trans ?_
          exact List.Perm.swap _ _ _
        clear N4 hk4 hM1 hM2
        refine hPz ?_
        clear hPz Pz
        unfold Hold
        refine srcRangeC (n := Mn) (news := LY) (fun i ys news => ∃ ds, ys = refsT ds ∧ news = tupsT ds ++ LY ∧ TuAre ds ((List.range i).map (column K0)) ∧ Apart (tupsT ds ++ LY)) rfl F4 N5 hr (small12 Mn hMn) (by rw [rangeSize_nat]; simp) (by rw [sizeLine_eq]; omega) ⟨[], rfl, rfl, .nil, hALY⟩ ?_ ?_
        · intro I i ys news t' oI C oC c oc9 D' m₂ h tk s₂ E' hZ0 hi hZ1 hC hc F N off ne hge
          refine byProp fun Pz hPz => ?_
          obtain ⟨hz9, rfl⟩ := hZ0
          obtain ⟨ds, rfl, rfl, hds, hAd⟩ := hZ1
          clear F4 N5
          refine hPz ?_
          clear hPz Pz
          refine wpAny_tests_nil ?_
          simp only [if_true]
          obtain ⟨LI, hLI⟩ : ∃ LI, LI = (I, oI) :: (C, oC) :: (c, oc9) :: (D', LCg.lst (refsT ds)) :: (tupsT ds ++ LY) := ⟨_, rfl⟩
          have N0 := N
          have N6 : News B0 L h ((L + 1, oc2) :: (D9, LCg.lst (refsC chs')) :: (c, oc9) :: LI) := fun p hp => N p (by
            rw [hLI, hLY] at hp
            rw [hLY]
            refine memIn ?_ hp; top_name)
          clear N
          repeat' (first | ((with_reducible show wpAny _ _ (eval (Expr.ListComp _ [Comprehension.mk _ _ (_ :: _) _] _ _) _) _ _ _); k_dflt (refine LCt.ListComp_T ‹Fr _ _ _ _› (by with_unfolding_all rfl) (by decide) (by rfl) (by decide) (by rfl) ?_)) | top_args)
          rename Fr _ _ _ _ => F9
          obtain ⟨LL, hLL⟩ : ∃ LL, LL = (L + 1, oc2) :: (D9, LCg.lst (refsC chs')) :: (c, oc9) :: LI := ⟨_, rfl⟩
          rw [← hLL] at N6
          have hD9L : (D9, LCg.lst (refsC chs')) ∈ LL := by rw [hLL]; exact .tail _ (.head _)
          refine LCt.CompSrcT.ledger rfl F9 N6 hD9L hrl ?_
          intro g'
          refine turnsT (fun i' ys' news => news = LL ∧ IntsAre ys' (zs ((K0.take i').filterMap fun ch => ch[i]?))) ?_ ?_ _ 0 [] _ (Nat.zero_add _) ⟨rfl, .nil⟩
          · rintro i' ys' news hi' ⟨hnw, hys⟩ v I' oI' C' oC' D2 m3 h3 tk3 E3 hv hC' hx' F' N' off' ne'
            rw [hnw] at N' off'
            clear F9 N6
            refine byProp fun Pz hPz => ?_
            obtain ⟨c9, k, hc, hk, hck, hcm9⟩ := hat i' (by simpa [refsC] using hi')
            obtain rfl : v = .ref c9.l := by
              have h1 : (refsC chs')[i']? = some v := by simpa using hv
              simp only [refsC, List.getElem?_map, hc, Option.map_some] at h1
              exact (Option.some.inj h1).symm
            have hkl := (hK12 k (List.mem_of_getElem? hk)).2
            have hz : c9.us.length ≤ 1000 := by rw [hck.length]; simp [zs]; omega
            have hzl : c9.us.length = k.length := by rw [hck.length]; simp [zs]
            have hzk : (zs k).length = k.length := by simp [zs]
            have hcLY : chL c9 ∈ LY := by rw [hLY]; exact .tail _ (.tail _ (.tail _ (.tail _ hcm9)))
            have hcLL : chL c9 ∈ LL := by rw [hLL, hLI]; exact .tail _ (.tail _ (.tail _ (.tail _ (.tail _ (.tail _ (.tail _ (List.mem_append_right _ hcLY)))))))
            have hcc : (c, oc9) ∈ LL := by rw [hLL]; exact .tail _ (.tail _ (.head _))
            have N9 := N'
            have N5 : News B0 L h3 ((I', oI') :: (C', oC') :: (D2, LCg.lst ys') :: chL c9 :: (c, oc9) :: LL) := fun p hp => N' p (by
              refine memIn ?_ hp; top_name)
            clear N'
            obtain ⟨cl, cus, cn⟩ := c9
            dsimp only at hz hzl hck
            have hmu : (cl, W.listOf cus.toArray cn) ∈ (I', oI') :: (C', oC') :: (D2, LCg.lst ys') :: chL ⟨cl, cus, cn⟩ :: (c, oc9) :: LL := .tail _ (.tail _ (.tail _ (.head _)))
            refine hPz ?_
            clear hPz Pz
            by_cases hki : i < k.length
            · have hlt0 : (0 : Int) ≤ (i : Int) := by omega
              k_steps
              rename Fr _ _ _ _ => F4
              rename_i t9
              refine LCg.CompEnd.intro (h' := h3) F4 N9 LL (fun p hp => hp) off' (.inr ⟨_, hD9L, rfl, _, rfl⟩) ⟨rfl, ?_⟩
              rw [List.take_add_one, hk, List.filterMap_append]
              have e1 : List.filterMap (fun ch : List Nat => ch[i]?) (some k).toList = [k[i]] := by simp [hki]
              rw [e1]
              have e2 : (zs k).getD (i : Int).toNat 0 = ((k[i] : Nat) : Int) := by simp [zs, hki]
              rw [e2]
              have e3 : zs (List.filterMap (fun ch : List Nat => ch[i]?) (List.take i' K0) ++ [k[i]]) = zs (List.filterMap (fun ch : List Nat => ch[i]?) (List.take i' K0)) ++ [((k[i] : Nat) : Int)] := by simp [zs]
              rw [e3]
              exact hys.append (.cons _ t9 .nil)
            · k_steps
              rename Fr _ _ _ _ => F4
              refine LCg.CompEnd.intro (h' := h3) F4 N9 LL (fun p hp => hp) off' (.inr ⟨_, hD9L, rfl, _, rfl⟩) ⟨rfl, ?_⟩
              rw [List.take_add_one, hk, List.filterMap_append]
              have e1 : List.filterMap (fun ch : List Nat => ch[i]?) (some k).toList = [] := by simp; omega
              rw [e1, List.append_nil]
              exact hys
          · rintro ys' news ⟨hnw, hys⟩
            unfold LCg.FinE
            intro D8 h8 tk8 F8 N8 o8
            rw [hnw] at N8 o8
            clear F9 N6
            have o8' := off1_mem' o8
            have hszr : (refsC chs').toArray.size = K0.length := by simp [refsC]; exact hchl
            rw [hszr, List.take_length] at hys
            have hysz : ys'.toArray.size ≤ sizeLine := by
              have h1 := hys.length
              have h2 := List.length_filterMap_le (fun ch : List Nat => ch[i]?) K0
              have h3 : K0.length ≤ 12 := by rw [hK0, List.length_map]; omega
              simp only [zs, List.length_map] at h1
              rw [sizeLine_eq]
              simp
              omega
            have hy16 : ys'.toArray.size ≤ 16384 := by
              have h1 := hys.length
              have h2 := List.length_filterMap_le (fun ch : List Nat => ch[i]?) K0
              have h3 : K0.length ≤ 12 := by rw [hK0, List.length_map]; omega
              simp only [zs, List.length_map] at h1
              simp
              omega
            repeat' (first | ((with_reducible show wpAny _ _ (call (Value.type "tuple") _) _ _ _); k_dflt (refine kde_tupleOf (by k_asm) (by k_asm) (News.isList (by k_asm) (.head _)) (by assumption) rfl ?_); intro _ _ _ _ _) | top_args)
            rename Fr _ _ _ _ => F4
            rename News _ _ _ _ => N4
            rename_i Dt _ lt9
            have o2 : ∀ p ∈ tupsT ds ++ LY, p ∈ LL := fun p hp => by rw [hLL, hLI]; exact .tail _ (.tail _ (.tail _ (.tail _ (.tail _ (.tail _ (.tail _ hp))))))
            have m1 : (I, oI) ∈ LL := by rw [hLL, hLI]; first | top_raise0 | simp
            have m2 : (C, oC) ∈ LL := by rw [hLL, hLI]; first | top_raise0 | simp
            have m3 : (c, oc9) ∈ LL := by rw [hLL, hLI]; first | top_raise0 | simp
            have m4 : (D', LCg.lst (refsT ds)) ∈ LL := by rw [hLL, hLI]; first | top_raise0 | simp
            have N4' : News B0 L _ ((Dt, tupO ys') :: (D8, LCg.lst ys') :: LL) := N4
            have hnew : ∀ p ∈ tupsT (ds ++ [⟨Dt, ys'⟩]) ++ LY, p = (Dt, tupO ys') ∨ p ∈ tupsT ds ++ LY := fun p hp => by
              rw [tupsT_snoc] at hp
              rcases List.mem_append.mp hp with hp | hp
              · rcases List.mem_append.mp hp with hp | hp
                · exact .inr (List.mem_append_left _ hp)
                · exact .inl (List.mem_singleton.mp hp)
              · exact .inr (List.mem_append_right _ hp)
            refine ⟨_, _, tupsT (ds ++ [⟨Dt, ys'⟩]) ++ LY, rfl, F4, fun p hp => N4' p ?_, fun p hp => ?_, trivial, ⟨ds ++ [⟨Dt, ys'⟩], by rw [refsT_snoc], rfl, ?_, ?_⟩⟩
            · rcases List.mem_cons.mp hp with rfl | hp
              · exact .tail _ (.tail _ m1)
              · rcases List.mem_cons.mp hp with rfl | hp
                · exact .tail _ (.tail _ m2)
                · rcases List.mem_cons.mp hp with rfl | hp
                  · exact .tail _ (.tail _ m3)
                  · rcases List.mem_cons.mp hp with rfl | hp
                    · exact .tail _ (.tail _ m4)
                    · rcases hnew p hp with rfl | hp
                      · exact .head _
                      · exact .tail _ (.tail _ (o2 p hp))
            · rcases hnew p hp with rfl | hp
              · exact ⟨Nat.ne_of_gt (lt9 _ (.tail _ m1)), Nat.ne_of_gt (lt9 _ (.tail _ m2)), Nat.ne_of_gt (lt9 _ (.tail _ m3)), Nat.ne_of_gt (lt9 _ (.tail _ m4))⟩
              · exact off p hp
            · rw [List.range_succ, List.map_append]
              exact hds.snoc hys
            · rw [tupsT_snoc]
              have h1 : Apart ((Dt, tupO ys') :: (tupsT ds ++ LY)) := hAd.cons fun p hp => Nat.ne_of_lt (lt9 p (.tail _ (o2 p hp)))
              rw [List.append_assoc]
              exact h1.perm List.perm_middle.symm
        · intro ys news Dr h tk hZ0 F N off
          refine byProp fun Pz hPz => ?_
          obtain ⟨ds, rfl, rfl, hds, hAd⟩ := hZ0
          clear F4 N5
          refine hPz ?_
          clear hPz Pz
          k_steps
          have hAf : Apart ((Dr, LCg.lst (refsT ds)) :: (tupsT ds ++ [(la, W.listOf cm.toArray na), (lc, W.listOf cs.toArray nc)])) := by
            refine (hAd.cons (a := (Dr, LCg.lst (refsT ds))) off).sublist (List.Sublist.cons_cons _ (List.Sublist.append_left ?_ _))
            rw [hLY]
            exact .cons _ (.cons _ (.cons_cons _ (.cons_cons _ (List.nil_sublist _))))
          subst hB0
          refine fin O D hapR hQ ((Dr, LCg.lst (refsT ds)) :: (tupsT ds ++ [(la, W.listOf cm.toArray na), (lc, W.listOf cs.toArray nc)])) ⟨Dr, ds, _, rfl, rfl, ?_, hAf⟩ F N fun p hp => ?_
          · rw [← hC0, cols_due C0 K0 hK0 hMle hMeq hMn]; exact hds
          · rw [hLY]
            refine memIn ?_ hp; top_name
end
end -- MDu
example : True := by first | (w_top off; walk1) | trivial
section -- MZ4
/- plain: who is handed out, and who isn't -/
section
variable {succ : Nat → Option Nat} {q : Nat → Bool}
theorem sub_len {l m : List Nat} (h : l.Nodup) (hs : ∀ x ∈ l, x ∈ m) : l.length ≤ m.length := by
  induction l generalizing m with
  | nil => exact Nat.zero_le _
  | cons a r ih =>
    rw [List.nodup_cons] at h
    have h1 : a ∈ m := hs a (.head _)
    have h2 : r.length ≤ (m.erase a).length := ih h.2 fun x hx => (List.mem_erase_of_ne (fun e => h.1 (by rw [← e]; exact hx))).mpr (hs x (.tail _ hx))
    rw [List.length_erase_of_mem h1] at h2
    have : 0 < m.length := List.length_pos_of_mem h1
    simp; omega
theorem sub_all {l m : List Nat} (h : l.Nodup) (hs : ∀ x ∈ l, x ∈ m) (hl : m.length ≤ l.length) {y : Nat} (hy : y ∈ m) : y ∈ l := by
  refine Classical.byContradiction fun hn => ?_
  have := sub_len (l := y :: l) (m := m) (List.nodup_cons.mpr ⟨hn, h⟩) fun x hx => by
    rcases List.mem_cons.mp hx with rfl | hx
    · exact hy
    · exact hs x hx
  simp at this; omega
/-- the levels come to an end -/
theorem lev_end (H : SuccOK succ q) : ∀ (f : Nat) (Rs : List (List Nat)) (cur : List Nat), Lev succ q Rs cur → 13 ≤ f + Rs.flatten.length → (∀ k ∈ Rs.flatten, ∀ j, succ k = some j → j ∈ Rs.flatten ++ cur) →
    Lev succ q (Rs ++ roundsF succ f cur) [] ∧ (∀ k ∈ (Rs ++ roundsF succ f cur).flatten, ∀ j, succ k = some j → j ∈ (Rs ++ roundsF succ f cur).flatten) ∧ (∀ k ∈ cur, k ∈ (Rs ++ roundsF succ f cur).flatten) ∧ (∀ k ∈ (roundsF succ f cur).flatten, Term succ k) := by
  intro f
  induction f with
  | zero =>
    intro Rs cur L hf _
    have := L.len
    omega
  | succ f ih =>
    intro Rs cur L hf hw
    unfold roundsF
    by_cases hc : cur = []
    · subst hc
      simp only [if_true, List.append_nil]
      exact ⟨L, fun k hk j e => by simpa using hw k hk j e, fun k hk => (nomatch hk), fun k hk => by simp at hk⟩
    · rw [if_neg hc]
      have hfl : (Rs ++ [cur]).flatten = Rs.flatten ++ cur := by simp
      have hpos : 0 < cur.length := List.length_pos_iff.mpr hc
      have := ih (Rs ++ [cur]) (cur.filterMap succ) (L.step H hc) (by rw [hfl, List.length_append]; omega) (fun k hk j e => by
        rw [hfl] at hk ⊢
        rcases List.mem_append.mp hk with hk | hk
        · exact List.mem_append_left _ (hw k hk j e)
        · exact List.mem_append_right _ (List.mem_filterMap.mpr ⟨k, hk, e⟩))
      have e9 : Rs ++ [cur] ++ roundsF succ f (cur.filterMap succ) = Rs ++ cur :: roundsF succ f (cur.filterMap succ) := by simp
      rw [e9] at this
      obtain ⟨a1, a2, a3, a4⟩ := this
      refine ⟨a1, a2, fun k hk => ?_, fun k hk => ?_⟩
      · simp [hk]
      · rw [List.flatten_cons] at hk
        rcases List.mem_append.mp hk with hk | hk
        · cases e : succ k with
          | none => exact term_none e
          | some j =>
            refine term_some e ?_
            have hj : j ∈ cur.filterMap succ := List.mem_filterMap.mpr ⟨k, hk, e⟩
            have h13 : 0 < f := by
              have := L.len
              omega
            refine a4 j ?_
            obtain ⟨f', rfl⟩ : ∃ f', f = f' + 1 := ⟨f - 1, by omega⟩
            have hne : cur.filterMap succ ≠ [] := fun h => by rw [h] at hj; cases hj
            rw [roundsF, if_neg hne, List.flatten_cons]
            exact List.mem_append_left _ hj
        · exact a4 k hk
structure OutIs (succ : Nat → Option Nat) (q : Nat → Bool) (O : List Nat) : Prop where
  nd : O.Nodup
  lt : ∀ k ∈ O, k < 12
  fwd : ∀ k ∈ O, ∀ j, succ k = some j → j ∈ O
  cut : ∀ k, k < 12 → q k = true → k ∈ O
  term : ∀ k ∈ O, Term succ k
theorem out_is (H : SuccOK succ q) : OutIs succ q (roundsF succ 13 ((List.range 12).filter q)).flatten := by
  have := lev_end H 13 [] ((List.range 12).filter q) (lev0 q) (by simp) (fun k hk => by simp at hk)
  rw [List.nil_append] at this
  obtain ⟨a1, a2, a3, a4⟩ := this
  have h1 := a1.nd
  rw [List.append_nil] at h1
  exact ⟨h1, fun k hk => a1.lt k (by rw [List.append_nil]; exact hk), a2, fun k hk hq => a3 k (by simp [hk, hq]), a4⟩
theorem out_len (H : SuccOK succ q) : (roundsF succ 13 ((List.range 12).filter q)).flatten.length ≤ 12 := nodup_len (out_is H).nd (out_is H).lt
theorem rounds_len (H : SuccOK succ q) : (roundsF succ 13 ((List.range 12).filter q)).length ≤ 12 := by
  have := lev_end H 13 [] ((List.range 12).filter q) (lev0 q) (by simp) (fun k hk => by simp at hk)
  rw [List.nil_append] at this
  exact Nat.le_trans (len_flatten this.1.ne) (out_len H)
/-- a place that isn't handed out lies on a ring -/
theorem not_out {perm : Nat → Nat} {q : Nat → Bool} (hlt : ∀ j, j < 12 → perm j < 12) (hinj : ∀ i j, i < 12 → j < 12 → perm i = perm j → i = j) {O : List Nat} (X : OutIs (succP perm q) q O) {k : Nat} (hk : k < 12) (hn : k ∉ O) : ¬ Term (succP perm q) k := by
  have hback : ∀ j, j < 12 → j ∉ O → perm j ∉ O := fun j hj hjn hm => by
    have hq : ¬ q j = true := fun h => hjn (X.cut j hj h)
    exact hjn (X.fwd _ hm j (by rw [succP_at hinj hj rfl, if_neg hq]))
  have hU : ∀ j, j < 12 → j ∉ O → ∃ i, i < 12 ∧ i ∉ O ∧ perm i = j := fun j hj hjn => by
    let U := (List.range 12).filter fun p => decide (p ∉ O)
    have hUn : U.Nodup := List.Pairwise.filter _ List.nodup_range
    have hUm : ∀ p, p ∈ U ↔ p < 12 ∧ p ∉ O := fun p => by simp [U]
    have h1 : (U.map perm).Nodup := by
      show List.Pairwise _ _
      rw [List.pairwise_map]
      refine List.Pairwise.imp_of_mem ?_ hUn
      intro a b ha hb hab e
      exact hab (hinj a b ((hUm a).mp ha).1 ((hUm b).mp hb).1 e)
    have h2 : ∀ x ∈ U.map perm, x ∈ U := fun x hx => by
      obtain ⟨a, ha, rfl⟩ := List.mem_map.mp hx
      obtain ⟨b1, b2⟩ := (hUm a).mp ha
      exact (hUm _).mpr ⟨hlt a b1, hback a b1 b2⟩
    have h3 := sub_all h1 h2 (by simp) ((hUm j).mpr ⟨hj, hjn⟩)
    obtain ⟨i, hi, e⟩ := List.mem_map.mp h3
    exact ⟨i, ((hUm i).mp hi).1, ((hUm i).mp hi).2, e⟩
  have hstep : ∀ n j, j < 12 → j ∉ O → ∃ i, walkN (succP perm q) n j = some i := fun n => by
    induction n with
    | zero => exact fun j _ _ => ⟨j, rfl⟩
    | succ n ih =>
      intro j hj hjn
      obtain ⟨i, hi, hin, e⟩ := hU j hj hjn
      have hq : ¬ q i = true := fun h => hin (X.cut i hi h)
      have : succP perm q j = some i := by rw [succP_at hinj hi e, if_neg hq]
      obtain ⟨i', e'⟩ := ih i hi hin
      exact ⟨i', by simp [walkN, this, e']⟩
  rintro ⟨n, e⟩
  obtain ⟨i, e'⟩ := hstep n k hk hn
  rw [e] at e'; cases e'
/-- the places that are not handed out -/
noncomputable def closedF (O : List Nat) : List Nat := (List.range 12).filter fun p => decide (p ∉ O)
theorem closed_iff {perm : Nat → Nat} {q : Nat → Bool} (hlt : ∀ j, j < 12 → perm j < 12) (hinj : ∀ i j, i < 12 → j < 12 → perm i = perm j → i = j) {O : List Nat} (X : OutIs (succP perm q) q O) : (∃ k, k < 12 ∧ ¬ Term (succP perm q) k) ↔ closedF O ≠ [] := by
  constructor
  · rintro ⟨k, hk, hn⟩ e
    have : k ∈ closedF O := by simp [closedF, hk]; exact fun h => hn (X.term k h)
    rw [e] at this; cases this
  · intro h
    obtain ⟨k, r, e⟩ := List.exists_cons_of_ne_nil h
    have : k ∈ closedF O := by rw [e]; exact .head _
    simp [closedF] at this
    exact ⟨k, this.1, not_out hlt hinj X this.1 this.2⟩
theorem in_groups {R : List (List Nat)} {p : Nat} : (R.filter fun g => decide (p ∈ g)) = [] ↔ p ∉ R.flatten := by
  rw [List.filter_eq_nil_iff]
  simp only [decide_eq_true_eq, List.mem_flatten, not_exists, not_and]
theorem unord_run : ∀ (n : Nat) (O : List Nat) (ms : List Int), O.Nodup → (∀ k ∈ O, k < n) → unordF n (zs O) ms = (ms ++ (((List.range n).filter fun p => decide (p ∉ O)).reverse.map fun k => ((k : Nat) : Int)), []) := by
  intro n
  induction n with
  | zero =>
    intro O ms _ h
    have : O = [] := by
      cases O with
      | nil => rfl
      | cons a r => exact absurd (h a (.head _)) (Nat.not_lt_zero _)
    subst this
    simp [unordF, zs]
  | succ n ih =>
    intro O ms hn h
    unfold unordF
    by_cases hm : n ∈ O
    · have h1 : (n : Int) ∈ zs O := mem_zs.mpr hm
      have h2 : (zs O).erase (n : Int) = zs (O.erase n) := by
        unfold zs
        clear ih hn h h1 hm
        induction O with
        | nil => rfl
        | cons a r ih =>
          rw [List.map_cons, List.erase_cons, List.erase_cons]
          by_cases e : a = n
          · simp [e]
          · have e2 : ¬ ((a : Int) == (n : Int)) = true := by simp; exact_mod_cast e
            have e3 : ¬ (a == n) = true := by simp [e]
            rw [if_neg e2, if_neg e3, List.map_cons, ih]
      rw [if_pos h1, h2, ih (O.erase n) ms (hn.erase n) fun k hk => by
        have := (hn.mem_erase_iff).mp hk
        have := h k this.2
        omega]
      congr 3
      rw [List.range_succ, List.filter_append]
      simp only [List.filter_cons, List.filter_nil, hm, not_true, decide_false, Bool.false_eq_true, if_false, List.append_nil]
      congr 1
      refine List.filter_congr fun p hp => ?_
      have : p ≠ n := Nat.ne_of_lt (List.mem_range.mp hp)
      simp [hn.mem_erase_iff, this]
    · have h1 : ¬ (n : Int) ∈ zs O := fun e => hm (mem_zs.mp e)
      rw [if_neg h1, ih O _ hn fun k hk => by
        have := h k hk
        have : k ≠ n := fun e => hm (e ▸ hk)
        omega]
      congr 1
      rw [List.range_succ, List.filter_append]
      simp [hm]
theorem upTo_filter (O : List Nat) : (upTo 12).filter (fun a => decide (a ∉ zs ((List.range 12).filter fun p => decide (p ∈ O)))) = zs (closedF O) := by
  unfold upTo zs closedF
  rw [List.filter_map]
  congr 1
  refine List.filter_congr fun p hp => ?_
  have hp' : p < 12 := List.mem_range.mp hp
  show decide (((p : Nat) : Int) ∉ zs ((List.range 12).filter fun p => decide (p ∈ O))) = decide (p ∉ O)
  rw [decide_eq_decide, mem_zs, List.mem_filter, decide_eq_true_eq]
  exact ⟨fun h hm => h ⟨hp, hm⟩, fun h hm => h hm.2⟩
end
end -- MZ4
example : True := by first | (w_top off; walk1) | trivial
section -- MCd
/- comprehensions of two clauses -/
section
variable {prog : Program} {w : World} {A : Around} {E : Value → Shared → Prop} {R : Result → Shared → Prop} {s : Shared} {h₀ : Heap} {L : Addr} {m : Str → Option Value} {env : Env}
theorem compTurn_two0 (elt t1 i1 t2 i2 : Expr) (scope : Scope) (pos : Pos) (it acc : Value) (env : Env) :
    compTurn (.ListComp elt [⟨t1, i1, [], 0⟩, ⟨t2, i2, [], 0⟩] scope pos) 0 it acc env = (standAt i1.pos >>= fun _ => pyNext it >>= fun r => match r with
      | none => pure (.done .next)
      | some v => letOwnedTupleGo t1 it v >>= fun _ => assign t1 env v >>= fun _ =>
        (eval i2 env >>= fun x => standAt i2.pos >>= fun _ => foldedSetIterable i2 env x >>= fun x => holding [x] (pyIter x) >>= fun it2 => runOwn (.compStart (.ListComp elt [⟨t1, i1, [], 0⟩, ⟨t2, i2, [], 0⟩] scope pos) 1 it2 acc env) env >>= fun _ =>
          again (.compLoop (.ListComp elt [⟨t1, i1, [], 0⟩, ⟨t2, i2, [], 0⟩] scope pos) 0 it acc env))) := by rfl
theorem compTurn_two1 (elt t1 i1 t2 i2 : Expr) (scope : Scope) (pos : Pos) (it acc : Value) (env : Env) :
    compTurn (.ListComp elt [⟨t1, i1, [], 0⟩, ⟨t2, i2, [], 0⟩] scope pos) 1 it acc env = (standAt i2.pos >>= fun _ => pyNext it >>= fun r => match r with
      | none => pure (.done .next)
      | some v => letOwnedTupleGo t2 it v >>= fun _ => assign t2 env v >>= fun _ =>
        (eval elt env >>= fun x => call (.builtin "list.append") [acc, x] >>= fun _ => pure PUnit.unit) >>= fun _ =>
          again (.compLoop (.ListComp elt [⟨t1, i1, [], 0⟩, ⟨t2, i2, [], 0⟩] scope pos) 1 it acc env)) := by rfl
theorem compStart_two1 {elt t1 i1 t2 i2 : Expr} {scope : Scope} {pos : Pos} {it acc : Value}
    (h0 : codeAny (model prog w) A (.compLoop (.ListComp elt [⟨t1, i1, [], 0⟩, ⟨t2, i2, [], 0⟩] scope pos) 1 it acc env) R s)
    (h : wpAny (model prog w) A (pyIter it) (fun it' s' => codeAny (model prog w) A (.compLoop (.ListComp elt [⟨t1, i1, [], 0⟩, ⟨t2, i2, [], 0⟩] scope pos) 1 it' acc env) R s')
      (notedBy (model prog w) A env fun x s' => R (.error x) s') s) :
    codeAny (model prog w) A (.compStart (.ListComp elt [⟨t1, i1, [], 0⟩, ⟨t2, i2, [], 0⟩] scope pos) 1 it acc env) R s := by
  refine codeAny_of_tree ?_
  show wpAny _ _ ((compStart (.ListComp elt [⟨t1, i1, [], 0⟩, ⟨t2, i2, [], 0⟩] scope pos) 1 it acc env).onRaise (fun x => do noteFrame x env; standAt theWindowsPlace)) _ _ s
  refine wpAny_notedAt ?_
  unfold compStart
  show wpAny _ _ (ask >>= _) _ _ s
  refine wpAny_bind (wpAny_askSetting (wpAny_ite ?_))
  split
  · first
      | exact wpAny_bind (wpAny_pure (wpAny_pure (And.intro rfl h0)))
      | exact wpAny_pure (And.intro rfl h0)
  · first
      | exact wpAny_bind (wpAny_rule (wpAny_bind (wpAny_standAt (wpAny_bind (wpAny_mono h (fun it' s' h' => wpAny_pure (And.intro rfl h')) fun _ _ x => x)))))
      | (refine wpAny_bind (wpAny_rule ?_); show wpAny _ _ (standAt i2.pos >>= _) _ _ s; exact wpAny_bind (wpAny_standAt (wpAny_bind (wpAny_mono h (fun it' s' h' => wpAny_pure (And.intro rfl h')) fun _ _ x => x))))
theorem compStart_two0 {elt t1 i1 t2 i2 : Expr} {scope : Scope} {pos : Pos} {it acc : Value}
    (h0 : codeAny (model prog w) A (.compLoop (.ListComp elt [⟨t1, i1, [], 0⟩, ⟨t2, i2, [], 0⟩] scope pos) 0 it acc env) R s)
    (h : wpAny (model prog w) A (pyIter it) (fun it' s' => codeAny (model prog w) A (.compLoop (.ListComp elt [⟨t1, i1, [], 0⟩, ⟨t2, i2, [], 0⟩] scope pos) 0 it' acc env) R s')
      (notedBy (model prog w) A env fun x s' => R (.error x) s') s) :
    codeAny (model prog w) A (.compStart (.ListComp elt [⟨t1, i1, [], 0⟩, ⟨t2, i2, [], 0⟩] scope pos) 0 it acc env) R s := codeAny_compStart_list h0 h
/-- the inner loop -/
theorem compLoop_two1 {elt t1 i1 t2 i2 : Expr} {scope : Scope} {pos : Pos} {it acc : Value} (I : Nat → Shared → Prop)
    (turn : ∀ n s, I n s → wpAny (model prog w) A (pyNext it) (fun r s₁ => match r with
      | none => R (.ok .next) s₁
      | some v => wpAny (model prog w) A (assign t2 env v) (fun _ s₂ => wpAny (model prog w) A (eval elt env) (fun x s₄ =>
              wpAny (model prog w) A (call (.builtin "list.append") [acc, x]) (fun _ s₅ => ∃ m, m < n ∧ I m s₅) (notedBy (model prog w) A env fun e s' => R (.error e) s') s₄) (notedBy (model prog w) A env fun e s' => R (.error e) s') s₂) (notedBy (model prog w) A env fun e s' => R (.error e) s') s₁) (notedBy (model prog w) A env fun e s' => R (.error e) s') s)
    (n : Nat) (h : I n s) (ht : ∀ v, letOwnedTupleGo t2 it v = pure () := by intro _; rfl) :
    codeAny (model prog w) A (.compLoop (.ListComp elt [⟨t1, i1, [], 0⟩, ⟨t2, i2, [], 0⟩] scope pos) 1 it acc env) R s := by
  refine codeAny_loop rfl I (fun n s hI => ?_) n h
  show wpAny _ A ((compTurn (.ListComp elt [⟨t1, i1, [], 0⟩, ⟨t2, i2, [], 0⟩] scope pos) 1 it acc env).onRaise (fun x => do noteFrame x env; theTreesLotGoes x)) _ _ s
  refine wpAny_noted ?_
  rw [compTurn_two1]
  refine wpAny_bind (wpAny_standAt (wpAny_bind (wpAny_mono (turn n s hI) (fun r s₁ h₁ => ?_) fun _ _ h' => h')))
  cases r with
  | none => exact wpAny_pure h₁
  | some v =>
    refine wpAny_bind (wpAny_of_eq (ht v) ?_)
    exact wpAny_bind (wpAny_mono h₁ (fun _ s₃ h₃ => wpAny_bind (wpAny_bind (wpAny_mono h₃ (fun x s₄ h₄ => wpAny_bind (wpAny_mono h₄ (fun _ s₅ h₅ => wpAny_pure (wpAny_pure ⟨rfl, h₅⟩)) fun _ _ h' => h')) fun _ _ h' => h'))) fun _ _ h' => h')
/-- the outer loop -/
theorem compLoop_two0 {elt t1 i1 t2 i2 : Expr} {scope : Scope} {pos : Pos} {it acc : Value} (I : Nat → Shared → Prop)
    (turn : ∀ n s, I n s → wpAny (model prog w) A (pyNext it) (fun r s₁ => match r with
      | none => R (.ok .next) s₁
      | some v => wpAny (model prog w) A (assign t1 env v) (fun _ s₂ => wpAny (model prog w) A (eval i2 env) (fun x s₄ =>
              wpAny (model prog w) A (pyIter x) (fun it2 s₅ => codeAny (model prog w) (A.mark none) (.compStart (.ListComp elt [⟨t1, i1, [], 0⟩, ⟨t2, i2, [], 0⟩] scope pos) 1 it2 acc env) (fun r s' => match r with | .ok _ => ∃ m, m < n ∧ I m s' | .error e => cameBackBy (model prog w) A env (notedBy (model prog w) A env fun e s' => R (.error e) s') e s') s₅) (notedBy (model prog w) A env fun e s' => R (.error e) s') s₄) (notedBy (model prog w) A env fun e s' => R (.error e) s') s₂) (notedBy (model prog w) A env fun e s' => R (.error e) s') s₁) (notedBy (model prog w) A env fun e s' => R (.error e) s') s)
    (n : Nat) (h : I n s) (ht : ∀ v, letOwnedTupleGo t1 it v = pure () := by intro _; rfl) (hs : ∀ x, foldedSetIterable i2 env x = pure x := by intro _; rfl) :
    codeAny (model prog w) A (.compLoop (.ListComp elt [⟨t1, i1, [], 0⟩, ⟨t2, i2, [], 0⟩] scope pos) 0 it acc env) R s := by
  refine codeAny_loop rfl I (fun n s hI => ?_) n h
  show wpAny _ A ((compTurn (.ListComp elt [⟨t1, i1, [], 0⟩, ⟨t2, i2, [], 0⟩] scope pos) 0 it acc env).onRaise (fun x => do noteFrame x env; theTreesLotGoes x)) _ _ s
  refine wpAny_noted ?_
  rw [compTurn_two0]
  refine wpAny_bind (wpAny_standAt (wpAny_bind (wpAny_mono (turn n s hI) (fun r s₁ h₁ => ?_) fun _ _ h' => h')))
  cases r with
  | none => exact wpAny_pure h₁
  | some v =>
    refine wpAny_bind (wpAny_of_eq (ht v) ?_)
    refine wpAny_bind (wpAny_mono h₁ (fun _ s₃ h₃ => wpAny_bind (wpAny_mono h₃ (fun x s₄ h₄ => ?_) fun _ _ h' => h')) fun _ _ h' => h')
    refine wpAny_bind (wpAny_standAt (wpAny_bind (wpAny_of_eq (hs x) (wpAny_bind (wpAny_holding (wpAny_mono h₄ (fun it2 s₅ h₅ => ?_) fun _ _ h' => h'))))))
    refine wpAny_bind (wpAny_runOwn (codeAny_mono h₅ (fun r s₆ h₆ => ?_)))
    cases r with
    | ok f => exact wpAny_pure ⟨rfl, h₆⟩
    | error e => exact h₆
inductive TwoJ (h₀ : Heap) (L I C D lr : Addr) (m : Str → Option Value) (ts : List Tu) (news : List (Addr × Obj)) (s₂ : Shared) (k : Nat) (s' : Shared) : Prop
  | mk (h' : Heap) (tk i : Nat) (m' : Str → Option Value) (e : s' = { s₂ with heap := h', toks := tk }) (hi : i ≤ ts.length) (hk : k = ts.length + 1 - i) (hit : h'.IsListIter I lr i) (F : Fr h₀ L h' m) (hn : h'.Ns C m') (N : News h₀ L h' ((D, LCg.lst ((ts.take i).flatMap (·.us))) :: news))
inductive TwoK (h₀ : Heap) (L I I2 C D lr : Addr) (m : Str → Option Value) (ts : List Tu) (t : Tu) (i : Nat) (news : List (Addr × Obj)) (s₂ : Shared) (k : Nat) (s' : Shared) : Prop
  | mk (h' : Heap) (tk j : Nat) (m' : Str → Option Value) (e : s' = { s₂ with heap := h', toks := tk }) (hj : j ≤ t.us.length) (hk : k = t.us.length + 1 - j) (hit : h'.IsTupleIter I2 t.D j) (hit2 : h'.IsListIter I lr (i + 1)) (F : Fr h₀ L h' m) (hn : h'.Ns C m') (N : News h₀ L h' ((D, LCg.lst ((ts.take i).flatMap (·.us) ++ t.us.take j)) :: news))
open LCg in
theorem block_two {x y : Str} {iter : Expr} {px py px2 py2 : Pos} {scope : Scope} {cl : List (Str × Addr)} {pos : Pos} {s₂ : Shared} {I lr : Addr} {nr : Nat} {ts : List Tu} {news : List (Addr × Obj)} {RR : Value → Addr → Result → Shared → Prop}
    (hh : A.handled = none) (hlr : (lr, W.listOf (refsT ts).toArray nr) ∈ news) (hts : ∀ t ∈ ts, tupT t ∈ news) (hsz : ts.length ≤ sizeLine) (hsz2 : (ts.flatMap (·.us)).length ≤ sizeLine)
    (hcell : ∀ y ∈ scope.names, y.2 ≠ .cell) (hkind : scope.kind = .function) (hx : scope.names.lookup x = some .local) (hy : scope.names.lookup y = some .local)
    (hdx : (x == ("__debug__" : Str)) = false) (hdy : (y == ("__debug__" : Str)) = false)
    (hit : s₂.heap.IsListIter I lr 0) (F : Fr h₀ L s₂.heap m) (N : News h₀ L s₂.heap news) (hIL : L ≠ I) (hI₀ : h₀.get? I = none) (off : ∀ p ∈ news, p.1 ≠ I)
    (hRR : ∀ D C h tk m', Fr h₀ L h m → News h₀ L h ((D, lst (ts.flatMap (·.us))) :: news) → (∀ p ∈ news, p.1 ≠ D) → h.Ns C m' → h₀.get? C = none → h₀.get? D = none → C ≠ L → D ≠ L → C ≠ D → (∀ p ∈ news, p.1 ≠ C) → RR (.ref D) C (.ok .next) { s₂ with heap := h, toks := tk }) :
    wpAny (model prog w) A (newList []) (fun acc s₃ => wpAny (model prog w) A (newFunctionEnv scope env.globals cl [] env.qual none .none (some env)) (fun cenv s₄ =>
      codeAny (model prog w) A (.compStart (.ListComp (.Name y py) [⟨.Name x px, iter, [], 0⟩, ⟨.Name y py2, .Name x px2, [], 0⟩] scope pos) 0 (.ref I) acc { cenv with scope := relabel scope env }) (RR acc cenv.locals) s₄) E s₃) E s₂ := by
  refine wpAny_newObj_type (wpAny_newFunctionEnv hcell (by intro y hy; simp at hy) (fun h₁ hns₁ hsb₁ => ?_) hkind)
  dsimp only at hns₁ hsb₁ ⊢
  generalize hH2 : s₂.heap.push { cls := .type "list", dict := none, data := .seq ([] : List Value).toArray } = H2 at hns₁ hsb₁ ⊢
  have hC : H2.objs.size = s₂.heap.objs.size + 1 := by rw [← hH2, Heap.size_push]
  have hDC : s₂.heap.objs.size ≠ H2.objs.size := by rw [hC]; exact Nat.ne_of_lt (Nat.lt_succ_self _)
  have below : ∀ b, b < s₂.heap.objs.size → b ≠ H2.objs.size ∧ b ≠ s₂.heap.objs.size := fun b hb => ⟨by rw [hC]; exact Nat.ne_of_lt (Nat.lt_succ_of_lt hb), Nat.ne_of_lt hb⟩
  have hIlt : I < s₂.heap.objs.size := by obtain ⟨_, e, _⟩ := hit; exact Heap.lt_size e
  have old : ∀ b o, s₂.heap.get? b = some o → h₁.get? b = some o := fun b o e => hsb₁.extBut b o (below b (Heap.lt_size e)).1 (Heap.get?_push_of_some _ (hH2 ▸ Heap.get?_push_of_some _ e))
  have hacc : h₁.get? s₂.heap.objs.size = some (lst []) := hsb₁.extBut _ _ hDC (Heap.get?_push_of_some _ (hH2 ▸ Heap.get?_push_size _ rfl))
  have fresh : ∀ a, s₂.heap.objs.size ≤ a → s₂.heap.get? a = none := fun a ha => by
    cases e : s₂.heap.get? a with
    | none => rfl
    | some o' => exact absurd (Heap.lt_size e) (Nat.not_lt.mpr ha)
  have fresh₀ : ∀ a, s₂.heap.objs.size ≤ a → h₀.get? a = none := fun a ha => by
    cases e : h₀.get? a with
    | none => rfl
    | some o' => have := F.keep a o' e; rw [fresh a ha] at this; cases this
  have hD₀ : h₀.get? s₂.heap.objs.size = none := fresh₀ _ (Nat.le_refl _)
  have hC₀ : h₀.get? H2.objs.size = none := fresh₀ _ (by rw [hC]; exact Nat.le_succ _)
  have hLlt : L < s₂.heap.objs.size := F.ns.lt
  have hDL : s₂.heap.objs.size ≠ L := Ne.symm (below L hLlt).2
  have hCL : H2.objs.size ≠ L := Ne.symm (below L hLlt).1
  have hCI : I ≠ H2.objs.size := (below I hIlt).1
  have hDI : I ≠ s₂.heap.objs.size := (below I hIlt).2
  have noff : ∀ p ∈ news, p.1 ≠ I ∧ p.1 ≠ H2.objs.size ∧ p.1 ≠ s₂.heap.objs.size := fun p hp => ⟨off p hp, (below _ (Heap.lt_size (N p hp).1)).1, (below _ (Heap.lt_size (N p hp).1)).2⟩
  have hlrI : lr ≠ I := off _ hlr
  have lrL : ∀ h : Heap, h.get? lr = some (W.listOf (refsT ts).toArray nr) → h.IsList lr (refsT ts).toArray := fun h e => ⟨_, e, rfl, nr, rfl⟩
  have hn : (refsT ts).toArray.size = ts.length := by simp [refsT]
  have W := Walks.list (prog := prog) (w := w) (A := A) hh I lr hlrI (refsT ts).toArray
  have hDs : H2.objs.size ≤ h₁.objs.size := by
    have := Heap.lt_size (hns₁.choose_spec.choose_spec.choose_spec.1)
    exact Nat.le_of_lt this
  generalize hCC : H2.objs.size = C at *
  generalize hDD : s₂.heap.objs.size = D at *
  have loop : ∀ s₃ : Shared, s₃ = { s₂ with heap := h₁, toks := s₂.toks + ([] : List (Str × Value)).length } →
      codeAny (model prog w) A (.compLoop (.ListComp (.Name y py) [⟨.Name x px, iter, [], 0⟩, ⟨.Name y py2, .Name x px2, [], 0⟩] scope pos) 0 (.ref I) (.ref D) (compEnvC scope cl C env))
        (RR (.ref D) C) s₃ := by
    rintro s₃ rfl
    refine compLoop_two0
      (fun k s' => TwoJ h₀ L I C D lr m ts news s₂ k s') ?_ (ts.length + 1)
      ⟨h₁, _, 0, _, rfl, Nat.zero_le _, rfl, hit.at fun o e => old _ _ e, F.keeps old, hns₁, fun p hp => ?_⟩
    · intro k s' hZ0
      refine byProp fun Pz hPz => ?_
      obtain ⟨h', tk, i, m', rfl, hi, rfl, hit', F', hn', N'⟩ := hZ0
      have Nl : h'.IsList lr (refsT ts).toArray := lrL _ (N' _ (.tail _ hlr)).1
      refine hPz ?_
      clear hPz Pz
      by_cases hlt : i < ts.length
      · refine W.item i _ _ _ (by rw [hn]; exact hlt) ⟨hit', Nl⟩ fun v h₂ tk₂ hPv hst₂ hk₂ => ?_
        obtain ⟨t, ht⟩ : ∃ t, ts[i]? = some t := ⟨_, List.getElem?_eq_getElem hlt⟩
        obtain rfl : v = .ref t.D := by
          simp [refsT, ht] at hPv
          exact hPv.symm
        have htn := hts t (List.mem_of_getElem? ht)
        refine wpAny_assign_Name (wpAny_storeName_local (lookup_relabel_local hx) (hn'.at' fun o e => hk₂ _ o (by simpa using Ne.symm hCI) e) (fun h₃ hn₃ hs₃ => ?_) (by simp [compEnvC, relabel, hkind]))
        refine wpAny_Name (wpAny_loadName_local (v := .ref t.D) (m := fun z => if z = x then some (.ref t.D) else m' z) hkind (lookup_relabel_local hx) hn₃ (if_pos rfl) ?_) hdx
        have F₃ : Fr h₀ L h₃ m := (LCg.fr_but F' hk₂ hIL hI₀).change hs₃ hCL hC₀
        have N₂ : News h₀ L h₂ ((D, lst ((ts.take i).flatMap (·.us))) :: news) := LCg.news_but N' hk₂ fun p hp => by
          rcases List.mem_cons.mp hp with rfl | hp
          · exact Ne.symm hDI
          · exact (noff p hp).1
        have N₃ : News h₀ L h₃ ((D, lst ((ts.take i).flatMap (·.us))) :: news) := fun p hp => by
          have z := N₂ p hp
          refine ⟨hs₃.extBut _ _ ?_ z.1, z.2⟩
          rcases List.mem_cons.mp hp with rfl | hp
          · exact hDC
          · exact (noff p hp).2.1
        have hit₃ : h₃.IsListIter I lr (i + 1) := hst₂.1.at fun o e => hs₃.extBut _ _ hCI e
        have tupI : ∀ h : Heap, h.get? t.D = some (tupO t.us) → h.IsTuple t.D t.us.toArray := fun h e => ⟨_, e, rfl, _, rfl⟩
        refine wpAny_pyIter_tuple (tupI _ (N₃ _ (.tail _ htn)).1) ?_
        dsimp only
        rw [Around.mark_none]
        generalize hH4 : h₃.push { cls := .type "tuple_iterator", data := .fields #[.ref t.D, .int 0 0] } = h₄
        have up4 : ∀ b o, h₃.get? b = some o → h₄.get? b = some o := fun b o e => hH4 ▸ Heap.get?_push_of_some _ e
        have hit4 : h₄.IsTupleIter h₃.objs.size t.D 0 := ⟨_, by rw [← hH4]; exact Heap.get?_push_size _ rfl, rfl, rfl⟩
        have lt3 : ∀ b o, h₃.get? b = some o → b ≠ h₃.objs.size := fun b o e => Nat.ne_of_lt (Heap.lt_size e)
        generalize hI2 : h₃.objs.size = I2 at *
        have d1 : D ≠ I2 := lt3 _ _ (N₃ _ (.head _)).1
        have d2 : ∀ p ∈ news, p.1 ≠ I2 := fun p hp => lt3 _ _ (N₃ _ (.tail _ hp)).1
        have d3 : C ≠ I2 := by obtain ⟨_, _, _, e, _⟩ := hn₃; exact lt3 _ _ e
        have d4 : I ≠ I2 := by obtain ⟨_, e, _⟩ := hit₃; exact lt3 _ _ e
        have d5 : L ≠ I2 := by obtain ⟨_, _, _, e, _⟩ := F₃.ns; exact lt3 _ _ e
        have hI2₀ : h₀.get? I2 = none := by
          cases e : h₀.get? I2 with
          | none => rfl
          | some o => exact absurd rfl (lt3 _ _ (F₃.keep _ _ e))
        have W2 := Walks.tuple (prog := prog) (w := w) (A := A) hh I2 t.D (d2 _ htn) t.us.toArray
        have inner : ∀ s₅ : Shared, s₅ = { s₂ with heap := h₄, toks := tk₂ + 1 } →
            codeAny (model prog w) A (.compLoop (.ListComp (.Name y py) [⟨.Name x px, iter, [], 0⟩, ⟨.Name y py2, .Name x px2, [], 0⟩] scope pos) 1 (.ref I2) (.ref D) (compEnvC scope cl C env))
              (fun r s' => match r with | .ok _ => ∃ m9, m9 < ts.length + 1 - i ∧ TwoJ h₀ L I C D lr m ts news s₂ m9 s' | .error e => cameBackBy (model prog w) A (compEnvC scope cl C env) (notedBy (model prog w) A (compEnvC scope cl C env) fun e s' => RR (.ref D) C (.error e) s') e s') s₅ := by
          rintro s₅ rfl
          refine compLoop_two1
            (fun k s' => TwoK h₀ L I I2 C D lr m ts t i news s₂ k s') ?_ (t.us.length + 1)
            ⟨h₄, _, 0, _, rfl, Nat.zero_le _, rfl, hit4, hit₃.at fun o e => up4 _ _ e, F₃.keeps up4, hn₃.at' fun o e => up4 _ _ e, fun p hp => ?_⟩
          · intro k s' hZ0
            refine byProp fun Pz hPz => ?_
            obtain ⟨h5, tk5, j, m5, rfl, hj, rfl, hit5, hit5', F5, hn5, N5⟩ := hZ0
            have T5 : h5.IsTuple t.D t.us.toArray := tupI _ (N5 _ (.tail _ htn)).1
            refine hPz ?_
            clear hPz Pz
            by_cases hjl : j < t.us.length
            · refine W2.item j _ _ _ (by simpa using hjl) ⟨hit5, T5⟩ fun v h6 tk6 hPv hst6 hk6 => ?_
              have hv : t.us[j]? = some v := by simpa using hPv
              refine wpAny_assign_Name (wpAny_storeName_local (lookup_relabel_local hy) (hn5.at' fun o e => hk6 _ o (by simpa using d3) e) (fun h7 hn7 hs7 => ?_) (by simp [compEnvC, relabel, hkind]))
              refine wpAny_Name (wpAny_loadName_local (v := v) (m := fun z => if z = y then some v else m5 z) hkind (lookup_relabel_local hy) hn7 (if_pos rfl) ?_) hdy
              have F7 : Fr h₀ L h7 m := (LCg.fr_but F5 hk6 d5 hI2₀).change hs7 hCL hC₀
              have N6 : News h₀ L h6 ((D, lst ((ts.take i).flatMap (·.us) ++ t.us.take j)) :: news) := LCg.news_but N5 hk6 fun p hp => by
                rcases List.mem_cons.mp hp with rfl | hp
                · exact d1
                · exact d2 p hp
              have N7 : News h₀ L h7 ((D, lst ((ts.take i).flatMap (·.us) ++ t.us.take j)) :: news) := fun p hp => by
                have z := N6 p hp
                refine ⟨hs7.extBut _ _ ?_ z.1, z.2⟩
                rcases List.mem_cons.mp hp with rfl | hp
                · exact hDC
                · exact (noff p hp).2.1
              have hyl : ((ts.take i).flatMap (·.us) ++ t.us.take j).length ≤ sizeLine := by
                refine Nat.le_trans ?_ hsz2
                have e1 : ts = ts.take i ++ t :: ts.drop (i + 1) := by
                  have e2 : t = ts[i] := by rw [List.getElem?_eq_getElem hlt] at ht; exact (Option.some.inj ht).symm
                  rw [e2, ← List.drop_eq_getElem_cons hlt, List.take_append_drop]
                conv => rhs; rw [e1]
                simp only [List.flatMap_append, List.flatMap_cons, List.length_append, List.length_take]
                omega
              refine append_at (hsz := by rw [List.size_toArray]; exact hyl) (N7 _ (.head _)).1 fun h8 hs8 hD8 => ?_
              refine ⟨t.us.length + 1 - (j + 1), by omega, h8, _, j + 1, _, rfl, hjl, rfl, ?_, ?_, F7.change hs8 hDL hD₀, hn7.sameBut hs8 (Ne.symm hDC), fun p hp => ?_⟩
              · exact (hst6.1.at fun o e => hs7.extBut _ _ (Ne.symm d3) e).at fun o e => hs8.extBut _ _ (Ne.symm d1) e
              · exact ((hit5'.at fun o e => hk6 _ _ (by simpa using d4) e).at fun o e => hs7.extBut _ _ hCI e).at fun o e => hs8.extBut _ _ hDI e
              · rcases List.mem_cons.mp hp with rfl | hp
                · refine ⟨hD8.trans ?_, hDL, hD₀⟩
                  rw [List.take_add_one, hv, ← List.append_assoc]
                  exact congrArg some (lst_snoc _ _)
                · exact ⟨hs8.extBut _ _ (noff p hp).2.2 (N7 _ (.tail _ hp)).1, (N7 _ (.tail _ hp)).2⟩
            · obtain rfl : j = t.us.length := Nat.le_antisymm hj (Nat.not_lt.mp hjl)
              refine W2.done _ _ _ (by simpa using ⟨hit5, T5⟩) fun h6 tk6 hk6 => ?_
              refine ⟨ts.length + 1 - (i + 1), by omega, h6, tk6, i + 1, m5, rfl, hlt, rfl, hit5'.at fun o e => hk6 _ _ (by simpa using d4) e, LCg.fr_but F5 hk6 d5 hI2₀, hn5.at' fun o e => hk6 _ o (by simpa using d3) e, ?_⟩
              rw [List.take_add_one, ht, List.flatMap_append]
              have N6 := LCg.news_but N5 hk6 fun p hp => by
                rcases List.mem_cons.mp hp with rfl | hp
                · exact d1
                · exact d2 p hp
              simpa using N6
          · have z := N₃ p (by simpa using hp)
            exact ⟨up4 _ _ z.1, z.2⟩
        exact compStart_two1 (inner _ rfl) (W2.self 0 _ _ _ ⟨hit4, tupI _ (up4 _ _ (N₃ _ (.tail _ htn)).1)⟩ (inner _ rfl))
      · obtain rfl : i = ts.length := Nat.le_antisymm hi (Nat.not_lt.mp hlt)
        refine W.done _ _ _ (by rw [hn]; exact ⟨hit', Nl⟩) fun h₂ tk₂ hk₂ => ?_
        rw [List.take_length] at N'
        exact hRR _ _ h₂ tk₂ _ (LCg.fr_but F' hk₂ hIL hI₀) (LCg.news_but N' hk₂ fun p hp => by
          rcases List.mem_cons.mp hp with rfl | hp
          · exact Ne.symm hDI
          · exact (noff p hp).1) (fun p hp => (noff p hp).2.2) (hn'.at' fun o e => hk₂ _ o (by simpa using Ne.symm hCI) e) hC₀ hD₀ hCL hDL (Ne.symm hDC) (fun p hp => (noff p hp).2.1)
    · rcases List.mem_cons.mp hp with rfl | hp
      · exact ⟨hacc, hDL, hD₀⟩
      · exact ⟨old _ _ (N p hp).1, (N p hp).2⟩
  exact codeAny_compStart_list (loop _ rfl) (W.self 0 _ _ _ ⟨hit.at fun o e => old _ _ e, lrL _ (old _ _ (N _ hlr).1)⟩ (loop _ rfl))
theorem ListComp_two {x y : Str} {iter : Expr} {px py px2 py2 : Pos} {scope : Scope} {cl : List (Str × Addr)} {pos : Pos} {Q : Value → Shared → Prop} (_F₀ : Fr h₀ L s.heap m)
    (hh : A.handled = none) (hclos : closureFor scope env = pure cl) (hcell : ∀ y ∈ scope.names, y.2 ≠ .cell) (hkind : scope.kind = .function)
    (hnames : ∀ y ∈ scope.names, y.2 = .local → scope.names.lookup y.1 = some .local) (hx : scope.names.lookup x = some .local) (hy : scope.names.lookup y = some .local)
    (hdx : (x == ("__debug__" : Str)) = false) (hdy : (y == ("__debug__" : Str)) = false)
    (h : wpAny (model prog w) A (eval iter env) (fun xv s₁ => Hold (∃ (lr : Addr) (nr : Nat) (ts : List Tu) (news : List (Addr × Obj)), xv = .ref lr ∧ (lr, W.listOf (refsT ts).toArray nr) ∈ news ∧ (∀ t ∈ ts, tupT t ∈ news) ∧ ts.length ≤ sizeLine ∧ (ts.flatMap (·.us)).length ≤ sizeLine ∧ Fr h₀ L s₁.heap m ∧ News h₀ L s₁.heap news ∧
      ∀ D h tk, Fr h₀ L h m → News h₀ L h ((D, LCg.lst (ts.flatMap (·.us))) :: news) → (∀ p ∈ news, p.1 ≠ D) → Q (.ref D) { s₁ with heap := h, toks := tk })) E s)
    (hs : ∀ x, foldedSetIterable iter env x = pure x := by intro _; rfl) :
    wpAny (model prog w) A (eval (.ListComp (.Name y py) [⟨.Name x px, iter, [], 0⟩, ⟨.Name y py2, .Name x px2, [], 0⟩] scope pos) env) Q E s := by
  rw [eval_ListComp]
  refine wpAny_comprehension_free (use := none) rfl hs hclos hkind hnames (wpAny_mono h (fun xv s₁ h₁ => ?_) fun _ _ e => e)
  refine byProp fun Pz hPz => ?_
  obtain ⟨lr, nr, ts, news, rfl, hlr, hts, hsz, hsz2, F, N, done⟩ := h₁
  have hl : s₁.heap.IsList lr (refsT ts).toArray := ⟨_, (N _ hlr).1, rfl, nr, rfl⟩
  refine hPz ?_
  clear hPz Pz
  refine wpAny_pyIter_list hl ?_
  refine block_two hh hlr hts hsz hsz2 hcell hkind hx hy hdx hdy ⟨_, Heap.get?_push_size _ rfl, rfl, rfl⟩ (F.push _) (fun p hp => ⟨Heap.get?_push_of_some _ (N p hp).1, (N p hp).2⟩) (Nat.ne_of_lt F.ns.lt) (next_is_new F) (fun p hp => Nat.ne_of_lt (Heap.lt_size (N p hp).1)) ?_
  intro D C h tk m' F' N' o1 hn hC₀ hD₀ hCL hDL hCD offC
  refine ⟨m', hn, fun h'' hs'' => done D h'' tk (F'.change hs'' hCL hC₀) (fun p hp => ?_) o1⟩
  refine ⟨hs''.extBut _ _ ?_ (N' p hp).1, (N' p hp).2⟩
  rcases List.mem_cons.mp hp with rfl | hp
  · exact Ne.symm hCD
  · exact offC p hp
theorem Assign_ListComp_two {x y z : Str} {iter : Expr} {px py px2 py2 pz : Pos} {scope : Scope} {cl : List (Str × Addr)} {pos spos : Pos} {Q : Flow → Shared → Prop} (_F₀ : Fr h₀ L s.heap m) (hLe : env.locals = L)
    (hsw : swapsWith (.ListComp (.Name y py) [⟨.Name x px, iter, [], 0⟩, ⟨.Name y py2, .Name x px2, [], 0⟩] scope pos) (some (.Name z pz)) spos.line env = pure true)
    (hh : A.handled = none) (hclos : closureFor scope env = pure cl) (hcell : ∀ y ∈ scope.names, y.2 ≠ .cell) (hkind : scope.kind = .function)
    (hnames : ∀ y ∈ scope.names, y.2 = .local → scope.names.lookup y.1 = some .local) (hx : scope.names.lookup x = some .local) (hy : scope.names.lookup y = some .local)
    (hdx : (x == ("__debug__" : Str)) = false) (hdy : (y == ("__debug__" : Str)) = false)
    (hz : env.kindOf z = some .local) (hp : (env.scope.kind == .class || (env.scope.kind == .module && env.locals != env.globals)) = false)
    (h : wpAny (model prog w) A (eval iter env) (fun xv s₁ => Hold (∃ (lr : Addr) (nr : Nat) (ts : List Tu) (news : List (Addr × Obj)), xv = .ref lr ∧ (lr, W.listOf (refsT ts).toArray nr) ∈ news ∧ (∀ t ∈ ts, tupT t ∈ news) ∧ ts.length ≤ sizeLine ∧ (ts.flatMap (·.us)).length ≤ sizeLine ∧ Fr h₀ L s₁.heap m ∧ News h₀ L s₁.heap news ∧
      ∀ D h tk, Fr h₀ L h (fun y => if y = z then some (.ref D) else m y) → News h₀ L h ((D, LCg.lst (ts.flatMap (·.us))) :: news) → (∀ p ∈ news, p.1 ≠ D) → Q .next { s₁ with heap := h, toks := tk })) E s)
    (hs : ∀ x, foldedSetIterable iter env x = pure x := by intro _; rfl) :
    wpAny (model prog w) A (exec (.Assign [.Name z pz] (.ListComp (.Name y py) [⟨.Name x px, iter, [], 0⟩, ⟨.Name y py2, .Name x px2, [], 0⟩] scope pos) spos) env) Q E s := by
  subst hLe
  rw [exec_Assign_Name_used _ _ _ _ hsw]
  refine wpAny_bind (wpAny_standAt (wpAny_bind ?_))
  show wpAny _ A (do let _ ← comprehension (.ListComp (.Name y py) [⟨.Name x px, iter, [], 0⟩, ⟨.Name y py2, .Name x px2, [], 0⟩] scope pos) scope env _ (newList []) false (eval iter env) (some (assign (.Name z pz) env))) _ _ s
  refine wpAny_bind (wpAny_mono (wpAny_comprehension_free (use := some (assign (.Name z pz) env)) (Q := fun _ s' => Q .next s') rfl hs hclos hkind hnames
    (wpAny_mono h (fun xv s₁ h₁ => ?_) fun _ _ e => e)) (fun _ s' hq => wpAny_pure (wpAny_pure hq)) fun _ _ e => e)
  refine byProp fun Pz hPz => ?_
  obtain ⟨lr, nr, ts, news, rfl, hlr, hts, hsz, hsz2, F, N, done⟩ := h₁
  have hl : s₁.heap.IsList lr (refsT ts).toArray := ⟨_, (N _ hlr).1, rfl, nr, rfl⟩
  refine hPz ?_
  clear hPz Pz
  refine wpAny_pyIter_list hl ?_
  refine block_two hh hlr hts hsz hsz2 hcell hkind hx hy hdx hdy ⟨_, Heap.get?_push_size _ rfl, rfl, rfl⟩ (F.push _) (fun p hp => ⟨Heap.get?_push_of_some _ (N p hp).1, (N p hp).2⟩) (Nat.ne_of_lt F.ns.lt) (next_is_new F) (fun p hp => Nat.ne_of_lt (Heap.lt_size (N p hp).1)) ?_
  intro D C h' tk m' F' N' o1 hn hC₀ hD₀ hCL hDL hCD offC
  show wpAny _ A (assign (.Name z pz) env (.ref D)) _ _ _
  refine wpAny_assign_Name (wpAny_storeName_local hz F'.ns (fun h₂ hn₂ hs₂ => ?_) hp)
  have hL₀ : h₀.get? env.locals = none := Heap.get?_none_of_le F'.above
  have F₂ : Fr h₀ env.locals h₂ (fun y => if y = z then some (.ref D) else m y) := ⟨hn₂, fun b o e => hs₂.extBut b o (fun q => by rw [q, hL₀] at e; cases e) (F'.keep b o e), F'.above⟩
  refine ⟨m', hn.sameBut hs₂ hCL, fun h'' hs'' => done D h'' _ (F₂.change hs'' hCL hC₀) (fun p hp => ?_) o1⟩
  have z : h₂.get? p.1 = some p.2 := hs₂.extBut _ _ (N' p hp).2.1 (N' p hp).1
  refine ⟨hs''.extBut _ _ ?_ z, (N' p hp).2⟩
  rcases List.mem_cons.mp hp with rfl | hp
  · exact Ne.symm hCD
  · exact offC p hp
/-- the source of such a comprehension, and its turns -/
inductive SrcCA (prog : Program) (w : World) (A : Around) (h₀ : Heap) (L : Addr) (m : Str → Option Value) (env : Env) (ifs : List Expr) (elt : Expr) (x : Str) (scope : Scope) (cl : List (Str × Addr)) (z : Str) (Q : Flow → Shared → Prop) (it : Value) (s₂ : Shared) : Prop
  | mk (I : Addr) (fp : List Addr) (n : Nat) (P : Nat → Value → Prop) (St : Nat → Heap → Prop) (S : List (Addr × Obj) → Prop) (news : List (Addr × Obj)) (J : Nat → List Value → List (Addr × Obj) → Prop) (f1 : it = .ref I) (f2 : Walks prog w A I fp [I] n P St) (f3 : n ≤ sizeLine) (f4 : (∀ i h, St i h → ∃ o, h.get? I = some o)) (f5 : (∀ i h h' o nw, St i h → h.get? I = some o → h'.get? I = some o → (∀ b o, h₀.get? b = some o → h'.get? b = some o) → News h₀ L h' nw → S nw → St i h')) (f6 : St 0 s₂.heap) (f7 : (∀ b ∈ fp, b < s₂.heap.objs.size)) (f8 : Fr h₀ L s₂.heap m) (f9 : News h₀ L s₂.heap news) (f10 : L ≠ I) (f11 : h₀.get? I = none) (f12 : (∀ p ∈ news, p.1 ≠ I)) (f13 : S news) (f14 : J 0 [] news) (f15 : (∀ i ys news v oI C oC c oc D m₂ h tk (E' : Value → Shared → Prop), i < n → J i ys news → P i v → LCg.NsObj oC m₂ → oc.data = .cell (some v) → Fr h₀ L h m → News h₀ L h ((I, oI) :: (C, oC) :: (c, oc) :: (D, LCg.lst ys) :: news) → (∀ p ∈ news, p.1 ≠ I ∧ p.1 ≠ C ∧ p.1 ≠ c ∧ p.1 ≠ D) → (I ≠ C ∧ I ≠ c ∧ I ≠ D ∧ C ≠ c ∧ C ≠ D ∧ c ≠ D) → s₂.heap.objs.size ≤ D → wpAny (model prog w) A (forIn ifs true fun e r => if r = true then do let ok ← PySem.isTrue e (compEnvC scope ((x, c) :: cl) C env) (eval e (compEnvC scope ((x, c) :: cl) C env)); pure (ForInStep.yield ok) else pure (ForInStep.yield r)) (fun ok s' => if ok = true then wpAny (model prog w) A (eval elt (compEnvC scope ((x, c) :: cl) C env)) (CompEndC h₀ L m { s₂ with heap := h, toks := tk } I oI C oC c oc D (LCg.lst ys) S (fun y news' => J (i + 1) (ys ++ [y]) news')) E' s' else CompEndC h₀ L m { s₂ with heap := h, toks := tk } I oI C oC c oc D (LCg.lst ys) S (fun _ news' => J (i + 1) ys news') Value.none s') E' { s₂ with heap := h, toks := tk })) (f16 : (∀ ys news D h tk, J n ys news → Fr h₀ L h (fun y => if y = z then some (.ref D) else m y) → News h₀ L h ((D, LCg.lst ys) :: news) → (∀ p ∈ news, p.1 ≠ D) → Q .next { s₂ with heap := h, toks := tk }))
theorem Assign_ListComp_C {ifs : List Expr} {elt iter : Expr} {x z : Str} {px pz : Pos} {scope : Scope} {cl : List (Str × Addr)} {pos spos : Pos} {Q : Flow → Shared → Prop} (_F₀ : Fr h₀ L s.heap m) (hLe : env.locals = L)
    (hsw : swapsWith (.ListComp elt [⟨.Name x px, iter, ifs, 0⟩] scope pos) (some (.Name z pz)) spos.line env = pure true)
    (hclos : closureFor scope env = pure cl) (hcf : ∀ N, cellsFrom N scope.names cl = (x, N) :: cl) (hpc : ∀ h, pushCells h scope.names = h.push cell0) (hkind : scope.kind = .function)
    (hnames : ∀ y ∈ scope.names, y.2 = .local → scope.names.lookup y.1 = some .local) (hx : (relabel scope env).names.lookup x = some .cell)
    (hz : env.kindOf z = some .local) (hp : (env.scope.kind == .class || (env.scope.kind == .module && env.locals != env.globals)) = false)
    (h : wpAny (model prog w) A (eval iter env) (fun xv s₁ => Hold (wpAny (model prog w) A (pyIter xv) (SrcCA prog w A h₀ L m env ifs elt x scope cl z Q) E s₁)) E s)
    (hs : ∀ x, foldedSetIterable iter env x = pure x := by intro _; rfl) :
    wpAny (model prog w) A (exec (.Assign [.Name z pz] (.ListComp elt [⟨.Name x px, iter, ifs, 0⟩] scope pos) spos) env) Q E s := by
  subst hLe
  rw [exec_Assign_Name_used _ _ _ _ hsw]
  refine wpAny_bind (wpAny_standAt (wpAny_bind ?_))
  show wpAny _ A (do let _ ← comprehension (.ListComp elt [⟨.Name x px, iter, ifs, 0⟩] scope pos) scope env _ (newList []) false (eval iter env) (some (assign (.Name z pz) env))) _ _ s
  refine wpAny_bind (wpAny_mono (wpAny_comprehension_free (use := some (assign (.Name z pz) env)) (Q := fun _ s' => Q .next s') rfl hs hclos hkind hnames
    (wpAny_mono h (fun xv s₁ h₁ => wpAny_mono h₁ (fun it s₂ h₂ => ?_) fun _ _ e => e) fun _ _ e => e)) (fun _ s' hq => wpAny_pure (wpAny_pure hq)) fun _ _ e => e)
  refine byProp fun Pz hPz => ?_
  obtain ⟨I, fp, n, P, St, S, news, J, rfl, W, hsz, hlive, hSt, hst, hfp, F, N, hLI, hI0, hoff, hS, hJ, step, done⟩ := h₂
  refine hPz ?_
  clear hPz Pz
  refine block_C J W hsz hlive hSt hcf hpc hkind hx hst hfp F N hLI hI0 hoff hS hJ step ?_
  intro D C h tk m' ys news' F' N' o1 hn hC₀ hD₀ hCL hDL hCD offC hJ'
  show wpAny _ A (assign (.Name z pz) env (.ref D)) _ _ _
  refine wpAny_assign_Name (wpAny_storeName_local hz F'.ns (fun h₂ hn₂ hs₂ => ?_) hp)
  have hL₀ : h₀.get? env.locals = none := Heap.get?_none_of_le F'.above
  have F₂ : Fr h₀ env.locals h₂ (fun y => if y = z then some (.ref D) else m y) := ⟨hn₂, fun b o e => hs₂.extBut b o (fun q => by rw [q, hL₀] at e; cases e) (F'.keep b o e), F'.above⟩
  refine ⟨m', hn.sameBut hs₂ hCL, fun h'' hs'' => done ys news' D h'' _ hJ' (F₂.change hs'' hCL hC₀) (fun p hp => ?_) o1⟩
  have z : h₂.get? p.1 = some p.2 := hs₂.extBut _ _ (N' p hp).2.1 (N' p hp).1
  refine ⟨hs''.extBut _ _ ?_ z, (N' p hp).2⟩
  rcases List.mem_cons.mp hp with rfl | hp
  · exact Ne.symm hCD
  · exact offC p hp
/-- over a range -/
theorem srcRangeCA {ifs : List Expr} {elt : Expr} {x : Str} {scope : Scope} {cl : List (Str × Addr)} {z : Str} {Q : Flow → Shared → Prop} {r : Addr} {b : Int} {t u v : Tok} {n : Nat} {news : List (Addr × Obj)} (J : Nat → List Value → List (Addr × Obj) → Prop)
    (hh : A.handled = none) (F : Fr h₀ L s.heap m) (N : News h₀ L s.heap news) (hr : IsRange s.heap r 0 b 1 t u v) (hsm : Builtin.Range.small 0 b 1 = true) (hn : Builtin.Range.rangeSize 0 b 1 = ((n : Nat) : Int)) (hsz : n ≤ sizeLine) (hJ : J 0 [] news)
    (step : ∀ I i ys news t' oI C oC c oc D m₂ h tk s₂ (E' : Value → Shared → Prop), (∃ h', s₂ = { s with heap := h' }) → i < n → J i ys news → LCg.NsObj oC m₂ → oc.data = .cell (some (.int (i : Int) t')) → Fr h₀ L h m → News h₀ L h ((I, oI) :: (C, oC) :: (c, oc) :: (D, LCg.lst ys) :: news) → (∀ p ∈ news, p.1 ≠ I ∧ p.1 ≠ C ∧ p.1 ≠ c ∧ p.1 ≠ D) → (I ≠ C ∧ I ≠ c ∧ I ≠ D ∧ C ≠ c ∧ C ≠ D ∧ c ≠ D) → s.heap.objs.size ≤ I →
      wpAny (model prog w) A (forIn ifs true fun e r => if r = true then do let ok ← PySem.isTrue e (compEnvC scope ((x, c) :: cl) C env) (eval e (compEnvC scope ((x, c) :: cl) C env)); pure (ForInStep.yield ok) else pure (ForInStep.yield r)) (fun ok s' => if ok = true then
        wpAny (model prog w) A (eval elt (compEnvC scope ((x, c) :: cl) C env)) (CompEndC h₀ L m { s₂ with heap := h, toks := tk } I oI C oC c oc D (LCg.lst ys) (fun _ => True) (fun y news' => J (i + 1) (ys ++ [y]) news')) E' s'
        else CompEndC h₀ L m { s₂ with heap := h, toks := tk } I oI C oC c oc D (LCg.lst ys) (fun _ => True) (fun _ news' => J (i + 1) ys news') Value.none s') E' { s₂ with heap := h, toks := tk })
    (done : ∀ ys news D h tk, J n ys news → Fr h₀ L h (fun y => if y = z then some (.ref D) else m y) → News h₀ L h ((D, LCg.lst ys) :: news) → (∀ p ∈ news, p.1 ≠ D) → Q .next { s with heap := h, toks := tk }) :
    wpAny (model prog w) A (pyIter (.ref r)) (SrcCA prog w A h₀ L m env ifs elt x scope cl z Q) E s := by
  refine wpAny_pyIter_range hr hsm ?_
  refine ⟨s.heap.objs.size, _, n, _, _, fun _ => True, news, J, rfl, LCg.range_walks hh 0 n, hsz, fun i h st => ⟨_, st⟩, LCg.range_st, (by show IsRangeIter _ _ _ _ _; rw [hn]; simpa using Heap.get?_push_size _ rfl), fun bb hb => ?_, F.push _, fun p hp => ⟨Heap.get?_push_of_some _ (N p hp).1, (N p hp).2⟩, Nat.ne_of_lt F.ns.lt, next_is_new F, fun p hp => Nat.ne_of_lt (Heap.lt_size (N p hp).1), trivial, hJ, ?_, ?_⟩
  · rw [List.mem_singleton.mp hb]
    show s.heap.objs.size < (s.heap.push _).objs.size
    rw [Heap.size_push]; exact Nat.lt_succ_self _
  · intro i ys news v oI C oC c oc D m₂ h tk E' hi hJ hP hC hc F N off ne _
    obtain ⟨t', rfl⟩ := hP
    rw [Int.zero_add] at hc
    exact step _ i ys news t' oI C oC c oc D m₂ h tk _ E' ⟨_, rfl⟩ hi hJ hC hc F N off ne (Nat.le_refl _)
  · intro ys news D h tk hJ F N off
    exact done ys news D h tk hJ F N off
end
end -- MCd
example : True := by first | (w_top off; walk1) | trivial
section -- MV
open TI (Frs SameUp)
section
variable {w : World} {dp un : Nat} {l : List Env} {gd : Option (List Code)} {h₀ : Heap} {s : Shared}
local macro_rules | `(tactic| walk_at "noteFrame ref") => `(tactic| (k_here; (rename Noting => mK); (rename Heap.NewExc _ _ _ _ => xX); k_dflt (refine noted_x (new := [_, _, _, _]) rfl (by assumption) xX (by k_asm) (by k_asm) ⟨by assumption, by assumption, by assumption, by assumption, trivial⟩ ?_); clear xX; intro h' frs' su' fs' ttN; (try simp only [List.cons_append, List.nil_append] at ttN)))
theorem upTo_get {i n : Nat} (h : i < n) : (upTo n)[i]? = some (i : Int) := by simp [upTo, h]
theorem upTo_drop_ge {i n : Nat} : ∀ a ∈ (upTo n).drop i, (i : Int) ≤ a := by
  intro a ha
  obtain ⟨j, hj, rfl⟩ := List.mem_iff_getElem.mp ha
  simp [upTo]
  omega
theorem upTo_split {i n : Nat} (h : i ≤ n) : upTo n = upTo i ++ (upTo n).drop i := by
  have : upTo i = (upTo n).take i := by
    simp only [upTo, ← List.map_take, List.take_range, Nat.min_eq_left h]
  rw [this, List.take_append_drop]
theorem diff_end {xs : List Int} {i : Nat} (hi : i ≤ 12) (h : ∀ a ∈ xs, a < i) : (upTo 12).filter (· ∉ xs) = (upTo i).filter (· ∉ xs) ++ (upTo 12).drop i := by
  rw [upTo_split hi, List.filter_append]
  congr 1
  · rw [← upTo_split hi]
    rw [List.filter_eq_self]
    intro a ha
    have := upTo_drop_ge a ha
    simp only [decide_eq_true_eq]
    intro hx
    have := h a hx
    omega
theorem diff_in {xs : List Int} {i : Nat} (h : (i : Int) ∈ xs) : (upTo (i + 1)).filter (· ∉ xs) = (upTo i).filter (· ∉ xs) := by
  rw [upTo_succ, List.filter_append]; simp [h]
theorem diff_out {xs : List Int} {i : Nat} (h : (i : Int) ∉ xs) : (upTo (i + 1)).filter (· ∉ xs) = (upTo i).filter (· ∉ xs) ++ [(i : Int)] := by
  rw [upTo_succ, List.filter_append]; simp [h]
theorem sd_fin {foc rest frs frs9 : List (Addr × Obj)} {post : Value → List (Addr × Obj) → Prop} {Q : Value → Shared → Prop} (O : Kp h₀ s.heap) (D : Led h₀ s.heap (foc ++ frs ++ rest)) (hap : ∀ p ∈ foc ++ frs, ∀ q ∈ rest, p.1 ≠ q.1)
    (hQ : ∀ r foc' h' tk', (∃ foc1 frs', foc' = foc1 ++ frs' ∧ SameUp frs frs' ∧ (∀ p ∈ foc1, ∀ q ∈ frs', p.1 ≠ q.1) ∧ post r foc1) → (∀ p ∈ foc', ∀ q ∈ rest, p.1 ≠ q.1) → Kp h₀ h' → Led h₀ h' (foc' ++ rest) → Q r { s with heap := h', toks := tk' })
    {L : Addr} {h' : Heap} {m' : Str → Option Value} {tk' : Nat} {p1 p2 p3 q1 q2 q3 q4 : Addr × Obj} {r : Value} (F : Fr (under s.heap (foc ++ frs)) L h' m') (N : News (under s.heap (foc ++ frs)) L h' (p1 :: q1 :: q2 :: p3 :: p2 :: q3 :: q4 :: frs9))
    (SU : SameUp frs frs9) (ho : AllOff frs9 [p1, p2, p3]) (hp : post r [p1, p2, p3]) : Q r { s with heap := h', toks := tk' } :=
  fin O D hap hQ ([p1, p2, p3] ++ frs9) ⟨_, _, rfl, SU, ho.mem, hp⟩ F N (by top_name)
inductive SdJ (le la : Addr) (ues uas : List Value) (ne na : Nat) (xs : List Int) (lm lu : Addr) (frs : List (Addr × Obj)) (n : Nat) (m : Str → Option Value) : List (Addr × Obj) → Prop
  | mk (i j : Nat) (ti tj : Tok) (A1 A2 : List Int) (ms uu : List Value) (nm nu : Nat) (frs' : List (Addr × Obj)) (hn : n + i = 12) (hi : i < 12) (m1 : m (Str.ofString "expected") = some (.ref le)) (m2 : m (Str.ofString "actual") = some (.ref la)) (m3 : m (Str.ofString "missing") = some (.ref lm)) (m4 : m (Str.ofString "unexpected") = some (.ref lu))
    (m5 : m (Str.ofString "i") = some (.int i ti)) (m6 : m (Str.ofString "j") = some (.int j tj)) (hm : IntsAre ms ((upTo i).filter (· ∉ xs))) (hu : IntsAre uu []) (hxs : xs = A1 ++ A2) (hj : A1.length = j) (b1 : ∀ a ∈ A1, a < i) (b2 : ∀ a ∈ A2, i ≤ a) (b3 : A2 = [] → A1 = []) (SU : SameUp frs frs') :
    SdJ le la ues uas ne na xs lm lu frs n m ((lu, W.listOf (List.toArray uu) nu) :: (lm, W.listOf (List.toArray ms) nm) :: (le, W.listOf ues.toArray ne) :: (la, W.listOf uas.toArray na) :: frs')
inductive SdPost (xs : List Int) (r : Value) (new : List (Addr × Obj)) : Prop
  | mk (lt lm lu : Addr) (ms uu : List Value) (nm nu : Nat) (f1 : r = .ref lt) (f2 : new = [(lt, ({ cls := .type "tuple", data := .seq #[.ref lm, .ref lu] } : Obj)), (lm, W.listOf (List.toArray ms) nm), (lu, W.listOf (List.toArray uu) nu)]) (f3 : IntsAre ms ((upTo 12).filter (· ∉ xs))) (f4 : IntsAre uu []) (f5 : @LT.lt Nat _ lm lu) (f6 : @LT.lt Nat _ lu lt)
theorem sdiff_tell (le la : Addr) (ues uas : List Value) (xs : List Int) (ne na : Nat) (frs : List (Addr × Obj)) (hne : @LT.lt Nat _ le la) (of1 : ∀ p ∈ frs, p.1 ≠ le) (of2 : ∀ p ∈ frs, p.1 ≠ la) (he : IntsAre ues (upTo 12)) (ha : IntsAre uas xs) (hx : xs.length ≤ 100) (hsort : xs.Pairwise (· < ·)) (hb0 : ∀ a ∈ xs, 0 ≤ a) (hb12 : ∀ a ∈ xs, a < 12) (hdp : dp + 4 < recursionLimit) :
    TellX w dp l gd un h₀ s [(le, W.listOf ues.toArray ne), (la, W.listOf uas.toArray na)] frs (call (.ref 148) [.ref le, .ref la]) (SdPost xs) := by
  intro Fs rest Q E S O D hap hQ
  refine wpAny_call (enter S O (D.sub (List.subset_append_left _ _)) (by k_is) (by k_is) (by omega) (binds := [(Str.ofString "expected", .ref le), (Str.ofString "actual", .ref la)]) (BindsTo.of_eq rfl) (locs rfl) ?_ rfl rfl rfl (by decide))
  intro L h₁ mean mg mb X T F N
  simp only [List.cons_append, List.nil_append] at N
  repeat' (first | ((with_reducible show wpAny _ _ (exec (Stmt.While (Expr.Constant ..) ..) _) _ _ _); refine while_hold 0 ?_) | top_args)
  rename_i tk0 h5 h4 lm h3 l1 h2 tk1 lu hq l2 h' F' N'
  refine whl_inv s (under s.heap ([(le, W.listOf ues.toArray ne), (la, W.listOf uas.toArray na)] ++ frs)) L ?hE (fun n m led => SdJ le la ues uas ne na xs lm lu frs n m led) ?_ 12 _ _ h' tk 0 ?_ F' N'
  case hE => exact PassesOwn.leaving
  · intro n m led h tk hJ F N
    refine byProp fun Pz hPz => ?_
    obtain ⟨i, j, ti, tj, A1, A2, ms, uu, nm, nu, frs', hn, hi, m1, m2, m3, m4, m5, m6, hm, hu, hxs, hj, b1, b2, b3, SU⟩ := hJ
    obtain ⟨n', rfl⟩ : ∃ n', n = n' + 1 := ⟨n - 1, by omega⟩
    have hn' : n' + (i + 1) = 12 := hn ▸ (Nat.add_right_comm n' 1 i).symm
    have Fs' := Fs.up SU
    have o1 := off_up SU of1
    have o2 := off_up SU of2
    have o3 := off_up SU (off_lt l1.2.2)
    have o4 := off_up SU (off_lt l2.2.2.2)
    clear F' N'
    first | replace F := fr_at (at1s m1 (at1s m2 (at1s m3 (at1s m4 (at1s m5 (at1s m6 rfl)))))) F | replace F := fr_at (at1c (at1s m1 (at1s m2 (at1s m3 (at1s m4 (at1s m5 (at1s m6 rfl))))))) F
    try dsimp only at F
    have hj1 : (j : Int) ≤ 100 := by have : xs.length = A1.length + A2.length := by rw [hxs, List.length_append]
                                     omega
    have hU : (upTo 12).length = 12 := by decide
    have z1 : (0 : Int) ≤ (i : Int) := Int.natCast_nonneg _
    have z2 : (0 : Int) ≤ (i : Int) + 1 := Int.le_add_one z1
    have z3 : (0 : Int) ≤ (j : Int) := Int.natCast_nonneg _
    have z4 : (0 : Int) ≤ (j : Int) + 1 := Int.le_add_one z3
    have z5 : (i : Int) + 1 ≤ 1000 := by omega
    have z6 : (i : Int) ≤ 1000 := Int.le_trans (Int.le_add_one (Int.le_refl _)) z5
    have z7 : (j : Int) + 1 ≤ 1000 := Int.le_trans (Int.add_le_add_right hj1 1) (by decide)
    have z8 : (j : Int) ≤ 1000 := Int.le_trans hj1 (by decide)
    have w1 : lu ≠ lm := Nat.ne_of_gt l2.1
    have w2 : lu ≠ le := Nat.ne_of_gt l2.2.1
    have w3 : lu ≠ la := Nat.ne_of_gt l2.2.2.1
    have w4 : lm ≠ le := Nat.ne_of_gt l1.1
    have w5 : lm ≠ la := Nat.ne_of_gt l1.2.1
    have w6 : le ≠ la := Nat.ne_of_lt hne
    have q1 : (upTo 12)[(i : Int).toNat]? = some (i : Int) := by simp [upTo, hi]
    have hz2 : ms.length ≤ 1000 := by have h1 := hm.length; have h2 := List.length_filter_le (fun x => decide (x ∉ xs)) (upTo i); have h3 : (upTo i).length = i := by simp [upTo]
                                      omega
    have hz3 : uu.length ≤ 1000 := by have := hu.length; simp at this; simp [this]
    refine hPz ?_
    clear hPz Pz
    cases A2 with
    | nil =>
      obtain rfl := b3 rfl
      have q2 : (xs.length : Int) ≤ (j : Int) := by subst hxs; simp
      have mk : Noting := trivial
      repeat' (first | ((with_reducible show wpAny _ _ (subscriptTail (Expr.Name _ _) (Expr.Name _ _) (Value.ref _) (Value.int _ _)) _ _ _); with_unfolding_all first | (refine li_item (by k_asm) (by k_mem) (by assumption) (by assumption) (by first | with_reducible assumption | omega) (by first | with_reducible assumption | omega) ?_; intro _) | (refine li_item_out rfl (by k_asm) (by k_mem) (by assumption) (by assumption) (by first | with_reducible assumption | omega) ?_; intro _ _ _ _)) | ((with_reducible show wpAny _ _ (call (Value.builtin "list.extend") _) _ _ _); refine li_extend (by k_asm) (by k_asm) (by k_mem) (by k_updF) (by assumption) (by have hI9 := IntsAre.length (by assumption); simp only [List.length_drop] at hI9; omega) ?_; top_caught0) | top_args)
      refine TurnW.brk ?_
      k_steps
      rename Fr _ _ _ _ => FF
      rename News _ _ _ _ => NN
      rename IntsAre _ (List.drop _ xs) => hI2
      rename IntsAre _ (List.drop _ (upTo 12)) => hI1
      rename SameUp frs' _ => su9
      rename (_ ∧ _) => l9
      refine sd_fin O D hap hQ FF NN (SU.trans su9) ⟨off_lt l9.2.2.2.2.2.2, off_up su9 o3, off_up su9 o4, trivial⟩ ⟨_, lm, lu, _, _, _, _, rfl, rfl, ?_, ?_, l2.1, l9.2.2.1⟩
      · rw [diff_end (i := i) (by omega) (by rw [hxs]; first | top_raise0 | simp)]
        exact hm.append hI1
      · have := hu.append hI2
        rw [hxs] at this
        simpa using this
    | cons a r =>
      have ha12 : a < 12 := hb12 a (by rw [hxs]; first | top_raise0 | simp)
      have hsr : ∀ b ∈ r, a < b := by
        rw [hxs, List.pairwise_append] at hsort
        exact fun b hb => (List.pairwise_cons.mp hsort.2.1).1 b hb
      have q3 : xs[(j : Int).toNat]? = some a := by subst hxs; subst hj; simp
      repeat (first | k_unfold | ((fail_if_success (with_reducible show wpAny _ _ (exec (Stmt.If _ _ _ _) _) _ _ _)); first | ((with_reducible show wpAny _ _ (subscriptTail (Expr.Name _ _) (Expr.Name _ _) (Value.ref _) (Value.int _ _)) _ _ _); with_unfolding_all first | (refine li_item (by k_asm) (by k_mem) (by assumption) (by assumption) (by first | with_reducible assumption | omega) (by first | with_reducible assumption | omega) ?_; intro _) | (refine li_item_out rfl (by k_asm) (by k_mem) (by assumption) (by assumption) (by first | with_reducible assumption | omega) ?_; intro _ _ _ _)) | walk1))
      by_cases hlt : (i : Int) < a
      · have hi2 : i + 1 < 12 := by omega
        have q4 : (upTo 12)[((i : Int) + 1).toNat]? = some ((i : Int) + 1) := upTo_get hi2
        repeat' (first | ((with_reducible show wpAny _ _ (subscriptTail (Expr.Name _ _) (Expr.Name _ _) (Value.ref _) (Value.int _ _)) _ _ _); with_unfolding_all first | (refine li_item (by k_asm) (by k_mem) (by assumption) (by assumption) (by first | with_reducible assumption | omega) (by first | with_reducible assumption | omega) ?_; intro _) | (refine li_item_out rfl (by k_asm) (by k_mem) (by assumption) (by assumption) (by first | with_reducible assumption | omega) ?_; intro _ _ _ _)) | ((with_reducible show wpAny _ _ (exec (Stmt.While (Expr.Compare ..) ..) _) _ _ _); refine whl_start 1 ?_; k_dflt (refine' whl_turn ?hE ?_; (case hE => first | passes_own | with_unfolding_all passes_own))) | ((with_reducible show wpAny _ _ (call (Value.builtin "list.append") _) _ _ _); refine li_append (by k_asm) (by k_asm) (by k_upd) (by assumption) ?_; top_caught0) | (refine WhlIf.no (beq_false_of_ne (by omega)) ?_) | top_args)
        rename Fr _ _ _ _ => F2
        rename News _ _ _ _ => N2
        refine TurnW.next n' (Nat.lt_succ_self _) F2 N2 (.mk (i + 1) j _ _ A1 (a :: r) _ uu _ _ frs' hn' hi2 rfl rfl rfl rfl rfl rfl ?_ hu hxs hj ?_ ?_ b3 SU)
        · rw [diff_out]
          · exact hm.append (.cons _ _ .nil)
          · rw [hxs]
            simp only [List.mem_append, List.mem_cons, not_or]
            exact ⟨fun h => absurd (b1 _ h) (by omega), by omega, fun h => absurd (hsr _ h) (by omega)⟩
        · intro x hx; have := b1 x hx; omega
        · intro x hx
          rcases List.mem_cons.mp hx with rfl | hx
          · omega
          · have := hsr x hx; omega
      · have hai : a = (i : Int) := by have := b2 a (.head _); omega
        cases r with
        | cons b r =>
          have q6 : (i : Int) < b := by have := hsr b (.head _); omega
          have hb1 : b < 12 := hb12 b (by rw [hxs]; first | top_raise0 | simp)
          have hi2 : i + 1 < 12 := by omega
          have q4 : (upTo 12)[((i : Int) + 1).toNat]? = some ((i : Int) + 1) := upTo_get hi2
          have q5 : xs[((j : Int) + 1).toNat]? = some b := by
            have : ((j : Int) + 1).toNat = A1.length + 1 := by omega
            rw [this, hxs]; simp
          repeat' (first | ((with_reducible show wpAny _ _ (subscriptTail (Expr.Name _ _) (Expr.Name _ _) (Value.ref _) (Value.int _ _)) _ _ _); with_unfolding_all first | (refine li_item (by k_asm) (by k_mem) (by assumption) (by assumption) (by first | with_reducible assumption | omega) (by first | with_reducible assumption | omega) ?_; intro _) | (refine li_item_out rfl (by k_asm) (by k_mem) (by assumption) (by assumption) (by first | with_reducible assumption | omega) ?_; intro _ _ _ _)) | ((with_reducible show wpAny _ _ (exec (Stmt.While (Expr.Compare ..) ..) _) _ _ _); refine whl_start 1 ?_; k_dflt (refine' whl_turn ?hE ?_; (case hE => first | passes_own | with_unfolding_all passes_own))) | (refine WhlIf.no (beq_false_of_ne (by omega)) ?_) | top_args)
          rename Fr _ _ _ _ => F2
          rename News _ _ _ _ => N2
          refine TurnW.next n' (Nat.lt_succ_self _) F2 N2 (.mk (i + 1) (j + 1) _ _ (A1 ++ [a]) (b :: r) _ uu _ _ frs' hn' hi2 rfl rfl rfl rfl rfl rfl ?_ hu ?_ ?_ ?_ ?_ ?_ SU)
          · rw [diff_in (by rw [hxs, hai]; first | top_raise0 | simp)]; exact hm
          · rw [hxs]; simp
          · simp [hj]
          · intro x hx
            rcases List.mem_append.mp hx with hx | hx
            · have := b1 x hx; omega
            · rw [List.mem_singleton.mp hx]; omega
          · intro x hx
            rcases List.mem_cons.mp hx with rfl | hx
            · omega
            · rw [hxs, List.pairwise_append] at hsort
              have := (List.pairwise_cons.mp (List.pairwise_cons.mp hsort.2.1).2).1 x hx
              omega
          · intro h; cases h
        | nil =>
          have q5 : (xs.length : Int) ≤ (j : Int) + 1 := by rw [hxs]; simp; omega
          have hall : ∀ x ∈ xs, x < ((i + 1 : Nat) : Int) := by
            intro x hx
            rw [hxs] at hx
            rcases List.mem_append.mp hx with hx | hx
            · have := b1 x hx; omega
            · rw [List.mem_singleton.mp hx]; omega
          have hdrop : xs.drop ((j : Int) + 1).toNat = [] := List.drop_of_length_le (by omega)
          by_cases hi2 : i + 1 < 12
          · have q4 : (upTo 12)[((i : Int) + 1).toNat]? = some ((i : Int) + 1) := upTo_get hi2
            have mk : Noting := trivial
            repeat' (first | ((with_reducible show wpAny _ _ (subscriptTail (Expr.Name _ _) (Expr.Name _ _) (Value.ref _) (Value.int _ _)) _ _ _); with_unfolding_all first | (refine li_item (by k_asm) (by k_mem) (by assumption) (by assumption) (by first | with_reducible assumption | omega) (by first | with_reducible assumption | omega) ?_; intro _) | (refine li_item_out rfl (by k_asm) (by k_mem) (by assumption) (by assumption) (by first | with_reducible assumption | omega) ?_; intro _ _ _ _)) | ((with_reducible show wpAny _ _ (exec (Stmt.While (Expr.Compare ..) ..) _) _ _ _); refine whl_start 1 ?_; k_dflt (refine' whl_turn ?hE ?_; (case hE => first | passes_own | with_unfolding_all passes_own))) | (refine WhlIf.no (beq_false_of_ne (by omega)) ?_) | top_args)
            refine (by first | passes_own | with_unfolding_all passes_own : PassesOwn _ _ _ _) _ _ ?_
            repeat' (first | ((with_reducible show wpAny _ _ (call (Value.builtin "list.extend") _) _ _ _); refine li_extend (by k_asm) (by k_asm) (by k_mem) (by k_updF) (by assumption) (by have hI9 := IntsAre.length (by assumption); simp only [List.length_drop] at hI9; omega) ?_; top_caught0) | top_args)
            refine TurnW.brk ?_
            k_steps
            rename Fr _ _ _ _ => FF
            rename News _ _ _ _ => NN
            rename IntsAre _ (List.drop _ xs) => hI2
            rename IntsAre _ (List.drop _ (upTo 12)) => hI1
            rename SameUp frs' _ => su9
            rename (_ ∧ _) => l9
            refine sd_fin O D hap hQ FF NN (SU.trans su9) ⟨off_lt l9.2.2.2.2.2.2, off_up su9 o3, off_up su9 o4, trivial⟩ ⟨_, lm, lu, _, _, _, _, rfl, rfl, ?_, ?_, l2.1, l9.2.2.1⟩
            · rw [diff_end (i := i + 1) (by omega) hall, diff_in (by rw [hxs, hai]; first | top_raise0 | simp)]
              exact hm.append hI1
            · have := hu.append hI2
              rw [hdrop] at this
              exact this
          · have q4 : ((upTo 12).length : Int) ≤ (i : Int) + 1 := by rw [hU]; omega
            repeat' (first | ((with_reducible show wpAny _ _ (subscriptTail (Expr.Name _ _) (Expr.Name _ _) (Value.ref _) (Value.int _ _)) _ _ _); with_unfolding_all first | (refine li_item (by k_asm) (by k_mem) (by assumption) (by assumption) (by first | with_reducible assumption | omega) (by first | with_reducible assumption | omega) ?_; intro _) | (refine li_item_out rfl (by k_asm) (by k_mem) (by assumption) (by assumption) (by first | with_reducible assumption | omega) ?_; intro _ _ _ _)) | ((with_reducible show wpAny _ _ (exec (Stmt.While (Expr.Compare ..) ..) _) _ _ _); refine whl_start 1 ?_; k_dflt (refine' whl_turn ?hE ?_; (case hE => first | passes_own | with_unfolding_all passes_own))) | top_args)
            rename Heap.NewExc _ _ _ _ => x1
            rename Fr _ _ _ _ => F2
            rename News _ _ _ _ => N2
            obtain ⟨dd, sl, t, F3, N3, ne3⟩ := exc_led x1 F2 N2
            clear x1 F2 N2
            refine noted_led (new := [_, _, _, _]) rfl Fs' F3 N3 rfl ne3 ⟨o4, o3, o1, o2, trivial⟩ ?_
            intro h5 frs2 T1 ts su2 fs2 F4 N4 t3 lT oe2
            refine ⟨ref_ne_byPass _, ?_⟩
            refine again_led N4 (.tail _ (.head _)) (.head _) rfl t3 ?_
            refine flight_led F4 N4 rfl (Array.getElem?_eq_some_iff.mp t3).1 lT ?_
            intro h6 ts6 F6 N6 t6
            clear F3 N3 F4 N4
            simp only [List.cons_append, List.nil_append] at N6
            repeat' (first | ((with_reducible show wpAny _ _ (exec (Stmt.While (Expr.Compare ..) ..) _) _ _ _); refine whl_start 1 ?_; k_dflt (refine' whl_turn ?hE ?_; (case hE => first | passes_own | with_unfolding_all passes_own))) | top_args)
            rename Fr _ _ _ _ => F7
            rename News _ _ _ _ => N7
            refine item_out_in rfl F7 N7 (by k_mem) (.tail _ (.head _)) rfl (by have := ha.length; omega) (by omega) ?_
            intro h8 tk8 e2 t2 F8 N8 ne8
            refine (by first | passes_own | with_unfolding_all passes_own : PassesOwnAt _ _ _ _ _) _ _ ?_
            have p1 := off_up su2 o1
            have p2 := off_up su2 o2
            have p3 := off_up su2 o3
            have p4 := off_up su2 o4
            refine noted_led (new := [_, _, _, _, _, _]) rfl fs2 F8 N8 rfl ne8 ⟨fun p hp => Nat.ne_of_lt (lT p (.tail _ (List.mem_append_right _ hp))), fun p hp => oe2 p (List.mem_append_right _ hp), p4, p3, p1, p2, trivial⟩ ?_
            intro h9 frs3 T2 ts2 su3 fs3 F9 N9 t9 lT2 oe3
            have ttN := held_sub (new' := [(lu, W.listOf (List.toArray uu) nu), (lm, W.listOf (List.toArray ms) nm), (le, W.listOf ues.toArray ne), (la, W.listOf uas.toArray na)] ++ frs3) (held_led F9 N9 rfl t9 lT2) (by top_name)
            simp only [List.cons_append, List.nil_append] at ttN
            clear F7 N7 F8 N8 F9 N9
            have SU3 := su2.trans su3
            repeat' (first | ((with_reducible show wpAny _ _ (call (Value.builtin "list.extend") _) _ _ _); refine li_extend (by k_asm) (by k_asm) (by k_mem) (by k_updF) (by assumption) (by have hI9 := IntsAre.length (by assumption); simp only [List.length_drop] at hI9; omega) ?_; top_caught0) | top_args)
            refine TurnW.brk ?_
            k_steps
            rename Fr _ _ _ _ => FF
            rename News _ _ _ _ => NN
            rename IntsAre _ (List.drop _ xs) => hI2
            rename IntsAre _ (List.drop _ (upTo 12)) => hI1
            rename SameUp frs' frs3 => su9
            rename (_ ∧ _) => l9
            refine sd_fin O D hap hQ FF NN (SU.trans su9) ⟨off_lt l9.2.2.2.2.2.2, off_up su9 o3, off_up su9 o4, trivial⟩ ⟨_, lm, lu, _, _, _, _, rfl, rfl, ?_, ?_, l2.1, l9.2.2.1⟩
            · rw [diff_end (i := i + 1) (by omega) hall, diff_in (by rw [hxs, hai]; first | top_raise0 | simp)]
              exact hm.append hI1
            · have := hu.append hI2
              rw [hdrop] at this
              exact this
  · exact .mk 0 0 _ _ [] xs [] [] 0 0 frs rfl (by decide) rfl rfl rfl rfl rfl rfl (by simpa [upTo] using IntsAre.nil) .nil rfl rfl (by first | top_raise0 | simp) (fun a ha => by simpa using hb0 a ha) (fun _ => rfl) (SameUp.refl _)
end
end -- MV
local macro_rules | `(tactic| k_mem) => `(tactic| top_raise0)
example : True := by first | (w_top off; walk1) | trivial
section -- MTd
open TI (Frs SameUp)
section
variable {w : World} {dp un : Nat} {l : List Env} {gd : Option (List Code)} {h₀ : Heap} {s : Shared}
/-- TellX.use for any def's frame -/
theorem TellX.useG {foc frs : List (Addr × Obj)} {t : Sem Value} {post : Value → List (Addr × Obj) → Prop} {env : Env} {L : Addr}
    (H : ∀ oL, TellX w dp (env :: l) gd un h₀ s foc ((L, oL) :: frs) t post) (Fs : Frs l frs)
    {m : Str → Option Value} {led news : List (Addr × Obj)} {mean : ExcName → Option Value} {mg mb : Str → Option Value} {Q E : Value → Shared → Prop}
    (X : (hd.heap_1 w.params).In h₀) (T : Top Vw Lo mean mg mb h₀) (F : Fr h₀ L s.heap m) (N : News h₀ L s.heap led) (hsub : ∀ p ∈ foc ++ frs ++ news, p ∈ led) (hap : ∀ p ∈ foc ++ frs, ∀ q ∈ news, p.1 ≠ q.1) (hk : env.scope.kind = .function) (hfr : env.frame = some L)
    (hQ : ∀ r foc' frs' h' tk', post r foc' → SameUp frs frs' → Frs l frs' → Fr h₀ L h' m → News h₀ L h' (foc' ++ news ++ frs') → (∀ p ∈ foc', ∀ q ∈ news ++ frs', p.1 ≠ q.1) → Q r { s with heap := h', toks := tk' }) :
    wpAny (model Pg w) (mkA dp (some (env :: l)) gd un) t Q E s := by
  have N₂ : News h₀ L s.heap (foc ++ frs ++ news) := fun p hp => N p (hsub p hp)
  refine byProp fun Pz hPz => ?_
  obtain ⟨oL, es, ep, hL, hLd, hLk, hLf⟩ := F.ns
  have hLn : h₀.get? L = none := Heap.get?_none_of_le F.above
  have FF : Frs (env :: l) ((L, oL) :: frs) := ⟨by rw [hk]; decide, hfr, ⟨es, ep, hLd⟩, Fs⟩
  refine hPz ?_
  clear hPz Pz
  refine H oL FF news Q E ⟨X, mean, mg, mb, T⟩ (Kp.of_fr F) (fun p hp => ?_) (fun p hp q hq => ?_) fun r foc' h' tk' hp hn K' D' => ?_
  · rcases List.mem_append.mp hp with hp | hp
    · rcases List.mem_append.mp hp with hp | hp
      · exact ⟨(N₂ p (by first | top_raise0 | simp [hp])).1, (N₂ p (by first | top_raise0 | simp [hp])).2.2⟩
      · rcases List.mem_cons.mp hp with rfl | hp
        · exact ⟨hL, hLn⟩
        · exact ⟨(N₂ p (by first | top_raise0 | simp [hp])).1, (N₂ p (by first | top_raise0 | simp [hp])).2.2⟩
    · exact ⟨(N₂ p (by first | top_raise0 | simp [hp])).1, (N₂ p (by first | top_raise0 | simp [hp])).2.2⟩
  · rcases List.mem_append.mp hp with hp | hp
    · exact hap p (List.mem_append_left _ hp) q hq
    · rcases List.mem_cons.mp hp with rfl | hp
      · exact Ne.symm (N₂ q (by first | top_raise0 | simp [hq])).2.1
      · exact hap p (List.mem_append_right _ hp) q hq
  · obtain ⟨foc1, frs', rfl, SU, hfa, hp⟩ := hp
    cases frs' with
    | nil => exact False.elim SU
    | cons q qs =>
      refine byProp fun Pz hPz => ?_
      obtain ⟨q1, q2⟩ := q
      obtain ⟨e1, ⟨sl, e2⟩, SU'⟩ := SU
      refine hPz ?_
      clear hPz Pz
      cases e1; cases e2
      have hL' : h'.get? L = some { oL with slots := sl } := (D' (L, { oL with slots := sl }) (by first | top_raise0 | simp)).1
      have hne : ∀ p ∈ qs, p.1 ≠ L := fun p hp e => by
        have : p.1 ∈ frs.map (·.1) := by rw [SameUp.addr SU']; exact List.mem_map_of_mem hp
        refine byProp fun Pz hPz => ?_
        obtain ⟨x, hx, ex⟩ := List.mem_map.mp this
        refine hPz ?_
        clear hPz Pz
        exact (N₂ x (by first | top_raise0 | simp [hx])).2.1 (ex.trans e)
      refine hQ r foc1 qs h' tk' hp SU' (Fs.up SU') ⟨⟨_, es, ep, hL', hLd, hLk, hLf⟩, K'.keep, F.above⟩ (fun p hp' => ?_) (fun p hp' q hq => (List.mem_append.mp hq).elim (fun hq => hn p (by first | top_raise0 | simp [hp']) q hq) fun hq => hfa p hp' q (.tail _ hq))
      have hm : p ∈ foc1 ++ (L, { oL with slots := sl }) :: qs ++ news := by
        refine memIn ?_ hp'; top_name
      refine ⟨(D' p hm).1, ?_, (D' p hm).2⟩
      simp only [List.mem_append] at hp'
      rcases hp' with (h | h) | h
      · exact hfa p h (L, _) (.head _)
      · exact (N₂ p (by first | top_raise0 | simp [h])).2.1
      · exact hne p h
theorem TuAre.at {ts : List Tu} {Rs : List (List Nat)} (h : TuAre ts Rs) {i : Nat} (hi : i < ts.length) : ∃ t R, ts[i]? = some t ∧ Rs[i]? = some R ∧ IntsAre t.us (zs R) := by
  induction h generalizing i with
  | nil => exact absurd hi (Nat.not_lt_zero _)
  | cons x _ ih =>
    cases i with
    | zero => exact ⟨_, _, rfl, rfl, x⟩
    | succ i =>
      refine byProp fun Pz hPz => ?_
      obtain ⟨t, R, h1, h2, h3⟩ := ih (i := i) (by simpa using hi)
      refine hPz ?_
      clear hPz Pz
      exact ⟨t, R, h1, h2, h3⟩
theorem IntsAre.app2 {us vs : List Value} {a b : List Int} (h : IntsAre us a) (h2 : IntsAre vs b) : IntsAre (us ++ vs) (a ++ b) := h.append h2
theorem TuAre.flat {ts : List Tu} {Rs : List (List Nat)} (h : TuAre ts Rs) : IntsAre (ts.flatMap (·.us)) (zs Rs.flatten) := by
  induction h with
  | nil => exact .nil
  | cons a _ ih =>
    rw [List.flatMap_cons, List.flatten_cons]
    unfold zs at *
    rw [List.map_append]
    exact a.append ih
section
variable {prog : Program} {w : World} {A : Around} {E : Value → Shared → Prop} {s : Shared} {h₀ : Heap} {L : Addr} {m : Str → Option Value} {news : List (Addr × Obj)} {Q : Value → Shared → Prop}
theorem in_tupI {D : Addr} {us : List Value} {xs : List Int} {k : Int} {t : Tok} {c : Bool} (N : News h₀ L s.heap news) (hm : (D, tupO us) ∈ news) (hi : IntsAre us xs) (hu : A.units + 64 < cLine) (hc : decide (k ∈ xs) = c) (h : Q (.bool c) s) :
    wpAny (model prog w) A (compareOp .In (.int k t) (.ref D)) Q E s := by
  refine PySem.SeqAt.in_tuple_reads (xs := xs.map PyData.int) (d := .int k) (reads_newDataT ⟨_, (N _ hm).1, rfl, _, rfl⟩ (ke_carried hi)) (Reads.int k t) (ke_canLayAll0 xs) rfl ?_ ?_
  · rw [ke_depthAll]
    simp only [Nat.zero_min]
    first | done | omega
  · have : ((xs.map PyData.int).any fun y => PyData.eqv y (.int k)) = decide (k ∈ xs) := by
      rw [← any_mem, List.any_map]
      congr 1
    rw [this, hc]
    exact h
noncomputable abbrev tupD (r : List Nat) : Dat := .tuple (r.map fun k => Dat.int ((k : Nat) : Int))
theorem ints_dat {us : List Value} {r : List Nat} (h : IntsAre us (zs r)) : DatAll news us (r.map fun k => Dat.int ((k : Nat) : Int)) := by
  induction r generalizing us with
  | nil => obtain rfl := h.nil_inv; exact .nil
  | cons a r ih => obtain ⟨t, vs, rfl, h'⟩ := h.cons_inv; exact .cons (.int _ t) (ih h')
theorem tu_dat {ts : List Tu} {R : List (List Nat)} (h : TuAre ts R) (hs : ∀ t ∈ ts, tupT t ∈ news) : DatAll news (refsT ts) (R.map tupD) := by
  induction h with
  | nil => exact .nil
  | cons a _ ih => exact .cons (.tuple (n := 0) (hs _ (.head _)) (ints_dat a)) (ih fun t ht => hs t (.tail _ ht))
theorem tupD_ok (r : List Nat) : kqdOk 8 (tupD r) = true := by simp [kqdOk]
theorem tupD_inj {r r' : List Nat} (h : tupD r = tupD r') : r = r' := by
  have h1 := Dat.tuple.inj h
  clear h
  induction r generalizing r' with
  | nil => cases r' with
    | nil => rfl
    | cons => cases h1
  | cons a r ih =>
    cases r' with
    | nil => cases h1
    | cons b r' =>
      obtain ⟨e1, e2⟩ := List.cons.inj h1
      have e3 := Dat.int.inj e1
      have : a = b := by exact_mod_cast e3
      rw [this, ih e2]
theorem eq_tups {a b : Addr} {na nb : Nat} {ts ds : List Tu} {R R' : List (List Nat)} (N : News h₀ L s.heap news) (ha : (a, W.listOf (refsT ts).toArray na) ∈ news) (hb : (b, W.listOf (refsT ds).toArray nb) ∈ news) (h1 : TuAre ts R) (h2 : TuAre ds R') (s1 : ∀ t ∈ ts, tupT t ∈ news) (s2 : ∀ t ∈ ds, tupT t ∈ news) (hu : A.units + 64 < cLine) {c : Bool} (hc : decide (R = R') = c)
    (h : Q (.bool c) s) : wpAny (model prog w) A (compareOp .Eq (.ref a) (.ref b)) Q E s := by
  refine kqd_eq N ha rfl rfl (tu_dat h1 s1) (fun _ h => h) hb rfl rfl (tu_dat h2 s2) (fun _ h => h) (fun d hd => ?_) (fun d hd => ?_) hu ?_
  · obtain ⟨r, _, rfl⟩ := List.mem_map.mp hd; exact tupD_ok r
  · obtain ⟨r, _, rfl⟩ := List.mem_map.mp hd; exact tupD_ok r
  · have e : (R.map tupD = R'.map tupD) ↔ R = R' := by
      refine ⟨fun e => ?_, fun e => by rw [e]⟩
      clear hc h1 h2
      induction R generalizing R' with
      | nil => cases R' with
        | nil => rfl
        | cons => cases e
      | cons a r ih =>
        cases R' with
        | nil => cases e
        | cons b r' =>
          obtain ⟨e1, e2⟩ := List.cons.inj e
          rw [tupD_inj e1, ih e2]
    have e2 : ∀ i : Decidable (R.map tupD = R'.map tupD), @decide (R.map tupD = R'.map tupD) i = c := fun i => by
      rw [← hc, decide_eq_decide]; exact e
    rw [e2 _]; exact h
end
theorem nodup_zs {l : List Nat} (h : l.Nodup) : (zs l).Nodup := by
  show List.Pairwise _ _
  unfold zs
  rw [List.pairwise_map]
  refine List.Pairwise.imp ?_ h
  intro a b hab e
  exact hab (by exact_mod_cast e)
theorem pair_shaped (ns : List Int) : SeqAt.shaped (.tuple [.list (ns.map PyData.int), .list []]) = true := by
  simp [SeqAt.shaped, PyData.canLay0, PyData.canLayAll0, PyData.depth, PyData.depthAll, ke_canLayAll0, ke_depthAll]
theorem pair_eqv (ns : List Int) : PyData.eqv (.tuple [.list (ns.map PyData.int), .list []]) (.tuple [.list (ns.map PyData.int), .list []]) = true := by
  simp [PyData.eqv, PyData.eqvAll, ked_eqvAll]
theorem rangeKs_upTo (n : Nat) : rangeKs 0 n = upTo n := by
  unfold rangeKs upTo
  refine List.map_congr_left fun i _ => ?_
  omega
section
variable {prog : Program} {w : World} {A : Around} {E : Value → Shared → Prop} {s : Shared} {h₀ : Heap} {L : Addr} {m : Str → Option Value} {news : List (Addr × Obj)} {Q : Value → Shared → Prop}
theorem li_eq {a b : Addr} {na nb : Nat} {us vs : List Value} {ns ms : List Int} {c : Bool} (N : News h₀ L s.heap news) (ha : (a, W.listOf us.toArray na) ∈ news) (hb : (b, W.listOf vs.toArray nb) ∈ news) (hi : IntsAre us ns) (hj : IntsAre vs ms) (hu : A.units + 64 < cLine) (hc : decide (ns = ms) = c) (h : Q (.bool c) s) :
    wpAny (model prog w) A (compareOp .Eq (.ref a) (.ref b)) Q E s :=
  ke_eq_ints ⟨_, (N _ ha).1, rfl, na, rfl⟩ ⟨_, (N _ hb).1, rfl, nb, rfl⟩ hi hj hu (by rw [hc]; exact h)
theorem li_ne {a b : Addr} {na nb : Nat} {us vs : List Value} {ns ms : List Int} {c : Bool} (N : News h₀ L s.heap news) (ha : (a, W.listOf us.toArray na) ∈ news) (hb : (b, W.listOf vs.toArray nb) ∈ news) (hi : IntsAre us ns) (hj : IntsAre vs ms) (hu : A.units + 64 < cLine) (hc : (!decide (ns = ms)) = c) (h : Q (.bool c) s) :
    wpAny (model prog w) A (compareOp .NotEq (.ref a) (.ref b)) Q E s :=
  ke_ne_ints ⟨_, (N _ ha).1, rfl, na, rfl⟩ ⟨_, (N _ hb).1, rfl, nb, rfl⟩ hi hj hu (by rw [hc]; exact h)
theorem list_r12 {r : Addr} {t u v : Tok} (hh : A.handled = none) (F : Fr h₀ L s.heap m) (N : News h₀ L s.heap news) (hr : IsRange s.heap r 0 12 1 t u v)
    (h : ∀ D vs c h' tk, Fr h₀ L h' m → News h₀ L h' ((D, W.listOf (List.toArray vs) c) :: news) → (∀ q ∈ news, q.1 < D) → IntsAre vs (upTo 12) → Q (.ref D) { s with heap := h', toks := tk }) :
    wpAny (model prog w) A (call (.type "list") [.ref r]) Q E s := by
  refine kll_range (n := 12) hh F N hr (by decide +kernel) (by decide +kernel) (by decide) fun D us c h' tk F' N' l1 hi => h D us c h' tk F' N' l1 (by rw [← rangeKs_upTo]; exact hi)
end
theorem ne_c {a : Addr} {x : Addr × Obj} {l : List (Addr × Obj)} (h : a ≠ x.1) (hl : ∀ q ∈ l, a ≠ q.1) : ∀ q ∈ x :: l, a ≠ q.1 := fun q hq => by
  cases hq with
  | head => exact h
  | tail _ hq => exact hl q hq
theorem hold_it {p : Prop} (h : Hold p) : p := h
local macro_rules | `(tactic| walk_at "CompSrcT") => `(tactic| (k_here; refine hold_it ?_))
local macro_rules | `(tactic| walk_at "compareOp In int ref") => `(tactic| (k_here; k_dflt (refine in_tupI (by k_asm) (by k_mem) (by assumption) (by simp only [Around.deeper]; omega) (by assumption) ?_)))
local macro_rules | `(tactic| walk_at "compareOp Eq ref ref") => `(tactic| (k_here; refine hold_it ?_))
local macro_rules | `(tactic| walk_at "call type:list") => `(tactic| (k_here; k_dflt (refine kup_listOf (by k_asm) (by k_asm) (by k_mem) rfl ?_ (by assumption)); intro D' c' h' F' N' l1))
local macro_rules | `(tactic| walk_at "call type:list") => `(tactic| (k_here; (rename IsRange _ _ _ _ _ _ _ _ => rgX); k_dflt (refine list_r12 rfl (by k_asm) (by k_asm) (by exact rgX) ?_); intro D' us' c' h' tk' F' N' l1 hi'; clear rgX))
local macro_rules | `(tactic| walk_at "compareOp NotEq ref ref") => `(tactic| (k_here; refine hold_it ?_))
local macro_rules | `(tactic| walk_at "call builtin:sorted") => `(tactic| (k_here; k_dflt (refine kso_sorted (by k_asm) (by k_asm) (News.isList (by k_asm) (by k_mem)) (by assumption) (by assumption) ?_); intro D' v' n' c' h' F' N' l1 i' e' p' o' b'))
local macro_rules | `(tactic| walk_at "call ref") => `(tactic| (k_here; refine hold_it ?_))
local macro_rules | `(tactic| walk_at "exec Assign cons ListComp") => `(tactic| (k_here; (with_reducible show wpAny _ _ (exec (Stmt.Assign _ (Expr.ListComp _ [Comprehension.mk _ _ [] _, Comprehension.mk _ _ [] _] _ _) _) _) _ _ _); (rename Fr _ _ _ _ => F9); k_dflt (refine Assign_ListComp_two F9 rfl (by rfl) rfl (by with_unfolding_all rfl) (by decide) (by rfl) (by decide) (by rfl) (by rfl) (by rfl) (by rfl) (by rfl) (by rfl) ?_)))
local macro_rules | `(tactic| walk_at "exec Assign cons ListComp") => `(tactic| (k_here; (with_reducible show wpAny _ _ (exec (Stmt.Assign _ (Expr.ListComp _ _ (Scope.mk _ (_ :: (_, NameKind.cell) :: _) _ _ _) _) _) _) _ _ _); (rename Fr _ _ _ _ => F9); with_unfolding_all refine Assign_ListComp_C F9 rfl (by rfl) (by rfl) (fun _ => rfl) (fun _ => rfl) (by rfl) (by decide) (by rfl) (by rfl) (by rfl) ?_))
theorem told_tell (b : Array UInt8) (hb : b.size = 12) (tb : Tok) (perm : Nat → Nat) (hperm : ∀ j, j < 12 → (b.getD j 0).toNat = perm j) (hlt : ∀ j, j < 12 → perm j < 12) (hinj : ∀ i j, i < 12 → j < 12 → perm i = perm j → i = j) (q : Nat → Bool)
    (la lc : Addr) (cm cs : List Value) (na nc : Nat) (hcm : IntsAre cm (zs ((List.range 12).map perm))) (hcs : IntsAre cs (zs ((List.range 12).filter q))) (frs : List (Addr × Obj)) (hapF : Apart ((la, W.listOf cm.toArray na) :: (lc, W.listOf cs.toArray nc) :: frs)) (hdp : dp + 60 < recursionLimit) (hun : un + 300 < cLine) :
    TellX w dp l gd un h₀ s [(la, W.listOf cm.toArray na), (lc, W.listOf cs.toArray nc)] frs (call (.ref 222) [.bytes b tb, .ref lc, .ref la])
      (fun r new => r = .bool true) := by
  intro Fs rest Q E S O DL hapR hQ
  refine wpAny_call (enterC S O (DL.sub (List.subset_append_left _ _)) (by k_is) (by k_is) (by omega) (binds := [(Str.ofString "octets", .bytes b tb), (Str.ofString "cut", .ref lc), (Str.ofString "came", .ref la)]) (BindsTo.of_eq rfl) rfl (by decide +kernel) ?_ rfl rfl rfl)
  intro L h₁ tk cells mean mg mb X T F N Y hlt'
  obtain ⟨B0, hB0⟩ : ∃ B0, B0 = under s.heap ([(la, W.listOf cm.toArray na), (lc, W.listOf cs.toArray nc)] ++ frs) := ⟨_, rfl⟩
  rw [← hB0] at X T F N
  k_cells Y
  simp only [List.cons_append, List.nil_append] at N
  rename_i oc hoc
  refine byProp fun Pz hPz => ?_
  obtain ⟨m0, hm0⟩ : ∃ m0, Fr B0 L h₁ m0 ∧ m0 (Str.ofString "octets") = some (.bytes b tb) ∧ m0 (Str.ofString "cut") = some (.ref lc) ∧ m0 (Str.ofString "came") = some (.ref la) := ⟨_, F, rfl, rfl, rfl⟩
  clear F
  obtain ⟨F, hm1, hm2, hm3⟩ := hm0
  first | replace F := fr_at (at1s hm1 (at1s hm2 (at1s hm3 rfl))) F | replace F := fr_at (at1c (at1s hm1 (at1s hm2 (at1s hm3 rfl)))) F
  try dsimp only at F
  have hll : la < L := hlt' (la, W.listOf cm.toArray na) (.head _)
  have hlc : lc < L := hlt' (lc, W.listOf cs.toArray nc) (.tail _ (.head _))
  have hlf : ∀ p ∈ frs, p.1 < L := fun p hp => hlt' p (.tail _ (.tail _ hp))
  have hlac : la ≠ lc := Ne.symm (hapF.head (lc, W.listOf cs.toArray nc) (.head _))
  have hfa : ∀ p ∈ frs, p.1 ≠ la := fun p hp => hapF.head p (.tail _ hp)
  have hfc : ∀ p ∈ frs, p.1 ≠ lc := fun p hp => hapF.tail.head p hp
  have hL1 : la ≠ L + 1 := Nat.ne_of_lt (Nat.lt_succ_of_lt hll)
  have hL2 : lc ≠ L + 1 := Nat.ne_of_lt (Nat.lt_succ_of_lt hlc)
  have hL3 : ∀ p ∈ frs, p.1 ≠ L + 1 := fun p hp => Nat.ne_of_lt (Nat.lt_succ_of_lt (hlf p hp))
  have hcl : cs.length ≤ 12 := by
    have h1 := hcs.length
    have h2 := List.length_filter_le q (List.range 12)
    simp [zs] at h1 h2
    omega
  refine hPz ?_
  clear hPz Pz
  k_steps
  rename Fr _ _ _ _ => F2
  unfold Hold
  refine TellX.useG (foc := [(lc, W.listOf cs.toArray nc)]) (news := [(L + 1, oc), (la, W.listOf cm.toArray na)]) (fun oL => run_tell b hb tb perm hperm hlt hinj q lc cs nc hcs ((L, oL) :: frs) ?_ (by simp only [Around.deeper]; omega)) Fs X T F2 N (fun p hp => ?_) (fun p hp q' hq' => ?_) rfl rfl ?_
  · refine Apart.cons (Apart.cons hapF.tail.tail fun p hp => Nat.ne_of_lt (hlf p hp)) fun p hp => ?_
    rcases List.mem_cons.mp hp with rfl | hp
    · exact Nat.ne_of_gt hlc
    · exact hfc p hp
  · refine memIn ?_ hp; top_name
  · refine ne_c ?_ (ne_c ?_ fun _ h => absurd h List.not_mem_nil) q' hq'
    · rcases List.mem_cons.mp hp with rfl | hp
      · exact hL2
      · exact hL3 p hp
    · rcases List.mem_cons.mp hp with rfl | hp
      · exact Ne.symm hlac
      · exact hfa p hp
  intro r foc' frs' h' tk' hZ0 SU Fs' F N' hoff
  refine byProp fun Pz hPz => ?_
  obtain ⟨Dr, cB, lr, ts, nr, rfl, rfl, hTu, hcB, hA1⟩ := hZ0
  clear F2 N
  obtain ⟨T1, hT1⟩ : ∃ T1, T1 = tupsT ts ++ frs' := ⟨_, rfl⟩
  have N : News B0 L h' ((Dr, ({ cls := .type "tuple", data := .seq #[.bool cB, .ref lr] } : Obj)) :: (lr, W.listOf (refsT ts).toArray nr) :: (L + 1, oc) :: (la, W.listOf cm.toArray na) :: (lc, W.listOf cs.toArray nc) :: T1) := fun p hp => N' p (by
    rw [hT1] at hp
    refine memIn ?_ hp; top_name)
  clear N'
  have HO := succP_ok perm q
  obtain ⟨R, hR⟩ : ∃ R, R = roundsF (succP perm q) 13 ((List.range 12).filter q) := ⟨_, rfl⟩
  have hX : OutIs (succP perm q) q R.flatten := by rw [hR]; exact out_is HO
  have hRl : R.length ≤ 12 := by rw [hR]; exact rounds_len HO
  have hOl : R.flatten.length ≤ 12 := by rw [hR]; exact out_len HO
  rw [← hR] at hTu
  have hcB' := hcB.trans (closed_iff hlt hinj hX)
  have hOut := hTu.flat
  have hOutl := hOut.length
  simp only [zs, List.length_map] at hOutl
  obtain ⟨OU, hOU⟩ : ∃ OU, OU = ts.flatMap (·.us) := ⟨_, rfl⟩
  obtain ⟨LA, hLA⟩ : ∃ LA, LA = (Dr, ({ cls := .type "tuple", data := .seq #[.bool cB, .ref lr] } : Obj)) :: (lr, W.listOf (refsT ts).toArray nr) :: (L + 1, oc) :: (la, W.listOf cm.toArray na) :: (lc, W.listOf cs.toArray nc) :: T1 := ⟨_, rfl⟩
  refine hPz ?_
  clear hPz Pz
  k_steps
  rename Fr _ _ _ _ => F2
  rename News _ _ _ _ => N2
  have hlrA : (lr, W.listOf (refsT ts).toArray nr) ∈ LA := by rw [hLA]; exact .tail _ (.head _)
  rw [← hLA] at N2
  refine ⟨lr, nr, ts, LA, rfl, hlrA, fun t ht => ?_, ?_, ?_, F2, N2, fun D h tk F N off => ?_⟩
  · rw [hLA, hT1]
    exact .tail _ (.tail _ (.tail _ (.tail _ (.tail _ (List.mem_append_left _ (List.mem_map_of_mem ht))))))
  · rw [hTu.len, sizeLine_eq]; omega
  · rw [hOutl, sizeLine_eq]; omega
  clear F2 N2
  rw [← hOU] at N hOut hOutl
  rw [hLA] at N off
  have offD := off
  k_steps
  rename Fr _ _ _ _ => F2
  unfold Hold
  have off2 : ∀ p ∈ T1, p.1 ≠ la ∧ p.1 ≠ lc ∧ p.1 ≠ L + 1 := fun p hp => by
    rw [hT1] at hp
    have hlc1 : (lc, W.listOf cs.toArray nc) ∈ (Dr, ({ cls := .type "tuple", data := .seq #[.bool cB, .ref lr] } : Obj)) :: (lr, W.listOf (refsT ts).toArray nr) :: (tupsT ts ++ [(lc, W.listOf cs.toArray nc)]) := by simp
    rcases List.mem_append.mp hp with hp | hp
    · have hm : p ∈ (Dr, ({ cls := .type "tuple", data := .seq #[.bool cB, .ref lr] } : Obj)) :: (lr, W.listOf (refsT ts).toArray nr) :: (tupsT ts ++ [(lc, W.listOf cs.toArray nc)]) := by simp [hp]
      refine ⟨hoff p hm (la, W.listOf cm.toArray na) (by first | top_raise0 | simp), ?_, hoff p hm (L + 1, oc) (by first | top_raise0 | simp)⟩
      exact hA1.tail.tail.cross p hp _ (.head _)
    · have h9 : p.1 ∈ frs.map (·.1) := by rw [SameUp.addr SU]; exact List.mem_map_of_mem hp
      refine byProp fun Pz hPz => ?_
      obtain ⟨p', hp', e⟩ := List.mem_map.mp h9
      refine hPz ?_
      clear hPz Pz
      rw [← e]
      exact ⟨hfa p' hp', hfc p' hp', hL3 p' hp'⟩
  have off3 : ∀ p ∈ [(Dr, ({ cls := .type "tuple", data := .seq #[.bool cB, .ref lr] } : Obj)), (lr, W.listOf (refsT ts).toArray nr)], p.1 ≠ la ∧ p.1 ≠ lc ∧ p.1 ≠ L + 1 := fun p hp => by
    have hm : p ∈ (Dr, ({ cls := .type "tuple", data := .seq #[.bool cB, .ref lr] } : Obj)) :: (lr, W.listOf (refsT ts).toArray nr) :: (tupsT ts ++ [(lc, W.listOf cs.toArray nc)]) := by
      refine memIn ?_ hp; top_name
    refine ⟨hoff p hm (la, W.listOf cm.toArray na) (by first | top_raise0 | simp), ?_, hoff p hm (L + 1, oc) (by first | top_raise0 | simp)⟩
    rcases List.mem_cons.mp hp with rfl | hp
    · exact Ne.symm (hA1.head (lc, W.listOf cs.toArray nc) (by first | top_raise0 | simp))
    · rw [List.mem_singleton.mp hp]
      exact Ne.symm (hA1.tail.head (lc, W.listOf cs.toArray nc) (by first | top_raise0 | simp))
  refine (due_tell perm hlt hinj q la lc cm cs na nc hcm hcs hlac (by simp only [Around.deeper]; omega)).use (news := (D, LCg.lst OU) :: (Dr, ({ cls := .type "tuple", data := .seq #[.bool cB, .ref lr] } : Obj)) :: (lr, W.listOf (refsT ts).toArray nr) :: (L + 1, oc) :: T1) X T F2 N (fun p hp => ?_) (fun p hp q' hq' => ?_) ?_
  · refine memIn ?_ hp; top_name
  · have o1 : D ≠ la ∧ D ≠ lc := ⟨Ne.symm (off (la, W.listOf cm.toArray na) (by first | top_raise0 | simp)), Ne.symm (off (lc, W.listOf cs.toArray nc) (by first | top_raise0 | simp))⟩
    have h2 : q'.1 ≠ la ∧ q'.1 ≠ lc := by
      rcases List.mem_cons.mp hq' with rfl | hq'
      · exact o1
      · rcases List.mem_cons.mp hq' with rfl | hq'
        · exact ⟨(off3 _ (.head _)).1, (off3 _ (.head _)).2.1⟩
        · rcases List.mem_cons.mp hq' with rfl | hq'
          · exact ⟨(off3 _ (.tail _ (.head _))).1, (off3 _ (.tail _ (.head _))).2.1⟩
          · rcases List.mem_cons.mp hq' with rfl | hq'
            · exact ⟨Ne.symm hL1, Ne.symm hL2⟩
            · exact ⟨(off2 _ hq').1, (off2 _ hq').2.1⟩
    simp only [List.mem_cons, List.mem_nil_iff, or_false] at hp
    rcases hp with rfl | rfl
    · exact Ne.symm h2.1
    · exact Ne.symm h2.2
  intro r foc' h' tk' hZ0 F N' hoff2
  refine byProp fun Pz hPz => ?_
  obtain ⟨ld, ds, nd, rfl, rfl, hDu, hA2⟩ := hZ0
  rw [← hR] at hDu
  clear F2 N
  obtain ⟨T2, hT2⟩ : ∃ T2, T2 = tupsT ds ++ (T1 ++ [(la, W.listOf cm.toArray na), (lc, W.listOf cs.toArray nc)]) := ⟨_, rfl⟩
  have N : News B0 L h' ((ld, W.listOf (refsT ds).toArray nd) :: (D, LCg.lst OU) :: (Dr, ({ cls := .type "tuple", data := .seq #[.bool cB, .ref lr] } : Obj)) :: (lr, W.listOf (refsT ts).toArray nr) :: (L + 1, oc) :: T2) := fun p hp => N' p (by
    rw [hT2] at hp
    refine memIn ?_ hp; top_name)
  have y1 : ld ≠ L + 1 := hoff2 _ (.head _) (L + 1, oc) (by first | top_raise0 | simp)
  have y2 : D ≠ L + 1 := Ne.symm (off (L + 1, oc) (by first | top_raise0 | simp))
  have y3 : Dr ≠ L + 1 := (off3 _ (.head _)).2.2
  have y4 : lr ≠ L + 1 := (off3 _ (.tail _ (.head _))).2.2
  have y5 : ∀ p ∈ T2, p.1 ≠ L + 1 := fun p hp => by
    rw [hT2] at hp
    rcases List.mem_append.mp hp with hp | hp
    · exact hoff2 p (.tail _ (List.mem_append_left _ hp)) (L + 1, oc) (by first | top_raise0 | simp)
    · rcases List.mem_append.mp hp with hp | hp
      · exact (off2 p hp).2.2
      · simp only [List.mem_cons, List.mem_nil_iff, or_false] at hp
        rcases hp with rfl | rfl
        · exact hL1
        · exact hL2
  clear N'
  refine hPz ?_
  clear hPz Pz
  k_steps
  rename Fr _ _ _ _ => F2
  rename News _ _ _ _ => N2
  rename IsRange _ _ _ _ _ _ _ _ => hr
  unfold Hold
  rename_i oc2 _ _ hoc2 _ _ _ _ _ _
  refine byProp fun Pz hPz => ?_
  obtain ⟨T3, hT3⟩ : ∃ T3, T3 = (D, LCg.lst OU) :: (Dr, ({ cls := .type "tuple", data := .seq #[.bool cB, .ref lr] } : Obj)) :: (lr, W.listOf (refsT ts).toArray nr) :: T2 := ⟨_, rfl⟩
  have N3 : News B0 L _ ((ld, W.listOf (refsT ds).toArray nd) :: (L + 1, oc2) :: T3) := fun p hp => N2 p (by
    rw [hT3] at hp
    refine memIn ?_ hp; top_name)
  obtain ⟨LB, hLB⟩ : ∃ LB, LB = (ld, W.listOf (refsT ds).toArray nd) :: (L + 1, oc2) :: T3 := ⟨_, rfl⟩
  rw [← hLB] at N3
  clear N2
  have hdsT : ∀ t ∈ ds, tupT t ∈ LB := fun t ht => by
    rw [hLB, hT3, hT2]
    exact .tail _ (.tail _ (.tail _ (.tail _ (.tail _ (List.mem_append_left _ (List.mem_map_of_mem ht))))))
  have hdl := hDu.len
  refine hPz ?_
  clear hPz Pz
  refine srcRangeCA (n := 12) (news := LB) (fun i ys news => news = LB ∧ IntsAre ys (zs ((List.range i).filter fun p => decide (p ∉ R.flatten)))) rfl F2 N3 hr (by decide +kernel) (by decide +kernel) (by rw [sizeLine_eq]; decide) ⟨rfl, .nil⟩ ?_ ?_
  · intro I i ys news t' oI C oC c oc9 D' m₂ h tk s₂ E' hZ0 hi hZ1 hC hc F N off ne hge
    refine byProp fun Pz hPz => ?_
    obtain ⟨hz9, rfl⟩ := hZ0
    obtain ⟨hnw, hys⟩ := hZ1
    rw [hnw] at N off
    clear F2 N3
    refine hPz ?_
    clear hPz Pz
    refine wpAny_tests_one ?_
    obtain ⟨LI, hLI⟩ : ∃ LI, LI = (I, oI) :: (C, oC) :: (c, oc9) :: (D', LCg.lst ys) :: LB := ⟨_, rfl⟩
    have N0 := N
    have N6 : News B0 L h ((L + 1, oc2) :: (ld, W.listOf (refsT ds).toArray nd) :: (c, oc9) :: LI) := fun p hp => N p (by
      rw [hLI, hLB] at hp
      rw [hLB]
      refine memIn ?_ hp; top_name)
    clear N
    k_steps
    rename Fr _ _ _ _ => F9
    unfold Hold
    obtain ⟨LL, hLL⟩ : ∃ LL, LL = (L + 1, oc2) :: (ld, W.listOf (refsT ds).toArray nd) :: (c, oc9) :: LI := ⟨_, rfl⟩
    rw [← hLL] at N6
    have hldL : (ld, W.listOf (refsT ds).toArray nd) ∈ LL := by rw [hLL]; exact .tail _ (.head _)
    have hccL : (c, oc9) ∈ LL := by rw [hLL]; exact .tail _ (.tail _ (.head _))
    have hdsL : ∀ t ∈ ds, tupT t ∈ LL := fun t ht => by
      rw [hLL, hLI]; exact .tail _ (.tail _ (.tail _ (.tail _ (.tail _ (.tail _ (.tail _ (hdsT t ht)))))))
    refine LCt.CompSrcT.ledger rfl F9 N6 hldL (by simp [refsT]; rw [sizeLine_eq, hdl]; omega) ?_
    intro g'
    refine turnsT (fun i' ys' news => ∃ sel, news = LL ∧ ys' = refsT sel ∧ (∀ t ∈ sel, t ∈ ds) ∧ TuAre sel ((R.take i').filter fun g => decide (i ∈ g))) ?_ ?_ _ 0 [] _ (Nat.zero_add _) ⟨[], rfl, rfl, (fun _ h => nomatch h), .nil⟩
    · intro i' ys' news hi' hZ0 v I' oI' C' oC' D2 m3 h3 tk3 E3 hv hC' hx' F' N' off' ne'
      refine byProp fun Pz hPz => ?_
      obtain ⟨sel, hnw, rfl, hsel, hTs⟩ := hZ0
      rw [hnw] at N' off'
      clear F9 N6
      have hi2 : i' < ds.length := by simpa [refsT] using hi'
      obtain ⟨t, g, ht, hg, htg⟩ := hDu.at hi2
      obtain rfl : v = .ref t.D := by
        have h1 : (refsT ds)[i']? = some v := by simpa using hv
        simp only [refsT, List.getElem?_map, ht, Option.map_some] at h1
        exact (Option.some.inj h1).symm
      have htd := List.mem_of_getElem? ht
      have htL := hdsL t htd
      have N9 := N'
      have N5 : News B0 L h3 ((I', oI') :: (C', oC') :: (D2, LCg.lst (refsT sel)) :: tupT t :: (c, oc9) :: LL) := fun p hp => N' p (by
        refine memIn ?_ hp; top_name)
      clear N'
      obtain ⟨tD, tus⟩ := t
      dsimp only at htg
      have hmu : (tD, tupO tus) ∈ (I', oI') :: (C', oC') :: (D2, LCg.lst (refsT sel)) :: tupT ⟨tD, tus⟩ :: (c, oc9) :: LL := .tail _ (.tail _ (.tail _ (.head _)))
      refine hPz ?_
      clear hPz Pz
      by_cases hki : i ∈ g
      · have hdc : decide (((i : Nat) : Int) ∈ zs g) = true := by rw [decide_eq_true_eq, mem_zs]; exact hki
        k_steps
        rename Fr _ _ _ _ => F4
        refine LCg.CompEnd.intro (h' := h3) F4 N9 LL (fun p hp => hp) off' (.inr ⟨_, hldL, rfl, _, rfl⟩) ⟨sel ++ [⟨tD, tus⟩], rfl, by rw [refsT_snoc], fun t ht => ?_, ?_⟩
        · rcases List.mem_append.mp ht with ht | ht
          · exact hsel t ht
          · rw [List.mem_singleton.mp ht]; exact htd
        · rw [List.take_add_one, hg, List.filter_append]
          have e1 : List.filter (fun g => decide (i ∈ g)) (some g).toList = [g] := by simp [hki]
          rw [e1]
          exact hTs.snoc htg
      · have hdc : decide (((i : Nat) : Int) ∈ zs g) = false := by rw [decide_eq_false_iff_not, mem_zs]; exact hki
        k_steps
        rename Fr _ _ _ _ => F4
        refine LCg.CompEnd.intro (h' := h3) F4 N9 LL (fun p hp => hp) off' (.inr ⟨_, hldL, rfl, _, rfl⟩) ⟨sel, rfl, rfl, hsel, ?_⟩
        rw [List.take_add_one, hg, List.filter_append]
        have e1 : List.filter (fun g => decide (i ∈ g)) (some g).toList = [] := by simp [hki]
        rw [e1, List.append_nil]
        exact hTs
    · intro ys' news hZ0
      refine byProp fun Pz hPz => ?_
      obtain ⟨sel, hnw, rfl, hsel, hTs⟩ := hZ0
      refine hPz ?_
      clear hPz Pz
      unfold LCg.FinE
      intro D8 h8 tk8 F8 N8 o8
      rw [hnw] at N8 o8
      clear F9 N6
      have hsr : (refsT ds).toArray.size = R.length := by simp [refsT]; exact hdl
      rw [hsr, List.take_length] at hTs
      have N5 : News B0 L h8 ((c, oc9) :: (D8, LCg.lst (refsT sel)) :: LL) := fun p hp => N8 p (by
        refine memIn ?_ hp; top_name)
      clear N8
      k_steps
      rename Fr _ _ _ _ => F4
      rename News _ _ _ _ => N4
      rename_i De _ lte
      unfold Hold
      have hend : ∀ p ∈ LI, p ∈ LL := fun p hp => by rw [hLL]; exact .tail _ (.tail _ (.tail _ hp))
      have m1 : (I, oI) ∈ LL := hend _ (by rw [hLI]; first | top_raise0 | simp)
      have m2 : (C, oC) ∈ LL := hend _ (by rw [hLI]; first | top_raise0 | simp)
      have m4 : (D', LCg.lst ys) ∈ LL := hend _ (by rw [hLI]; first | top_raise0 | simp)
      have m5 : ∀ p ∈ LB, p ∈ LL := fun p hp => hend p (by rw [hLI]; exact .tail _ (.tail _ (.tail _ (.tail _ hp))))
      have hN4 : ∀ p ∈ (I, oI) :: (C, oC) :: (c, oc9) :: (D', LCg.lst ys) :: LB, p ∈ (De, W.listOf (List.toArray (refsT [])) 0) :: (c, oc9) :: (D8, LCg.lst (refsT sel)) :: LL := fun p hp => by
        refine .tail _ (.tail _ (.tail _ ?_))
        rcases List.mem_cons.mp hp with rfl | hp
        · exact m1
        · rcases List.mem_cons.mp hp with rfl | hp
          · exact m2
          · rcases List.mem_cons.mp hp with rfl | hp
            · exact hccL
            · rcases List.mem_cons.mp hp with rfl | hp
              · exact m4
              · exact m5 p hp
      have hrg : List.filter (fun p => decide (p ∉ R.flatten)) (List.range (i + 1)) = List.filter (fun p => decide (p ∉ R.flatten)) (List.range i) ++ (if i ∈ R.flatten then [] else [i]) := by
        rw [List.range_succ, List.filter_append]
        congr 1
        by_cases hii : i ∈ R.flatten
        · rw [if_pos hii, List.filter_cons, if_neg (by rw [decide_eq_true_eq]; exact fun h => h hii)]; rfl
        · rw [if_neg hii, List.filter_cons, if_pos (by rw [decide_eq_true_eq]; exact hii)]; rfl
      by_cases hii : i ∈ R.flatten
      · have hne : decide ((R.filter fun g => decide (i ∈ g)) = ([] : List (List Nat))) = false := by rw [decide_eq_false_iff_not]; exact fun e => in_groups.mp e hii
        refine eq_tups (ds := []) (R' := []) N4 (.tail _ (.tail _ (.head _))) (.head _) hTs .nil (fun t ht => .tail _ (.tail _ (.tail _ (hdsL t (hsel t ht))))) (fun _ h => nomatch h) (by simp only [Around.deeper]; omega) hne ?_
        k_steps
        refine ⟨_, _, LB, rfl, F4, fun p hp => N4 p (hN4 p hp), off, trivial, ⟨rfl, ?_⟩⟩
        rw [hrg, if_pos hii, List.append_nil]
        exact hys
      · have hne : decide ((R.filter fun g => decide (i ∈ g)) = ([] : List (List Nat))) = true := by rw [decide_eq_true_eq]; exact in_groups.mpr hii
        refine eq_tups (ds := []) (R' := []) N4 (.tail _ (.tail _ (.head _))) (.head _) hTs .nil (fun t ht => .tail _ (.tail _ (.tail _ (hdsL t (hsel t ht))))) (fun _ h => nomatch h) (by simp only [Around.deeper]; omega) hne ?_
        k_steps
        refine ⟨_, _, LB, rfl, F4, fun p hp => N4 p (hN4 p hp), off, trivial, ⟨rfl, ?_⟩⟩
        rw [hrg, if_neg hii]
        have e3 : zs (List.filter (fun p => decide (p ∉ R.flatten)) (List.range i) ++ [i]) = zs (List.filter (fun p => decide (p ∉ R.flatten)) (List.range i)) ++ [((i : Nat) : Int)] := by simp [zs]
        rw [e3]
        exact hys.append (.cons _ _ .nil)
  · rintro ys news Dc h tk ⟨hnw, hys⟩ F N off
    rw [hnw, hLB, hT3] at N
    rw [hnw] at off
    clear F2 N3 hr
    have hOz : OU.toArray.toList.length ≤ sizeLine := by simp only [List.toList_toArray]; rw [hOutl, sizeLine_eq]; omega
    dsimp only
    k_steps
    rename Fr _ _ _ _ => F2
    rename News _ _ _ _ => N2
    rename_i Dp ps cp _ _ lp hps _ _ Dq cq _ lq _
    unfold Hold
    have hfT2 : ∀ p ∈ frs', p ∈ T2 := fun p hp => by rw [hT2, hT1]; first | top_raise0 | simp [hp]
    have hfT1 : ∀ p ∈ frs', p ∈ T1 := fun p hp => by rw [hT1]; first | top_raise0 | simp [hp]
    have hzO : (zs R.flatten).length ≤ 100 := by simp only [zs, List.length_map]; omega
    have hun1 := unord_run 12 R.flatten [] hX.nd hX.lt
    obtain ⟨T4, hT4⟩ : ∃ T4, T4 = tupsT ds ++ tupsT ts := ⟨_, rfl⟩
    have hT42 : ∀ p ∈ T4, p ∈ T2 := fun p hp => by
      rw [hT4] at hp
      rw [hT2, hT1]
      rcases List.mem_append.mp hp with hp | hp <;> simp [hp]
    refine TellX.useG (foc := [(Dp, W.listOf ps.toArray cp), (Dq, W.listOf OU.toArray cq)]) (news := (Dc, LCg.lst ys) :: (ld, W.listOf (refsT ds).toArray nd) :: (L + 1, oc2) :: (D, LCg.lst OU) :: (lr, W.listOf (refsT ts).toArray nr) :: T4) (fun oL => unord_tell Dp Dq ps OU (zs R.flatten) cp cq ((L, oL) :: frs') (lq _ (.head _)) (fun p hp => ?_) (fun p hp => ?_) hps hOut hzO (by simp only [Around.deeper]; omega)) Fs' X T F2 N2 (fun p hp => ?_) (fun p hp q' hq' => ?_) rfl rfl ?_
    · rcases List.mem_cons.mp hp with rfl | hp
      · exact Ne.symm (N2 _ (.tail _ (.head _))).2.1
      · exact Nat.ne_of_lt (lp p (by have hz := hfT2 p hp; first | top_raise0 | simp [hz]))
    · rcases List.mem_cons.mp hp with rfl | hp
      · exact Ne.symm (N2 _ (.head _)).2.1
      · exact Nat.ne_of_lt (lq p (by have hz := hfT2 p hp; first | top_raise0 | simp [hz]))
    · refine memIn ?_ hp; top_name
    · have hqm : q' ∈ (Dc, LCg.lst ys) :: (ld, W.listOf (refsT ds).toArray nd) :: (L + 1, oc2) :: (D, LCg.lst OU) :: (Dr, ({ cls := .type "tuple", data := .seq #[.bool cB, .ref lr] } : Obj)) :: (lr, W.listOf (refsT ts).toArray nr) :: T2 := by
        refine memIn ?_ hq'; top_name
      rcases List.mem_append.mp hp with hp | hp
      · rcases List.mem_cons.mp hp with rfl | hp
        · exact Ne.symm (Nat.ne_of_lt (lp q' hqm))
        · rw [List.mem_singleton.mp hp]
          exact Ne.symm (Nat.ne_of_lt (lq q' (.tail _ hqm)))
      · have hp1 := hfT1 p hp
        exact ne_c (off p (by have hz := hfT2 p hp; rw [hLB, hT3]; first | top_raise0 | simp [hz])) (ne_c (Ne.symm (hoff2 (ld, W.listOf (refsT ds).toArray nd) (.head _) p (by first | top_raise0 | simp [hp1]))) (ne_c (y5 p (hfT2 p hp)) (ne_c (offD p (by first | top_raise0 | simp [hp1])) (ne_c (Ne.symm (hoff (lr, W.listOf (refsT ts).toArray nr) (by first | top_raise0 | simp) p (by first | top_raise0 | simp [hp]))) (fun q' hh => by
          rw [hT4] at hh
          rcases List.mem_append.mp hh with hh | hh
          · exact Ne.symm (hoff2 q' (by first | top_raise0 | simp [hh]) p (by first | top_raise0 | simp [hp1]))
          · exact Ne.symm (hoff q' (by first | top_raise0 | simp [hh]) p (by first | top_raise0 | simp [hp]))))))) q' hq'
    intro r foc' frs2 h' tk' hZ0 SU2 Fs2 F N' hoff3
    refine byProp fun Pz hPz => ?_
    obtain ⟨lt, lm, ms, nm, nu, vs, nv, rfl, rfl, hms, hvs, hl1, hl2⟩ := hZ0
    rw [hun1] at hms hvs
    obtain rfl := hvs.nil_inv
    clear F2 N2
    dsimp only at hms
    have N : News B0 L h' ((lt, ({ cls := .type "tuple", data := .seq #[.ref lm, .ref Dq] } : Obj)) :: (lm, W.listOf (List.toArray ms) nm) :: (Dp, W.listOf #[] nu) :: (Dq, W.listOf #[] nv) :: (Dc, LCg.lst ys) :: (ld, W.listOf (refsT ds).toArray nd) :: (L + 1, oc2) :: (D, LCg.lst OU) :: (lr, W.listOf (refsT ts).toArray nr) :: (T4 ++ frs2)) := fun p hp => N' p (by
      refine memIn ?_ hp; top_name)
    clear N'
    refine hPz ?_
    clear hPz Pz
    k_steps
    rename Fr _ _ _ _ => F2
    rename News _ _ _ _ => N2
    rename_i Dv wv _ hwv _ lv
    unfold Hold
    have hmsr : decide (([] ++ List.map (fun k : Nat => (k : Int)) (List.filter (fun p => decide (p ∉ R.flatten)) (List.range 12)).reverse) = (zs (List.filter (fun p => decide (p ∉ R.flatten)) (List.range 12))).reverse) = true := by
      rw [decide_eq_true_eq, List.nil_append, List.map_reverse]
    refine li_eq N2 (.tail _ (.tail _ (.head _))) (.head _) hms hwv (by simp only [Around.deeper]; omega) hmsr ?_
    k_steps
    rename Fr _ _ _ _ => F3
    rename News _ _ _ _ => N3
    unfold Hold
    refine li_eq (us := []) (vs := []) (c := true) N3 (.tail _ (.tail _ (.tail _ (.tail _ (.tail _ (.head _)))))) (.head _) .nil .nil (by simp only [Around.deeper]; omega) rfl ?_
    k_steps
    rename Fr _ _ _ _ => F5
    rename News _ _ _ _ => N5
    unfold Hold
    refine li_eq (us := []) (vs := []) (c := true) N5 (.tail _ (.tail _ (.tail _ (.tail _ (.tail _ (.head _)))))) (.head _) .nil .nil (by simp only [Around.deeper]; omega) rfl ?_
    k_steps
    rename Fr _ _ _ _ => F6
    rename News _ _ _ _ => N6
    rename_i Dz _ lz
    unfold Hold
    have hcz : (!decide (zs (closedF R.flatten) = ([] : List Int))) = cB := by
      have e1 : (zs (closedF R.flatten) = ([] : List Int)) ↔ closedF R.flatten = [] := by
        unfold zs; rw [List.map_eq_nil_iff]
      cases hc : cB with
      | true =>
        have := hcB'.mp hc
        rw [Bool.not_eq_true', decide_eq_false_iff_not, e1]; exact this
      | false =>
        rw [Bool.not_eq_false', decide_eq_true_eq, e1]
        exact Classical.byContradiction fun h => by rw [hcB'.mpr h] at hc; cases hc
    have hT4o : ∀ t ∈ ds, tupT t ∈ T4 := fun t ht => by rw [hT4]; exact List.mem_append_left _ (List.mem_map_of_mem ht)
    have hT4o2 : ∀ t ∈ ts, tupT t ∈ T4 := fun t ht => by rw [hT4]; exact List.mem_append_right _ (List.mem_map_of_mem ht)
    have N7 : News B0 L _ ((Dz, W.listOf #[] 0) :: (Dc, LCg.lst ys) :: (ld, W.listOf (refsT ds).toArray nd) :: (L + 1, oc2) :: (D, LCg.lst OU) :: (lr, W.listOf (refsT ts).toArray nr) :: (T4 ++ frs2)) := fun p hp => N6 p (by
      refine memIn ?_ hp; top_name)
    clear N6
    refine li_ne (vs := []) N7 (.tail _ (.head _)) (.head _) hys .nil (by simp only [Around.deeper]; omega) hcz ?_
    walk1
    have hbb : (cB == cB) = true := by cases cB <;> rfl
    rw [hbb]
    k_steps
    rename Fr _ _ _ _ => F8
    rename News _ _ _ _ => N8
    unfold Hold
    refine eq_tups N8 (.tail _ (.tail _ (.tail _ (.tail _ (.tail _ (.head _)))))) (.tail _ (.tail _ (.head _))) hTu hDu (fun t ht => .tail _ (.tail _ (.tail _ (.tail _ (.tail _ (.tail _ (List.mem_append_left _ (hT4o2 t ht)))))))) (fun t ht => .tail _ (.tail _ (.tail _ (.tail _ (.tail _ (.tail _ (List.mem_append_left _ (hT4o t ht)))))))) (by simp only [Around.deeper]; omega) (c := true) (by rw [decide_eq_true_eq]) ?_
    have hO64 : (zs R.flatten).length < 64 := by simp only [zs, List.length_map]; omega
    k_steps
    rename Fr _ _ _ _ => F9
    rename News _ _ _ _ => N9
    rename_i Dl ul cl _ _ _ _ ll hul Ds vs2 n2 c2 _ ls hvs2 hn2 hp2 ho2 _
    unfold Hold
    have hmem2 : ∀ a : Int, a ∈ n2 ↔ ∃ k : Nat, k ∈ R.flatten ∧ a = (k : Int) := fun a => by
      rw [hp2.mem_iff]
      unfold zs
      rw [List.mem_map]
      exact ⟨fun ⟨k, h1, h2⟩ => ⟨k, h1, h2.symm⟩, fun ⟨k, h1, h2⟩ => ⟨k, h1, h2.symm⟩⟩
    have hnd2 : n2.Nodup := hp2.nodup_iff.mpr (nodup_zs hX.nd)
    have hlt2 : n2.Pairwise (· < ·) := (hnd2.and ho2).imp fun ⟨h1, h2⟩ => by omega
    have hf2 : (upTo 12).filter (fun a => decide (a ∉ n2)) = zs (closedF R.flatten) := by
      unfold upTo zs closedF
      rw [List.filter_map]
      congr 1
      refine List.filter_congr fun p hp => ?_
      show decide (((p : Nat) : Int) ∉ n2) = decide (p ∉ R.flatten)
      rw [decide_eq_decide, hmem2]
      refine ⟨fun h hm => h ⟨p, hm, rfl⟩, fun h he => ?_⟩
      refine byProp fun Pz hPz => ?_
      obtain ⟨k, h1, h2⟩ := he
      have h3 : p = k := by exact_mod_cast h2
      refine hPz ?_
      clear hPz Pz
      exact h (by rw [h3]; exact h1)
    have hfr2 : ∀ p ∈ frs2, p.1 ≠ Dc := fun p hp => by
      have h9 : p.1 ∈ frs'.map (·.1) := by rw [SameUp.addr SU2]; exact List.mem_map_of_mem hp
      refine byProp fun Pz hPz => ?_
      obtain ⟨p', hp', e⟩ := List.mem_map.mp h9
      refine hPz ?_
      clear hPz Pz
      rw [← e]
      exact off p' (by have hz := hfT2 p' hp'; rw [hLB, hT3]; first | top_raise0 | simp [hz])
    refine TellX.useG (foc := [(Dl, W.listOf ul.toArray cl), (Ds, W.listOf vs2.toArray c2)]) (news := [(Dc, LCg.lst ys)]) (fun oL => sdiff_tell Dl Ds ul vs2 n2 cl c2 ((L, oL) :: frs2) (ls _ (.head _)) (fun p hp => ?_) (fun p hp => ?_) hul hvs2 (by rw [hn2]; exact hzO) hlt2 (fun a ha => ?_) (fun a ha => ?_) (by simp only [Around.deeper]; omega)) Fs2 X T F9 N9 (fun p hp => ?_) (fun p hp q' hq' => ?_) rfl rfl ?_
    · rcases List.mem_cons.mp hp with rfl | hp
      · exact Ne.symm (N9 _ (.tail _ (.head _))).2.1
      · exact Nat.ne_of_lt (ll p (by first | top_raise0 | simp [hp]))
    · rcases List.mem_cons.mp hp with rfl | hp
      · exact Ne.symm (N9 _ (.head _)).2.1
      · exact Nat.ne_of_lt (ls p (by first | top_raise0 | simp [hp]))
    · obtain ⟨k, _, rfl⟩ := (hmem2 a).mp ha; omega
    · obtain ⟨k, hk, rfl⟩ := (hmem2 a).mp ha
      have := hX.lt k hk
      omega
    · refine memIn ?_ hp; top_name
    · rw [List.mem_singleton.mp hq']
      rcases List.mem_append.mp hp with hp | hp
      · rcases List.mem_cons.mp hp with rfl | hp
        · exact Ne.symm (Nat.ne_of_lt (ll (Dc, LCg.lst ys) (by first | top_raise0 | simp)))
        · rw [List.mem_singleton.mp hp]
          exact Ne.symm (Nat.ne_of_lt (ls (Dc, LCg.lst ys) (by first | top_raise0 | simp)))
      · exact hfr2 p hp
    intro r foc' frs3 h' tk' hZ0 SU3 Fs3 F N' hoff4
    refine byProp fun Pz hPz => ?_
    obtain ⟨lt2, lm2, lu2, ms2, uu2, nm2, nu2, rfl, rfl, hms2, huu2, hl5, hl6⟩ := hZ0
    rw [hf2] at hms2
    obtain rfl := huu2.nil_inv
    clear F9 N9
    have N : News B0 L h' ((lt2, ({ cls := .type "tuple", data := .seq #[.ref lm2, .ref lu2] } : Obj)) :: (lm2, W.listOf (List.toArray ms2) nm2) :: (lu2, W.listOf #[] nu2) :: (Dc, LCg.lst ys) :: frs3) := fun p hp => N' p (by
      refine memIn ?_ hp; top_name)
    clear N'
    refine hPz ?_
    clear hPz Pz
    k_steps
    rename Fr _ _ _ _ => Fa
    rename News _ _ _ _ => Na
    unfold Hold
    have hys9 : IntsAre ys (zs (closedF R.flatten)) := hys
    refine eq_dataH (da := .tuple [.list ((zs (closedF R.flatten)).map PyData.int), .list []]) (db := .tuple [.list ((zs (closedF R.flatten)).map PyData.int), .list []])
      (reads_tuple_at (Na.get (.tail _ (.tail _ (.head _)))) rfl rfl (ReadsAll.cons (reads_list_at (Na.get (.tail _ (.tail _ (.tail _ (.head _))))) rfl rfl ((ke_carried hms2).reads _)) (ReadsAll.cons (reads_list_at (Na.get (.tail _ (.tail _ (.tail _ (.tail _ (.head _)))))) rfl rfl ReadsAll.nil) ReadsAll.nil)))
      (reads_tuple_at (Na.get (.head _)) rfl rfl (ReadsAll.cons (reads_list_at (Na.get (.tail _ (.tail _ (.tail _ (.tail _ (.tail _ (.head _))))))) rfl rfl ((ke_carried hys9).reads _)) (ReadsAll.cons (reads_list_at (Na.get (.tail _ (.head _))) rfl rfl ReadsAll.nil) ReadsAll.nil)))
      (pair_shaped _) (pair_shaped _) (by simp only [Around.deeper]; omega) ?_
    have heq : PyData.eqv (.tuple [.list ((zs (closedF R.flatten)).map PyData.int), .list []]) (.tuple [.list ((zs (closedF R.flatten)).map PyData.int), .list []]) = true := pair_eqv _
    rw [heq]
    k_steps
    subst hB0
    exact fin O DL hapR hQ frs3 ⟨[], frs3, rfl, (SU.trans SU2).trans SU3, (fun _ h => nomatch h), rfl⟩ Fa Na fun p hp => by simp [hp]
end
end -- MTd
example : True := by first | (w_top off; walk1) | trivial
section -- MZ5
/- plain: the turns -/
/-- the place from its word's end -/
noncomputable def sg (w p : Nat) : Nat := p + w - 1 - 2 * (p % w)
noncomputable def WN (w : Nat) : Prop := w = 1 ∨ w = 2 ∨ w = 3 ∨ w = 4 ∨ w = 6 ∨ w = 12
theorem wn (v : Int) : WN (widthOf v).toNat := by
  rcases w12 v with h | h | h | h | h | h <;> rw [h] <;> simp [WN]
theorem sg_all : ∀ w ∈ [1, 2, 3, 4, 6, 12], ∀ p, p < 12 → sg w p < 12 ∧ sg w (sg w p) = p := by decide +kernel
theorem sg_lt {w p : Nat} (h : WN w) (hp : p < 12) : sg w p < 12 := (sg_all w (by unfold WN at h; simpa using h) p hp).1
theorem sg_sg {w p : Nat} (h : WN w) (hp : p < 12) : sg w (sg w p) = p := (sg_all w (by unfold WN at h; simpa using h) p hp).2
theorem swap_at {b : Array UInt8} {w p : Nat} (hp : p < 12) : (swapA b w).getD p 0 = b.getD (sg w p) 0 := by
  unfold swapA sg
  rw [Array.getD_eq_getD_getElem?, Array.getElem?_eq_getElem (by simpa using hp)]
  simp
theorem swap_swap {b : Array UInt8} {w : Nat} (h : WN w) (hb : b.size = 12) : swapA (swapA b w) w = b := by
  refine Array.ext (by rw [swapA_size, hb]) fun p h1 h2 => ?_
  have hp : p < 12 := by rw [hb] at h2; exact h2
  have e1 := swap_at (b := swapA b w) (w := w) hp
  rw [swap_at (sg_lt h hp), sg_sg h hp] at e1
  rw [Array.getD_eq_getD_getElem?, Array.getD_eq_getD_getElem?, Array.getElem?_eq_getElem h1, Array.getElem?_eq_getElem h2] at e1
  simpa using e1
/-- the places that the turns come to, the last turn first -/
noncomputable def sgs : List Nat → Nat → Nat
  | [], p => p
  | w :: ws, p => sgs ws (sg w p)
noncomputable def wOf (vs : List Int) : List Nat := vs.map fun v => (widthOf v).toNat
noncomputable def lastOf (b : Array UInt8) (vs : List Int) : Array UInt8 := vs.foldl (fun b v => swapA b (widthOf v).toNat) b
theorem turns_last (b : Array UInt8) (vs : List Int) : ∃ bs, turnsOf b vs = bs ++ [lastOf b vs] := by
  induction vs generalizing b with
  | nil => exact ⟨[], rfl⟩
  | cons v vs ih =>
    obtain ⟨bs, e⟩ := ih (swapA b (widthOf v).toNat)
    exact ⟨b :: bs, by rw [turnsOf, e]; rfl⟩
theorem last_at {b : Array UInt8} (us : List Int) {p : Nat} (hp : p < 12) : (lastOf b us.reverse).getD p 0 = b.getD (sgs (wOf us) p) 0 := by
  induction us generalizing p with
  | nil => rfl
  | cons u us ih =>
    have e : lastOf b (u :: us).reverse = swapA (lastOf b us.reverse) (widthOf u).toNat := by
      unfold lastOf
      rw [List.reverse_cons, List.foldl_append]
      rfl
    rw [e, swap_at hp, ih (sg_lt (wn u) hp)]
    rfl
theorem sgs_lt (vs : List Int) {p : Nat} (hp : p < 12) : sgs (wOf vs) p < 12 := by
  induction vs generalizing p with
  | nil => exact hp
  | cons v vs ih => exact ih (sg_lt (wn v) hp)
theorem sgs_inj (vs : List Int) {p p' : Nat} (hp : p < 12) (hp' : p' < 12) (h : sgs (wOf vs) p = sgs (wOf vs) p') : p = p' := by
  induction vs generalizing p p' with
  | nil => exact h
  | cons v vs ih =>
    have e := ih (sg_lt (wn v) hp) (sg_lt (wn v) hp') h
    rw [← sg_sg (wn v) hp, ← sg_sg (wn v) hp', e]
theorem lastOf_size {b : Array UInt8} (hb : b.size = 12) (vs : List Int) : (lastOf b vs).size = 12 := by
  induction vs generalizing b with
  | nil => exact hb
  | cons v vs ih => exact ih (swapA_size _ _)
/-- turned once more, the last turn first, all lies as before -/
theorem turns_back {b : Array UInt8} (hb : b.size = 12) (vs : List Int) : turnsOf (lastOf b vs) vs.reverse = (turnsOf b vs).reverse := by
  have gen : ∀ (vs ws : List Int) (b : Array UInt8), b.size = 12 → turnsOf (lastOf b vs) (vs.reverse ++ ws) = ((turnsOf b vs).reverse.dropLast) ++ turnsOf b ws := by
    intro vs
    induction vs with
    | nil => intro ws b _; simp [lastOf, turnsOf]
    | cons v vs ih =>
      intro ws b hb
      have h1 := ih (v :: ws) (swapA b (widthOf v).toNat) (swapA_size _ _)
      rw [List.reverse_cons, List.append_assoc, List.singleton_append]
      show turnsOf (lastOf (swapA b (widthOf v).toNat) vs) (vs.reverse ++ v :: ws) = _
      rw [h1, turnsOf, turnsOf, swap_swap (wn v) hb, List.reverse_cons, List.dropLast_concat]
      have hne : (turnsOf (swapA b (widthOf v).toNat) vs).reverse = (turnsOf (swapA b (widthOf v).toNat) vs).reverse.dropLast ++ [swapA b (widthOf v).toNat] := by
        cases vs with
        | nil => simp [turnsOf]
        | cons v' vs' => simp [turnsOf]
      conv => rhs; rw [hne]
      simp
  have := gen vs [] b hb
  rw [List.append_nil] at this
  rw [this]
  cases vs with
  | nil => simp [turnsOf]
  | cons v vs => simp [turnsOf]
theorem goBack_sg {p : Nat} (hp : p < 12) (v : Int) : goBack (p : Int) v = ((sg (widthOf v).toNat p : Nat) : Int) := by
  have h1 : ∀ p, p < 12 → ((p : Nat) : Int) + 1 - 1 - 2 * Int.fmod (p : Int) 1 = ((sg 1 p : Nat) : Int) := by decide
  have h2 : ∀ p, p < 12 → ((p : Nat) : Int) + 2 - 1 - 2 * Int.fmod (p : Int) 2 = ((sg 2 p : Nat) : Int) := by decide
  have h3 : ∀ p, p < 12 → ((p : Nat) : Int) + 3 - 1 - 2 * Int.fmod (p : Int) 3 = ((sg 3 p : Nat) : Int) := by decide
  have h4 : ∀ p, p < 12 → ((p : Nat) : Int) + 4 - 1 - 2 * Int.fmod (p : Int) 4 = ((sg 4 p : Nat) : Int) := by decide
  have h6 : ∀ p, p < 12 → ((p : Nat) : Int) + 6 - 1 - 2 * Int.fmod (p : Int) 6 = ((sg 6 p : Nat) : Int) := by decide
  have h12 : ∀ p, p < 12 → ((p : Nat) : Int) + 12 - 1 - 2 * Int.fmod (p : Int) 12 = ((sg 12 p : Nat) : Int) := by decide
  unfold goBack
  rcases w12 v with h | h | h | h | h | h <;> rw [h]
  · exact h1 p hp
  · exact h2 p hp
  · exact h3 p hp
  · exact h4 p hp
  · exact h6 p hp
  · exact h12 p hp
theorem pl_sgs {p : Nat} (hp : p < 12) (v0 v1 v2 v3 v4 : Int) : pl (p : Int) v0 v1 v2 v3 v4 5 = ((sgs (wOf [v4, v3, v2, v1, v0]) p : Nat) : Int) := by
  have a1 := sg_lt (wn v4) hp
  have a2 := sg_lt (wn v3) a1
  have a3 := sg_lt (wn v2) a2
  have a4 := sg_lt (wn v1) a3
  show goBack (goBack (goBack (goBack (goBack (p : Int) v4) v3) v2) v1) v0 = _
  rw [goBack_sg hp, goBack_sg a1, goBack_sg a2, goBack_sg a3, goBack_sg a4]
  rfl
theorem rows_back {b b1 b2 b3 b4 b5 c1 c2 c3 c4 c5 : Array UInt8} {v0 v1 v2 v3 v4 : Int} (hb : b.size = 12) (h : turnsOf b [v0, v1, v2, v3, v4] = [b, b1, b2, b3, b4, b5]) (h2 : turnsOf b5 [v4, v3, v2, v1, v0] = [b5, c1, c2, c3, c4, c5]) :
    c1 = b4 ∧ c2 = b3 ∧ c3 = b2 ∧ c4 = b1 ∧ c5 = b ∧ b5 = lastOf b [v0, v1, v2, v3, v4] := by
  have e5 : b5 = lastOf b [v0, v1, v2, v3, v4] := by
    obtain ⟨bs, e⟩ := turns_last b [v0, v1, v2, v3, v4]
    rw [h] at e
    have := congrArg (fun l => l.getLast?) e
    simpa using this
  have e := turns_back hb [v0, v1, v2, v3, v4]
  rw [← e5, h] at e
  have e' : turnsOf b5 [v4, v3, v2, v1, v0] = [b5, b4, b3, b2, b1, b] := e
  rw [h2] at e'
  simp only [List.cons.injEq, and_true, true_and] at e'
  obtain ⟨x1, x2, x3, x4, x5⟩ := e'
  exact ⟨x1, x2, x3, x4, x5, e5⟩
theorem up_at {p : Nat} (hp : p < 12) : ((upBytes 12).getD p 0).toNat = p := by
  have : ∀ p, p < 12 → ((upBytes 12).getD p 0).toNat = p := by decide +kernel
  exact this p hp
/-- the octets at last, told by going back -/
theorem last_perm {v0 v1 v2 v3 v4 : Int} {p : Nat} (hp : p < 12) : ((lastOf (upBytes 12) [v0, v1, v2, v3, v4]).getD p 0).toNat = sgs (wOf [v4, v3, v2, v1, v0]) p := by
  have e := last_at (b := upBytes 12) [v4, v3, v2, v1, v0] hp
  have e' : (lastOf (upBytes 12) [v0, v1, v2, v3, v4]).getD p 0 = (upBytes 12).getD (sgs (wOf [v4, v3, v2, v1, v0]) p) 0 := e
  rw [e', up_at (sgs_lt _ hp)]
theorem came_ints (v0 v1 v2 v3 v4 : Int) : (rangeKs 0 (12 - 0 : Int).toNat).map (fun k => pl k v0 v1 v2 v3 v4 5) = ((List.range 12).map (sgs (wOf [v4, v3, v2, v1, v0]))).map fun (i : Nat) => (i : Int) := by
  have e : rangeKs 0 (12 - 0 : Int).toNat = (List.range 12).map fun (i : Nat) => (i : Int) := by decide
  rw [e, List.map_map, List.map_map]
  refine List.map_congr_left fun p hp => ?_
  exact pl_sgs (List.mem_range.mp hp) v0 v1 v2 v3 v4
theorem last_ints (v0 v1 v2 v3 v4 : Int) : ((lastOf (upBytes 12) [v0, v1, v2, v3, v4]).toList.map fun x => ((x.toNat : Nat) : Int)) = ((List.range 12).map (sgs (wOf [v4, v3, v2, v1, v0]))).map fun (i : Nat) => (i : Int) := by
  have hz := lastOf_size (upBytes_size 12) [v0, v1, v2, v3, v4]
  refine List.ext_getElem (by simp [hz]) fun j h1 h2 => ?_
  have hj : j < 12 := by simpa [hz] using h1
  have e := last_perm (v0 := v0) (v1 := v1) (v2 := v2) (v3 := v3) (v4 := v4) hj
  rw [Array.getD_eq_getD_getElem?, Array.getElem?_eq_getElem (by rw [hz]; exact hj)] at e
  simp only [List.getElem_map, List.getElem_range, Array.getElem_toList]
  rw [← e]
  rfl
end -- MZ5
example : True := by first | (w_top off; walk1) | trivial
section -- MLw
open TI (Frs SameUp)
section
variable {w : World} {dp un : Nat} {fr : Option (List Env)} {gd : Option (List Code)} {h₀ : Heap} {s : Shared}
theorem enterKC {foc : List (Addr × Obj)} {R : Result → Shared → Prop} {name qual : Str} {params : Arguments} {body : List Stmt} {scope : Scope} {dV kV doc pm cdv ct oc : Value} {an od : Option Addr} {osl : Array (Option Value)} {f : Addr} {args : Args} {binds : List (Str × Value)}
    (S : Stat w h₀) (O : Kp h₀ s.heap) (D : Led h₀ s.heap foc)
    (ho : (hd.heap_1 w.params).lookup f = some ⟨oc, od, .func (fnOf name qual params body scope dV kV doc pm an cdv ct), osl⟩) (hcd : codeIn (hd.heap_1 w.params) cdv qual = true) (hroom : dp < recursionLimit)
    (hbind : BindsTo s (fnOf name qual params body scope dV kV doc pm an cdv ct) args binds) (hkind : (binds.all fun y => scope.names.lookup y.1 == some .local || scope.names.lookup y.1 == some .cell) = true)
    (hnd : ((cellsFrom 0 scope.names []).map (·.1)).Nodup)
    (h : ∀ L h₁ tk cells mean mg mb, (hd.heap_1 w.params).In (under s.heap foc) → Top Vw Lo mean mg mb (under s.heap foc) → Fr (under s.heap foc) L h₁ (bindL (envOfC qual scope L f cdv).kindOf binds fun _ => none) → News (under s.heap foc) L h₁ (cells ++ foc) →
      CellsAre (bindC (envOfC qual scope L f cdv).kindOf binds fun _ => none) (cellsFrom (L + 1) scope.names []) cells → (∀ p ∈ foc, p.1 < L) →
      wpC (model Pg w) ((mkA dp fr gd un).deeper (envOfC qual scope L f cdv)) (execs body (envOfC qual scope L f cdv))
        (fun fl s' => R (.ok (.ret (match fl with | .ret v => v | _ => .none))) s')
        (fun _ _ => False)
        { s with heap := h₁, toks := tk })
    (hco : scope.isCoroutine = false) (hgen : scope.isGenerator = false) (hk : scope.kind = .function) : codeC (model Pg w) (mkA dp fr gd un) (.call (.ref f) args) R s := by
  have SU := under_stat S O D
  obtain ⟨X₀, mean, mg, mb, T⟩ := S
  have X := X₀.keeps O.keep
  obtain ⟨XU, mean', mg', mb', TU⟩ := SU
  refine codeC_call_function hroom (X _ _ ho) rfl hco hgen rfl (codeRec_of X hcd) (hbind _ _ _ _ ?_)
  refine wpAny_newFunctionEnv_cells hk (kindsX hkind _) fun env' he s' x => ?_
  subst he
  refine ⟨(T.nolimit.keeps O.keep).keeps x.toInCall.keep, codeC_func ?_⟩
  obtain ⟨h₁, tk, rfl, _⟩ := x.done
  have hk₁ := x.toInCall.keep
  obtain ⟨cells, NC, Y⟩ := Cl.news (h₀ := s.heap) (Nat.le_refl _) fun n c hm => ⟨x.cell n c (lookup_of_mem_nodup (cellsFrom_names scope.names 0 (s.heap.objs.size + 1) [] [] rfl ▸ hnd) hm), x.above n c hm⟩
  refine h s.heap.objs.size h₁ tk cells mean' mg' mb' XU TU ⟨x.toInCall.ns, fun b o e => hk₁ b o (under_of e), Nat.le_of_eq (hideAll_size _ _)⟩ (fun p hp => ?_) Y (fun p hp => D.lt p hp)
  rcases List.mem_append.mp hp with hp | hp
  · refine ⟨(NC p hp).1, (NC p hp).2.1, ?_⟩
    cases q : (under s.heap foc).get? p.1 with
    | none => rfl
    | some o => have := under_of q; rw [(NC p hp).2.2] at this; cases this
  · exact ⟨hk₁ _ _ (D p hp).1, Nat.ne_of_lt (D.lt p hp), under_none hp⟩
end
section
variable {w : World} {dp un : Nat} {gd : Option (List Code)} {h₀ : Heap} {s : Shared}
structure MarkR : Prop where
  x : True
theorem use_values {a : Addr} {vs : List Value} {ns : List Int} {fr : Option (List Env)} (hl : h₀.IsList a vs.toArray) (hi : IntsAre vs ns) (hlen : ns.length ≤ 63) {L : Addr} {m : Str → Option Value} {news : List (Addr × Obj)} {mean : ExcName → Option Value} {mg mb : Str → Option Value} {Q E : Value → Shared → Prop} (hdp : dp + 6 < recursionLimit)
    (X : (hd.heap_1 w.params).In h₀) (T : Top Vw Lo mean mg mb h₀) (F : Fr h₀ L s.heap m) (N : News h₀ L s.heap news)
    (hQ : ∀ l v0 v1 v2 v3 v4 t0 t1 t2 t3 t4 n h' tk', Fr h₀ L h' m → News h₀ L h' ((l, W.listOf #[.int v0 t0, .int v1 t1, .int v2 t2, .int v3 t3, .int v4 t4] n) :: news) → (∀ p ∈ news, p.1 ≠ l) → Q (.ref l) { s with heap := h', toks := tk' }) : wpAny (model Pg w) (mkA dp fr gd un) (call (.ref 172) [.ref a]) Q E s := by
  refine (values_tell a vs ns hl hi hlen hdp).use0 X T F N fun r new h' tk' hp F' N' hne => ?_
  obtain ⟨l, v0, v1, v2, v3, v4, t0, t1, t2, t3, t4, n, rfl, rfl⟩ := hp
  exact hQ l v0 v1 v2 v3 v4 t0 t1 t2 t3 t4 n h' tk' F' N' fun p hp => (hne _ (.head _) p hp).symm
theorem bytes_r12 {prog : Program} {A : Around} {E : Value → Shared → Prop} {L r : Addr} {m : Str → Option Value} {news : List (Addr × Obj)} {t u v : Tok} {Q : Value → Shared → Prop} (hh : A.handled = none) (F : Fr h₀ L s.heap m) (N : News h₀ L s.heap news) (hr : IsRange s.heap r 0 12 1 t u v)
    (h : ∀ h' t' k, Fr h₀ L h' m → News h₀ L h' news → Q (.bytes (upBytes 12) t') { s with heap := h', toks := k }) : wpAny (model prog w) A (call (.type "bytes") [.ref r]) Q E s :=
  call_bytes_range hh hr fun h' t' k hk => h h' t' k (fr_keep F hk) fun p hp => ⟨hk _ _ (N p hp).1, (N p hp).2⟩
theorem use_came {p v0 v1 v2 v3 v4 : Int} {tp t0 t1 t2 t3 t4 : Tok} {lv : Addr} {n : Nat} {fr : Option (List Env)} {L : Addr} {m : Str → Option Value} {led : List (Addr × Obj)} {mean : ExcName → Option Value} {mg mb : Str → Option Value} {Q E : Value → Shared → Prop} (hdp : dp + 4 < recursionLimit)
    (X : (hd.heap_1 w.params).In h₀) (T : Top Vw Lo mean mg mb h₀) (F : Fr h₀ L s.heap m) (N : News h₀ L s.heap led) (hm : (lv, W.listOf #[.int v0 t0, .int v1 t1, .int v2 t2, .int v3 t3, .int v4 t4] n) ∈ led)
    (hQ : ∀ t h' tk', Fr h₀ L h' m → News h₀ L h' led → Q (.int (pl p v0 v1 v2 v3 v4 5) t) { s with heap := h', toks := tk' }) : wpAny (model Pg w) (mkA dp fr gd un) (call (.ref 205) [.int p tp, .ref lv]) Q E s := by
  refine (came_tell p v0 v1 v2 v3 v4 tp t0 t1 t2 t3 t4 lv n hdp).useR X T F N (fun q hq => by rw [List.mem_singleton.mp hq]; exact hm) (fun r foc' h => h.1) fun r h' tk' h F' N' => ?_
  obtain ⟨_, t, rfl⟩ := h
  exact hQ t h' tk' F' N'
theorem use_open {a : Addr} {vs : List Value} {ns : List Int} {fr : Option (List Env)} (hl : h₀.IsList a vs.toArray) (hi : IntsAre vs ns) (hlen : ns.length ≤ 63) {L : Addr} {m : Str → Option Value} {news : List (Addr × Obj)} {mean : ExcName → Option Value} {mg mb : Str → Option Value} {Q E : Value → Shared → Prop} (hdp : dp + 6 < recursionLimit)
    (X : (hd.heap_1 w.params).In h₀) (T : Top Vw Lo mean mg mb h₀) (F : Fr h₀ L s.heap m) (N : News h₀ L s.heap news)
    (hQ : ∀ l us n h' tk', ∀ q : Nat → Bool, Fr h₀ L h' m → News h₀ L h' ((l, W.listOf (List.toArray us) n) :: news) → (∀ p ∈ news, p.1 ≠ l) → IntsAre us (zs ((List.range 12).filter q)) → Q (.ref l) { s with heap := h', toks := tk' }) : wpAny (model Pg w) (mkA dp fr gd un) (call (.ref 184) [.ref a]) Q E s := by
  refine (open_tell a vs ns hl hi hlen hdp).use0 X T F N fun r new h' tk' hp F' N' hne => ?_
  obtain ⟨l, its, n, q, rfl, rfl, hI⟩ := hp
  obtain ⟨us, rfl⟩ : ∃ us : List Value, its = us.toArray := ⟨its.toList, by simp⟩
  exact hQ l us n h' tk' q F' N' (fun p hp => (hne _ (.head _) p hp).symm) hI
local macro_rules | `(tactic| walk_at "CompSrc") => `(tactic| (k_here; (rename MarkR => mk9); refine hold_it ?_))
theorem law_tell (a : Addr) (vs : List Value) (ns : List Int) (hl : h₀.IsList a vs.toArray) (hi : IntsAre vs ns) (hlen : ns.length ≤ 63) (hdp : dp + 80 < recursionLimit) (hun : un + 320 < cLine) :
    TellC w (mkA dp (some []) gd un) h₀ s [] (call (.ref 227) [.ref a]) (fun r _ => r = .bool true) := by
  intro rest Q E S O D hap hQ
  refine wpC_call (enterKC S O (D.sub (List.subset_append_left _ _)) (by k_is) (by k_is) (by omega) (binds := [(Str.ofString "script", .ref a)]) (BindsTo.of_eq rfl) rfl (by decide +kernel) ?_ rfl rfl rfl)
  intro L h₁ tk cells mean mg mb X T F N Y hlt
  have hlU : (under s.heap []).IsList a vs.toArray := hl.at fun o e => under_get (O.keep _ o e) (by simp)
  obtain ⟨B0, hB0⟩ : ∃ B0, B0 = under s.heap [] := ⟨_, rfl⟩
  rw [← hB0] at X T F N hlU
  k_cells Y
  simp only [List.cons_append, List.nil_append] at N
  obtain ⟨m0, hm0⟩ : ∃ m0, Fr B0 L h₁ m0 ∧ m0 (Str.ofString "script") = some (.ref a) := ⟨_, F, rfl⟩
  clear F
  obtain ⟨F, hm1⟩ := hm0
  first | replace F := fr_at (at1s hm1 rfl) F | replace F := fr_at (at1c (at1s hm1 rfl)) F
  refine wpC_execs_cons (wpC_of_any ?_)
  repeat' (first | ((with_reducible show wpAny _ _ (call (Value.ref _) _) _ _ _); refine hold_it ?_) | top_args)
  refine use_values (by assumption) (by assumption) (by assumption) (by simp only [Around.deeper]; omega) (by k_asm) (by k_asm) (by k_asm) (by k_asm) ?_
  intro _ _ _ _ _ _ _ _ _ _ _ _ _ _ _ _ off1
  replace off1 := allNe_of off1
  simp only [AllNe] at off1
  try k_sweep
  k_steps
  rename_i lv v0 v1 v2 v3 v4 t0 t1 t2 t3 t4 nv _ _ h2 oc2 F2 N2 hoc2
  have hlv : @Ne Nat lv (L + 1) := Ne.symm off1.1
  refine wpC_execs_cons (wpC_Assign_Name rfl (wpC_Call_Name (wpC_of_any ?_)))
  k_steps
  refine callWithC_fn (args := [(false, eval _ _), (false, eval _ _)]) rfl (Nat.le_of_ble_eq_true rfl) (evalArgsC (splicedC_cons (wpC_of_any ?_)))
  repeat (first | k_unfold | ((fail_if_success (with_reducible show wpAny _ _ (call (Value.type "bytes") [Value.ref _]) _ _ _)); first | walk1 | (dsimp only; walk1)))
  rename IsRange _ _ _ _ _ _ _ _ => rgX
  refine bytes_r12 rfl (by k_asm) (by k_asm) (by exact rgX) ?_
  intro _ _ _ _ _
  clear rgX
  k_steps
  refine splicedC_cons (wpC_of_any ?_)
  k_steps
  refine splicedC_nil ⟨fn_at X (by assumption) (by k_is), ?_⟩
  rename Fr _ _ _ _ => F
  rename News _ _ _ _ => N
  dsimp only [List.nil_append]
  refine (alls_tell (upBytes 12) (upBytes_size 12) _ v0 v1 v2 v3 v4 t0 t1 t2 t3 t4 lv nv (by simp only [Around.deeper]; omega)).use (news := [(L + 1, oc2)]) X T F N (by simp) (by simpa using hlv) ?_
  rintro r foc' h3 tk3 ⟨lr, its, nr, rfl, rfl, hR⟩ F3 N3 offr
  clear F N
  obtain ⟨b1, b2, b3, b4, b5, u0, u1, u2, u3, u4, u5, rfl, hturn, hb5⟩ := rows_lit hR
  simp only [List.cons_append, List.nil_append] at N3
  have hlr : @Ne Nat lr (L + 1) := offr _ (.head _) _ (.head _)
  clear offr hR off1
  k_steps
  refine wpC_execs_cons (wpC_Assign_Name rfl (wpC_Call_Name (wpC_of_any ?_)))
  k_steps
  refine callWithC_fn (args := [(false, eval _ _), (false, eval _ _)]) rfl (Nat.le_of_ble_eq_true rfl) (evalArgsC (splicedC_cons (wpC_of_any ?_)))
  k_steps
  refine splicedC_cons (wpC_of_any ?_)
  k_steps
  rename_i D4 h4 F4 N4 off4
  refine splicedC_nil ⟨fn_at X (by assumption) (by k_is), ?_⟩
  dsimp only [List.nil_append]
  refine (alls_tell b5 hb5 _ v4 v3 v2 v1 v0 t4 t3 t2 t1 t0 D4 0 (by simp only [Around.deeper]; omega)).use (news := [(lr, W.listOf #[Value.bytes (upBytes 12) u0, Value.bytes b1 u1, Value.bytes b2 u2, Value.bytes b3 u3, Value.bytes b4 u4, Value.bytes b5 u5] nr), (lv, W.listOf #[Value.int v0 t0, Value.int v1 t1, Value.int v2 t2, Value.int v3 t3, Value.int v4 t4] nv), (L + 1, oc2)]) X T F4 N4 (by simp) (fun p hp q' hq' => ?_) ?_
  · rw [List.mem_singleton.mp hp]
    simp only [List.mem_cons, List.mem_nil_iff, or_false] at hq'
    rcases hq' with rfl | rfl | rfl
    · exact Nat.ne_of_gt off4.1
    · exact Nat.ne_of_gt off4.2.1
    · exact Nat.ne_of_gt off4.2.2
  rintro r foc' h5 tk5 ⟨lb, its, nb, rfl, rfl, hR⟩ F5 N5 offb
  clear F4 N4
  obtain ⟨c1, c2, c3, c4, c5, w0, w1, w2, w3, w4, w5, rfl, hturn2, _⟩ := rows_lit hR
  obtain ⟨rfl, rfl, rfl, rfl, rfl, e5⟩ := rows_back (upBytes_size 12) hturn hturn2
  clear hR hturn hturn2
  have N6 : News B0 L h5 [(lb, W.listOf #[Value.bytes b5 w0, Value.bytes c1 w1, Value.bytes c2 w2, Value.bytes c3 w3, Value.bytes c4 w4, Value.bytes (upBytes 12) w5] nb), (lr, W.listOf #[Value.bytes (upBytes 12) u0, Value.bytes c4 u1, Value.bytes c3 u2, Value.bytes c2 u3, Value.bytes c1 u4, Value.bytes b5 u5] nr), (lv, W.listOf #[Value.int v0 t0, Value.int v1 t1, Value.int v2 t2, Value.int v3 t3, Value.int v4 t4] nv), (L + 1, oc2)] := fun p hp => N5 p (by
    refine memIn ?_ hp; top_name)
  have b_1 : @Ne Nat lb lr := offb _ (.head _) _ (.head _)
  have b_2 : @Ne Nat lb lv := offb _ (.head _) _ (.tail _ (.head _))
  have b_3 : @Ne Nat lb (L + 1) := offb _ (.head _) _ (.tail _ (.tail _ (.head _)))
  clear N5 offb off4
  k_steps
  refine wpC_execs_cons (wpC_of_any ?_)
  repeat (first | k_unfold | ((fail_if_success (with_reducible show wpAny _ _ (call (Value.ref 205) _) _ _ _)); first | walk1 | (dsimp only; walk1)))
  refine use_came (by simp only [Around.deeper]; omega) (by k_asm) (by k_asm) (by k_asm) (by k_asm) (by k_mem) ?_
  intros
  try k_sweep
  all_goals k_steps
  rename_i cm hI4 hL4 D6 h6 tk6 F6 N6 o6
  refine wpC_execs_cons (wpC_of_any ?_)
  have mkR : MarkR := ⟨trivial⟩
  repeat (first | k_unfold | ((fail_if_success (with_reducible show wpAny _ _ (call (Value.type _) [Value.ref _]) _ _ _)); first | walk1 | (dsimp only; walk1)))
  refine list_by rfl (by k_asm) (by k_asm) (by assumption) ?_
  intro D7 us7 c7 h7 tk7 F7 N7 off7 hI7
  repeat' (first | ((with_reducible show wpAny _ _ (compareOp CmpOp.Eq (Value.ref _) (Value.ref _)) _ _ _); refine hold_it ?_) | top_args)
  obtain ⟨perm, hperm⟩ : ∃ perm : Nat → Nat, perm = sgs (wOf [v4, v3, v2, v1, v0]) := ⟨_, rfl⟩
  have hcm : IntsAre ys (zs ((List.range 12).map perm)) := by rw [came_ints] at hI4; rw [hperm]; exact hI4
  have hls : IntsAre us7 (zs ((List.range 12).map perm)) := by rw [e5, last_ints] at hI7; rw [hperm]; exact hI7
  refine li_eq N7 (.head _) (.tail _ (.head _)) hls hcm (by simp only [Around.deeper]; omega) (decide_eq_true rfl) ?_
  repeat' (first | ((with_reducible show wpAny _ _ (compareOp CmpOp.Eq (Value.ref _) (Value.ref _)) _ _ _); refine hold_it ?_) | top_args)
  rename_i D8 h8 F8 N8 off8
  unfold Hold
  refine eq_bytesL (us := [Value.bytes b5 w0, Value.bytes c1 w1, Value.bytes c2 w2, Value.bytes c3 w3, Value.bytes c4 w4, Value.bytes (upBytes 12) w5]) (vs := [Value.bytes b5 u5, Value.bytes c1 u4, Value.bytes c2 u3, Value.bytes c3 u2, Value.bytes c4 u1, Value.bytes (upBytes 12) u0]) (xs := [b5, c1, c2, c3, c4, upBytes 12]) N8 (.tail _ (.tail _ (.tail _ (.head _)))) (.head _)
    (.cons _ _ (.cons _ _ (.cons _ _ (.cons _ _ (.cons _ _ (.cons _ _ .nil)))))) (.cons _ _ (.cons _ _ (.cons _ _ (.cons _ _ (.cons _ _ (.cons _ _ .nil)))))) (by simp only [Around.deeper]; omega) ?_
  repeat' (first | ((with_reducible show wpAny _ _ (eval (Expr.ListComp _ [Comprehension.mk _ (Expr.BinOp _ _ _ _) [] _] _ _) _) _ _ _); k_dflt (refine LCg.ListComp_U ‹Fr _ _ _ _› (by with_unfolding_all rfl) (by decide) (by rfl) (by decide) (by rfl) ?_)) | top_args)
  rename_i D9 h9 F9 N9 off9
  unfold Hold
  obtain ⟨xs9, hx9, hby9, hl9⟩ : ∃ xs9 : List Value, xs9 = [Value.bytes (upBytes 12) u0, Value.bytes c4 u1, Value.bytes c3 u2, Value.bytes c2 u3, Value.bytes c1 u4, Value.bytes b5 u5, Value.bytes b5 w0, Value.bytes c1 w1, Value.bytes c2 w2, Value.bytes c3 w3, Value.bytes c4 w4, Value.bytes (upBytes 12) w5] ∧ (∀ v ∈ xs9, ∃ b t, v = Value.bytes b t) ∧ xs9.length ≤ sizeLine := by
    refine ⟨_, rfl, fun v hv => ?_, by rw [sizeLine_eq]; exact Nat.le_of_ble_eq_true rfl⟩
    simp only [List.mem_cons, List.mem_nil_iff, or_false] at hv
    rcases hv with rfl | rfl | rfl | rfl | rfl | rfl | rfl | rfl | rfl | rfl | rfl | rfl <;> exact ⟨_, _, rfl⟩
  obtain ⟨LX, hLX⟩ : ∃ LX, LX = [(D9, W.listOf xs9.toArray 0), (D6, W.listOf ys.toArray ys.length), (lr, W.listOf #[Value.bytes (upBytes 12) u0, Value.bytes c4 u1, Value.bytes c3 u2, Value.bytes c2 u3, Value.bytes c1 u4, Value.bytes b5 u5] nr)] := ⟨_, rfl⟩
  have N5 : News B0 L h9 LX := fun p hp => N9 p (by
    rw [hLX, hx9] at hp
    simp only [List.mem_cons, List.mem_nil_iff, or_false] at hp
    rcases hp with rfl | rfl | rfl
    · exact .head _
    · exact .tail _ (.tail _ (.tail _ (.head _)))
    · exact .tail _ (.tail _ (.tail _ (.tail _ (.tail _ (.head _))))))
  have hD9 : (D9, W.listOf xs9.toArray 0) ∈ LX := by rw [hLX]; exact .head _
  clear N9
  refine LCg.CompSrc.ledger (by rfl) F9 N5 (its := xs9.toArray) hD9 (by simpa using hl9) ?_
  intro g'
  refine turnsU (fun i ys news => news = LX ∧ ∀ y ∈ ys, y = Value.bool true) ?_ ?_ _ 0 [] _ (Nat.zero_add _) ⟨rfl, fun _ h => nomatch h⟩
  · rintro i ys' news hi ⟨hnw, hys⟩ v I oI C oC D' m₂ h tk E' hv hC hx F N off ne
    rw [hnw] at N off
    clear F9 N5
    obtain ⟨vb, vt, rfl⟩ := hby9 v (by
      have hv' : xs9.toArray[i]? = some v := hv
      rw [List.getElem?_toArray] at hv'
      exact List.mem_of_getElem? hv')
    k_steps
    refine LCg.CompEnd.intro (h' := h) F N LX (fun p hp => hp) off (.inr ⟨_, hD9, rfl, _, rfl⟩) ⟨rfl, fun y hy => ?_⟩
    rcases List.mem_append.mp hy with hy | hy
    · exact hys y hy
    · exact List.mem_singleton.mp hy
  · rintro ys' news ⟨hnw, hys⟩
    unfold LCg.FinE
    intro D8' h8' tk8 F8' N8' o8
    rw [hnw] at N8'
    clear F9 N5
    have N5 : News B0 L h8' [(D8', W.listOf ys'.toArray ys'.length), (D6, W.listOf ys.toArray ys.length), (lr, W.listOf #[Value.bytes (upBytes 12) u0, Value.bytes c4 u1, Value.bytes c3 u2, Value.bytes c2 u3, Value.bytes c1 u4, Value.bytes b5 u5] nr)] := fun p hp => N8' p (by
      rw [hLX]
      simp only [List.mem_cons, List.mem_nil_iff, or_false] at hp
      rcases hp with rfl | rfl | rfl
      · exact .head _
      · exact .tail _ (.tail _ (.head _))
      · exact .tail _ (.tail _ (.tail _ (.head _))))
    clear N8'
    repeat' (first | ((with_reducible show wpAny _ _ (compareOp CmpOp.NotIn _ _) _ _ _); refine hold_it ?_) | top_args)
    unfold Hold
    refine notin_bools N5 (.head _) hys ?_
    repeat' (first | ((with_reducible show wpAny _ _ (call (Value.ref _) _) _ _ _); refine hold_it ?_) | top_args)
    refine use_open (by assumption) (by assumption) (by assumption) (by simp only [Around.deeper]; omega) (by k_asm) (by k_asm) (by k_asm) (by k_asm) ?_
    intro lc cs nc h3 tk3 q F2 N3 off3 hcs
    repeat' (first | ((with_reducible show wpAny _ _ (call (Value.ref _) _) _ _ _); refine hold_it ?_) | top_args)
    unfold Hold
    have z1 : @Ne Nat D6 lc := off3 _ (.tail _ (.head _))
    have z2 : @Ne Nat D6 L := (N3 _ (.tail _ (.tail _ (.head _)))).2.1
    have z3 : @Ne Nat lc L := (N3 _ (.head _)).2.1
    refine TellX.useG (foc := [(D6, W.listOf ys.toArray ys.length), (lc, W.listOf cs.toArray nc)]) (frs := []) (news := []) (fun oL => told_tell b5 hb5 _ perm (fun j hj => by rw [e5, hperm]; exact last_perm hj) (fun j hj => by rw [hperm]; exact sgs_lt _ hj) (fun i j hi hj h => by rw [hperm] at h; exact sgs_inj _ hi hj h) q D6 lc ys cs ys.length nc hcm hcs [(L, oL)] ?_ (by simp only [Around.deeper]; omega) (by simp only [Around.deeper]; omega)) ?_ X T F2 N3 (fun p hp => ?_) (fun p hp q' hq' => nomatch hq') rfl rfl ?_
    · refine Apart.cons (Apart.cons (Apart.cons (by simp [Apart]) fun p hp => nomatch hp) fun p hp => ?_) fun p hp => ?_
      · rw [List.mem_singleton.mp hp]; exact Ne.symm z3
      · rcases List.mem_cons.mp hp with rfl | hp
        · exact Ne.symm z1
        · rw [List.mem_singleton.mp hp]; exact Ne.symm z2
    · trivial
    · refine memIn ?_ hp; top_name
    rintro r foc' frs' h4 tk4 rfl SU Fs' F4 N4 off4
    subst hB0
    k_steps
    exact fin O D hap hQ [] rfl F4 N4 (by simp)
end
end -- MLw
example : True := by first | (w_top off; walk1) | trivial
section -- MLz
theorem row_holds : PySem.Challenge.rw_om0102_01.row.Holds := by
  refine hd ?_
  k_fill
  intro w s₀ s₁ mg mb G Y fa o pm cd doc dV kV ho hd cd' hD hmg hg args vals as hpre hlay hrd hwl hlo
  have KX := kIn_of Y
  refine Ground.open G ?_
  intro T B D TE TW
  try (refine guard_noD D (by decide +kernel) ?_; clear D)
  have hfa : mg (Str.ofString "law") = some (.ref 227) := mg_of KX (Top.g T) (by kernel_rfl)
  obtain rfl : fa = 227 := by
    have := hmg.symm.trans hfa
    cases this
    rfl
  clear ho hd cd' hD hmg hfa
  wrow_args hpre hlay hrd hwl hlo
  rename_i ns _ _ _ _ _ _ _ sa us _ hls _ _ _ hIs _ hlen _
  have e : looseW hd.view_1 [Str.ofString "_NodeInfo"] = Lo := by decide +kernel
  rw [e] at T
  have S : Stat w s₁.heap := ⟨KX, _, _, _, T⟩
  have O : Kp s₁.heap s₁.heap := ⟨fun _ _ e => e, Nat.le_refl _⟩
  have main : wpC (model Pg w) callerA (call (.ref 227) [.ref sa]) (fun v s' => v = .bool true ∧ ∃ h' tk', s' = { s₁ with heap := h', toks := tk' } ∧ Kp s₁.heap h') (fun _ _ => False) s₁ :=
    law_tell (w := w) (dp := 1 + claimMargin) (un := 4) (gd := some []) (h₀ := s₁.heap) sa us ns hls hIs (by omega) (by decide +kernel) (by decide +kernel) [] _ _ S O (fun p hp => nomatch hp) (fun p hp => nomatch hp) fun r foc' h' tk' hr _ K _ => ⟨hr, h', tk', rfl, K⟩
  refine wpC_mono main (fun v s' h => ?_) (fun _ _ h => h.elim)
  obtain ⟨rfl, h', tk', rfl, K⟩ := h
  refine GoodW.toG ⟨.inl ⟨.bool true, ofPy (PyData.bool true), [], rfl, fun _ => rfl, ?_, ?_, fun _ => ⟨List.nodup_nil, fun _ h => nomatch h⟩⟩, K.keep, rfl, hg⟩
  · first
    | exact ReadsW.bool _
    | exact ReadsW.py (Reads.bool _)
    | (unfold ofPy; constructor)
  · first
    | rfl
    | (with_unfolding_all rfl)
theorem law_holds : PySem.Challenge.rw_om0102_01.Holds := holds_law (by kernel_rfl) fun _ => row_holds
end -- MLz
end Mine
theorem PySem.Challenge.cw_om0102_01_holds : PySem.Challenge.rw_om0102_01.Holds :=
  Mine.law_holds
