import PyProof.Rows.All
import Wide.All
import OpenK.AllK
import Wide.FinOn
import PyProof.StrBlock
import KE.KxStill
import PySem.Challenge.RW_ah5009_01
set_option Elab.async false
set_option maxRecDepth 100000
set_option linter.unusedVariables false
-- H0
section
open PySem PySem.W PyProof.Rows PySem.Calls PySem.Spec
namespace Mine
/-- the stack bears the claim's caller -/
def callerIn (st : List (Code × Pos)) : Bool := st.any fun x => x.1.isCaller
def Has (Γ : PySem.Ctx) : Prop := (Γ.code.isCaller || callerIn Γ.below) = true
/-- a tree's run, at every context whose stack bears the caller -/
def wpC {α : Type} (M : Model) (A : Around) (t : Sem α) (Q : α → Shared → Prop) (E : Value → Shared → Prop) (s : Shared) : Prop :=
  ∀ Γ p, Γ.In A → Has Γ → Sem.wp M Γ t (fun a _ s' => Q a s') (fun e _ s' => E e s') p s
def guardS {α : Type} (t d : Sem α) : Sem α := Sem.stack fun st => if callerIn st then t else d
theorem wpAny_guard {α : Type} {M : Model} {A : Around} {t d : Sem α} {Q : α → Shared → Prop} {E : Value → Shared → Prop} {s : Shared}
    (h : wpC M A t Q E s) (hd : wpAny M A d Q E s) : wpAny M A (guardS t d) Q E s := fun Γ p hΓ => by
  unfold guardS
  rw [Sem.wp_stack]
  by_cases hc : callerIn ((Γ.code, p) :: Γ.below) = true
  · rw [if_pos hc]; exact h Γ p hΓ hc
  · rw [if_neg hc]; exact hd Γ p hΓ
theorem wpC_of_guard {α : Type} {M : Model} {A : Around} {t d : Sem α} {Q : α → Shared → Prop} {E : Value → Shared → Prop} {s : Shared}
    (h : wpAny M A (guardS t d) Q E s) : wpC M A t Q E s := fun Γ p hΓ hc => by
  have := h Γ p hΓ
  unfold guardS at this
  rw [Sem.wp_stack, if_pos (show callerIn ((Γ.code, p) :: Γ.below) = true from hc)] at this
  exact this
theorem sched_guard {p : Program} {w : World} {s s' : Shared} {t d : Sem Fin} {o : Outcome} (hz : s.asleep) :
    ∀ {n : Nat}, schedN (denote table) p w n (.single s ⟨guardS t d, .builtin "claim.caller" {}, default, []⟩) = .halted o s' →
      ∃ k, schedN (denote table) p w k (.single s ⟨t, .builtin "claim.caller" {}, default, []⟩) = .halted o s'
  | 0, h => by cases h
  | n + 1, h => by
    refine ⟨n, ?_⟩
    have hs : step (denote table) p w s ⟨guardS t d, .builtin "claim.caller" {}, default, []⟩ = .go s ⟨t, .builtin "claim.caller" {}, default, []⟩ := rfl
    rcases sstep_single (den := denote table) (prog := p) (w := w) s ⟨guardS t d, .builtin "claim.caller" {}, default, []⟩ rfl hz with e | e
    · rw [hs] at e
      simp only [schedN, e] at h
      exact h
    · rw [hs] at e; cases e
theorem openBy_guard {c : ClaimW} {tree d : List Value → Sem Fin} {defs keeps : List Str} {writes : Bool}
    (h : c.HoldsOpenBy (fun vs => ⟨guardS (tree vs) (d vs), .builtin "claim.caller" {}, default, []⟩) defs keeps writes) :
    c.HoldsOpenBy (fun vs => ⟨tree vs, .builtin "claim.caller" {}, default, []⟩) defs keeps writes := by
  obtain ⟨a, b, k⟩ := h
  refine ⟨a, b, fun w => ⟨(k w).1, fun s hs => ?_⟩⟩
  obtain ⟨s₀, h1, h2, s₁, hT, h3, h4, h5, hC⟩ := (k w).2 s hs
  refine ⟨s₀, h1, h2, s₁, hT, h3, h4, h5, fun args hp hl ord ho => ?_⟩
  obtain ⟨vs, s₂, hlay, n, o, s', hr, rest⟩ := hC args hp hl ord ho
  have z₀ : s₀.asleep := Shared.asleep_of_life (fence_lifeW h1) (AfterImport.life hs)
  have z₁ : s₁.asleep := Shared.asleep_of_life hT.2.1 z₀
  have z₂ : s₂.asleep := Shared.asleep_of_life (layAllW_rest _ _ _ hlay).2.2.2 z₁
  obtain ⟨n', hr'⟩ := sched_guard z₂ hr
  exact ⟨vs, s₂, hlay, n', o, s', hr', rest⟩
end Mine
end
-- H1
section
open PySem PySem.W PyProof.Rows PySem.Calls PySem.Spec
namespace Mine
def codeC (M : Model) (A : Around) (c : Code) (R : Result → Shared → Prop) (s : Shared) : Prop :=
  ∀ (Γ : PySem.Ctx) p, Γ.code = c → Γ.Below A → callerIn Γ.below = true → wpCode M Γ R p s
section
variable {α β : Type} {M : Model} {A : Around} {E : Value → Shared → Prop} {s : Shared}
theorem wpC_of {t : Sem α} {Q : α → Shared → Prop} (h : wpAny M A t Q E s) : wpC M A t Q E s := fun Γ p hΓ _ => h Γ p hΓ
theorem wpC_mono {t : Sem α} {Q Q' : α → Shared → Prop} {E' : Value → Shared → Prop} (h : wpC M A t Q E s) (hQ : ∀ a s, Q a s → Q' a s) (hE : ∀ e s, E e s → E' e s) : wpC M A t Q' E' s :=
  fun Γ p hΓ hc => Sem.wp_mono M Γ t (fun a _ s => hQ a s) (fun e _ s => hE e s) p s (h Γ p hΓ hc)
theorem wpC_bind {m : Sem α} {f : α → Sem β} {Q : β → Shared → Prop} (h : wpC M A m (fun a s' => wpC M A (f a) Q E s') E s) : wpC M A (m >>= f) Q E s := fun Γ p hΓ hc => by
  rw [Sem.wp_bind']
  exact Sem.wp_mono M Γ m (fun a p' s' h' => h' Γ p' hΓ hc) (fun _ _ _ h' => h') p s (h Γ p hΓ hc)
/-- ahead of the bind nothing asks the stack -/
theorem wpC_bindA {m : Sem α} {f : α → Sem β} {Q : β → Shared → Prop} (h : wpAny M A m (fun a s' => wpC M A (f a) Q E s') E s) : wpC M A (m >>= f) Q E s := wpC_bind (wpC_of h)
theorem wpC_holding {vs : List Value} {m : Sem α} {Q : α → Shared → Prop} (h : wpC M A m Q E s) : wpC M A (holding vs m) Q E s := fun Γ p hΓ hc => by rw [Sem.wp_holding]; exact h Γ p hΓ hc
theorem wpC_keep {vs : List Value} {m : Sem α} {Q : α → Shared → Prop} (h : wpC M A m Q E s) : wpC M A (m.keep vs) Q E s := fun Γ p hΓ hc => by rw [Sem.wp_keep]; exact h Γ p hΓ hc
theorem wpC_onRaise {m : Sem α} {k : Value → Sem Unit} {Q : α → Shared → Prop}
    (h : wpC M A m Q (fun e s' => wpAny M A (k e) (fun _ s'' => E e s'') E s') s) : wpC M A (m.onRaise k) Q E s := fun Γ p hΓ hc => by
  rw [Sem.wp_onRaise]
  exact Sem.wp_mono M Γ m (fun _ _ _ h' => h') (fun e p' s' h' => h' Γ p' hΓ) p s (h Γ p hΓ hc)
theorem wpC_attempt {m : Sem α} {Q : Except Value α → Shared → Prop} (h : wpC M A m (fun a => Q (.ok a)) (fun e => Q (.error e)) s) :
    wpC M A m.attempt Q E s := fun Γ p hΓ hc => by rw [Sem.wp_attempt]; exact h Γ p hΓ hc
theorem wpC_runValue {c : Code} {Q : Value → Shared → Prop}
    (hc : codeC M A c (fun r s' => match r with | .ok (.ret v) => Q v s' | .ok _ => False | .error e => E e s') s) :
    wpC M A (runValue c) Q E s := fun Γ p hΓ hh => by rw [Sem.wp_runValue]; exact hc _ p rfl (hΓ.enter c none p (by intro x; cases x)) hh
theorem wpC_call {f : Value} {pos : List Value} {kw : List (Str × Value)} {Q : Value → Shared → Prop}
    (hc : codeC M A (.call f ⟨pos, kw⟩) (fun r s' => match r with | .ok (.ret v) => Q v s' | .ok _ => False | .error e => E e s') s) :
    wpC M A (call f pos kw) Q E s := wpC_runValue hc
theorem codeC_of {c : Code} {R : Result → Shared → Prop} (h : codeAny M A c R s) : codeC M A c R s := fun Γ p hc hΓ _ => h Γ p hc hΓ
theorem codeC_of_tree {c : Code} {R : Result → Shared → Prop}
    (h : wpC M (A.under c) (M.den c) (fun fin s' => match fin with | .done f => R (.ok f) s' | .again c' => c'.quiet = true ∧ codeC M A c' R s')
      (fun e s' => R (.error e) s') s) : codeC M A c R s := fun Γ p hc hΓ hb => by
  rw [wpCode_iff_wp, hc]
  refine Sem.wp_mono M Γ _ (fun fin p' s' h' => ?_) (fun _ _ _ h' => h') p s (h Γ p (hc ▸ hΓ.in) (by unfold Has; rw [hb, Bool.or_true]))
  cases fin with
  | done f => exact h'
  | again c' => exact ⟨h'.1, h'.2 (Γ.goto c') p' rfl (hΓ.goto c') hb⟩
end
section
variable {prog : Program} {w : World} {A : Around} {R : Result → Shared → Prop} {s : Shared}
theorem codeC_func {body : List Stmt} {env : Env}
    (h : wpC (model prog w) (A.deeper env) (execs body env) (fun f s' => R (.ok (.ret (match f with | .ret v => v | _ => .none))) s')
      (fun e s' => wpAny (model prog w) (A.deeper env) (leaving env e) (fun _ s'' => R (.error e) s'') (fun e' s'' => R (.error e') s'') s') s) :
    codeC (model prog w) A (.func body env) R s := by
  refine codeC_of_tree ?_
  show wpC _ (A.deeper env) (do point; match ← (execs body env).onRaise (leaving env) with | .ret v => ret v | _ => ret .none) _ _ s
  refine wpC_bindA (wpAny_point (wpC_bind (wpC_onRaise (wpC_mono h (fun f s' h' => ?_) fun _ _ h' => h'))))
  cases f <;> exact wpC_of (wpAny_pure h')
theorem codeC_call_function {a : Addr} {args : Args} {o : Obj} {fd : FuncData} {body : List Stmt} (hroom : A.depth < recursionLimit)
    (ho : s.heap.get? a = some o)
    (hd' : o.data = .func fd) (hco : fd.scope.isCoroutine = false) (hgen : fd.scope.isGenerator = false) (hbody : fd.body = .stmts body) (hcd : s.heap.CodeRec fd.code fd.qualname)
    (h : wpAny (model prog w) A.in1 (bindArgs fd args) (fun binds s₁ =>
      wpAny (model prog w) A.in1 (newFunctionEnv fd.scope fd.globals fd.closure binds (fd.qualname ++ ".<locals>.") (some a) fd.code none fd.builtins)
        (fun env s₂ => s₂.heap.NoLimit ∧ codeC (model prog w) A (.func body env) R s₂) (fun e s' => R (.error e) s') s₁) (fun e s' => R (.error e) s') s) :
    codeC (model prog w) A (.call (.ref a) args) R s := by
  refine codeC_of_tree ?_
  show wpC _ A.in1 (callAny (.ref a) args) _ _ s
  simp only [callAny]
  refine wpC_bindA (wpAny_load ho ?_)
  obtain ⟨c, oc, vs, tq, hc, hoc, hdc, hq⟩ := hcd
  simp only [hd', callFunction, hco, hgen, hbody, hc]
  rw [hc] at h
  refine wpC_bindA (m := field (.ref c) 1) (wpAny_field hoc hdc hq (wpC_bindA (wpAny_pure ?_)))
  exact wpC_bindA (wpAny_mono h (fun binds s₁ h₁ => wpC_bindA (wpAny_mono h₁ (fun env s₂ h₂ => wpC_bindA (wpAny_enterFrame h₂.1 hroom
    (wpC_of (wpAny_pure (And.intro rfl h₂.2))))) fun _ _ h' => h')) fun _ _ h' => h')
end
end Mine
end
-- H2
section
open PySem PySem.W PyProof.Rows PySem.Calls PySem.Spec
namespace Mine
section
variable {prog : Program} {w : World} {A₀ A : Around} {s : Shared} {base h₀ : Heap} {outer : List Env} {L : Addr} {m mg mb : Str → Option Value} {env : Env} {news : List (Addr × Obj)} {K : Frag}
  {R : Result → Shared → Prop} {name qual : Str} {params : Arguments} {body : List Stmt} {scope : Scope} {dV kV doc pm cdv ct oc : Value} {an od : Option Addr} {osl : Array (Option Value)} {f : Addr} {args : Args} {binds : List (Str × Value)}
  {p : Program} {loose : List Str} {mean : ExcName → Option Value}
theorem codeC_def
    (B : Below A₀ base outer h₀) (F : Fr h₀ L s.heap m) (X₀ : K.In h₀) (N : News h₀ L s.heap news) (T : Top p loose mean mg mb h₀) (hA : A.frames = some (env :: outer)) (hf : env.frame = some L) (hke : env.scope.kind = .function)
    (ho : K.lookup f = some ⟨oc, od, .func (fnOf name qual params body scope dV kV doc pm an cdv ct), osl⟩) (hcd : codeIn K cdv qual = true) (hroom : A.depth < recursionLimit)
    (hbind : BindsTo s (fnOf name qual params body scope dV kV doc pm an cdv ct) args binds) (hloc : ∀ y ∈ binds, scope.names.lookup y.1 = some .local)
    (h : ∀ g L' h₁, Fr h₀ L g m → Fr g L' h₁ (fun y => binds.reverse.lookup y) → News g L' h₁ news → Below A base (env :: outer) g → K.In g → Top p loose mean mg mb g →
      wpC (model prog w) (A.deeper (envOf qual scope L' f cdv)) (execs body (envOf qual scope L' f cdv))
        (fun fl s' => LeaveK h₀ L m g R (match fl with | .ret v => v | _ => .none) s')
        (fun e s' => wpAny (model prog w) (A.deeper (envOf qual scope L' f cdv)) (leaving (envOf qual scope L' f cdv) e) (fun _ s'' => R (.error e) s'') (fun e' s'' => R (.error e') s'') s')
        { s with heap := h₁, toks := s.toks + binds.length })
    (hco : scope.isCoroutine = false) (hgen : scope.isGenerator = false) (hk : scope.kind = .function)
    (hcell : ∀ x ∈ scope.names, x.2 ≠ .cell) : codeC (model prog w) A (.call (.ref f) args) R s := by
  obtain ⟨FG, BG, st, lv⟩ := groundX (R := R) B F N hA hf hke
  refine codeC_call_function (fd := fnOf name qual params body scope dV kV doc pm an cdv ct) hroom ((X₀.keeps F.keep) _ _ ho) rfl hco hgen rfl (codeRec_of (X₀.keeps F.keep) hcd) (hbind _ _ _ _ ?_)
  refine wpAny_newFunctionEnv hcell hloc (fun h₁ hns hsb => ⟨(T.nolimit.keeps F.keep).fresh _ hsb, codeC_func ?_⟩) hk
  have hk₁ : ∀ b o, s.heap.get? b = some o → h₁.get? b = some o := fun b o e => hsb.extBut b o (Nat.ne_of_lt (Heap.lt_size e)) (Heap.get?_push_of_some _ e)
  exact wpC_mono (h _ s.heap.objs.size h₁ FG ⟨hns, fun b o e => hk₁ b o (of_hideAll _ e), Nat.le_of_eq (hideAll_size _ _)⟩
    (fun q hq => ⟨hk₁ _ _ (N q hq).1, Nat.ne_of_lt (Heap.lt_size (N q hq).1), hideAll_none _ (List.mem_map_of_mem hq)⟩) BG (X₀.keeps st) (T.keeps st)) (fun fl s' hl => lv _ _ hl) fun _ _ y => y
end
section
variable {prog : Program} {w : World} {M : Model} {A : Around} {E : Value → Shared → Prop} {s : Shared} {env : Env} {Q : Flow → Shared → Prop}
theorem wpC_execs_nil (h : Q .next s) : wpC M A (execs [] env) Q E s := wpC_of (wpAny_execs_nil h)
theorem wpC_execs_cons {st : Stmt} {rest : List Stmt}
    (h : wpC M A (exec st env) (fun f s' => match f with | .next => wpC M A (execs rest env) Q E s' | f => Q f s') E s) : wpC M A (execs (st :: rest) env) Q E s := by
  rw [execs_cons]
  refine wpC_bind (wpC_mono h (fun f s' h' => ?_) fun _ _ y => y)
  cases f <;> first | exact h' | exact wpC_of (wpAny_pure h')
theorem wpC_execs_consA {st : Stmt} {rest : List Stmt}
    (h : wpAny M A (exec st env) (fun f s' => match f with | .next => wpC M A (execs rest env) Q E s' | f => Q f s') E s) : wpC M A (execs (st :: rest) env) Q E s := wpC_execs_cons (wpC_of h)
theorem wpC_Assign_Name {x : Str} {pos' : Pos} {value : PySem.Expr} {pos : Pos} (h : wpC M A (eval value env) (fun v s₁ => wpAny M A (storeName env x v) (fun _ => Q .next) E s₁) E s)
    (hs : swapsWith value (some (.Name x pos')) pos.line env = pure false := by rfl) : wpC M A (exec (.Assign [.Name x pos'] value pos) env) Q E s := by
  rw [exec_Assign_Name env x pos' value pos hs]
  refine wpC_bindA (wpAny_standAt (wpC_bind (wpC_mono h (fun v s₁ h₁ => wpC_bindA (wpAny_standAt (wpC_bindA ?_))) fun _ _ y => y)))
  exact bindName_ (wpAny_mono h₁ (fun _ _ y => wpC_of (wpAny_pure y)) fun _ _ y => y)
theorem wpC_Assign_Tuple {elts : List PySem.Expr} {k : Nat} {tpos : Pos} {value : PySem.Expr} {pos : Pos}
    (h : wpC M A (eval value env) (fun v s₁ => wpAny M A (assign (.Tuple elts k tpos) env v) (fun _ => Q .next) E s₁) E s)
    (hs : swapsWithSole [.Tuple elts k tpos] value pos.line env = pure false := by rfl)
    (hw : swappedStores [.Tuple elts k tpos] value env = pure none := by rfl) :
    wpC M A (exec (.Assign [.Tuple elts k tpos] value pos) env) Q E s := by
  rw [exec_Assign]
  refine wpC_bindA (wpAny_standAt ?_)
  rw [hs]
  refine wpC_bindA (wpAny_pure ?_)
  rw [if_neg (by decide)]
  refine wpC_bind (wpC_mono h (fun v s₁ h₁ => ?_) fun _ _ y => y)
  rw [hw]
  refine wpC_bindA (wpAny_pure ?_)
  show wpC M A (do assignAll v [assign (.Tuple elts k tpos) env]; pure .next) Q E s₁
  exact wpC_bindA (wpAny_mono h₁ (fun _ _ y => wpC_of (wpAny_pure y)) fun _ _ y => y)
theorem wpC_If {test : PySem.Expr} {body orelse : List Stmt} {pos : Pos}
    (h : wpAny M A (isTrue test env (eval test env)) (fun b s₂ => if b then wpC M A (execs body env) Q E s₂ else wpC M A (execs orelse env) Q E s₂) E s) :
    wpC M A (exec (.If test body orelse pos) env) Q E s := by
  rw [exec_If]
  refine wpC_bindA (wpAny_standAt (wpC_bindA (wpAny_mono h (fun b s₂ h₂ => ?_) fun _ _ y => y)))
  cases b <;> exact h₂
theorem wpC_Return_some {e : PySem.Expr} {pos : Pos} (h : wpC M A (eval e env) (fun v => Q (.ret v)) E s) : wpC M A (exec (.Return (some e) pos) env) Q E s := by
  rw [exec_Return_some]
  exact wpC_bindA (wpAny_standAt (wpC_bind (wpC_mono h (fun v s₁ h₁ => wpC_of (wpAny_pure h₁)) fun _ _ y => y)))
theorem wpC_Expr {e : PySem.Expr} {pos : Pos} (h : wpC (model prog w) A (eval e env) (fun _ => Q .next) E s)
    (hi : interactive env = false := by rfl) (hs : swapsWith e none pos.line env = pure false := by rfl) : wpC (model prog w) A (exec (.Expr e pos) env) Q E s := by
  rw [exec_Expr env e pos hi hs]
  exact wpC_bindA (wpAny_standAt (wpC_bind (wpC_mono h (fun v s' h' => wpC_of (wpAny_dropValue h')) fun _ _ y => y)))
theorem wpC_Try_except {body orelse : List Stmt} {h₀ : ExceptHandler} {hs : List ExceptHandler} {pos : Pos}
    (h : wpC (model prog w) A (execs body env) (fun f s₁ => match f with | .next => wpC (model prog w) A (execs orelse env) Q E s₁ | f => Q f s₁)
      (fun e s₁ => wpAny (model prog w) A (noteFrame e env) (fun _ s₂ => wpAny (model prog w) A (setFlight e none) (fun _ s₃ => wpAny (model prog w) A (handleBy e env (h₀ :: hs)) Q E s₃) E s₂) E s₁) s) :
    wpC (model prog w) A (exec (.Try body (h₀ :: hs) orelse [] pos) env) Q E s := by
  rw [arm_exec_Try]
  refine wpC_bindA (wpAny_standAt ?_)
  unfold tryStmt
  simp only [List.isEmpty_nil, if_true, List.isEmpty_cons, Bool.false_and, Bool.false_eq_true, if_false]
  refine wpC_bind (wpC_attempt (wpC_mono h (fun f s₁ h₁ => ?_) fun e s₁ h₁ => ?_))
  · cases f <;> first | exact h₁ | exact wpC_of (wpAny_pure h₁)
  · exact wpC_of (wpAny_bind (wpAny_mono h₁ (fun _ _ h₂ => wpAny_bind h₂) fun _ _ y => y))
end
section
variable {M : Model} {A : Around} {E : Value → Shared → Prop} {s : Shared} {env : Env} {Q : Value → Shared → Prop}
theorem wpC_Call {func : PySem.Expr} {args : List PySem.Expr} {pos : Pos}
    (h : wpAny M A (eval func env) (fun f s₁ => wpC M A (callWith pos f [] (backTo pos (starEach args env)) []) Q E s₁) E s)
    (he : eval (.Call func args [] pos) env = (do callWith pos (← eval func env) [] (backTo pos (starEach args env)) (backToKw pos (keywordEach [] env))) := by rfl) :
    wpC M A (eval (.Call func args [] pos) env) Q E s := by
  rw [he]; exact wpC_bindA h
theorem wpC_tail {t : Sem Value} (ht : wpC M A t Q E s) : wpC M A (t >>= fun r => holding [r] point >>= fun _ => pure r) Q E s :=
  wpC_bind (wpC_mono ht (fun r s₂ hr => wpC_of (wpAny_bind (wpAny_holding (wpAny_point (wpAny_pure hr))))) fun _ _ y => y)
theorem wpC_callWith_K {K : Frag} {f : Value} {first : List Value} {h₀ : Heap} {e : PySem.Expr} {rest : List PySem.Expr} {pos : Pos} (_X : K.In h₀) (hk : keepIn K f = true)
    (h : wpAny M A (spliced (backTo pos (starEach (e :: rest) env))) (fun vs s₁ => K.In s₁.heap ∧ wpC M A (call f (first ++ vs)) Q E s₁) E s)
    (he : starEach (e :: rest) env = (false, eval e env) :: starEach rest env := by rfl) (hplain : (backTo pos (starEach rest env)).any (·.1) = false := by rfl) :
    wpC M A (callWith pos f first (backTo pos (starEach (e :: rest) env)) []) Q E s := by
  rw [he] at h ⊢
  have h' : wpAny M A (evalArgs f true (backTo pos ((false, eval e env) :: starEach rest env)) []) (fun a s₁ => K.In s₁.heap ∧ wpC M A (call f (first ++ a.pos) a.kw) Q E s₁) E s := evalArgs_plain h
  have hp : (backTo pos ((false, eval e env) :: starEach rest env)).any (·.1) = false := by
    show (false || (backTo pos (starEach rest env)).any (·.1)) = false
    rw [hplain]; rfl
  unfold callWith
  refine wpC_bindA (wpAny_holding (wpAny_mono h' (fun a s₁ h₁ => wpC_bindA (wpAny_standAt ?_)) fun _ _ y => y))
  obtain ⟨k, hk', Lk⟩ := keeps_K (M := M) hk _ h₁.1
  simp only [hp, List.any_nil, Bool.or_false]
  refine wpC_bindA (Lk.here ?_)
  have marked (mk : Value) : wpC M A (callMarked mk f (first ++ a.pos) a.kw) Q E s₁ := by unfold callMarked; exact wpC_keep h₁.2
  rcases hk' with rfl | rfl | rfl <;> dsimp only <;> first | exact wpC_tail h₁.2 | (split <;> first | exact wpC_tail h₁.2 | exact wpC_tail (marked _))
theorem wpC_callWith_type {T : String} {e : PySem.Expr} {rest : List PySem.Expr} {pos : Pos}
    (h : wpAny M A (spliced (backTo pos (starEach (e :: rest) env))) (fun vs s₁ => wpC M A (call (.type T) vs) Q E s₁) E s)
    (he : starEach (e :: rest) env = (false, eval e env) :: starEach rest env := by rfl) (hplain : (backTo pos (starEach rest env)).any (·.1) = false := by rfl) :
    wpC M A (callWith pos (.type T) [] (backTo pos (starEach (e :: rest) env)) []) Q E s := by
  rw [he] at h ⊢
  have h' : wpAny M A (evalArgs (.type T) true (backTo pos ((false, eval e env) :: starEach rest env)) []) (fun a s₁ => wpC M A (call (.type T) ([] ++ a.pos) a.kw) Q E s₁) E s := evalArgs_plain h
  have hp : (backTo pos ((false, eval e env) :: starEach rest env)).any (·.1) = false := by
    show (false || (backTo pos (starEach rest env)).any (·.1)) = false
    rw [hplain]; rfl
  unfold callWith
  refine wpC_bindA (wpAny_holding (wpAny_mono h' (fun a s₁ h₁ => wpC_bindA (wpAny_standAt ?_)) fun _ _ y => y))
  simp only [hp, List.any_nil, Bool.or_false]
  refine wpC_bindA (wpAny_pure ?_)
  exact wpC_tail h₁
end
end Mine
end
-- H3
section
open PySem PySem.W PyProof.Rows PySem.Calls PySem.Spec
namespace Mine.PySem.W
theorem holds_open {r : OpenRow} {q : Program} {loose : List Str} {Xt : Shared → Bool} {XP : (Str → Option Value) → Heap → Prop} {α : Type} {Yf : Shared → α} {Ya : World → α} {YP : World → Heap → Prop} {d : DefRec} {kwd : List (Str × PySem.Expr)} {N : Nat}
    (left : LeftO r.prog q loose Xt Yf Ya N) (hY : ∀ w s, Yf s = Ya w → YP w s.heap) (hYk : ∀ w h h', YP w h → (∀ b o, h.get? b = some o → h'.get? b = some o) → YP w h')
    (hX : ∀ s, Xt s = true → XP (s.heap.nsMap mainGlobals) s.heap) (hXk : ∀ mg h h', XP mg h → (∀ b o, h.get? b = some o → h'.get? b = some o) → XP mg h')
    (hdef : defOf q r.name = some (d, kwd)) (hp : r.prog.theDef r.name = some (d.params, d.body, d.scope)) (hk : kwWritten? d.params.kwonlyargs d.params.kw_defaults = some kwd) (hRf : ∀ s, Xt s = true → RecFacts r.records s.heap) (hwr : (!r.writes || r.records.isEmpty) = true)
    (k1 : r.wellSaid = true) (ok : (chainsOk q && opensWell r.prog && (frees r.toRowW && r.within.isEmpty)) = true) (hb : r.prog.bare) (hw : r.toRowW.promised)
    (call : WalkO q loose XP YP r.toRowW d kwd fun f vs => guardS (_root_.PySem.call f vs) (pure (.bool true))) : r.Holds := by
  refine ⟨k1, hw, openBy_guard (d := fun _ => ret (.bool true)) (open_anyG (r := r.toRowW) (run := fun f vs => guardS (_root_.PySem.call f vs) (pure (.bool true)))
    (tree := fun vs => guardS (do match ← nsGet mainNs r.name with
      | some f => do ret (← _root_.PySem.call f vs)
      | none => unsupported "claim.caller:no-such-global") (ret (.bool true))) left hY hYk hX hXk hRf hwr ok hb hw
    (fun vs w s mg f Q E hg hf h => ?_)
    (fun w s hg G n hn => ?_) fun w s₀ s₁ mg mb G Y args vs as hpre hlay L low => ?_)⟩
  · have h1 := wpC_of_guard h
    intro Γ p hΓ
    unfold guardS
    rw [Sem.wp_stack]
    by_cases hc : callerIn ((Γ.code, p) :: Γ.below) = true
    · rw [if_pos hc]
      exact wpC_bindA (M := model r.prog w) (A := callerA) (wpAny_nsGet hg (by rw [hf]; exact wpC_bind (wpC_mono h1 (fun _ _ x => wpC_of (wpAny_pure x)) fun _ _ x => x))) Γ p hΓ hc
    · rw [if_neg hc]
      have h2 := h Γ p hΓ
      unfold guardS at h2
      rw [Sem.wp_stack, if_neg hc] at h2
      exact h2
  · obtain rfl : n = r.name := by split at hn <;> simp_all
    exact pinned_of_view hg G hdef hp hk
  · obtain ⟨a, o, pm, cd, doc, dV, kV, h1, h2, h3, h4, h5⟩ := G.fn hdef
    exact ⟨.ref a, h1, call w s₀ s₁ mg mb G Y a o pm cd doc dV kV h2 h3 h4 h5 (defOf_name hdef ▸ h1) L.gens args vs as hpre hlay L.reads L.well (L.low low)⟩
end Mine.PySem.W
end
-- Head1
section
open PySem PySem.W PyProof.Rows
namespace Mine
set_option maxRecDepth 100000 in
set_option maxHeartbeats 8000000 in
open_top hd for PySem.Challenge.rw_ah5009_01
end Mine
end
-- H4
section
open PySem PySem.W PyProof.Rows PySem.Calls PySem.Spec
namespace Mine
theorem codeC_full {prog : Program} {w : World} {A : Around} {R : Result → Shared → Prop} {s : Shared} {name : Str} {params : Arguments} {body : List Stmt} {scope : Scope}
    {dV kV pm cd doc : Value} {a : Addr} {o : Obj} {args : Args} {binds : List (Str × Value)}
    (hroom : A.depth < recursionLimit) (ho : s.heap.get? a = some o) (hdata : o.data = .func { docDef name params body scope pm cd doc with defaults := dV, kwdefaults := kV }) (hlim : s.heap.NoLimit) (hcd : s.heap.CodeRec cd name)
    (hbind : BindsTo s { docDef name params body scope pm cd doc with defaults := dV, kwdefaults := kV } args binds)
    (hloc : ∀ x ∈ binds, scope.names.lookup x.1 = some .local)
    (h : ∀ h₁, Fr s.heap s.heap.objs.size h₁ (fun x => binds.reverse.lookup x) →
      wpC (model prog w) (A.deeper (envOf name scope s.heap.objs.size a cd)) (execs body (envOf name scope s.heap.objs.size a cd))
        (fun f s' => R (.ok (.ret (match f with | .ret v => v | _ => .none))) s')
        (fun e s' => wpAny (model prog w) (A.deeper (envOf name scope s.heap.objs.size a cd)) (leaving (envOf name scope s.heap.objs.size a cd) e)
          (fun _ s'' => R (.error e) s'') (fun e' s'' => R (.error e') s'') s')
        { s with heap := h₁, toks := s.toks + binds.length })
    (hco : scope.isCoroutine = false := by rfl) (hgen : scope.isGenerator = false := by rfl) (hk : scope.kind = .function := by rfl)
    (hcell : ∀ x ∈ scope.names, x.2 ≠ .cell := by decide) :
    codeC (model prog w) A (.call (.ref a) args) R s := by
  refine codeC_call_function (fd := { docDef name params body scope pm cd doc with defaults := dV, kwdefaults := kV }) hroom ho hdata hco hgen rfl hcd (hbind _ _ _ _ ?_)
  refine wpAny_newFunctionEnv hcell hloc (fun h₁ hns hsb => ⟨hlim.fresh _ hsb, codeC_func ?_⟩) hk
  exact h h₁ ⟨hns, fun b o e => hsb.extBut b o (Nat.ne_of_lt (Heap.lt_size e)) (Heap.get?_push_of_some _ e), Nat.le_refl _⟩
theorem enter_callC {M : Model} {A : Around} {s : Shared} {f : Value} {pos : List Value} {kw : List (Str × Value)} {c : ClaimW} {cl : Str → Option Addr} {mean : ExcName → Option Value} {args : List WData} {s₁ : Shared}
    (h : codeC M A (.call f ⟨pos, kw⟩) (GoodW c cl mean args s₁) s) : wpC M A (PySem.call f pos kw) (fun v s' => GoodWG c cl mean args s₁ (.ok (.ret v)) s') (fun e s' => GoodWG c cl mean args s₁ (.error e) s') s :=
  wpC_call fun Γ p h1 h2 h3 => (wpCode_mono fun res s' g => by rcases g.1 with ⟨v, _, _, rfl, _⟩ | ⟨e, _, _, rfl, _⟩ <;> exact g.toG) (h Γ p h1 h2 h3)
end Mine
end
-- Base
open PySem PySem.W PyProof.Rows PySem.Calls PySem.Spec
namespace Mine
abbrev PR : Program := Challenge.rw_ah5009_01.row.prog
/-- names held in a frame, their tokens forgotten -/
def JFr (g : Heap) (L : Addr) (h : Heap) : List (Str × (Tok → Value)) → (Str → Option Value) → Prop
  | [], m => Fr g L h m
  | (x, v) :: r, m => ∃ t, JFr g L h r (fun y => if y = x then some (v t) else m y)
def JElim (g : Heap) (L : Addr) (h : Heap) (C : Prop) : List (Str × (Tok → Value)) → (Str → Option Value) → Prop
  | [], m => Fr g L h m → C
  | (x, v) :: r, m => ∀ t, JElim g L h C r (fun y => if y = x then some (v t) else m y)
theorem jelim {g h : Heap} {L : Addr} {C : Prop} : ∀ {ns : List (Str × (Tok → Value))} {m : Str → Option Value}, JElim g L h C ns m → JFr g L h ns m → C
  | [], _, e, j => e j
  | (_, _) :: _, _, e, ⟨t, j⟩ => jelim (e t) j
theorem map_self {m : Str → Option Value} {x : Str} {v : Value} (e : m x = some v) : (fun y => if y = x then some v else m y) = m := by
  funext y; by_cases h : y = x
  · subst h; simp [e]
  · simp [h]
theorem jfr_nil {g h : Heap} {L : Addr} {m : Str → Option Value} (F : Fr g L h m) : JFr g L h [] m := F
theorem jfr_int {g h : Heap} {L : Addr} {x : Str} {m : Str → Option Value} {r : List (Str × (Tok → Value))} {i j : Int} {t : Tok}
    (e : m x = some (.int i t)) (hij : i = j) (k : JFr g L h r m) : JFr g L h ((x, fun t => .int j t) :: r) m := by
  subst hij
  exact ⟨t, by dsimp only; rw [map_self e]; exact k⟩
theorem jfr_str {g h : Heap} {L : Addr} {x : Str} {m : Str → Option Value} {r : List (Str × (Tok → Value))} {i j : Str} {t : Tok}
    (e : m x = some (.str i t)) (hij : i = j) (k : JFr g L h r m) : JFr g L h ((x, fun t => .str j t) :: r) m := by
  subst hij
  exact ⟨t, by dsimp only; rw [map_self e]; exact k⟩
theorem jfr_ref {g h : Heap} {L : Addr} {x : Str} {m : Str → Option Value} {r : List (Str × (Tok → Value))} {i : Addr}
    (e : m x = some (.ref i)) (k : JFr g L h r m) : JFr g L h ((x, fun _ => .ref i) :: r) m :=
  ⟨0, by dsimp only; rw [map_self e]; exact k⟩
/-- a statement that goes on, its state told by the names it leaves -/
def Cut (g : Heap) (L : Addr) (news : List (Addr × Obj)) (s : Shared) (P : Prop) (ns : List (Str × (Tok → Value))) (fl : Flow) (s' : Shared) : Prop :=
  fl = .next ∧ P ∧ ∃ m h tk, s' = { s with heap := h, toks := tk } ∧ JFr g L h ns m ∧ News g L h news
theorem cut_end {g : Heap} {L : Addr} {news news' : List (Addr × Obj)} {s : Shared} {P : Prop} {ns : List (Str × (Tok → Value))} {h : Heap} {tk : Nat} {m : Str → Option Value}
   (_F₀ : Fr g L h m) (N : News g L h news') (hN : ∀ p ∈ news, p ∈ news') (hP : P) (F : JFr g L h ns m) : Cut g L news s P ns .next { s with heap := h, toks := tk } := ⟨rfl, hP, m, h, tk, rfl, F, fun p hp => N p (hN p hp)⟩
/-- a note for the walk: join the ways behind the statement of this row -/
def CutAt (_row : Nat) (_P : Prop) (_ns : List (Str × (Tok → Value))) : Prop := True
theorem cut_at {M : Model} {A : Around} {test : PySem.Expr} {body orelse : List Stmt} {pos : Pos} {rest : List Stmt} {env : Env} {Q : Flow → Shared → Prop} {E : Value → Shared → Prop} {s : Shared} {g : Heap} {L : Addr} {m₀ : Str → Option Value} {news : List (Addr × Obj)} {k : Nat} {P : Prop} {ns : List (Str × (Tok → Value))}
   (_hl : pos.line = k) (_hC : CutAt k P ns) (_F : Fr g L s.heap m₀) (_N : News g L s.heap news)
   (h1 : wpAny M A (exec (.If test body orelse pos) env) (Cut g L news s P ns) E s)
   (h2 : P → ∀ m h tk, News g L h news → JElim g L h (wpAny M A (execs rest env) Q E { s with heap := h, toks := tk }) ns m) :
   wpAny M A (execs (.If test body orelse pos :: rest) env) Q E s := by
  refine wpAny_execs_cons (wpAny_mono h1 (fun fl s' hc => ?_) fun _ _ y => y)
  obtain ⟨rfl, hP, m, h, tk, rfl, F, N⟩ := hc
  exact jelim (h2 hP m h tk N) F
abbrev T4 (i1 i2 i3 i4 : Int) (t1 t2 t3 t4 : Tok) (c : Nat) : Obj := { cls := .type "tuple", data := .seq #[.int i1 t1, .int i2 t2, .int i3 t3, .int i4 t4] c }
abbrev Ret4 (h₀ : Heap) (L : Addr) (m : Str → Option Value) (news : List (Addr × Obj)) (s : Shared) (Q : Value → Shared → Prop) (i1 i2 i3 i4 : Int) : Prop :=
  ∀ (D : Addr) (t1 t2 t3 t4 : Tok) (c : Nat) (h' : Heap) (tk' : Nat), Fr h₀ L h' m → News h₀ L h' ((D, T4 i1 i2 i3 i4 t1 t2 t3 t4 c) :: news) → AllLt D news → Q (.ref D) { s with heap := h', toks := tk' }
theorem ret4_end {h₀ h' : Heap} {L D : Addr} {m : Str → Option Value} {news news' : List (Addr × Obj)} {s : Shared} {Q : Value → Shared → Prop} {i1 i2 i3 i4 j1 j2 j3 j4 : Int} {t1 t2 t3 t4 : Tok} {c : Nat} {tk' : Nat}
   (R : Ret4 h₀ L m news s Q i1 i2 i3 i4) (F : Fr h₀ L h' m) (N : News h₀ L h' ((D, T4 j1 j2 j3 j4 t1 t2 t3 t4 c) :: news')) (hN : ∀ p ∈ news, p ∈ news') (hl : AllLt D news) (e1 : j1 = i1) (e2 : j2 = i2) (e3 : j3 = i3) (e4 : j4 = i4) :
   Q (.ref D) { s with heap := h', toks := tk' } := by
  subst e1 e2 e3 e4
  exact R D t1 t2 t3 t4 c h' tk' F (fun p hp => by
    rcases List.mem_cons.mp hp with rfl | hp
    · exact N _ (List.mem_cons_self ..)
    · exact N p (List.mem_cons_of_mem _ (hN p hp))) hl
-- Drv
local macro_rules | `(tactic| walk_at "m name") => `(tactic| first
  | (refine' nameX_L ?F ?v ?_ ?a ?b; (case F => k_asm); (case a => first | rfl | assumption); (case b => rfl); (case v => rfl))
  | (refine' nameX_K ?F ?X ?T ?e ?_ ?a ?b; (case F => k_asm); (case X => k_asm); (case T => k_asm); (case a => rfl); (case b => rfl); (case e => k_is))
  | (refine' nameX_B ?F ?X ?T ?e ?v ?n ?_ ?a ?b; (case F => k_asm); (case X => k_asm); (case T => k_asm); (case a => rfl); (case b => rfl); (case e => k_is); (case v => boot_fast); (case n => decide)))
local macro_rules | `(tactic| walk_at "m store") => `(tactic| (refine' storeX_L ?F ?N ?_ ?a ?b; (case F => k_asm); (case N => k_asm); (case a => rfl); (case b => rfl); intro h' F' N'; (try dsimp only); k_sweep))
local macro_rules | `(tactic| walk_at "m leave") => `(tactic| (refine' leaveK_ ?k1 ?k2 ?_; (case k1 => k_asm); (case k2 => k_asm); intro kF kN; (try dsimp only)))
local macro_rules | `(tactic| walk_at "m ite") => `(tactic| first
  | with_reducible refine ite_tt ?_
  | with_reducible refine ite_ff ?_
  | ((with_reducible refine' ite_pos ?y1 ?_); (case y1 => with_reducible assumption))
  | ((with_reducible refine' ite_neg ?y1 ?_); (case y1 => with_reducible assumption))
  | ((with_reducible refine' ite_isFalse ?y1 ?_); (case y1 => with_reducible assumption))
  | ((with_reducible refine split_ine ?_ ?_) <;> (intro hc; try (exfalso; omega)))
  | ((with_reducible refine split_ieq ?_ ?_) <;> (intro hc; try (exfalso; omega)))
  | (with_reducible refine split_not ?_)
  | ((with_reducible refine split_dec ?_ ?_) <;> (intro hc; try (exfalso; omega)))
  | ((with_reducible refine split_bool ?_ ?_) <;> intro hc))
local macro_rules | `(tactic| walk_at "m spl") => `(tactic| first | refine args_cons ?_ | (refine args_nil ?_; (try dsimp only [List.cons_append, List.nil_append])))
local macro_rules | `(tactic| walk_at "m eval") => `(tactic| first
  | ((with_reducible show wpAny _ _ (eval (Expr.Name _ _) _) _ _ _); walk_at "m name")
  | with_reducible refine wpAny_Constant_int ?_
  | with_reducible refine Calls.Constant_str ?_
  | with_reducible refine wpAny_BinOp ?_
  | with_reducible refine UnaryOp_ ?_
  | ((with_reducible show wpAny _ _ (eval (Expr.Compare _ _ _ _) _) _ _ _); refine wpAny_Compare1 ?_)
  | ((with_reducible show wpAny _ _ (eval (Expr.Call (Expr.Attribute _ _ _) _ _ _) _) _ _ _); refine MethodCall_ ?_)
  | ((with_reducible show wpAny _ _ (eval (Expr.Call _ _ _ _) _) _ _ _); refine Call_ ?_)
  | with_reducible refine Tuple_ ?_
  | with_reducible refine List_ ?_
  | ((with_reducible show wpAny _ _ (eval (Expr.Subscript _ _ _) _) _ _ _); refine Subscript_ ?_)
  | with_reducible refine IfExp_ ?_
  | with_reducible refine BoolOp_one ?_
  | with_reducible refine BoolOp_and ?_
  | with_reducible refine BoolOp_or ?_
  | ((with_reducible show wpAny _ _ (eval (Expr.NamedExpr _ _ _) _) _ _ _); refine wpAny_NamedExpr ?_))
local macro_rules | `(tactic| walk_at "m exec") => `(tactic| first
  | ((with_reducible show wpAny _ _ (exec (Stmt.Assign [Expr.Name _ _] _ _) _) _ _ _); refine wpAny_Assign_Name ?_)
  | ((with_reducible show wpAny _ _ (exec (Stmt.Assign [Expr.Tuple _ _ _] _ _) _) _ _ _); first | refine Assign_Tuple_swapped ?_ | refine Assign_Tuple ?_)
  | ((with_reducible show wpAny _ _ (exec (Stmt.AugAssign _ _ _ _) _) _ _ _); refine wpAny_AugAssign_Name ?_)
  | ((with_reducible show wpAny _ _ (exec (Stmt.If _ _ _ _) _) _ _ _); refine wpAny_If ?_)
  | ((with_reducible show wpAny _ _ (exec (Stmt.Return (some _) _) _) _ _ _); refine wpAny_Return_some ?_)
  | ((with_reducible show wpAny _ _ (exec (Stmt.Assert _ _ _) _) _ _ _); refine wpAny_Assert_holds ?_))
local macro_rules | `(tactic| walk_at "m true") => `(tactic| first
  | ((with_reducible show wpAny _ _ (isTrue (Expr.Compare _ _ _ _) _ _) _ _ _); refine wpAny_isTrue_Compare1 ?_)
  | with_reducible refine isTrue_and_nil ?_
  | with_reducible refine isTrue_or_nil ?_
  | with_reducible refine isTrue_and ?_
  | with_reducible refine isTrue_or ?_
  | with_reducible refine isTrue_not ?_
  | refine isTrue_plain ?_)
local macro_rules | `(tactic| walk_at "m bin") => `(tactic| first
  | with_reducible refine add_int ?_
  | with_reducible refine sub_int ?_
  | with_reducible refine and_int ?_
  | with_reducible refine xor_int ?_
  | with_reducible refine iadd_int ?_
  | with_reducible refine isub_int ?_)
local macro_rules | `(tactic| walk_at "m cmp") => `(tactic| first
  | with_reducible refine eq_int ?_
  | with_reducible refine ne_int ?_
  | with_reducible refine lt_int ?_
  | with_reducible refine gt_int ?_
  | with_reducible refine le_int ?_
  | with_reducible refine ge_int ?_
  | with_reducible refine eq_str ?_)
local macro_rules | `(tactic| walk_at "m room") => `(tactic| first | assumption | ((try dsimp only [ktrTop, Around.deeper] at *); omega))
local macro_rules | `(tactic| walk_at "m call") => `(tactic| first
  | with_reducible refine IsiPair.int_int ?_
  | (with_reducible refine' divmod_N ?F ?N ?hb ?_ ?hp; (case F => k_asm); (case N => k_asm); (case hb => first | assumption | omega); (case hp => walk_at "m pylong"); intro h' F' N'; (try dsimp only); k_sweep))
local macro_rules | `(tactic| walk_at "m tup") => `(tactic| first | exact News.isTup (by k_asm) (by k_mem) | exact News.isTup (by k_asm) (by assumption) | with_reducible assumption)
local macro_rules | `(tactic| walk_at "m pylong") => `(tactic| first | assumption | exact Or.inl (PyProof.noPylong_small (by omega)))
local macro_rules | `(tactic| walk_at "m cut") => `(tactic| ((with_reducible show wpAny _ _ (execs (Stmt.If _ _ _ _ :: _) _) _ _ _); with_reducible refine' cut_at rfl ?hC ?F ?N ?_ ?_; (case hC => with_reducible assumption); (case F => k_asm); (case N => k_asm); rotate_left; (intro hP' m' h' tk' N'; (try dsimp only [JElim]); intros; k_sweep)))
local macro_rules | `(tactic| walk_at "m eq") => `(tactic| first | with_reducible rfl | with_reducible assumption | omega | (simp [*]; done))
local macro_rules | `(tactic| walk_at "m P") => `(tactic| first | exact True.intro | assumption | omega | (simp [*]; done))
local macro_rules | `(tactic| walk_at "m jfr") => `(tactic| first
  | ((with_reducible show JFr _ _ _ ((_, fun t => Value.int _ t) :: _) _); (refine' jfr_int ?a ?b ?_; (case a => exact rfl); (case b => walk_at "m eq"); walk_at "m jfr"))
  | ((with_reducible show JFr _ _ _ ((_, fun t => Value.str _ t) :: _) _); (refine' jfr_str ?a ?b ?_; (case a => exact rfl); (case b => walk_at "m eq"); walk_at "m jfr"))
  | ((with_reducible show JFr _ _ _ ((_, fun _ => Value.ref _) :: _) _); (refine' jfr_ref ?a ?_; (case a => exact rfl); walk_at "m jfr"))
  | ((with_reducible show JFr _ _ _ [] _); (refine' jfr_nil ?a; (case a => k_asm))))
local macro_rules | `(tactic| walk_at "m sub") => `(tactic| fail "m sub: no rule")
local macro_rules | `(tactic| walk_at "m end") => `(tactic| ((with_reducible show Cut _ _ _ _ _ _ _ _); (refine' cut_end ?F0 ?N ?hN ?P ?F; (case F0 => k_asm); (case N => k_asm); (case hN => (intro p' hp'; repeat (first | exact hp' | refine List.mem_cons_of_mem _ ?_))); (case P => walk_at "m P"); (case F => walk_at "m jfr"))))
local macro_rules | `(tactic| walk_at "m") => `(tactic| first
  | ((with_reducible show wpAny _ _ (eval _ _) _ _ _); walk_at "m eval")
  | ((with_reducible show wpAny _ _ (spliced _) _ _ _); walk_at "m spl")
  | ((with_reducible show wpAny _ _ (exec _ _) _ _ _); walk_at "m exec")
  | ((with_reducible show wpAny _ _ (execs (_ :: _) _) _ _ _); (try dsimp only); (try k_gentoks); first | walk_at "m cut" | (with_reducible refine wpAny_execs_cons ?_))
  | with_reducible refine wpAny_execs_nil ?_
  | ((with_reducible show wpAny _ _ (binaryOp _ _ _) _ _ _); walk_at "m bin")
  | ((with_reducible show wpAny _ _ (inplaceOp _ _ _) _ _ _); walk_at "m bin")
  | ((with_reducible show wpAny _ _ (loadName _ _) _ _ _); (refine' ldn ?k1 ?k2 ?_; (case k1 => k_asm); (case k2 => rfl)))
  | ((with_reducible show wpAny _ _ (compareOp _ _ _) _ _ _); walk_at "m cmp")
  | ((with_reducible show wpAny _ _ (isTrue _ _ _) _ _ _); walk_at "m true")
  | with_reducible refine wpAny_truthy_bool ?_
  | with_reducible refine truthy_int ?_
  | ((with_reducible show ite _ _ _); walk_at "m ite")
  | ((with_reducible show wpAny _ _ (storeName _ _ _) _ _ _); walk_at "m store")
  | ((with_reducible show wpAny _ _ (callWith _ (Value.ref _) _ _ _) _ _ _); first
    | (refine' callWith_K ?k1 ?k2 ?_; (case k1 => k_asm); (case k2 => k_is))
    | (refine' callWith_K0 ?k1 ?k2 ?_; (case k1 => k_in); (case k2 => k_is)))
  | ((with_reducible show wpAny _ _ (callWith _ _ _ _ _) _ _ _); first
    | with_reducible refine callWith_method0 ?_
    | refine PyProof.Rows.callWith_builtin1 ?_
    | refine PyProof.Rows.callWith_method1 ?_
    | with_unfolding_all refine Pv.callWith_type1 ?_)
  | ((with_reducible show Frag.In _ _ ∧ _); refine ⟨by k_in, ?_⟩; (try dsimp only [List.nil_append, List.cons_append]))
  | ((with_reducible show wpAny _ _ (call _ _ _) _ _ _); walk_at "m call")
  | ((with_reducible show wpAny _ _ (subscriptTail _ _ _ _) _ _ _); walk_at "m sub")
  | with_reducible refine neg_int ?_
  | ((with_reducible show wpAny _ _ (getMethod (Value.int _ _) _ _) _ _ _); with_reducible refine getMethod_int_bit_length ?_)
  | with_reducible refine call_int_bit_length ?_
  | ((with_reducible show wpAny _ _ (newTuple _) _ _ _); (refine' kup_newTuple ?F ?N ?_ ?z; (case F => k_asm); (case N => k_asm); (case z => kmk_size)); intro D' h' F' N' l1; (try k_lt l1); k_sweep)
  | ((with_reducible show wpAny _ _ (assign (Expr.Tuple _ _ _) _ (Value.ref _)) _ _ _); (refine' unpackN_ ?F ?N ?T ?k1 ?k2 ?k3 ?_; (case F => k_asm); (case N => k_asm); (case T => walk_at "m tup"); (case k1 => exact rfl); (case k2 => exact rfl); (case k3 => exact rfl)); intro h' F' N'; (try dsimp only); k_sweep)
  | ((with_reducible show wpAny _ _ (unpackItems (Value.ref _) _ none) _ _ _); (refine' unpackItemsN_ ?F ?N ?T ?k4 ?k5 ?_; (case F => k_asm); (case N => k_asm); (case T => walk_at "m tup"); (case k4 => exact rfl); (case k5 => exact rfl)); intro h' F' N'; (try dsimp only); k_sweep)
  | ((with_reducible show wpAny _ _ (assignInOrder _ _) _ _ _); first | refine assignInOrder_cons ?_ | refine assignInOrder_nil ?_)
  | with_reducible refine bindName_ ?_
  | with_reducible refine PyProof.Rows.assign_Name ?_
  | ((with_reducible show LeaveK _ _ _ _ _ _ _); walk_at "m leave")
  | ((with_reducible show _ = true ∧ _); (refine' ⟨?ha, ?_⟩; (case ha => first | exact beq_iff_eq.mpr (by assumption) | exact decide_eq_true (by omega)); (try dsimp only)))
  | walk_at "m end")
local macro_rules | `(tactic| walk_at "m sub all") => `(tactic| (intro p' hp'; repeat (first | exact hp' | refine List.mem_cons_of_mem _ ?_)))
theorem allLt_tail {d : Addr} {p : Addr × Obj} {r : List (Addr × Obj)} (h : AllLt d (p :: r)) : AllLt d r := h.2
local macro_rules | `(tactic| walk_at "m lt all") => `(tactic| first | assumption | exact allLt_of (by assumption) | exact True.intro | exact allLt_tail (by assumption) | exact allLt_tail (allLt_tail (by assumption)) | exact allLt_tail (allLt_tail (allLt_tail (by assumption))) | exact allLt_tail (allLt_tail (allLt_tail (allLt_tail (by assumption)))) | (simp only [AllLt, and_true] at *; omega))
local macro_rules | `(tactic| walk_at "m ret4") => `(tactic| (refine' ret4_end ?R ?F ?N ?hN ?hl ?e1 ?e2 ?e3 ?e4; (case R => assumption); (case F => assumption); (case N => assumption); (case hN => walk_at "m sub all"); (case hl => walk_at "m lt all"); (case e1 => walk_at "m eq"); (case e2 => walk_at "m eq"); (case e3 => walk_at "m eq"); (case e4 => walk_at "m eq")))
local macro_rules | `(tactic| walk_at "m go") => `(tactic| repeat' (first | walk_at "m" | (k_unfold; (try dsimp only)) | (dsimp only; walk_at "m") | fail "m go"))
local macro_rules | `(tactic| walk_at "m gow") => `(tactic| repeat' (first | walk_at "m" | (k_unfold; (try dsimp only)) | (dsimp only; walk_at "m") | walk1 | fail "m go"))
-- P1
section
def cmp3 (a b : Nat) : Nat := if a < b then 0 else if a = b then 1 else 2
theorem cmp3_mul {k a b : Nat} (hk : 0 < k) : cmp3 (k * a) (k * b) = cmp3 a b := by
  unfold cmp3
  have h1 : k * a < k * b ↔ a < b := Nat.mul_lt_mul_left hk
  have h2 : k * a = k * b ↔ a = b := Nat.mul_right_inj (Nat.ne_of_gt hk)
  simp only [h1, h2]
/-- the rounded quotient -/
def rdW (up : Nat → Nat → Bool) (N D : Nat) : Nat := if up (N / D) (cmp3 (2 * (N % D)) D) = true ∧ N % D ≠ 0 then N / D + 1 else N / D
theorem rdW_scale {up : Nat → Nat → Bool} {k N D : Nat} (hk : 0 < k) : rdW up (k * N) (k * D) = rdW up N D := by
  unfold rdW
  rw [Nat.mul_div_mul_left _ _ hk, Nat.mul_mod_mul_left]
  have e : 2 * (k * (N % D)) = k * (2 * (N % D)) := by rw [Nat.mul_left_comm]
  rw [e, cmp3_mul hk]
  have h : k * (N % D) ≠ 0 ↔ N % D ≠ 0 := by
    constructor
    · intro h q; rw [q, Nat.mul_zero] at h; exact h rfl
    · intro h; exact Nat.mul_ne_zero (Nat.ne_of_gt hk) h
  simp only [h]
theorem rdW_ratio {up : Nat → Nat → Bool} {N D N' D' : Nat} (hD : 0 < D) (hD' : 0 < D') (h : N * D' = N' * D) : rdW up N D = rdW up N' D' ∧ N / D = N' / D' := by
  constructor
  · rw [← rdW_scale (up := up) (N := N) (D := D) hD', ← rdW_scale (up := up) (N := N') (D := D') hD]
    rw [Nat.mul_comm D' N, h, Nat.mul_comm N' D, Nat.mul_comm D' D]
  · rw [← Nat.mul_div_mul_left N D hD', ← Nat.mul_div_mul_left N' D' hD, Nat.mul_comm D' N, h, Nat.mul_comm N' D, Nat.mul_comm D' D]
theorem two_pos (k : Nat) : 0 < 2 ^ k := Nat.pow_pos (by decide)
def numN (a : Nat) (e : Int) : Nat := a * 2 ^ (-e).toNat
def lowN (b : Nat) (e : Int) : Nat := b * 2 ^ e.toNat
theorem lowN_pos {b : Nat} {e : Int} (h : 0 < b) : 0 < lowN b e := Nat.mul_pos h (two_pos _)
/-- the law's answer, told by whole numbers -/
def IsLaw (up : Nat → Nat → Bool) (p a b x : Nat) (f : Int) : Prop :=
  ∃ (e : Int) (k : Nat), 2 ^ (p - 1) ≤ numN a e / lowN b e ∧ numN a e / lowN b e < 2 ^ p ∧ rdW up (numN a e) (lowN b e) = x * 2 ^ k ∧ x % 2 = 1 ∧ f = e + k
/-- the quotient at a common shift -/
theorem at_shift {up : Nat → Nat → Bool} {a b K : Nat} {e : Int} (hb : 0 < b) (hK : 0 ≤ (K : Int) + e) :
   rdW up (numN a e) (lowN b e) = rdW up (a * 2 ^ K) (b * 2 ^ ((K : Int) + e).toNat) ∧ numN a e / lowN b e = a * 2 ^ K / (b * 2 ^ ((K : Int) + e).toNat) := by
  refine rdW_ratio (lowN_pos hb) (Nat.mul_pos hb (two_pos _)) ?_
  unfold numN lowN
  have h : (-e).toNat + ((K : Int) + e).toNat = K + e.toNat := by omega
  calc a * 2 ^ (-e).toNat * (b * 2 ^ ((K : Int) + e).toNat) = (a * b) * (2 ^ (-e).toNat * 2 ^ ((K : Int) + e).toNat) := by ac_rfl
    _ = (a * b) * (2 ^ K * 2 ^ e.toNat) := by rw [← Nat.pow_add, h, Nat.pow_add]
    _ = a * 2 ^ K * (b * 2 ^ e.toNat) := by ac_rfl
theorem odd_unique : ∀ {k k' x x' : Nat}, x * 2 ^ k = x' * 2 ^ k' → x % 2 = 1 → x' % 2 = 1 → x = x' ∧ k = k'
  | 0, 0, x, x', h, _, _ => ⟨by simpa using h, rfl⟩
  | 0, k + 1, x, x', h, hx, _ => by
    rw [Nat.pow_zero, Nat.mul_one, Nat.pow_succ, ← Nat.mul_assoc] at h
    omega
  | k + 1, 0, x, x', h, _, hx' => by
    rw [Nat.pow_zero, Nat.mul_one, Nat.pow_succ, ← Nat.mul_assoc] at h
    omega
  | k + 1, k' + 1, x, x', h, hx, hx' => by
    rw [Nat.pow_succ, Nat.pow_succ, ← Nat.mul_assoc, ← Nat.mul_assoc] at h
    obtain ⟨h1, h2⟩ := odd_unique (Nat.eq_of_mul_eq_mul_right (by decide) h) hx hx'
    exact ⟨h1, by omega⟩
theorem less_shift {n b u u' p : Nat} (hu : u < u') (hp : 1 ≤ p) (h1 : n / (b * 2 ^ u) < 2 ^ p) (h2 : 2 ^ (p - 1) ≤ n / (b * 2 ^ u')) : False := by
  have e : b * 2 ^ u' = b * 2 ^ u * 2 ^ (u' - u) := by
    rw [Nat.mul_assoc, ← Nat.pow_add]; congr 2; omega
  rw [e, ← Nat.div_div_eq_div_mul] at h2
  have h3 : n / (b * 2 ^ u) / 2 ^ (u' - u) ≤ n / (b * 2 ^ u) / 2 := by
    refine Nat.div_le_div_left ?_ (by decide)
    calc 2 = 2 ^ 1 := rfl
      _ ≤ 2 ^ (u' - u) := Nat.pow_le_pow_right (by decide) (by omega)
  have h4 : 2 ^ p = 2 * 2 ^ (p - 1) := by
    rw [← Nat.pow_succ']; congr 1; omega
  omega
theorem IsLaw.unique {up : Nat → Nat → Bool} {p a b a' b' x x' : Nat} {f f' : Int} (hp : 1 ≤ p) (hb : 0 < b) (hb' : 0 < b') (hr : a * b' = a' * b) (h : IsLaw up p a b x f) (h' : IsLaw up p a' b' x' f') : x = x' ∧ f = f' := by
  obtain ⟨e, k, h1, h2, h3, h4, h5⟩ := h
  obtain ⟨e', k', h1', h2', h3', h4', h5'⟩ := h'
  let K := (-e).toNat + (-e').toNat
  have hK : 0 ≤ (K : Int) + e := by show 0 ≤ (((-e).toNat + (-e').toNat : Nat) : Int) + e; omega
  have hK' : 0 ≤ (K : Int) + e' := by show 0 ≤ (((-e).toNat + (-e').toNat : Nat) : Int) + e'; omega
  obtain ⟨g1, g2⟩ := at_shift (up := up) (a := a) hb hK
  obtain ⟨g1', g2'⟩ := at_shift (up := up) (a := a') hb' hK'
  have hr' : a' * 2 ^ K * (b * 2 ^ ((K : Int) + e').toNat) = a * 2 ^ K * (b' * 2 ^ ((K : Int) + e').toNat) := by
    calc a' * 2 ^ K * (b * 2 ^ ((K : Int) + e').toNat) = (a' * b) * (2 ^ K * 2 ^ ((K : Int) + e').toNat) := by ac_rfl
      _ = (a * b') * (2 ^ K * 2 ^ ((K : Int) + e').toNat) := by rw [hr]
      _ = a * 2 ^ K * (b' * 2 ^ ((K : Int) + e').toNat) := by ac_rfl
  obtain ⟨r1, r2⟩ := rdW_ratio (up := up) (Nat.mul_pos hb' (two_pos _)) (Nat.mul_pos hb (two_pos _)) hr'
  rw [g1', r1] at h3'
  rw [g2', r2] at h1' h2'
  rw [g1] at h3
  rw [g2] at h1 h2
  have he : ((K : Int) + e).toNat = ((K : Int) + e').toNat := by
    rcases Nat.lt_trichotomy ((K : Int) + e).toNat ((K : Int) + e').toNat with q | q | q
    · exact (less_shift q hp h2 h1').elim
    · exact q
    · exact (less_shift q hp h2' h1).elim
  rw [he] at h3
  obtain ⟨o1, o2⟩ := odd_unique (h3.symm.trans h3') h4 h4'
  exact ⟨o1, by omega⟩
end
-- P2
section
theorem IsLaw.of_ratio {up : Nat → Nat → Bool} {p a b a' b' x : Nat} {f : Int} (hb : 0 < b) (hb' : 0 < b') (hr : a * b' = a' * b) (h : IsLaw up p a b x f) : IsLaw up p a' b' x f := by
  obtain ⟨e, k, h1, h2, h3, h4, h5⟩ := h
  have hr' : numN a e * lowN b' e = numN a' e * lowN b e := by
    unfold numN lowN
    calc a * 2 ^ (-e).toNat * (b' * 2 ^ e.toNat) = (a * b') * (2 ^ (-e).toNat * 2 ^ e.toNat) := by ac_rfl
      _ = (a' * b) * (2 ^ (-e).toNat * 2 ^ e.toNat) := by rw [hr]
      _ = a' * 2 ^ (-e).toNat * (b * 2 ^ e.toNat) := by ac_rfl
  obtain ⟨r1, r2⟩ := rdW_ratio (up := up) (lowN_pos (e := e) hb) (lowN_pos (e := e) hb') hr'
  exact ⟨e, k, by rw [← r2]; exact h1, by rw [← r2]; exact h2, by rw [← r1]; exact h3, h4, h5⟩
/-- a quotient at hand, its exponent told -/
theorem law_at {up : Nat → Nat → Bool} {p a b N D x k : Nat} {e : Int} (hb : 0 < b) (hD : 0 < D) (hr : numN a e * D = N * lowN b e)
   (h1 : 2 ^ (p - 1) ≤ N / D) (h2 : N / D < 2 ^ p) (h3 : rdW up N D = x * 2 ^ k) (h4 : x % 2 = 1) : IsLaw up p a b x (e + k) := by
  obtain ⟨r1, r2⟩ := rdW_ratio (up := up) (lowN_pos (e := e) hb) hD hr
  exact ⟨e, k, by rw [r2]; exact h1, by rw [r2]; exact h2, by rw [r1]; exact h3, h4, rfl⟩
theorem pow_split (a b c d : Nat) (h : a + b = c + d) : 2 ^ a * 2 ^ b = 2 ^ c * 2 ^ d := by rw [← Nat.pow_add, ← Nat.pow_add, h]
theorem law_big {up : Nat → Nat → Bool} {p n man x k : Nat} {exp : Int} (h1 : 2 ^ (p - 1 + n) ≤ man) (h2 : man < 2 ^ (p + n)) (h3 : rdW up man (2 ^ n) = x * 2 ^ k) (h4 : x % 2 = 1) :
   IsLaw up p (man * 2 ^ exp.toNat) (2 ^ (-exp).toNat) x (exp + n + k) := by
  refine law_at (two_pos _) (two_pos n) ?_ ?_ ?_ h3 h4
  · unfold numN lowN
    calc man * 2 ^ exp.toNat * 2 ^ (-(exp + n)).toNat * 2 ^ n = man * ((2 ^ exp.toNat * 2 ^ (-(exp + n)).toNat) * 2 ^ n) := by ac_rfl
      _ = man * (2 ^ (-exp).toNat * 2 ^ (exp + n).toNat) := by
        rw [← Nat.pow_add, ← Nat.pow_add, ← Nat.pow_add]; congr 2; omega
  · rw [Nat.le_div_iff_mul_le (two_pos n), ← Nat.pow_add]; exact h1
  · rw [Nat.div_lt_iff_lt_mul (two_pos n), ← Nat.pow_add]; exact h2
theorem rdW_one {up : Nat → Nat → Bool} (N : Nat) : rdW up N 1 = N := by
  unfold rdW
  rw [Nat.mod_one]
  simp
theorem law_small {up : Nat → Nat → Bool} {p bc man x t : Nat} {exp : Int} (hb : 1 ≤ bc) (hp : bc ≤ p) (h1 : 2 ^ (bc - 1) ≤ man) (h2 : man < 2 ^ bc) (h3 : man = x * 2 ^ t) (h4 : x % 2 = 1) :
   IsLaw up p (man * 2 ^ exp.toNat) (2 ^ (-exp).toNat) x (exp + t) := by
  have e : exp + t = (exp - ((p - bc : Nat) : Int)) + ((t + (p - bc) : Nat) : Int) := by omega
  rw [e]
  refine law_at (N := man * 2 ^ (p - bc)) (D := 1) (two_pos _) (by decide) ?_ ?_ ?_ ?_ h4
  · unfold numN lowN
    rw [Nat.mul_one]
    calc man * 2 ^ exp.toNat * 2 ^ (-(exp - ((p - bc : Nat) : Int))).toNat = man * (2 ^ exp.toNat * 2 ^ (-(exp - ((p - bc : Nat) : Int))).toNat) := by ac_rfl
      _ = man * (2 ^ (p - bc) * (2 ^ (-exp).toNat * 2 ^ (exp - ((p - bc : Nat) : Int)).toNat)) := by
        rw [← Nat.pow_add, ← Nat.pow_add, ← Nat.pow_add]; congr 2; omega
      _ = man * 2 ^ (p - bc) * (2 ^ (-exp).toNat * 2 ^ (exp - ((p - bc : Nat) : Int)).toNat) := by ac_rfl
  · rw [Nat.div_one]
    calc 2 ^ (p - 1) = 2 ^ (bc - 1) * 2 ^ (p - bc) := by rw [← Nat.pow_add]; congr 1; omega
      _ ≤ man * 2 ^ (p - bc) := Nat.mul_le_mul_right _ h1
  · rw [Nat.div_one]
    calc man * 2 ^ (p - bc) < 2 ^ bc * 2 ^ (p - bc) := Nat.mul_lt_mul_of_pos_right h2 (two_pos _)
      _ = 2 ^ p := by rw [← Nat.pow_add]; congr 1; omega
  · rw [rdW_one, h3, Nat.mul_assoc, ← Nat.pow_add]
/-- the sticky bit tells the rest -/
theorem rdW_sticky {up : Nat → Nat → Bool} {q t r m : Nat} (hr : 0 < r) (hrt : r < t) : rdW up (2 * q + 1) (2 ^ (m + 2)) = rdW up (q * t + r) (t * 2 ^ (m + 1)) := by
  have ht : 0 < t := by omega
  have hH : 0 < 2 ^ m := two_pos m
  have e2 : 2 ^ (m + 2) = 2 * 2 ^ (m + 1) := by rw [Nat.pow_succ 2 (m + 1), Nat.mul_comm]
  have e1 : 2 ^ (m + 1) = 2 * 2 ^ m := by rw [Nat.pow_succ 2 m, Nat.mul_comm]
  have d1 : (2 * q + 1) / 2 ^ (m + 2) = q / 2 ^ (m + 1) := by
    rw [e2, ← Nat.div_div_eq_div_mul]; congr 1; omega
  have d2 : (q * t + r) / (t * 2 ^ (m + 1)) = q / 2 ^ (m + 1) := by
    rw [← Nat.div_div_eq_div_mul]; congr 1
    rw [Nat.mul_comm q t, Nat.mul_add_div ht, Nat.div_eq_of_lt hrt, Nat.add_zero]
  have m1 : (2 * q + 1) % 2 ^ (m + 2) = 2 * (q % 2 ^ (m + 1)) + 1 := by
    rw [e2, Nat.mod_mul, show (2 * q + 1) % 2 = 1 from by omega, show (2 * q + 1) / 2 = q from by omega]; omega
  have m2 : (q * t + r) % (t * 2 ^ (m + 1)) = t * (q % 2 ^ (m + 1)) + r := by
    rw [Nat.mod_mul, Nat.mul_comm q t, Nat.mul_add_mod, Nat.mod_eq_of_lt hrt, Nat.mul_add_div ht, Nat.div_eq_of_lt hrt, Nat.add_zero, Nat.add_comm]
  unfold rdW
  rw [d1, d2, m1, m2]
  have hc : cmp3 (2 * (2 * (q % 2 ^ (m + 1)) + 1)) (2 ^ (m + 2)) = cmp3 (2 * (t * (q % 2 ^ (m + 1)) + r)) (t * 2 ^ (m + 1)) := by
    rw [e2, e1]
    generalize q % (2 * 2 ^ m) = c
    generalize 2 ^ m = H at *
    unfold cmp3
    by_cases hlt : c < H
    · have a1 : 2 * (2 * c + 1) < 2 * (2 * H) := by omega
      have a2 : 2 * (t * c + r) < t * (2 * H) := by
        have : t * (c + 1) ≤ t * H := Nat.mul_le_mul_left t hlt
        rw [Nat.mul_add, Nat.mul_one] at this
        have e : t * (2 * H) = 2 * (t * H) := Nat.mul_left_comm ..
        omega
      rw [if_pos a1, if_pos a2]
    · have hge : H ≤ c := Nat.le_of_not_lt hlt
      have a1 : ¬ 2 * (2 * c + 1) < 2 * (2 * H) := by omega
      have a1' : ¬ 2 * (2 * c + 1) = 2 * (2 * H) := by omega
      have b0 : t * H ≤ t * c := Nat.mul_le_mul_left t hge
      have e : t * (2 * H) = 2 * (t * H) := Nat.mul_left_comm ..
      have a2 : ¬ 2 * (t * c + r) < t * (2 * H) := by omega
      have a2' : ¬ 2 * (t * c + r) = t * (2 * H) := by omega
      rw [if_neg a1, if_neg a1', if_neg a2, if_neg a2']
  rw [hc]
  have h1 : 2 * (q % 2 ^ (m + 1)) + 1 ≠ 0 := by omega
  have h2 : t * (q % 2 ^ (m + 1)) + r ≠ 0 := by omega
  by_cases hu : up (q / 2 ^ (m + 1)) (cmp3 (2 * (t * (q % 2 ^ (m + 1)) + r)) (t * 2 ^ (m + 1))) = true
  · rw [if_pos ⟨hu, h1⟩, if_pos ⟨hu, h2⟩]
  · rw [if_neg (fun z => hu z.1), if_neg (fun z => hu z.1)]
theorem div_sticky {q t r m : Nat} (hrt : r < t) : (q * t + r) / (t * 2 ^ (m + 1)) = (2 * q + 1) / 2 ^ (m + 2) := by
  have ht : 0 < t := by omega
  have e2 : 2 ^ (m + 2) = 2 * 2 ^ (m + 1) := by rw [Nat.pow_succ 2 (m + 1), Nat.mul_comm]
  rw [e2, ← Nat.div_div_eq_div_mul, ← Nat.div_div_eq_div_mul]
  have a : (2 * q + 1) / 2 = q := by omega
  rw [a, Nat.mul_comm q t, Nat.mul_add_div ht, Nat.div_eq_of_lt hrt, Nat.add_zero]
/-- the quotient of two whole numbers, its rest told by a sticky bit -/
theorem law_div {up : Nat → Nat → Bool} {p s t E n x k : Nat} {d : Int} (ht : 0 < t) (hr : s * 2 ^ E % t ≠ 0) (hn : 2 ≤ n)
   (h1 : 2 ^ (p - 1 + n) ≤ 2 * (s * 2 ^ E / t) + 1) (h2 : 2 * (s * 2 ^ E / t) + 1 < 2 ^ (p + n)) (h3 : rdW up (2 * (s * 2 ^ E / t) + 1) (2 ^ n) = x * 2 ^ k) (h4 : x % 2 = 1) :
   IsLaw up p (s * 2 ^ d.toNat) (t * 2 ^ (-d).toNat) x (d - ((E + 1 : Nat) : Int) + n + k) := by
  obtain ⟨m, rfl⟩ : ∃ m, n = m + 2 := ⟨n - 2, by omega⟩
  have hrt : s * 2 ^ E % t < t := Nat.mod_lt _ ht
  have hdm : s * 2 ^ E / t * t + s * 2 ^ E % t = s * 2 ^ E := by rw [Nat.mul_comm]; exact Nat.div_add_mod ..
  have st := rdW_sticky (up := up) (q := s * 2 ^ E / t) (m := m) (by omega : 0 < s * 2 ^ E % t) hrt
  have dv := div_sticky (q := s * 2 ^ E / t) (m := m) hrt
  rw [hdm] at st dv
  refine law_at (N := s * 2 ^ E) (D := t * 2 ^ (m + 1)) (Nat.mul_pos ht (two_pos _)) (Nat.mul_pos ht (two_pos _)) ?_ ?_ ?_ (st ▸ h3) h4
  · unfold numN lowN
    calc s * 2 ^ d.toNat * 2 ^ (-(d - ((E + 1 : Nat) : Int) + ((m + 2 : Nat) : Int))).toNat * (t * 2 ^ (m + 1))
        = (s * t) * ((2 ^ d.toNat * 2 ^ (-(d - ((E + 1 : Nat) : Int) + ((m + 2 : Nat) : Int))).toNat) * 2 ^ (m + 1)) := by ac_rfl
      _ = (s * t) * (2 ^ E * (2 ^ (-d).toNat * 2 ^ (d - ((E + 1 : Nat) : Int) + ((m + 2 : Nat) : Int)).toNat)) := by
        rw [← Nat.pow_add, ← Nat.pow_add, ← Nat.pow_add, ← Nat.pow_add]; congr 2; omega
      _ = s * 2 ^ E * (t * 2 ^ (-d).toNat * 2 ^ (d - ((E + 1 : Nat) : Int) + ((m + 2 : Nat) : Int)).toNat) := by ac_rfl
  · rw [dv, Nat.le_div_iff_mul_le (two_pos _), ← Nat.pow_add]; exact h1
  · rw [dv, Nat.div_lt_iff_lt_mul (two_pos _), ← Nat.pow_add]; exact h2
/-- no rest -/
theorem law_div0 {up : Nat → Nat → Bool} {p s t E n x k : Nat} {d : Int} (ht : 0 < t) (hr : s * 2 ^ E % t = 0)
   (h1 : 2 ^ (p - 1 + n) ≤ s * 2 ^ E / t) (h2 : s * 2 ^ E / t < 2 ^ (p + n)) (h3 : rdW up (s * 2 ^ E / t) (2 ^ n) = x * 2 ^ k) (h4 : x % 2 = 1) :
   IsLaw up p (s * 2 ^ d.toNat) (t * 2 ^ (-d).toNat) x (d - (E : Int) + n + k) := by
  have hdm : s * 2 ^ E / t * t = s * 2 ^ E := Nat.div_mul_cancel (Nat.dvd_of_mod_eq_zero hr)
  refine law_at (N := s * 2 ^ E / t) (D := 2 ^ n) (Nat.mul_pos ht (two_pos _)) (two_pos n) ?_ ?_ ?_ h3 h4
  · unfold numN lowN
    calc s * 2 ^ d.toNat * 2 ^ (-(d - (E : Int) + (n : Int))).toNat * 2 ^ n
        = s * ((2 ^ d.toNat * 2 ^ (-(d - (E : Int) + (n : Int))).toNat) * 2 ^ n) := by ac_rfl
      _ = s * (2 ^ E * (2 ^ (-d).toNat * 2 ^ (d - (E : Int) + (n : Int)).toNat)) := by
        rw [← Nat.pow_add, ← Nat.pow_add, ← Nat.pow_add, ← Nat.pow_add]; congr 2; omega
      _ = s * 2 ^ E * (2 ^ (-d).toNat * 2 ^ (d - (E : Int) + (n : Int)).toNat) := by ac_rfl
      _ = s * 2 ^ E / t * t * (2 ^ (-d).toNat * 2 ^ (d - (E : Int) + (n : Int)).toNat) := by rw [hdm]
      _ = s * 2 ^ E / t * (t * 2 ^ (-d).toNat * 2 ^ (d - (E : Int) + (n : Int)).toNat) := by ac_rfl
  · rw [Nat.le_div_iff_mul_le (two_pos n), ← Nat.pow_add]; exact h1
  · rw [Nat.div_lt_iff_lt_mul (two_pos n), ← Nat.pow_add]; exact h2
end
-- P3
section
theorem and_even {a b : Nat} (h : ¬ (a % 2 = 1 ∧ b % 2 = 1)) : a &&& b = 2 * (a / 2 &&& b / 2) := by
  have h1 : (a &&& b) / 2 = a / 2 &&& b / 2 := Nat.and_div_two
  have h2 : ¬ (a &&& b) % 2 = 1 := fun q => h (Nat.and_mod_two_eq_one.mp q)
  omega
theorem and_self' (a : Nat) : a &&& a = a := Nat.and_self a
theorem and_pred : ∀ {t x : Nat}, x % 2 = 1 → (x * 2 ^ t) &&& (x * 2 ^ t - 1) = x * 2 ^ t - 2 ^ t
  | 0, x, hx => by
    rw [Nat.pow_zero, Nat.mul_one, and_even (by omega), show (x - 1) / 2 = x / 2 from by omega, and_self']
    omega
  | t + 1, x, hx => by
    have hp := two_pos t
    have hpos : 1 ≤ x * 2 ^ t := Nat.mul_pos (by omega) hp
    have e : x * 2 ^ (t + 1) = 2 * (x * 2 ^ t) := by rw [Nat.pow_succ, ← Nat.mul_assoc, Nat.mul_comm]
    rw [e, and_even (by omega), show 2 * (x * 2 ^ t) / 2 = x * 2 ^ t from by omega, show (2 * (x * 2 ^ t) - 1) / 2 = x * 2 ^ t - 1 from by omega, and_pred hx, Nat.pow_succ]
    omega
theorem and_2 (t : Nat) : t &&& 2 = 2 * (t / 2 % 2) := by
  rw [and_even (by omega), show (2 : Nat) / 2 = 1 from rfl, Nat.and_one_is_mod]
theorem log2_pow (t : Nat) : (2 ^ t).log2 = t := by
  have h0 : 2 ^ t ≠ 0 := Nat.ne_of_gt (two_pos t)
  have h1 : t ≤ (2 ^ t).log2 := (Nat.le_log2 h0).mpr (Nat.le_refl _)
  have h2 : (2 ^ t).log2 < t + 1 := (Nat.log2_lt h0).mpr (Nat.pow_lt_pow_right (by decide) (by omega))
  omega
theorem log2_eq {n k : Nat} (h1 : 2 ^ k ≤ n) (h2 : n < 2 ^ (k + 1)) : n.log2 = k := by
  have hp := two_pos k
  have h0 : n ≠ 0 := by omega
  have := (Nat.le_log2 h0).mpr h1
  have := (Nat.log2_lt h0).mpr h2
  omega
/-- an odd part and its power -/
theorem odd_part : ∀ {m : Nat}, 0 < m → ∃ x t, m = x * 2 ^ t ∧ x % 2 = 1
  | m, hm => by
    by_cases h : m % 2 = 1
    · exact ⟨m, 0, by simp, h⟩
    · have hlt : m / 2 < m := by omega
      obtain ⟨x, t, e, hx⟩ := odd_part (m := m / 2) (by omega)
      refine ⟨x, t + 1, ?_, hx⟩
      rw [Nat.pow_succ, ← Nat.mul_assoc, ← e]; omega
  termination_by m => m
/-- the half bit and the low bits tell how the rest lies to the half -/
theorem cmp_bits {m n : Nat} (h1 : ¬ (m / 2 ^ n) % 2 = 1) : cmp3 (2 * (m % 2 ^ (n + 1))) (2 ^ (n + 1)) = 0 := by
  have e : m % 2 ^ (n + 1) = m % 2 ^ n + 2 ^ n * (m / 2 ^ n % 2) := Nat.mod_pow_succ
  have hp := two_pos n
  have hl : m % 2 ^ n < 2 ^ n := Nat.mod_lt _ hp
  have h0 : m / 2 ^ n % 2 = 0 := by omega
  rw [h0, Nat.mul_zero, Nat.add_zero] at e
  unfold cmp3
  rw [if_pos (by rw [e, Nat.pow_succ]; omega)]
theorem cmp_bits1 {m n : Nat} (h1 : (m / 2 ^ n) % 2 = 1) : cmp3 (2 * (m % 2 ^ (n + 1))) (2 ^ (n + 1)) = if m % 2 ^ n = 0 then 1 else 2 := by
  have e : m % 2 ^ (n + 1) = m % 2 ^ n + 2 ^ n * (m / 2 ^ n % 2) := Nat.mod_pow_succ
  rw [h1, Nat.mul_one] at e
  unfold cmp3
  rw [e, Nat.pow_succ]
  split
  · rename_i h; omega
  · rename_i h
    split
    · rename_i h2; rw [if_pos (by omega)]
    · rename_i h2; rw [if_neg (by omega)]
theorem half_div (m n : Nat) : m / 2 ^ (n + 1) = m / 2 ^ n / 2 := by
  rw [Nat.pow_succ, Nat.div_div_eq_div_mul]
end
-- N1
def trail (n : Int) : Int := (Builtin.Int.intBits (Builtin.bitAnd n (-n)) : Int) - 1
theorem intBits_nat {m : Nat} (h : 0 < m) : Builtin.Int.intBits (m : Int) = m.log2 + 1 := by
  unfold Builtin.Int.intBits
  rw [if_neg (by simp; omega)]
  simp
theorem bits_bounds {m : Nat} (h : 0 < m) : 2 ^ (Builtin.Int.intBits (m : Int) - 1) ≤ m ∧ m < 2 ^ Builtin.Int.intBits (m : Int) ∧ 1 ≤ Builtin.Int.intBits (m : Int) := by
  rw [intBits_nat h]
  exact ⟨by simpa using Nat.log2_self_le (by omega), Nat.lt_log2_self, by omega⟩
theorem bits_unique {m k : Nat} (h1 : 2 ^ k ≤ m) (h2 : m < 2 ^ (k + 1)) : Builtin.Int.intBits (m : Int) = k + 1 := by
  have := two_pos k
  rw [intBits_nat (by omega), log2_eq h1 h2]
theorem cast_pow (k : Nat) : ((2 ^ k : Nat) : Int) = 2 ^ k := by simp
theorem fdiv_pow (m k : Nat) : (m : Int).fdiv (2 ^ k) = ((m / 2 ^ k : Nat) : Int) := by
  rw [← cast_pow, Int.fdiv_eq_ediv_of_nonneg _ (Int.natCast_nonneg _)]
  simp
theorem bitAnd_nat (a b : Nat) : Builtin.bitAnd (a : Int) (b : Int) = ((a &&& b : Nat) : Int) := by
  rw [bitAnd_pp (by omega) (by omega)]; simp
theorem bitAnd_1 (a : Nat) : Builtin.bitAnd (a : Int) 1 = ((a % 2 : Nat) : Int) := by
  rw [show (1 : Int) = ((1 : Nat) : Int) from rfl, bitAnd_nat, Nat.and_one_is_mod]
theorem bitAnd_2 (a : Nat) : Builtin.bitAnd (a : Int) 2 = ((2 * (a / 2 % 2) : Nat) : Int) := by
  rw [show (2 : Int) = ((2 : Nat) : Int) from rfl, bitAnd_nat, and_2]
theorem bitAnd_mask (a k : Nat) : Builtin.bitAnd (a : Int) (2 ^ k - 1) = ((a % 2 ^ k : Nat) : Int) := by
  have hp := two_pos k
  have e : (2 : Int) ^ k - 1 = ((2 ^ k - 1 : Nat) : Int) := by
    rw [← cast_pow]
    generalize 2 ^ k = q at *
    omega
  rw [e, bitAnd_nat, Nat.and_two_pow_sub_one_eq_mod]
theorem trail_eq {x t : Nat} (hx : x % 2 = 1) : trail ((x * 2 ^ t : Nat) : Int) = t := by
  have hp := two_pos t
  have hle : 2 ^ t ≤ x * 2 ^ t := Nat.le_mul_of_pos_left _ (by omega)
  unfold trail
  rw [bitAnd_pn (by omega) (by omega)]
  have e1 : (Builtin.bitNot (-((x * 2 ^ t : Nat) : Int))).toNat = x * 2 ^ t - 1 := by
    unfold Builtin.bitNot; omega
  rw [e1, Int.toNat_natCast, and_pred hx]
  have e2 : ((x * 2 ^ t : Nat) : Int) - ((x * 2 ^ t - 2 ^ t : Nat) : Int) = ((2 ^ t : Nat) : Int) := by omega
  rw [e2, intBits_nat hp, log2_pow]
  omega
theorem trail_nonneg {n : Int} (h : 0 < n) : 0 ≤ trail n := by
  obtain ⟨m, rfl⟩ := Int.eq_ofNat_of_zero_le (Int.le_of_lt h)
  obtain ⟨x, t, e, hx⟩ := odd_part (m := m) (by omega)
  rw [e, trail_eq hx]; omega
section
variable {w : World} {p : Program} {loose : List Str} {mean : ExcName → Option Value} {mg mb : Str → Option Value} {A₀ : Around} {base h₀ : Heap} {outer : List Env} {L : Addr} {m : Str → Option Value} {news : List (Addr × Obj)} {s : Shared} {dp un : Nat} {gd : Option (List Code)} {cn : Str} {cs : Scope} {a : Addr} {ccd : Value} {cl : List (Str × Addr)} {Q E : Value → Shared → Prop}
end
local macro_rules | `(tactic| walk_at "m") => `(tactic| first
  | ((with_reducible show wpAny _ _ (spliced _) _ _ _); walk_at "m spl")
  | ((with_reducible show wpAny _ _ (eval _ _) _ _ _); first
    | ((with_reducible show wpAny _ _ (eval (Expr.Name _ _) _) _ _ _); walk_at "m name")
    | with_reducible refine wpAny_Constant_int ?_
    | with_reducible refine Calls.Constant_str ?_
    | with_reducible refine wpAny_BinOp ?_
    | walk_at "m eval")
  | ((with_reducible show wpAny _ _ (storeName _ _ _) _ _ _); walk_at "m store")
  | ((with_reducible show wpAny _ _ (assignInOrder _ _) _ _ _); first | refine assignInOrder_cons ?_ | refine assignInOrder_nil ?_)
  | ((with_reducible show wpAny _ _ (binaryOp _ _ _) _ _ _); walk_at "m bin")
  | ((with_reducible show wpAny _ _ (newTuple _) _ _ _); (refine' kup_newTuple ?F ?N ?_ ?z; (case F => k_asm); (case N => k_asm); (case z => kmk_size)); intro D' h' F' N' l1; (try k_lt l1); k_sweep)
  | ((with_reducible show wpAny _ _ (exec _ _) _ _ _); walk_at "m exec")
  | with_reducible refine wpAny_execs_nil ?_
  | with_reducible refine bindName_ ?_
  | with_reducible refine PyProof.Rows.assign_Name ?_
  | with_reducible refine neg_int ?_)
section
variable {w : World} {p : Program} {loose : List Str} {mean : ExcName → Option Value} {mg mb : Str → Option Value} {A₀ : Around} {base h₀ : Heap} {outer : List Env} {L : Addr} {m : Str → Option Value} {news : List (Addr × Obj)} {s : Shared} {dp un : Nat} {gd : Option (List Code)} {cn : Str} {cs : Scope} {a : Addr} {ccd : Value} {cl : List (Str × Addr)} {Q E : Value → Shared → Prop}
set_option maxHeartbeats 8000000 in
theorem c_trailing {n : Int} {t : Tok}
   (B : Below A₀ base outer h₀) (F : Fr h₀ L s.heap m) (X : (hd.heap_39 w.params).In h₀) (N : News h₀ L s.heap news) (T : Top p loose mean mg mb h₀) (hk : cs.kind = .function) (hdp : dp + 1 < recursionLimit)
   (hn : 0 < n)
   (ret : ∀ (t : Tok) (h' : Heap) (tk' : Nat), Fr h₀ L h' m → News h₀ L h' news → 0 ≤ trail n → Q (.int (trail n) t) { s with heap := h', toks := tk' }) :
  wpAny (model PR w) (ktrTop dp un gd cn cs L a ccd cl outer) (call (.ref 21) [.int n t]) Q E s := by
  revert X; rw [show PR = Challenge.rw_ah5009_01.row.prog from rfl]; k_fill; intro X
  refine wpAny_call ?_
  k_dflt cell_enter
  walk_at "m go"
  all_goals first | exact ret _ _ _ (by assumption) (by assumption) (trail_nonneg hn) | (exfalso; omega)
end
local macro_rules | `(tactic| walk_at "m call") => `(tactic| ((with_reducible show wpAny _ _ (call (Value.ref 21) _) _ _ _); (refine' c_trailing ?k1 ?k2 ?k3 ?k4 ?k5 ?kK ?kd ?kp ?_; (case k1 => k_asm); (case k2 => k_asm); (case k3 => k_asm); (case k4 => k_asm); (case k5 => k_asm); (case kK => first | exact rfl | assumption); (case kd => walk_at "m room"); (case kp => first | assumption | omega)); intro t9 h9 tk9 F9 N9 hp9; (try dsimp only); k_sweep))
def sdVal (r : Str) (sign : Int) : Int := if r = Str.ofString "f" then 1 - sign else if r = Str.ofString "c" then sign else if r = Str.ofString "d" then 1 else 0
def sdAddr (r : Str) : Addr := if r = Str.ofString "f" then 29 else if r = Str.ofString "c" then 30 else if r = Str.ofString "d" then 31 else 32
def IsDir (r : Str) : Prop := r = Str.ofString "f" ∨ r = Str.ofString "c" ∨ r = Str.ofString "d" ∨ r = Str.ofString "u"
def IsRnd (r : Str) : Prop := r = Str.ofString "n" ∨ IsDir r
theorem isDir_of {r : Str} (hr : IsRnd r) (h : (r == Str.ofString "n") = false) : IsDir r := by
  rcases hr with rfl | h'
  · simp at h
  · exact h'
section
variable {w : World} {A : Around} {E : Value → Shared → Prop} {s : Shared} {h₀ : Heap} {L : Addr} {m : Str → Option Value} {Q : Value → Shared → Prop}
theorem sd_item {value slice : PySem.Expr} {r : Str} {t : Tok} (F : Fr h₀ L s.heap m) (X : (hd.heap_39 w.params).In h₀) (hr : IsDir r)
   (h : Q (.ref (sdAddr r)) { s with toks := s.toks + 1 })
   (hs : subscripted slice false (.ref 28) (.str r t) = operate [.ref 28, .str r t] (getItem (.ref 28) (.str r t)) := by with_unfolding_all rfl) :
   wpAny (model Challenge.rw_ah5009_01.row.prog w) A (subscriptTail value slice (.ref 28) (.str r t)) Q E s := by
  revert X; k_fill; intro X
  rcases hr with rfl | rfl | rfl | rfl
  all_goals (refine' topItem_K F X (by k_is) ?k (by k_is) ?_ hs; (case k => k_keys); exact h)
theorem sd_flag {value slice : PySem.Expr} {r : Str} {sign : Int} {t : Tok} (F : Fr h₀ L s.heap m) (X : (hd.heap_39 w.params).In h₀) (hr : IsDir r) (hs0 : sign = 0 ∨ sign = 1)
   (h : ∀ t', Q (.int (sdVal r sign) t') s)
   (hs : ∀ (a : Addr) (sign : Int), subscripted slice false (.ref a) (.int sign t) = operate [.ref a, .int sign t] (getItem (.ref a) (.int sign t)) := by intros; with_unfolding_all rfl) :
   wpAny (model Challenge.rw_ah5009_01.row.prog w) A (subscriptTail value slice (.ref (sdAddr r)) (.int sign t)) Q E s := by
  revert X; k_fill; intro X
  rcases hr with rfl | rfl | rfl | rfl
  all_goals (rcases hs0 with rfl | rfl)
  all_goals (refine' topTup_K F X (by k_is) (by decide) (by decide) (by rfl) (by rfl) ?_ (hs _ _); exact h _)
end
theorem lshift_one {prog : Program} {w : World} {A : Around} {E : Value → Shared → Prop} {s : Shared} {n : Int} {t u : Tok} {Q : Value → Shared → Prop} (hn : 0 ≤ n) (hsz : n ≤ 2 ^ 26) (h : Q (.int (2 ^ n.toNat) s.toks) { s with toks := s.toks + 1 }) : wpAny (model prog w) A (binaryOp .LShift (.int 1 t) (.int n u)) Q E s :=
  lshift_int hn (by have : Builtin.Int.intBits 1 = 1 := by decide
                    rw [this]; omega) (by rw [Int.one_mul]; exact h)
local macro_rules | `(tactic| walk_at "m sub") => `(tactic| ((with_reducible show wpAny _ _ (subscriptTail _ _ (Value.ref 28) (Value.str _ _)) _ _ _); (refine' sd_item ?k1 ?k2 ?k3 ?_; (case k1 => k_asm); (case k2 => k_asm); (case k3 => first | assumption | exact isDir_of (by assumption) (by assumption))); (try dsimp only)))
local macro_rules | `(tactic| walk_at "m sub") => `(tactic| ((with_reducible show wpAny _ _ (subscriptTail _ _ (Value.ref (sdAddr _)) (Value.int _ _)) _ _ _); (refine' sd_flag ?k1 ?k2 ?k3 ?k4 ?_; (case k1 => k_asm); (case k2 => k_asm); (case k3 => first | assumption | exact isDir_of (by assumption) (by assumption)); (case k4 => assumption)); intro t9; (try dsimp only)))
local macro_rules | `(tactic| walk_at "m bin") => `(tactic| first
  | ((with_reducible refine lshift_one ?k1 ?k2 ?_); (case k1 => omega); (case k2 => omega))
  | ((with_reducible refine rshift_int ?k1 ?_); (case k1 => omega))
  | ((with_reducible refine irshift_int ?k1 ?_); (case k1 => omega)))
-- N2
def rndMan (sign man n : Int) (rnd : Str) : Int :=
  if (rnd == Str.ofString "n") = true then
    if Builtin.bitAnd (man.fdiv (2 ^ (n - 1).toNat)) 1 ≠ 0 then
      if Builtin.bitAnd (man.fdiv (2 ^ (n - 1).toNat)) 2 ≠ 0 then (man.fdiv (2 ^ (n - 1).toNat)).fdiv (2 ^ (1 : Int).toNat) + 1
      else if Builtin.bitAnd man (2 ^ (n - 1).toNat - 1) ≠ 0 then (man.fdiv (2 ^ (n - 1).toNat)).fdiv (2 ^ (1 : Int).toNat) + 1
      else (man.fdiv (2 ^ (n - 1).toNat)).fdiv (2 ^ (1 : Int).toNat)
    else (man.fdiv (2 ^ (n - 1).toNat)).fdiv (2 ^ (1 : Int).toNat)
  else if sdVal rnd sign ≠ 0 then man.fdiv (2 ^ n.toNat) else -((-man).fdiv (2 ^ n.toNat))
/-- what _normalize hands back for a man that is not 0 -/
def nrm1 (sign man exp bc prec : Int) (rnd : Str) : Int × Int × Int :=
  if bc - prec > 0 then (rndMan sign man (bc - prec) rnd, exp + (bc - prec), prec) else (man, exp, bc)
def nrm2 (q : Int × Int × Int) : Int × Int × Int :=
  if Builtin.bitAnd q.1 1 = 0 then (q.1.fdiv (2 ^ (trail q.1).toNat), q.2.1 + trail q.1, q.2.2 - trail q.1) else q
def nrm (sign man exp bc prec : Int) (rnd : Str) : Int × Int × Int × Int :=
  let q := nrm2 (nrm1 sign man exp bc prec rnd)
  (sign, q.1, q.2.1, if q.1 = 1 then 1 else q.2.2)
theorem bitAnd11 : Builtin.bitAnd 1 1 = 1 := by decide
theorem one_zero : ((1 : Int) = 0) = False := by simp
local macro_rules | `(tactic| walk_at "m eq") => `(tactic| first
  | with_reducible rfl
  | (simp only [nrm, nrm2, bitAnd11, one_zero, ne_eq, not_true_eq_false, not_false_eq_true, if_true, if_false, Bool.false_eq_true, *]; done)
  | (simp only [nrm1, rndMan, gt_iff_lt, ne_eq, not_true_eq_false, not_false_eq_true, if_true, if_false, Bool.false_eq_true, *]; done))
section
variable {w : World} {p : Program} {loose : List Str} {mean : ExcName → Option Value} {mg mb : Str → Option Value} {A₀ : Around} {base h₀ : Heap} {outer : List Env} {L : Addr} {m : Str → Option Value} {news : List (Addr × Obj)} {s : Shared} {dp un : Nat} {gd : Option (List Code)} {cn : Str} {cs : Scope} {a : Addr} {ccd : Value} {cl : List (Str × Addr)} {Q E : Value → Shared → Prop}
set_option maxHeartbeats 8000000 in
theorem c__normalize {sign man exp bc prec : Int} {rnd : Str} {t1 t2 t3 t4 t5 t6 : Tok}
   (B : Below A₀ base outer h₀) (F : Fr h₀ L s.heap m) (X : (hd.heap_39 w.params).In h₀) (N : News h₀ L s.heap news) (T : Top p loose mean mg mb h₀) (hk : cs.kind = .function) (hdp : dp + 3 < recursionLimit)
   (hman : 0 < man) (hprec : 0 < prec) (hbc : bc ≤ 2 ^ 20) (hs : sign = 0 ∨ sign = 1) (hr : IsRnd rnd) (hpos : 0 < (nrm1 sign man exp bc prec rnd).1)
   (ret : Ret4 h₀ L m news s Q sign (nrm sign man exp bc prec rnd).2.1 (nrm sign man exp bc prec rnd).2.2.1 (nrm sign man exp bc prec rnd).2.2.2) :
  wpAny (model PR w) (ktrTop dp un gd cn cs L a ccd cl outer) (call (.ref 39) [.int sign t1, .int man t2, .int exp t3, .int bc t4, .int prec t5, .str rnd t6]) Q E s := by
  revert X; rw [show PR = Challenge.rw_ah5009_01.row.prog from rfl]; k_fill; intro X
  have hman0 : man ≠ 0 := by omega
  have hC1 : CutAt 27 (0 < (nrm1 sign man exp bc prec rnd).1) [(Str.ofString "sign", fun t => .int sign t), (Str.ofString "man", fun t => .int (nrm1 sign man exp bc prec rnd).1 t), (Str.ofString "exp", fun t => .int (nrm1 sign man exp bc prec rnd).2.1 t), (Str.ofString "bc", fun t => .int (nrm1 sign man exp bc prec rnd).2.2 t)] := trivial
  refine wpAny_call ?_
  k_dflt cell_enter
  walk_at "m go"
  all_goals walk_at "m ret4"
end
-- P4
section
/-- the roundings as one word -/
def aw0' (rnd : Str) (sign : Int) : Bool := (rnd == Str.ofString "u") || (((rnd == Str.ofString "c") && (sign == 0)) || ((rnd == Str.ofString "f") && (sign == 1)))
def upS (rnd : Str) (sign : Int) (W h : Nat) : Bool := if (rnd == Str.ofString "n") = true then (h == 2) || ((h == 1) && (W % 2 == 1)) else aw0' rnd sign
theorem upS_n {rnd : Str} {sign : Int} {W h : Nat} (hn : (rnd == Str.ofString "n") = true) : upS rnd sign W h = ((h == 2) || ((h == 1) && (W % 2 == 1))) := if_pos hn
theorem rndMan_eq {rnd : Str} {sign : Int} {m k : Nat} (hr : IsRnd rnd) (hs : sign = 0 ∨ sign = 1) : rndMan sign (m : Int) ((k + 1 : Nat) : Int) rnd = ((rdW (upS rnd sign) m (2 ^ (k + 1)) : Nat) : Int) := by
  have k1 : (((k + 1 : Nat) : Int) - 1).toNat = k := by omega
  have k2 : ((k + 1 : Nat) : Int).toNat = k + 1 := by omega
  unfold rndMan
  rw [k1, k2, fdiv_pow, fdiv_pow, bitAnd_1, bitAnd_2, bitAnd_mask]
  by_cases hn : (rnd == Str.ofString "n") = true
  · rw [if_pos hn]
    have e1 : ((m / 2 ^ k / 2 ^ (1 : Int).toNat : Nat) : Int) = ((m / 2 ^ (k + 1) : Nat) : Int) := by
      rw [show (1 : Int).toNat = 1 from rfl, Nat.pow_one, ← half_div]
    rw [e1]
    unfold rdW
    rw [upS_n hn]
    have hR : m % 2 ^ (k + 1) = m % 2 ^ k + 2 ^ k * (m / 2 ^ k % 2) := Nat.mod_pow_succ
    have hp := two_pos k
    by_cases hb : m / 2 ^ k % 2 = 1
    · have hR0 : m % 2 ^ (k + 1) ≠ 0 := by rw [hR, hb]; omega
      have c1 : ((m / 2 ^ k % 2 : Nat) : Int) ≠ 0 := by omega
      rw [if_pos c1, cmp_bits1 hb]
      by_cases hw : m / 2 ^ k / 2 % 2 = 1
      · have c2 : ((2 * (m / 2 ^ k / 2 % 2) : Nat) : Int) ≠ 0 := by omega
        have u : (((if m % 2 ^ k = 0 then 1 else 2) == 2) || (((if m % 2 ^ k = 0 then 1 else 2) == 1) && (m / 2 ^ (k + 1) % 2 == 1))) = true := by
          rw [half_div, hw]; split <;> rfl
        rw [if_pos c2, if_pos ⟨u, hR0⟩]; rfl
      · have c2 : ¬ ((2 * (m / 2 ^ k / 2 % 2) : Nat) : Int) ≠ 0 := by omega
        rw [if_neg c2]
        by_cases hl : m % 2 ^ k = 0
        · have c3 : ¬ ((m % 2 ^ k : Nat) : Int) ≠ 0 := by rw [hl]; simp
          have u : ¬ (((if m % 2 ^ k = 0 then 1 else 2) == 2) || (((if m % 2 ^ k = 0 then 1 else 2) == 1) && (m / 2 ^ (k + 1) % 2 == 1))) = true := by
            rw [if_pos hl, half_div, show m / 2 ^ k / 2 % 2 = 0 from by omega]; decide
          rw [if_neg c3, if_neg (fun z => u z.1)]
        · have c3 : ((m % 2 ^ k : Nat) : Int) ≠ 0 := fun z => hl (Int.natCast_eq_zero.mp z)
          have u : (((if m % 2 ^ k = 0 then 1 else 2) == 2) || (((if m % 2 ^ k = 0 then 1 else 2) == 1) && (m / 2 ^ (k + 1) % 2 == 1))) = true := by
            rw [if_neg hl]; rfl
          rw [if_pos c3, if_pos ⟨u, hR0⟩]; rfl
    · have c1 : ¬ ((m / 2 ^ k % 2 : Nat) : Int) ≠ 0 := by omega
      rw [if_neg c1, cmp_bits hb, if_neg (fun z => by simp at z)]
  · rw [if_neg hn]
    have hup : ∀ W h, upS rnd sign W h = aw0' rnd sign := fun W h => if_neg hn
    have fl : sdVal rnd sign ≠ 0 → aw0' rnd sign = false := by
      intro h
      rcases hr with rfl | rfl | rfl | rfl | rfl
      · exact absurd rfl hn
      all_goals (rcases hs with rfl | rfl <;> first | rfl | exact absurd rfl h | exact absurd (by decide) h)
    have cl : ¬ sdVal rnd sign ≠ 0 → aw0' rnd sign = true := by
      intro h
      rcases hr with rfl | rfl | rfl | rfl | rfl
      · exact absurd rfl hn
      all_goals (rcases hs with rfl | rfl <;> first | rfl | exact absurd (by decide) h)
    unfold rdW
    rw [hup]
    by_cases hd : sdVal rnd sign ≠ 0
    · rw [if_pos hd, fl hd, if_neg (by simp)]
      exact fdiv_pow _ _
    · rw [if_neg hd, cl hd]
      have hp := two_pos (k + 1)
      have hdm := Nat.div_add_mod m (2 ^ (k + 1))
      have hlt := Nat.mod_lt m hp
      have e : (-(m : Int)).fdiv (2 ^ (k + 1)) = -(if m % 2 ^ (k + 1) ≠ 0 then ((m / 2 ^ (k + 1) : Nat) : Int) + 1 else ((m / 2 ^ (k + 1) : Nat) : Int)) := by
        rw [← cast_pow, Int.fdiv_eq_ediv_of_nonneg _ (by omega)]
        generalize 2 ^ (k + 1) = D at *
        have hdm' : (D : Int) * ((m / D : Nat) : Int) + ((m % D : Nat) : Int) = m := by rw [← Int.natCast_mul, ← Int.natCast_add, hdm]
        split
        · rename_i h
          refine ((Int.ediv_emod_unique (r := (D : Int) - ((m % D : Nat) : Int)) (by omega)).mpr ⟨?_, by omega, by omega⟩).1
          rw [← hdm', Int.mul_neg, Int.mul_add]
          omega
        · rename_i h
          refine ((Int.ediv_emod_unique (r := 0) (by omega)).mpr ⟨?_, by omega, by omega⟩).1
          rw [← hdm', Int.mul_neg]
          omega
      rw [e, Int.neg_neg]
      by_cases h : m % 2 ^ (k + 1) ≠ 0
      · rw [if_pos h, if_pos ⟨rfl, h⟩]; rfl
      · rw [if_neg h, if_neg (fun z => h z.2)]
end
-- P5
section
theorem bits_shift {x k : Nat} (hx : 0 < x) : Builtin.Int.intBits ((x * 2 ^ k : Nat) : Int) = Builtin.Int.intBits (x : Int) + k := by
  obtain ⟨b1, b2, b3⟩ := bits_bounds hx
  have hk := two_pos k
  obtain ⟨c, hc⟩ : ∃ c, Builtin.Int.intBits (x : Int) = c + 1 := ⟨Builtin.Int.intBits (x : Int) - 1, by omega⟩
  rw [hc] at b1 b2 ⊢
  have h1 : 2 ^ (c + k) ≤ x * 2 ^ k := by rw [Nat.pow_add]; exact Nat.mul_le_mul_right _ (by simpa using b1)
  have h2 : x * 2 ^ k < 2 ^ (c + k + 1) := by
    rw [show c + k + 1 = (c + 1) + k from by omega, Nat.pow_add]; exact Nat.mul_lt_mul_of_pos_right b2 hk
  rw [bits_unique h1 h2]; omega
theorem nrm2_eq {x k : Nat} {f c : Int} (hx : x % 2 = 1) : nrm2 (((x * 2 ^ k : Nat) : Int), f, c) = ((x : Int), f + k, c - k) := by
  unfold nrm2
  dsimp only
  rw [bitAnd_1]
  cases k with
  | zero =>
    rw [if_neg (by rw [Nat.pow_zero, Nat.mul_one]; omega), Nat.pow_zero, Nat.mul_one]
    simp
  | succ k =>
    have e : x * 2 ^ (k + 1) % 2 = 0 := by rw [Nat.pow_succ, ← Nat.mul_assoc]; omega
    rw [if_pos (by rw [e]; rfl), trail_eq hx, Int.toNat_natCast, fdiv_pow, Nat.mul_div_cancel _ (two_pos _)]
theorem rdW_le {up : Nat → Nat → Bool} {N D : Nat} : N / D ≤ rdW up N D ∧ rdW up N D ≤ N / D + 1 := by
  unfold rdW; split <;> omega
theorem nrm_law {rnd : Str} {sign exp : Int} {m p : Nat} (hr : IsRnd rnd) (hs : sign = 0 ∨ sign = 1) (hm : 0 < m) (hp : 1 ≤ p) :
   ∃ (x : Nat) (f : Int), nrm sign (m : Int) exp (Builtin.Int.intBits (m : Int)) (p : Int) rnd = (sign, (x : Int), f, (Builtin.Int.intBits (x : Int) : Int)) ∧ IsLaw (upS rnd sign) p (m * 2 ^ exp.toNat) (2 ^ (-exp).toNat) x f ∧ x % 2 = 1 := by
  obtain ⟨b1, b2, b3⟩ := bits_bounds hm
  generalize hbc : Builtin.Int.intBits (m : Int) = bc at *
  by_cases hlt : p < bc
  · obtain ⟨k, rfl⟩ : ∃ k, bc = p + (k + 1) := ⟨bc - p - 1, by omega⟩
    have h1 : 2 ^ (p - 1 + (k + 1)) ≤ m := by rw [show p - 1 + (k + 1) = p + (k + 1) - 1 from by omega]; exact b1
    have hq1 : 2 ^ (p - 1) ≤ m / 2 ^ (k + 1) := by rw [Nat.le_div_iff_mul_le (two_pos _), ← Nat.pow_add]; exact h1
    have hq2 : m / 2 ^ (k + 1) < 2 ^ p := by rw [Nat.div_lt_iff_lt_mul (two_pos _), ← Nat.pow_add]; exact b2
    have hW := rdW_le (up := upS rnd sign) (N := m) (D := 2 ^ (k + 1))
    have hp1 := two_pos (p - 1)
    obtain ⟨x, t, e, hx⟩ := odd_part (m := rdW (upS rnd sign) m (2 ^ (k + 1))) (by omega)
    refine ⟨x, exp + (k + 1 : Nat) + t, ?_, law_big h1 b2 e hx, hx⟩
    unfold nrm nrm1
    rw [if_pos (by omega)]
    have ek : ((p + (k + 1) : Nat) : Int) - (p : Int) = ((k + 1 : Nat) : Int) := by omega
    rw [ek, rndMan_eq hr hs, e, nrm2_eq hx]
    dsimp only
    have hbits : (if (x : Int) = 1 then (1 : Int) else (p : Int) - t) = (Builtin.Int.intBits (x : Int) : Int) := by
      split
      · rename_i h; rw [h]; rfl
      · rename_i h
        have hne : x ≠ 1 := by omega
        have hWp : x * 2 ^ t ≠ 2 ^ p := fun q => hne (odd_unique (k' := p) (x' := 1) (by rw [q, Nat.one_mul]) hx rfl).1
        have g1 : 2 ^ (p - 1) ≤ x * 2 ^ t := by omega
        have g2 : x * 2 ^ t < 2 ^ (p - 1 + 1) := by rw [show p - 1 + 1 = p from by omega]; omega
        have := bits_unique g1 g2
        rw [bits_shift (by omega)] at this
        omega
    rw [hbits]
  · obtain ⟨x, t, e, hx⟩ := odd_part hm
    refine ⟨x, exp + t, ?_, law_small b3 (by omega) b1 b2 e hx, hx⟩
    unfold nrm nrm1
    rw [if_neg (by omega)]
    rw [e, nrm2_eq hx]
    dsimp only
    have hbits : (if (x : Int) = 1 then (1 : Int) else (bc : Int) - t) = (Builtin.Int.intBits (x : Int) : Int) := by
      split
      · rename_i h; rw [h]; rfl
      · have := bits_shift (x := x) (k := t) (by omega)
        rw [← e, hbc] at this
        omega
    rw [hbits]
theorem nrm1_pos' {sign man exp bc prec : Int} {rnd : Str} (h : 0 < man) (hp : 0 < prec) (hb : bc = Builtin.Int.intBits man) (hr : IsRnd rnd) (hs : sign = 0 ∨ sign = 1) : 0 < (nrm1 sign man exp bc prec rnd).1 := by
  obtain ⟨m, rfl⟩ := Int.eq_ofNat_of_zero_le (Int.le_of_lt h)
  obtain ⟨p, rfl⟩ := Int.eq_ofNat_of_zero_le (Int.le_of_lt hp)
  have hm : 0 < m := by omega
  obtain ⟨b1, b2, b3⟩ := bits_bounds hm
  unfold nrm1
  split
  · rename_i hlt
    rw [hb] at hlt ⊢
    generalize Builtin.Int.intBits (m : Int) = bc at *
    obtain ⟨k, rfl⟩ : ∃ k, bc = p + (k + 1) := ⟨bc - p - 1, by omega⟩
    have ek : ((p + (k + 1) : Nat) : Int) - (p : Int) = ((k + 1 : Nat) : Int) := by omega
    dsimp only
    rw [ek, rndMan_eq hr hs]
    have h1 : 2 ^ (p - 1 + (k + 1)) ≤ m := by rw [show p - 1 + (k + 1) = p + (k + 1) - 1 from by omega]; exact b1
    have hq1 : 2 ^ (p - 1) ≤ m / 2 ^ (k + 1) := by rw [Nat.le_div_iff_mul_le (two_pos _), ← Nat.pow_add]; exact h1
    have hW := rdW_le (up := upS rnd sign) (N := m) (D := 2 ^ (k + 1))
    have hp1 := two_pos (p - 1)
    omega
  · exact h
end
-- P6
section
theorem nrm_big {rnd : Str} {sign exp : Int} {m p k : Nat} (hr : IsRnd rnd) (hs : sign = 0 ∨ sign = 1) (hm : 0 < m) (hp : 1 ≤ p) (hbc : Builtin.Int.intBits (m : Int) = p + (k + 1)) :
   ∃ (x t : Nat), nrm sign (m : Int) exp (Builtin.Int.intBits (m : Int)) (p : Int) rnd = (sign, (x : Int), exp + (k + 1 : Nat) + t, (Builtin.Int.intBits (x : Int) : Int)) ∧ rdW (upS rnd sign) m (2 ^ (k + 1)) = x * 2 ^ t ∧ x % 2 = 1 := by
  obtain ⟨b1, b2, b3⟩ := bits_bounds hm
  rw [hbc] at b1 b2 b3 ⊢
  have h1 : 2 ^ (p - 1 + (k + 1)) ≤ m := by rw [show p - 1 + (k + 1) = p + (k + 1) - 1 from by omega]; exact b1
  have hq1 : 2 ^ (p - 1) ≤ m / 2 ^ (k + 1) := by rw [Nat.le_div_iff_mul_le (two_pos _), ← Nat.pow_add]; exact h1
  have hq2 : m / 2 ^ (k + 1) < 2 ^ p := by rw [Nat.div_lt_iff_lt_mul (two_pos _), ← Nat.pow_add]; exact b2
  have hW := rdW_le (up := upS rnd sign) (N := m) (D := 2 ^ (k + 1))
  have hp1 := two_pos (p - 1)
  obtain ⟨x, t, e, hx⟩ := odd_part (m := rdW (upS rnd sign) m (2 ^ (k + 1))) (by omega)
  refine ⟨x, t, ?_, e, hx⟩
  unfold nrm nrm1
  rw [if_pos (by omega)]
  have ek : ((p + (k + 1) : Nat) : Int) - (p : Int) = ((k + 1 : Nat) : Int) := by omega
  rw [ek, rndMan_eq hr hs, e, nrm2_eq hx]
  dsimp only
  have hbits : (if (x : Int) = 1 then (1 : Int) else (p : Int) - t) = (Builtin.Int.intBits (x : Int) : Int) := by
    split
    · rename_i h; rw [h]; rfl
    · rename_i h
      have hne : x ≠ 1 := by omega
      have hWp : x * 2 ^ t ≠ 2 ^ p := fun q => hne (odd_unique (k' := p) (x' := 1) (by rw [q, Nat.one_mul]) hx rfl).1
      have g1 : 2 ^ (p - 1) ≤ x * 2 ^ t := by omega
      have g2 : x * 2 ^ t < 2 ^ (p - 1 + 1) := by rw [show p - 1 + 1 = p from by omega]; omega
      have := bits_unique g1 g2
      rw [bits_shift (by omega)] at this
      omega
  rw [hbits]
end
-- N3
abbrev Ret0 (h₀ : Heap) (L : Addr) (m : Str → Option Value) (news : List (Addr × Obj)) (s : Shared) (Q : Value → Shared → Prop) : Prop :=
  ∀ (h' : Heap) (tk' : Nat), Fr h₀ L h' m → News h₀ L h' news → Q (.ref 22) { s with heap := h', toks := tk' }
theorem ret0_end {h₀ h' : Heap} {L : Addr} {m : Str → Option Value} {news news' : List (Addr × Obj)} {s : Shared} {Q : Value → Shared → Prop} {tk' : Nat}
   (R : Ret0 h₀ L m news s Q) (F : Fr h₀ L h' m) (N : News h₀ L h' news') (hN : ∀ p ∈ news, p ∈ news') : Q (.ref 22) { s with heap := h', toks := tk' } := R h' tk' F (fun p hp => N p (hN p hp))
local macro_rules | `(tactic| walk_at "m ret0") => `(tactic| (refine' ret0_end ?R ?F ?N ?hN; (case R => assumption); (case F => assumption); (case N => assumption); (case hN => walk_at "m sub all")))
local macro_rules | `(tactic| walk_at "m pre") => `(tactic| first | with_reducible assumption | with_reducible rfl | omega)
local macro_rules | `(tactic| walk_at "m enter") => `(tactic| k_dflt (refine' code_def ?k1 ?k2 ?k3 ?k4 ?k5 ?kA ?kF ?kK ?k6 ?k7 ?k8 ?k9 ?kB ?_ ?c2 ?c3 ?c4 ?c5; (case kA => exact rfl); (case kF => exact rfl); (case kK => assumption); (case k1 => k_asm); (case k2 => k_asm); (case k3 => k_asm); (case k4 => k_asm); (case k5 => k_asm); (case k6 => k_is); (case k7 => k_is); (case k8 => walk_at "m room"); (case k9 => first | exact BindsTo.of_eq rfl | exact binds_K (by k_in) rfl (by k_is) rfl rfl rfl); (case c5 => decide); (case kB => exact locs rfl); (case c2 => exact rfl); (case c3 => exact rfl); (case c4 => exact rfl); k_whole; intro g' L' h' FG' F' N' B' X' T'; (try dsimp only); (try k_fold)))
local macro_rules | `(tactic| walk_at "m open") => `(tactic| (rw [show PR = Challenge.rw_ah5009_01.row.prog from rfl]; k_fill; intro X; refine wpAny_call ?_; walk_at "m enter"))
def sgn (n : Int) : Int := if n < 0 then 1 else 0
def mag (n : Int) : Int := if n < 0 then -n else n
theorem sgn_01 (n : Int) : sgn n = 0 ∨ sgn n = 1 := by unfold sgn; split <;> simp
theorem mag_pos {n : Int} (h : n ≠ 0) : 0 < mag n := by unfold mag; split <;> omega
theorem mag_zero {n : Int} (h : n = 0) : mag n = 0 := by subst h; rfl
theorem mag_nonneg (n : Int) : 0 ≤ mag n := by unfold mag; split <;> omega
/-- exact: the odd part -/
def oddp (a exp bc : Int) : Int × Int × Int :=
  if Builtin.bitAnd a 1 = 0 then
    if Builtin.bitAnd a 2 ≠ 0 then (a.fdiv (2 ^ (1 : Int).toNat), exp + 1, bc - 1)
    else (a.fdiv (2 ^ (trail a).toNat), exp + trail a, bc - trail a)
  else (a, exp, bc)
local macro_rules | `(tactic| walk_at "m eq") => `(tactic| first
  | with_reducible rfl
  | (unfold sgn; split <;> omega)
  | (unfold mag; split <;> omega)
  | (simp only [oddp, ne_eq, not_true_eq_false, not_false_eq_true, if_true, if_false, Bool.false_eq_true, *]; done))
section
variable {w : World} {p : Program} {loose : List Str} {mean : ExcName → Option Value} {mg mb : Str → Option Value} {A₀ : Around} {base h₀ : Heap} {outer : List Env} {L : Addr} {m : Str → Option Value} {news : List (Addr × Obj)} {s : Shared} {dp un : Nat} {gd : Option (List Code)} {cn : Str} {cs : Scope} {a : Addr} {ccd : Value} {cl : List (Str × Addr)} {Q E : Value → Shared → Prop}
set_option maxHeartbeats 8000000 in
theorem c__normalize0 {sign man exp bc prec : Int} {rnd : Str} {t1 t2 t3 t4 t5 t6 : Tok}
   (B : Below A₀ base outer h₀) (F : Fr h₀ L s.heap m) (X : (hd.heap_39 w.params).In h₀) (N : News h₀ L s.heap news) (T : Top p loose mean mg mb h₀) (hk : cs.kind = .function) (hdp : dp + 3 < recursionLimit)
   (hman : man = 0)
   (ret : Ret0 h₀ L m news s Q) :
  wpAny (model PR w) (ktrTop dp un gd cn cs L a ccd cl outer) (call (.ref 39) [.int sign t1, .int man t2, .int exp t3, .int bc t4, .int prec t5, .str rnd t6]) Q E s := by
  revert X; walk_at "m open"
  walk_at "m go"
  all_goals walk_at "m ret0"
end
local macro_rules | `(tactic| walk_at "m call") => `(tactic| ((with_reducible show wpAny _ _ (call (Value.ref 39) _) _ _ _); (refine' c__normalize ?k1 ?k2 ?k3 ?k4 ?k5 ?kK ?kd ?p1 ?p2 ?p3 ?p4 ?p5 ?p6 ?_; (case k1 => k_asm); (case k2 => k_asm); (case k3 => k_asm); (case k4 => k_asm); (case k5 => k_asm); (case kK => first | exact rfl | assumption); (case kd => walk_at "m room"); (case p1 => walk_at "m pre"); (case p2 => walk_at "m pre"); (case p3 => walk_at "m pre"); (case p4 => walk_at "m pre"); (case p5 => walk_at "m pre"); (case p6 => walk_at "m pre")); intro D9 t9 u9 v9 w9 c9 h9 tk9 F9 N9 l9; (try dsimp only); k_sweep))
local macro_rules | `(tactic| walk_at "m call") => `(tactic| ((with_reducible show wpAny _ _ (call (Value.ref 39) _) _ _ _); (refine' c__normalize0 ?k1 ?k2 ?k3 ?k4 ?k5 ?kK ?kd ?p1 ?_; (case k1 => k_asm); (case k2 => k_asm); (case k3 => k_asm); (case k4 => k_asm); (case k5 => k_asm); (case kK => first | exact rfl | assumption); (case kd => walk_at "m room"); (case p1 => walk_at "m pre")); intro h9 tk9 F9 N9; (try dsimp only); k_sweep))
section
variable {w : World} {p : Program} {loose : List Str} {mean : ExcName → Option Value} {mg mb : Str → Option Value} {A₀ : Around} {base h₀ : Heap} {outer : List Env} {L : Addr} {m : Str → Option Value} {news : List (Addr × Obj)} {s : Shared} {dp un : Nat} {gd : Option (List Code)} {cn : Str} {cs : Scope} {a : Addr} {ccd : Value} {cl : List (Str × Addr)} {Q E : Value → Shared → Prop}
set_option maxHeartbeats 8000000 in
theorem c_normalize {sign man exp bc prec : Int} {rnd : Str} {t1 t2 t3 t4 t5 t6 : Tok}
   (B : Below A₀ base outer h₀) (F : Fr h₀ L s.heap m) (X : (hd.heap_39 w.params).In h₀) (N : News h₀ L s.heap news) (T : Top p loose mean mg mb h₀) (hk : cs.kind = .function) (hdp : dp + 5 < recursionLimit)
   (hman : 0 < man) (hprec : 0 < prec) (hbc : bc ≤ 2 ^ 20) (hs : sign = 0 ∨ sign = 1) (hr : IsRnd rnd) (hbb : bc = Builtin.Int.intBits man)
   (ret : Ret4 h₀ L m news s Q sign (nrm sign man exp bc prec rnd).2.1 (nrm sign man exp bc prec rnd).2.2.1 (nrm sign man exp bc prec rnd).2.2.2) :
  wpAny (model PR w) (ktrTop dp un gd cn cs L a ccd cl outer) (call (.ref 46) [.int sign t1, .int man t2, .int exp t3, .int bc t4, .int prec t5, .str rnd t6]) Q E s := by
  revert X; walk_at "m open"
  have hpos := nrm1_pos' (sign := sign) (exp := exp) (rnd := rnd) hman hprec hbb hr hs
  walk_at "m go"
  all_goals walk_at "m ret4"
set_option maxHeartbeats 8000000 in
theorem c_normalize0 {sign man exp bc prec : Int} {rnd : Str} {t1 t2 t3 t4 t5 t6 : Tok}
   (B : Below A₀ base outer h₀) (F : Fr h₀ L s.heap m) (X : (hd.heap_39 w.params).In h₀) (N : News h₀ L s.heap news) (T : Top p loose mean mg mb h₀) (hk : cs.kind = .function) (hdp : dp + 5 < recursionLimit)
   (hman : man = 0) (hbb : bc = Builtin.Int.intBits man)
   (ret : Ret0 h₀ L m news s Q) :
  wpAny (model PR w) (ktrTop dp un gd cn cs L a ccd cl outer) (call (.ref 46) [.int sign t1, .int man t2, .int exp t3, .int bc t4, .int prec t5, .str rnd t6]) Q E s := by
  revert X; walk_at "m open"
  walk_at "m go"
  all_goals walk_at "m ret0"
end
local macro_rules | `(tactic| walk_at "m call") => `(tactic| ((with_reducible show wpAny _ _ (call (Value.ref 46) _) _ _ _); (refine' c_normalize ?k1 ?k2 ?k3 ?k4 ?k5 ?kK ?kd ?p1 ?p2 ?p3 ?p4 ?p5 ?p6 ?_; (case k1 => k_asm); (case k2 => k_asm); (case k3 => k_asm); (case k4 => k_asm); (case k5 => k_asm); (case kK => first | exact rfl | assumption); (case kd => walk_at "m room"); (case p1 => walk_at "m pre"); (case p2 => walk_at "m pre"); (case p3 => walk_at "m pre"); (case p4 => walk_at "m pre"); (case p5 => walk_at "m pre"); (case p6 => walk_at "m pre")); intro D9 t9 u9 v9 w9 c9 h9 tk9 F9 N9 l9; (try dsimp only); k_sweep))
local macro_rules | `(tactic| walk_at "m call") => `(tactic| ((with_reducible show wpAny _ _ (call (Value.ref 46) _) _ _ _); (refine' c_normalize0 ?k1 ?k2 ?k3 ?k4 ?k5 ?kK ?kd ?p1 ?p2 ?_; (case k1 => k_asm); (case k2 => k_asm); (case k3 => k_asm); (case k4 => k_asm); (case k5 => k_asm); (case kK => first | exact rfl | assumption); (case kd => walk_at "m room"); (case p1 => walk_at "m pre"); (case p2 => walk_at "m pre")); intro h9 tk9 F9 N9; (try dsimp only); k_sweep))
section
variable {w : World} {p : Program} {loose : List Str} {mean : ExcName → Option Value} {mg mb : Str → Option Value} {A₀ : Around} {base h₀ : Heap} {outer : List Env} {L : Addr} {m : Str → Option Value} {news : List (Addr × Obj)} {s : Shared} {dp un : Nat} {gd : Option (List Code)} {cn : Str} {cs : Scope} {a : Addr} {ccd : Value} {cl : List (Str × Addr)} {Q E : Value → Shared → Prop}
set_option maxHeartbeats 8000000 in
theorem c_fme {man exp prec : Int} {rnd : Str} {t1 t2 t3 t4 : Tok}
   (B : Below A₀ base outer h₀) (F : Fr h₀ L s.heap m) (X : (hd.heap_39 w.params).In h₀) (N : News h₀ L s.heap news) (T : Top p loose mean mg mb h₀) (hk : cs.kind = .function) (hdp : dp + 7 < recursionLimit)
   (hman : man ≠ 0) (hprec : 0 < prec) (hbc : (Builtin.Int.intBits (mag man) : Int) ≤ 2 ^ 20) (hr : IsRnd rnd)
   (ret : Ret4 h₀ L m news s Q (sgn man) (nrm (sgn man) (mag man) exp (Builtin.Int.intBits (mag man)) prec rnd).2.1 (nrm (sgn man) (mag man) exp (Builtin.Int.intBits (mag man)) prec rnd).2.2.1 (nrm (sgn man) (mag man) exp (Builtin.Int.intBits (mag man)) prec rnd).2.2.2) :
  wpAny (model PR w) (ktrTop dp un gd cn cs L a ccd cl outer) (call (.ref 54) [.int man t1, .int exp t2, .int prec t3, .str rnd t4]) Q E s := by
  revert X; walk_at "m open"
  have hC1 : CutAt 56 True [(Str.ofString "sign", fun t => .int (sgn man) t), (Str.ofString "man", fun t => .int (mag man) t), (Str.ofString "exp", fun t => .int exp t), (Str.ofString "prec", fun t => .int prec t), (Str.ofString "rnd", fun t => .str rnd t)] := trivial
  have hsg := sgn_01 man
  have hmp := mag_pos hman
  walk_at "m go"
  all_goals walk_at "m ret4"
set_option maxHeartbeats 8000000 in
theorem c_fme0 {man exp prec : Int} {rnd : Str} {t1 t2 t3 t4 : Tok}
   (B : Below A₀ base outer h₀) (F : Fr h₀ L s.heap m) (X : (hd.heap_39 w.params).In h₀) (N : News h₀ L s.heap news) (T : Top p loose mean mg mb h₀) (hk : cs.kind = .function) (hdp : dp + 7 < recursionLimit)
   (hman : man = 0) (hprec : 0 < prec)
   (ret : Ret0 h₀ L m news s Q) :
  wpAny (model PR w) (ktrTop dp un gd cn cs L a ccd cl outer) (call (.ref 54) [.int man t1, .int exp t2, .int prec t3, .str rnd t4]) Q E s := by
  revert X; walk_at "m open"
  have hC1 : CutAt 56 True [(Str.ofString "sign", fun t => .int (sgn man) t), (Str.ofString "man", fun t => .int (mag man) t), (Str.ofString "exp", fun t => .int exp t), (Str.ofString "prec", fun t => .int prec t), (Str.ofString "rnd", fun t => .str rnd t)] := trivial
  have hsg := sgn_01 man
  have hmz := mag_zero hman
  walk_at "m go"
  all_goals walk_at "m ret0"
set_option maxHeartbeats 8000000 in
theorem c_fmex {man exp prec : Int} {rnd : Str} {t1 t2 t3 t4 : Tok}
   (B : Below A₀ base outer h₀) (F : Fr h₀ L s.heap m) (X : (hd.heap_39 w.params).In h₀) (N : News h₀ L s.heap news) (T : Top p loose mean mg mb h₀) (hk : cs.kind = .function) (hdp : dp + 7 < recursionLimit)
   (hman : man ≠ 0) (hprec : prec = 0)
   (ret : Ret4 h₀ L m news s Q (sgn man) (oddp (mag man) exp (Builtin.Int.intBits (mag man))).1 (oddp (mag man) exp (Builtin.Int.intBits (mag man))).2.1 (oddp (mag man) exp (Builtin.Int.intBits (mag man))).2.2) :
  wpAny (model PR w) (ktrTop dp un gd cn cs L a ccd cl outer) (call (.ref 54) [.int man t1, .int exp t2, .int prec t3, .str rnd t4]) Q E s := by
  revert X; walk_at "m open"
  have hC1 : CutAt 56 True [(Str.ofString "sign", fun t => .int (sgn man) t), (Str.ofString "man", fun t => .int (mag man) t), (Str.ofString "exp", fun t => .int exp t), (Str.ofString "prec", fun t => .int prec t), (Str.ofString "rnd", fun t => .str rnd t)] := trivial
  have hsg := sgn_01 man
  have hmp := mag_pos hman
  walk_at "m go"
  all_goals walk_at "m ret4"
set_option maxHeartbeats 8000000 in
theorem c_fmex0 {man exp prec : Int} {rnd : Str} {t1 t2 t3 t4 : Tok}
   (B : Below A₀ base outer h₀) (F : Fr h₀ L s.heap m) (X : (hd.heap_39 w.params).In h₀) (N : News h₀ L s.heap news) (T : Top p loose mean mg mb h₀) (hk : cs.kind = .function) (hdp : dp + 7 < recursionLimit)
   (hman : man = 0) (hprec : prec = 0)
   (ret : Ret0 h₀ L m news s Q) :
  wpAny (model PR w) (ktrTop dp un gd cn cs L a ccd cl outer) (call (.ref 54) [.int man t1, .int exp t2, .int prec t3, .str rnd t4]) Q E s := by
  revert X; walk_at "m open"
  have hC1 : CutAt 56 True [(Str.ofString "sign", fun t => .int (sgn man) t), (Str.ofString "man", fun t => .int (mag man) t), (Str.ofString "exp", fun t => .int exp t), (Str.ofString "prec", fun t => .int prec t), (Str.ofString "rnd", fun t => .str rnd t)] := trivial
  have hsg := sgn_01 man
  have hmz := mag_zero hman
  walk_at "m go"
  all_goals walk_at "m ret0"
end
-- N4
local macro_rules | `(tactic| walk_at "m call") => `(tactic| ((with_reducible show wpAny _ _ (call (Value.ref 54) _) _ _ _); (refine' c_fme ?k1 ?k2 ?k3 ?k4 ?k5 ?kK ?kd ?p1 ?p2 ?p3 ?p4 ?_; (case k1 => k_asm); (case k2 => k_asm); (case k3 => k_asm); (case k4 => k_asm); (case k5 => k_asm); (case kK => first | exact rfl | assumption); (case kd => walk_at "m room"); (case p1 => walk_at "m pre"); (case p2 => walk_at "m pre"); (case p3 => walk_at "m pre"); (case p4 => walk_at "m pre")); intro D9 t9 u9 v9 w9 c9 h9 tk9 F9 N9 l9; (try dsimp only); k_sweep))
local macro_rules | `(tactic| walk_at "m call") => `(tactic| ((with_reducible show wpAny _ _ (call (Value.ref 54) _) _ _ _); (refine' c_fme0 ?k1 ?k2 ?k3 ?k4 ?k5 ?kK ?kd ?p1 ?p2 ?_; (case k1 => k_asm); (case k2 => k_asm); (case k3 => k_asm); (case k4 => k_asm); (case k5 => k_asm); (case kK => first | exact rfl | assumption); (case kd => walk_at "m room"); (case p1 => walk_at "m pre"); (case p2 => walk_at "m pre")); intro h9 tk9 F9 N9; (try dsimp only); k_sweep))
local macro_rules | `(tactic| walk_at "m call") => `(tactic| ((with_reducible show wpAny _ _ (call (Value.ref 54) _) _ _ _); (refine' c_fmex ?k1 ?k2 ?k3 ?k4 ?k5 ?kK ?kd ?p1 ?p2 ?_; (case k1 => k_asm); (case k2 => k_asm); (case k3 => k_asm); (case k4 => k_asm); (case k5 => k_asm); (case kK => first | exact rfl | assumption); (case kd => walk_at "m room"); (case p1 => walk_at "m pre"); (case p2 => walk_at "m pre")); intro D9 t9 u9 v9 w9 c9 h9 tk9 F9 N9 l9; (try dsimp only); k_sweep))
local macro_rules | `(tactic| walk_at "m call") => `(tactic| ((with_reducible show wpAny _ _ (call (Value.ref 54) _) _ _ _); (refine' c_fmex0 ?k1 ?k2 ?k3 ?k4 ?k5 ?kK ?kd ?p1 ?p2 ?_; (case k1 => k_asm); (case k2 => k_asm); (case k3 => k_asm); (case k4 => k_asm); (case k5 => k_asm); (case kK => first | exact rfl | assumption); (case kd => walk_at "m room"); (case p1 => walk_at "m pre"); (case p2 => walk_at "m pre")); intro h9 tk9 F9 N9; (try dsimp only); k_sweep))
local macro_rules | `(tactic| walk_at "m call") => `(tactic| (with_reducible refine call_int_int ?_))
section
variable {w : World} {p : Program} {loose : List Str} {mean : ExcName → Option Value} {mg mb : Str → Option Value} {A₀ : Around} {base h₀ : Heap} {outer : List Env} {L : Addr} {m : Str → Option Value} {news : List (Addr × Obj)} {s : Shared} {dp un : Nat} {gd : Option (List Code)} {cn : Str} {cs : Scope} {a : Addr} {ccd : Value} {cl : List (Str × Addr)} {Q E : Value → Shared → Prop}
set_option maxHeartbeats 8000000 in
theorem c_fi {n prec : Int} {rnd : Str} {t1 t2 t3 : Tok}
   (B : Below A₀ base outer h₀) (F : Fr h₀ L s.heap m) (X : (hd.heap_39 w.params).In h₀) (N : News h₀ L s.heap news) (T : Top p loose mean mg mb h₀) (hk : cs.kind = .function) (hdp : dp + 9 < recursionLimit)
   (hman : n ≠ 0) (hprec : 0 < prec) (hbc : (Builtin.Int.intBits (mag n) : Int) ≤ 2 ^ 20) (hr : IsRnd rnd)
   (ret : Ret4 h₀ L m news s Q (sgn n) (nrm (sgn n) (mag n) 0 (Builtin.Int.intBits (mag n)) prec rnd).2.1 (nrm (sgn n) (mag n) 0 (Builtin.Int.intBits (mag n)) prec rnd).2.2.1 (nrm (sgn n) (mag n) 0 (Builtin.Int.intBits (mag n)) prec rnd).2.2.2) :
  wpAny (model PR w) (ktrTop dp un gd cn cs L a ccd cl outer) (call (.ref 62) [.int n t1, .int prec t2, .str rnd t3]) Q E s := by
  revert X; walk_at "m open"
  walk_at "m go"
  all_goals walk_at "m ret4"
end
section
variable {w : World} {p : Program} {loose : List Str} {mean : ExcName → Option Value} {mg mb : Str → Option Value} {A₀ : Around} {base h₀ : Heap} {outer : List Env} {L : Addr} {m : Str → Option Value} {news : List (Addr × Obj)} {s : Shared} {dp un : Nat} {gd : Option (List Code)} {cn : Str} {cs : Scope} {a : Addr} {ccd : Value} {cl : List (Str × Addr)} {Q E : Value → Shared → Prop}
set_option maxHeartbeats 8000000 in
theorem c_fi0 {n prec : Int} {rnd : Str} {t1 t2 t3 : Tok}
   (B : Below A₀ base outer h₀) (F : Fr h₀ L s.heap m) (X : (hd.heap_39 w.params).In h₀) (N : News h₀ L s.heap news) (T : Top p loose mean mg mb h₀) (hk : cs.kind = .function) (hdp : dp + 9 < recursionLimit)
   (hman : n = 0) (hprec : 0 < prec)
   (ret : Ret0 h₀ L m news s Q) :
  wpAny (model PR w) (ktrTop dp un gd cn cs L a ccd cl outer) (call (.ref 62) [.int n t1, .int prec t2, .str rnd t3]) Q E s := by
  revert X; walk_at "m open"
  walk_at "m go"
  all_goals walk_at "m ret0"
end
section
variable {w : World} {p : Program} {loose : List Str} {mean : ExcName → Option Value} {mg mb : Str → Option Value} {A₀ : Around} {base h₀ : Heap} {outer : List Env} {L : Addr} {m : Str → Option Value} {news : List (Addr × Obj)} {s : Shared} {dp un : Nat} {gd : Option (List Code)} {cn : Str} {cs : Scope} {a : Addr} {ccd : Value} {cl : List (Str × Addr)} {Q E : Value → Shared → Prop}
set_option maxHeartbeats 8000000 in
theorem c_fix {n : Int} {t1 : Tok}
   (B : Below A₀ base outer h₀) (F : Fr h₀ L s.heap m) (X : (hd.heap_39 w.params).In h₀) (N : News h₀ L s.heap news) (T : Top p loose mean mg mb h₀) (hk : cs.kind = .function) (hdp : dp + 9 < recursionLimit)
   (hman : n ≠ 0)
   (ret : Ret4 h₀ L m news s Q (sgn n) (oddp (mag n) 0 (Builtin.Int.intBits (mag n))).1 (oddp (mag n) 0 (Builtin.Int.intBits (mag n))).2.1 (oddp (mag n) 0 (Builtin.Int.intBits (mag n))).2.2) :
  wpAny (model PR w) (ktrTop dp un gd cn cs L a ccd cl outer) (call (.ref 62) [.int n t1]) Q E s := by
  revert X; walk_at "m open"
  walk_at "m go"
  all_goals walk_at "m ret4"
end
section
variable {w : World} {p : Program} {loose : List Str} {mean : ExcName → Option Value} {mg mb : Str → Option Value} {A₀ : Around} {base h₀ : Heap} {outer : List Env} {L : Addr} {m : Str → Option Value} {news : List (Addr × Obj)} {s : Shared} {dp un : Nat} {gd : Option (List Code)} {cn : Str} {cs : Scope} {a : Addr} {ccd : Value} {cl : List (Str × Addr)} {Q E : Value → Shared → Prop}
set_option maxHeartbeats 8000000 in
theorem c_fix0 {n : Int} {t1 : Tok}
   (B : Below A₀ base outer h₀) (F : Fr h₀ L s.heap m) (X : (hd.heap_39 w.params).In h₀) (N : News h₀ L s.heap news) (T : Top p loose mean mg mb h₀) (hk : cs.kind = .function) (hdp : dp + 9 < recursionLimit)
   (hman : n = 0)
   (ret : Ret0 h₀ L m news s Q) :
  wpAny (model PR w) (ktrTop dp un gd cn cs L a ccd cl outer) (call (.ref 62) [.int n t1]) Q E s := by
  revert X; walk_at "m open"
  walk_at "m go"
  all_goals walk_at "m ret0"
end
-- N5
local macro_rules | `(tactic| walk_at "m call") => `(tactic| ((with_reducible show wpAny _ _ (call (Value.ref 62) [_, _, _]) _ _ _); (refine' c_fi ?k1 ?k2 ?k3 ?k4 ?k5 ?kK ?kd ?p1 ?p2 ?p3 ?p4 ?_; (case k1 => k_asm); (case k2 => k_asm); (case k3 => k_asm); (case k4 => k_asm); (case k5 => k_asm); (case kK => first | exact rfl | assumption); (case kd => walk_at "m room"); (case p1 => walk_at "m pre"); (case p2 => walk_at "m pre"); (case p3 => walk_at "m pre"); (case p4 => walk_at "m pre")); intro D9 t9 u9 v9 w9 c9 h9 tk9 F9 N9 l9; (try dsimp only); k_sweep))
local macro_rules | `(tactic| walk_at "m call") => `(tactic| ((with_reducible show wpAny _ _ (call (Value.ref 62) [_, _, _]) _ _ _); (refine' c_fi0 ?k1 ?k2 ?k3 ?k4 ?k5 ?kK ?kd ?p1 ?p2 ?_; (case k1 => k_asm); (case k2 => k_asm); (case k3 => k_asm); (case k4 => k_asm); (case k5 => k_asm); (case kK => first | exact rfl | assumption); (case kd => walk_at "m room"); (case p1 => walk_at "m pre"); (case p2 => walk_at "m pre")); intro h9 tk9 F9 N9; (try dsimp only); k_sweep))
local macro_rules | `(tactic| walk_at "m call") => `(tactic| ((with_reducible show wpAny _ _ (call (Value.ref 62) [_]) _ _ _); (refine' c_fix ?k1 ?k2 ?k3 ?k4 ?k5 ?kK ?kd ?p1 ?_; (case k1 => k_asm); (case k2 => k_asm); (case k3 => k_asm); (case k4 => k_asm); (case k5 => k_asm); (case kK => first | exact rfl | assumption); (case kd => walk_at "m room"); (case p1 => walk_at "m pre")); intro D9 t9 u9 v9 w9 c9 h9 tk9 F9 N9 l9; (try dsimp only); k_sweep))
local macro_rules | `(tactic| walk_at "m call") => `(tactic| ((with_reducible show wpAny _ _ (call (Value.ref 62) [_]) _ _ _); (refine' c_fix0 ?k1 ?k2 ?k3 ?k4 ?k5 ?kK ?kd ?p1 ?_; (case k1 => k_asm); (case k2 => k_asm); (case k3 => k_asm); (case k4 => k_asm); (case k5 => k_asm); (case kK => first | exact rfl | assumption); (case kd => walk_at "m room"); (case p1 => walk_at "m pre")); intro h9 tk9 F9 N9; (try dsimp only); k_sweep))
section
variable {prog : Program} {w : World} {A : Around} {E : Value → Shared → Prop} {s : Shared} {a b : Addr} {i1 i2 i3 i4 j1 j2 j3 j4 : Int} {t1 t2 t3 t4 u1 u2 u3 u4 : Tok} {Q : Value → Shared → Prop}
theorem reads_t4 {h : Heap} (ha : IsTup h a #[.int i1 t1, .int i2 t2, .int i3 t3, .int i4 t4]) : Reads h (.ref a) (.tuple [.int i1, .int i2, .int i3, .int i4]) [] := by
  obtain ⟨o, ho, hc, n, hd⟩ := ha
  exact reads_tuple_at ho hc hd (.cons (.int _ _) (.cons (.int _ _) (.cons (.int _ _) (.cons (.int _ _) .nil))))
theorem eqv_t4 : PyData.eqv (.tuple [.int i1, .int i2, .int i3, .int i4]) (.tuple [.int j1, .int j2, .int j3, .int j4]) = decide (i1 = j1 ∧ i2 = j2 ∧ i3 = j3 ∧ i4 = j4) := by
  simp only [PyData.eqv, PyData.eqvAll]
  by_cases h1 : i1 = j1 <;> by_cases h2 : i2 = j2 <;> by_cases h3 : i3 = j3 <;> by_cases h4 : i4 = j4 <;> simp [h1, h2, h3, h4]
theorem eq_t4 (ha : IsTup s.heap a #[.int i1 t1, .int i2 t2, .int i3 t3, .int i4 t4]) (hb : IsTup s.heap b #[.int j1 u1, .int j2 u2, .int j3 u3, .int j4 u4]) (hu : A.units + 64 < cLine)
    (h : Q (.bool (decide (i1 = j1 ∧ i2 = j2 ∧ i3 = j3 ∧ i4 = j4))) s) : wpAny (model prog w) A (compareOp .Eq (.ref a) (.ref b)) Q E s :=
  eq_dataH (reads_t4 ha) (reads_t4 hb) rfl rfl hu (by rw [eqv_t4]; exact h)
theorem ne_t4 (ha : IsTup s.heap a #[.int i1 t1, .int i2 t2, .int i3 t3, .int i4 t4]) (hb : IsTup s.heap b #[.int j1 u1, .int j2 u2, .int j3 u3, .int j4 u4]) (hu : A.units + 64 < cLine)
    (h : Q (.bool (!decide (i1 = j1 ∧ i2 = j2 ∧ i3 = j3 ∧ i4 = j4))) s) : wpAny (model prog w) A (compareOp .NotEq (.ref a) (.ref b)) Q E s :=
  ne_dataH (reads_t4 ha) (reads_t4 hb) rfl rfl hu (by rw [eqv_t4]; exact h)
end
local macro_rules | `(tactic| walk_at "m units") => `(tactic| first | assumption | ((try dsimp only [ktrTop, Around.deeper] at *); omega))
local macro_rules | `(tactic| walk_at "m tup") => `(tactic| exact tupK (Frag.In.keeps (by k_asm) (Fr.keep (by k_asm))) (by k_is))
local macro_rules | `(tactic| walk_at "m cmp") => `(tactic| first
  | ((with_reducible show wpAny _ _ (compareOp CmpOp.Eq (Value.ref _) (Value.ref _)) _ _ _); (refine' eq_t4 ?ha ?hb ?hu ?_; (case ha => walk_at "m tup"); (case hb => walk_at "m tup"); (case hu => walk_at "m units")); (try dsimp only))
  | ((with_reducible show wpAny _ _ (compareOp CmpOp.NotEq (Value.ref _) (Value.ref _)) _ _ _); (refine' ne_t4 ?ha ?hb ?hu ?_; (case ha => walk_at "m tup"); (case hb => walk_at "m tup"); (case hu => walk_at "m units")); (try dsimp only)))
local macro_rules | `(tactic| walk_at "m bin") => `(tactic| ((with_reducible refine lshift_int ?k1 ?k2 ?_); (case k1 => omega); (case k2 => omega)))
def dvExtra (sb tb prec : Int) : Int := if prec - sb + tb + 5 < 5 then 5 else prec - sb + tb + 5
/-- the quotient with its sticky bit, and the shift -/
def dvQ (sm tm e : Int) : Int × Int :=
  if (sm * 2 ^ e.toNat).fmod tm ≠ 0 then ((sm * 2 ^ e.toNat).fdiv tm * 2 ^ (1 : Int).toNat + 1, e + 1) else ((sm * 2 ^ e.toNat).fdiv tm, e)
def dv (sg sm se sb tm te tb prec : Int) (rnd : Str) : Int × Int × Int × Int :=
  if tm = 1 then nrm sg sm (se - te) sb prec rnd
  else nrm sg (dvQ sm tm (dvExtra sb tb prec)).1 (se - te - (dvQ sm tm (dvExtra sb tb prec)).2) (Builtin.Int.intBits (dvQ sm tm (dvExtra sb tb prec)).1) prec rnd
local macro_rules | `(tactic| walk_at "m eq") => `(tactic| first
  | with_reducible rfl
  | with_reducible assumption
  | (simp only [dv, eq_self, if_true, if_false, ne_eq, *]; done)
  | (unfold dvExtra; split <;> omega)
  | (simp only [dvQ, ne_eq, not_true_eq_false, not_false_eq_true, if_true, if_false, *]; done))
local macro_rules | `(tactic| walk_at "m pylong") => `(tactic| exact Or.inl (PyProof.noPylong_of_log2 (by assumption)))
local macro_rules | `(tactic| walk_at "m pre") => `(tactic| first | with_reducible assumption | with_reducible rfl | omega | exact (by assumption : _ = _).symm | ((rw [show Builtin.bitXor _ 0 = _ from by assumption]); assumption))
theorem xor_01 {a : Int} (h : a = 0 ∨ a = 1) : Builtin.bitXor a 0 = a := by rcases h with rfl | rfl <;> decide
section
variable {w : World} {p : Program} {loose : List Str} {mean : ExcName → Option Value} {mg mb : Str → Option Value} {A₀ : Around} {base h₀ : Heap} {outer : List Env} {L : Addr} {m : Str → Option Value} {news : List (Addr × Obj)} {s : Shared} {dp un : Nat} {gd : Option (List Code)} {cn : Str} {cs : Scope} {a : Addr} {ccd : Value} {cl : List (Str × Addr)} {Q E : Value → Shared → Prop}
set_option maxHeartbeats 8000000 in
theorem c_div {ss sm se sb ts tm te tb prec : Int} {rnd : Str} {t5 t6 : Tok} {a1 a2 a3 a4 b1 b2 b3 b4 : Tok} {ca cb : Nat} {Ds Dt : Addr}
   (B : Below A₀ base outer h₀) (F : Fr h₀ L s.heap m) (X : (hd.heap_39 w.params).In h₀) (N : News h₀ L s.heap news) (T : Top p loose mean mg mb h₀) (hk : cs.kind = .function) (hdp : dp + 7 < recursionLimit) (hun : un + 80 < cLine)
   (hsm : (Ds, T4 ss sm se sb a1 a2 a3 a4 ca) ∈ news) (htm : (Dt, T4 ts tm te tb b1 b2 b3 b4 cb) ∈ news) (hts : ts = 0) (hs : ss = 0 ∨ ss = 1) (h1 : 0 < sm) (h2 : 0 < tm) (hsb : (Builtin.Int.intBits sm : Int) = sb) (hsb2 : sb ≤ 2 ^ 20) (htb : tb ≤ 2 ^ 20) (hp : 0 < prec) (hp2 : prec ≤ 2 ^ 20) (hr : IsRnd rnd)
   (hpy : tm.natAbs.log2 < 9000) (hq1 : (Builtin.Int.intBits ((sm * 2 ^ (dvExtra sb tb prec).toNat).fdiv tm) : Int) ≤ 2 ^ 19) (hq2 : 0 < (dvQ sm tm (dvExtra sb tb prec)).1) (hq3 : (Builtin.Int.intBits (dvQ sm tm (dvExtra sb tb prec)).1 : Int) ≤ 2 ^ 20) (htb0 : 0 ≤ tb)
   (ret : Ret4 h₀ L m news s Q ss (dv ss sm se sb tm te tb prec rnd).2.1 (dv ss sm se sb tm te tb prec rnd).2.2.1 (dv ss sm se sb tm te tb prec rnd).2.2.2) :
  wpAny (model PR w) (ktrTop dp un gd cn cs L a ccd cl outer) (call (.ref 101) [.ref Ds, .ref Dt, .int prec t5, .str rnd t6]) Q E s := by
  revert X; walk_at "m open"
  subst hts
  have hC1 : CutAt 144 True [(Str.ofString "sign", fun t => .int ss t), (Str.ofString "sman", fun t => .int sm t), (Str.ofString "tman", fun t => .int tm t), (Str.ofString "sexp", fun t => .int se t), (Str.ofString "texp", fun t => .int te t), (Str.ofString "prec", fun t => .int prec t), (Str.ofString "rnd", fun t => .str rnd t), (Str.ofString "extra", fun t => .int (dvExtra sb tb prec) t)] := trivial
  have hC2 : CutAt 147 True [(Str.ofString "sign", fun t => .int ss t), (Str.ofString "sexp", fun t => .int se t), (Str.ofString "texp", fun t => .int te t), (Str.ofString "prec", fun t => .int prec t), (Str.ofString "rnd", fun t => .str rnd t), (Str.ofString "extra", fun t => .int (dvQ sm tm (dvExtra sb tb prec)).2 t), (Str.ofString "quot", fun t => .int (dvQ sm tm (dvExtra sb tb prec)).1 t)] := trivial
  have he0 : 5 ≤ dvExtra sb tb prec := by unfold dvExtra; split <;> omega
  have he1 : dvExtra sb tb prec ≤ 2 ^ 22 := by unfold dvExtra; split <;> omega
  have h2' : tm ≠ 0 := by omega
  have hx := xor_01 hs
  walk_at "m go"
  all_goals walk_at "m ret4"
end
section
variable {w : World} {p : Program} {loose : List Str} {mean : ExcName → Option Value} {mg mb : Str → Option Value} {A₀ : Around} {base h₀ : Heap} {outer : List Env} {L : Addr} {m : Str → Option Value} {news : List (Addr × Obj)} {s : Shared} {dp un : Nat} {gd : Option (List Code)} {cn : Str} {cs : Scope} {a : Addr} {ccd : Value} {cl : List (Str × Addr)} {Q E : Value → Shared → Prop}
set_option maxHeartbeats 8000000 in
theorem c_div0 {ts tm te tb prec : Int} {rnd : Str} {t5 t6 : Tok} {b1 b2 b3 b4 : Tok} {cb : Nat} {Dt : Addr}
   (B : Below A₀ base outer h₀) (F : Fr h₀ L s.heap m) (X : (hd.heap_39 w.params).In h₀) (N : News h₀ L s.heap news) (T : Top p loose mean mg mb h₀) (hk : cs.kind = .function) (hdp : dp + 7 < recursionLimit) (hun : un + 80 < cLine)
   (htm : (Dt, T4 ts tm te tb b1 b2 b3 b4 cb) ∈ news) (hts : ts = 0) (h2 : 0 < tm)
   (ret : Ret0 h₀ L m news s Q) :
  wpAny (model PR w) (ktrTop dp un gd cn cs L a ccd cl outer) (call (.ref 101) [.ref 22, .ref Dt, .int prec t5, .str rnd t6]) Q E s := by
  revert X; walk_at "m open"
  subst hts
  have h2' : tm ≠ 0 := by omega
  walk_at "m go"
  all_goals walk_at "m ret0"
end
-- N6a
local macro_rules | `(tactic| walk_at "m call") => `(tactic| ((with_reducible show wpAny _ _ (call (Value.ref 101) [_, _, _, _]) _ _ _); (refine' c_div ?k1 ?k2 ?k3 ?k4 ?k5 ?kK ?kd ?ku ?p1 ?p2 ?p3 ?p4 ?p5 ?p6 ?p7 ?p8 ?p9 ?p10 ?p11 ?p12 ?p13 ?p14 ?p15 ?p16 ?p17 ?_; (case k1 => k_asm); (case k2 => k_asm); (case k3 => k_asm); (case k4 => k_asm); (case k5 => k_asm); (case kK => first | exact rfl | assumption); (case kd => walk_at "m room"); (case ku => walk_at "m units"); (case p1 => first | k_mem | assumption); (case p2 => first | k_mem | assumption); (case p3 => walk_at "m pre"); (case p4 => walk_at "m pre"); (case p5 => walk_at "m pre"); (case p6 => walk_at "m pre"); (case p7 => walk_at "m pre"); (case p8 => walk_at "m pre"); (case p9 => walk_at "m pre"); (case p10 => walk_at "m pre"); (case p11 => walk_at "m pre"); (case p12 => walk_at "m pre"); (case p13 => walk_at "m pre"); (case p14 => walk_at "m pre"); (case p15 => walk_at "m pre"); (case p16 => walk_at "m pre"); (case p17 => walk_at "m pre")); intro D9 t9 u9 v9 w9 c9 h9 tk9 F9 N9 l9; (try dsimp only); k_sweep))
local macro_rules | `(tactic| walk_at "m call") => `(tactic| ((with_reducible show wpAny _ _ (call (Value.ref 101) [Value.ref 22, _, _, _]) _ _ _); (refine' c_div0 ?k1 ?k2 ?k3 ?k4 ?k5 ?kK ?kd ?ku ?p1 ?p2 ?p3 ?_; (case k1 => k_asm); (case k2 => k_asm); (case k3 => k_asm); (case k4 => k_asm); (case k5 => k_asm); (case kK => first | exact rfl | assumption); (case kd => walk_at "m room"); (case ku => walk_at "m units"); (case p1 => first | k_mem | assumption); (case p2 => walk_at "m pre"); (case p3 => walk_at "m pre")); intro h9 tk9 F9 N9; (try dsimp only); k_sweep))
structure DvOk (sm sb tm tb prec : Int) : Prop where
  h1 : 0 < sm
  h2 : 0 < tm
  hsb : (Builtin.Int.intBits sm : Int) = sb
  hsb2 : sb ≤ 2 ^ 20
  htb : tb ≤ 2 ^ 20
  hpy : tm.natAbs.log2 < 9000
  hq1 : (Builtin.Int.intBits ((sm * 2 ^ (dvExtra sb tb prec).toNat).fdiv tm) : Int) ≤ 2 ^ 19
  hq2 : 0 < (dvQ sm tm (dvExtra sb tb prec)).1
  hq3 : (Builtin.Int.intBits (dvQ sm tm (dvExtra sb tb prec)).1 : Int) ≤ 2 ^ 20
  htb0 : 0 ≤ tb
abbrev odd0 (n : Int) : Int × Int × Int := oddp (mag n) 0 (Builtin.Int.intBits (mag n))
def fr (p q prec : Int) (rnd : Str) : Int × Int × Int × Int :=
  dv (sgn p) (odd0 p).1 (odd0 p).2.1 (odd0 p).2.2 (odd0 q).1 (odd0 q).2.1 (odd0 q).2.2 prec rnd
/-- the numbers that are asked of mpf_div here -/
def Small (n : Int) : Prop := n.natAbs < 2 ^ 4000
-- P7
section
theorem oddp_eq {x k : Nat} {e c : Int} (hx : x % 2 = 1) : oddp ((x * 2 ^ k : Nat) : Int) e c = ((x : Int), e + k, c - k) := by
  unfold oddp
  rw [bitAnd_1, bitAnd_2]
  match k with
  | 0 =>
    rw [if_neg (by rw [Nat.pow_zero, Nat.mul_one]; omega), Nat.pow_zero, Nat.mul_one]
    simp
  | 1 =>
    have e1 : x * 2 ^ 1 = 2 * x := by rw [Nat.pow_one, Nat.mul_comm]
    rw [e1, if_pos (by omega), if_pos (by omega), show (1 : Int).toNat = 1 from rfl, fdiv_pow]
    have e2 : 2 * x / 2 ^ 1 = x := by omega
    rw [e2]; simp
  | k + 2 =>
    have e1 : x * 2 ^ (k + 2) = 4 * (x * 2 ^ k) := by
      rw [Nat.pow_add, show (2 : Nat) ^ 2 = 4 from rfl]; ac_rfl
    have h1 : x * 2 ^ (k + 2) % 2 = 0 := by omega
    have h2 : x * 2 ^ (k + 2) / 2 % 2 = 0 := by omega
    rw [if_pos (by rw [h1]; rfl), if_neg (by rw [h2]; simp), trail_eq hx, Int.toNat_natCast, fdiv_pow, Nat.mul_div_cancel _ (two_pos _)]
theorem mag_nat (n : Int) : mag n = (n.natAbs : Int) := by unfold mag; split <;> omega
theorem odd0_eq {n : Int} (hn : n ≠ 0) : ∃ x k : Nat, n.natAbs = x * 2 ^ k ∧ x % 2 = 1 ∧ odd0 n = ((x : Int), (k : Int), (Builtin.Int.intBits (x : Int) : Int)) := by
  obtain ⟨x, k, e, hx⟩ := odd_part (m := n.natAbs) (by omega)
  refine ⟨x, k, e, hx, ?_⟩
  unfold odd0
  rw [mag_nat, e, oddp_eq hx, bits_shift (by omega)]
  simp
theorem odd0_pos' {q : Int} (hq : q ≠ 0) : 0 < (odd0 q).1 := by
  obtain ⟨x, k, _, hx, e⟩ := odd0_eq hq
  rw [e]; dsimp only; omega
theorem bits_lt {m k : Nat} (h : m < 2 ^ k) : Builtin.Int.intBits (m : Int) ≤ k := by
  rcases Nat.eq_zero_or_pos m with rfl | hm
  · exact Nat.zero_le _
  · rw [intBits_nat hm]
    have := (Nat.log2_lt (by omega)).mpr h
    omega
/-- the shift of mpf_div: the quotient has more than prec + 4 bits -/
theorem extra_eq {sb tb p : Nat} : ∃ E : Nat, dvExtra sb tb p = (E : Int) ∧ p + tb + 5 ≤ sb + E ∧ E ≤ p + tb + 5 := by
  unfold dvExtra
  split
  · exact ⟨5, rfl, by omega, by omega⟩
  · exact ⟨((p : Int) - sb + tb + 5).toNat, by omega, by omega, by omega⟩
theorem quot_big {s t E p : Nat} (hs : 0 < s) (ht : 0 < t) (hE : p + Builtin.Int.intBits (t : Int) + 5 ≤ Builtin.Int.intBits (s : Int) + E) : 2 ^ (p + 4) ≤ s * 2 ^ E / t := by
  obtain ⟨s1, s2, s3⟩ := bits_bounds hs
  obtain ⟨t1, t2, t3⟩ := bits_bounds ht
  rw [Nat.le_div_iff_mul_le ht]
  calc 2 ^ (p + 4) * t ≤ 2 ^ (p + 4) * 2 ^ Builtin.Int.intBits (t : Int) := Nat.mul_le_mul_left _ (Nat.le_of_lt t2)
    _ = 2 ^ (p + 4 + Builtin.Int.intBits (t : Int)) := by rw [← Nat.pow_add]
    _ ≤ 2 ^ (Builtin.Int.intBits (s : Int) - 1 + E) := Nat.pow_le_pow_right (by decide) (by omega)
    _ = 2 ^ (Builtin.Int.intBits (s : Int) - 1) * 2 ^ E := by rw [Nat.pow_add]
    _ ≤ s * 2 ^ E := Nat.mul_le_mul_right _ s1
theorem dvQ_nat (s t E : Nat) : dvQ (s : Int) (t : Int) (E : Int) = if s * 2 ^ E % t ≠ 0 then (((2 * (s * 2 ^ E / t) + 1 : Nat) : Int), ((E + 1 : Nat) : Int)) else (((s * 2 ^ E / t : Nat) : Int), (E : Int)) := by
  have e1 : ((s : Int) * 2 ^ (E : Int).toNat).fmod (t : Int) = ((s * 2 ^ E % t : Nat) : Int) := by
    rw [Int.toNat_natCast, ← cast_pow, ← Int.natCast_mul, Int.fmod_eq_emod_of_nonneg _ (Int.natCast_nonneg _)]; simp
  have e2 : ((s : Int) * 2 ^ (E : Int).toNat).fdiv (t : Int) = ((s * 2 ^ E / t : Nat) : Int) := by
    rw [Int.toNat_natCast, ← cast_pow, ← Int.natCast_mul, Int.fdiv_eq_ediv_of_nonneg _ (Int.natCast_nonneg _)]; simp
  unfold dvQ
  rw [e1, e2]
  by_cases h : s * 2 ^ E % t ≠ 0
  · have h' : ((s * 2 ^ E % t : Nat) : Int) ≠ 0 := by omega
    rw [if_pos h', if_pos h, show (2 : Int) ^ (1 : Int).toNat = 2 from rfl]
    congr 1
    omega
  · have h' : ¬ ((s * 2 ^ E % t : Nat) : Int) ≠ 0 := by omega
    rw [if_neg h', if_neg h]
theorem dv_law {rnd : Str} {sign : Int} {s t se te p : Nat} (hr : IsRnd rnd) (hsg : sign = 0 ∨ sign = 1) (hs : 0 < s) (ht : 0 < t) (hp : 1 ≤ p) :
   ∃ (x : Nat) (f : Int), dv sign s se (Builtin.Int.intBits (s : Int)) t te (Builtin.Int.intBits (t : Int)) p rnd = (sign, (x : Int), f, (Builtin.Int.intBits (x : Int) : Int)) ∧ IsLaw (upS rnd sign) p (s * 2 ^ se) (t * 2 ^ te) x f ∧ x % 2 = 1 := by
  have hd1 : s * 2 ^ ((se : Int) - te).toNat * (t * 2 ^ te) = s * 2 ^ se * (t * 2 ^ (-((se : Int) - te)).toNat) := by
    calc s * 2 ^ ((se : Int) - te).toNat * (t * 2 ^ te) = s * t * (2 ^ ((se : Int) - te).toNat * 2 ^ te) := by ac_rfl
      _ = s * t * (2 ^ se * 2 ^ (-((se : Int) - te)).toNat) := by rw [← Nat.pow_add, ← Nat.pow_add]; congr 2; omega
      _ = s * 2 ^ se * (t * 2 ^ (-((se : Int) - te)).toNat) := by ac_rfl
  have hpos := Nat.mul_pos ht (two_pos (-((se : Int) - te)).toNat)
  have hpos' := Nat.mul_pos ht (two_pos te)
  unfold dv
  by_cases h1 : (t : Int) = 1
  · rw [if_pos h1]
    obtain ⟨x, f, e, hl, hx⟩ := nrm_law (exp := (se : Int) - te) hr hsg hs hp
    refine ⟨x, f, e, ?_, hx⟩
    have : t = 1 := by omega
    subst this
    exact hl.of_ratio (two_pos _) hpos' (by rw [hd1, Nat.one_mul])
  · rw [if_neg h1]
    obtain ⟨E, eE, hE1, hE2⟩ := extra_eq (sb := Builtin.Int.intBits (s : Int)) (tb := Builtin.Int.intBits (t : Int)) (p := p)
    rw [eE, dvQ_nat]
    have hbig := quot_big hs ht hE1
    by_cases hrem : s * 2 ^ E % t ≠ 0
    · rw [if_pos hrem]
      dsimp only
      have hm : 0 < 2 * (s * 2 ^ E / t) + 1 := by omega
      obtain ⟨b1, b2, b3⟩ := bits_bounds hm
      have hb : p + 5 ≤ Builtin.Int.intBits ((2 * (s * 2 ^ E / t) + 1 : Nat) : Int) := by
        rw [intBits_nat hm]
        have := (Nat.le_log2 (n := 2 * (s * 2 ^ E / t) + 1) (k := p + 4) (by omega)).mpr (by omega)
        omega
      obtain ⟨k, hk⟩ : ∃ k, Builtin.Int.intBits ((2 * (s * 2 ^ E / t) + 1 : Nat) : Int) = p + (k + 1) := ⟨Builtin.Int.intBits ((2 * (s * 2 ^ E / t) + 1 : Nat) : Int) - p - 1, by omega⟩
      obtain ⟨x, j, e, hw, hx⟩ := nrm_big (exp := (se : Int) - te - ((E + 1 : Nat) : Int)) hr hsg hm hp hk
      refine ⟨x, _, e, ?_, hx⟩
      rw [hk] at b1 b2
      exact (law_div (d := (se : Int) - te) ht hrem (by omega) (by rw [show p - 1 + (k + 1) = p + (k + 1) - 1 from by omega]; exact b1) b2 hw hx).of_ratio hpos hpos' hd1
    · rw [if_neg hrem]
      dsimp only
      have hm : 0 < s * 2 ^ E / t := by have := two_pos (p + 4); omega
      obtain ⟨b1, b2, b3⟩ := bits_bounds hm
      have hb : p + 5 ≤ Builtin.Int.intBits ((s * 2 ^ E / t : Nat) : Int) := by
        rw [intBits_nat hm]
        have := (Nat.le_log2 (n := s * 2 ^ E / t) (k := p + 4) (by omega)).mpr (by omega)
        omega
      obtain ⟨k, hk⟩ : ∃ k, Builtin.Int.intBits ((s * 2 ^ E / t : Nat) : Int) = p + (k + 1) := ⟨Builtin.Int.intBits ((s * 2 ^ E / t : Nat) : Int) - p - 1, by omega⟩
      obtain ⟨x, j, e, hw, hx⟩ := nrm_big (exp := (se : Int) - te - (E : Int)) hr hsg hm hp hk
      refine ⟨x, _, e, ?_, hx⟩
      rw [hk] at b1 b2
      exact (law_div0 (d := (se : Int) - te) ht (by omega) (by rw [show p - 1 + (k + 1) = p + (k + 1) - 1 from by omega]; exact b1) b2 hw hx).of_ratio hpos hpos' hd1
theorem fr_law {rnd : Str} {a b : Int} {p : Nat} (hr : IsRnd rnd) (ha : a ≠ 0) (hb : 0 < b) (hp : 1 ≤ p) :
   ∃ (x : Nat) (f : Int), fr a b p rnd = (sgn a, (x : Int), f, (Builtin.Int.intBits (x : Int) : Int)) ∧ IsLaw (upS rnd (sgn a)) p a.natAbs b.natAbs x f ∧ x % 2 = 1 := by
  obtain ⟨s, se, ea, hs, e1⟩ := odd0_eq ha
  obtain ⟨t, te, eb, ht, e2⟩ := odd0_eq (show b ≠ 0 by omega)
  unfold fr
  rw [e1, e2, ea, eb]
  exact dv_law hr (sgn_01 a) (by omega) (by omega) hp
theorem dvOk_of' {p q prec : Int} (hp : p ≠ 0) (hq : 0 < q) (hps : Small p) (hqs : Small q) (h0 : 0 < prec) (h1 : prec ≤ 1000) :
   DvOk (odd0 p).1 (odd0 p).2.2 (odd0 q).1 (odd0 q).2.2 prec := by
  obtain ⟨s, se, ea, hs, e1⟩ := odd0_eq hp
  obtain ⟨t, te, eb, ht, e2⟩ := odd0_eq (show q ≠ 0 by omega)
  obtain ⟨n, rfl⟩ := Int.eq_ofNat_of_zero_le (Int.le_of_lt h0)
  rw [e1, e2]
  dsimp only
  have hs4 : s < 2 ^ 4000 := by
    have : s ≤ s * 2 ^ se := Nat.le_mul_of_pos_right _ (two_pos _)
    unfold Small at hps
    omega
  have ht4 : t < 2 ^ 4000 := by
    have : t ≤ t * 2 ^ te := Nat.le_mul_of_pos_right _ (two_pos _)
    unfold Small at hqs
    omega
  have bs := bits_lt hs4
  have bt := bits_lt ht4
  obtain ⟨E, eE, hE1, hE2⟩ := extra_eq (sb := Builtin.Int.intBits (s : Int)) (tb := Builtin.Int.intBits (t : Int)) (p := n)
  have hbig := quot_big (s := s) (t := t) (E := E) (p := n) (by omega) (by omega) hE1
  have hE : E ≤ 5005 := by omega
  have hle : s * 2 ^ E / t < 2 ^ 9005 := by
    refine Nat.lt_of_le_of_lt (Nat.div_le_self _ _) ?_
    calc s * 2 ^ E < 2 ^ 4000 * 2 ^ E := Nat.mul_lt_mul_of_pos_right hs4 (two_pos _)
      _ = 2 ^ (4000 + E) := by rw [Nat.pow_add]
      _ ≤ 2 ^ 9005 := Nat.pow_le_pow_right (by decide) (by omega)
  have hpow := two_pos (n + 4)
  have e3 : ((s : Int) * 2 ^ (E : Int).toNat).fdiv (t : Int) = ((s * 2 ^ E / t : Nat) : Int) := by
    rw [Int.toNat_natCast, ← cast_pow, ← Int.natCast_mul, Int.fdiv_eq_ediv_of_nonneg _ (Int.natCast_nonneg _)]; simp
  have hdv : ∃ z : Nat, (dvQ (s : Int) (t : Int) (E : Int)).1 = (z : Int) ∧ 0 < z ∧ z < 2 ^ 9007 := by
    rw [dvQ_nat]
    have h2 : (2 : Nat) ^ 9007 = 4 * 2 ^ 9005 := by rw [show 9007 = 9005 + 2 from rfl, Nat.pow_add, Nat.mul_comm]
    generalize (2 : Nat) ^ 9005 = G at *
    split
    · exact ⟨_, rfl, by omega, by omega⟩
    · exact ⟨_, rfl, by omega, by omega⟩
  obtain ⟨z, z1, z2, z3⟩ := hdv
  have bz := bits_lt z3
  have bq := bits_lt hle
  exact ⟨by omega, by omega, rfl, by omega, by omega, by
      have : Builtin.Int.intBits (t : Int) = t.log2 + 1 := intBits_nat (by omega)
      rw [Int.natAbs_natCast]; omega, by rw [eE, e3]; omega, by rw [eE, z1]; omega, by rw [eE, z1]; omega, by omega⟩
end
-- N6
local macro_rules | `(tactic| walk_at "m eq") => `(tactic| (unfold fr; with_reducible rfl))
theorem sgn_pos {q : Int} (hq : 0 < q) : sgn q = 0 := by unfold sgn; split <;> omega
section
variable {w : World} {p : Program} {loose : List Str} {mean : ExcName → Option Value} {mg mb : Str → Option Value} {A₀ : Around} {base h₀ : Heap} {outer : List Env} {L : Addr} {m : Str → Option Value} {news : List (Addr × Obj)} {s : Shared} {dp un : Nat} {gd : Option (List Code)} {cn : Str} {cs : Scope} {a : Addr} {ccd : Value} {cl : List (Str × Addr)} {Q E : Value → Shared → Prop}
set_option maxHeartbeats 8000000 in
theorem c_fr {p_ q_ prec : Int} {rnd : Str} {t1 t2 t3 t4 : Tok}
   (B : Below A₀ base outer h₀) (F : Fr h₀ L s.heap m) (X : (hd.heap_39 w.params).In h₀) (N : News h₀ L s.heap news) (T : Top p loose mean mg mb h₀) (hk : cs.kind = .function) (hdp : dp + 10 < recursionLimit) (hun : un + 90 < cLine)
   (hp : p_ ≠ 0) (hq : 0 < q_) (hps : Small p_) (hqs : Small q_) (h0 : 0 < prec) (hp1 : prec ≤ 1000) (hr : IsRnd rnd)
   (ret : Ret4 h₀ L m news s Q (sgn p_) (fr p_ q_ prec rnd).2.1 (fr p_ q_ prec rnd).2.2.1 (fr p_ q_ prec rnd).2.2.2) :
  wpAny (model PR w) (ktrTop dp un gd cn cs L a ccd cl outer) (call (.ref 70) [.int p_ t1, .int q_ t2, .int prec t3, .str rnd t4]) Q E s := by
  revert X; walk_at "m open"
  have hq' : q_ ≠ 0 := by omega
  obtain ⟨d1, d2, d3, d4, d5, d6, d7, d8, d9, d10⟩ := dvOk_of' hp hq hps hqs h0 hp1
  have hsq := sgn_pos hq
  have hsp := sgn_01 p_
  walk_at "m go"
  all_goals walk_at "m ret4"
end
section
variable {w : World} {p : Program} {loose : List Str} {mean : ExcName → Option Value} {mg mb : Str → Option Value} {A₀ : Around} {base h₀ : Heap} {outer : List Env} {L : Addr} {m : Str → Option Value} {news : List (Addr × Obj)} {s : Shared} {dp un : Nat} {gd : Option (List Code)} {cn : Str} {cs : Scope} {a : Addr} {ccd : Value} {cl : List (Str × Addr)} {Q E : Value → Shared → Prop}
set_option maxHeartbeats 8000000 in
theorem c_fr0 {p_ q_ prec : Int} {rnd : Str} {t1 t2 t3 t4 : Tok}
   (B : Below A₀ base outer h₀) (F : Fr h₀ L s.heap m) (X : (hd.heap_39 w.params).In h₀) (N : News h₀ L s.heap news) (T : Top p loose mean mg mb h₀) (hk : cs.kind = .function) (hdp : dp + 10 < recursionLimit) (hun : un + 90 < cLine)
   (hp : p_ = 0) (hq : 0 < q_)
   (ret : Ret0 h₀ L m news s Q) :
  wpAny (model PR w) (ktrTop dp un gd cn cs L a ccd cl outer) (call (.ref 70) [.int p_ t1, .int q_ t2, .int prec t3, .str rnd t4]) Q E s := by
  revert X; walk_at "m open"
  have hq' : q_ ≠ 0 := by omega
  have d2 := odd0_pos' hq'
  have hsq := sgn_pos hq
  walk_at "m go"
  all_goals walk_at "m ret0"
end
-- H5
section
open PySem.NumText
/-- int(text, base), for a base of 2 to 36 -/
def intB? (base : Nat) (x : Str) : Option Int :=
  if (numSeenOf x).length == (numTextOf x).length then
    (digits? (based base (sign ((numSeenOf x).dropWhile blank)).2).1 (((based base (sign ((numSeenOf x).dropWhile blank)).2).2.2.reverse.dropWhile blank).reverse)).map fun ds =>
      let n : Nat := ds.foldl (fun acc d => acc * (based base (sign ((numSeenOf x).dropWhile blank)).2).1 + d) 0
      if (sign ((numSeenOf x).dropWhile blank)).1 then -(n : Int) else (n : Int)
  else none
theorem based_zero {base : Nat} (hb : base ≠ 0) (t : List Nat) : (based base t).2.1 = false := by
  unfold based
  have h0 : (base == 0) = false := by simpa using hb
  split
  · split <;> rfl
  · rw [h0]; rfl
theorem based_len (base : Nat) (t : List Nat) : (based base t).2.2.length ≤ t.length := by
  unfold based
  split
  · split
    · show (match t.drop 2 with | 95 :: r => r | r => r).length ≤ _
      have h : (t.drop 2).length ≤ t.length := by rw [List.length_drop]; omega
      revert h
      generalize t.drop 2 = u
      intro h
      split
      · simp only [List.length_cons] at h; omega
      · exact h
    · exact Nat.le_refl _
  · split <;> exact Nat.le_refl _
theorem judge_zero {n : Bool} {b : Nat} {ds : Array Nat} (h6 : ds.size ≤ 6000) : judge 0 n b false (some ds) =
    (int_private% "Numeral.value") (if n then -((ds.foldl (fun acc d => acc * b + d) 0 : Nat) : Int) else ((ds.foldl (fun acc d => acc * b + d) 0 : Nat) : Int)) := by
  unfold judge
  have e2 : (b == 10 && decide (ds.size > 6000)) = false := by
    rw [decide_eq_false (by omega), Bool.and_false]
  simp only [bne_self_eq_false, Bool.and_false, Bool.false_and, Bool.false_eq_true, if_false, e2]
theorem readB (x : Str) {base : Nat} (hb : base ≠ 0) (hlen : (numSeenOf x).length ≤ 640) :
    (∃ n, intB? base x = some n ∧ ((numSeenOf x).length == (numTextOf x).length) = true ∧ (int_private% "readNumeral") 0 base (numSeenOf x) = (int_private% "Numeral.value") n) ∨
    (intB? base x = none ∧ ((int_private% "readNumeral") 0 base (numSeenOf x) = int_private% "Numeral.invalid" ∨
      ∃ i, (int_private% "readNumeral") 0 base (numSeenOf x) = (int_private% "Numeral.value") i ∧ ¬ ((numSeenOf x).length == (numTextOf x).length) = true)) := by
  rw [readNumeral_eq, based_zero hb]
  unfold intB?
  have hl1 : ((numSeenOf x).dropWhile blank).length ≤ 640 := Nat.le_trans (len_dropWhile _ _) hlen
  have hl2 := sign_length ((numSeenOf x).dropWhile blank)
  have hl3 := based_len base (sign ((numSeenOf x).dropWhile blank)).2
  generalize sign ((numSeenOf x).dropWhile blank) = g at *
  generalize based base g.2 = b at *
  cases hd : digits? b.1 ((b.2.2.reverse.dropWhile blank).reverse) with
  | none =>
    refine Or.inr ⟨?_, Or.inl judge_none⟩
    split <;> rfl
  | some ds =>
    have h1 := digits_size hd
    have h2 : ((b.2.2.reverse.dropWhile blank).reverse).length ≤ b.2.2.length := by
      rw [List.length_reverse]
      refine Nat.le_trans (len_dropWhile _ _) ?_
      rw [List.length_reverse]; exact Nat.le_refl _
    have hj := judge_zero (n := g.1) (b := b.1) (ds := ds) (by omega)
    by_cases hall : ((numSeenOf x).length == (numTextOf x).length) = true
    · refine Or.inl ⟨_, ?_, hall, hj⟩
      rw [if_pos hall]
      rfl
    · refine Or.inr ⟨?_, Or.inr ⟨_, hj, hall⟩⟩
      rw [if_neg hall]
theorem wp_textB {M : Model} {A : Around} {E : Value → Shared → Prop} {s : Shared} {Q : Value → Shared → Prop} {v : Value} {text : List Nat} {n : Int} {base : Nat}
    (hs : (text.takeWhile (· != 0)).length ≤ 640) (hr : (int_private% "readNumeral") 0 base (text.takeWhile (· != 0)) = (int_private% "Numeral.value") n)
    (ha : ((text.takeWhile (· != 0)).length == text.length) = true) (h : Q (.int n s.toks) { s with toks := s.toks + 1 }) :
    wpAny M A ((int_private% "intFromText") v text base) Q E s := by
  obtain ⟨hp, g, d, tk, os⟩ := s
  repeat (any_goals (first
    | assumption
    | (with_reducible refine wpAny_ite_true (decide_eq_true hs) ?_)
    | (with_reducible refine wpAny_ite_true (decide_eq_true ha) ?_)
    | wp_step))
  all_goals (try rw [hr])
  all_goals (try dsimp only)
  repeat (any_goals (first
    | assumption
    | (with_reducible refine wpAny_ite_true (decide_eq_true hs) ?_)
    | (with_reducible refine wpAny_ite_true (decide_eq_true ha) ?_)
    | wp_step))
def baseOk (b : Nat) : Bool := 2 ≤ b && b ≤ 36
set_option maxHeartbeats 4000000 in
theorem gives_textB {x : PySem.Str} {u u' : Tok} {n : Int} {b : Nat} (hb : b = 2 ∨ b = 8 ∨ b = 10 ∨ b = 16) (hl : x.length ≤ 640) (hn : intB? b x = some n) : Gives (Builtin.«int.__new__» ⟨[.type "int", .str x u, .int b u'], []⟩) (.int n) :=
  .of_wp fun M A E s Q h => by
    obtain ⟨hp, g, d, tk, os⟩ := s
    have f1 := F.conv_sub_int
    have f2 := F.madeHere_int
    have f3 := KIN.str_int
    have f4 := KIN.str_idx
    have f5 := KIN.str_trunc
    have f6 : typeOf (.str x u) = pure (.type "str") := rfl
    have hs : (numSeenOf x).length ≤ 640 := Nat.le_trans (seen_length x) hl
    have hr : (int_private% "readNumeral") 0 b (numSeenOf x) = (int_private% "Numeral.value") n ∧ ((numSeenOf x).length == (numTextOf x).length) = true := by
      rcases readB x (base := b) (by omega) hs with ⟨m, h1, h2, h3⟩ | ⟨h1, _⟩
      · rw [hn] at h1
        injection h1 with h1
        subst h1
        exact ⟨h3, h2⟩
      · rw [hn] at h1
        cases h1
    have hk := KIN.Hid.mk (And.intro hs hr)
    clear hs hr hl hn
    have b1 : ¬ ((b : Int) = 0) := by omega
    have b2 : ¬ ((b : Int) < 2) := by omega
    have b3 : ¬ ((36 : Int) < (b : Int)) := by omega
    clear hb
    all_goals
      repeat (any_goals (first
        | assumption
        | ((with_reducible show wpAny _ _ ((int_private% "intFromText") _ _ _) _ _ _); refine wp_textB hk.out.1 hk.out.2.1 hk.out.2.2 ?_)
        | wp_step))
    all_goals first | exact ⟨_, rfl, h⟩ | skip
theorem typeCall_int_2 (a b : Value) : checkTypeCall "int" ⟨[a, b], []⟩ = pure () := by kernel_rfl
theorem newCall_int_2 (a b : Value) : checkBuiltinCall "int.__new__" ⟨[.type "int", a, b], []⟩ = pure () := by kernel_rfl
-- H6
open PySem.NumText
theorem call_textB {prog : Program} {w : World} {A : Around} {E : Value → Shared → Prop} {s : Shared} {Q : Value → Shared → Prop} {x : Str} {t u : Tok} {n : Int} {b : Nat} (hb : b = 2 ∨ b = 8 ∨ b = 10 ∨ b = 16)
    (hn : intB? b x = some n) (hl : x.length ≤ 640) (h : Q (.int n s.toks) { s with toks := s.toks + 1 }) : wpAny (model prog w) A (call (.type "int") [.str x t, .int b u]) Q E s :=
  callType_new F.called_int F.newNe_int (typeCall_int_2 _ _) (newCall_int_2 _ _) (fun obj => F.initArgs_range_2 obj _ _) F.entry_int_new (gives_textB hb hl hn).meets (show (Made.int n).post _ s from ⟨rfl, h⟩)
section
variable {prog : Program} {w : World} {A : Around} {R : Result → Shared → Prop} {s : Shared}
theorem codeC_builtin {id : String} {args : Args} {b : Builtin} (hb : entryFor table id = some b)
    (h : wpC (model prog w) (A.under (.builtin id args)) (b args)
      (fun fin s' => match fin with | .done f => R (.ok f) s' | .again c' => c'.quiet = true ∧ codeC (model prog w) A c' R s') (fun e s' => R (.error e) s') s) :
    codeC (model prog w) A (.builtin id args) R s := by
  refine codeC_of_tree ?_
  show wpC _ _ (match entryFor table id with | some b => b args | none => unsupported ((withoutEnding? id "#data").getD id)) _ _ s
  rw [hb]; exact h
theorem codeC_call_builtin {id : String} {args : Args} {b : Builtin} (hq : plainId id = true) (hb : entryFor table id = some b) (hc : checkBuiltinCall id args = pure ())
    (h : wpC (model prog w) A.in1 (b args)
      (fun fin s' => match fin with | .done f => R (.ok f) s' | .again c' => c'.quiet = true ∧ codeC (model prog w) A c' R s') (fun e s' => R (.error e) s') s) :
    codeC (model prog w) A (.call (.builtin id) args) R s := by
  refine codeC_of_tree ?_
  show wpC _ A.in1 (do checkBuiltinCall id args; again (.builtin id args)) _ _ s
  rw [hc]
  refine wpC_bindA (wpAny_pure (wpC_of (wpAny_pure (And.intro (plainId_quiet hq args) (codeC_builtin hb ?_)))))
  rw [Around.under_plainId hq args]; exact h
end
section
variable {α : Type} {M : Model} {A : Around} {E : Value → Shared → Prop} {s : Shared}
theorem wpC_ite_true {c : Prop} [Decidable c] {a b : Sem α} {Q : α → Shared → Prop} (hc : decide c = true) (h : wpC M A a Q E s) :
    wpC M A (if c then a else b) Q E s := by rw [if_pos (of_decide_eq_true hc)]; exact h
theorem wpC_ite_false {c : Prop} [Decidable c] {a b : Sem α} {Q : α → Shared → Prop} (hc : decide c = false) (h : wpC M A b Q E s) :
    wpC M A (if c then a else b) Q E s := by rw [if_neg (of_decide_eq_false hc)]; exact h
/-- under the claim's caller the mark of a refusal is none -/
theorem wpC_mark {own : List String} {e : Value} {Q : Unit → Shared → Prop} (h : Q () s) : wpC M A (markTheRefusal own e) Q E s := fun Γ p hΓ hc => by
  unfold markTheRefusal
  rw [Sem.wp_bind']
  show Sem.wp M Γ (.stack .pure) _ _ _ _
  rw [Sem.wp_stack]
  have hp : pythonCodeMadeTheCall own (((Γ.code, p) :: Γ.below).map (·.1)) = false := by
    have e : ∀ (X Y Z : Bool), X = true → ((!X && Y) && Z) = false := by decide
    have hc' : ((((Γ.code, p) :: Γ.below).map (·.1)).any Code.isCaller) = true := by
      rw [List.any_map]
      exact hc
    unfold pythonCodeMadeTheCall
    exact e _ _ _ hc'
  rw [Sem.wp_pure, hp]
  exact h
end
theorem wpC_unf {α : Type} {M : Model} {A : Around} {E : Value → Shared → Prop} {s : Shared} {Q : α → Shared → Prop} {t t' : Sem α}
    (_ : ∀ (M : Model) (A : Around) (Q : α → Shared → Prop) (E : Value → Shared → Prop) (s : Shared), wpAny M A t' Q E s → wpAny M A t Q E s) (he : t = t') (h : wpC M A t' Q E s) : wpC M A t Q E s := he ▸ h
local macro_rules | `(tactic| walk_at "c unf") => `(tactic| (refine wpC_unf (t' := ?c_t) ?c_d ?c_e ?c_h; (case c_d => (intro M A Q E s h; wp_delta; exact h)); (case c_e => rfl)))
local macro_rules | `(tactic| walk_at "c step") => `(tactic| (first
    | with_reducible assumption
    | with_reducible refine wpC_bindA ?_
    | with_reducible refine wpC_mark ?_
    | ((with_reducible apply wpC_ite_false); focus (rfl; done))
    | ((with_reducible apply wpC_ite_true); focus (rfl; done))
    | ((with_reducible apply wpC_ite_false); focus (simp [*]; done))
    | ((with_reducible apply wpC_ite_true); focus (simp [*]; done))
    | (with_reducible show wpC _ _ _ _ _ _); walk_at "c unf"
    | wp_step))
set_option maxHeartbeats 4000000 in
/-- a text that spells no number: the refusal -/
theorem wpC_textB {prog : Program} {w : World} {A : Around} {E : Value → Shared → Prop} {s : Shared} {Q : Value → Shared → Prop} {x : Str} {u : Tok} {base : Nat}
    (hh : A.handled = none) (hb : base = 2 ∨ base = 8 ∨ base = 10 ∨ base = 16) (hl : x.length ≤ 100) (hrl : (reprText x).length ≤ 2000) (hn : intB? base x = none)
    (h : ∀ h' tk e, Heap.NewExc s.heap h' e "ValueError" → E (.ref e) { s with heap := h', toks := tk }) :
    wpC (model prog w) A ((int_private% "intFromText") (.str x u) (numTextOf x) base) Q E s := by
  have hs : (numSeenOf x).length ≤ 640 := Nat.le_trans (seen_length x) (by omega)
  have hr := readB x (base := base) (by omega) hs
  rw [hn] at hr
  replace hr : (int_private% "readNumeral") 0 base (numSeenOf x) = int_private% "Numeral.invalid" ∨
      ∃ i, (int_private% "readNumeral") 0 base (numSeenOf x) = (int_private% "Numeral.value") i ∧ ¬ ((numSeenOf x).length == (numTextOf x).length) = true := by
    rcases hr with ⟨_, h, _⟩ | h
    · cases h
    · exact h.2
  obtain ⟨hp, g, d, tk, os⟩ := s
  have hrs : (reprText x).length ≤ sizeLine := by rw [sizeLine_eq]; omega
  have hm0 : (Str.ofString (toString "invalid literal for int() with base " ++ toString base ++ toString ": ")).length ≤ 100 := by
    rcases hb with rfl | rfl | rfl | rfl <;> decide +kernel
  have hm : ((Str.ofString (toString "invalid literal for int() with base " ++ toString base ++ toString ": ")) ++ ({ cps := (reprText x).cps.extract 0 200 } : Str)).length ≤ sizeLine := by
    rw [Str.length_append, sizeLine_eq]
    have : ({ cps := (reprText x).cps.extract 0 200 } : Str).length ≤ 200 := by
      show ((reprText x).cps.extract 0 200).size ≤ 200
      rw [Array.size_extract]; omega
    omega
  clear hm0 hb hl hrl
  rcases hr with hr | ⟨i, hr, ha⟩
  all_goals
    repeat (any_goals (first
      | (with_reducible refine wpC_ite_true (decide_eq_true hs) ?_)
      | (with_reducible refine wpC_ite_false (decide_eq_false ha) ?_)
      | ((with_reducible show wpAny _ _ (pyRepr _) _ _ _); refine wpAny_pyRepr_str ?_ hrs)
      | ((with_reducible show wpC _ _ (Bind.bind (markTheRefusal _ _) _) _ _ _); refine wpC_bind (wpC_mark ?_))
      | ((with_reducible show wpAny _ _ (mkStr _) _ _ _); refine wpAny_mkStr ?_ hm)
      | ((with_reducible show wpAny _ _ (newExc _ _) _ _ _); refine wpAny_newExc_plain plainExc_ValueError (fun h' e hx => ?_))
      | ((with_reducible show wpC _ _ (raiseNew _) _ _ _); refine wpC_of (wpAny_raiseNew_none hh ?_))
      | (with_reducible exact h _ _ _ (Heap.MadeExc.newExc (by assumption)))
      | walk_at "c step"
      | (rw [hr]; dsimp only)))
-- H7
open PySem.NumText
theorem wpC_ofeq {α : Type} {M : Model} {A : Around} {E : Value → Shared → Prop} {s : Shared} {t : Sem α} {a : α} {Q : α → Shared → Prop} (h : t = pure a) (hQ : Q a s) : wpC M A t Q E s := wpC_of (wpAny_of_eq h hQ)
local macro_rules | `(tactic| walk_at "c step2") => `(tactic| (first
    | with_reducible assumption
    | with_reducible refine wpC_bind ?_
    | (with_reducible refine wpC_holding ?_)
    | ((with_reducible apply wpC_ite_false); focus (rfl; done))
    | ((with_reducible apply wpC_ite_true); focus (rfl; done))
    | ((with_reducible apply wpC_ite_false); focus (simp [*]; done))
    | ((with_reducible apply wpC_ite_true); focus (simp [*]; done))
    | (with_reducible refine wpC_ofeq (by assumption) ?_)
    | (with_reducible show wpC _ _ _ _ _ _); walk_at "c unf"
    | (with_reducible refine wpC_of ?_)
    | wp_step))
set_option maxHeartbeats 4000000 in
theorem wpC_new2 {prog : Program} {w : World} {A : Around} {E : Value → Shared → Prop} {s : Shared} {Q : Fin → Shared → Prop} {x : Str} {u u' : Tok} {b : Nat}
    (hh : A.handled = none) (hb : b = 2 ∨ b = 8 ∨ b = 10 ∨ b = 16) (hl : x.length ≤ 100) (hrl : (reprText x).length ≤ 2000) (hn : intB? b x = none)
    (h : ∀ h' tk e, Heap.NewExc s.heap h' e "ValueError" → E (.ref e) { s with heap := h', toks := tk }) :
    wpC (model prog w) A (Builtin.«int.__new__» ⟨[.type "int", .str x u, .int b u'], []⟩) Q E s := by
  have f1 := F.conv_sub_int
  have f2 := F.madeHere_int
  have f6 : typeOf (.str x u) = pure (.type "str") := rfl
  have b1 : ¬ ((b : Int) = 0) := by omega
  have b2 : ¬ ((b : Int) < 2) := by omega
  have b3 : ¬ ((36 : Int) < (b : Int)) := by omega
  have hk := KIN.Hid.mk (And.intro hb (And.intro hl (And.intro hrl (And.intro hn hh))))
  clear hb hl hrl hn
  obtain ⟨hp, g, d, tk, os⟩ := s
  repeat (any_goals (first
      | ((with_reducible show wpC _ _ ((int_private% "intFromText") _ _ _) _ _ _); exact wpC_textB hk.out.2.2.2.2 hk.out.1 hk.out.2.1 hk.out.2.2.1 hk.out.2.2.2.1 h)
      | walk_at "c step2"))
set_option maxHeartbeats 4000000 in
theorem wpC_new1 {prog : Program} {w : World} {A : Around} {E : Value → Shared → Prop} {s : Shared} {Q : Fin → Shared → Prop} {x : Str} {u : Tok}
    (hh : A.handled = none) (hl : x.length ≤ 100) (hrl : (reprText x).length ≤ 2000) (hn : intB? 10 x = none)
    (h : ∀ h' tk e, Heap.NewExc s.heap h' e "ValueError" → E (.ref e) { s with heap := h', toks := tk }) :
    wpC (model prog w) A (Builtin.«int.__new__» ⟨[.type "int", .str x u], []⟩) Q E s := by
  have f1 := F.conv_sub_int
  have f2 := F.madeHere_int
  have f3 := KIN.str_int
  have f4 := KIN.str_idx
  have f5 := KIN.str_trunc
  have f6 : typeOf (.str x u) = pure (.type "str") := rfl
  have hk := KIN.Hid.mk (And.intro hl (And.intro hrl (And.intro hn hh)))
  clear hl hrl hn
  obtain ⟨hp, g, d, tk, os⟩ := s
  repeat (any_goals (first
      | ((with_reducible show wpC _ _ ((int_private% "intFromText") _ _ _) _ _ _); exact wpC_textB hk.out.2.2.2 (Or.inr (Or.inr (Or.inl rfl))) hk.out.1 hk.out.2.1 hk.out.2.2.1 h)
      | walk_at "c step2"))
-- H8
open PySem.NumText
set_option maxHeartbeats 4000000 in
theorem wpC_call_raise {prog : Program} {w : World} {A : Around} {E : Value → Shared → Prop} {s : Shared} {Q : Value → Shared → Prop} {args : List Value}
    (hct : checkTypeCall "int" ⟨args, []⟩ = pure ()) (hcn : checkBuiltinCall "int.__new__" ⟨.type "int" :: args, []⟩ = pure ())
    (h : ∀ (A' : Around) (Q' : Fin → Shared → Prop), A'.handled = A.handled → wpC (model prog w) A' (Builtin.«int.__new__» ⟨.type "int" :: args, []⟩) Q' E s) :
    wpC (model prog w) A (call (.type "int") args) Q E s := by
  obtain ⟨c, tl, hmro⟩ := F.called_int.mro
  have hmade := F.called_int.made
  have h1 := F.called_int.notType
  have h2 := F.called_int.canCreate
  refine wpC_call (codeC_of_tree ?_)
  show wpC _ _ (callAny (.type "int") _) _ _ _
  refine wpC_of (wpAny_pure ⟨Code.quiet_builtin _ (by decide +kernel), codeC_builtin F.entry_type_call ?_⟩)
  rw [Around.under_plain (weight_type_call_type "int" args []) (units_type_call_type "int" args [])]
  repeat (any_goals (first
      | ((with_reducible show wpC _ _ (call (Value.builtin _) _ _) _ _ _); refine wpC_call (codeC_call_builtin F.called_int.plain F.entry_int_new hcn (h _ _ rfl)))
      | walk_at "c step2"))
section
variable {prog : Program} {w : World} {A : Around} {E : Value → Shared → Prop} {s : Shared} {Q : Value → Shared → Prop} {x : Str} {u u' : Tok} {b : Nat}
theorem wpC_int2 (hh : A.handled = none) (hb : b = 2 ∨ b = 8 ∨ b = 10 ∨ b = 16) (hl : x.length ≤ 100) (hrl : (reprText x).length ≤ 2000) (hn : intB? b x = none)
    (h : ∀ h' tk e, Heap.NewExc s.heap h' e "ValueError" → E (.ref e) { s with heap := h', toks := tk }) :
    wpC (model prog w) A (call (.type "int") [.str x u, .int b u']) Q E s :=
  wpC_call_raise (typeCall_int_2 _ _) (newCall_int_2 _ _) fun _ _ e => wpC_new2 (e.trans hh) hb hl hrl hn h
theorem wpC_int1 (hh : A.handled = none) (hl : x.length ≤ 100) (hrl : (reprText x).length ≤ 2000) (hn : intB? 10 x = none)
    (h : ∀ h' tk e, Heap.NewExc s.heap h' e "ValueError" → E (.ref e) { s with heap := h', toks := tk }) :
    wpC (model prog w) A (call (.type "int") [.str x u]) Q E s :=
  wpC_call_raise (F.typeCall_int_1 _) (F.newCall_int_1 _) fun _ _ e => wpC_new1 (e.trans hh) hl hrl hn h
end
end
-- SR
open PySem.Builtin PySem.Builtin.Str
section
variable {prog : Program} {w : World} {A : Around} {E : Value → Shared → Prop} {s : Shared} {x y z : Str} {t u v : Tok} {Q : Value → Shared → Prop}
theorem post_vmT {s : Shared} {c : Prop} [Decidable c] {y z : Str} {t : Tok} {Q : Value → Shared → Prop} (hz : ¬ c → z.length ≤ sizeLine)
    (h : ∀ t' k, s.toks ≤ k → Q (.str (if c then y else z) t') { s with toks := k }) : (if c then Made.val (.str y t) else Made.str z).post Q s := by
  by_cases hc : c
  · rw [if_pos hc]; have h' := h t s.toks (Nat.le_refl _); rw [if_pos hc] at h'; exact h'
  · rw [if_neg hc]; have h' := h s.toks (s.toks + 1) (Nat.le_succ _); rw [if_neg hc] at h'; exact ⟨hz hc, h'⟩
theorem rstripT (hsz : x.length ≤ 16777216) (hq : ∀ t' k, (Txt.rstripChars x y).length ≤ x.length → s.toks ≤ k → Q (.str (Txt.rstripChars x y) t') { s with toks := k }) : wpAny (model prog w) A (call (.builtin "str.rstrip") [.str x t, .str y u]) Q E s :=
  call_gives F.slot_str_rstrip (typeIs_str _ _ _) F.entry_str_rstrip (F.args_str_rstrip_2 _ _) (gives_str_rstrip_chars x y t u) (post_vmT (fun _ => fits_stripped _ _ _ (by rw [sizeLine_eq]; exact hsz)) fun t' k hk => hq t' k (len_rstripChars x y) hk)
theorem stripT (hsz : x.length ≤ 16777216) (hq : ∀ t' k, (Txt.strip x).length ≤ x.length → s.toks ≤ k → Q (.str (Txt.strip x) t') { s with toks := k }) : wpAny (model prog w) A (call (.builtin "str.strip") [.str x t]) Q E s :=
  call_gives F.slot_str_strip (typeIs_str _ _ _) F.entry_str_strip (F.args_str_strip_1 _) (gives_str_strip x t) (post_vmT (fun _ => fits_stripped _ _ _ (by rw [sizeLine_eq]; exact hsz)) fun t' k hk => hq t' k (len_strip x) hk)
theorem replaceT (hu : u ≠ 0) (hv : v ≠ 0) (huv : u ≠ v) (hyz : (y == z) = false) (hx : x.length ≤ 1048576) (hz : z.length ≤ 14)
    (hq : ∀ t' k, Q (.str (Txt.replace x y z) t') { s with toks := k }) : wpAny (model prog w) A (call (.builtin "str.replace") [.str x t, .str y u, .str z v]) Q E s := SC.replaceW hu hv huv hyz hx hz hq
theorem len_strT (hx : x.length ≤ 16777216) (h : Q (.int x.length (s.toks + 1)) { s with toks := s.toks + 1 + 1 }) : wpAny (model prog w) A (call (.builtin "len") [.str x t]) Q E s :=
  P.len_str (by omega) h
theorem textI_1 {n : Int} (hn : intB? 10 x = some n) (hl : x.length ≤ 600) (h : Q (.int n s.toks) { s with toks := s.toks + 1 }) : wpAny (model prog w) A (call (.type "int") [.str x t]) Q E s := by
  refine KIN.call_text ?_ (by omega) h
  have hs : (numSeenOf x).length ≤ 640 := Nat.le_trans (seen_length x) (by omega)
  rcases readB x (base := 10) (by decide) hs with ⟨m, h1, h2, h3⟩ | ⟨h1, _⟩
  · rw [hn] at h1
    injection h1 with h1
    subst h1
    rcases read0 x hs with ⟨k, g1, g2, g3⟩ | ⟨g1, g2 | ⟨i, g2, g3⟩⟩
    · rw [h3] at g3
      injection g3 with g3
      rw [g1, g3]
    · rw [h3] at g2
      cases g2
    · exact absurd h2 g3
  · rw [hn] at h1
    cases h1
theorem textI_2 {n b : Int} (hb : b = 2 ∨ b = 8 ∨ b = 10 ∨ b = 16) (hn : intB? b.toNat x = some n) (hl : x.length ≤ 600) (h : Q (.int n s.toks) { s with toks := s.toks + 1 }) : wpAny (model prog w) A (call (.type "int") [.str x t, .int b u]) Q E s := by
  obtain ⟨k, rfl⟩ := Int.eq_ofNat_of_zero_le (show 0 ≤ b by omega)
  exact call_textB (by omega) hn (by omega) h
theorem kind_pow : builtinKind "pow" = none := by decide +kernel
theorem plain_pow : plainId "pow" = true := by decide +kernel
theorem args_pow2 (a b : Value) : argsOk "pow" ⟨[a, b], []⟩ := by unfold argsOk; kernel_rfl
theorem entry_powT : entryFor table "pow" = some Builtin.«pow» := entryFor_of_fast (by kernel_rfl)
theorem pow2_int {b : Int} (h0 : 0 ≤ b) (h1 : b ≤ 100000) (h : Q (.int (2 ^ b.toNat) s.toks) { s with toks := s.toks + 1 }) : wpAny (model prog w) A (binaryOp .Pow (.int 2 t) (.int b u)) Q E s := by
  by_cases hb : b = 0
  · subst hb
    exact AutoIntOps.pow_0 (by decide) (by decide) h
  · refine AutoIntOps.pow_4 h0 (by simpa using hb) (by decide) (by decide) ?_ h
    show ¬ Builtin.Int.intTooBig (((Builtin.Int.intBits 2 : Nat) : Int) * b) = true
    have e : Builtin.Int.intBits 2 = 2 := by decide
    rw [e]
    unfold Builtin.Int.intTooBig
    have : (200000 : Int) ≤ bitsLine := by decide +kernel
    simp only [decide_eq_true_eq]
    omega
theorem call_pow2 {b : Int} (h0 : 0 ≤ b) (h1 : b ≤ 100000) (h : Q (.int (2 ^ b.toNat) s.toks) { s with toks := s.toks + 1 }) : wpAny (model prog w) A (call (.builtin "pow") [.int 2 t, .int b u]) Q E s := by
  refine Calls.call_function_entry kind_pow plain_pow entry_powT (args_pow2 _ _) ?_
  show wpAny _ _ (Builtin.Builtins.bindParams "pow" ["base", "exp", "mod"] 2 ⟨[.int 2 t, .int b u], []⟩ >>= _) _ _ _
  refine wpAny_bind (wpAny_of_eq (a := [some (.int 2 t), some (.int b u), none]) (by kernel_rfl) ?_)
  show wpAny _ _ (do ret (← binaryOp .Pow (.int 2 t) (.int b u))) _ _ _
  exact wpAny_bind (pow2_int h0 h1 (wpAny_pure ⟨_, rfl, h⟩))
end
local macro_rules | `(tactic| walk_at "m szs") => `(tactic| first | omega | assumption)
local macro_rules | `(tactic| walk_at "m tok") => `(tactic| ((show @Ne Nat _ _); (try dsimp only at *); omega))
local macro_rules | `(tactic| walk_at "m meth") => `(tactic| first
  | ((with_reducible show wpAny _ _ (getMethod (Value.str _ _) (Str.ofString "lower") _) _ _ _); with_reducible refine GM.lower ?_)
  | ((with_reducible show wpAny _ _ (getMethod (Value.str _ _) (Str.ofString "upper") _) _ _ _); with_reducible refine GM.upper ?_)
  | ((with_reducible show wpAny _ _ (getMethod (Value.str _ _) (Str.ofString "strip") _) _ _ _); with_reducible refine GM.strip ?_)
  | ((with_reducible show wpAny _ _ (getMethod (Value.str _ _) (Str.ofString "rstrip") _) _ _ _); with_reducible refine GM.rstrip ?_)
  | ((with_reducible show wpAny _ _ (getMethod (Value.str _ _) (Str.ofString "replace") _) _ _ _); with_reducible refine GM.replace ?_)
  | ((with_reducible show wpAny _ _ (getMethod (Value.str _ _) (Str.ofString "split") _) _ _ _); with_reducible refine GM.split ?_)
  | ((with_reducible show wpAny _ _ (getMethod (Value.str _ _) (Str.ofString "find") _) _ _ _); with_reducible refine GM.find ?_)
  | ((with_reducible show wpAny _ _ (getMethod (Value.str _ _) (Str.ofString "startswith") _) _ _ _); with_reducible refine GM.startswith ?_)
  | ((with_reducible show wpAny _ _ (getMethod (Value.str _ _) (Str.ofString "index") _) _ _ _); with_reducible refine GM.index ?_))
theorem split_N {prog : Program} {w : World} {A : Around} {E : Value → Shared → Prop} {s : Shared} {h₀ : Heap} {L : Addr} {m : Str → Option Value} {news : List (Addr × Obj)} {x y : Str} {t u : Tok} {Q : Value → Shared → Prop}
    (hF : Fr h₀ L s.heap m) (hN : News h₀ L s.heap news) (hy : (y.length == 0) = false) (hsz : x.length ≤ 10000)
    (h : ∀ D vs h' k, StrsAre vs (Txt.split x y) → Fr h₀ L h' m → News h₀ L h' ((D, listOf vs.toArray 0) :: news) → (∀ p ∈ news, p.1 < D) → Q (.ref D) { s with heap := h', toks := k }) :
    wpAny (model prog w) A (call (.builtin "str.split") [.str x t, .str y u]) Q E s :=
  KSpl.split1 hF hN hy (fun D l h' k e a F N lt => h D (strValues l) h' k (e ▸ a) F N lt) (by rw [sizeLine_eq]; omega)
theorem news_list {h₀ h : Heap} {L D : Addr} {news : List (Addr × Obj)} {vs : List Value} {n : Nat} (N : News h₀ L h news) (hm : (D, listOf vs.toArray n) ∈ news) : h.IsList D vs.toArray := ⟨_, (N _ hm).1, rfl, n, rfl⟩
local macro_rules | `(tactic| walk_at "m ne0") => `(tactic| first | with_reducible assumption | decide)
local macro_rules | `(tactic| walk_at "m call") => `(tactic| first
  | ((with_reducible show wpAny _ _ (call (Value.builtin "str.lower") [Value.str _ _] _) _ _ _); (refine SCL.lower (by walk_at "m szs") ?_); intro hl9; clear hl9)
  | ((with_reducible show wpAny _ _ (call (Value.builtin "str.strip") [Value.str _ _] _) _ _ _); ((with_reducible refine' stripT ?y1 ?_); (case y1 => walk_at "m szs")); intro t9 k9 hl9 hk9; clear hl9)
  | ((with_reducible show wpAny _ _ (call (Value.builtin "str.rstrip") [Value.str _ _, Value.str _ _] _) _ _ _); ((with_reducible refine' rstripT ?y1 ?_); (case y1 => walk_at "m szs")); intro t9 k9 hl9 hk9; clear hl9)
  | ((with_reducible show wpAny _ _ (call (Value.builtin "str.replace") [Value.str _ _, Value.str _ _, Value.str _ _] _) _ _ _); ((with_reducible refine' replaceT ?y1 ?y2 ?y3 ?y4 ?y5 ?y6 ?_); (case y1 => walk_at "m tok"); (case y2 => walk_at "m tok"); (case y3 => walk_at "m tok"); (case y4 => decide); (case y5 => walk_at "m szs"); (case y6 => decide)); intro t9 k9)
  | ((with_reducible show wpAny _ _ (call (Value.builtin "str.find") [Value.str _ _, Value.str _ _] _) _ _ _); (refine SC.find ?_))
  | ((with_reducible show wpAny _ _ (call (Value.builtin "str.split") [Value.str _ _, Value.str _ _] _) _ _ _); (refine' split_N ?k1 ?k2 ?k3 ?k4 ?_; (case k1 => k_asm); (case k2 => k_asm); (case k3 => walk_at "m ne0"); (case k4 => walk_at "m szs")); intro D9 vs9 h9 k9 a9 F9 N9 l9; (try k_lt l9); (try k_sweep))
  | ((with_reducible show wpAny _ _ (call (Value.builtin "pow") [Value.int 2 _, Value.int _ _] _) _ _ _); ((with_reducible refine' call_pow2 ?y1 ?y2 ?_); (case y1 => first | decide | omega); (case y2 => first | decide | omega)))
  | ((with_reducible show wpAny _ _ (call (Value.builtin "len") [Value.str _ _] _) _ _ _); ((with_reducible refine' len_strT ?y1 ?_); (case y1 => walk_at "m szs")))
  | ((with_reducible show wpAny _ _ (call (Value.builtin "len") [Value.ref _] _) _ _ _); (refine' len_strsA ?k1 ?k2 ?k3 ?_; (case k1 => exact news_list (by k_asm) (by k_mem)); (case k2 => assumption); (case k3 => walk_at "m szs")))
  | ((with_reducible show wpAny _ _ (call (Value.type "int") [Value.str _ _] _) _ _ _); (refine' textI_1 ?k1 ?k2 ?_; (case k1 => walk_at "m pre"); (case k2 => walk_at "m szs")))
  | ((with_reducible show wpAny _ _ (call (Value.type "int") [Value.str _ _, Value.int _ _] _) _ _ _); (refine' textI_2 ?k0 ?k1 ?k2 ?_; (case k0 => first | assumption | omega); (case k1 => walk_at "m pre"); (case k2 => walk_at "m szs"))))
local macro_rules | `(tactic| walk_at "m sub") => `(tactic| ((with_reducible show wpAny _ _ (subscriptTail _ _ (Value.ref _) (Value.int _ _)) _ _ _); (refine' KTb.item_list ?k1 ?k2 ?k3 ?k4 ?k5 ?_; (case k1 => exact news_list (by k_asm) (by k_mem)); (case k2 => assumption); (case k3 => decide); (case k4 => walk_at "m szs"); (case k5 => decide)); intro t9 hi9))
local macro_rules | `(tactic| walk_at "m cmp") => `(tactic| ((with_reducible show wpAny _ _ (compareOp CmpOp.In (Value.int _ _) (Value.ref _)) _ _ _); (refine in_list_ints (news_list (by k_asm) (by k_mem)) (.cons _ _ (.cons _ _ .nil)) ?_)))
local macro_rules | `(tactic| walk_at "m bin") => `(tactic| first
  | ((with_reducible show wpAny _ _ (binaryOp Operator.Add (Value.str _ _) (Value.str _ _)) _ _ _); ((with_reducible refine' PyProof.Rows.add_str ?_ ?z); (case z => (rw [sizeLine_eq]; walk_at "m szs")); intro t9 k9)))
-- R1
section
def swAny (x : Str) : List Value → Bool
  | .str y _ :: r => Txt.startswith x y || swAny x r
  | _ => false
def allStr : List Value → Prop
  | [] => True
  | .str _ _ :: r => allStr r
  | _ => False
theorem sw_loop {M : Model} {A : Around} {E : Value → Shared → Prop} {s : Shared} {x : Str} {Q : Option PySem.Fin × Unit → Shared → Prop} {body : Value → Option PySem.Fin × Unit → Sem (ForInStep (Option PySem.Fin × Unit))}
   (hb : ∀ y t z, body (.str y t) z = if Txt.startswith x y = true then (do let q ← ret (Value.bool true); pure (ForInStep.done (some q, ()))) else pure (ForInStep.yield (none, ()))) :
   ∀ (vs : List Value), allStr vs → (if swAny x vs = true then Q (some (.done (.ret (.bool true))), ()) s else Q (none, ()) s) → wpAny M A (forIn vs (none, ()) body) Q E s
  | [], _, h => by rw [List.forIn_nil]; exact wpAny_pure h
  | .str y t :: r, ha, h => by
    rw [List.forIn_cons, hb]
    unfold swAny at h
    by_cases hy : Txt.startswith x y = true
    · rw [if_pos hy]
      rw [hy] at h
      exact wpAny_bind (wpAny_bind (wpAny_pure (wpAny_pure (wpAny_pure h))))
    · rw [if_neg hy]
      refine wpAny_bind (wpAny_pure ?_)
      rw [Bool.eq_false_iff.mpr hy, Bool.false_or] at h
      exact sw_loop hb r ha h
theorem meets_sw (x : Str) (vs : List Value) (t : Tok) (a : Addr) (hv : allStr vs) :
    Meets («str.startswith» ⟨[.str x t, .ref a], []⟩) (fun _ R s => IsTup s.heap a vs.toArray ∧ R (.ok (.ret (.bool (swAny x vs)))) s) := by
  refine .of_wp fun prog w A R s h => ?_
  obtain ⟨⟨o, ho, hc, n, hd⟩, h⟩ := h
  have f1 : s.TypeIs (.ref a) "tuple" := ⟨o, ho, hc⟩
  unfold «str.startswith» affixEntry
  repeat wp_step
  rw [hd]
  refine wpAny_pure ?_
  dsimp only
  refine wpAny_bind (wpAny_isInstance f1 isSubtype_tuple_tuple ?_)
  refine wpAny_bind (wpAny_rule ?_)
  unfold seqItems?
  refine wpAny_bind (wpAny_bind (wpAny_load ho ?_))
  rw [hd]
  refine wpAny_pure ?_
  dsimp only
  refine wpAny_bind ?_
  rw [List.forIn_toArray]
  refine sw_loop (x := x) (fun y u z => ?_) vs hv ?_
  · have e : Min.min (↑x.length : Int).toNat x.length = x.length := by rw [Int.toNat_natCast, Nat.min_self]
    rw [e]
    rfl
  · split
    · rename_i hs
      rw [hs] at h
      exact wpAny_pure ⟨_, rfl, h⟩
    · rename_i hs
      rw [Bool.eq_false_iff.mpr hs] at h
      exact wpAny_pure ⟨_, rfl, h⟩
section
variable {prog : Program} {w : World} {A : Around} {E : Value → Shared → Prop} {s : Shared} {x : Str} {t : Tok} {Q : Value → Shared → Prop}
theorem startswithT {a : Addr} {vs : List Value} (hv : allStr vs) (hT : IsTup s.heap a vs.toArray) (h : Q (.bool (swAny x vs)) s) :
   wpAny (model prog w) A (call (.builtin "str.startswith") [.str x t, .ref a]) Q E s :=
  call_meets F.slot_str_startswith (typeIs_str _ _ _) F.entry_str_startswith (F.args_str_startswith_2 _ _) (meets_sw x vs t a hv) ⟨hT, h⟩
end
end
-- R2
section
section
variable {prog : Program} {w : World} {A : Around} {E : Value → Shared → Prop}
theorem draw_list {it t : Addr} {items : Array Value} (hne : t ≠ it) : ∀ (n i : Nat) (s : Shared) (Q : List Value → Shared → Prop), s.heap.IsListIter it t i → s.heap.IsList t items → i + n ≤ items.size →
    (∀ h', h'.IsListIter it t (i + n) → Heap.SameBut it s.heap h' → Q ((items.toList.drop i).take n) { s with heap := h' }) → wpAny (model prog w) A (draw (.ref it) n) Q E s
  | 0, i, s, Q, hit, _, _, hQ => by
    show wpAny _ _ (pure []) Q E s
    exact wpAny_pure (by simpa using hQ s.heap hit (Heap.SameBut.refl ..))
  | n + 1, i, s, Q, hit, ht, hle, hQ => by
    have hlt : i < items.size := by omega
    show wpAny _ _ (pyNext (.ref it) >>= _) Q E s
    refine wpAny_bind (wpAny_pyNext_list_item hit ht (x := items[i]) (by simp [hlt]) fun h₁ hit₁ hs₁ => ?_)
    refine wpAny_bind (wpAny_holding (draw_list hne n (i + 1) _ _ hit₁ (ht.extBut hs₁.extBut hne) (by omega) fun h₂ hit₂ hs₂ => wpAny_pure ?_))
    have hd : items.toList.drop i = items[i] :: items.toList.drop (i + 1) := by simp [List.drop_eq_getElem_cons, hlt]
    have := hQ h₂ (by rw [show i + (n + 1) = i + 1 + n by omega]; exact hit₂) (hs₁.trans hs₂)
    rw [hd, List.take_succ_cons] at this
    exact this
variable {s : Shared}
theorem unpackItems_list {t : Addr} {items : Array Value} {Q : List Value → Shared → Prop} (hh : A.handled = none) (ht : s.heap.IsList t items)
    (hQ : ∀ h', Heap.ExtBut s.heap.objs.size s.heap h' → Q items.toList { s with heap := h' }) : wpAny (model prog w) A (unpackItems (.ref t) items.size none) Q E s := by
  have hlt : t ≠ s.heap.objs.size := by obtain ⟨o, ho, _⟩ := ht; exact Nat.ne_of_lt (Heap.lt_size ho)
  unfold unpackItems
  refine wpAny_bind ?_
  · unfold notIterableAtAll
    refine wpAny_bind (wpAny_specialOf ht.typeIs slot_list_iter.lookup ?_)
    refine wpAny_pure ?_
    simp only [Bool.false_eq_true, if_false]
    refine wpAny_bind (wpAny_holding (wpAny_pyIter_list ht ?_))
    refine wpAny_bind (wpAny_holding (draw_list hlt items.size 0 _ _ ⟨_, Heap.get?_push_size _ rfl, rfl, rfl⟩ (ht.push _) (by omega) fun h₁ hit₁ hs₁ => ?_))
    have hall : List.take items.size (List.drop 0 items.toList) = items.toList := by
      rw [List.drop_zero]; exact List.take_of_length_le (by simp)
    rw [hall]
    rw [if_neg (by simp)]
    have ht₁ : h₁.IsList t items := (ht.push _).extBut hs₁.extBut hlt
    refine wpAny_bind (wpAny_holding (wpAny_pyNext_list_end hh hit₁ ht₁ (by simp) fun h₂ he₂ => ?_))
    simp only [Option.isSome_none, Bool.false_eq_true, if_false]
    refine wpAny_pure (hQ h₂ fun b o hb e => he₂ b o hb (hs₁.extBut b o hb (Heap.get?_push_of_some _ e)))
/-- more items than targets: the refusal -/
theorem unpackItems_many {t : Addr} {items : Array Value} {n : Nat} {Q : List Value → Shared → Prop} (hh : A.handled = none) (ht : s.heap.IsList t items) (hn : n < items.size) (hn2 : n ≤ 10)
    (hE : ∀ h₁ h' tk e, Heap.ExtBut s.heap.objs.size s.heap h₁ → Heap.NewExc h₁ h' e "ValueError" → E (.ref e) { s with heap := h', toks := tk }) : wpAny (model prog w) A (unpackItems (.ref t) n none) Q E s := by
  have hlt : t ≠ s.heap.objs.size := by obtain ⟨o, ho, _⟩ := ht; exact Nat.ne_of_lt (Heap.lt_size ho)
  unfold unpackItems
  refine wpAny_bind ?_
  · unfold notIterableAtAll
    refine wpAny_bind (wpAny_specialOf ht.typeIs slot_list_iter.lookup ?_)
    refine wpAny_pure ?_
    simp only [Bool.false_eq_true, if_false]
    refine wpAny_bind (wpAny_holding (wpAny_pyIter_list ht ?_))
    refine wpAny_bind (wpAny_holding (draw_list hlt n 0 _ _ ⟨_, Heap.get?_push_size _ rfl, rfl, rfl⟩ (ht.push _) (by omega) fun h₁ hit₁ hs₁ => ?_))
    have hl : (List.take n (List.drop 0 items.toList)).length = n := by simp; omega
    rw [if_neg (by omega)]
    have ht₁ : h₁.IsList t items := (ht.push _).extBut hs₁.extBut hlt
    refine wpAny_bind (wpAny_holding (wpAny_pyNext_list_item (x := items[n]) hit₁ ht₁ (by simp [hn]) fun h₂ hit₂ hs₂ => ?_))
    simp only [Option.isSome_some, if_true]
    refine wpAny_bind (wpAny_rule ?_)
    refine wpAny_bind (wpAny_raiseErrorMade plainExc_ValueError hh (fun h' tk e hx => ?_) ?_)
    · exact hE h₂ h' tk e (fun b o hb e' => hs₂.extBut b o hb (hs₁.extBut b o hb (Heap.get?_push_of_some _ e'))) hx
    · have : ∀ k ≤ 10, ((toString "too many values to unpack (expected " ++ toString k ++ toString ")" : String) : Str).length ≤ sizeLine := by decide +kernel
      exact this n hn2
theorem unpack_listN {env : Env} {elts : List PySem.Expr} {k} {pos : Pos} {t : Addr} {items : Array Value} {h₀ : Heap} {L : Addr} {m : Str → Option Value} {news : List (Addr × Obj)} {Q : Unit → Shared → Prop} (F : Fr h₀ L s.heap m) (N : News h₀ L s.heap news) (ht : s.heap.IsList t items)
    (hh : A.handled = none) (hn : (assignEach elts env).length = items.size) (hstar : (assignEach elts env).findIdx? (·.1) = none)
    (h : ∀ h', Fr h₀ L h' m → News h₀ L h' news → wpAny (model prog w) A (assignInOrder ((assignEach elts env).map (·.2)) items.toList) Q E { s with heap := h' }) :
    wpAny (model prog w) A (assign (.Tuple elts k pos) env (.ref t)) Q E s := by
  rw [assign_Tuple]
  refine wpAny_bind (wpAny_standAt ?_)
  unfold unpack
  rw [hn, hstar]
  exact wpAny_bind (wpAny_holding (unpackItems_list hh ht fun h' he => h h' (F.extBut he (Nat.le_refl _)) (N.extBut he (Nat.le_refl _))))
theorem unpack_manyN {env : Env} {elts : List PySem.Expr} {k} {pos : Pos} {t : Addr} {items : Array Value} {h₀ : Heap} {L : Addr} {m : Str → Option Value} {news : List (Addr × Obj)} {Q : Unit → Shared → Prop} (F : Fr h₀ L s.heap m) (N : News h₀ L s.heap news) (ht : s.heap.IsList t items)
    (hh : A.handled = none) (hn : (assignEach elts env).length < items.size) (hn2 : (assignEach elts env).length ≤ 10) (hstar : (assignEach elts env).findIdx? (·.1) = none)
    (h : ∀ h₁ h' tk e, Fr h₀ L h₁ m → News h₀ L h₁ news → Heap.NewExc h₁ h' e "ValueError" → E (.ref e) { s with heap := h', toks := tk }) :
    wpAny (model prog w) A (assign (.Tuple elts k pos) env (.ref t)) Q E s := by
  rw [assign_Tuple]
  refine wpAny_bind (wpAny_standAt ?_)
  unfold unpack
  rw [hstar]
  exact wpAny_bind (wpAny_holding (unpackItems_many hh ht hn hn2 fun h₁ h' tk e he hx => h h₁ h' tk e (F.extBut he (Nat.le_refl _)) (N.extBut he (Nat.le_refl _)) hx))
end
/-- the words that from_str knows -/
def spVal (x : Str) : Option Addr :=
  if x = Str.ofString "inf" then some 26 else if x = Str.ofString "+inf" then some 26 else if x = Str.ofString "-inf" then some 27 else if x = Str.ofString "nan" then some 25
  else if x = Str.ofString "oo" then some 26 else if x = Str.ofString "+oo" then some 26 else if x = Str.ofString "-oo" then some 27 else none
theorem sp_find {K : Frag} {es : Array DictEntry} {n : Nat} {x : Str} (hl : K.lookup 119 = some ⟨.type "dict", none, .dict es n, #[]⟩)
   (hf : es.toList.find? (fun e => e.key.isStr x) = none) (hr : es.toList.any (fun e => e.refKey) = false) : nsIn K 119 x = some none := by
  unfold nsIn
  rw [hl]
  dsimp only
  rw [hf, hr]
  rfl
section
variable {w : World} {A : Around} {E : Value → Shared → Prop} {s : Shared} {h₀ : Heap} {L : Addr} {m : Str → Option Value} {Q : Value → Shared → Prop}
theorem sp_in {x : Str} {t : Tok} (F : Fr h₀ L s.heap m) (X : (hd.heap_39 w.params).In h₀) (h : Q (.bool (spVal x).isSome) { s with toks := s.toks + 1 }) :
   wpAny (model Challenge.rw_ah5009_01.row.prog w) A (compareOp .In (.str x t) (.ref 119)) Q E s := by
  revert X; k_fill; intro X
  unfold spVal at h
  by_cases h1 : x = Str.ofString "inf"
  · subst h1; refine topIn_K F X (by k_is) (by k_keys) (by k_is) (by decide) h
  by_cases h2 : x = Str.ofString "+inf"
  · subst h2; refine topIn_K F X (by k_is) (by k_keys) (by k_is) (by decide) h
  by_cases h3 : x = Str.ofString "-inf"
  · subst h3; refine topIn_K F X (by k_is) (by k_keys) (by k_is) (by decide) h
  by_cases h4 : x = Str.ofString "nan"
  · subst h4; refine topIn_K F X (by k_is) (by k_keys) (by k_is) (by decide) h
  by_cases h5 : x = Str.ofString "oo"
  · subst h5; refine topIn_K F X (by k_is) (by k_keys) (by k_is) (by decide) h
  by_cases h6 : x = Str.ofString "+oo"
  · subst h6; refine topIn_K F X (by k_is) (by k_keys) (by k_is) (by decide) h
  by_cases h7 : x = Str.ofString "-oo"
  · subst h7; refine topIn_K F X (by k_is) (by k_keys) (by k_is) (by decide) h
  refine topIn_K F X (by k_is) (by k_keys) (sp_find (by k_is) ?_ (by rfl)) (by decide) ?_
  · have e : ∀ (y : Str) (t : Tok), x ≠ y → (Value.str y t).isStr x = false := fun y t hn => by
      show (y == x) = false
      simpa using fun q : y = x => hn q.symm
    have g1 := e _ 0 h1
    have g2 := e _ 0 h2
    have g3 := e _ 0 h3
    have g4 := e _ 0 h4
    have g5 := e _ 0 h5
    have g6 := e _ 0 h6
    have g7 := e _ 0 h7
    rw [List.find?_eq_none]
    intro d hd
    simp only [List.mem_cons, List.not_mem_nil, or_false] at hd
    rw [Bool.not_eq_true]
    rcases hd with rfl | rfl | rfl | rfl | rfl | rfl | rfl
    · exact g1
    · exact g2
    · exact g3
    · exact g4
    · exact g5
    · exact g6
    · exact g7
  · simpa [h1, h2, h3, h4, h5, h6, h7] using h
theorem sp_item {value slice : PySem.Expr} {x : Str} {a : Addr} {t : Tok} (F : Fr h₀ L s.heap m) (X : (hd.heap_39 w.params).In h₀) (hx : spVal x = some a)
   (h : Q (.ref a) { s with toks := s.toks + 1 })
   (hs : subscripted slice false (.ref 119) (.str x t) = operate [.ref 119, .str x t] (getItem (.ref 119) (.str x t)) := by with_unfolding_all rfl) :
   wpAny (model Challenge.rw_ah5009_01.row.prog w) A (subscriptTail value slice (.ref 119) (.str x t)) Q E s := by
  revert X; k_fill; intro X
  unfold spVal at hx
  by_cases h1 : x = Str.ofString "inf"
  · subst h1; cases hx; exact topItem_K F X (by k_is) (by k_keys) (by k_is) h hs
  by_cases h2 : x = Str.ofString "+inf"
  · subst h2; cases hx; exact topItem_K F X (by k_is) (by k_keys) (by k_is) h hs
  by_cases h3 : x = Str.ofString "-inf"
  · subst h3; cases hx; exact topItem_K F X (by k_is) (by k_keys) (by k_is) h hs
  by_cases h4 : x = Str.ofString "nan"
  · subst h4; cases hx; exact topItem_K F X (by k_is) (by k_keys) (by k_is) h hs
  by_cases h5 : x = Str.ofString "oo"
  · subst h5; cases hx; exact topItem_K F X (by k_is) (by k_keys) (by k_is) h hs
  by_cases h6 : x = Str.ofString "+oo"
  · subst h6; cases hx; exact topItem_K F X (by k_is) (by k_keys) (by k_is) h hs
  by_cases h7 : x = Str.ofString "-oo"
  · subst h7; cases hx; exact topItem_K F X (by k_is) (by k_keys) (by k_is) h hs
  simp [h1, h2, h3, h4, h5, h6, h7] at hx
/-- the three words' tuples -/
def spTup (a : Addr) : Int × Int × Int × Int := if a = 26 then (0, 0, -456, -2) else if a = 27 then (1, 0, -789, -3) else (0, 0, -123, -1)
theorem sp_tup {w : World} {x : Str} {a : Addr} {h : Heap} (X : (hd.heap_39 w.params).In h) (hx : spVal x = some a) :
    Challenge.rw_ah5009_01.row.prog = PR → ∃ t1 t2 t3 t4, IsTup h a #[.int (spTup a).1 t1, .int (spTup a).2.1 t2, .int (spTup a).2.2.1 t3, .int (spTup a).2.2.2 t4] := by
  revert X; k_fill; intro X _
  have ha : a = 26 ∨ a = 27 ∨ a = 25 := by
    revert hx
    unfold spVal
    repeat' split
    all_goals (intro hx; first | (cases hx; decide) | cases hx)
  rcases ha with rfl | rfl | rfl
  all_goals exact ⟨_, _, _, _, tupK X (by k_is)⟩
theorem zero_tup {w : World} {h : Heap} (X : (hd.heap_39 w.params).In h) :
    Challenge.rw_ah5009_01.row.prog = PR → ∃ t1 t2 t3 t4, IsTup h 22 #[.int 0 t1, .int 0 t2, .int 0 t3, .int 0 t4] := by
  revert X; k_fill; intro X _
  exact ⟨_, _, _, _, tupK X (by k_is)⟩
end
end
-- E1
/-- a note for the walk: the statement of this row is the one that raises under the claim's caller -/
def FailAt (_row : Nat) : Prop := True
section
variable {prog : Program} {w : World} {M : Model} {A : Around} {E : Value → Shared → Prop} {s : Shared} {env : Env} {Q : Flow → Shared → Prop} {rest : List Stmt}
theorem cut_atC {test : PySem.Expr} {body orelse : List Stmt} {pos : Pos} {g : Heap} {L : Addr} {m₀ : Str → Option Value} {news : List (Addr × Obj)} {k : Nat} {P : Prop} {ns : List (Str × (Tok → Value))}
   (_hl : pos.line = k) (_hC : CutAt k P ns) (_F : Fr g L s.heap m₀) (_N : News g L s.heap news)
   (h1 : wpAny M A (exec (.If test body orelse pos) env) (Cut g L news s P ns) E s)
   (h2 : P → ∀ m h tk, News g L h news → JElim g L h (wpC M A (execs rest env) Q E { s with heap := h, toks := tk }) ns m) :
   wpC M A (execs (.If test body orelse pos :: rest) env) Q E s := by
  refine wpC_execs_consA (wpAny_mono h1 (fun fl s' hc => ?_) fun _ _ y => y)
  obtain ⟨rfl, hP, m, h, tk, rfl, F, N⟩ := hc
  exact jelim (h2 hP m h tk N) F
theorem fail_If {test : PySem.Expr} {body orelse : List Stmt} {pos : Pos} {k : Nat} (_hl : pos.line = k) (_hC : FailAt k)
   (h : wpC M A (exec (.If test body orelse pos) env) (fun f s' => match f with | .next => wpC M A (execs rest env) Q E s' | f => Q f s') E s) : wpC M A (execs (.If test body orelse pos :: rest) env) Q E s := wpC_execs_cons h
theorem fail_Assign {ts : List PySem.Expr} {v : PySem.Expr} {pos : Pos} {k : Nat} (_hl : pos.line = k) (_hC : FailAt k)
   (h : wpC M A (exec (.Assign ts v pos) env) (fun f s' => match f with | .next => wpC M A (execs rest env) Q E s' | f => Q f s') E s) : wpC M A (execs (.Assign ts v pos :: rest) env) Q E s := wpC_execs_cons h
end
local macro_rules | `(tactic| walk_at "m cutC") => `(tactic| ((with_reducible show wpC _ _ (execs (Stmt.If _ _ _ _ :: _) _) _ _ _); with_reducible refine' cut_atC rfl ?hC ?F ?N ?_ ?_; (case hC => with_reducible assumption); (case F => k_asm); (case N => k_asm); rotate_left; (intro hP' m' h' tk' N'; (try dsimp only [JElim]); intros; k_sweep)))
local macro_rules | `(tactic| walk_at "m callC") => `(tactic| fail "m callC: no rule")
local macro_rules | `(tactic| walk_at "m fail") => `(tactic| fail "m fail: no rule")
local macro_rules | `(tactic| walk_at "m") => `(tactic| first
  | ((with_reducible show wpC _ _ (execs (_ :: _) _) _ _ _); (try dsimp only); (try k_gentoks); first
    | walk_at "m cutC"
    | ((with_reducible show wpC _ _ (execs (Stmt.If _ _ _ _ :: _) _) _ _ _); (with_reducible refine' fail_If rfl ?hC ?_; (case hC => with_reducible assumption)))
    | ((with_reducible show wpC _ _ (execs (Stmt.Assign _ _ _ :: _) _) _ _ _); (with_reducible refine' fail_Assign rfl ?hC ?_; (case hC => with_reducible assumption)))
    | (with_reducible refine wpC_execs_consA ?_))
  | ((with_reducible show wpC _ _ (exec (Stmt.If _ _ _ _) _) _ _ _); refine wpC_If ?_)
  | ((with_reducible show wpC _ _ (exec (Stmt.Assign [Expr.Name _ _] _ _) _) _ _ _); refine wpC_Assign_Name ?_)
  | ((with_reducible show wpC _ _ (exec (Stmt.Assign [Expr.Tuple _ _ _] _ _) _) _ _ _); refine wpC_Assign_Tuple ?_)
  | ((with_reducible show wpC _ _ (eval (Expr.Call _ _ _ _) _) _ _ _); refine wpC_Call ?_)
  | ((with_reducible show wpC _ _ (callWith _ (Value.ref _) _ _ _) _ _ _); (refine' wpC_callWith_K ?k1 ?k2 ?_; (case k1 => k_in); (case k2 => k_is)))
  | ((with_reducible show wpC _ _ (callWith _ (Value.type _) _ _ _) _ _ _); (with_unfolding_all refine wpC_callWith_type ?_))
  | ((with_reducible show wpC _ _ (call _ _ _) _ _ _); walk_at "m callC")
  | ((with_reducible show wpAny _ _ (leaving _ _) _ _ _); walk_at "m fail"))
/-- the refusal that a call hands on to its caller -/
abbrev ErrN (base h₀ : Heap) (L : Addr) (m : Str → Option Value) (envs : List Env) (news : List (Addr × Obj)) (s : Shared) (E : Value → Shared → Prop) : Prop :=
  ∀ (g : Heap) (e : Addr) (h' : Heap) (tk' : Nat), Fr h₀ L g m → RaisedSN base g envs e (.type "ValueError") news h' → g.UpToSlots h' → E (.ref e) { s with heap := h', toks := tk' }
theorem errN_end {base h₀ g h' : Heap} {L e : Addr} {m : Str → Option Value} {envs : List Env} {news news' : List (Addr × Obj)} {s : Shared} {E : Value → Shared → Prop} {tk' : Nat}
   (R : ErrN base h₀ L m envs news s E) (F : Fr h₀ L g m) (r : RaisedSN base g envs e (.type "ValueError") news' h') (U : g.UpToSlots h') (hN : ∀ p ∈ news, p ∈ news') : E (.ref e) { s with heap := h', toks := tk' } := by
  refine R g e h' tk' F ?_ U
  obtain ⟨B, a0, hB, hBG, hl, hfl⟩ := r
  exact ⟨B, a0, hB, hBG, fun q hq => hl q (hN q hq), hfl⟩
local macro_rules | `(tactic| walk_at "m fail") => `(tactic| first
  | ((refine' leave_newS ?K ?hx ?F ?N ?_ ?hk; (case K => with_reducible assumption); (case hx => with_reducible assumption); (case F => with_reducible assumption); (case N => with_reducible assumption); (case hk => exact rfl)); intro h9 R9 R8 U9; clear R8)
  | ((refine' leave_onSN ?K ?F ?R ?U ?_; (case K => with_reducible assumption); (case F => with_reducible assumption); (case R => first | with_reducible assumption | assumption); (case U => with_reducible assumption)); intro h9 R9 R8 U9; clear R8))
local macro_rules | `(tactic| walk_at "m err") => `(tactic| (refine' errN_end ?R ?F ?r ?U ?hN; (case R => assumption); (case F => assumption); (case r => assumption); (case U => assumption); (case hN => walk_at "m sub all")))
local macro_rules | `(tactic| walk_at "m reprs") => `(tactic| with_reducible assumption)
local macro_rules | `(tactic| walk_at "m none") => `(tactic| with_reducible assumption)
local macro_rules | `(tactic| walk_at "m callC") => `(tactic| first
  | ((with_reducible show wpC _ _ (call (Value.type "int") [Value.str _ _] _) _ _ _); (refine' wpC_int1 rfl ?k1 ?k2 ?k3 ?_; (case k1 => walk_at "m szs"); (case k2 => walk_at "m reprs"); (case k3 => walk_at "m none")); intro h9 tk9 e9 hx9)
  | ((with_reducible show wpC _ _ (call (Value.type "int") [Value.str _ _, Value.int _ _] _) _ _ _); (refine' wpC_int2 rfl ?k0 ?k1 ?k2 ?k3 ?_; (case k1 => walk_at "m szs"); (case k2 => walk_at "m reprs"); (case k3 => walk_at "m none"); (case k0 => walk_at "m base"));  intro h9 tk9 e9 hx9))
local macro_rules | `(tactic| walk_at "m base") => `(tactic| first | assumption | omega)
local macro_rules | `(tactic| walk_at "m enterC") => `(tactic| k_dflt (refine' codeC_def ?k1 ?k2 ?k3 ?k4 ?k5 ?kA ?kF ?kK ?k6 ?k7 ?k8 ?k9 ?kB ?_ ?c2 ?c3 ?c4 ?c5; (case kA => exact rfl); (case kF => exact rfl); (case kK => assumption); (case k1 => k_asm); (case k2 => k_asm); (case k3 => k_asm); (case k4 => k_asm); (case k5 => k_asm); (case k6 => k_is); (case k7 => k_is); (case k8 => walk_at "m room"); (case k9 => first | exact BindsTo.of_eq rfl | exact binds_K (by k_in) rfl (by k_is) rfl rfl rfl); (case c5 => decide); (case kB => exact locs rfl); (case c2 => exact rfl); (case c3 => exact rfl); (case c4 => exact rfl); k_whole; intro g' L' h' FG' F' N' B' X' T'; (try dsimp only); (try k_fold)))
local macro_rules | `(tactic| walk_at "m openC") => `(tactic| (rw [show PR = Challenge.rw_ah5009_01.row.prog from rfl]; k_fill; intro X; refine wpC_call ?_; walk_at "m enterC"))
-- M0
local macro_rules | `(tactic| walk_at "m") => `(tactic| first
  | ((with_reducible show wpAny _ _ (getMethod (Value.str _ _) _ _) _ _ _); walk_at "m meth")
  | ((with_reducible show wpAny _ _ (newList _) _ _ _); (refine' newList_K ?k1 ?k2 ?_; (case k1 => k_asm); (case k2 => k_asm)); intro l9 h9 F9 N9 l8; (try k_lt l8); (try k_sweep)))
local macro_rules | `(tactic| walk_at "m cmp") => `(tactic| ((with_reducible show wpAny _ _ (compareOp CmpOp.NotEq (Value.str _ _) (Value.str _ _)) _ _ _); with_reducible refine PyProof.Rows.ne_str ?_))
local macro_rules | `(tactic| walk_at "m bin") => `(tactic| ((with_reducible show wpAny _ _ (binaryOp Operator.Mult (Value.int _ _) (Value.int _ _)) _ _ _); (refine AutoIntOps.mul_0 ?_ (IntMulOk.of_right (by first | with_reducible assumption | decide)); (try dsimp only [Made.post]))))
theorem and_lt1 {P : Prop} {d : Addr} {r : List (Addr × Obj)} (h : P ∧ AllLt d r) : AllLt d r := h.2
theorem and_lt2 {P Q : Prop} {d : Addr} {r : List (Addr × Obj)} (h : P ∧ Q ∧ AllLt d r) : AllLt d r := h.2.2
theorem and_lt3 {P Q R : Prop} {d : Addr} {r : List (Addr × Obj)} (h : P ∧ Q ∧ R ∧ AllLt d r) : AllLt d r := h.2.2.2
local macro_rules | `(tactic| walk_at "m lt all") => `(tactic| first | with_reducible assumption | exact allLt_of (by with_reducible assumption) | exact and_lt1 (by with_reducible assumption) | exact and_lt2 (by with_reducible assumption) | exact and_lt3 (by with_reducible assumption))
local macro_rules | `(tactic| walk_at "m ite") => `(tactic| (k_closed; first | refine ite_pos (by decide) ?_ | refine ite_neg (by decide) ?_))
-- S1
section
abbrev smY (x : Str) : Str := Txt.replace (Txt.rstripChars (Txt.lower x) (Str.ofString "l")) (Str.ofString "_") (Str.ofString "")
abbrev smSep (b : Int) (y : Str) : Str := if (b = 2 ∨ b = 16) ∧ Txt.find y (Str.ofString "p") ≥ 0 then Str.ofString "p" else if b ≤ 10 then Str.ofString "e" else Str.ofString "@"
abbrev smP (b : Int) (x : Str) : List Str := Txt.split (smY x) (smSep b (smY x))
abbrev smX (b : Int) (x : Str) : Str := if (smP b x).length = 1 then smY x else (smP b x).getD 0 Str.empty
abbrev smE (b : Int) (x : Str) (e : Int) : Int := if (smP b x).length = 1 then 0 else e
abbrev smD (b : Int) (x : Str) : List Str := Txt.split (smX b x) (Str.ofString ".")
abbrev smC (b : Int) (x : Str) : Str := Txt.rstripChars ((smD b x).getD 1 Str.empty) (Str.ofString "0")
abbrev smA (b : Int) (x : Str) : Str := if (smD b x).getD 0 Str.empty = Str.ofString "" then Str.ofString "0" else (smD b x).getD 0 Str.empty
abbrev smZ (b : Int) (x : Str) : Str := if (smD b x).length = 2 then smA b x ++ smC b x else smX b x
abbrev smExp (b : Int) (x : Str) (e : Int) : Int :=
  if (smD b x).length = 2 then smE b x e - (smC b x).length * (if smSep b (smY x) = Str.ofString "p" then (Builtin.Int.intBits b : Int) - 1 else 1) else smE b x e
abbrev T2 (i1 i2 : Int) (t1 t2 : Tok) (c : Nat) : Obj := { cls := .type "tuple", data := .seq #[.int i1 t1, .int i2 t2] c }
abbrev Ret2 (h₀ : Heap) (L : Addr) (m : Str → Option Value) (news : List (Addr × Obj)) (s : Shared) (Q : Value → Shared → Prop) (i1 i2 : Int) : Prop :=
  ∀ (D : Addr) (t1 t2 : Tok) (c : Nat) (h' : Heap) (tk' : Nat), Fr h₀ L h' m → News h₀ L h' ((D, T2 i1 i2 t1 t2 c) :: news) → AllLt D news → Q (.ref D) { s with heap := h', toks := tk' }
theorem getD_short {x y : Str} (i : Nat) : ((Txt.split x y).getD i Str.empty).length ≤ x.length := by
  rw [List.getD_eq_getElem?_getD]
  cases h : (Txt.split x y)[i]? with
  | none => exact Nat.zero_le _
  | some a => exact part_short (List.mem_of_getElem? h)
structure SmH (b : Int) (x : Str) (e man : Int) : Prop where
  hx : x.length ≤ 250
  hy : (smY x).length ≤ 250
  h1 : (smP b x).length = 1 ∨ (smP b x).length = 2
  h2 : (smP b x).length = 2 → intB? 10 ((smP b x).getD 1 Str.empty) = some e
  h3 : intB? b.toNat (smZ b x) = some man
theorem SmH.sz {b : Int} {x : Str} {e man : Int} (h : SmH b x e man) :
   x.length ≤ 250 ∧ (Txt.lower x).length ≤ 750 ∧ (Txt.rstripChars (Txt.lower x) (Str.ofString "l")).length ≤ 750 ∧ (smY x).length ≤ 250 ∧
   (smX b x).length ≤ 250 ∧ ((smP b x).getD 0 Str.empty).length ≤ 250 ∧ ((smP b x).getD 1 Str.empty).length ≤ 250 ∧ ((smD b x).getD 0 Str.empty).length ≤ 250 ∧ ((smD b x).getD 1 Str.empty).length ≤ 250 ∧
   (smC b x).length ≤ 250 ∧ (smA b x).length ≤ 250 ∧ (smZ b x).length ≤ 500 ∧ (smP b x).length ≤ 252 ∧ (smD b x).length ≤ 252 := by
  have h0 := h.hx
  have h1 := h.hy
  have a1 := len_lower x
  have a2 := len_rstripChars (Txt.lower x) (Str.ofString "l")
  have a3 : ((smP b x).getD 0 Str.empty).length ≤ (smY x).length := getD_short 0
  have a4 : ((smP b x).getD 1 Str.empty).length ≤ (smY x).length := getD_short 1
  have hX : (smX b x).length ≤ 250 := by
    show (if (smP b x).length = 1 then smY x else (smP b x).getD 0 Str.empty).length ≤ 250
    split <;> omega
  have a5 : ((smD b x).getD 0 Str.empty).length ≤ (smX b x).length := getD_short 0
  have a6 : ((smD b x).getD 1 Str.empty).length ≤ (smX b x).length := getD_short 1
  have a7 : (smC b x).length ≤ ((smD b x).getD 1 Str.empty).length := len_rstripChars _ _
  have hA : (smA b x).length ≤ 250 := by
    show (if (smD b x).getD 0 Str.empty = Str.ofString "" then Str.ofString "0" else (smD b x).getD 0 Str.empty).length ≤ 250
    split
    · decide
    · omega
  have hZ : (smZ b x).length ≤ 500 := by
    show (if (smD b x).length = 2 then smA b x ++ smC b x else smX b x).length ≤ 500
    split
    · rw [Str.length_append]; omega
    · omega
  have hp : (smP b x).length ≤ (smY x).length + 2 := split_le _ _
  have hd : (smD b x).length ≤ (smX b x).length + 2 := split_le _ _
  exact ⟨h0, by omega, by omega, h1, hX, by omega, by omega, by omega, by omega, by omega, hA, hZ, by omega, by omega⟩
theorem SmH.sz2 {b : Int} {x : Str} {e man : Int} (h : SmH b x e man) :
   (Txt.split (smY x) (smSep b (smY x))).length ≤ 252 ∧ (Txt.split (smX b x) (Str.ofString ".")).length ≤ 252 ∧
   ((Txt.split (smY x) (smSep b (smY x))).getD (0 : Int).toNat Str.empty).length ≤ 250 ∧ ((Txt.split (smY x) (smSep b (smY x))).getD (1 : Int).toNat Str.empty).length ≤ 250 ∧
   ((Txt.split (smX b x) (Str.ofString ".")).getD (0 : Int).toNat Str.empty).length ≤ 250 ∧ ((Txt.split (smX b x) (Str.ofString ".")).getD (1 : Int).toNat Str.empty).length ≤ 250 ∧
   (Txt.rstripChars ((Txt.split (smX b x) (Str.ofString ".")).getD (1 : Int).toNat Str.empty) (Str.ofString "0")).length ≤ 250 ∧ (Str.ofString "0").length = 1 := by
  obtain ⟨q1, q2, q3, q4, q5, q6, q7, q8, q9, q10, q11, q12, q13, q14⟩ := h.sz
  exact ⟨q13, q14, q6, q7, q8, q9, q10, by decide⟩
local macro_rules | `(tactic| walk_at "m szs") => `(tactic| ((with_reducible rename SmH _ _ _ _ => HS); obtain ⟨q1, q2, q3, q4, q5, q6, q7, q8, q9, q10, q11, q12, q13, q14⟩ := SmH.sz HS; obtain ⟨r1, r2, r3, r4, r5, r6, r7, r8⟩ := SmH.sz2 HS; omega))
def B4 (b : Int) : Prop := b = 2 ∨ b = 8 ∨ b = 10 ∨ b = 16
theorem sepP {b : Int} {y : Str} (hb : B4 b) (h2 : (2 : Int) ^ ((Builtin.Int.intBits b : Int) - 1).toNat = b) (h3 : ([1, 4] : List Int).any (· == (Builtin.Int.intBits b : Int) - 1) = true) (h : Txt.find y (Str.ofString "p") ≥ 0) : Str.ofString "p" = smSep b y := by
  rcases hb with rfl | rfl | rfl | rfl
  · exact (if_pos ⟨by decide, h⟩).symm
  · exact absurd h3 (by decide)
  · exact absurd h2 (by decide)
  · exact (if_pos ⟨by decide, h⟩).symm
theorem sep_le {b : Int} {y : Str} (h : ¬ ((b = 2 ∨ b = 16) ∧ Txt.find y (Str.ofString "p") ≥ 0)) (h1 : b ≤ 10) : Str.ofString "e" = smSep b y := ((if_neg h).trans (if_pos h1)).symm
theorem sep_gt {b : Int} {y : Str} (h : ¬ ((b = 2 ∨ b = 16) ∧ Txt.find y (Str.ofString "p") ≥ 0)) (h1 : ¬ b ≤ 10) : Str.ofString "@" = smSep b y := ((if_neg h).trans (if_neg h1)).symm
theorem nop_1 {b : Int} {y : Str} (hb : B4 b) (h2 : (2 : Int) ^ ((Builtin.Int.intBits b : Int) - 1).toNat ≠ b) : ¬ ((b = 2 ∨ b = 16) ∧ Txt.find y (Str.ofString "p") ≥ 0) := by
  rcases hb with rfl | rfl | rfl | rfl
  · exact absurd rfl h2
  · exact fun q => absurd q.1 (by decide)
  · exact fun q => absurd q.1 (by decide)
  · exact absurd rfl h2
theorem nop_2 {b : Int} {y : Str} (hb : B4 b) (h3 : ([1, 4] : List Int).any (· == (Builtin.Int.intBits b : Int) - 1) = false) : ¬ ((b = 2 ∨ b = 16) ∧ Txt.find y (Str.ofString "p") ≥ 0) := by
  rcases hb with rfl | rfl | rfl | rfl
  · exact absurd h3 (by decide)
  · exact fun q => absurd q.1 (by decide)
  · exact fun q => absurd q.1 (by decide)
  · exact absurd h3 (by decide)
theorem nop_3 {b : Int} {y : Str} (h : ¬ Txt.find y (Str.ofString "p") ≥ 0) : ¬ ((b = 2 ∨ b = 16) ∧ Txt.find y (Str.ofString "p") ≥ 0) := fun q => h q.2
local macro_rules | `(tactic| walk_at "m nop") => `(tactic| first
  | ((with_reducible refine nop_3 ?_) <;> with_reducible assumption)
  | ((with_reducible refine nop_2 ?_ ?_) <;> with_reducible assumption)
  | ((with_reducible refine nop_1 ?_ ?_) <;> with_reducible assumption))
theorem sep_ne (b : Int) (y : Str) : ((smSep b y).length == 0) = false := by
  show ((if (b = 2 ∨ b = 16) ∧ Txt.find y (Str.ofString "p") ≥ 0 then Str.ofString "p" else if b ≤ 10 then Str.ofString "e" else Str.ofString "@").length == 0) = false
  split
  · decide
  · split <;> decide
local macro_rules | `(tactic| walk_at "m ne0") => `(tactic| with_reducible exact sep_ne _ _)
theorem smX_1 {b : Int} {x : Str} (h : ((smP b x).length : Int) = 1) : smY x = smX b x := (if_pos (by omega)).symm
theorem smX_2 {b : Int} {x : Str} (h : ((smP b x).length : Int) = 2) : (smP b x).getD (0 : Int).toNat Str.empty = smX b x := (if_neg (by omega)).symm
theorem smE_1 {b : Int} {x : Str} {e : Int} (h : ((smP b x).length : Int) = 1) : 0 = smE b x e := (if_pos (by omega)).symm
theorem smE_2 {b : Int} {x : Str} {e : Int} (h : ((smP b x).length : Int) = 2) : e = smE b x e := (if_neg (by omega)).symm
theorem SmH.no {b : Int} {x : Str} {e man : Int} (H : SmH b x e man) (h1 : ¬ ((smP b x).length : Int) = 1) (h2 : ¬ ((smP b x).length : Int) = 2) : False := by
  rcases H.h1 with h | h
  · exact h1 (by omega)
  · exact h2 (by omega)
theorem SmH.int1 {b : Int} {x : Str} {e man : Int} (H : SmH b x e man) (h2 : ((smP b x).length : Int) = 2) : intB? 10 ((smP b x).getD (1 : Int).toNat Str.empty) = some e := H.h2 (by omega)
theorem smZ_1 {b : Int} {x : Str} (h : ¬ ((smD b x).length : Int) = 2) : smX b x = smZ b x := (if_neg (by omega)).symm
theorem smExp_1 {b : Int} {x : Str} {e : Int} (h : ¬ ((smD b x).length : Int) = 2) : smE b x e = smExp b x e := (if_neg (by omega)).symm
theorem smZ_2a {b : Int} {x : Str} (h : ((smD b x).length : Int) = 2) (ha : (((smD b x).getD (0 : Int).toNat Str.empty) == Str.ofString "") = true) :
   Str.ofString "0" ++ Txt.rstripChars ((smD b x).getD (1 : Int).toNat Str.empty) (Str.ofString "0") = smZ b x := by
  have e : smA b x = Str.ofString "0" := if_pos (eq_of_beq ha)
  exact (if_pos (show (smD b x).length = 2 by omega)).trans (by rw [e]; rfl) |>.symm
theorem smZ_2b {b : Int} {x : Str} (h : ((smD b x).length : Int) = 2) (ha : (((smD b x).getD (0 : Int).toNat Str.empty) == Str.ofString "") = false) :
   (smD b x).getD (0 : Int).toNat Str.empty ++ Txt.rstripChars ((smD b x).getD (1 : Int).toNat Str.empty) (Str.ofString "0") = smZ b x := by
  have e : smA b x = (smD b x).getD 0 Str.empty := if_neg (fun q => absurd (beq_iff_eq.mpr q) (ne_true_of_eq_false ha))
  exact (if_pos (show (smD b x).length = 2 by omega)).trans (by rw [e]; rfl) |>.symm
theorem smExp_2a {b : Int} {x : Str} {e : Int} (h : ((smD b x).length : Int) = 2) (hs : (smSep b (smY x) != Str.ofString "p") = true) :
   smE b x e - (Txt.rstripChars ((smD b x).getD (1 : Int).toNat Str.empty) (Str.ofString "0")).length = smExp b x e := by
  refine Eq.symm ((if_pos (show (smD b x).length = 2 by omega)).trans ?_)
  rw [if_neg (bne_iff_ne.mp hs), Int.mul_one]; rfl
theorem smExp_2b {b : Int} {x : Str} {e : Int} (h : ((smD b x).length : Int) = 2) (hs : (smSep b (smY x) != Str.ofString "p") = false) :
   smE b x e - (Txt.rstripChars ((smD b x).getD (1 : Int).toNat Str.empty) (Str.ofString "0")).length * ((Builtin.Int.intBits b : Int) - 1) = smExp b x e := by
  refine Eq.symm ((if_pos (show (smD b x).length = 2 by omega)).trans ?_)
  rw [if_pos (by simpa using hs)]; rfl
theorem ret2_end {h₀ h' : Heap} {L D : Addr} {m : Str → Option Value} {news news' : List (Addr × Obj)} {s : Shared} {Q : Value → Shared → Prop} {i1 i2 j1 j2 : Int} {t1 t2 : Tok} {c : Nat} {tk' : Nat}
   (R : Ret2 h₀ L m news s Q i1 i2) (F : Fr h₀ L h' m) (N : News h₀ L h' ((D, T2 j1 j2 t1 t2 c) :: news')) (hN : ∀ p ∈ news, p ∈ news') (hl : AllLt D news) (e1 : j1 = i1) (e2 : j2 = i2) :
   Q (.ref D) { s with heap := h', toks := tk' } := by
  subst e1 e2
  exact R D t1 t2 c h' tk' F (fun p hp => by
    rcases List.mem_cons.mp hp with rfl | hp
    · exact N _ (List.mem_cons_self ..)
    · exact N p (List.mem_cons_of_mem _ (hN p hp))) hl
local macro_rules | `(tactic| walk_at "m ret2") => `(tactic| (refine' ret2_end ?R ?F ?N ?hN ?hl ?e1 ?e2; (case R => assumption); (case F => with_reducible assumption); (case N => with_reducible assumption); (case hN => walk_at "m sub all"); (case hl => walk_at "m lt all"); (case e1 => with_reducible rfl); (case e2 => with_reducible rfl)))
local macro_rules | `(tactic| walk_at "m eq") => `(tactic| first
  | with_unfolding_none exact rfl
  | ((with_unfolding_none refine sepP ?_ ?_ ?_ ?_) <;> with_reducible assumption)
  | ((with_unfolding_none refine' sep_le ?a0 ?a1); (case a0 => walk_at "m nop"); (case a1 => with_reducible assumption))
  | ((with_unfolding_none refine' sep_gt ?a0 ?a1); (case a0 => walk_at "m nop"); (case a1 => with_reducible assumption))
  | ((with_unfolding_none refine smX_1 ?_) <;> with_reducible assumption)
  | ((with_unfolding_none refine smX_2 ?_) <;> with_reducible assumption)
  | ((with_unfolding_none refine smE_1 ?_) <;> with_reducible assumption)
  | ((with_unfolding_none refine smE_2 ?_) <;> with_reducible assumption)
  | ((with_unfolding_none refine smZ_1 ?_) <;> with_reducible assumption)
  | ((with_unfolding_none refine smExp_1 ?_) <;> with_reducible assumption)
  | ((with_unfolding_none refine smZ_2a ?_ ?_) <;> with_reducible assumption)
  | ((with_unfolding_none refine smZ_2b ?_ ?_) <;> with_reducible assumption)
  | ((with_unfolding_none refine smExp_2a ?_ ?_) <;> with_reducible assumption)
  | ((with_unfolding_none refine smExp_2b ?_ ?_) <;> with_reducible assumption)
  | with_reducible rfl
  | ((with_reducible refine sepP ?_ ?_ ?_ ?_) <;> with_reducible assumption)
  | ((with_reducible refine' sep_le ?a0 ?a1); (case a0 => walk_at "m nop"); (case a1 => with_reducible assumption))
  | ((with_reducible refine' sep_gt ?a0 ?a1); (case a0 => walk_at "m nop"); (case a1 => with_reducible assumption))
  | ((with_reducible refine smX_1 ?_) <;> with_reducible assumption)
  | ((with_reducible refine smX_2 ?_) <;> with_reducible assumption)
  | ((with_reducible refine smE_1 ?_) <;> with_reducible assumption)
  | ((with_reducible refine smE_2 ?_) <;> with_reducible assumption)
  | ((with_reducible refine smZ_1 ?_) <;> with_reducible assumption)
  | ((with_reducible refine smExp_1 ?_) <;> with_reducible assumption)
  | ((with_reducible refine smZ_2a ?_ ?_) <;> with_reducible assumption)
  | ((with_reducible refine smZ_2b ?_ ?_) <;> with_reducible assumption)
  | ((with_reducible refine smExp_2a ?_ ?_) <;> with_reducible assumption)
  | ((with_reducible refine smExp_2b ?_ ?_) <;> with_reducible assumption)
  | fail "m eq: none")
local macro_rules | `(tactic| walk_at "m pre") => `(tactic| first | with_reducible exact SmH.h3 (by with_reducible assumption) | with_reducible exact SmH.int1 (by with_reducible assumption) (by with_reducible assumption))
local macro_rules | `(tactic| walk_at "m ite") => `(tactic| ((with_reducible refine split_ieq ?_ ?_) <;> (intro hc; try (exfalso; exact SmH.no (by with_reducible assumption) (by with_reducible assumption) (by with_reducible assumption)))))
local macro_rules | `(tactic| walk_at "m ite") => `(tactic| (k_closed; first | refine ite_pos (by decide) ?_ | refine ite_neg (by decide) ?_))
section
variable {w : World} {p : Program} {loose : List Str} {mean : ExcName → Option Value} {mg mb : Str → Option Value} {A₀ : Around} {base h₀ : Heap} {outer : List Env} {L : Addr} {m : Str → Option Value} {news : List (Addr × Obj)} {s : Shared} {dp un : Nat} {gd : Option (List Code)} {cn : Str} {cs : Scope} {a : Addr} {ccd : Value} {cl : List (Str × Addr)} {Q E : Value → Shared → Prop}
end
local macro_rules | `(tactic| walk_at "m") => `(tactic| first
  | ((with_reducible show wpAny _ _ (spliced _) _ _ _); walk_at "m spl")
  | ((with_reducible show wpAny _ _ (eval _ _) _ _ _); first
    | ((with_reducible show wpAny _ _ (eval (Expr.Name _ _) _) _ _ _); walk_at "m name")
    | with_reducible refine wpAny_Constant_int ?_
    | with_reducible refine Calls.Constant_str ?_
    | with_reducible refine wpAny_BinOp ?_
    | walk_at "m eval")
  | ((with_reducible show wpAny _ _ (storeName _ _ _) _ _ _); walk_at "m store")
  | ((with_reducible show wpAny _ _ (assignInOrder _ _) _ _ _); first | refine assignInOrder_cons ?_ | refine assignInOrder_nil ?_)
  | ((with_reducible show wpAny _ _ (binaryOp _ _ _) _ _ _); walk_at "m bin")
  | ((with_reducible show wpAny _ _ (newTuple _) _ _ _); (refine' kup_newTuple ?F ?N ?_ ?z; (case F => k_asm); (case N => k_asm); (case z => kmk_size)); intro D' h' F' N' l1; (try k_lt l1); k_sweep)
  | ((with_reducible show wpAny _ _ (exec _ _) _ _ _); walk_at "m exec")
  | with_reducible refine wpAny_execs_nil ?_
  | with_reducible refine bindName_ ?_
  | with_reducible refine PyProof.Rows.assign_Name ?_
  | with_reducible refine neg_int ?_)
section
variable {w : World} {p : Program} {loose : List Str} {mean : ExcName → Option Value} {mg mb : Str → Option Value} {A₀ : Around} {base h₀ : Heap} {outer : List Env} {L : Addr} {m : Str → Option Value} {news : List (Addr × Obj)} {s : Shared} {dp un : Nat} {gd : Option (List Code)} {cn : Str} {cs : Scope} {a : Addr} {ccd : Value} {cl : List (Str × Addr)} {Q E : Value → Shared → Prop}
set_option maxHeartbeats 8000000 in
theorem c_sm {x : Str} {b e man : Int} {t1 t2 : Tok}
   (B : Below A₀ base outer h₀) (F : Fr h₀ L s.heap m) (X : (hd.heap_39 w.params).In h₀) (N : News h₀ L s.heap news) (T : Top p loose mean mg mb h₀) (hk : cs.kind = .function) (hdp : dp + 3 < recursionLimit)
   (hb : b = 2 ∨ b = 8 ∨ b = 10 ∨ b = 16) (HS : SmH b x e man)
   (ret : Ret2 h₀ L m news s Q man (smExp b x e)) :
  wpAny (model PR w) (ktrTop dp un gd cn cs L a ccd cl outer) (call (.ref 118) [.str x t1, .int b t2]) Q E s := by
  have hC1 : CutAt 235 True [(Str.ofString "x", fun t => .str (smY x) t), (Str.ofString "base", fun t => .int b t), (Str.ofString "sep", fun t => .str (smSep b (smY x)) t), (Str.ofString "e2", fun t => .int ((Builtin.Int.intBits b : Int) - 1) t)] := trivial
  have hC2 : CutAt 238 True [(Str.ofString "x", fun t => .str (smX b x) t), (Str.ofString "base", fun t => .int b t), (Str.ofString "sep", fun t => .str (smSep b (smY x)) t), (Str.ofString "e2", fun t => .int ((Builtin.Int.intBits b : Int) - 1) t), (Str.ofString "exp", fun t => .int (smE b x e) t)] := trivial
  have hC3 : CutAt 246 True [(Str.ofString "x", fun t => .str (smZ b x) t), (Str.ofString "base", fun t => .int b t), (Str.ofString "exp", fun t => .int (smExp b x e) t)] := trivial
  have hB : B4 b := hb
  have hb1 : (0 : Int) ≤ (Builtin.Int.intBits b : Int) - 1 := by rcases hb with rfl | rfl | rfl | rfl <;> decide
  have hb2 : (Builtin.Int.intBits b : Int) - 1 ≤ 100000 := by rcases hb with rfl | rfl | rfl | rfl <;> decide
  have hb3 : Builtin.Int.intBits ((Builtin.Int.intBits b : Int) - 1) ≤ 64 := by rcases hb with rfl | rfl | rfl | rfl <;> decide
  revert X; walk_at "m open"
  walk_at "m go"
  all_goals walk_at "m ret2"
end
-- E2
theorem smSz {b : Int} {x : Str} (h0 : x.length ≤ 30) (h1 : (smY x).length ≤ 30) :
   x.length ≤ 30 ∧ (Txt.lower x).length ≤ 90 ∧ (Txt.rstripChars (Txt.lower x) (Str.ofString "l")).length ≤ 90 ∧ (smY x).length ≤ 30 ∧
   (smX b x).length ≤ 30 ∧ ((smP b x).getD (0 : Int).toNat Str.empty).length ≤ 30 ∧ ((smP b x).getD (1 : Int).toNat Str.empty).length ≤ 30 ∧ ((smD b x).getD (0 : Int).toNat Str.empty).length ≤ 30 ∧ ((smD b x).getD (1 : Int).toNat Str.empty).length ≤ 30 ∧
   (Txt.rstripChars ((smD b x).getD (1 : Int).toNat Str.empty) (Str.ofString "0")).length ≤ 30 ∧ (smZ b x).length ≤ 60 ∧ (Txt.split (smY x) (smSep b (smY x))).length ≤ 32 ∧ (Txt.split (smX b x) (Str.ofString ".")).length ≤ 32 ∧ (Str.ofString "0").length = 1 := by
  have a1 := len_lower x
  have a2 := len_rstripChars (Txt.lower x) (Str.ofString "l")
  have a3 : ((smP b x).getD 0 Str.empty).length ≤ (smY x).length := getD_short 0
  have a4 : ((smP b x).getD 1 Str.empty).length ≤ (smY x).length := getD_short 1
  have hX : (smX b x).length ≤ 30 := by
    show (if (smP b x).length = 1 then smY x else (smP b x).getD 0 Str.empty).length ≤ 30
    split <;> omega
  have a5 : ((smD b x).getD 0 Str.empty).length ≤ (smX b x).length := getD_short 0
  have a6 : ((smD b x).getD 1 Str.empty).length ≤ (smX b x).length := getD_short 1
  have a7 : (smC b x).length ≤ ((smD b x).getD 1 Str.empty).length := len_rstripChars _ _
  have hA : (smA b x).length ≤ 30 := by
    show (if (smD b x).getD 0 Str.empty = Str.ofString "" then Str.ofString "0" else (smD b x).getD 0 Str.empty).length ≤ 30
    split
    · decide
    · omega
  have hZ : (smZ b x).length ≤ 60 := by
    show (if (smD b x).length = 2 then smA b x ++ smC b x else smX b x).length ≤ 60
    split
    · rw [Str.length_append]; omega
    · omega
  have hp : (smP b x).length ≤ (smY x).length + 2 := split_le _ _
  have hd : (smD b x).length ≤ (smX b x).length + 2 := split_le _ _
  have hC : (smC b x).length ≤ 30 := by omega
  exact ⟨h0, by omega, by omega, h1, hX, by show ((smP b x).getD 0 Str.empty).length ≤ 30; omega, by show ((smP b x).getD 1 Str.empty).length ≤ 30; omega, by show ((smD b x).getD 0 Str.empty).length ≤ 30; omega, by show ((smD b x).getD 1 Str.empty).length ≤ 30; omega, hC, hZ, by show (smP b x).length ≤ 32; omega, by show (smD b x).length ≤ 32; omega, by decide⟩
/-- a short text of a base -/
structure SmZ (b : Int) (x : Str) : Prop where
  hx : x.length ≤ 30
  hy : (smY x).length ≤ 30
theorem SmZ.sz {b : Int} {x : Str} (H : SmZ b x) :
   x.length ≤ 30 ∧ (Txt.lower x).length ≤ 90 ∧ (Txt.rstripChars (Txt.lower x) (Str.ofString "l")).length ≤ 90 ∧ (smY x).length ≤ 30 ∧
   (smX b x).length ≤ 30 ∧ ((Txt.split (smY x) (smSep b (smY x))).getD (0 : Int).toNat Str.empty).length ≤ 30 ∧ ((Txt.split (smY x) (smSep b (smY x))).getD (1 : Int).toNat Str.empty).length ≤ 30 ∧ ((Txt.split (smX b x) (Str.ofString ".")).getD (0 : Int).toNat Str.empty).length ≤ 30 ∧ ((Txt.split (smX b x) (Str.ofString ".")).getD (1 : Int).toNat Str.empty).length ≤ 30 ∧
   (Txt.rstripChars ((Txt.split (smX b x) (Str.ofString ".")).getD (1 : Int).toNat Str.empty) (Str.ofString "0")).length ≤ 30 ∧ (smZ b x).length ≤ 60 ∧ (Txt.split (smY x) (smSep b (smY x))).length ≤ 32 ∧ (Txt.split (smX b x) (Str.ofString ".")).length ≤ 32 ∧ (Str.ofString "0").length = 1 := smSz H.hx H.hy
local macro_rules | `(tactic| walk_at "m szs") => `(tactic| ((with_reducible rename SmZ _ _ => HS); obtain ⟨q1, q2, q3, q4, q5, q6, q7, q8, q9, q10, q11, q12, q13, q14⟩ := SmZ.sz HS; omega))
theorem smX_1' {b : Int} {x : Str} (h : ((smP b x).length : Int) = 1) : smY x = smX b x := (if_pos (by omega)).symm
/-- how it fails -/
structure SmF (b : Int) (x : Str) (e : Int) : Prop where
  hp : (smP b x).length = 1 ∨ (smP b x).length = 2
  h1 : (smP b x).length = 2 → intB? 10 ((smP b x).getD 1 Str.empty) = some e
  h2 : intB? b.toNat (smZ b x) = none
  hr : (reprText (smZ b x)).length ≤ 2000
theorem SmF.no {b : Int} {x : Str} {e : Int} (H : SmF b x e) (h1 : ¬ ((smP b x).length : Int) = 1) (h2 : ¬ ((smP b x).length : Int) = 2) : False := by
  rcases H.hp with h | h
  · exact h1 (by omega)
  · exact h2 (by omega)
theorem SmF.int1 {b : Int} {x : Str} {e : Int} (H : SmF b x e) (h2 : ((smP b x).length : Int) = 2) : intB? 10 ((smP b x).getD (1 : Int).toNat Str.empty) = some e := H.h1 (by omega)
local macro_rules | `(tactic| walk_at "m ite") => `(tactic| ((with_reducible refine split_ieq ?_ ?_) <;> (intro hc; try (exfalso; exact SmF.no (by with_reducible assumption) (by with_reducible assumption) (by with_reducible assumption)))))
local macro_rules | `(tactic| walk_at "m pre") => `(tactic| with_reducible exact SmF.int1 (by with_reducible assumption) (by with_reducible assumption))
local macro_rules | `(tactic| walk_at "m reprs") => `(tactic| with_reducible exact SmF.hr (by with_reducible assumption))
local macro_rules | `(tactic| walk_at "m none") => `(tactic| with_reducible exact SmF.h2 (by with_reducible assumption))
theorem wpC_int2' {prog : Program} {w : World} {A : Around} {E : Value → Shared → Prop} {s : Shared} {Q : Value → Shared → Prop} {x : Str} {u u' : Tok} {b : Int}
    (hh : A.handled = none) (hb : B4 b) (hl : x.length ≤ 100) (hrl : (reprText x).length ≤ 2000) (hn : intB? b.toNat x = none)
    (h : ∀ h' tk e, Heap.NewExc s.heap h' e "ValueError" → E (.ref e) { s with heap := h', toks := tk }) :
    wpC (model prog w) A (call (.type "int") [.str x u, .int b u']) Q E s := by
  have e : b = (b.toNat : Int) := by rcases hb with rfl | rfl | rfl | rfl <;> rfl
  have hb' : b.toNat = 2 ∨ b.toNat = 8 ∨ b.toNat = 10 ∨ b.toNat = 16 := by rcases hb with rfl | rfl | rfl | rfl <;> decide
  rw [e]
  exact wpC_int2 hh hb' hl hrl hn h
local macro_rules | `(tactic| walk_at "m callC") => `(tactic| ((with_reducible show wpC _ _ (call (Value.type "int") [Value.str _ _, Value.int _ _] _) _ _ _); (refine' wpC_int2' rfl ?k0 ?k1 ?k2 ?k3 ?_; (case k1 => walk_at "m szs"); (case k2 => walk_at "m reprs"); (case k3 => walk_at "m none"); (case k0 => assumption));  intro h9 tk9 e9 hx9; (try dsimp only)))
section
variable {w : World} {p : Program} {loose : List Str} {mean : ExcName → Option Value} {mg mb : Str → Option Value} {A₀ : Around} {base h₀ : Heap} {outer : List Env} {L : Addr} {m : Str → Option Value} {news : List (Addr × Obj)} {s : Shared} {dp un : Nat} {gd : Option (List Code)} {cn : Str} {cs : Scope} {a : Addr} {ccd : Value} {cl : List (Str × Addr)} {Q E : Value → Shared → Prop}
set_option maxHeartbeats 8000000 in
theorem f_smC {x : Str} {b e : Int} {t1 t2 : Tok}
   (B : Below A₀ base outer h₀) (F : Fr h₀ L s.heap m) (X : (hd.heap_39 w.params).In h₀) (N : News h₀ L s.heap news) (T : Top p loose mean mg mb h₀) (hk : cs.kind = .function) (hdp : dp + 3 < recursionLimit)
   (hB : B4 b) (HZ : SmZ b x) (HF : SmF b x e)
   (err : ErrN base h₀ L m (envX cn cs L a ccd cl :: outer) news s E) :
  wpC (model PR w) (ktrTop dp un gd cn cs L a ccd cl outer) (call (.ref 118) [.str x t1, .int b t2]) Q E s := by
  have hC1 : CutAt 235 True [(Str.ofString "x", fun t => .str (smY x) t), (Str.ofString "base", fun t => .int b t), (Str.ofString "sep", fun t => .str (smSep b (smY x)) t), (Str.ofString "e2", fun t => .int ((Builtin.Int.intBits b : Int) - 1) t)] := trivial
  have hC2 : CutAt 238 True [(Str.ofString "x", fun t => .str (smX b x) t), (Str.ofString "base", fun t => .int b t), (Str.ofString "sep", fun t => .str (smSep b (smY x)) t), (Str.ofString "e2", fun t => .int ((Builtin.Int.intBits b : Int) - 1) t), (Str.ofString "exp", fun t => .int (smE b x e) t)] := trivial
  have hC3 : CutAt 246 True [(Str.ofString "x", fun t => .str (smZ b x) t), (Str.ofString "base", fun t => .int b t)] := trivial
  have hF : FailAt 255 := trivial
  have hb1 : (0 : Int) ≤ (Builtin.Int.intBits b : Int) - 1 := by rcases hB with rfl | rfl | rfl | rfl <;> decide
  have hb2 : (Builtin.Int.intBits b : Int) - 1 ≤ 100000 := by rcases hB with rfl | rfl | rfl | rfl <;> decide
  have hb3 : Builtin.Int.intBits ((Builtin.Int.intBits b : Int) - 1) ≤ 64 := by rcases hB with rfl | rfl | rfl | rfl <;> decide
  revert X; walk_at "m openC"
  walk_at "m go"
  all_goals walk_at "m err"
end
-- E3
theorem sep10 (y : Str) : Str.ofString "e" = smSep 10 y := rfl
local macro_rules | `(tactic| walk_at "m eq") => `(tactic| first | with_reducible rfl | with_reducible exact sep10 _)
local macro_rules | `(tactic| walk_at "m ite") => `(tactic| ((with_reducible refine split_ieq ?_ ?_) <;> (intro hc; try (exfalso; omega))))
local macro_rules | `(tactic| walk_at "m") => `(tactic| first
  | ((with_reducible show wpAny _ _ (exec (Stmt.Raise (some (Expr.Call (Expr.Name _ _) (_ :: _) [] _)) none _) _) _ _ _); (with_unfolding_all refine PyProof.Rows.Raise_madeB PySem.F.excCall_ValueError PySem.F.excRaise_ValueError rfl ?_))
  | ((with_reducible show Value.type _ = Value.type _ ∧ _); refine ⟨rfl, ?_⟩; (try dsimp only))
  | ((with_reducible show _ ≤ sizeLine ∧ _); (refine ⟨(show (1 : Nat) ≤ sizeLine from by decide), ?_⟩); intro h9 e9 hx9; (have hx8 := Heap.MadeExc.newExc hx9); clear hx9; (try dsimp only)))
section
variable {w : World} {p : Program} {loose : List Str} {mean : ExcName → Option Value} {mg mb : Str → Option Value} {A₀ : Around} {base h₀ : Heap} {outer : List Env} {L : Addr} {m : Str → Option Value} {news : List (Addr × Obj)} {s : Shared} {dp un : Nat} {gd : Option (List Code)} {cn : Str} {cs : Scope} {a : Addr} {ccd : Value} {cl : List (Str × Addr)} {Q E : Value → Shared → Prop}
end
local macro_rules | `(tactic| walk_at "m") => `(tactic| first
  | ((with_reducible show wpAny _ _ (spliced _) _ _ _); walk_at "m spl")
  | ((with_reducible show wpAny _ _ (eval _ _) _ _ _); first
    | ((with_reducible show wpAny _ _ (eval (Expr.Name _ _) _) _ _ _); walk_at "m name")
    | with_reducible refine wpAny_Constant_int ?_
    | with_reducible refine Calls.Constant_str ?_
    | with_reducible refine wpAny_BinOp ?_
    | walk_at "m eval")
  | ((with_reducible show wpAny _ _ (storeName _ _ _) _ _ _); walk_at "m store")
  | ((with_reducible show wpAny _ _ (assignInOrder _ _) _ _ _); first | refine assignInOrder_cons ?_ | refine assignInOrder_nil ?_)
  | ((with_reducible show wpAny _ _ (binaryOp _ _ _) _ _ _); walk_at "m bin")
  | ((with_reducible show wpAny _ _ (newTuple _) _ _ _); (refine' kup_newTuple ?F ?N ?_ ?z; (case F => k_asm); (case N => k_asm); (case z => kmk_size)); intro D' h' F' N' l1; (try k_lt l1); k_sweep)
  | ((with_reducible show wpAny _ _ (exec _ _) _ _ _); walk_at "m exec")
  | with_reducible refine wpAny_execs_nil ?_
  | with_reducible refine bindName_ ?_
  | with_reducible refine PyProof.Rows.assign_Name ?_
  | with_reducible refine neg_int ?_)
section
variable {w : World} {p : Program} {loose : List Str} {mean : ExcName → Option Value} {mg mb : Str → Option Value} {A₀ : Around} {base h₀ : Heap} {outer : List Env} {L : Addr} {m : Str → Option Value} {news : List (Addr × Obj)} {s : Shared} {dp un : Nat} {gd : Option (List Code)} {cn : Str} {cs : Scope} {a : Addr} {ccd : Value} {cl : List (Str × Addr)} {Q E : Value → Shared → Prop}
set_option maxHeartbeats 8000000 in
theorem f_smA {x : Str} {t1 t2 : Tok}
   (B : Below A₀ base outer h₀) (F : Fr h₀ L s.heap m) (X : (hd.heap_39 w.params).In h₀) (N : News h₀ L s.heap news) (T : Top p loose mean mg mb h₀) (hk : cs.kind = .function) (hdp : dp + 3 < recursionLimit)
   (HZ : SmZ 10 x) (hp : (Txt.split (smY x) (smSep 10 (smY x))).length = 3)
   (err : ErrN base h₀ L m (envX cn cs L a ccd cl :: outer) news s E) :
  wpC (model PR w) (ktrTop dp un gd cn cs L a ccd cl outer) (call (.ref 118) [.str x t1, .int 10 t2]) Q E s := by
  have hB : B4 10 := Or.inr (Or.inr (Or.inl rfl))
  have hC1 : CutAt 235 True [(Str.ofString "x", fun t => .str (smY x) t), (Str.ofString "base", fun t => .int 10 t), (Str.ofString "sep", fun t => .str (smSep 10 (smY x)) t), (Str.ofString "e2", fun t => .int ((Builtin.Int.intBits 10 : Int) - 1) t)] := trivial
  revert X; walk_at "m openC"
  walk_at "m go"
  all_goals walk_at "m err"
end
/-- the exponent's text refuses -/
structure SmG (x : Str) : Prop where
  h1 : intB? 10 ((Txt.split (smY x) (smSep 10 (smY x))).getD (1 : Int).toNat Str.empty) = none
  hr : (reprText ((Txt.split (smY x) (smSep 10 (smY x))).getD (1 : Int).toNat Str.empty)).length ≤ 2000
local macro_rules | `(tactic| walk_at "m reprs") => `(tactic| with_reducible exact SmG.hr (by with_reducible assumption))
local macro_rules | `(tactic| walk_at "m none") => `(tactic| with_reducible exact SmG.h1 (by with_reducible assumption))
section
variable {w : World} {p : Program} {loose : List Str} {mean : ExcName → Option Value} {mg mb : Str → Option Value} {A₀ : Around} {base h₀ : Heap} {outer : List Env} {L : Addr} {m : Str → Option Value} {news : List (Addr × Obj)} {s : Shared} {dp un : Nat} {gd : Option (List Code)} {cn : Str} {cs : Scope} {a : Addr} {ccd : Value} {cl : List (Str × Addr)} {Q E : Value → Shared → Prop}
set_option maxHeartbeats 8000000 in
theorem f_smB {x : Str} {t1 t2 : Tok}
   (B : Below A₀ base outer h₀) (F : Fr h₀ L s.heap m) (X : (hd.heap_39 w.params).In h₀) (N : News h₀ L s.heap news) (T : Top p loose mean mg mb h₀) (hk : cs.kind = .function) (hdp : dp + 3 < recursionLimit)
   (HZ : SmZ 10 x) (HG : SmG x) (hp : (Txt.split (smY x) (smSep 10 (smY x))).length = 2)
   (err : ErrN base h₀ L m (envX cn cs L a ccd cl :: outer) news s E) :
  wpC (model PR w) (ktrTop dp un gd cn cs L a ccd cl outer) (call (.ref 118) [.str x t1, .int 10 t2]) Q E s := by
  have hB : B4 10 := Or.inr (Or.inr (Or.inl rfl))
  have hC1 : CutAt 235 True [(Str.ofString "x", fun t => .str (smY x) t), (Str.ofString "base", fun t => .int 10 t), (Str.ofString "sep", fun t => .str (smSep 10 (smY x)) t), (Str.ofString "e2", fun t => .int ((Builtin.Int.intBits 10 : Int) - 1) t)] := trivial
  have hF1 : FailAt 238 := trivial
  have hF2 : FailAt 240 := trivial
  have hF3 : FailAt 242 := trivial
  revert X; walk_at "m openC"
  walk_at "m go"
  all_goals walk_at "m err"
end
end
-- F1
def fmeV (man exp prec : Int) (rnd : Str) : Int × Int × Int × Int :=
  if man = 0 then (0, 0, 0, 0) else nrm (sgn man) (mag man) exp (Builtin.Int.intBits (mag man)) prec rnd
def frV (p q prec : Int) (rnd : Str) : Int × Int × Int × Int := if p = 0 then (0, 0, 0, 0) else fr p q prec rnd
def fsV2 (b : Int) (y : Str) (man ex prec : Int) (rnd : Str) : Int × Int × Int × Int :=
  if Txt.find y (Str.ofString "p") < 0 then fmeV man (ex * ((Builtin.Int.intBits b : Int) - 1)) prec rnd else fmeV man ex prec rnd
def fsV10 (man ex prec : Int) (rnd : Str) : Int × Int × Int × Int :=
  if ex ≥ 0 then fmeV (man * 10 ^ ex.toNat) 0 prec rnd else frV man (10 ^ (-ex).toNat) prec rnd
theorem fmeV_1 {man exp prec : Int} {rnd : Str} (h : man ≠ 0) : (fmeV man exp prec rnd).1 = sgn man := by rw [fmeV, if_neg h]; rfl
theorem frV_1 {p q prec : Int} {rnd : Str} (h : p ≠ 0) : (frV p q prec rnd).1 = sgn p := by
  rw [frV, if_neg h]
  unfold fr dv
  split <;> rfl
abbrev RetT (h₀ : Heap) (L : Addr) (m : Str → Option Value) (news : List (Addr × Obj)) (s : Shared) (Q : Value → Shared → Prop) (v : Int × Int × Int × Int) : Prop :=
  ∀ (D : Addr) (t1 t2 t3 t4 : Tok) (h' : Heap) (tk' : Nat), Fr h₀ L h' m → News h₀ L h' news → IsTup h' D #[.int v.1 t1, .int v.2.1 t2, .int v.2.2.1 t3, .int v.2.2.2 t4] → Q (.ref D) { s with heap := h', toks := tk' }
abbrev Ret4V (h₀ : Heap) (L : Addr) (m : Str → Option Value) (news : List (Addr × Obj)) (s : Shared) (Q : Value → Shared → Prop) (v : Int × Int × Int × Int) : Prop := Ret4 h₀ L m news s Q v.1 v.2.1 v.2.2.1 v.2.2.2
theorem retT_end4 {h₀ h' : Heap} {L D : Addr} {m : Str → Option Value} {news news' : List (Addr × Obj)} {s : Shared} {Q : Value → Shared → Prop} {v u : Int × Int × Int × Int} {t1 t2 t3 t4 : Tok} {c : Nat} {tk' : Nat}
   (R : RetT h₀ L m news s Q v) (F : Fr h₀ L h' m) (N : News h₀ L h' ((D, T4 u.1 u.2.1 u.2.2.1 u.2.2.2 t1 t2 t3 t4 c) :: news')) (hN : ∀ p ∈ news, p ∈ news') (e : u = v) :
   Q (.ref D) { s with heap := h', toks := tk' } := by
  subst e
  exact R D t1 t2 t3 t4 h' tk' F (fun p hp => N p (List.mem_cons_of_mem _ (hN p hp))) (N.isTup (List.mem_cons_self ..))
theorem retT_end0 {w : World} {h₀ h' : Heap} {L : Addr} {m : Str → Option Value} {news news' : List (Addr × Obj)} {s : Shared} {Q : Value → Shared → Prop} {v : Int × Int × Int × Int} {tk' : Nat}
   (R : RetT h₀ L m news s Q v) (F : Fr h₀ L h' m) (N : News h₀ L h' news') (hN : ∀ p ∈ news, p ∈ news') (X : (hd.heap_39 w.params).In h₀) (e : (0, 0, 0, 0) = v) :
   Q (.ref 22) { s with heap := h', toks := tk' } := by
  subst e
  obtain ⟨t1, t2, t3, t4, i⟩ := zero_tup (X.keeps F.keep) rfl
  exact R 22 t1 t2 t3 t4 h' tk' F (fun p hp => N p (hN p hp)) i
theorem retT_endS {w : World} {h₀ h' : Heap} {L a : Addr} {x : Str} {m : Str → Option Value} {news news' : List (Addr × Obj)} {s : Shared} {Q : Value → Shared → Prop} {v : Int × Int × Int × Int} {tk' : Nat}
   (R : RetT h₀ L m news s Q v) (F : Fr h₀ L h' m) (N : News h₀ L h' news') (hN : ∀ p ∈ news, p ∈ news') (X : (hd.heap_39 w.params).In h₀) (hx : spVal x = some a) (e : spTup a = v) :
   Q (.ref a) { s with heap := h', toks := tk' } := by
  subst e
  obtain ⟨t1, t2, t3, t4, i⟩ := sp_tup (X.keeps F.keep) hx rfl
  exact R a t1 t2 t3 t4 h' tk' F (fun p hp => N p (hN p hp)) i
local macro_rules | `(tactic| walk_at "m retT") => `(tactic| first
  | ((with_reducible refine' retT_end0 ?R ?F ?N ?hN ?X ?e); (case R => assumption); (case F => with_reducible assumption); (case N => with_reducible assumption); (case hN => walk_at "m sub all"); (case X => with_reducible assumption); (case e => walk_at "m eqv"))
  | ((with_reducible refine' retT_endS ?R ?F ?N ?hN ?X ?hx ?e); (case R => assumption); (case F => with_reducible assumption); (case N => with_reducible assumption); (case hN => walk_at "m sub all"); (case X => with_reducible assumption); (case hx => with_reducible assumption); (case e => first | with_reducible rfl | with_reducible assumption))
  | ((refine' retT_end4 ?R ?F ?N ?hN ?e); (case R => assumption); (case F => with_reducible assumption); (case N => with_reducible assumption); (case hN => walk_at "m sub all"); (case e => walk_at "m eqv")))
section
variable {w : World} {p : Program} {loose : List Str} {mean : ExcName → Option Value} {mg mb : Str → Option Value} {A₀ : Around} {base h₀ : Heap} {outer : List Env} {L : Addr} {m : Str → Option Value} {news : List (Addr × Obj)} {s : Shared} {dp un : Nat} {gd : Option (List Code)} {cn : Str} {cs : Scope} {a : Addr} {ccd : Value} {cl : List (Str × Addr)} {Q E : Value → Shared → Prop}
theorem c_fmeU {man exp prec : Int} {rnd : Str} {t1 t2 t3 t4 : Tok}
   (B : Below A₀ base outer h₀) (F : Fr h₀ L s.heap m) (X : (hd.heap_39 w.params).In h₀) (N : News h₀ L s.heap news) (T : Top p loose mean mg mb h₀) (hk : cs.kind = .function) (hdp : dp + 7 < recursionLimit)
   (hprec : 0 < prec) (hbc : (Builtin.Int.intBits (mag man) : Int) ≤ 2 ^ 20) (hr : IsRnd rnd)
   (ret0 : man = 0 → Ret0 h₀ L m news s Q) (ret : man ≠ 0 → Ret4V h₀ L m news s Q (fmeV man exp prec rnd)) :
  wpAny (model PR w) (ktrTop dp un gd cn cs L a ccd cl outer) (call (.ref 54) [.int man t1, .int exp t2, .int prec t3, .str rnd t4]) Q E s := by
  by_cases hz : man = 0
  · exact c_fme0 B F X N T hk hdp hz hprec (ret0 hz)
  · refine c_fme B F X N T hk hdp hz hprec hbc hr ?_
    have r := ret hz
    unfold Ret4V fmeV at r
    rw [if_neg hz] at r
    exact r
end
section
variable {w : World} {p : Program} {loose : List Str} {mean : ExcName → Option Value} {mg mb : Str → Option Value} {A₀ : Around} {base h₀ : Heap} {outer : List Env} {L : Addr} {m : Str → Option Value} {news : List (Addr × Obj)} {s : Shared} {dp un : Nat} {gd : Option (List Code)} {cn : Str} {cs : Scope} {a : Addr} {ccd : Value} {cl : List (Str × Addr)} {Q E : Value → Shared → Prop}
theorem c_fiU {n prec : Int} {rnd : Str} {t1 t2 t3 : Tok}
   (B : Below A₀ base outer h₀) (F : Fr h₀ L s.heap m) (X : (hd.heap_39 w.params).In h₀) (N : News h₀ L s.heap news) (T : Top p loose mean mg mb h₀) (hk : cs.kind = .function) (hdp : dp + 9 < recursionLimit)
   (hprec : 0 < prec) (hbc : (Builtin.Int.intBits (mag n) : Int) ≤ 2 ^ 20) (hr : IsRnd rnd)
   (ret0 : n = 0 → Ret0 h₀ L m news s Q) (ret : n ≠ 0 → Ret4V h₀ L m news s Q (fmeV n 0 prec rnd)) :
  wpAny (model PR w) (ktrTop dp un gd cn cs L a ccd cl outer) (call (.ref 62) [.int n t1, .int prec t2, .str rnd t3]) Q E s := by
  by_cases hz : n = 0
  · exact c_fi0 B F X N T hk hdp hz hprec (ret0 hz)
  · refine c_fi B F X N T hk hdp hz hprec hbc hr ?_
    have r := ret hz
    unfold Ret4V fmeV at r
    rw [if_neg hz] at r
    exact r
end
section
variable {w : World} {p : Program} {loose : List Str} {mean : ExcName → Option Value} {mg mb : Str → Option Value} {A₀ : Around} {base h₀ : Heap} {outer : List Env} {L : Addr} {m : Str → Option Value} {news : List (Addr × Obj)} {s : Shared} {dp un : Nat} {gd : Option (List Code)} {cn : Str} {cs : Scope} {a : Addr} {ccd : Value} {cl : List (Str × Addr)} {Q E : Value → Shared → Prop}
theorem c_frU {p_ q_ prec : Int} {rnd : Str} {t1 t2 t3 t4 : Tok}
   (B : Below A₀ base outer h₀) (F : Fr h₀ L s.heap m) (X : (hd.heap_39 w.params).In h₀) (N : News h₀ L s.heap news) (T : Top p loose mean mg mb h₀) (hk : cs.kind = .function) (hdp : dp + 10 < recursionLimit) (hun : un + 90 < cLine)
   (hq : 0 < q_) (hps : Small p_) (hqs : Small q_) (h0 : 0 < prec) (hp1 : prec ≤ 1000) (hr : IsRnd rnd)
   (ret0 : p_ = 0 → Ret0 h₀ L m news s Q) (ret : p_ ≠ 0 → Ret4V h₀ L m news s Q (frV p_ q_ prec rnd)) :
  wpAny (model PR w) (ktrTop dp un gd cn cs L a ccd cl outer) (call (.ref 70) [.int p_ t1, .int q_ t2, .int prec t3, .str rnd t4]) Q E s := by
  by_cases hz : p_ = 0
  · exact c_fr0 B F X N T hk hdp hun hz hq (ret0 hz)
  · refine c_fr B F X N T hk hdp hun hz hq hps hqs h0 hp1 hr ?_
    have r := ret hz
    rw [Ret4V, frV_1 hz] at r
    unfold frV at r
    rw [if_neg hz] at r
    exact r
end
local macro_rules | `(tactic| walk_at "m call") => `(tactic| ((with_reducible show wpAny _ _ (call (Value.ref 54) [_, _, _, _]) _ _ _); (refine' c_fmeU ?k1 ?k2 ?k3 ?k4 ?k5 ?kK ?kd ?p1 ?p2 ?p3 ?_ ?_; (case k1 => k_asm); (case k2 => k_asm); (case k3 => k_asm); (case k4 => k_asm); (case k5 => k_asm); (case kK => first | exact rfl | assumption); (case kd => walk_at "m room"); (case p1 => walk_at "m pre"); (case p2 => walk_at "m pre"); (case p3 => walk_at "m pre")); all_goals (intro hz; first | ((with_reducible show Ret4V _ _ _ _ _ _ _); intro D9 t9 u9 v9 w9 c9 h9 tk9 F9 N9 l9; (try dsimp only); k_sweep) | (intro h9 tk9 F9 N9; (try dsimp only); k_sweep))))
local macro_rules | `(tactic| walk_at "m call") => `(tactic| ((with_reducible show wpAny _ _ (call (Value.ref 62) [_, _, _]) _ _ _); (refine' c_fiU ?k1 ?k2 ?k3 ?k4 ?k5 ?kK ?kd ?p1 ?p2 ?p3 ?_ ?_; (case k1 => k_asm); (case k2 => k_asm); (case k3 => k_asm); (case k4 => k_asm); (case k5 => k_asm); (case kK => first | exact rfl | assumption); (case kd => walk_at "m room"); (case p1 => walk_at "m pre"); (case p2 => walk_at "m pre"); (case p3 => walk_at "m pre")); all_goals (intro hz; first | ((with_reducible show Ret4V _ _ _ _ _ _ _); intro D9 t9 u9 v9 w9 c9 h9 tk9 F9 N9 l9; (try dsimp only); k_sweep) | (intro h9 tk9 F9 N9; (try dsimp only); k_sweep))))
local macro_rules | `(tactic| walk_at "m call") => `(tactic| ((with_reducible show wpAny _ _ (call (Value.ref 70) [_, _, _, _]) _ _ _); (refine' c_frU ?k1 ?k2 ?k3 ?k4 ?k5 ?kK ?kd ?ku ?p1 ?p2 ?p3 ?p4 ?p5 ?p6 ?_ ?_; (case k1 => k_asm); (case k2 => k_asm); (case k3 => k_asm); (case k4 => k_asm); (case k5 => k_asm); (case kK => first | exact rfl | assumption); (case kd => walk_at "m room"); (case ku => walk_at "m units"); (case p1 => walk_at "m pre"); (case p2 => walk_at "m pre"); (case p3 => walk_at "m pre"); (case p4 => walk_at "m pre"); (case p5 => walk_at "m pre"); (case p6 => walk_at "m pre")); all_goals (intro hz; first | ((with_reducible show Ret4V _ _ _ _ _ _ _); intro D9 t9 u9 v9 w9 c9 h9 tk9 F9 N9 l9; (try dsimp only); k_sweep) | (intro h9 tk9 F9 N9; (try dsimp only); k_sweep))))
-- F2
section
abbrev fsY (x : Str) : Str := Txt.strip (Txt.lower x)
def sw4 (x y1 y2 y3 y4 : Str) : Bool := Txt.startswith x y1 || (Txt.startswith x y2 || (Txt.startswith x y3 || (Txt.startswith x y4 || false)))
def sw2 (x y1 y2 : Str) : Bool := Txt.startswith x y1 || (Txt.startswith x y2 || false)
def fsBase (y : Str) : Int :=
  if sw4 y (Str.ofString "0b") (Str.ofString "-0b") (Str.ofString "0B") (Str.ofString "-0B") = true then 2
  else if sw4 y (Str.ofString "0x") (Str.ofString "-0x") (Str.ofString "0X") (Str.ofString "-0X") = true then 16
  else if sw2 y (Str.ofString "0o") (Str.ofString "-0o") = true then 8 else 10
section
variable {prog : Program} {w : World} {A : Around} {E : Value → Shared → Prop} {s : Shared} {x y1 y2 y3 y4 : Str} {t t1 t2 t3 t4 : Tok} {Q : Value → Shared → Prop}
theorem startswith4 {a : Addr} {items : Array Value} (hT : IsTup s.heap a items) (hi : items = #[.str y1 t1, .str y2 t2, .str y3 t3, .str y4 t4]) (h : Q (.bool (sw4 x y1 y2 y3 y4)) s) :
   wpAny (model prog w) A (call (.builtin "str.startswith") [.str x t, .ref a]) Q E s := startswithT (vs := [.str y1 t1, .str y2 t2, .str y3 t3, .str y4 t4]) trivial (hi ▸ hT) h
theorem startswith2 {a : Addr} {items : Array Value} (hT : IsTup s.heap a items) (hi : items = #[.str y1 t1, .str y2 t2]) (h : Q (.bool (sw2 x y1 y2)) s) :
   wpAny (model prog w) A (call (.builtin "str.startswith") [.str x t, .ref a]) Q E s := startswithT (vs := [.str y1 t1, .str y2 t2]) trivial (hi ▸ hT) h
theorem call_absB {a : Int} (ha : -400 ≤ a) (hb : a ≤ 400) (h : ∀ v u tk, v ≤ 400 → Q (.int v u) { s with toks := tk }) :
    wpAny (model prog w) A (call (.builtin "abs") [.int a t]) Q E s := call_abs_int fun u tk => h _ u tk (by split <;> omega)
theorem pow10 {b : Int} {u : Tok} (ha : 0 ≤ b) (hb : b ≤ 400) (h : Q (.int (10 ^ b.toNat) s.toks) { s with toks := s.toks + 1 }) : wpAny (model prog w) A (binaryOp .Pow (.int 10 t) (.int b u)) Q E s := by
  by_cases h0 : b = 0
  · subst h0
    exact AutoIntOps.pow_0 (by decide) (by decide) h
  · refine AutoIntOps.pow_4 ha (by simpa using h0) (by decide) (by decide) ?_ h
    show ¬ Builtin.Int.intTooBig (((Builtin.Int.intBits 10 : Nat) : Int) * b) = true
    have e : Builtin.Int.intBits 10 = 4 := by decide
    rw [e]
    unfold Builtin.Int.intTooBig
    have : (200000 : Int) ≤ bitsLine := by decide +kernel
    simp only [decide_eq_true_eq]
    omega
theorem mulL {a b : Int} {u : Tok} (ha : Builtin.Int.intBits a ≤ 64) (h : Q (.int (a * b) s.toks) { s with toks := s.toks + 1 }) : wpAny (model prog w) A (binaryOp .Mult (.int a t) (.int b u)) Q E s :=
  AutoIntOps.mul_0 (show (Made.int (a * b)).post Q s from h) (IntMulOk.of_left ha)
theorem mulR {a b : Int} {u : Tok} (ha : Builtin.Int.intBits b ≤ 64) (h : Q (.int (a * b) s.toks) { s with toks := s.toks + 1 }) : wpAny (model prog w) A (binaryOp .Mult (.int a t) (.int b u)) Q E s :=
  AutoIntOps.mul_0 (show (Made.int (a * b)).post Q s from h) (IntMulOk.of_right ha)
theorem inT {y : Str} {u : Tok} (h : Q (.bool (Txt.contains x y)) s) : wpAny (model prog w) A (compareOp .In (.str y u) (.str x t)) Q E s := PyProof.Rows.in_str h
end
section
variable {w : World} {p : Program} {loose : List Str} {mean : ExcName → Option Value} {mg mb : Str → Option Value} {A₀ : Around} {base h₀ : Heap} {outer : List Env} {L : Addr} {m : Str → Option Value} {news : List (Addr × Obj)} {s : Shared} {dp un : Nat} {gd : Option (List Code)} {cn : Str} {cs : Scope} {a : Addr} {ccd : Value} {cl : List (Str × Addr)} {Q E : Value → Shared → Prop}
theorem c_smX {x : Str} {b e man ex : Int} {t1 t2 : Tok}
   (B : Below A₀ base outer h₀) (F : Fr h₀ L s.heap m) (X : (hd.heap_39 w.params).In h₀) (N : News h₀ L s.heap news) (T : Top p loose mean mg mb h₀) (hk : cs.kind = .function) (hdp : dp + 3 < recursionLimit)
   (hb : b = 2 ∨ b = 8 ∨ b = 10 ∨ b = 16) (HS : SmH b x e man) (hex : smExp b x e = ex)
   (ret : Ret2 h₀ L m news s Q man ex) :
  wpAny (model PR w) (ktrTop dp un gd cn cs L a ccd cl outer) (call (.ref 118) [.str x t1, .int b t2]) Q E s := by
  subst hex; exact c_sm B F X N T hk hdp hb HS ret
end
/-- the sizes -/
structure FsS (x : Str) : Prop where
  hx : x.length ≤ 80
theorem FsS.sz {x : Str} (h : FsS x) : x.length ≤ 80 ∧ (Txt.lower x).length ≤ 240 ∧ (fsY x).length ≤ 240 := by
  have h0 := h.hx
  have a1 := len_lower x
  have a2 := len_strip (Txt.lower x)
  exact ⟨h0, by omega, by show (Txt.strip (Txt.lower x)).length ≤ 240; omega⟩
local macro_rules | `(tactic| walk_at "m szs") => `(tactic| ((with_reducible rename FsS _ => HS); obtain ⟨q1, q2, q3⟩ := FsS.sz HS; omega))
structure FsH (b : Int) (x : Str) (e man : Int) : Prop where
  sz : FsS x
  hsp : (spVal (fsY x)).isSome = false
  hb : fsBase (fsY x) = b
  hsl : Txt.contains (fsY x) (Str.ofString "/") = false
  sm : SmH b (fsY x) e man
theorem fsB_2 {y : Str} {b : Int} (hb : fsBase y = b) (h : sw4 y (Str.ofString "0b") (Str.ofString "-0b") (Str.ofString "0B") (Str.ofString "-0B") = true) : 2 = b := by
  rw [← hb, fsBase, if_pos h]
theorem fsB_16 {y : Str} {b : Int} (hb : fsBase y = b) (h : sw4 y (Str.ofString "0b") (Str.ofString "-0b") (Str.ofString "0B") (Str.ofString "-0B") = false) (h2 : sw4 y (Str.ofString "0x") (Str.ofString "-0x") (Str.ofString "0X") (Str.ofString "-0X") = true) : 16 = b := by
  rw [← hb, fsBase, if_neg (Bool.eq_false_iff.mp h), if_pos h2]
theorem fsB_8 {y : Str} {b : Int} (hb : fsBase y = b) (h : sw4 y (Str.ofString "0b") (Str.ofString "-0b") (Str.ofString "0B") (Str.ofString "-0B") = false) (h2 : sw4 y (Str.ofString "0x") (Str.ofString "-0x") (Str.ofString "0X") (Str.ofString "-0X") = false)
   (h3 : sw2 y (Str.ofString "0o") (Str.ofString "-0o") = true) : 8 = b := by
  rw [← hb, fsBase, if_neg (Bool.eq_false_iff.mp h), if_neg (Bool.eq_false_iff.mp h2), if_pos h3]
theorem fsB_10 {y : Str} {b : Int} (hb : fsBase y = b) (h : sw4 y (Str.ofString "0b") (Str.ofString "-0b") (Str.ofString "0B") (Str.ofString "-0B") = false) (h2 : sw4 y (Str.ofString "0x") (Str.ofString "-0x") (Str.ofString "0X") (Str.ofString "-0X") = false)
   (h3 : sw2 y (Str.ofString "0o") (Str.ofString "-0o") = false) : 10 = b := by
  rw [← hb, fsBase, if_neg (Bool.eq_false_iff.mp h), if_neg (Bool.eq_false_iff.mp h2), if_neg (Bool.eq_false_iff.mp h3)]
local macro_rules | `(tactic| walk_at "m eq") => `(tactic| first
  | with_reducible rfl
  | with_reducible exact fsB_2 (by with_reducible assumption) (by with_reducible assumption)
  | with_reducible exact fsB_16 (by with_reducible assumption) (by with_reducible assumption) (by with_reducible assumption)
  | with_reducible exact fsB_8 (by with_reducible assumption) (by with_reducible assumption) (by with_reducible assumption) (by with_reducible assumption)
  | with_reducible exact fsB_10 (by with_reducible assumption) (by with_reducible assumption) (by with_reducible assumption) (by with_reducible assumption))
local macro_rules | `(tactic| walk_at "m call") => `(tactic| first
  | ((with_reducible show wpAny _ _ (call (Value.builtin "str.startswith") [Value.str _ _, Value.ref _] _) _ _ _); first
    | (refine' startswith4 ?k1 ?k2 ?_; (case k1 => exact News.isTup (by k_asm) (by k_mem)); (case k2 => exact rfl))
    | (refine' startswith2 ?k1 ?k2 ?_; (case k1 => exact News.isTup (by k_asm) (by k_mem)); (case k2 => exact rfl)))
  | ((with_reducible show wpAny _ _ (call (Value.builtin "abs") [Value.int _ _] _) _ _ _); ((with_reducible refine' call_absB ?y1 ?y2 ?_); (case y1 => first | assumption | omega); (case y2 => first | assumption | omega)); intro v9 u9 tk9 hv9)
  | ((with_reducible show wpAny _ _ (call (Value.ref 118) _) _ _ _); (refine' c_smX ?k1 ?k2 ?k3 ?k4 ?k5 ?kK ?kd ?p1 ?p2 ?p3 ?_; (case k1 => k_asm); (case k2 => k_asm); (case k3 => k_asm); (case k4 => k_asm); (case k5 => k_asm); (case kK => first | exact rfl | assumption); (case kd => walk_at "m room"); (case p1 => first | assumption | omega); (case p2 => with_reducible assumption); (case p3 => with_reducible assumption)); intro D9 t9 u9 c9 h9 tk9 F9 N9 l9; (try dsimp only); k_sweep))
local macro_rules | `(tactic| walk_at "m cmp") => `(tactic| first
  | ((with_reducible show wpAny _ _ (compareOp CmpOp.In (Value.str _ _) (Value.ref 119)) _ _ _); (refine' sp_in ?k1 ?k2 ?_; (case k1 => k_asm); (case k2 => k_asm)); (try dsimp only))
  | ((with_reducible show wpAny _ _ (compareOp CmpOp.In (Value.str _ _) (Value.str _ _)) _ _ _); (with_reducible refine inT ?_)))
local macro_rules | `(tactic| walk_at "m sub") => `(tactic| ((with_reducible show wpAny _ _ (subscriptTail _ _ (Value.ref 119) (Value.str _ _)) _ _ _); (refine' sp_item ?k1 ?k2 ?k3 ?_; (case k1 => k_asm); (case k2 => k_asm); (case k3 => with_reducible assumption)); (try dsimp only)))
local macro_rules | `(tactic| walk_at "m bin") => `(tactic| first
  | ((with_reducible show wpAny _ _ (binaryOp Operator.Pow (Value.int 10 _) (Value.int _ _)) _ _ _); ((with_reducible refine' pow10 ?y1 ?y2 ?_); (case y1 => omega); (case y2 => omega)))
  | ((with_reducible show wpAny _ _ (binaryOp Operator.Mult (Value.int _ _) (Value.int _ _)) _ _ _); first | ((with_reducible refine' mulL ?y1 ?_); (case y1 => with_reducible assumption)) | ((with_reducible refine' mulR ?y2 ?_); (case y2 => with_reducible assumption))))
theorem fsV10_a {man ex prec : Int} {rnd : Str} (h : ex ≥ 0) : fmeV (man * 10 ^ ex.toNat) 0 prec rnd = fsV10 man ex prec rnd := (if_pos h).symm
theorem fsV10_b {man ex prec : Int} {rnd : Str} (h : ¬ ex ≥ 0) : frV man (10 ^ (-ex).toNat) prec rnd = fsV10 man ex prec rnd := (if_neg h).symm
theorem fsV10_a0 {man ex prec : Int} {rnd : Str} (h : ex ≥ 0) (hz : man * 10 ^ ex.toNat = 0) : (0, 0, 0, 0) = fsV10 man ex prec rnd := by
  rw [← fsV10_a h, fmeV, if_pos hz]
theorem fsV10_b0 {man ex prec : Int} {rnd : Str} (h : ¬ ex ≥ 0) (hz : man = 0) : (0, 0, 0, 0) = fsV10 man ex prec rnd := by
  rw [← fsV10_b h, frV, if_pos hz]
theorem fsV2_a {b man ex prec : Int} {y rnd : Str} (h : Txt.find y (Str.ofString "p") < 0) : fmeV man (ex * ((Builtin.Int.intBits b : Int) - 1)) prec rnd = fsV2 b y man ex prec rnd := (if_pos h).symm
theorem fsV2_b {b man ex prec : Int} {y rnd : Str} (h : ¬ Txt.find y (Str.ofString "p") < 0) : fmeV man ex prec rnd = fsV2 b y man ex prec rnd := (if_neg h).symm
theorem fsV2_a0 {b man ex prec : Int} {y rnd : Str} (h : Txt.find y (Str.ofString "p") < 0) (hz : man = 0) : (0, 0, 0, 0) = fsV2 b y man ex prec rnd := by
  rw [← fsV2_a h, fmeV, if_pos hz]
theorem fsV2_b0 {b man ex prec : Int} {y rnd : Str} (h : ¬ Txt.find y (Str.ofString "p") < 0) (hz : man = 0) : (0, 0, 0, 0) = fsV2 b y man ex prec rnd := by
  rw [← fsV2_b h, fmeV, if_pos hz]
local macro_rules | `(tactic| walk_at "m eqv") => `(tactic| first
  | with_reducible rfl
  | exact fsV10_a (by assumption)
  | exact fsV10_b (by assumption)
  | exact fsV10_a0 (by assumption) (by assumption)
  | exact fsV10_b0 (by assumption) (by assumption)
  | exact fsV2_a (by assumption)
  | exact fsV2_b (by assumption)
  | exact fsV2_a0 (by assumption) (by assumption)
  | exact fsV2_b0 (by assumption) (by assumption))
section
variable {w : World} {p : Program} {loose : List Str} {mean : ExcName → Option Value} {mg mb : Str → Option Value} {A₀ : Around} {base h₀ : Heap} {outer : List Env} {L : Addr} {m : Str → Option Value} {news : List (Addr × Obj)} {s : Shared} {dp un : Nat} {gd : Option (List Code)} {cn : Str} {cs : Scope} {a : Addr} {ccd : Value} {cl : List (Str × Addr)} {Q E : Value → Shared → Prop}
set_option maxHeartbeats 8000000 in
theorem c_fs10 {x : Str} {e man ex prec : Int} {rnd : Str} {t1 t2 t3 : Tok}
   (B : Below A₀ base outer h₀) (F : Fr h₀ L s.heap m) (X : (hd.heap_39 w.params).In h₀) (N : News h₀ L s.heap news) (T : Top p loose mean mg mb h₀) (hk : cs.kind = .function) (hdp : dp + 13 < recursionLimit) (hun : un + 100 < cLine)
   (HF : FsH 10 x e man) (hex : smExp 10 (fsY x) e = ex) (hm : Builtin.Int.intBits man ≤ 64) (he0 : -400 ≤ ex) (he1 : ex ≤ 400) (hp0 : 0 < prec) (hp1 : prec ≤ 1000) (hr : IsRnd rnd)
   (hbig : (Builtin.Int.intBits (mag (man * 10 ^ ex.toNat)) : Int) ≤ 2 ^ 20) (hs1 : Small man) (hs2 : Small (10 ^ (-ex).toNat)) (hq : (0 : Int) < 10 ^ (-ex).toNat)
   (ret : RetT h₀ L m news s Q (fsV10 man ex prec rnd)) :
  wpAny (model PR w) (ktrTop dp un gd cn cs L a ccd cl outer) (call (.ref 127) [.str x t1, .int prec t2, .str rnd t3]) Q E s := by
  obtain ⟨HS0, hsp, hb, hsl, HS⟩ := HF
  have hC1 : CutAt 262 True [(Str.ofString "x", fun t => .str (fsY x) t), (Str.ofString "base", fun t => .int 10 t), (Str.ofString "prec", fun t => .int prec t), (Str.ofString "rnd", fun t => .str rnd t)] := trivial
  revert X; walk_at "m open"
  walk_at "m go"
  all_goals walk_at "m retT"
end
-- F3
section
variable {w : World} {p : Program} {loose : List Str} {mean : ExcName → Option Value} {mg mb : Str → Option Value} {A₀ : Around} {base h₀ : Heap} {outer : List Env} {L : Addr} {m : Str → Option Value} {news : List (Addr × Obj)} {s : Shared} {dp un : Nat} {gd : Option (List Code)} {cn : Str} {cs : Scope} {a : Addr} {ccd : Value} {cl : List (Str × Addr)} {Q E : Value → Shared → Prop}
set_option maxHeartbeats 8000000 in
theorem c_fs2 {x : Str} {b e man ex prec : Int} {rnd : Str} {t1 t2 t3 : Tok}
   (B : Below A₀ base outer h₀) (F : Fr h₀ L s.heap m) (X : (hd.heap_39 w.params).In h₀) (N : News h₀ L s.heap news) (T : Top p loose mean mg mb h₀) (hk : cs.kind = .function) (hdp : dp + 13 < recursionLimit) (hun : un + 100 < cLine)
   (hb4 : b = 2 ∨ b = 8 ∨ b = 10 ∨ b = 16) (hb0 : b ≠ 10)
   (HF : FsH b x e man) (hex : smExp b (fsY x) e = ex) (hp0 : 0 < prec) (hp1 : prec ≤ 1000) (hr : IsRnd rnd)
   (hbig : (Builtin.Int.intBits (mag man) : Int) ≤ 2 ^ 20)
   (ret : RetT h₀ L m news s Q (fsV2 b (fsY x) man ex prec rnd)) :
  wpAny (model PR w) (ktrTop dp un gd cn cs L a ccd cl outer) (call (.ref 127) [.str x t1, .int prec t2, .str rnd t3]) Q E s := by
  obtain ⟨HS0, hsp, hb, hsl, HS⟩ := HF
  have hpw : (2 : Int) ^ ((Builtin.Int.intBits b : Int) - 1).toNat = b := by rcases hb4 with rfl | rfl | rfl | rfl <;> first | decide | exact absurd rfl hb0
  have hb1 : (0 : Int) ≤ (Builtin.Int.intBits b : Int) - 1 := by rcases hb4 with rfl | rfl | rfl | rfl <;> decide
  have hb2 : (Builtin.Int.intBits b : Int) - 1 ≤ 100000 := by rcases hb4 with rfl | rfl | rfl | rfl <;> decide
  have hb3 : Builtin.Int.intBits ((Builtin.Int.intBits b : Int) - 1) ≤ 64 := by rcases hb4 with rfl | rfl | rfl | rfl <;> decide
  have hC1 : CutAt 262 True [(Str.ofString "x", fun t => .str (fsY x) t), (Str.ofString "base", fun t => .int b t), (Str.ofString "prec", fun t => .int prec t), (Str.ofString "rnd", fun t => .str rnd t)] := trivial
  revert X; walk_at "m open"
  walk_at "m go"
  all_goals (first | walk_at "m retT" | exact absurd hpw (by assumption))
end
-- F4
structure FsQ (x y1 y2 : Str) (p q : Int) : Prop where
  sz : FsS x
  hsp : (spVal (fsY x)).isSome = false
  hb : fsBase (fsY x) = 10
  hsl : Txt.contains (fsY x) (Str.ofString "/") = true
  hp : Txt.split (fsY x) (Str.ofString "/") = [y1, y2]
  hl1 : y1.length ≤ 100
  hl2 : y2.length ≤ 100
  h1 : intB? (10 : Int).toNat (Txt.rstripChars y1 (Str.ofString "l")) = some p
  h2 : intB? (10 : Int).toNat (Txt.rstripChars y2 (Str.ofString "l")) = some q
theorem strsAre_2 {vs : List Value} {x y : Str} {l : List Str} (h : StrsAre vs l) (e : l = [x, y]) : ∃ t u, vs = [.str x t, .str y u] := by
  subst e
  rcases h with _ | ⟨x, t, h⟩
  rcases h with _ | ⟨y, u, h⟩
  cases h
  exact ⟨_, _, rfl⟩
theorem frV_0 {p q prec : Int} {rnd : Str} (h : p = 0) : (0, 0, 0, 0) = frV p q prec rnd := (if_pos h).symm
local macro_rules | `(tactic| walk_at "m eqv") => `(tactic| exact frV_0 (by assumption))
theorem unpack_list2 {prog : Program} {w : World} {A : Around} {E : Value → Shared → Prop} {s : Shared} {env : Env} {elts : List PySem.Expr} {k} {pos : Pos} {t : Addr} {v1 v2 : Value} {n : Nat} {h₀ : Heap} {L : Addr} {m : Str → Option Value} {news : List (Addr × Obj)} {Q : Unit → Shared → Prop} (F : Fr h₀ L s.heap m) (N : News h₀ L s.heap news)
    (hm : (t, listOf [v1, v2].toArray n) ∈ news)
    (hh : A.handled = none) (hn : (assignEach elts env).length = 2) (hstar : (assignEach elts env).findIdx? (·.1) = none)
    (h : ∀ h', Fr h₀ L h' m → News h₀ L h' news → wpAny (model prog w) A (assignInOrder ((assignEach elts env).map (·.2)) [v1, v2]) Q E { s with heap := h' }) :
    wpAny (model prog w) A (assign (.Tuple elts k pos) env (.ref t)) Q E s :=
  unpack_listN F N (news_list N hm) hh hn hstar h
section
variable {w : World} {p : Program} {loose : List Str} {mean : ExcName → Option Value} {mg mb : Str → Option Value} {A₀ : Around} {base h₀ : Heap} {outer : List Env} {L : Addr} {m : Str → Option Value} {news : List (Addr × Obj)} {s : Shared} {dp un : Nat} {gd : Option (List Code)} {cn : Str} {cs : Scope} {a : Addr} {ccd : Value} {cl : List (Str × Addr)} {Q E : Value → Shared → Prop}
set_option maxHeartbeats 8000000 in
theorem c_fsW {x : Str} {prec : Int} {rnd : Str} {sa : Addr} {t1 t2 t3 : Tok}
   (B : Below A₀ base outer h₀) (F : Fr h₀ L s.heap m) (X : (hd.heap_39 w.params).In h₀) (N : News h₀ L s.heap news) (T : Top p loose mean mg mb h₀) (hk : cs.kind = .function) (hdp : dp + 13 < recursionLimit) (hun : un + 100 < cLine)
   (HS0 : FsS x) (hsp : spVal (fsY x) = some sa)
   (ret : RetT h₀ L m news s Q (spTup sa)) :
  wpAny (model PR w) (ktrTop dp un gd cn cs L a ccd cl outer) (call (.ref 127) [.str x t1, .int prec t2, .str rnd t3]) Q E s := by
  have hsp' : (spVal (fsY x)).isSome = true := by rw [hsp]; rfl
  revert X; walk_at "m open"
  walk_at "m go"
  all_goals walk_at "m retT"
end
local macro_rules | `(tactic| walk_at "m pre") => `(tactic| first | with_reducible exact FsQ.h1 (by with_reducible assumption) | with_reducible exact FsQ.h2 (by with_reducible assumption))
theorem FsQ.szs {x y1 y2 : Str} {p q : Int} (h : FsQ x y1 y2 p q) : y1.length ≤ 100 ∧ y2.length ≤ 100 ∧ (Txt.rstripChars y1 (Str.ofString "l")).length ≤ 100 ∧ (Txt.rstripChars y2 (Str.ofString "l")).length ≤ 100 := by
  have h1 := h.hl1
  have h2 := h.hl2
  have a1 := len_rstripChars y1 (Str.ofString "l")
  have a2 := len_rstripChars y2 (Str.ofString "l")
  exact ⟨h1, h2, by omega, by omega⟩
local macro_rules | `(tactic| walk_at "m szs") => `(tactic| ((with_reducible rename FsQ _ _ _ _ _ => HS); obtain ⟨q1, q2, q3, q4⟩ := FsQ.szs HS; omega))
section
variable {w : World} {p : Program} {loose : List Str} {mean : ExcName → Option Value} {mg mb : Str → Option Value} {A₀ : Around} {base h₀ : Heap} {outer : List Env} {L : Addr} {m : Str → Option Value} {news : List (Addr × Obj)} {s : Shared} {dp un : Nat} {gd : Option (List Code)} {cn : Str} {cs : Scope} {a : Addr} {ccd : Value} {cl : List (Str × Addr)} {Q E : Value → Shared → Prop}
end
local macro_rules | `(tactic| walk_at "m") => `(tactic| ((with_reducible show wpAny _ _ (assign (Expr.Tuple _ _ _) _ (Value.ref _)) _ _ _); (with_reducible rename FsQ _ _ _ _ _ => HQ); (with_reducible rename StrsAre _ _ => hS); obtain ⟨t8, u8, e8⟩ := strsAre_2 hS (FsQ.hp HQ); subst e8; (refine' unpack_list2 ?F ?N ?T ?k1 ?k2 ?k3 ?_; (case F => k_asm); (case N => k_asm); (case T => exact List.mem_cons_self ..); (case k1 => exact rfl); (case k2 => exact rfl); (case k3 => exact rfl)); intro h' F' N'; (try dsimp only); (try k_sweep)))
section
variable {w : World} {p : Program} {loose : List Str} {mean : ExcName → Option Value} {mg mb : Str → Option Value} {A₀ : Around} {base h₀ : Heap} {outer : List Env} {L : Addr} {m : Str → Option Value} {news : List (Addr × Obj)} {s : Shared} {dp un : Nat} {gd : Option (List Code)} {cn : Str} {cs : Scope} {a : Addr} {ccd : Value} {cl : List (Str × Addr)} {Q E : Value → Shared → Prop}
end
local macro_rules | `(tactic| walk_at "m") => `(tactic| first
  | ((with_reducible show wpAny _ _ (spliced _) _ _ _); walk_at "m spl")
  | ((with_reducible show wpAny _ _ (eval _ _) _ _ _); first
    | ((with_reducible show wpAny _ _ (eval (Expr.Name _ _) _) _ _ _); walk_at "m name")
    | with_reducible refine wpAny_Constant_int ?_
    | with_reducible refine Calls.Constant_str ?_
    | with_reducible refine wpAny_BinOp ?_
    | walk_at "m eval")
  | ((with_reducible show wpAny _ _ (storeName _ _ _) _ _ _); walk_at "m store")
  | ((with_reducible show wpAny _ _ (assignInOrder _ _) _ _ _); first | refine assignInOrder_cons ?_ | refine assignInOrder_nil ?_)
  | ((with_reducible show wpAny _ _ (binaryOp _ _ _) _ _ _); walk_at "m bin")
  | ((with_reducible show wpAny _ _ (newTuple _) _ _ _); (refine' kup_newTuple ?F ?N ?_ ?z; (case F => k_asm); (case N => k_asm); (case z => kmk_size)); intro D' h' F' N' l1; (try k_lt l1); k_sweep)
  | ((with_reducible show wpAny _ _ (exec _ _) _ _ _); walk_at "m exec")
  | with_reducible refine wpAny_execs_nil ?_
  | with_reducible refine bindName_ ?_
  | with_reducible refine PyProof.Rows.assign_Name ?_
  | with_reducible refine neg_int ?_)
section
variable {w : World} {p : Program} {loose : List Str} {mean : ExcName → Option Value} {mg mb : Str → Option Value} {A₀ : Around} {base h₀ : Heap} {outer : List Env} {L : Addr} {m : Str → Option Value} {news : List (Addr × Obj)} {s : Shared} {dp un : Nat} {gd : Option (List Code)} {cn : Str} {cs : Scope} {a : Addr} {ccd : Value} {cl : List (Str × Addr)} {Q E : Value → Shared → Prop}
set_option maxHeartbeats 8000000 in
theorem c_fsQ {x y1 y2 : Str} {p_ q_ prec : Int} {rnd : Str} {t1 t2 t3 : Tok}
   (B : Below A₀ base outer h₀) (F : Fr h₀ L s.heap m) (X : (hd.heap_39 w.params).In h₀) (N : News h₀ L s.heap news) (T : Top p loose mean mg mb h₀) (hk : cs.kind = .function) (hdp : dp + 13 < recursionLimit) (hun : un + 100 < cLine)
   (HQ : FsQ x y1 y2 p_ q_) (hp0 : 0 < prec) (hp1 : prec ≤ 1000) (hr : IsRnd rnd) (hs1 : Small p_) (hs2 : Small q_) (hq : (0 : Int) < q_)
   (ret : RetT h₀ L m news s Q (frV p_ q_ prec rnd)) :
  wpAny (model PR w) (ktrTop dp un gd cn cs L a ccd cl outer) (call (.ref 127) [.str x t1, .int prec t2, .str rnd t3]) Q E s := by
  have HS0 := HQ.sz
  have hsp := HQ.hsp
  have hb := HQ.hb
  have hsl := HQ.hsl
  have hC1 : CutAt 262 True [(Str.ofString "x", fun t => .str (fsY x) t), (Str.ofString "base", fun t => .int 10 t), (Str.ofString "prec", fun t => .int prec t), (Str.ofString "rnd", fun t => .str rnd t)] := trivial
  revert X; walk_at "m open"
  walk_at "m go"
  all_goals walk_at "m retT"
end
-- E4
/-- a text that str_to_man_exp refuses -/
inductive SmBad (b : Int) (x : Str) : Prop
  | a (_ : b = 10) (_ : SmZ 10 x) (_ : (Txt.split (smY x) (smSep 10 (smY x))).length = 3)
  | b (_ : b = 10) (_ : SmZ 10 x) (_ : SmG x) (_ : (Txt.split (smY x) (smSep 10 (smY x))).length = 2)
  | c (e : Int) (_ : B4 b) (_ : SmZ b x) (_ : SmF b x e)
section
variable {w : World} {p : Program} {loose : List Str} {mean : ExcName → Option Value} {mg mb : Str → Option Value} {A₀ : Around} {base h₀ : Heap} {outer : List Env} {L : Addr} {m : Str → Option Value} {news : List (Addr × Obj)} {s : Shared} {dp un : Nat} {gd : Option (List Code)} {cn : Str} {cs : Scope} {a : Addr} {ccd : Value} {cl : List (Str × Addr)} {Q E : Value → Shared → Prop}
theorem f_sm {x : Str} {b : Int} {t1 t2 : Tok}
   (B : Below A₀ base outer h₀) (F : Fr h₀ L s.heap m) (X : (hd.heap_39 w.params).In h₀) (N : News h₀ L s.heap news) (T : Top p loose mean mg mb h₀) (hk : cs.kind = .function) (hdp : dp + 3 < recursionLimit)
   (H : SmBad b x)
   (err : ErrN base h₀ L m (envX cn cs L a ccd cl :: outer) news s E) :
  wpC (model PR w) (ktrTop dp un gd cn cs L a ccd cl outer) (call (.ref 118) [.str x t1, .int b t2]) Q E s := by
  rcases H with ⟨rfl, h1, h2⟩ | ⟨rfl, h1, h2, h3⟩ | ⟨e, h1, h2, h3⟩
  · exact f_smA B F X N T hk hdp h1 h2 err
  · exact f_smB B F X N T hk hdp h1 h2 h3 err
  · exact f_smC B F X N T hk hdp h1 h2 h3 err
end
theorem strsAre_len {vs : List Value} {l : List Str} (h : StrsAre vs l) : vs.length = l.length := by
  induction h with
  | nil => rfl
  | cons _ _ _ ih => simp [ih]
structure FsU (x : Str) : Prop where
  sz : FsS x
  hsp : (spVal (fsY x)).isSome = false
  hb : fsBase (fsY x) = 10
  hsl : Txt.contains (fsY x) (Str.ofString "/") = true
  hp : 2 < (Txt.split (fsY x) (Str.ofString "/")).length
structure FsX (b : Int) (x : Str) : Prop where
  sz : FsS x
  hsp : (spVal (fsY x)).isSome = false
  hb : fsBase (fsY x) = b
  hsl : Txt.contains (fsY x) (Str.ofString "/") = false
  sm : SmBad b (fsY x)
theorem unpack_many2 {prog : Program} {w : World} {A : Around} {E : Value → Shared → Prop} {s : Shared} {env : Env} {elts : List PySem.Expr} {k} {pos : Pos} {t : Addr} {vs : List Value} {n : Nat} {h₀ : Heap} {L : Addr} {m : Str → Option Value} {news : List (Addr × Obj)} {Q : Unit → Shared → Prop} (F : Fr h₀ L s.heap m) (N : News h₀ L s.heap news)
    (hm : (t, listOf vs.toArray n) ∈ news) (hv : 2 < vs.length)
    (hh : A.handled = none) (hn : (assignEach elts env).length = 2) (hstar : (assignEach elts env).findIdx? (·.1) = none)
    (h : ∀ h₁ h' tk e, Fr h₀ L h₁ m → News h₀ L h₁ news → Heap.NewExc h₁ h' e "ValueError" → E (.ref e) { s with heap := h', toks := tk }) :
    wpAny (model prog w) A (assign (.Tuple elts k pos) env (.ref t)) Q E s :=
  unpack_manyN F N (news_list N hm) hh (by rw [hn]; simpa using hv) (by rw [hn]; decide) hstar h
theorem fsu_many {vs : List Value} {x : Str} (h : StrsAre vs (Txt.split (fsY x) (Str.ofString "/"))) (H : FsU x) : 2 < vs.length := by rw [strsAre_len h]; exact H.hp
local macro_rules | `(tactic| walk_at "m") => `(tactic| ((with_reducible show wpAny _ _ (assign (Expr.Tuple _ _ _) _ (Value.ref _)) _ _ _); (with_reducible rename FsU _ => HQ); (with_reducible rename StrsAre _ _ => hS); (refine' unpack_many2 ?F ?N ?T ?hv ?k1 ?k2 ?k3 ?_; (case F => k_asm); (case N => k_asm); (case T => exact List.mem_cons_self ..); (case hv => exact fsu_many hS HQ); (case k1 => exact rfl); (case k2 => exact rfl); (case k3 => exact rfl)); intro g9 h9 tk9 e9 F9 N9 hx9; (try dsimp only); clear hS; (try k_sweep)))
local macro_rules | `(tactic| walk_at "m fail") => `(tactic| ((refine' leave_onSN ?K ?F ?R ?U ?_; (case K => with_reducible assumption); (case F => with_reducible assumption); (case R => assumption); (case U => with_reducible assumption)); intro h9 R9 R8 U9; clear R8))
local macro_rules | `(tactic| walk_at "m callC") => `(tactic| ((with_reducible show wpC _ _ (call (Value.ref 118) _) _ _ _); (refine' f_sm ?k1 ?k2 ?k3 ?k4 ?k5 ?kK ?kd ?p1 ?_; (case k1 => k_asm); (case k2 => k_asm); (case k3 => k_asm); (case k4 => k_asm); (case k5 => k_asm); (case kK => first | exact rfl | assumption); (case kd => walk_at "m room"); (case p1 => with_reducible assumption)); intro g9 e9 h9 tk9 F9 R9 U9; (try dsimp only)))
section
variable {w : World} {p : Program} {loose : List Str} {mean : ExcName → Option Value} {mg mb : Str → Option Value} {A₀ : Around} {base h₀ : Heap} {outer : List Env} {L : Addr} {m : Str → Option Value} {news : List (Addr × Obj)} {s : Shared} {dp un : Nat} {gd : Option (List Code)} {cn : Str} {cs : Scope} {a : Addr} {ccd : Value} {cl : List (Str × Addr)} {Q E : Value → Shared → Prop}
end
local macro_rules | `(tactic| walk_at "m") => `(tactic| first
  | ((with_reducible show wpAny _ _ (spliced _) _ _ _); walk_at "m spl")
  | ((with_reducible show wpAny _ _ (eval _ _) _ _ _); first
    | ((with_reducible show wpAny _ _ (eval (Expr.Name _ _) _) _ _ _); walk_at "m name")
    | with_reducible refine wpAny_Constant_int ?_
    | with_reducible refine Calls.Constant_str ?_
    | with_reducible refine wpAny_BinOp ?_
    | walk_at "m eval")
  | ((with_reducible show wpAny _ _ (storeName _ _ _) _ _ _); walk_at "m store")
  | ((with_reducible show wpAny _ _ (assignInOrder _ _) _ _ _); first | refine assignInOrder_cons ?_ | refine assignInOrder_nil ?_)
  | ((with_reducible show wpAny _ _ (binaryOp _ _ _) _ _ _); walk_at "m bin")
  | ((with_reducible show wpAny _ _ (newTuple _) _ _ _); (refine' kup_newTuple ?F ?N ?_ ?z; (case F => k_asm); (case N => k_asm); (case z => kmk_size)); intro D' h' F' N' l1; (try k_lt l1); k_sweep)
  | ((with_reducible show wpAny _ _ (exec _ _) _ _ _); walk_at "m exec")
  | with_reducible refine wpAny_execs_nil ?_
  | with_reducible refine bindName_ ?_
  | with_reducible refine PyProof.Rows.assign_Name ?_
  | with_reducible refine neg_int ?_)
section
variable {w : World} {p : Program} {loose : List Str} {mean : ExcName → Option Value} {mg mb : Str → Option Value} {A₀ : Around} {base h₀ : Heap} {outer : List Env} {L : Addr} {m : Str → Option Value} {news : List (Addr × Obj)} {s : Shared} {dp un : Nat} {gd : Option (List Code)} {cn : Str} {cs : Scope} {a : Addr} {ccd : Value} {cl : List (Str × Addr)} {Q E : Value → Shared → Prop}
set_option maxHeartbeats 8000000 in
theorem f_fsU {x : Str} {prec : Int} {rnd : Str} {t1 t2 t3 : Tok}
   (B : Below A₀ base outer h₀) (F : Fr h₀ L s.heap m) (X : (hd.heap_39 w.params).In h₀) (N : News h₀ L s.heap news) (T : Top p loose mean mg mb h₀) (hk : cs.kind = .function) (hdp : dp + 13 < recursionLimit)
   (HU : FsU x)
   (err : ErrN base h₀ L m (envX cn cs L a ccd cl :: outer) news s E) :
  wpC (model PR w) (ktrTop dp un gd cn cs L a ccd cl outer) (call (.ref 127) [.str x t1, .int prec t2, .str rnd t3]) Q E s := by
  have HS0 := HU.sz
  have hsp := HU.hsp
  have hb := HU.hb
  have hsl := HU.hsl
  have hC1 : CutAt 262 True [(Str.ofString "x", fun t => .str (fsY x) t), (Str.ofString "base", fun t => .int 10 t)] := trivial
  revert X; walk_at "m openC"
  walk_at "m go"
  all_goals walk_at "m err"
set_option maxHeartbeats 8000000 in
theorem f_fsX {x : Str} {b prec : Int} {rnd : Str} {t1 t2 t3 : Tok}
   (B : Below A₀ base outer h₀) (F : Fr h₀ L s.heap m) (X : (hd.heap_39 w.params).In h₀) (N : News h₀ L s.heap news) (T : Top p loose mean mg mb h₀) (hk : cs.kind = .function) (hdp : dp + 13 < recursionLimit)
   (HF : FsX b x)
   (err : ErrN base h₀ L m (envX cn cs L a ccd cl :: outer) news s E) :
  wpC (model PR w) (ktrTop dp un gd cn cs L a ccd cl outer) (call (.ref 127) [.str x t1, .int prec t2, .str rnd t3]) Q E s := by
  obtain ⟨HS0, hsp, hb, hsl, HS⟩ := HF
  have hC1 : CutAt 262 True [(Str.ofString "x", fun t => .str (fsY x) t), (Str.ofString "base", fun t => .int b t)] := trivial
  have hF1 : FailAt 275 := trivial
  revert X; walk_at "m openC"
  walk_at "m go"
  all_goals walk_at "m err"
end
-- E5
section
variable {prog : Program} {w : World} {A₀ A : Around} {s : Shared} {base h₀ : Heap} {L a : Addr} {m : Str → Option Value} {cn : Str} {cs : Scope} {ccd : Value} {news : List (Addr × Obj)} {K : Frag} {p : Program} {loose : List Str} {mean : ExcName → Option Value} {mg mb : Str → Option Value}
    {R : Result → Shared → Prop} {name qual : Str} {params : Arguments} {body : List Stmt} {scope : Scope} {dV kV doc pm cdv ct oc : Value} {an od : Option Addr} {osl : Array (Option Value)} {f : Addr} {args : Args} {binds : List (Str × Value)}
/-- a call from the claim's own frame, whose end is told by the heap it keeps -/
theorem codeC_defK (B : Below A₀ base [] h₀) (F : Fr h₀ L s.heap m) (X₀ : K.In h₀) (N : News h₀ L s.heap news) (T : Top p loose mean mg mb h₀) (hA : A.frames = some [envOf cn cs L a ccd])
    (ho : K.lookup f = some ⟨oc, od, .func (fnOf name qual params body scope dV kV doc pm an cdv ct), osl⟩) (hcd : codeIn K cdv qual = true) (hroom : A.depth < recursionLimit)
    (hbind : BindsTo s (fnOf name qual params body scope dV kV doc pm an cdv ct) args binds) (hloc : ∀ y ∈ binds, scope.names.lookup y.1 = some .local)
    (h : ∀ g L' h₁, (∀ b o, h₀.get? b = some o → b ∉ [envOf cn cs L a ccd].filterMap (·.frame) ∧ g.get? b = some o) → Fr g L' h₁ (fun y => binds.reverse.lookup y) → News g L' h₁ news → Below A base [envOf cn cs L a ccd] g → K.In g → Top p loose mean mg mb g → KtsDicts ([envOf cn cs L a ccd].filterMap (·.frame)) g →
      wpC (model prog w) (A.deeper (envOf qual scope L' f cdv)) (execs body (envOf qual scope L' f cdv))
        (fun fl s' => R (.ok (.ret (match fl with | .ret v => v | _ => .none))) s')
        (fun e s' => wpAny (model prog w) (A.deeper (envOf qual scope L' f cdv)) (leaving (envOf qual scope L' f cdv) e) (fun _ s'' => R (.error e) s'') (fun e' s'' => R (.error e') s'') s')
        { s with heap := h₁, toks := s.toks + binds.length })
    (hck : cs.kind = .function) (hco : scope.isCoroutine = false) (hgen : scope.isGenerator = false) (hk : scope.kind = .function)
    (hcell : ∀ x ∈ scope.names, x.2 ≠ .cell) : codeC (model prog w) A (.call (.ref f) args) R s := by
  obtain ⟨oL, es, ep, hLg, hLd, hN, hNs, st, B₂⟩ := kts_enter B F N hA hck
  refine codeC_call_function (fd := fnOf name qual params body scope dV kV doc pm an cdv ct) hroom ((X₀.keeps F.keep) _ _ ho) rfl hco hgen rfl (codeRec_of (X₀.keeps F.keep) hcd) (hbind _ _ _ _ ?_)
  refine wpAny_newFunctionEnv hcell hloc (fun h₁ hns hsb => ⟨(T.nolimit.keeps F.keep).fresh _ hsb, codeC_func ?_⟩) hk
  have hk₁ : ∀ b o, s.heap.get? b = some o → h₁.get? b = some o := fun b o e => hsb.extBut b o (Nat.ne_of_lt (Heap.lt_size e)) (Heap.get?_push_of_some _ e)
  have nL₀ : h₀.get? L = none := kts_self F
  refine h _ s.heap.objs.size h₁ (fun b o e => ⟨fun q => ?_, st b o e⟩) ⟨hns, fun b o e => hk₁ b o (of_hideAll _ e), Nat.le_of_eq (hideAll_size _ _)⟩
    (fun q hq => ⟨hk₁ _ _ (N q hq).1, Nat.ne_of_lt (Heap.lt_size (N q hq).1), hideAll_none _ (List.mem_map_of_mem hq)⟩) B₂ (X₀.keeps st) (T.keeps st) (fun b hb => ?_)
  · rcases kts_mem q with z | z
    · rw [z, nL₀] at e
      cases e
    · simp at z
  · rcases kts_mem hb with rfl | z
    · exact ⟨oL, es, ep, hLg, hLd⟩
    · simp at z
end
def Bad (x : Str) : Prop := FsU x ∨ ∃ b, FsX b x
section
variable {w : World} {p : Program} {loose : List Str} {mean : ExcName → Option Value} {mg mb : Str → Option Value} {A₀ : Around} {base h₀ : Heap} {outer : List Env} {L : Addr} {m : Str → Option Value} {news : List (Addr × Obj)} {s : Shared} {dp un : Nat} {gd : Option (List Code)} {cn : Str} {cs : Scope} {a : Addr} {ccd : Value} {cl : List (Str × Addr)} {Q E : Value → Shared → Prop}
theorem f_fs {x : Str} {prec : Int} {rnd : Str} {t1 t2 t3 : Tok}
   (B : Below A₀ base outer h₀) (F : Fr h₀ L s.heap m) (X : (hd.heap_39 w.params).In h₀) (N : News h₀ L s.heap news) (T : Top p loose mean mg mb h₀) (hk : cs.kind = .function) (hdp : dp + 13 < recursionLimit)
   (H : Bad x)
   (err : ErrN base h₀ L m (envX cn cs L a ccd cl :: outer) news s E) :
  wpC (model PR w) (ktrTop dp un gd cn cs L a ccd cl outer) (call (.ref 127) [.str x t1, .int prec t2, .str rnd t3]) Q E s := by
  rcases H with H | ⟨b, H⟩
  · exact f_fsU B F X N T hk hdp H err
  · exact f_fsX B F X N T hk hdp H err
end
theorem keep_turn {fs : List Addr} {h₀ g g' h : Heap} {L : Addr} {m : Str → Option Value} (K : ∀ b o, h₀.get? b = some o → b ∉ fs ∧ g.get? b = some o) (T : KtsTurn fs g g') (F : Fr g' L h m) :
   ∀ b o, h₀.get? b = some o → h.get? b = some o := fun b o e => F.keep b o (T.other b o (K b o e).2 (K b o e).1)
local macro_rules | `(tactic| walk_at "m eval") => `(tactic| with_reducible refine wpAny_Constant_bool ?_)
local macro_rules | `(tactic| walk_at "m callC") => `(tactic| ((with_reducible show wpC _ _ (call (Value.ref 127) _) _ _ _); (refine' f_fs ?k1 ?k2 ?k3 ?k4 ?k5 ?kK ?kd ?p1 ?_; (case k1 => k_asm); (case k2 => k_asm); (case k3 => k_asm); (case k4 => k_asm); (case k5 => k_asm); (case kK => first | exact rfl | assumption); (case kd => walk_at "m room"); (case p1 => with_reducible assumption)); intro g9 e9 h9 tk9 F9 R9 U9; (try dsimp only)))
local macro_rules | `(tactic| walk_at "m") => `(tactic| first
  | ((with_reducible show wpC _ _ (exec (Stmt.Try _ _ _ _ _) _) _ _ _); refine wpC_Try_except ?_)
  | ((with_reducible show wpC _ _ (exec (Stmt.Expr _ _) _) _ _ _); refine wpC_Expr ?_)
  | ((with_reducible show wpC _ _ (execs [] _) _ _ _); refine wpC_execs_nil ?_)
  | ((with_reducible show wpC _ _ (execs (Stmt.Try _ _ _ _ _ :: _) _) _ _ _); refine wpC_execs_cons ?_)
  | ((with_reducible show wpC _ _ (execs (Stmt.Expr _ _ :: _) _) _ _ _); refine wpC_execs_cons ?_)
  | kts_caughtN)
section
variable {w : World} {p : Program} {loose : List Str} {mean : ExcName → Option Value} {mg mb : Str → Option Value} {A₀ : Around} {base h₀ : Heap} {L : Addr} {m : Str → Option Value} {news : List (Addr × Obj)} {s : Shared} {dp un : Nat} {gd : Option (List Code)} {cn : Str} {cs : Scope} {a : Addr} {ccd : Value} {Q E : Value → Shared → Prop}
end
local macro_rules | `(tactic| walk_at "m") => `(tactic| first
  | ((with_reducible show wpAny _ _ (spliced _) _ _ _); walk_at "m spl")
  | ((with_reducible show wpAny _ _ (eval _ _) _ _ _); first
    | ((with_reducible show wpAny _ _ (eval (Expr.Name _ _) _) _ _ _); walk_at "m name")
    | with_reducible refine wpAny_Constant_int ?_
    | with_reducible refine Calls.Constant_str ?_
    | with_reducible refine wpAny_BinOp ?_
    | walk_at "m eval")
  | ((with_reducible show wpAny _ _ (storeName _ _ _) _ _ _); walk_at "m store")
  | ((with_reducible show wpAny _ _ (assignInOrder _ _) _ _ _); first | refine assignInOrder_cons ?_ | refine assignInOrder_nil ?_)
  | ((with_reducible show wpAny _ _ (binaryOp _ _ _) _ _ _); walk_at "m bin")
  | ((with_reducible show wpAny _ _ (newTuple _) _ _ _); (refine' kup_newTuple ?F ?N ?_ ?z; (case F => k_asm); (case N => k_asm); (case z => kmk_size)); intro D' h' F' N' l1; (try k_lt l1); k_sweep)
  | ((with_reducible show wpAny _ _ (exec _ _) _ _ _); walk_at "m exec")
  | with_reducible refine wpAny_execs_nil ?_
  | with_reducible refine bindName_ ?_
  | with_reducible refine PyProof.Rows.assign_Name ?_
  | with_reducible refine neg_int ?_)
section
variable {w : World} {p : Program} {loose : List Str} {mean : ExcName → Option Value} {mg mb : Str → Option Value} {A₀ : Around} {base h₀ : Heap} {L : Addr} {m : Str → Option Value} {news : List (Addr × Obj)} {s : Shared} {dp un : Nat} {gd : Option (List Code)} {cn : Str} {cs : Scope} {a : Addr} {ccd : Value} {Q E : Value → Shared → Prop}
set_option maxHeartbeats 8000000 in
theorem c_refused {x : Str} {prec : Int} {rnd : Str} {t1 t2 t3 : Tok}
   (B : Below A₀ base [] h₀) (F : Fr h₀ L s.heap m) (X : (hd.heap_39 w.params).In h₀) (XB : (hd.heap_39 w.params).In base) (N : News h₀ L s.heap news) (T : Top p loose mean mg mb h₀) (TB : Top p loose mean mg mb base) (hk : cs.kind = .function) (hdp : dp + 16 < recursionLimit)
   (H : Bad x)
   (ret : ∀ h' tk', (∀ b o, h₀.get? b = some o → h'.get? b = some o) → Q (.bool true) { s with heap := h', toks := tk' }) :
  wpC (model PR w) (ktrTop dp un gd cn cs L a ccd [] []) (call (.ref 169) [.str x t1, .int prec t2, .str rnd t3]) Q E s := by
  revert X XB; rw [show PR = Challenge.rw_ah5009_01.row.prog from rfl]; k_fill; intro X XB; refine wpC_call ?_
  k_dflt (refine' codeC_defK ?k1 ?k2 ?k3 ?k4 ?k5 ?kA ?k6 ?k7 ?k8 ?k9 ?kB ?_ ?hck ?c2 ?c3 ?c4 ?c5; (case kA => exact rfl); (case hck => assumption); (case k1 => k_asm); (case k2 => k_asm); (case k3 => k_asm); (case k4 => k_asm); (case k5 => k_asm); (case k6 => k_is); (case k7 => k_is); (case k8 => walk_at "m room"); (case k9 => first | exact BindsTo.of_eq rfl | exact binds_K (by k_in) rfl (by k_is) rfl rfl rfl); (case c5 => decide); (case kB => exact locs rfl); (case c2 => exact rfl); (case c3 => exact rfl); (case c4 => exact rfl); k_whole; intro g' L' h' FG' F' N' B' X' T' KD'; (try dsimp only); (try k_fold))
  clear B F N X T
  have T0 := @KtsTurn.refl ([envOf cn cs L a ccd].filterMap (·.frame)) g'
  walk_at "m go"
  all_goals (dsimp only; exact ret _ _ (keep_turn (by assumption) (by assumption) (by assumption)))
end
end
-- G1
section
variable {prog : Program} {w : World} {A : Around} {E : Value → Shared → Prop} {s : Shared} {Q : Value → Shared → Prop} {a b : Int} {t u : Tok}
theorem fdivC (hb : b ≠ 0) (hp : b.natAbs.log2 < 9000) (h : Q (.int (a.fdiv b) s.toks) { s with toks := s.toks + 1 }) : wpAny (model prog w) A (binaryOp .FloorDiv (.int a t) (.int b u)) Q E s :=
  floordiv_int hb h (Or.inl (PyProof.noPylong_of_log2 hp))
theorem powC {k : Nat} (ha : ¬(a == 0 || a == 1) = true) (ha1 : ¬(a == -1) = true) (h0 : 0 < b) (hk : (Builtin.Int.intBits a : Int) * b ≤ 200000) (h : Q (.int (a ^ b.toNat) s.toks) { s with toks := s.toks + 1 }) :
    wpAny (model prog w) A (binaryOp .Pow (.int a t) (.int b u)) Q E s := by
  refine AutoIntOps.pow_4 (by omega) (by simpa using (by omega : b ≠ 0)) ha ha1 ?_ h
  show ¬ Builtin.Int.intTooBig (((Builtin.Int.intBits a : Nat) : Int) * b) = true
  unfold Builtin.Int.intTooBig
  have : (200000 : Int) ≤ bitsLine := by decide +kernel
  simp only [decide_eq_true_eq]
  omega
theorem item_intsT {value slice : PySem.Expr} {l : Addr} {vs : List Value} {ns : List Int} {k : Int} (hl : s.heap.IsList l vs.toArray) (hi : IntsAre vs ns) (h0 : 0 ≤ k) (h1 : k < ns.length) (hfit : k < 2 ^ 63) (h : ∀ t, Q (.int (ns.getD k.toNat 0) t) s)
    (hs : subscripted slice false (.ref l) (.int k u) = operate [.ref l, .int k u] (getItem (.ref l) (.int k u)) := by with_unfolding_all rfl) :
    wpAny (model prog w) A (subscriptTail value slice (.ref l) (.int k u)) Q E s := by
  have hlt : k.toNat < ns.length := by omega
  obtain ⟨t', e⟩ : ∃ t', vs[k.toNat]? = some (.int (ns.getD k.toNat 0) t') := by
    clear h hs hl h1 hfit
    generalize k.toNat = j at *
    clear h0
    induction hi generalizing j with
    | nil => simp at hlt
    | cons i t' h ih =>
      cases j with
      | zero => exact ⟨_, rfl⟩
      | succ j =>
        have := ih j (by simpa using hlt)
        simpa using this
  exact tail_any hl.typeIs slot_list_getitem.lookup (wpAny_getItem_list hl h0 hfit (x := .int _ t') (by simpa using e) (h t')) hs
end
local macro_rules | `(tactic| walk_at "m bin") => `(tactic| first
  | ((with_reducible show wpAny _ _ (binaryOp Operator.FloorDiv (Value.int _ _) (Value.int _ _)) _ _ _); ((with_reducible refine' fdivC ?y1 ?y2 ?_); (case y1 => first | decide +kernel | with_reducible assumption | omega); (case y2 => first | decide +kernel | assumption)))
  | ((with_reducible show wpAny _ _ (binaryOp Operator.Mod (Value.int _ _) (Value.int _ _)) _ _ _); ((with_reducible refine' mod_int ?y1 ?_); (case y1 => first | decide +kernel | with_reducible assumption | omega)))
  | ((with_reducible show wpAny _ _ (binaryOp Operator.Mult (Value.int _ _) (Value.int _ _)) _ _ _); ((with_reducible refine' mulR ?y1 ?_); (case y1 => first | with_reducible assumption | decide +kernel)))
  | ((with_reducible show wpAny _ _ (binaryOp Operator.Mult (Value.int _ _) (Value.int _ _)) _ _ _); ((with_reducible refine' mulL ?y1 ?_); (case y1 => first | with_reducible assumption | decide +kernel)))
  | ((with_reducible show wpAny _ _ (binaryOp Operator.Pow (Value.int _ _) (Value.int _ _)) _ _ _); ((with_reducible refine' powC (k := 0) ?y1 ?y2 ?y3 ?y4 ?_); (case y1 => decide +kernel); (case y2 => decide +kernel); (case y3 => decide +kernel); (case y4 => decide +kernel))))
theorem fmod_nonneg' {a b : Int} (hb : 0 < b) : 0 ≤ a.fmod b := by
  rw [Int.fmod_eq_emod_of_nonneg _ (by omega)]
  exact Int.emod_nonneg _ (by omega)
section
variable {w : World} {p : Program} {loose : List Str} {mean : ExcName → Option Value} {mg mb : Str → Option Value} {A₀ : Around} {base h₀ : Heap} {outer : List Env} {L : Addr} {m : Str → Option Value} {news : List (Addr × Obj)} {s : Shared} {dp un : Nat} {gd : Option (List Code)} {cn : Str} {cs : Scope} {a : Addr} {ccd : Value} {cl : List (Str × Addr)} {Q E : Value → Shared → Prop}
end
local macro_rules | `(tactic| walk_at "m islist") => `(tactic| ((with_reducible rename Heap.IsList _ _ _ => hL); exact Heap.IsList.at hL (fun o e => Fr.keep (by k_asm) _ o e)))
section
variable {w : World} {p : Program} {loose : List Str} {mean : ExcName → Option Value} {mg mb : Str → Option Value} {A₀ : Around} {base h₀ : Heap} {outer : List Env} {L : Addr} {m : Str → Option Value} {news : List (Addr × Obj)} {s : Shared} {dp un : Nat} {gd : Option (List Code)} {cn : Str} {cs : Scope} {a : Addr} {ccd : Value} {cl : List (Str × Addr)} {Q E : Value → Shared → Prop}
end
local macro_rules | `(tactic| walk_at "m call") => `(tactic| ((with_reducible show wpAny _ _ (call (Value.builtin "len") [Value.ref _] _) _ _ _); (refine' PyProof.Rows.len_list ?k1 ?k2 ?_; (case k1 => walk_at "m islist"); (case k2 => with_reducible assumption))))
section
variable {w : World} {p : Program} {loose : List Str} {mean : ExcName → Option Value} {mg mb : Str → Option Value} {A₀ : Around} {base h₀ : Heap} {outer : List Env} {L : Addr} {m : Str → Option Value} {news : List (Addr × Obj)} {s : Shared} {dp un : Nat} {gd : Option (List Code)} {cn : Str} {cs : Scope} {a : Addr} {ccd : Value} {cl : List (Str × Addr)} {Q E : Value → Shared → Prop}
end
local macro_rules | `(tactic| walk_at "m sub") => `(tactic| ((with_reducible show wpAny _ _ (subscriptTail _ _ (Value.ref _) (Value.int _ _)) _ _ _); (refine' item_intsT ?k1 ?k2 ?k3 ?k4 ?k5 ?_; (case k1 => walk_at "m islist"); (case k2 => with_reducible assumption); (case k3 => omega); (case k4 => omega); (case k5 => omega)); intro t9))
section
variable {w : World} {p : Program} {loose : List Str} {mean : ExcName → Option Value} {mg mb : Str → Option Value} {A₀ : Around} {base h₀ : Heap} {outer : List Env} {L : Addr} {m : Str → Option Value} {news : List (Addr × Obj)} {s : Shared} {dp un : Nat} {gd : Option (List Code)} {cn : Str} {cs : Scope} {a : Addr} {ccd : Value} {cl : List (Str × Addr)} {Q E : Value → Shared → Prop}
set_option maxHeartbeats 8000000 in
theorem c_mixed {l : Addr} {vs : List Value} {ns : List Int} {k : Int} {t2 : Tok}
   (B : Below A₀ base outer h₀) (F : Fr h₀ L s.heap m) (X : (hd.heap_39 w.params).In h₀) (N : News h₀ L s.heap news) (T : Top p loose mean mg mb h₀) (hk : cs.kind = .function) (hdp : dp + 1 < recursionLimit)
   (hL : h₀.IsList l vs.toArray) (hI : IntsAre vs ns) (hs : (vs.toArray.size : Int) < 2 ^ 63) (hvs : vs.toArray.size = ns.length) (hk0 : 0 ≤ k) (hk1 : k < 10)
   (ret : ∀ (v : Int) (t : Tok) (h' : Heap) (tk' : Nat), 0 ≤ v → Fr h₀ L h' m → News h₀ L h' news → Q (.int v t) { s with heap := h', toks := tk' }) :
  wpAny (model PR w) (ktrTop dp un gd cn cs L a ccd cl outer) (call (.ref 134) [.ref l, .int k t2]) Q E s := by
  revert X; walk_at "m open"
  rename Fr h₀ L _ m => FG
  replace hL := Heap.IsList.at hL (fun o e => FG.keep _ o e)
  clear FG
  walk_at "m go"
  all_goals (refine ret _ _ _ _ ?_ (by with_reducible assumption) (by with_reducible assumption); first | exact fmod_nonneg' (by decide +kernel) | (refine' Int.le_trans ?a ?b; (case b => with_reducible assumption); decide +kernel))
end
-- G2
def hexC (d : Nat) : Nat := (Str.ofString "0123456789abcdef").cps.getD d 0
def digStr (ds : List Nat) : Str := ⟨(ds.map hexC).toArray⟩
theorem digStr_len (ds : List Nat) : (digStr ds).length = ds.length := by
  show (ds.map hexC).toArray.size = _
  simp
theorem digStr_snoc (ds : List Nat) (d : Nat) : digStr ds ++ ⟨#[hexC d]⟩ = digStr (ds ++ [d]) := by
  refine PySem.Str.ext' (Array.toList_inj.mp ?_)
  rw [PySem.Str.cps_append, Array.toList_append]
  show (ds.map hexC) ++ [hexC d] = (ds ++ [d]).map hexC
  simp
def figsL (base : Int) : Nat → Int → List Nat
  | 0, _ => []
  | k + 1, r => (r.fmod base).toNat :: figsL base k (r.fdiv base)
theorem figsL_len (base : Int) : ∀ (k : Nat) (r : Int), (figsL base k r).length = k
  | 0, _ => rfl
  | k + 1, r => by simp [figsL, figsL_len base k]
theorem fmod_lt' {a b : Int} (hb : 0 < b) : a.fmod b < b := by
  rw [Int.fmod_eq_emod_of_nonneg _ (by omega)]
  exact Int.emod_lt_of_pos _ hb
theorem figsL_lt {base : Int} (hb : 0 < base) : ∀ (k : Nat) (r : Int), ∀ d ∈ figsL base k r, (d : Int) < base
  | 0, _, d, h => nomatch h
  | k + 1, r, d, h => by
    rcases List.mem_cons.mp h with rfl | h
    · have := fmod_nonneg' (a := r) hb
      have := fmod_lt' (a := r) hb
      omega
    · exact figsL_lt hb k _ d h
theorem B4.pos {b : Int} (h : B4 b) : 0 < b ∧ b ≤ 16 ∧ b ≠ 0 ∧ b.natAbs.log2 < 9000 ∧ Builtin.Int.intBits b ≤ 64 := by
  rcases h with rfl | rfl | rfl | rfl <;> decide +kernel
section
variable {prog : Program} {w : World} {A : Around} {E : Value → Shared → Prop} {s : Shared} {Q : Value → Shared → Prop} {t u : Tok}
theorem hex_item {value slice : PySem.Expr} {r base : Int} (hb : B4 base) (h : ∀ t' k, Q (.str ⟨#[hexC (r.fmod base).toNat]⟩ t') { s with toks := k })
    (hs : ∀ i, subscripted slice false (.str (Str.ofString "0123456789abcdef") t) (.int i u) = operate [.str (Str.ofString "0123456789abcdef") t, .int i u] (getItem (.str (Str.ofString "0123456789abcdef") t) (.int i u)) := by intro i; with_unfolding_all rfl)
    (ht : ∀ r, letTemporaryGo value (.str (Str.ofString "0123456789abcdef") t) r = pure () := by intro _; with_unfolding_all rfl) :
    wpAny (model prog w) A (subscriptTail value slice (.str (Str.ofString "0123456789abcdef") t) (.int (r.fmod base) u)) Q E s := by
  have h0 := fmod_nonneg' (a := r) hb.pos.1
  have h1 := fmod_lt' (a := r) hb.pos.1
  have h2 := hb.pos.2.1
  generalize r.fmod base = i at *
  have hlen : (Str.ofString "0123456789abcdef").length = 16 := by decide
  refine item_str ?_ (by omega) (by rw [hlen]; omega) (fun _ => ?_) (hs _) ht
  · unfold fitsSsize
    have : ∀ k : Fin 16, (decide (-(2 ^ 63) ≤ (k.val : Int)) && decide ((k.val : Int) < 2 ^ 63)) = true := by decide
    first
      | (simp only [Bool.and_eq_true, decide_eq_true_eq]; omega)
      | (obtain ⟨k, rfl⟩ := Int.eq_ofNat_of_zero_le h0; simp; omega)
  · have e : Txt.item (Str.ofString "0123456789abcdef") i = ⟨#[hexC i.toNat]⟩ := by
      obtain ⟨k, rfl⟩ := Int.eq_ofNat_of_zero_le h0
      have hk : k < 16 := by omega
      have : ∀ k : Fin 16, Txt.item (Str.ofString "0123456789abcdef") ((k.val : Nat) : Int) = ⟨#[hexC k.val]⟩ := by decide +kernel
      exact this ⟨k, hk⟩
    rw [e]
    exact h _ _
end
theorem add_hex {prog : Program} {w : World} {A : Around} {E : Value → Shared → Prop} {s : Shared} {Q : Value → Shared → Prop} {t u : Tok} {ds : List Nat} {d : Nat} (hd : (digStr ds).length ≤ 100) (h : ∀ t' k, Q (.str (digStr (ds ++ [d])) t') { s with toks := k }) :
    wpAny (model prog w) A (binaryOp .Add (.str (digStr ds) t) (.str ⟨#[hexC d]⟩ u)) Q E s := by
  refine PyProof.Rows.add_str (fun t' k => ?_) ?_
  · rw [digStr_snoc]; exact h t' k
  · rw [sizeLine_eq]
    have : (⟨#[hexC d]⟩ : Str).length = 1 := rfl
    omega
local macro_rules | `(tactic| walk_at "m bin") => `(tactic| ((with_reducible show wpAny _ _ (binaryOp Operator.Add (Value.str (digStr _) _) (Value.str _ _)) _ _ _); ((with_reducible refine' add_hex ?y1 ?_); (case y1 => omega)); intro t9 k9))
theorem forInvF {prog : Program} {w : World} {A : Around} {s : Shared} {env : Env} {h₀ : Heap} {L : Addr} {m : Str → Option Value} {E : Value → Shared → Prop} {Q : Flow → Shared → Prop} {x : Str} {px pos : Pos} {iter : PySem.Expr} {body : List Stmt} (_F : Fr h₀ L s.heap m) (hx : env.kindOf x = some .local)
    (hp : (env.scope.kind == .class || (env.scope.kind == .module && env.locals != env.globals)) = false)
    (h : wpAny (model prog w) A (eval iter env) (fun xv s₁ => wpAny (model prog w) A (pyIter xv) (fun it s₂ => LoopAtV prog w A h₀ env x body Q E it s₂) E s₁) E s)
    (hs : ∀ x, foldedSetIterable iter env x = pure x := by intro _; rfl)
    (hE : PassesOwn (model prog w) A env E := by passes_own) :
    wpAny (model prog w) A (exec (.For (.Name x px) iter body [] pos) env) Q E s := For_invV h₀ hx hp h hs hE
local macro_rules | `(tactic| walk_at "m exec") => `(tactic| ((with_reducible show wpAny _ _ (exec (Stmt.For (Expr.Name _ _) _ _ [] _) _) _ _ _); (refine' forInvF ?F ?hx ?hp ?_ ?hs ?hE; (case F => k_asm); (case hx => rfl); (case hp => rfl); (case hs => (intro _; rfl)); (case hE => passes_own))))
local macro_rules | `(tactic| walk_at "m call") => `(tactic| ((with_reducible show wpAny _ _ (call (Value.type "range") [Value.int _ _] _) _ _ _); (refine' range1_rows ?F ?N ?_; (case F => k_asm); (case N => k_asm)); intro h' tk9 t9 u9 v9 hr9 F9 N9 kk9; clear kk9; (try dsimp only)))
local macro_rules | `(tactic| walk_at "m sub") => `(tactic| ((with_reducible show wpAny _ _ (subscriptTail _ _ (Value.str _ _) (Value.int (Int.fmod _ _) _)) _ _ _); ((with_reducible refine' hex_item ?y1 ?_); (case y1 => with_reducible assumption)); intro t9 k9))
theorem all2 {m : Str → Option Value} {k1 k2 : Str} {v1 v2 : Value} (h1 : m k1 = some v1) (h2 : m k2 = some v2) : ∀ p ∈ [(k1, v1), (k2, v2)], m p.1 = some p.2 := by
  intro p hp
  rcases List.mem_cons.mp hp with rfl | hp
  · exact h1
  · rcases List.mem_cons.mp hp with rfl | hp
    · exact h2
    · nomatch hp
theorem all1 {m : Str → Option Value} {k1 : Str} {v1 : Value} (h1 : m k1 = some v1) : ∀ p ∈ [(k1, v1)], m p.1 = some p.2 := by
  intro p hp
  rcases List.mem_cons.mp hp with rfl | hp
  · exact h1
  · nomatch hp
theorem ne2 {z k1 k2 : Str} {v1 v2 : Value} (h : ∀ p ∈ [(k1, v1), (k2, v2)], z ≠ p.1) : z ≠ k1 ∧ z ≠ k2 := ⟨h _ (.head _), h _ (.tail _ (.head _))⟩
theorem ne1 {z k1 : Str} {v1 : Value} (h : ∀ p ∈ [(k1, v1)], z ≠ p.1) : z ≠ k1 := h _ (.head _)
theorem small0 {n : Int} (h0 : 0 ≤ n) (h1 : n ≤ 1000) : Builtin.Range.small 0 n 1 = true := small_one (by decide) (by decide) (by omega) (by omega)
theorem size0 {n : Nat} : Builtin.Range.rangeSize 0 (n : Int) 1 = (n : Int) := by rw [rangeSize_nat]; omega
section
variable {w : World} {p : Program} {loose : List Str} {mean : ExcName → Option Value} {mg mb : Str → Option Value} {A₀ : Around} {base h₀ : Heap} {outer : List Env} {L : Addr} {m : Str → Option Value} {news : List (Addr × Obj)} {s : Shared} {dp un : Nat} {gd : Option (List Code)} {cn : Str} {cs : Scope} {a : Addr} {ccd : Value} {cl : List (Str × Addr)} {Q E : Value → Shared → Prop}
set_option maxHeartbeats 8000000 in
theorem c_figs {rich b : Int} {n : Nat} {t1 t2 t3 : Tok}
   (B : Below A₀ base outer h₀) (F : Fr h₀ L s.heap m) (X : (hd.heap_39 w.params).In h₀) (N : News h₀ L s.heap news) (T : Top p loose mean mg mb h₀) (hk : cs.kind = .function) (hdp : dp + 1 < recursionLimit)
   (hB : B4 b) (hn : n ≤ 16)
   (ret : ∀ (t : Tok) (h' : Heap) (tk' : Nat), Fr h₀ L h' m → News h₀ L h' news → Q (.str (digStr (figsL b n rich)) t) { s with heap := h', toks := tk' }) :
  wpAny (model PR w) (ktrTop dp un gd cn cs L a ccd cl outer) (call (.ref 148) [.int rich t1, .int b t2, .int (n : Int) t3]) Q E s := by
  revert X; walk_at "m open"
  have hb0 := hB.pos.2.2.1
  have hb1 := hB.pos.2.2.2.1
  walk_at "m go"
  rename IsRange _ _ _ _ _ _ _ _ => hr
  rename Fr _ _ _ _ => kF
  rename News _ _ _ _ => kN
  refine kst_range (σ := List Nat × Int × Tok × Tok) (fun _ => news) (fun c => [(Str.ofString "found", .str (digStr c.1) c.2.2.1), (Str.ofString "rich", .int c.2.1 c.2.2.2)]) (fun _ => True) []
    (fun pre c => pre.length ≤ n ∧ c.1.length = pre.length ∧ figsL b n rich = c.1 ++ figsL b (n - pre.length) c.2.1) ([], rich, ?tf, ?tr) rfl hr (small0 (by omega) (by omega)) size0 kF kN trivial ?hk ⟨by simp, rfl, rfl⟩ ?_ ?_
  case hk =>
    intro p hp
    simp only [List.mem_cons, List.not_mem_nil, or_false] at hp
    rcases hp with rfl | rfl
    · exact rfl
    · exact rfl
  · intro c pre k t u h tk own hk hlt hoff _ hP kF kN
    obtain ⟨hp1, hp2, hp3⟩ := hP
    obtain ⟨ds, r, tf, tr⟩ := c
    dsimp only [kstB] at hp1 hp2 hp3 kF kN
    have hsz := digStr_len ds
    walk_at "m go"
    rename Fr _ _ _ _ => kF
    rename News _ _ _ _ => kN
    show InvEndN _ _ _ _ _ _ _
    refine kst_end (ds ++ [(r.fmod b).toNat], r.fdiv b, ?tf2, ?tr2) kF kN ?hn ?ho rfl trivial ?hk2 ?hr ?hp
    case hk2 =>
      intro p hp
      simp only [List.mem_cons, List.not_mem_nil, or_false] at hp
      rcases hp with rfl | rfl
      · exact rfl
      · exact rfl
    case hn => exact fun p hp => List.mem_cons_of_mem _ (List.mem_append_left _ hp)
    case ho => exact fun p hp => List.mem_cons_of_mem _ (List.mem_append_right _ hp)
    case hr =>
      intro z hz hp _
      obtain ⟨n1, n2⟩ := ne2 hp
      simp [n1, n2, hz]
    case hp =>
      refine ⟨by simp; omega, by simp; omega, ?_⟩
      rw [hp3]
      have e : n - pre.length = (n - (pre.length + 1)) + 1 := by omega
      rw [e]
      simp [figsL]
  · intro c u h tk _ hP kF kN
    obtain ⟨hp1, hp2, hp3⟩ := hP
    obtain ⟨ds, r, tf, tr⟩ := c
    dsimp only at hp1 hp2 hp3 kF kN
    have e : figsL b n rich = ds := by
      rw [hp3, rangeKs_length, Nat.sub_self]
      simp [figsL]
    rw [e] at ret
    dsimp only
    walk_at "m go"
    exact ret _ _ _ (by with_reducible assumption) (by with_reducible assumption)
end
-- G3
def worth (b : Int) (ds : List Nat) : Int := ds.foldl (fun (a : Int) (d : Nat) => a * b + (d : Int)) 0
theorem worth_snoc (b : Int) (ds : List Nat) (d : Nat) : worth b (ds ++ [d]) = worth b ds * b + d := by simp [worth]
theorem hex_index {prog : Program} {w : World} {A : Around} {E : Value → Shared → Prop} {s : Shared} {Q : Value → Shared → Prop} {t u : Tok} {d : Nat} (hA : A.handled = none) (hd : d < 16) (h : ∀ t' k, Q (.int d t') { s with toks := k }) :
    wpAny (model prog w) A (call (.builtin "str.index") [.str (Str.ofString "0123456789abcdef") t, .str ⟨#[hexC d]⟩ u]) Q E s := by
  have e : ∀ k : Fin 16, Txt.find (Str.ofString "0123456789abcdef") ⟨#[hexC k.val]⟩ = (k.val : Int) := by decide +kernel
  have e' := e ⟨d, hd⟩
  dsimp only at e'
  refine index_or hA (fun h0 => ?_) (fun _ _ => ?_)
  · rw [e'] at h0; omega
  · rw [e']; exact h _ _
theorem code_turn {ds : List Nat} {pre post : List Int} {n : Nat} (h : KStt.codes (digStr ds) = pre ++ (n : Int) :: post) : ∃ d, ds[pre.length]? = some d ∧ n = hexC d := by
  have h1 : (KStt.codes (digStr ds))[pre.length]? = some (n : Int) := by rw [h]; simp
  have h2 : KStt.codes (digStr ds) = ds.map fun d => (hexC d : Int) := by
    show ((ds.map hexC).toArray.toList.map fun c : Nat => (c : Int)) = _
    simp
  rw [h2] at h1
  simp only [List.getElem?_map, Option.map_eq_some_iff] at h1
  obtain ⟨d, hd, e⟩ := h1
  exact ⟨d, hd, by omega⟩
theorem take_snoc {ds : List Nat} {i d : Nat} (h : ds[i]? = some d) : ds.take (i + 1) = ds.take i ++ [d] := by
  rw [List.take_add_one, h]; rfl
local macro_rules | `(tactic| walk_at "m call") => `(tactic| ((with_reducible show wpAny _ _ (call (Value.builtin "str.index") [Value.str _ _, Value.str _ _] _) _ _ _); (refine hex_index rfl (by with_reducible assumption) ?_); intro t9 k9))
section
variable {w : World} {p : Program} {loose : List Str} {mean : ExcName → Option Value} {mg mb : Str → Option Value} {A₀ : Around} {base h₀ : Heap} {outer : List Env} {L : Addr} {m : Str → Option Value} {news : List (Addr × Obj)} {s : Shared} {dp un : Nat} {gd : Option (List Code)} {cn : Str} {cs : Scope} {a : Addr} {ccd : Value} {cl : List (Str × Addr)} {Q E : Value → Shared → Prop}
set_option maxHeartbeats 8000000 in
theorem c_worth {ds : List Nat} {b : Int} {t1 t2 : Tok}
   (B : Below A₀ base outer h₀) (F : Fr h₀ L s.heap m) (X : (hd.heap_39 w.params).In h₀) (N : News h₀ L s.heap news) (T : Top p loose mean mg mb h₀) (hk : cs.kind = .function) (hdp : dp + 1 < recursionLimit)
   (hB : B4 b) (hds : ∀ d ∈ ds, d < 16)
   (ret : ∀ (t : Tok) (h' : Heap) (tk' : Nat), Fr h₀ L h' m → News h₀ L h' news → Q (.int (worth b ds) t) { s with heap := h', toks := tk' }) :
  wpAny (model PR w) (ktrTop dp un gd cn cs L a ccd cl outer) (call (.ref 155) [.str (digStr ds) t1, .int b t2]) Q E s := by
  revert X; walk_at "m open"
  have hb2 := hB.pos.2.2.2.2
  walk_at "m go"
  rename Fr _ _ _ _ => kF
  rename News _ _ _ _ => kN
  refine KStt.kst_text (σ := Int × Tok) (fun _ => news) (fun c => [(Str.ofString "found", .int c.1 c.2)]) (fun _ => True) []
    (fun pre c => pre.length ≤ ds.length ∧ c.1 = worth b (ds.take pre.length)) (0, ?tf) rfl kF kN trivial ?hk ⟨by simp, rfl⟩ ?_ ?_
  case hk =>
    intro p hp
    simp only [List.mem_cons, List.not_mem_nil, or_false] at hp
    subst hp
    exact rfl
  · intro c pre post n t u h tk own hcd hoff _ hP kF kN
    obtain ⟨hp1, hp2⟩ := hP
    obtain ⟨f, tf⟩ := c
    obtain ⟨d, hd, rfl⟩ := code_turn hcd
    have hd16 := hds d (List.mem_of_getElem? hd)
    dsimp only [kstB] at hp1 hp2 kF kN
    clear hcd
    walk_at "m go"
    rename Fr _ _ _ _ => kF
    rename News _ _ _ _ => kN
    show InvEndN _ _ _ _ _ _ _
    refine kst_end (f * b + d, ?tf2) kF kN ?hn ?ho rfl trivial ?hk2 ?hr ?hp
    case hk2 =>
      intro p hp
      simp only [List.mem_cons, List.not_mem_nil, or_false] at hp
      subst hp
      exact rfl
    case hn => exact fun p hp => List.mem_append_left _ hp
    case ho => exact fun p hp => List.mem_append_right _ hp
    case hr =>
      intro z hz hp _
      have n1 := ne1 hp
      simp [n1, hz]
    case hp =>
      have hlt : pre.length < ds.length := (List.getElem?_eq_some_iff.mp hd).1
      refine ⟨by simp; omega, ?_⟩
      rw [List.length_append, List.length_singleton, take_snoc hd, worth_snoc, ← hp2]
  · intro c u h tk _ hP kF kN
    obtain ⟨hp1, hp2⟩ := hP
    obtain ⟨f, tf⟩ := c
    dsimp only [kstB] at hp1 hp2 kF kN
    have e : worth b ds = f := by
      rw [hp2, KStt.codes_length, digStr_len, List.take_length]
    rw [e] at ret
    dsimp only
    walk_at "m go"
    exact ret _ _ _ (by with_reducible assumption) (by with_reducible assumption)
end
-- G4
theorem cut_asg {M : Model} {A : Around} {ts : List PySem.Expr} {v : PySem.Expr} {pos : Pos} {rest : List Stmt} {env : Env} {Q : Flow → Shared → Prop} {E : Value → Shared → Prop} {s : Shared} {g : Heap} {L : Addr} {m₀ : Str → Option Value} {news : List (Addr × Obj)} {k : Nat} {P : Prop} {ns : List (Str × (Tok → Value))}
   (_hl : pos.line = k) (_hC : CutAt k P ns) (_F : Fr g L s.heap m₀) (_N : News g L s.heap news)
   (h1 : wpAny M A (exec (.Assign ts v pos) env) (Cut g L news s P ns) E s)
   (h2 : P → ∀ m h tk, News g L h news → JElim g L h (wpAny M A (execs rest env) Q E { s with heap := h, toks := tk }) ns m) :
   wpAny M A (execs (.Assign ts v pos :: rest) env) Q E s := by
  refine wpAny_execs_cons (wpAny_mono h1 (fun fl s' hc => ?_) fun _ _ y => y)
  obtain ⟨rfl, hP, m, h, tk, rfl, F, N⟩ := hc
  exact jelim (h2 hP m h tk N) F
local macro_rules | `(tactic| walk_at "m cut") => `(tactic| ((with_reducible show wpAny _ _ (execs (Stmt.Assign _ _ _ :: _) _) _ _ _); with_reducible refine' cut_asg rfl ?hC ?F ?N ?_ ?_; (case hC => with_reducible assumption); (case F => k_asm); (case N => k_asm); rotate_left; (intro hP' m' h' tk' N'; (try dsimp only [JElim]); intros; k_sweep)))
theorem jfr_bool {g h : Heap} {L : Addr} {x : Str} {m : Str → Option Value} {r : List (Str × (Tok → Value))} {i j : Bool}
    (e : m x = some (.bool i)) (hij : i = j) (k : JFr g L h r m) : JFr g L h ((x, fun _ => .bool j) :: r) m := by
  subst hij
  exact ⟨0, by dsimp only; rw [map_self e]; exact k⟩
local macro_rules | `(tactic| walk_at "m jfr") => `(tactic| first
  | ((with_reducible show JFr _ _ _ ((_, fun t => Value.int _ t) :: _) _); (refine' jfr_int ?a ?b ?_; (case a => exact rfl); (case b => walk_at "m eq"); walk_at "m jfr"))
  | ((with_reducible show JFr _ _ _ ((_, fun t => Value.str _ t) :: _) _); (refine' jfr_str ?a ?b ?_; (case a => exact rfl); (case b => walk_at "m eq"); walk_at "m jfr"))
  | ((with_reducible show JFr _ _ _ ((_, fun _ => Value.bool _) :: _) _); (refine' jfr_bool ?a ?b ?_; (case a => exact rfl); (case b => walk_at "m eq"); walk_at "m jfr"))
  | ((with_reducible show JFr _ _ _ [] _); (refine' jfr_nil ?a; (case a => k_asm))))
section
variable {prog : Program} {w : World} {A : Around} {E : Value → Shared → Prop} {Q : Flow → Shared → Prop} {s : Shared} {env : Env} {h₀ : Heap} {L : Addr}
def WEnd {σ : Type} (h₀ : Heap) (L : Addr) (news : List (Addr × Obj)) (m₀ : Str → Option Value) (ps : σ → List (Str × Value)) (Inv : σ → Prop) (meas : σ → Nat) (n : Nat) (s : Shared) (f : Flow) (s₃ : Shared) : Prop :=
  f = .next ∧ ∃ c' h' tk m' news', s₃ = { s with heap := h', toks := tk } ∧ Fr h₀ L h' m' ∧ News h₀ L h' news' ∧ (∀ p ∈ news, p ∈ news') ∧ (∀ p ∈ ps c', m' p.1 = some p.2) ∧ (∀ z, (∀ p ∈ ps c', z ≠ p.1) → m' z = m₀ z) ∧ Inv c' ∧ meas c' < n
theorem wend {σ : Type} {news news' : List (Addr × Obj)} {m₀ m' : Str → Option Value} {ps : σ → List (Str × Value)} {Inv : σ → Prop} {meas : σ → Nat} {n : Nat} {h' : Heap} {tk : Nat} (c' : σ) (F : Fr h₀ L h' m') (N : News h₀ L h' news') (hn : ∀ p ∈ news, p ∈ news')
   (hk : ∀ p ∈ ps c', m' p.1 = some p.2) (hr : ∀ z, (∀ p ∈ ps c', z ≠ p.1) → m' z = m₀ z) (hi : Inv c') (hm : meas c' < n) : WEnd h₀ L news m₀ ps Inv meas n s .next { s with heap := h', toks := tk } :=
  ⟨rfl, c', h', tk, m', news', rfl, F, N, hn, hk, hr, hi, hm⟩
theorem while_names {σ : Type} {test : PySem.Expr} {body : List Stmt} {pos : Pos} {m₀ : Str → Option Value} {news : List (Addr × Obj)} (ps : σ → List (Str × Value)) (Inv : σ → Prop) (meas : σ → Nat) (c₀ : σ)
    (F : Fr h₀ L s.heap m₀) (N : News h₀ L s.heap news) (hk : ∀ p ∈ ps c₀, m₀ p.1 = some p.2) (hi : Inv c₀)
    (turn : ∀ c h tk, Inv c → Fr h₀ L h (kstB m₀ (ps c)) → News h₀ L h news →
      wpAny (model prog w) A (isTrue test env (eval test env)) (fun b s₂ =>
        if b = true then wpAny (model prog w) A (execs body env) (WEnd h₀ L news m₀ ps Inv meas (meas c) { s with heap := h, toks := tk }) E s₂ else Q .next s₂) E { s with heap := h, toks := tk })
    (hE : PassesOwn (model prog w) A env E := by passes_own) :
    wpAny (model prog w) A (exec (.While test body [] pos) env) Q E s := by
  refine While_inv (fun n m nx => nx = news ∧ ∃ c, n = meas c ∧ Inv c ∧ (∀ p ∈ ps c, m p.1 = some p.2) ∧ (∀ z, (∀ p ∈ ps c, z ≠ p.1) → m z = m₀ z)) F N ⟨rfl, c₀, rfl, hi, hk, fun _ _ => rfl⟩ ?_ hE
  rintro n m₁ news₁ h₁ tk₁ F₁ N₁ ⟨rfl, c, rfl, hi, hk, hr⟩
  have e : m₁ = kstB m₀ (ps c) := by
    funext z
    exact (kstB_eq hk fun hn => (hr z hn).symm).symm
  rw [e] at F₁
  refine wpAny_mono (turn c h₁ tk₁ hi F₁ N₁) (fun b s₂ h₂ => ?_) fun _ _ y => y
  split
  · rename_i hb
    rw [if_pos hb] at h₂
    refine wpAny_mono h₂ (fun f s₃ h₃ => ?_) fun _ _ y => y
    obtain ⟨rfl, c', h', tk, m', news', rfl, F', N', hn, hk', hr', hi', hm⟩ := h₃
    exact WhileStep.intro F' (fun p hp => N' p (hn p hp)) hm ⟨rfl, c', rfl, hi', hk', hr'⟩
  · rename_i hb
    rw [if_neg hb] at h₂
    exact h₂
end
/-- the law's own rounding -/
def lowA (below e : Int) : Int := if e > 0 then below * 2 ^ e.toNat else below
def numA (size e : Int) : Int := if e < 0 then size * 2 ^ (-e).toNat else size
def whA (size below e : Int) : Int := (numA size e).fdiv (lowA below e)
def rsA (size below e : Int) : Int := (numA size e).fmod (lowA below e)
def e0A (size below prec : Int) : Int := (Builtin.Int.intBits size : Int) - Builtin.Int.intBits below - prec - 1
def eA (size below prec : Int) : Int := if whA size below (e0A size below prec + 1) < 2 ^ prec.toNat then e0A size below prec + 1 else e0A size below prec + 2
def aw0 (rnd : Str) (sign : Int) : Bool := (rnd == Str.ofString "u") || (((rnd == Str.ofString "c") && (sign == 0)) || ((rnd == Str.ofString "f") && (sign == 1)))
def awayA (rnd : Str) (sign W R low : Int) : Bool :=
  if (rnd == Str.ofString "n") = true then (decide (low < 2 * R) || ((2 * R == low) && (W.fmod 2 == 1))) else aw0 rnd sign
section
variable {rnd : Str} {sign W R low : Int}
theorem awP1 (h : (rnd == Str.ofString "u") = true) : (rnd == Str.ofString "u") = aw0 rnd sign := by unfold aw0; rw [h]; rfl
theorem awP2 (h : (rnd == Str.ofString "u") = false) (h1 : (rnd == Str.ofString "c") = true) (h2 : sign = 0) : (sign == 0) = aw0 rnd sign := by
  unfold aw0; rw [h, h1, h2]; rfl
theorem awP3 (h : (rnd == Str.ofString "u") = false) (h1 : (rnd == Str.ofString "c") = true) (h2 : sign ≠ 0) (h3 : (rnd == Str.ofString "f") = false) : (rnd == Str.ofString "f") = aw0 rnd sign := by
  unfold aw0; rw [h, h1, h3, beq_eq_false_iff_ne.mpr h2]; rfl
theorem awP4 (h : (rnd == Str.ofString "u") = false) (h2 : sign ≠ 0) (h3 : (rnd == Str.ofString "f") = true) : (sign == 1) = aw0 rnd sign := by
  unfold aw0; rw [h, h3, beq_eq_false_iff_ne.mpr h2]; simp
theorem awP5 (h : (rnd == Str.ofString "u") = false) (h1 : (rnd == Str.ofString "c") = false) (h3 : (rnd == Str.ofString "f") = false) : (rnd == Str.ofString "f") = aw0 rnd sign := by
  unfold aw0; rw [h, h1, h3]; rfl
theorem awP6 (h : (rnd == Str.ofString "u") = false) (h1 : (rnd == Str.ofString "c") = false) (h3 : (rnd == Str.ofString "f") = true) : (sign == 1) = aw0 rnd sign := by
  unfold aw0; rw [h, h1, h3]; rfl
theorem awQ1 (h : (rnd == Str.ofString "n") = true) (h1 : low < 2 * R) : decide (low < 2 * R) = awayA rnd sign W R low := by
  unfold awayA; rw [if_pos h, decide_eq_true h1]; rfl
theorem awQ2 (h : (rnd == Str.ofString "n") = true) (h1 : ¬ low < 2 * R) (h2 : 2 * R ≠ low) : (2 * R == low) = awayA rnd sign W R low := by
  unfold awayA; rw [if_pos h, decide_eq_false h1, beq_eq_false_iff_ne.mpr h2]; rfl
theorem awQ3 (h : (rnd == Str.ofString "n") = true) (h1 : ¬ low < 2 * R) (h2 : 2 * R = low) : (W.fmod 2 == 1) = awayA rnd sign W R low := by
  unfold awayA; rw [if_pos h, decide_eq_false h1, beq_iff_eq.mpr h2]; rfl
theorem awQ4 (h : (rnd == Str.ofString "n") = false) : aw0 rnd sign = awayA rnd sign W R low := (if_neg (ne_true_of_eq_false h)).symm
end
local macro_rules | `(tactic| walk_at "m eq") => `(tactic| first
  | with_unfolding_none exact rfl
  | ((with_unfolding_none refine awP1 ?_) <;> with_reducible assumption)
  | ((with_unfolding_none refine awP2 ?_ ?_ ?_) <;> with_reducible assumption)
  | ((with_unfolding_none refine awP3 ?_ ?_ ?_ ?_) <;> with_reducible assumption)
  | ((with_unfolding_none refine awP4 ?_ ?_ ?_) <;> with_reducible assumption)
  | ((with_unfolding_none refine awP5 ?_ ?_ ?_) <;> with_reducible assumption)
  | ((with_unfolding_none refine awP6 ?_ ?_ ?_) <;> with_reducible assumption)
  | ((with_unfolding_none refine awQ1 ?_ ?_) <;> with_reducible assumption)
  | ((with_unfolding_none refine awQ2 ?_ ?_ ?_) <;> with_reducible assumption)
  | ((with_unfolding_none refine awQ3 ?_ ?_ ?_) <;> with_reducible assumption)
  | ((with_unfolding_none refine awQ4 ?_) <;> with_reducible assumption)
  | with_reducible rfl
  | ((with_reducible refine awP1 ?_) <;> with_reducible assumption)
  | ((with_reducible refine awP2 ?_ ?_ ?_) <;> with_reducible assumption)
  | ((with_reducible refine awP3 ?_ ?_ ?_ ?_) <;> with_reducible assumption)
  | ((with_reducible refine awP4 ?_ ?_ ?_) <;> with_reducible assumption)
  | ((with_reducible refine awP5 ?_ ?_ ?_) <;> with_reducible assumption)
  | ((with_reducible refine awP6 ?_ ?_ ?_) <;> with_reducible assumption)
  | ((with_reducible refine awQ1 ?_ ?_) <;> with_reducible assumption)
  | ((with_reducible refine awQ2 ?_ ?_ ?_) <;> with_reducible assumption)
  | ((with_reducible refine awQ3 ?_ ?_ ?_) <;> with_reducible assumption)
  | ((with_reducible refine awQ4 ?_) <;> with_reducible assumption)
  | (unfold sgn; split <;> omega)
  | (unfold mag; split <;> omega))
def wA (rnd : Str) (sign size below prec : Int) : Int :=
  if awayA rnd sign (whA size below (eA size below prec)) (rsA size below (eA size below prec)) (lowA below (eA size below prec)) = true ∧ 0 < rsA size below (eA size below prec)
  then whA size below (eA size below prec) + 1 else whA size below (eA size below prec)
/-- what is asked ahead of a call of _law_rounded -/
structure RdOk (size below prec : Int) : Prop where
  b0 : 0 < below
  p0 : 1 ≤ prec
  p1 : prec ≤ 90
  e1 : -5000 ≤ e0A size below prec
  e2 : e0A size below prec ≤ 5000
  m1 : ∀ k : Nat, k ≤ 6000 → IntMulOk below (2 ^ k)
  m2 : ∀ k : Nat, k ≤ 6000 → IntMulOk size (2 ^ k)
  lg : ∀ e : Int, e ≤ 6000 → (lowA below e).natAbs.log2 < 9000
  tm : whA size below (e0A size below prec + 2) < 2 ^ prec.toNat
  ps : 0 < whA size below (eA size below prec)
theorem lowA_ne {below e : Int} (h : 0 < below) : lowA below e ≠ 0 := by
  unfold lowA
  split
  · exact Int.ne_of_gt (Int.mul_pos h (Int.pow_pos (by decide)))
  · omega
-- G5
section
theorem pow2k {prog : Program} {w : World} {A : Around} {E : Value → Shared → Prop} {s : Shared} {Q : Value → Shared → Prop} {t u : Tok} {b : Int} (h0 : 0 ≤ b) (h1 : b ≤ 100000) (h : Q (.int (2 ^ b.toNat) s.toks) { s with toks := s.toks + 1 }) : wpAny (model prog w) A (binaryOp .Pow (.int 2 t) (.int b u)) Q E s := pow2_int h0 h1 h
theorem mulH {prog : Program} {w : World} {A : Around} {E : Value → Shared → Prop} {s : Shared} {Q : Value → Shared → Prop} {t u : Tok} {a : Int} {k : Nat} (hm : ∀ k : Nat, k ≤ 6000 → IntMulOk a (2 ^ k)) (hk : k ≤ 6000) (h : Q (.int (a * 2 ^ k) s.toks) { s with toks := s.toks + 1 }) : wpAny (model prog w) A (binaryOp .Mult (.int a t) (.int (2 ^ k) u)) Q E s :=
  AutoIntOps.mul_0 (show (Made.int (a * 2 ^ k)).post Q s from h) (hm k hk)
theorem lowA_1 {below e : Int} (h : 0 < e) : below * 2 ^ e.toNat = lowA below e := (if_pos h).symm
theorem lowA_2 {below e : Int} (h : ¬ 0 < e) : below = lowA below e := (if_neg h).symm
local macro_rules | `(tactic| walk_at "m low") => `(tactic| first | assumption | (rw [lowA_1 (by assumption)]; assumption) | (rw [lowA_2 (by assumption)]; assumption))
theorem pylong_low {a b : Int} (h : b.natAbs.log2 < 9000) : Builtin.divisionGoesByPylong a b = false := PyProof.noPylong_of_log2 h
theorem divA {prog : Program} {w : World} {A : Around} {E : Value → Shared → Prop} {s : Shared} {Q : Value → Shared → Prop} {t u : Tok} {a b below e : Int} {h₀ : Heap} {L : Addr} {m : Str → Option Value} {news : List (Addr × Obj)} (F : Fr h₀ L s.heap m) (N : News h₀ L s.heap news) (hb : 0 < below) (hl : (lowA below e).natAbs.log2 < 9000) (hbe : b = lowA below e)
    (h : ∀ h', Fr h₀ L h' m → News h₀ L h' ((s.heap.objs.size, { cls := .type "tuple", data := .seq #[.int (a.fdiv (lowA below e)) s.toks, .int (a.fmod (lowA below e)) (s.toks + 1)] }) :: news) →
      Q (.ref s.heap.objs.size) { s with toks := s.toks + 1 + 1, heap := h' }) :
    wpAny (model prog w) A (call (.builtin "divmod") [.int a t, .int b u]) Q E s := by
  subst hbe
  exact divmod_N F N (lowA_ne hb) h (Or.inl (PyProof.noPylong_of_log2 hl))
local macro_rules | `(tactic| walk_at "m call") => `(tactic| ((with_reducible show wpAny _ _ (call (Value.builtin "divmod") [Value.int _ _, Value.int _ _] _) _ _ _); (first
  | refine' divA ?F ?N ?hb ?hl (lowA_1 (by with_reducible assumption)) ?_
  | refine' divA ?F ?N ?hb ?hl (lowA_2 (by with_reducible assumption)) ?_); ((case F => k_asm); (case N => k_asm); (case hb => with_reducible assumption); (case hl => exact RdOk.lg (by with_reducible assumption) _ (by omega)); intro h' F' N'; (try dsimp only); k_sweep)))
local macro_rules | `(tactic| walk_at "m bin") => `(tactic| first
  | ((with_reducible show wpAny _ _ (binaryOp Operator.Pow (Value.int 2 _) (Value.int _ _)) _ _ _); ((with_reducible refine' pow2k ?y1 ?y2 ?_); (case y1 => omega); (case y2 => omega)))
  | ((with_reducible show wpAny _ _ (binaryOp Operator.Mult (Value.int _ _) (Value.int (2 ^ _) _)) _ _ _); ((with_reducible refine' mulH ?y1 ?y2 ?_); (case y1 => with_reducible assumption); (case y2 => omega))))
local macro_rules | `(tactic| walk_at "m ite") => `(tactic| ((with_reducible refine split_ieq ?_ ?_) <;> (intro hc; try (exfalso; omega))))
local macro_rules | `(tactic| walk_at "m goI") => `(tactic| repeat' (first | ((fail_if_success (with_reducible show ite _ _ _)); first | walk_at "m" | (k_unfold; (try dsimp only)) | (dsimp only; walk_at "m"))))
abbrev CL := Nat × Int × Int × Int × Int × Tok × Tok × Tok × Tok
def clInv (size below prec : Int) (c : CL) : Prop :=
  (c.1 = 2 ∧ c.2.1 = e0A size below prec ∧ c.2.2.1 = 2 ^ prec.toNat) ∨
  (c.1 = 1 ∧ c.2.1 = e0A size below prec + 1 ∧ c.2.2.1 = whA size below c.2.1 ∧ c.2.2.2.1 = rsA size below c.2.1 ∧ c.2.2.2.2.1 = lowA below c.2.1) ∨
  (c.1 = 0 ∧ c.2.1 = e0A size below prec + 2 ∧ c.2.2.1 = whA size below c.2.1 ∧ c.2.2.2.1 = rsA size below c.2.1 ∧ c.2.2.2.2.1 = lowA below c.2.1 ∧ ¬ whA size below (e0A size below prec + 1) < 2 ^ prec.toNat)
theorem numA_1 {size e : Int} (h : e < 0) : size * 2 ^ (-e).toNat = numA size e := (if_pos h).symm
theorem numA_2 {size e : Int} (h : ¬ e < 0) : size = numA size e := (if_neg h).symm
theorem cl_step {size below prec e wh rs lo w' r' l' : Int} {st : Nat} {ta tb tc td ta' tb' tc' td' : Tok} (hi : clInv size below prec (st, e, wh, rs, lo, ta, tb, tc, td)) (hst : st ≠ 0 ∧ (st ≠ 2 → ¬ whA size below (e0A size below prec + 1) < 2 ^ prec.toNat))
   (hw : w' = whA size below (e + 1)) (hr : r' = rsA size below (e + 1)) (hl : l' = lowA below (e + 1)) : clInv size below prec (st - 1, e + 1, w', r', l', ta', tb', tc', td') := by
  rcases hi with ⟨h0, h1, _⟩ | ⟨h0, h1, _⟩ | ⟨h0, h1, _⟩
  · dsimp only at h0 h1
    exact Or.inr (Or.inl ⟨by dsimp only; omega, by dsimp only; omega, hw, hr, hl⟩)
  · dsimp only at h0 h1
    exact Or.inr (Or.inr ⟨by dsimp only; omega, by dsimp only; omega, hw, hr, hl, hst.2 (by omega)⟩)
  · dsimp only at h0
    exact absurd h0 hst.1
theorem cl_exit {size below prec e wh rs lo : Int} {st : Nat} {ta tb tc td : Tok} (hi : clInv size below prec (st, e, wh, rs, lo, ta, tb, tc, td)) (hc : ¬ 2 ^ prec.toNat ≤ wh) :
   e = eA size below prec ∧ wh = whA size below (eA size below prec) ∧ rs = rsA size below (eA size below prec) ∧ lo = lowA below (eA size below prec) := by
  rcases hi with ⟨_, _, h2⟩ | ⟨_, h1, h2, h3, h4⟩ | ⟨_, h1, h2, h3, h4, h5⟩
  · dsimp only at h2
    exact absurd (Int.le_of_eq h2.symm) hc
  · dsimp only at h1 h2 h3 h4
    have e1 : eA size below prec = e0A size below prec + 1 := if_pos (by rw [← h1, ← h2]; omega)
    rw [e1, ← h1]
    exact ⟨rfl, h2, h3, h4⟩
  · dsimp only at h1 h2 h3 h4 h5
    have e1 : eA size below prec = e0A size below prec + 2 := if_neg h5
    rw [e1, ← h1]
    exact ⟨rfl, h2, h3, h4⟩
section
variable {rnd : Str} {sign size below prec : Int}
theorem wA_1 (h1 : awayA rnd sign (whA size below (eA size below prec)) (rsA size below (eA size below prec)) (lowA below (eA size below prec)) = true) (h2 : 0 < rsA size below (eA size below prec)) : whA size below (eA size below prec) + 1 = wA rnd sign size below prec := (if_pos ⟨h1, h2⟩).symm
theorem wA_2 (h1 : awayA rnd sign (whA size below (eA size below prec)) (rsA size below (eA size below prec)) (lowA below (eA size below prec)) = false) : whA size below (eA size below prec) = wA rnd sign size below prec := (if_neg (fun q => absurd q.1 (ne_true_of_eq_false h1))).symm
theorem wA_3 (h2 : ¬ 0 < rsA size below (eA size below prec)) : whA size below (eA size below prec) = wA rnd sign size below prec := (if_neg (fun q => h2 q.2)).symm
end
local macro_rules | `(tactic| walk_at "m eq") => `(tactic| first
  | with_unfolding_none exact rfl
  | ((with_unfolding_none refine wA_1 ?_ ?_) <;> with_reducible assumption)
  | ((with_unfolding_none refine wA_2 ?_) <;> with_reducible assumption)
  | ((with_unfolding_none refine wA_3 ?_) <;> with_reducible assumption)
  | with_reducible rfl
  | ((with_reducible refine wA_1 ?_ ?_) <;> with_reducible assumption)
  | ((with_reducible refine wA_2 ?_) <;> with_reducible assumption)
  | ((with_reducible refine wA_3 ?_) <;> with_reducible assumption))
theorem wA_pos {rnd : Str} {sign size below prec : Int} (h : 0 < whA size below (eA size below prec)) : 0 < wA rnd sign size below prec := by
  unfold wA; split <;> omega
theorem half {W x : Int} {k : Nat} (h : W = x * 2 ^ k) (hx : x.fmod 2 = 0) : W = x.fdiv 2 * 2 ^ (k + 1) := by
  have e : x = 2 * x.fdiv 2 := by
    have := Int.mul_fdiv_add_fmod x 2
    omega
  rw [h, Int.pow_succ, Int.mul_comm (2 ^ k) 2, ← Int.mul_assoc, Int.mul_comm (x.fdiv 2) 2, ← e]
theorem half_lt {x : Int} (h : 0 < x) (hx : x.fmod 2 = 0) : 0 < x.fdiv 2 ∧ (x.fdiv 2).toNat < x.toNat := by
  have := Int.mul_fdiv_add_fmod x 2
  omega
abbrev psC2 (c : Int × Int × Tok × Tok) : List (Str × Value) := [(Str.ofString "whole", .int c.1 c.2.2.1), (Str.ofString "exp", .int c.2.1 c.2.2.2)]
theorem wendC2 {s : Shared} {h₀ : Heap} {L : Addr} {news news' : List (Addr × Obj)} {m₀ m' : Str → Option Value} {n : Nat} {h' : Heap} {tk : Nat} {w' e' : Int} {t1 t2 : Tok} {Inv : Int × Int × Tok × Tok → Prop} (F : Fr h₀ L h' m') (N : News h₀ L h' news') (hn : ∀ p ∈ news, p ∈ news')
   (h1 : m' (Str.ofString "whole") = some (.int w' t1)) (h2 : m' (Str.ofString "exp") = some (.int e' t2))
   (hr : ∀ z, z ≠ Str.ofString "whole" → z ≠ Str.ofString "exp" → m' z = m₀ z) (hi : Inv (w', e', t1, t2)) (hm : w'.toNat < n) :
   WEnd h₀ L news m₀ psC2 Inv (fun c => c.1.toNat) n s .next { s with heap := h', toks := tk } :=
  wend (w', e', t1, t2) F N hn (by
    intro p hp
    simp only [List.mem_cons, List.not_mem_nil, or_false] at hp
    rcases hp with rfl | rfl
    · exact h1
    · exact h2) (fun z hp => hr z (hp _ (.head _)) (hp _ (.tail _ (.head _)))) hi hm
abbrev psCL (c : CL) : List (Str × Value) := [(Str.ofString "exp", .int c.2.1 c.2.2.2.2.2.1), (Str.ofString "whole", .int c.2.2.1 c.2.2.2.2.2.2.1), (Str.ofString "rest", .int c.2.2.2.1 c.2.2.2.2.2.2.2.1), (Str.ofString "low", .int c.2.2.2.2.1 c.2.2.2.2.2.2.2.2)]
theorem wendCL {s : Shared} {h₀ : Heap} {L : Addr} {news news' : List (Addr × Obj)} {m₀ m' : Str → Option Value} {n : Nat} {h' : Heap} {tk : Nat} {st' : Nat} {size below prec e' w' r' l' : Int} {t1 t2 t3 t4 : Tok} (F : Fr h₀ L h' m') (N : News h₀ L h' news') (hn : ∀ p ∈ news, p ∈ news')
   (h1 : m' (Str.ofString "exp") = some (.int e' t1)) (h2 : m' (Str.ofString "whole") = some (.int w' t2)) (h3 : m' (Str.ofString "rest") = some (.int r' t3)) (h4 : m' (Str.ofString "low") = some (.int l' t4))
   (hr : ∀ z, z ≠ Str.ofString "exp" → z ≠ Str.ofString "whole" → z ≠ Str.ofString "rest" → z ≠ Str.ofString "low" → m' z = m₀ z) (hi : clInv size below prec (st', e', w', r', l', t1, t2, t3, t4)) (hm : st' < n) :
   WEnd h₀ L news m₀ psCL (clInv size below prec) (fun c => c.1) n s .next { s with heap := h', toks := tk } :=
  wend (st', e', w', r', l', t1, t2, t3, t4) F N hn (by
    intro p hp
    simp only [List.mem_cons, List.not_mem_nil, or_false] at hp
    rcases hp with rfl | rfl | rfl | rfl
    · exact h1
    · exact h2
    · exact h3
    · exact h4) (fun z hp => hr z (hp _ (.head _)) (hp _ (.tail _ (.head _))) (hp _ (.tail _ (.tail _ (.head _)))) (hp _ (.tail _ (.tail _ (.tail _ (.head _)))))) hi hm
section
variable {w : World} {p : Program} {loose : List Str} {mean : ExcName → Option Value} {mg mb : Str → Option Value} {A₀ : Around} {base h₀ : Heap} {outer : List Env} {L : Addr} {m : Str → Option Value} {news : List (Addr × Obj)} {s : Shared} {dp un : Nat} {gd : Option (List Code)} {cn : Str} {cs : Scope} {a : Addr} {ccd : Value} {cl : List (Str × Addr)} {Q E : Value → Shared → Prop}
set_option maxHeartbeats 8000000 in
theorem c_rounded {above below prec : Int} {rnd : Str} {t1 t2 t3 t4 : Tok}
   (B : Below A₀ base outer h₀) (F : Fr h₀ L s.heap m) (X : (hd.heap_39 w.params).In h₀) (N : News h₀ L s.heap news) (T : Top p loose mean mg mb h₀) (hk : cs.kind = .function) (hdp : dp + 1 < recursionLimit)
   (hz : above ≠ 0) (HR : RdOk (mag above) below prec) (hr : IsRnd rnd)
   (ret : ∀ (v : Int × Int × Int × Int) (k : Nat) (x : Int), v = (sgn above, x, eA (mag above) below prec + k, (Builtin.Int.intBits x : Int)) → wA rnd (sgn above) (mag above) below prec = x * 2 ^ k → x.fmod 2 ≠ 0 → 0 < x → Ret4V h₀ L m news s Q v) :
  wpAny (model PR w) (ktrTop dp un gd cn cs L a ccd cl outer) (call (.ref 141) [.int above t1, .int below t2, .int prec t3, .str rnd t4]) Q E s := by
  revert X; walk_at "m open"
  have hC1 : CutAt 301 True [(Str.ofString "sign", fun t => .int (sgn above) t), (Str.ofString "size", fun t => .int (mag above) t), (Str.ofString "below", fun t => .int below t), (Str.ofString "prec", fun t => .int prec t), (Str.ofString "rnd", fun t => .str rnd t)] := trivial
  have hb0 := HR.b0
  have hp0 := HR.p0
  have hp1 := HR.p1
  have he1 := HR.e1
  have he2 := HR.e2
  have hm1 := HR.m1
  have hm2 := HR.m2
  have hlg := HR.lg
  walk_at "m go"
  rename Fr _ _ _ _ => kF
  rename News _ _ _ _ => kN
  refine while_names (σ := CL) (news := news) psCL
    (clInv (mag above) below prec) (fun c => c.1) (2, e0A (mag above) below prec, 2 ^ prec.toNat, 0, 1, ?ta, ?tb, ?tc, ?td) kF (fun p hp => kN p (List.mem_cons_of_mem _ hp)) ?hk (Or.inl ⟨rfl, rfl, rfl⟩) ?_
  case hk =>
    intro p hp
    simp only [List.mem_cons, List.not_mem_nil, or_false] at hp
    rcases hp with rfl | rfl | rfl | rfl <;> exact rfl
  intro c h tk hi kF kN
  obtain ⟨st, e, wh, rs, lo, ta, tb, tc, td⟩ := c
  have hex : e0A (mag above) below prec ≤ e ∧ e ≤ e0A (mag above) below prec + 2 := by
    rcases hi with ⟨_, h, _⟩ | ⟨_, h, _⟩ | ⟨_, h, _⟩ <;> (dsimp only at h; omega)
  dsimp only [kstB] at kF kN
  walk_at "m goI"
  refine split_dec ?_ ?_
  · intro hc
    have hst : st ≠ 0 ∧ (st ≠ 2 → ¬ whA (mag above) below (e0A (mag above) below prec + 1) < 2 ^ prec.toNat) := by
      rcases hi with ⟨h0, _, _⟩ | ⟨h0, h1, h2, _⟩ | ⟨h0, h1, h2, _⟩
      · dsimp only at h0; omega
      · dsimp only at h0 h1 h2
        refine ⟨by omega, fun _ => ?_⟩
        rw [← h1, ← h2]
        omega
      · dsimp only at h0 h1 h2
        have := HR.tm
        rw [← h1, ← h2] at this
        omega
    walk_at "m go"
    all_goals
      rename Fr _ _ _ _ => kF
      rename News _ _ _ _ => kN
      refine wendCL kF kN (by walk_at "m sub all") rfl rfl rfl rfl ?_ (cl_step hi hst ?_ ?_ ?_) (by have := hst.1; omega)
      · intro z n1 n2 n3 n4
        simp only [if_neg n1, if_neg n2, if_neg n3, if_neg n4]
      · first
          | exact congrArg (Int.fdiv · (lowA below (e + 1))) (numA_1 (by assumption))
          | exact congrArg (Int.fdiv · (lowA below (e + 1))) (numA_2 (by assumption))
      · first
          | exact congrArg (Int.fmod · (lowA below (e + 1))) (numA_1 (by assumption))
          | exact congrArg (Int.fmod · (lowA below (e + 1))) (numA_2 (by assumption))
      · first
          | exact lowA_1 (by assumption)
          | exact lowA_2 (by assumption)
  · intro hc
    obtain ⟨rfl, rfl, rfl, rfl⟩ := cl_exit hi hc
    have hC0 : CutAt 308 True [(Str.ofString "sign", fun t => .int (sgn above) t), (Str.ofString "whole", fun t => .int (whA (mag above) below (eA (mag above) below prec)) t), (Str.ofString "rest", fun t => .int (rsA (mag above) below (eA (mag above) below prec)) t), (Str.ofString "low", fun t => .int (lowA below (eA (mag above) below prec)) t), (Str.ofString "exp", fun t => .int (eA (mag above) below prec) t), (Str.ofString "rnd", fun t => .str rnd t),
      (Str.ofString "away", fun _ => .bool (aw0 rnd (sgn above)))] := trivial
    have hC2 : CutAt 309 True [(Str.ofString "sign", fun t => .int (sgn above) t), (Str.ofString "whole", fun t => .int (whA (mag above) below (eA (mag above) below prec)) t), (Str.ofString "rest", fun t => .int (rsA (mag above) below (eA (mag above) below prec)) t), (Str.ofString "exp", fun t => .int (eA (mag above) below prec) t),
      (Str.ofString "away", fun _ => .bool (awayA rnd (sgn above) (whA (mag above) below (eA (mag above) below prec)) (rsA (mag above) below (eA (mag above) below prec)) (lowA below (eA (mag above) below prec))))] := trivial
    have hC3 : CutAt 311 True [(Str.ofString "sign", fun t => .int (sgn above) t), (Str.ofString "whole", fun t => .int (wA rnd (sgn above) (mag above) below prec) t), (Str.ofString "exp", fun t => .int (eA (mag above) below prec) t)] := trivial
    clear hi hex hC1
    walk_at "m go"
    rename Fr _ _ _ _ => kF
    rename News _ _ _ _ => kN
    refine while_names (news := news) psC2 (fun c => 0 < c.1 ∧ ∃ k : Nat, wA rnd (sgn above) (mag above) below prec = c.1 * 2 ^ k ∧ c.2.1 = eA (mag above) below prec + k) (fun c => c.1.toNat) (wA rnd (sgn above) (mag above) below prec, eA (mag above) below prec, ?tg, ?th) kF (fun p hp => kN p (by first | exact hp | exact List.mem_cons_of_mem _ hp)) ?hk3 ⟨wA_pos HR.ps, 0, by simp, by simp⟩ ?_
    case hk3 =>
      intro p hp
      simp only [List.mem_cons, List.not_mem_nil, or_false] at hp
      rcases hp with rfl | rfl <;> exact rfl
    intro c h tk hi kF kN
    obtain ⟨x, e, tg, th⟩ := c
    obtain ⟨hx, k, hw, he⟩ := hi
    dsimp only at hx hw he
    subst he
    dsimp only [kstB] at kF kN
    clear hC2 hC3 hC0
    walk_at "m goI"
    refine split_ieq ?_ ?_
    · intro hc
      obtain ⟨g1, g2⟩ := half_lt hx hc
      walk_at "m go"
      rename Fr _ _ _ _ => kF
      rename News _ _ _ _ => kN
      refine wendC2 kF kN (by walk_at "m sub all") rfl rfl ?_ ⟨g1, k + 1, half hw hc, by dsimp only; omega⟩ g2
      intro z n1 n2
      simp only [if_neg n1, if_neg n2]
    · intro hc
      have R := ret _ k x rfl hw hc hx
      walk_at "m go"
      all_goals walk_at "m ret4"
end
end
-- Q0
section
theorem ofString_len (s : String) : (Str.ofString s).length = s.toList.length := by
  show (Str.ofString s).cps.size = _
  rw [PySem.Str.ofString_eq_toList]
  simp
/-- a number of few figures -/
theorem int_len {n : Int} {k : Nat} (hk : 0 < k) (h : n.natAbs < 10 ^ k) : (Str.ofString (toString n)).length ≤ k + 1 := by
  have nat : ∀ m : Nat, m < 10 ^ k → (toString m).toList.length ≤ k := fun m hm => by
    show (Nat.repr m).toList.length ≤ k
    rw [Nat.toList_repr]
    exact (Nat.length_toDigits_le_iff (by decide) hk).mpr hm
  rw [ofString_len]
  cases n with
  | ofNat m =>
    have := nat m h
    show (toString m).toList.length ≤ k + 1
    omega
  | negSucc m =>
    have := nat (m + 1) h
    show ("-" ++ toString (m + 1)).toList.length ≤ k + 1
    rw [String.toList_append, List.length_append]
    show 1 + _ ≤ _
    omega
end
-- G6
section
section
variable (b r : Int)
def tMinus : Str := [Str.ofString "", Str.ofString "-"].getD (r.fmod 2).toNat Str.empty
def tManyI : Int := 1 + (r.fdiv 2).fmod 16
def tMany : Nat := (tManyI r).toNat
def tDs : List Nat := figsL b (tMany r) (r.fdiv (2 ^ (12 : Int).toNat))
def tF : Str := digStr (tDs b r)
def tAt : Int := (r.fdiv 32).fmod (tManyI r + 1)
def tDot : Bool := decide (0 < (r.fdiv 1024).fmod 3) && decide (0 < tAt r)
def tT1 : Str := if tDot r = true then Txt.slice (tF b r) none (some (tAt r)) ++ Str.ofString "." ++ Txt.slice (tF b r) (some (tAt r)) none else tF b r
def tScale : Int := if tT1 b r = tF b r then 0 else tManyI r - tAt r
def tLow : Bool := decide ((r.fdiv 3072).fmod 5 = 0) && (decide (2 < ((tT1 b r).length : Int)) && ((Txt.item (tT1 b r) 1 != Str.ofString ".") && (Txt.item (tT1 b r) 2 != Str.ofString ".")))
def tT2 : Str := if tLow b r = true then Txt.slice (tT1 b r) none (some 2) ++ Str.ofString "_" ++ Txt.slice (tT1 b r) (some 2) none else tT1 b r
def tSh0 : Int := (r.fdiv (2 ^ (70 : Int).toNat)).fmod (if b = 10 then 761 else 61) - (if b = 10 then 380 else 30)
def tSh : Int := if 0 < (r.fdiv 15360).fmod 3 then tSh0 b r else 0
def tW : Int := if (tMinus r == Str.ofString "-") = true then - worth b (tDs b r) else worth b (tDs b r)
def tBe : Int := b ^ (tScale b r).toNat
def tP : Bool := ([2, 16] : List Int).any (· == b) && decide ((r.fdiv 46080).fmod 2 = 0)
def tMark : Str := if tP b r = true then Str.ofString "p" else [Str.ofString "e", Str.ofString "@"].getD (b.fdiv 16).toNat Str.empty
def tStep : Int := if tP b r = true then 2 else b
def tT3 : Str := if tSh b r ≠ 0 then tT2 b r ++ tMark b r ++ Str.ofString (toString (tSh b r)) else if (r.fdiv 92160).fmod 4 = 0 then tT2 b r ++ Str.ofString "l" else tT2 b r
def tAbove : Int := if 0 ≤ tSh b r then tW b r * tStep b r ^ (tSh b r).toNat else tW b r
def tBelow : Int := if 0 ≤ tSh b r then tBe b r else tBe b r * tStep b r ^ (-tSh b r).toNat
def tPre : Str := if b = 10 then Str.ofString "" else if b = 16 then Str.ofString "0x" else if b = 8 then Str.ofString "0o" else Str.ofString "0b"
def tText : Str := tMinus r ++ tPre b ++ tT3 b r
end
theorem tManyI_b (r : Int) : 1 ≤ tManyI r ∧ tManyI r ≤ 16 := by
  have h0 := fmod_nonneg' (a := r.fdiv 2) (b := 16) (by decide)
  have h1 := fmod_lt' (a := r.fdiv 2) (b := 16) (by decide)
  unfold tManyI; omega
theorem tMany_c (r : Int) : tManyI r = (tMany r : Int) := by
  have := tManyI_b r
  unfold tMany; omega
theorem tMany_16 (r : Int) : tMany r ≤ 16 := by
  have := tManyI_b r
  have := tMany_c r
  omega
theorem tAt_b (r : Int) : 0 ≤ tAt r ∧ tAt r ≤ tManyI r := by
  have := tManyI_b r
  have h0 := fmod_nonneg' (a := r.fdiv 32) (b := tManyI r + 1) (by omega)
  have h1 := fmod_lt' (a := r.fdiv 32) (b := tManyI r + 1) (by omega)
  unfold tAt; omega
theorem tF_len (b r : Int) : (tF b r).length = tMany r := by
  unfold tF tDs; rw [digStr_len, figsL_len]
theorem tT1_len (b r : Int) : (tT1 b r).length ≤ 33 := by
  have h1 := tF_len b r
  have h2 := tMany_16 r
  unfold tT1
  split
  · have a1 := PyProof.Txt.length_slice_le (tF b r) none (some (tAt r))
    have a2 := PyProof.Txt.length_slice_le (tF b r) (some (tAt r)) none
    have a3 : (Str.ofString ".").length = 1 := by decide
    rw [Str.length_append, Str.length_append]
    omega
  · omega
theorem tT2_len (b r : Int) : (tT2 b r).length ≤ 67 := by
  have h1 := tT1_len b r
  unfold tT2
  split
  · have a1 := PyProof.Txt.length_slice_le (tT1 b r) none (some 2)
    have a2 := PyProof.Txt.length_slice_le (tT1 b r) (some 2) none
    have a3 : (Str.ofString "_").length = 1 := by decide
    rw [Str.length_append, Str.length_append]
    omega
  · omega
theorem tSh_b {b r : Int} : -380 ≤ tSh b r ∧ tSh b r ≤ 380 := by
  unfold tSh tSh0
  split
  · split
    · have h0 := fmod_nonneg' (a := r.fdiv (2 ^ (70 : Int).toNat)) (b := 761) (by decide)
      have h1 := fmod_lt' (a := r.fdiv (2 ^ (70 : Int).toNat)) (b := 761) (by decide)
      omega
    · have h0 := fmod_nonneg' (a := r.fdiv (2 ^ (70 : Int).toNat)) (b := 61) (by decide)
      have h1 := fmod_lt' (a := r.fdiv (2 ^ (70 : Int).toNat)) (b := 61) (by decide)
      omega
  · omega
theorem tSh_log {b r : Int} : (tSh b r).natAbs.log2 < 1920 := by
  have := tSh_b (b := b) (r := r)
  by_cases h : (tSh b r).natAbs = 0
  · rw [h]; decide
  · exact (Nat.log2_lt h).mpr (Nat.lt_of_lt_of_le (show (tSh b r).natAbs < 2 ^ 10 by omega) (Nat.pow_le_pow_right (by decide) (by decide)))
theorem tSh_txt {b r : Int} : (Str.ofString (toString (tSh b r))).length ≤ 4 := by
  have h := tSh_b (b := b) (r := r)
  exact int_len (k := 3) (by decide) (by omega)
end
-- G7
theorem mulOk_of {a b : Int} (h : Builtin.Int.intBits a + Builtin.Int.intBits b ≤ 200000) : IntMulOk a b := by
  unfold IntMulOk
  have e : Builtin.Int.intTooBig (((Builtin.Int.intBits a : Nat) : Int) + ((Builtin.Int.intBits b : Nat) : Int)) = false := by
    unfold Builtin.Int.intTooBig
    have : (200000 : Int) ≤ bitsLine := by decide +kernel
    simp only [decide_eq_false_iff_not]
    omega
  first
    | (rw [e]; simp)
    | (simp [e])
theorem bits_le {a : Int} {k : Nat} (h : a.natAbs < 2 ^ k) : Builtin.Int.intBits a ≤ k := by
  unfold Builtin.Int.intBits
  split
  · exact Nat.zero_le _
  · rename_i h0
    have h0' : a.natAbs ≠ 0 := by simpa using h0
    exact (Nat.log2_lt h0').mpr h
theorem pow_abs {a : Int} {k n : Nat} (h : a.natAbs ≤ 16) (hk : k ≤ n) : (a ^ k).natAbs < 2 ^ (4 * n + 1) := by
  rw [Int.natAbs_pow]
  have h1 : a.natAbs ^ k ≤ 16 ^ k := Nat.pow_le_pow_left h k
  have h2 : 16 ^ k ≤ 16 ^ n := Nat.pow_le_pow_right (by decide) hk
  have h3 : (16 : Nat) ^ n = 2 ^ (4 * n) := by rw [show (16 : Nat) = 2 ^ 4 from rfl, ← Nat.pow_mul]
  have h4 : (2 : Nat) ^ (4 * n) < 2 ^ (4 * n + 1) := Nat.pow_lt_pow_right (by decide) (by omega)
  omega
section
variable {b r : Int}
theorem tStep_b (hb : B4 b) : B4 (tStep b r) := by
  unfold tStep; split
  · exact Or.inl rfl
  · exact hb
theorem B4.abs {b : Int} (h : B4 b) : b.natAbs ≤ 16 := by have := h.pos; omega
theorem tScale_b (b r : Int) : 0 ≤ tScale b r ∧ tScale b r ≤ 16 := by
  have := tAt_b r
  have := tManyI_b r
  unfold tScale; split <;> omega
theorem tBe_bits (hb : B4 b) : Builtin.Int.intBits (tBe b r) ≤ 100 := by
  have h := tScale_b b r
  exact Nat.le_trans (bits_le (pow_abs (n := 16) hb.abs (by omega))) (by decide)
theorem tStep_bits (hb : B4 b) {k : Nat} (hk : k ≤ 380) : Builtin.Int.intBits (tStep b r ^ k) ≤ 2000 := Nat.le_trans (bits_le (pow_abs (n := 380) (tStep_b hb).abs hk)) (by decide)
end
section
variable {prog : Program} {w : World} {A : Around} {E : Value → Shared → Prop} {s : Shared} {Q : Value → Shared → Prop} {t u : Tok} {a b r : Int}
theorem powB (hb : B4 a) (h0 : 0 ≤ b) (hk : b ≤ 400) (h : Q (.int (a ^ b.toNat) s.toks) { s with toks := s.toks + 1 }) :
    wpAny (model prog w) A (binaryOp .Pow (.int a t) (.int b u)) Q E s := by
  by_cases hb0 : b = 0
  · subst hb0
    rw [show (0 : Int).toNat = 0 from rfl, Int.pow_zero] at h
    exact AutoIntOps.pow_0 (by decide) (by decide) h
  · refine AutoIntOps.pow_4 h0 (by simpa using hb0) (by rcases hb with rfl | rfl | rfl | rfl <;> decide) (by rcases hb with rfl | rfl | rfl | rfl <;> decide) ?_ h
    show ¬ Builtin.Int.intTooBig (((Builtin.Int.intBits a : Nat) : Int) * b) = true
    have e : Builtin.Int.intBits a ≤ 5 := by rcases hb with rfl | rfl | rfl | rfl <;> decide
    unfold Builtin.Int.intTooBig
    have : (200000 : Int) ≤ bitsLine := by decide +kernel
    have h2 : ((Builtin.Int.intBits a : Nat) : Int) * b ≤ 5 * b := Int.mul_le_mul_of_nonneg_right (by omega) h0
    simp only [decide_eq_true_eq]
    omega
theorem mulS {x : Int} {k : Nat} (hx : Builtin.Int.intBits x ≤ 100) (hb : B4 b) (hk : k ≤ 380) (h : Q (.int (x * tStep b r ^ k) s.toks) { s with toks := s.toks + 1 }) :
    wpAny (model prog w) A (binaryOp .Mult (.int x t) (.int (tStep b r ^ k) u)) Q E s :=
  AutoIntOps.mul_0 (show (Made.int (x * tStep b r ^ k)).post Q s from h) (mulOk_of (by have := tStep_bits (r := r) hb hk; omega))
theorem str_sh (h : Q (.str (Str.ofString (toString (tSh b r))) s.toks) { s with toks := s.toks + 1 }) : wpAny (model prog w) A (call (.type "str") [.int (tSh b r) t]) Q E s := P.str_of_int tSh_log h
theorem item2 {value slice : PySem.Expr} {l : Addr} {v1 v2 : Value} {x1 x2 : Str} {i : Int} {n : Nat} {h₀ : Heap} {L : Addr} {news : List (Addr × Obj)} (N : News h₀ L s.heap news) (hm : (l, listOf [v1, v2].toArray n) ∈ news) (hv1 : ∃ t, v1 = .str x1 t) (hv2 : ∃ t, v2 = .str x2 t)
    (h0 : 0 ≤ i) (h1 : i < 2) (h : ∀ t', Q (.str ([x1, x2].getD i.toNat Str.empty) t') s)
    (hs : subscripted slice false (.ref l) (.int i u) = operate [.ref l, .int i u] (getItem (.ref l) (.int i u)) := by with_unfolding_all rfl) :
    wpAny (model prog w) A (subscriptTail value slice (.ref l) (.int i u)) Q E s := by
  obtain ⟨t1, rfl⟩ := hv1
  obtain ⟨t2, rfl⟩ := hv2
  exact KTb.item_list (news_list N hm) (.cons _ _ (.cons _ _ .nil)) h0 h1 (by omega) (fun t' _ => h t') hs
theorem dict4 {value slice : PySem.Expr} {d : Addr} {o : Obj} {u1 u2 u3 u4 : Tok} {h₀ : Heap} {L : Addr} {news : List (Addr × Obj)} (N : News h₀ L s.heap news) (hm : (d, o) ∈ news)
    (hd : o.IsDictOf (PySem.intKind prog w) [(10, .str (Str.ofString "") u1), (16, .str (Str.ofString "0x") u2), (8, .str (Str.ofString "0o") u3), (2, .str (Str.ofString "0b") u4)])
    (hb : B4 b) (h : ∀ t', Q (.str (tPre b) t') { s with toks := s.toks + 1 })
    (hs : subscripted slice false (.ref d) (.int b u) = operate [.ref d, .int b u] (getItem (.ref d) (.int b u)) := by with_unfolding_all rfl) :
    wpAny (model prog w) A (subscriptTail value slice (.ref d) (.int b u)) Q E s := by
  have hM := (Heap.dictOf_iff.mpr ⟨o, (N _ hm).1, hd⟩).mapOf
  obtain ⟨t', e⟩ : ∃ t', valueAt [(10, Value.str (Str.ofString "") u1), (16, .str (Str.ofString "0x") u2), (8, .str (Str.ofString "0o") u3), (2, .str (Str.ofString "0b") u4)] b = some (.str (tPre b) t') := by
    rcases hb with rfl | rfl | rfl | rfl <;> exact ⟨_, rfl⟩
  exact tail_any hM.typeIs slot_dict_getitem.lookup (wpAny_getItem_of (intKind_is prog w b u) hM e (h t')) hs
end
/-- what the walk of _law_text knows -/
structure TxH (b r : Int) : Prop where
  hb : B4 b
  hW : Builtin.Int.intBits (tW b r) ≤ 100
theorem TxH.sz {b r : Int} (_ : TxH b r) : (tF b r).length ≤ 16 ∧ (tT1 b r).length ≤ 33 ∧ (tT2 b r).length ≤ 67 ∧ (tMark b r).length ≤ 1 ∧ (Str.ofString (toString (tSh b r))).length ≤ 4 ∧ (tMinus r).length ≤ 1 ∧ (tPre b).length ≤ 2 ∧ (tT3 b r).length ≤ 72 ∧
   (Txt.slice (tF b r) none (some (tAt r))).length ≤ 16 ∧ (Txt.slice (tF b r) (some (tAt r)) none).length ≤ 16 ∧ (Txt.slice (tT1 b r) none (some 2)).length ≤ 33 ∧ (Txt.slice (tT1 b r) (some 2) none).length ≤ 33 ∧
   (Txt.slice (tF b r) none (some (tAt r)) ++ Str.ofString ".").length ≤ 17 ∧ (Txt.slice (tT1 b r) none (some 2) ++ Str.ofString "_").length ≤ 34 ∧ (tT2 b r ++ tMark b r).length ≤ 68 ∧ (Str.ofString ".").length = 1 ∧ (Str.ofString "_").length = 1 ∧ (Str.ofString "l").length = 1 ∧ (tMinus r ++ tPre b).length ≤ 3 := by
  have h1 := tF_len b r
  have h2 := tMany_16 r
  have h3 := tT1_len b r
  have h4 := tT2_len b r
  have hm : (tMark b r).length ≤ 1 := by
    have e1 : (Str.ofString "p").length = 1 := by decide
    have e2 : ∀ i : Nat, ([Str.ofString "e", Str.ofString "@"].getD i Str.empty).length ≤ 1 := fun i => by
      match i with
      | 0 => decide
      | 1 => decide
      | n + 2 => exact Nat.zero_le _
    unfold tMark; split
    · omega
    · exact e2 _
  have hs := tSh_txt (b := b) (r := r)
  have hn : (tMinus r).length ≤ 1 := by
    have e2 : ∀ i : Nat, ([Str.ofString "", Str.ofString "-"].getD i Str.empty).length ≤ 1 := fun i => by
      match i with
      | 0 => decide
      | 1 => decide
      | n + 2 => exact Nat.zero_le _
    exact e2 _
  have hp : (tPre b).length ≤ 2 := by
    unfold tPre; split
    · decide
    · split
      · decide
      · split <;> decide
  have l1 : (Str.ofString ".").length = 1 := by decide
  have l2 : (Str.ofString "_").length = 1 := by decide
  have l3 : (Str.ofString "l").length = 1 := by decide
  have h5 : (tT3 b r).length ≤ 72 := by
    unfold tT3; split
    · rw [Str.length_append, Str.length_append]; omega
    · split
      · rw [Str.length_append]; omega
      · omega
  have a1 := PyProof.Txt.length_slice_le (tF b r) none (some (tAt r))
  have a2 := PyProof.Txt.length_slice_le (tF b r) (some (tAt r)) none
  have a3 := PyProof.Txt.length_slice_le (tT1 b r) none (some 2)
  have a4 := PyProof.Txt.length_slice_le (tT1 b r) (some 2) none
  exact ⟨by omega, h3, h4, hm, hs, hn, hp, h5, by omega, by omega, by omega, by omega, by rw [Str.length_append]; omega, by rw [Str.length_append]; omega, by rw [Str.length_append]; omega, l1, l2, l3, by rw [Str.length_append]; omega⟩
theorem TxH.fs {b r : Int} (H : TxH b r) : 0 ≤ r.fmod 2 ∧ r.fmod 2 < 2 ∧ 0 ≤ tScale b r ∧ tScale b r ≤ 16 ∧ -380 ≤ tSh b r ∧ tSh b r ≤ 380 ∧ 0 ≤ b.fdiv 16 ∧ b.fdiv 16 < 2 := by
  have f1 := fmod_nonneg' (a := r) (b := 2) (by decide)
  have f2 := fmod_lt' (a := r) (b := 2) (by decide)
  have f5 := tScale_b b r
  have f6 := tSh_b (b := b) (r := r)
  have f7 : 0 ≤ b.fdiv 16 ∧ b.fdiv 16 < 2 := by rcases H.hb with rfl | rfl | rfl | rfl <;> decide
  exact ⟨f1, f2, f5.1, f5.2, f6.1, f6.2, f7.1, f7.2⟩
local macro_rules | `(tactic| walk_at "m txo") => `(tactic| ((with_reducible rename TxH _ _ => HS); obtain ⟨q1, q2, q3, q4, q5, q6, q7, q8⟩ := TxH.fs HS; omega))
local macro_rules | `(tactic| walk_at "m szs") => `(tactic| ((with_reducible rename TxH _ _ => HS); obtain ⟨q1, q2, q3, q4, q5, q6, q7, q8, q9, q10, q11, q12, q13, q14, q15, q16, q17, q18, q19⟩ := TxH.sz HS; omega))
section
variable {b r : Int}
theorem q_many : 1 + (r.fdiv 2).fmod 16 = tManyI r := rfl
theorem q_min : [Str.ofString "", Str.ofString "-"].getD (r.fmod 2).toNat Str.empty = tMinus r := rfl
theorem q_F : digStr (figsL b (tMany r) (r.fdiv (2 ^ (12 : Int).toNat))) = tF b r := rfl
theorem q_at : (r.fdiv 32).fmod (tManyI r + 1) = tAt r := rfl
theorem q_T1a (h1 : 0 < (r.fdiv 1024).fmod 3) (h2 : 0 < tAt r) : Txt.slice (tF b r) none (some (tAt r)) ++ Str.ofString "." ++ Txt.slice (tF b r) (some (tAt r)) none = tT1 b r := by
  unfold tT1 tDot; rw [decide_eq_true h1, decide_eq_true h2]; rfl
theorem q_T1b (h1 : ¬ 0 < (r.fdiv 1024).fmod 3) : tF b r = tT1 b r := by
  unfold tT1 tDot; rw [decide_eq_false h1]; rfl
theorem q_T1c (h1 : ¬ 0 < tAt r) : tF b r = tT1 b r := by
  unfold tT1 tDot; rw [decide_eq_false h1, Bool.and_false]; rfl
theorem q_sc1 (h : (tT1 b r != tF b r) = true) : tManyI r - tAt r = tScale b r := (if_neg (bne_iff_ne.mp h)).symm
theorem q_sc2 (h : (tT1 b r != tF b r) = false) : 0 = tScale b r := (if_pos (by simpa using h)).symm
theorem q_T2a (h1 : (r.fdiv 3072).fmod 5 = 0) (h2 : 2 < ((tT1 b r).length : Int)) (h3 : (Txt.item (tT1 b r) 1 != Str.ofString ".") = true) (h4 : (Txt.item (tT1 b r) 2 != Str.ofString ".") = true) :
   Txt.slice (tT1 b r) none (some 2) ++ Str.ofString "_" ++ Txt.slice (tT1 b r) (some 2) none = tT2 b r := by
  unfold tT2 tLow; rw [decide_eq_true h1, decide_eq_true h2, h3, h4]; rfl
theorem q_T2b (h1 : (r.fdiv 3072).fmod 5 ≠ 0) : tT1 b r = tT2 b r := by
  unfold tT2 tLow; rw [decide_eq_false h1]; rfl
theorem q_T2c (h1 : ¬ 2 < ((tT1 b r).length : Int)) : tT1 b r = tT2 b r := by
  unfold tT2 tLow; rw [decide_eq_false h1]; simp
theorem q_T2d (h3 : (Txt.item (tT1 b r) 1 != Str.ofString ".") = false) : tT1 b r = tT2 b r := by
  unfold tT2 tLow; rw [h3]; simp
theorem q_T2e (h3 : (Txt.item (tT1 b r) 2 != Str.ofString ".") = false) : tT1 b r = tT2 b r := by
  unfold tT2 tLow; rw [h3]; simp
theorem q_sh0a (h : b = 10) : (r.fdiv (2 ^ (70 : Int).toNat)).fmod 761 - 380 = tSh0 b r := by
  unfold tSh0; rw [if_pos h, if_pos h]
theorem q_sh0b (h : b ≠ 10) : (r.fdiv (2 ^ (70 : Int).toNat)).fmod 61 - 30 = tSh0 b r := by
  unfold tSh0; rw [if_neg h, if_neg h]
theorem q_sha (h : 0 < (r.fdiv 15360).fmod 3) : tSh0 b r = tSh b r := (if_pos h).symm
theorem q_shb (h : ¬ 0 < (r.fdiv 15360).fmod 3) : 0 = tSh b r := (if_neg h).symm
theorem q_wa (h : (tMinus r == Str.ofString "-") = true) : - worth b (tDs b r) = tW b r := (if_pos h).symm
theorem q_wb (h : (tMinus r == Str.ofString "-") = false) : worth b (tDs b r) = tW b r := (if_neg (ne_true_of_eq_false h)).symm
theorem q_be : b ^ (tScale b r).toNat = tBe b r := rfl
theorem q_mka (h1 : ([2, 16] : List Int).any (· == b) = true) (h2 : (r.fdiv 46080).fmod 2 = 0) : Str.ofString "p" = tMark b r := by
  unfold tMark tP; rw [h1, decide_eq_true h2]; rfl
theorem q_sta (h1 : ([2, 16] : List Int).any (· == b) = true) (h2 : (r.fdiv 46080).fmod 2 = 0) : 2 = tStep b r := by
  unfold tStep tP; rw [h1, decide_eq_true h2]; rfl
theorem q_mkb (h1 : ([2, 16] : List Int).any (· == b) = false) : [Str.ofString "e", Str.ofString "@"].getD (b.fdiv 16).toNat Str.empty = tMark b r := by
  unfold tMark tP; rw [h1]; rfl
theorem q_stb (h1 : ([2, 16] : List Int).any (· == b) = false) : b = tStep b r := by
  unfold tStep tP; rw [h1]; rfl
theorem q_mkc (h2 : (r.fdiv 46080).fmod 2 ≠ 0) : [Str.ofString "e", Str.ofString "@"].getD (b.fdiv 16).toNat Str.empty = tMark b r := by
  unfold tMark tP; rw [decide_eq_false h2, Bool.and_false]; rfl
theorem q_stc (h2 : (r.fdiv 46080).fmod 2 ≠ 0) : b = tStep b r := by
  unfold tStep tP; rw [decide_eq_false h2, Bool.and_false]; rfl
theorem q_T3a (h : tSh b r ≠ 0) : tT2 b r ++ tMark b r ++ Str.ofString (toString (tSh b r)) = tT3 b r := (if_pos h).symm
theorem q_T3b (h : tSh b r = 0) (h1 : (r.fdiv 92160).fmod 4 = 0) : tT2 b r ++ Str.ofString "l" = tT3 b r := by
  unfold tT3; rw [if_neg (fun q => q h), if_pos h1]
theorem q_T3c (h : tSh b r = 0) (h1 : (r.fdiv 92160).fmod 4 ≠ 0) : tT2 b r = tT3 b r := by
  unfold tT3; rw [if_neg (fun q => q h), if_neg h1]
theorem q_aba (h : 0 ≤ tSh b r) : tW b r * tStep b r ^ (tSh b r).toNat = tAbove b r := (if_pos h).symm
theorem q_abb (h : ¬ 0 ≤ tSh b r) : tW b r = tAbove b r := (if_neg h).symm
theorem q_bea (h : 0 ≤ tSh b r) : tBe b r = tBelow b r := (if_pos h).symm
theorem q_beb (h : ¬ 0 ≤ tSh b r) : tBe b r * tStep b r ^ (-tSh b r).toNat = tBelow b r := (if_neg h).symm
end
local macro_rules | `(tactic| walk_at "m eq") => `(tactic| first
  | with_unfolding_none exact rfl
  | with_unfolding_none exact q_many
  | with_unfolding_none exact q_min
  | with_unfolding_none exact q_F
  | with_unfolding_none exact q_at
  | ((with_unfolding_none refine q_T1a ?_ ?_) <;> with_reducible assumption)
  | ((with_unfolding_none refine q_T1b ?_) <;> with_reducible assumption)
  | ((with_unfolding_none refine q_T1c ?_) <;> with_reducible assumption)
  | ((with_unfolding_none refine q_sc1 ?_) <;> with_reducible assumption)
  | ((with_unfolding_none refine q_sc2 ?_) <;> with_reducible assumption)
  | ((with_unfolding_none refine q_T2a ?_ ?_ ?_ ?_) <;> with_reducible assumption)
  | ((with_unfolding_none refine q_T2b ?_) <;> with_reducible assumption)
  | ((with_unfolding_none refine q_T2c ?_) <;> with_reducible assumption)
  | ((with_unfolding_none refine q_T2d ?_) <;> with_reducible assumption)
  | ((with_unfolding_none refine q_T2e ?_) <;> with_reducible assumption)
  | ((with_unfolding_none refine q_sh0a ?_) <;> with_reducible assumption)
  | ((with_unfolding_none refine q_sh0b ?_) <;> with_reducible assumption)
  | ((with_unfolding_none refine q_sha ?_) <;> with_reducible assumption)
  | ((with_unfolding_none refine q_shb ?_) <;> with_reducible assumption)
  | ((with_unfolding_none refine q_wa ?_) <;> with_reducible assumption)
  | ((with_unfolding_none refine q_wb ?_) <;> with_reducible assumption)
  | with_unfolding_none exact q_be
  | ((with_unfolding_none refine q_mka ?_ ?_) <;> with_reducible assumption)
  | ((with_unfolding_none refine q_sta ?_ ?_) <;> with_reducible assumption)
  | ((with_unfolding_none refine q_mkb ?_) <;> with_reducible assumption)
  | ((with_unfolding_none refine q_stb ?_) <;> with_reducible assumption)
  | ((with_unfolding_none refine q_mkc ?_) <;> with_reducible assumption)
  | ((with_unfolding_none refine q_stc ?_) <;> with_reducible assumption)
  | ((with_unfolding_none refine q_T3a ?_) <;> with_reducible assumption)
  | ((with_unfolding_none refine q_T3b ?_ ?_) <;> with_reducible assumption)
  | ((with_unfolding_none refine q_T3c ?_ ?_) <;> with_reducible assumption)
  | ((with_unfolding_none refine q_aba ?_) <;> with_reducible assumption)
  | ((with_unfolding_none refine q_abb ?_) <;> with_reducible assumption)
  | ((with_unfolding_none refine q_bea ?_) <;> with_reducible assumption)
  | ((with_unfolding_none refine q_beb ?_) <;> with_reducible assumption)
  | with_reducible rfl
  | with_reducible exact q_many
  | with_reducible exact q_min
  | with_reducible exact q_F
  | with_reducible exact q_at
  | ((with_reducible refine q_T1a ?_ ?_) <;> with_reducible assumption)
  | ((with_reducible refine q_T1b ?_) <;> with_reducible assumption)
  | ((with_reducible refine q_T1c ?_) <;> with_reducible assumption)
  | ((with_reducible refine q_sc1 ?_) <;> with_reducible assumption)
  | ((with_reducible refine q_sc2 ?_) <;> with_reducible assumption)
  | ((with_reducible refine q_T2a ?_ ?_ ?_ ?_) <;> with_reducible assumption)
  | ((with_reducible refine q_T2b ?_) <;> with_reducible assumption)
  | ((with_reducible refine q_T2c ?_) <;> with_reducible assumption)
  | ((with_reducible refine q_T2d ?_) <;> with_reducible assumption)
  | ((with_reducible refine q_T2e ?_) <;> with_reducible assumption)
  | ((with_reducible refine q_sh0a ?_) <;> with_reducible assumption)
  | ((with_reducible refine q_sh0b ?_) <;> with_reducible assumption)
  | ((with_reducible refine q_sha ?_) <;> with_reducible assumption)
  | ((with_reducible refine q_shb ?_) <;> with_reducible assumption)
  | ((with_reducible refine q_wa ?_) <;> with_reducible assumption)
  | ((with_reducible refine q_wb ?_) <;> with_reducible assumption)
  | with_reducible exact q_be
  | ((with_reducible refine q_mka ?_ ?_) <;> with_reducible assumption)
  | ((with_reducible refine q_sta ?_ ?_) <;> with_reducible assumption)
  | ((with_reducible refine q_mkb ?_) <;> with_reducible assumption)
  | ((with_reducible refine q_stb ?_) <;> with_reducible assumption)
  | ((with_reducible refine q_mkc ?_) <;> with_reducible assumption)
  | ((with_reducible refine q_stc ?_) <;> with_reducible assumption)
  | ((with_reducible refine q_T3a ?_) <;> with_reducible assumption)
  | ((with_reducible refine q_T3b ?_ ?_) <;> with_reducible assumption)
  | ((with_reducible refine q_T3c ?_ ?_) <;> with_reducible assumption)
  | ((with_reducible refine q_aba ?_) <;> with_reducible assumption)
  | ((with_reducible refine q_abb ?_) <;> with_reducible assumption)
  | ((with_reducible refine q_bea ?_) <;> with_reducible assumption)
  | ((with_reducible refine q_beb ?_) <;> with_reducible assumption))
theorem tDs_16 {b r : Int} (hb : B4 b) : ∀ d ∈ tDs b r, d < 16 := fun d hd => by
  have h1 := figsL_lt hb.pos.1 _ _ d hd
  have h2 := hb.pos.2.1
  omega
section
variable {w : World} {p : Program} {loose : List Str} {mean : ExcName → Option Value} {mg mb : Str → Option Value} {A₀ : Around} {base h₀ : Heap} {outer : List Env} {L : Addr} {m : Str → Option Value} {news : List (Addr × Obj)} {s : Shared} {dp un : Nat} {gd : Option (List Code)} {cn : Str} {cs : Scope} {a : Addr} {ccd : Value} {cl : List (Str × Addr)} {Q E : Value → Shared → Prop}
theorem c_figsK {rich b k : Int} {n : Nat} {t1 t2 t3 : Tok}
   (B : Below A₀ base outer h₀) (F : Fr h₀ L s.heap m) (X : (hd.heap_39 w.params).In h₀) (N : News h₀ L s.heap news) (T : Top p loose mean mg mb h₀) (hk : cs.kind = .function) (hdp : dp + 1 < recursionLimit)
   (hB : B4 b) (hkn : k = (n : Int)) (hn : n ≤ 16)
   (ret : ∀ (t : Tok) (h' : Heap) (tk' : Nat), Fr h₀ L h' m → News h₀ L h' news → Q (.str (digStr (figsL b n rich)) t) { s with heap := h', toks := tk' }) :
  wpAny (model PR w) (ktrTop dp un gd cn cs L a ccd cl outer) (call (.ref 148) [.int rich t1, .int b t2, .int k t3]) Q E s := by
  subst hkn; exact c_figs B F X N T hk hdp hB hn ret
end
local macro_rules | `(tactic| walk_at "m sub") => `(tactic| first
  | ((with_reducible show wpAny _ _ (subscriptTail _ _ (Value.ref _) (Value.int _ _)) _ _ _); (with_reducible refine' item2 ?N ?hm ?v1 ?v2 ?k3 ?k4 ?_; (case N => k_asm); (case hm => exact List.mem_cons_self ..); (case v1 => exact ⟨_, rfl⟩); (case v2 => exact ⟨_, rfl⟩); (case k3 => walk_at "m txo"); (case k4 => walk_at "m txo")); intro t9)
  | ((with_reducible show wpAny _ _ (subscriptTail _ _ (Value.ref _) (Value.int _ _)) _ _ _); (with_reducible refine' dict4 ?N ?hm ?hd ?hb ?_; (case N => k_asm); (case hm => exact List.mem_cons_self ..); (case hd => first | with_reducible assumption | assumption); (case hb => with_reducible assumption)); intro t9)
  | ((with_reducible show wpAny _ _ (subscriptTail _ (Expr.Slice none (some _) none _) (Value.str _ _) (Value.ref _)) _ _ _); (with_reducible rename Fr _ _ _ _ => F'); (with_reducible rename News _ _ _ _ => N'); (with_reducible refine slice_strN_ns (hsz := ?hsz) (s := ⟨_, _, _, _, _⟩) F' N' ?_); (case hsz => (rw [sizeLine_eq]; walk_at "m szs")); intro h9 t9 k9 F9 N9)
  | ((with_reducible show wpAny _ _ (subscriptTail _ (Expr.Slice (some _) none none _) (Value.str _ _) (Value.ref _)) _ _ _); (with_reducible rename Fr _ _ _ _ => F'); (with_reducible rename News _ _ _ _ => N'); (with_reducible refine slice_strN_sn (hsz := ?hsz) (s := ⟨_, _, _, _, _⟩) F' N' ?_); (case hsz => (rw [sizeLine_eq]; walk_at "m szs")); intro h9 t9 k9 F9 N9)
  | ((with_reducible show wpAny _ _ (subscriptTail _ _ (Value.str _ _) (Value.int 1 _)) _ _ _); ((with_reducible refine' item_str ?y1 ?y2 ?y3 ?_); (case y1 => decide); (case y2 => omega); (case y3 => omega)); intro hl9; clear hl9)
  | ((with_reducible show wpAny _ _ (subscriptTail _ _ (Value.str _ _) (Value.int 2 _)) _ _ _); ((with_reducible refine' item_str ?y1 ?y2 ?y3 ?_); (case y1 => decide); (case y2 => omega); (case y3 => omega)); intro hl9; clear hl9))
local macro_rules | `(tactic| walk_at "m eval") => `(tactic| first
  | ((with_reducible show wpAny _ _ (eval (Expr.Slice _ _ _ _) _) _ _ _); with_reducible refine wpAny_Slice ?_)
  | ((with_reducible show wpAny _ _ (eval (Expr.Dict _ _ _) _) _ _ _); (refine' kdn_int ?q ?F ?N ?b ?a ?l ?e ?n ?_; (case q => rfl); (case F => k_asm); (case N => k_asm); (case b => exact Top.nolimit (by k_asm)); (case a => rfl); (case l => rfl); (case e => exact List.cons_ne_nil _ _); (case n => exact Nat.le_of_ble_eq_true rfl)); intro d' h' o' F' N' l1 lo' hd'; (try k_lt l1)))
local macro_rules | `(tactic| walk_at "m") => `(tactic| first
  | ((with_reducible show wpAny _ _ (evalPart none _) _ _ _); refine wpAny_evalPart_none ?_)
  | ((with_reducible show wpAny _ _ (evalPart (some _) _) _ _ _); refine wpAny_evalPart_some ?_)
  | ((with_reducible show wpAny _ _ (evalPairs (pairTrees (_ :: _) _ _ _)) _ _ _); (try dsimp only); (try k_gentoks); refine pairTrees_cons_walk ?_)
  | ((with_reducible show wpAny _ _ (evalPairs (pairTrees [] _ _ _)) _ _ _); refine pairTrees_nil_walk ?_)
  | ((with_reducible show KdnMade _ _ _ _ _ _ _); (refine' kdn_made_int ?F ?N ?U ?d ?k ?n ?_; (case F => k_asm); (case N => k_asm); (case U => k_updF); (case d => k_asm); (case k => rfl); (case n => exact of_decide_eq_true (by rfl)); intro h' o' F' N' hd'); (try dsimp only at N'); (try dsimp only [intKeyPairs] at hd'); (try dsimp only)))
local macro_rules | `(tactic| walk_at "m bin") => `(tactic| first
  | ((with_reducible show wpAny _ _ (binaryOp Operator.Pow (Value.int _ _) (Value.int _ _)) _ _ _); ((with_reducible refine' powB ?y1 ?y2 ?y3 ?_); (case y1 => first | with_reducible assumption | exact tStep_b (by with_reducible assumption)); (case y2 => walk_at "m txo"); (case y3 => walk_at "m txo")))
  | ((with_reducible show wpAny _ _ (binaryOp Operator.Mult (Value.int _ _) (Value.int (tStep _ _ ^ _) _)) _ _ _); ((with_reducible refine' mulS ?y1 ?y2 ?y3 ?_); (case y1 => with_reducible assumption); (case y2 => with_reducible assumption); (case y3 => walk_at "m txo"))))
local macro_rules | `(tactic| walk_at "m call") => `(tactic| first
  | ((with_reducible show wpAny _ _ (call (Value.type "str") [Value.int _ _] _) _ _ _); (with_reducible refine str_sh ?_))
  | ((with_reducible show wpAny _ _ (call (Value.ref 148) _) _ _ _); (refine' c_figsK ?k1 ?k2 ?k3 ?k4 ?k5 ?kK ?kd ?p1 ?p2 ?p3 ?_; (case k1 => k_asm); (case k2 => k_asm); (case k3 => k_asm); (case k4 => k_asm); (case k5 => k_asm); (case kK => first | exact rfl | assumption); (case kd => walk_at "m room"); (case p1 => with_reducible assumption); (case p2 => exact tMany_c _); (case p3 => exact tMany_16 _)); intro t9 h9 tk9 F9 N9; (try dsimp only); k_sweep)
  | ((with_reducible show wpAny _ _ (call (Value.ref 155) _) _ _ _); (refine' c_worth ?k1 ?k2 ?k3 ?k4 ?k5 ?kK ?kd ?p1 ?p2 ?_; (case k1 => k_asm); (case k2 => k_asm); (case k3 => k_asm); (case k4 => k_asm); (case k5 => k_asm); (case kK => first | exact rfl | assumption); (case kd => walk_at "m room"); (case p1 => with_reducible assumption); (case p2 => exact tDs_16 (by with_reducible assumption))); intro t9 h9 tk9 F9 N9; (try dsimp only); k_sweep))
section
variable {w : World} {p : Program} {loose : List Str} {mean : ExcName → Option Value} {mg mb : Str → Option Value} {A₀ : Around} {base h₀ : Heap} {outer : List Env} {L : Addr} {m : Str → Option Value} {news : List (Addr × Obj)} {s : Shared} {dp un : Nat} {gd : Option (List Code)} {cn : Str} {cs : Scope} {a : Addr} {ccd : Value} {cl : List (Str × Addr)} {Q E : Value → Shared → Prop}
abbrev T3 (x : Str) (i1 i2 : Int) (t1 t2 t3 : Tok) (c : Nat) : Obj := { cls := .type "tuple", data := .seq #[.str x t1, .int i1 t2, .int i2 t3] c }
theorem text_end {b r : Int} {h' : Heap} {D : Addr} {news' : List (Addr × Obj)} {x : Str} {u1 u2 u3 : Tok} {c : Nat} {tk' : Nat}
   (R : ∀ (D : Addr) (u1 u2 u3 : Tok) (c : Nat) (h' : Heap) (tk' : Nat), Fr h₀ L h' m → News h₀ L h' ((D, T3 (tText b r) (tAbove b r) (tBelow b r) u1 u2 u3 c) :: news) → AllLt D news → Q (.ref D) { s with heap := h', toks := tk' })
   (F : Fr h₀ L h' m) (N : News h₀ L h' ((D, T3 x (tAbove b r) (tBelow b r) u1 u2 u3 c) :: news')) (hN : ∀ p ∈ news, p ∈ news') (hl : AllLt D news) (e : x = tText b r) : Q (.ref D) { s with heap := h', toks := tk' } := by
  subst e
  exact R D u1 u2 u3 c h' tk' F (fun p hp => by
    rcases List.mem_cons.mp hp with rfl | hp
    · exact N _ (List.mem_cons_self ..)
    · exact N p (List.mem_cons_of_mem _ (hN p hp))) hl
end
local macro_rules | `(tactic| walk_at "m retX") => `(tactic| (refine' text_end ?R ?F ?N ?hN ?hl ?e; (case R => assumption); (case F => with_reducible assumption); (case N => with_reducible assumption); (case hN => walk_at "m sub all"); (case hl => walk_at "m lt all"); (case e => exact rfl)))
section
variable {w : World} {p : Program} {loose : List Str} {mean : ExcName → Option Value} {mg mb : Str → Option Value} {A₀ : Around} {base h₀ : Heap} {outer : List Env} {L : Addr} {m : Str → Option Value} {news : List (Addr × Obj)} {s : Shared} {dp un : Nat} {gd : Option (List Code)} {cn : Str} {cs : Scope} {a : Addr} {ccd : Value} {cl : List (Str × Addr)} {Q E : Value → Shared → Prop}
end
local macro_rules | `(tactic| walk_at "m") => `(tactic| first
  | ((with_reducible show wpAny _ _ (spliced _) _ _ _); walk_at "m spl")
  | ((with_reducible show wpAny _ _ (eval _ _) _ _ _); first
    | ((with_reducible show wpAny _ _ (eval (Expr.Name _ _) _) _ _ _); walk_at "m name")
    | with_reducible refine wpAny_Constant_int ?_
    | with_reducible refine Calls.Constant_str ?_
    | with_reducible refine wpAny_BinOp ?_
    | walk_at "m eval")
  | ((with_reducible show wpAny _ _ (storeName _ _ _) _ _ _); walk_at "m store")
  | ((with_reducible show wpAny _ _ (assignInOrder _ _) _ _ _); first | refine assignInOrder_cons ?_ | refine assignInOrder_nil ?_)
  | ((with_reducible show wpAny _ _ (binaryOp _ _ _) _ _ _); walk_at "m bin")
  | ((with_reducible show wpAny _ _ (newTuple _) _ _ _); (refine' kup_newTuple ?F ?N ?_ ?z; (case F => k_asm); (case N => k_asm); (case z => kmk_size)); intro D' h' F' N' l1; (try k_lt l1); k_sweep)
  | ((with_reducible show wpAny _ _ (exec _ _) _ _ _); walk_at "m exec")
  | with_reducible refine wpAny_execs_nil ?_
  | with_reducible refine bindName_ ?_
  | with_reducible refine PyProof.Rows.assign_Name ?_
  | with_reducible refine neg_int ?_)
section
variable {w : World} {p : Program} {loose : List Str} {mean : ExcName → Option Value} {mg mb : Str → Option Value} {A₀ : Around} {base h₀ : Heap} {outer : List Env} {L : Addr} {m : Str → Option Value} {news : List (Addr × Obj)} {s : Shared} {dp un : Nat} {gd : Option (List Code)} {cn : Str} {cs : Scope} {a : Addr} {ccd : Value} {cl : List (Str × Addr)} {Q E : Value → Shared → Prop}
set_option maxHeartbeats 8000000 in
theorem c_text {r b : Int} {t1 t2 : Tok}
   (B : Below A₀ base outer h₀) (F : Fr h₀ L s.heap m) (X : (hd.heap_39 w.params).In h₀) (N : News h₀ L s.heap news) (T : Top p loose mean mg mb h₀) (hk : cs.kind = .function) (hdp : dp + 4 < recursionLimit)
   (HX : TxH b r)
   (ret : ∀ (D : Addr) (u1 u2 u3 : Tok) (c : Nat) (h' : Heap) (tk' : Nat), Fr h₀ L h' m → News h₀ L h' ((D, T3 (tText b r) (tAbove b r) (tBelow b r) u1 u2 u3 c) :: news) → AllLt D news → Q (.ref D) { s with heap := h', toks := tk' }) :
  wpAny (model PR w) (ktrTop dp un gd cn cs L a ccd cl outer) (call (.ref 162) [.int r t1, .int b t2]) Q E s := by
  revert X; walk_at "m open"
  have hb := HX.hb
  have hW := HX.hW
  have hB := tBe_bits (r := r) HX.hb
  have hm0 : tManyI r + 1 ≠ 0 := by have := tManyI_b r; omega
  have hC327 : CutAt 327 True [(Str.ofString "minus", fun t => .str (tMinus r) t), (Str.ofString "many", fun t => .int (tManyI r) t), (Str.ofString "rich", fun t => .int r t), (Str.ofString "base", fun t => .int b t)] := trivial
  have hC328 : CutAt 328 True [(Str.ofString "minus", fun t => .str (tMinus r) t), (Str.ofString "many", fun t => .int (tManyI r) t), (Str.ofString "figures", fun t => .str (tF b r) t), (Str.ofString "rich", fun t => .int r t), (Str.ofString "base", fun t => .int b t)] := trivial
  have hC329 : CutAt 329 True [(Str.ofString "minus", fun t => .str (tMinus r) t), (Str.ofString "many", fun t => .int (tManyI r) t), (Str.ofString "figures", fun t => .str (tF b r) t), (Str.ofString "at", fun t => .int (tAt r) t), (Str.ofString "rich", fun t => .int r t), (Str.ofString "base", fun t => .int b t)] := trivial
  have hC330 : CutAt 330 True [(Str.ofString "minus", fun t => .str (tMinus r) t), (Str.ofString "many", fun t => .int (tManyI r) t), (Str.ofString "figures", fun t => .str (tF b r) t), (Str.ofString "at", fun t => .int (tAt r) t), (Str.ofString "above", fun t => .int (worth b (tDs b r)) t), (Str.ofString "scale", fun t => .int (0) t), (Str.ofString "rich", fun t => .int r t), (Str.ofString "base", fun t => .int b t)] := trivial
  have hC331 : CutAt 331 True [(Str.ofString "minus", fun t => .str (tMinus r) t), (Str.ofString "many", fun t => .int (tManyI r) t), (Str.ofString "figures", fun t => .str (tF b r) t), (Str.ofString "at", fun t => .int (tAt r) t), (Str.ofString "above", fun t => .int (worth b (tDs b r)) t), (Str.ofString "scale", fun t => .int (0) t), (Str.ofString "told", fun t => .str (tT1 b r) t), (Str.ofString "rich", fun t => .int r t), (Str.ofString "base", fun t => .int b t)] := trivial
  have hC332 : CutAt 332 True [(Str.ofString "minus", fun t => .str (tMinus r) t), (Str.ofString "above", fun t => .int (worth b (tDs b r)) t), (Str.ofString "scale", fun t => .int (tScale b r) t), (Str.ofString "told", fun t => .str (tT1 b r) t), (Str.ofString "rich", fun t => .int r t), (Str.ofString "base", fun t => .int b t)] := trivial
  have hC334 : CutAt 334 True [(Str.ofString "minus", fun t => .str (tMinus r) t), (Str.ofString "above", fun t => .int (worth b (tDs b r)) t), (Str.ofString "scale", fun t => .int (tScale b r) t), (Str.ofString "told", fun t => .str (tT2 b r) t), (Str.ofString "rich", fun t => .int r t), (Str.ofString "base", fun t => .int b t)] := trivial
  have hC336 : CutAt 336 True [(Str.ofString "minus", fun t => .str (tMinus r) t), (Str.ofString "above", fun t => .int (worth b (tDs b r)) t), (Str.ofString "scale", fun t => .int (tScale b r) t), (Str.ofString "told", fun t => .str (tT2 b r) t), (Str.ofString "shift", fun t => .int (tSh0 b r) t), (Str.ofString "rich", fun t => .int r t), (Str.ofString "base", fun t => .int b t)] := trivial
  have hC337 : CutAt 337 True [(Str.ofString "minus", fun t => .str (tMinus r) t), (Str.ofString "above", fun t => .int (worth b (tDs b r)) t), (Str.ofString "scale", fun t => .int (tScale b r) t), (Str.ofString "told", fun t => .str (tT2 b r) t), (Str.ofString "shift", fun t => .int (tSh b r) t), (Str.ofString "rich", fun t => .int r t), (Str.ofString "base", fun t => .int b t)] := trivial
  have hC338 : CutAt 338 True [(Str.ofString "minus", fun t => .str (tMinus r) t), (Str.ofString "above", fun t => .int (tW b r) t), (Str.ofString "below", fun t => .int (tBe b r) t), (Str.ofString "told", fun t => .str (tT2 b r) t), (Str.ofString "shift", fun t => .int (tSh b r) t), (Str.ofString "rich", fun t => .int r t), (Str.ofString "base", fun t => .int b t)] := trivial
  have hC340 : CutAt 340 True [(Str.ofString "minus", fun t => .str (tMinus r) t), (Str.ofString "above", fun t => .int (tW b r) t), (Str.ofString "below", fun t => .int (tBe b r) t), (Str.ofString "told", fun t => .str (tT2 b r) t), (Str.ofString "shift", fun t => .int (tSh b r) t), (Str.ofString "mark", fun t => .str (tMark b r) t), (Str.ofString "step", fun t => .int (tStep b r) t), (Str.ofString "rich", fun t => .int r t), (Str.ofString "base", fun t => .int b t)] := trivial
  have hC342 : CutAt 342 True [(Str.ofString "minus", fun t => .str (tMinus r) t), (Str.ofString "above", fun t => .int (tW b r) t), (Str.ofString "below", fun t => .int (tBe b r) t), (Str.ofString "told", fun t => .str (tT3 b r) t), (Str.ofString "shift", fun t => .int (tSh b r) t), (Str.ofString "step", fun t => .int (tStep b r) t), (Str.ofString "base", fun t => .int b t)] := trivial
  have hC346 : CutAt 346 True [(Str.ofString "minus", fun t => .str (tMinus r) t), (Str.ofString "above", fun t => .int (tAbove b r) t), (Str.ofString "below", fun t => .int (tBelow b r) t), (Str.ofString "told", fun t => .str (tT3 b r) t), (Str.ofString "base", fun t => .int b t)] := trivial
  walk_at "m go"
  all_goals walk_at "m retX"
end
-- P8
section
theorem numA_nat (a : Nat) (e : Int) : numA (a : Int) e = (numN a e : Int) := by
  unfold numA numN
  split
  · rw [Int.natCast_mul, cast_pow]
  · rename_i h
    rw [show (-e).toNat = 0 from by omega]; simp
theorem lowA_nat (b : Nat) (e : Int) : lowA (b : Int) e = (lowN b e : Int) := by
  unfold lowA lowN
  split
  · rw [Int.natCast_mul, cast_pow]
  · rename_i h
    rw [show e.toNat = 0 from by omega]; simp
theorem whA_nat (a b : Nat) (e : Int) : whA a b e = ((numN a e / lowN b e : Nat) : Int) := by
  unfold whA
  rw [numA_nat, lowA_nat, Int.fdiv_eq_ediv_of_nonneg _ (Int.natCast_nonneg _)]; simp
theorem rsA_nat (a b : Nat) (e : Int) : rsA a b e = ((numN a e % lowN b e : Nat) : Int) := by
  unfold rsA
  rw [numA_nat, lowA_nat, Int.fmod_eq_emod_of_nonneg _ (Int.natCast_nonneg _)]; simp
theorem away_up {rnd : Str} {sign : Int} {W R low : Nat} : awayA rnd sign W R low = upS rnd sign W (cmp3 (2 * R) low) := by
  unfold awayA upS
  by_cases hn : (rnd == Str.ofString "n") = true
  · rw [if_pos hn, if_pos hn]
    have hW : ((W : Int).fmod 2 == 1) = (W % 2 == 1) := by
      rw [show (W : Int).fmod 2 = ((W % 2 : Nat) : Int) from by rw [Int.fmod_eq_emod_of_nonneg _ (by decide)]; simp]
      by_cases h : W % 2 = 1
      · rw [h]; rfl
      · rw [show W % 2 = 0 from by omega]; rfl
    rw [hW]
    unfold cmp3
    by_cases h1 : 2 * R < low
    · rw [if_pos h1, decide_eq_false (by omega), beq_eq_false_iff_ne.mpr (by omega)]; rfl
    · rw [if_neg h1]
      by_cases h2 : 2 * R = low
      · rw [if_pos h2, decide_eq_false (by omega), beq_iff_eq.mpr (by omega)]; rfl
      · rw [if_neg h2, decide_eq_true (by omega)]; rfl
  · rw [if_neg hn, if_neg hn]; rfl
theorem wA_nat {rnd : Str} {sign : Int} {a b p : Nat} : wA rnd sign a b p = ((rdW (upS rnd sign) (numN a (eA a b p)) (lowN b (eA a b p)) : Nat) : Int) := by
  unfold wA
  rw [whA_nat, rsA_nat, lowA_nat, away_up]
  unfold rdW
  generalize upS rnd sign (numN a (eA ↑a ↑b ↑p) / lowN b (eA ↑a ↑b ↑p)) (cmp3 (2 * (numN a (eA ↑a ↑b ↑p) % lowN b (eA ↑a ↑b ↑p))) (lowN b (eA ↑a ↑b ↑p))) = u
  by_cases h : u = true ∧ numN a (eA a b p) % lowN b (eA a b p) ≠ 0
  · rw [if_pos h, if_pos ⟨h.1, by have := h.2; omega⟩]; rfl
  · rw [if_neg h, if_neg (fun z => h ⟨z.1, by have := z.2; omega⟩)]
theorem w_half {a b : Nat} {e : Int} (hb : 0 < b) : numN a (e + 1) / lowN b (e + 1) = numN a e / lowN b e / 2 := by
  let K := (-e).toNat + 1
  have hK : 0 ≤ (K : Int) + e := by show 0 ≤ (((-e).toNat + 1 : Nat) : Int) + e; omega
  have hK' : 0 ≤ (K : Int) + (e + 1) := by omega
  have g1 := (at_shift (up := fun _ _ => true) (a := a) hb hK).2
  have g2 := (at_shift (up := fun _ _ => true) (a := a) hb hK').2
  have e3 : ∀ u, b * 2 ^ (u + 1) = b * 2 ^ u * 2 := fun u => by rw [Nat.pow_succ, Nat.mul_assoc]
  rw [g1, g2, show ((K : Int) + (e + 1)).toNat = ((K : Int) + e).toNat + 1 from by omega, e3]
  exact (Nat.div_div_eq_div_mul _ _ _).symm
theorem e0_nat (a b p : Nat) : e0A a b p = (Builtin.Int.intBits (a : Int) : Int) - Builtin.Int.intBits (b : Int) - p - 1 := rfl
theorem w_low {a b p : Nat} (ha : 0 < a) (hb : 0 < b) (hp : 1 ≤ p) : 2 ^ (p - 1) ≤ numN a (e0A a b p + 1) / lowN b (e0A a b p + 1) := by
  obtain ⟨a1, a2, a3⟩ := bits_bounds ha
  obtain ⟨b1, b2, b3⟩ := bits_bounds hb
  have he := e0_nat a b p
  generalize e0A a b p = e0 at *
  rw [Nat.le_div_iff_mul_le (lowN_pos hb)]
  unfold numN lowN
  calc 2 ^ (p - 1) * (b * 2 ^ (e0 + 1).toNat) ≤ 2 ^ (p - 1) * (2 ^ Builtin.Int.intBits (b : Int) * 2 ^ (e0 + 1).toNat) := Nat.mul_le_mul_left _ (Nat.mul_le_mul_right _ (Nat.le_of_lt b2))
    _ = 2 ^ (Builtin.Int.intBits (a : Int) - 1) * 2 ^ (-(e0 + 1)).toNat := by
      rw [← Nat.pow_add, ← Nat.pow_add, ← Nat.pow_add]; congr 1; omega
    _ ≤ a * 2 ^ (-(e0 + 1)).toNat := Nat.mul_le_mul_right _ a1
theorem w_high {a b p : Nat} (ha : 0 < a) (hb : 0 < b) : numN a (e0A a b p + 2) / lowN b (e0A a b p + 2) < 2 ^ p := by
  obtain ⟨a1, a2, a3⟩ := bits_bounds ha
  obtain ⟨b1, b2, b3⟩ := bits_bounds hb
  have he := e0_nat a b p
  generalize e0A a b p = e0 at *
  rw [Nat.div_lt_iff_lt_mul (lowN_pos hb)]
  unfold numN lowN
  calc a * 2 ^ (-(e0 + 2)).toNat < 2 ^ Builtin.Int.intBits (a : Int) * 2 ^ (-(e0 + 2)).toNat := Nat.mul_lt_mul_of_pos_right a2 (two_pos _)
    _ = 2 ^ p * (2 ^ (Builtin.Int.intBits (b : Int) - 1) * 2 ^ (e0 + 2).toNat) := by
      rw [← Nat.pow_add, ← Nat.pow_add, ← Nat.pow_add]; congr 1; omega
    _ ≤ 2 ^ p * (b * 2 ^ (e0 + 2).toNat) := Nat.mul_le_mul_left _ (Nat.mul_le_mul_right _ b1)
theorem w_eA {a b p : Nat} (ha : 0 < a) (hb : 0 < b) (hp : 1 ≤ p) : 2 ^ (p - 1) ≤ numN a (eA a b p) / lowN b (eA a b p) ∧ numN a (eA a b p) / lowN b (eA a b p) < 2 ^ p := by
  have h1 := w_low ha hb hp
  have h2 := w_high (p := p) ha hb
  unfold eA
  rw [whA_nat, Int.toNat_natCast, ← cast_pow]
  split
  · rename_i h; exact ⟨h1, by omega⟩
  · rename_i h
    refine ⟨?_, h2⟩
    have e : e0A (a : Int) b p + 2 = e0A (a : Int) b p + 1 + 1 := by omega
    rw [e, w_half hb]
    have h4 : 2 ^ p = 2 * 2 ^ (p - 1) := by rw [← Nat.pow_succ']; congr 1; omega
    omega
theorem rd_law {rnd : Str} {sign : Int} {a b p k : Nat} {x : Int} (ha : 0 < a) (hb : 0 < b) (hp : 1 ≤ p) (hw : wA rnd sign a b p = x * 2 ^ k) (hx : x.fmod 2 ≠ 0) (h0 : 0 < x) :
   IsLaw (upS rnd sign) p a b x.toNat (eA a b p + k) := by
  obtain ⟨n, rfl⟩ := Int.eq_ofNat_of_zero_le (Int.le_of_lt h0)
  obtain ⟨h1, h2⟩ := w_eA ha hb hp
  refine ⟨eA a b p, k, h1, h2, ?_, ?_, rfl⟩
  · rw [wA_nat, ← cast_pow, ← Int.natCast_mul] at hw
    rw [Int.toNat_natCast]; exact Int.natCast_inj.mp hw
  · rw [show (n : Int).fmod 2 = ((n % 2 : Nat) : Int) from by rw [Int.fmod_eq_emod_of_nonneg _ (by decide)]; simp] at hx
    rw [Int.toNat_natCast]; omega
theorem rdOk_of {a b p : Nat} (ha : 0 < a) (hb : 0 < b) (hp : 1 ≤ p) (hp1 : p ≤ 90) (ha1 : a < 2 ^ 2000) (hb1 : b < 2 ^ 2000) : RdOk (a : Int) (b : Int) (p : Int) := by
  have ba := bits_lt ha1
  have bb := bits_lt hb1
  have he := e0_nat a b p
  have h1 := w_high (p := p) ha hb
  have h2 := (w_eA ha hb hp).1
  have h3 := two_pos (p - 1)
  have bk : ∀ k : Nat, Builtin.Int.intBits (2 ^ k : Int) = k + 1 := fun k => by
    rw [← cast_pow, intBits_nat (two_pos k), log2_pow]
  refine ⟨by omega, by omega, by omega, by omega, by omega, fun k hk => mulOk_of (by rw [bk]; omega), fun k hk => mulOk_of (by rw [bk]; omega), fun e he => ?_, ?_, ?_⟩
  · rw [lowA_nat, Int.natAbs_natCast]
    have hl := lowN_pos (e := e) hb
    refine (Nat.log2_lt (by omega)).mpr ?_
    unfold lowN
    calc b * 2 ^ e.toNat < 2 ^ 2000 * 2 ^ e.toNat := Nat.mul_lt_mul_of_pos_right hb1 (two_pos _)
      _ = 2 ^ (2000 + e.toNat) := by rw [Nat.pow_add]
      _ ≤ 2 ^ 9000 := Nat.pow_le_pow_right (by decide) (by omega)
  · rw [whA_nat, Int.toNat_natCast, ← cast_pow]; omega
  · rw [whA_nat]; omega
end
-- P9
section
theorem still_sp {x : Str} (h : KXs.Still x) : ∀ c ∈ x.cps.toList, Unicode.isSpace c = false := fun c hc => KXs.no_space c (h c hc).2.1 (h c hc).1
theorem takeWhile_app {p : Nat → Bool} : ∀ (l r : List Nat), (∀ c ∈ l, p c = true) → (∀ c, r.head? = some c → p c = false) → (l ++ r).takeWhile p = l
  | [], r, _, h => by
    cases r with
    | nil => rfl
    | cons c r => simp [List.takeWhile_cons, h c rfl]
  | a :: l, r, h, h2 => by
    rw [List.cons_append, List.takeWhile_cons, if_pos (h a (List.mem_cons_self ..)), takeWhile_app l r (fun c hc => h c (List.mem_cons_of_mem _ hc)) h2]
/-- blanks ahead and behind -/
theorem strip_blanks {x : Str} {l r : List Nat} (h : KXs.Still x) (hx : x.cps.toList ≠ []) (hl : ∀ c ∈ l, Unicode.isSpace c = true) (hr : ∀ c ∈ r, Unicode.isSpace c = true) :
   Txt.strip ⟨(l ++ x.cps.toList ++ r).toArray⟩ = x := by
  have hs := still_sp h
  obtain ⟨a, t, hat⟩ : ∃ a t, x.cps.toList = a :: t := by
    cases q : x.cps.toList with
    | nil => exact absurd q hx
    | cons a t => exact ⟨a, t, rfl⟩
  have lo : stripLo Unicode.isSpace true (⟨(l ++ x.cps.toList ++ r).toArray⟩ : Str) = l.length := by
    simp only [stripLo, if_true]
    show ((l ++ x.cps.toList ++ r).takeWhile Unicode.isSpace).length = l.length
    rw [List.append_assoc, takeWhile_app l _ hl (fun c hc => by
      rw [hat] at hc
      have : c = a := by simpa using hc.symm
      subst this
      exact hs c (by rw [hat]; exact List.mem_cons_self ..))]
  have hi : stripHi Unicode.isSpace true (⟨(l ++ x.cps.toList ++ r).toArray⟩ : Str) l.length = l.length + x.cps.toList.length := by
    simp only [stripHi, if_true]
    have e1 : (l ++ x.cps.toList ++ r).drop l.length = x.cps.toList ++ r := by
      rw [List.append_assoc, List.drop_append_of_le_length (Nat.le_refl _), List.drop_length, List.nil_append]
    have e2 : ((x.cps.toList ++ r).reverse.takeWhile Unicode.isSpace).length = r.length := by
      rw [List.reverse_append, takeWhile_app r.reverse _ (fun c hc => hr c (List.mem_reverse.mp hc)) (fun c hc => by
        have : c ∈ x.cps.toList := by
          have := List.mem_of_mem_head? (by rw [hc]; rfl : c ∈ x.cps.toList.reverse.head?)
          exact List.mem_reverse.mp this
        exact hs c this)]
      simp
    have e3 : (⟨(l ++ x.cps.toList ++ r).toArray⟩ : Str).length = l.length + x.cps.toList.length + r.length := by
      show (l ++ x.cps.toList ++ r).toArray.size = _
      simp; omega
    rw [e3]
    show _ - (((l ++ x.cps.toList ++ r).drop l.length).reverse.takeWhile Unicode.isSpace).length = _
    rw [e1, e2]; omega
  unfold Txt.strip
  rw [PyProof.Rows.stripBy_eq, lo, hi]
  refine PySem.Str.ext' (Array.toList_inj.mp ?_)
  rw [StrLaws.strSub_toList]
  show (((l ++ x.cps.toList ++ r).drop l.length).take (l.length + x.cps.toList.length - l.length)) = x.cps.toList
  rw [List.append_assoc, List.drop_append_of_le_length (Nat.le_refl _), List.drop_length, List.nil_append, Nat.add_sub_cancel_left, List.take_left']
  rfl
def lShown (tx : Str) (k : Nat) : Str := [tx, Txt.upper tx, Str.ofString " " ++ tx, tx ++ Str.ofString "  ", tx].getD k Str.empty
theorem still_ascii {x : Str} (h : KXs.Still x) : ∀ c ∈ x.cps.toList, c < 128 := fun c hc => by have := h c hc; omega
theorem map_self' {f : Nat → Nat} {l : List Nat} (h : ∀ c ∈ l, f c = c) : l.map f = l := by
  induction l with
  | nil => rfl
  | cons a r ih => rw [List.map_cons, h a (List.mem_cons_self ..), ih fun c hc => h c (List.mem_cons_of_mem _ hc)]
theorem lo1_still {c : Nat} (h : 33 ≤ c ∧ c < 127 ∧ (c < 65 ∨ 90 < c)) : lo1 c = c := by unfold lo1; rw [if_neg (by omega)]
theorem lo1_up1 {c : Nat} (h : 33 ≤ c ∧ c < 127 ∧ (c < 65 ∨ 90 < c)) : lo1 (up1 c) = c := by
  unfold lo1 up1
  split
  · rw [if_pos (by omega)]; omega
  · rw [if_neg (by omega)]
theorem shown_fsY {x : Str} (h : KXs.Still x) (hx : x.cps.toList ≠ []) : ∀ k, k < 5 → Txt.strip (Txt.lower (lShown x k)) = x := by
  have h0 : Txt.strip (Txt.lower x) = x := by rw [KXs.lower_still h, KXs.strip_still h]
  have e1 : (Str.ofString " ").cps.toList = [32] := by decide
  have e2 : (Str.ofString "  ").cps.toList = [32, 32] := by decide
  have sp : ∀ c ∈ [32, 32], Unicode.isSpace c = true := by decide +kernel
  have ml : x.cps.toList.map lo1 = x.cps.toList := map_self' fun c hc => lo1_still (h c hc)
  intro k hk
  match k with
  | 0 => exact h0
  | 1 =>
    show Txt.strip (Txt.lower (Txt.upper x)) = x
    rw [upper_ascii (still_ascii h)]
    have ha : ∀ c ∈ (⟨x.cps.map up1⟩ : Str).cps.toList, c < 128 := by
      intro c hc
      rw [Array.toList_map, List.mem_map] at hc
      obtain ⟨d, hd, rfl⟩ := hc
      have := h d hd
      unfold up1; split <;> omega
    rw [lower_ascii ha]
    have e : (⟨(x.cps.map up1).map lo1⟩ : Str) = x := by
      refine PySem.Str.ext' (Array.toList_inj.mp ?_)
      show ((x.cps.map up1).map lo1).toList = x.cps.toList
      rw [Array.toList_map, Array.toList_map, List.map_map]
      exact map_self' fun c hc => lo1_up1 (h c hc)
    rw [e, KXs.strip_still h]
  | 2 =>
    show Txt.strip (Txt.lower (Str.ofString " " ++ x)) = x
    have ha : ∀ c ∈ (Str.ofString " " ++ x).cps.toList, c < 128 := by
      intro c hc
      rw [PySem.Str.cps_append, Array.toList_append, e1, List.mem_append] at hc
      rcases hc with hc | hc
      · have : c = 32 := by simpa using hc
        omega
      · exact still_ascii h c hc
    rw [lower_ascii ha]
    have e : (⟨(Str.ofString " " ++ x).cps.map lo1⟩ : Str) = ⟨([32] ++ x.cps.toList ++ []).toArray⟩ := by
      refine PySem.Str.ext' (Array.toList_inj.mp ?_)
      show ((Str.ofString " " ++ x).cps.map lo1).toList = [32] ++ x.cps.toList ++ []
      rw [Array.toList_map, PySem.Str.cps_append, Array.toList_append, e1, List.map_append, ml]
      simp; rfl
    rw [e]
    exact strip_blanks h hx (fun c hc => sp c (by simp at hc; simp [hc])) (fun c hc => nomatch hc)
  | 3 =>
    show Txt.strip (Txt.lower (x ++ Str.ofString "  ")) = x
    have ha : ∀ c ∈ (x ++ Str.ofString "  ").cps.toList, c < 128 := by
      intro c hc
      rw [PySem.Str.cps_append, Array.toList_append, e2, List.mem_append] at hc
      rcases hc with hc | hc
      · exact still_ascii h c hc
      · have : c = 32 := by simpa using hc
        omega
    rw [lower_ascii ha]
    have e : (⟨(x ++ Str.ofString "  ").cps.map lo1⟩ : Str) = ⟨([] ++ x.cps.toList ++ [32, 32]).toArray⟩ := by
      refine PySem.Str.ext' (Array.toList_inj.mp ?_)
      show ((x ++ Str.ofString "  ").cps.map lo1).toList = [] ++ x.cps.toList ++ [32, 32]
      rw [Array.toList_map, PySem.Str.cps_append, Array.toList_append, e2, List.map_append, ml]
      rfl
    rw [e]
    exact strip_blanks h hx (fun c hc => nomatch hc) sp
  | 4 => exact h0
theorem shown_len {x : Str} (h : KXs.Still x) (hl : x.length ≤ 78) (k : Nat) : (lShown x k).length ≤ 80 := by
  have e1 : (Str.ofString " ").length = 1 := by decide
  have e2 : (Str.ofString "  ").length = 2 := by decide
  match k with
  | 0 => show x.length ≤ 80; omega
  | 1 =>
    show (Txt.upper x).length ≤ 80
    rw [upper_ascii (still_ascii h)]
    show (x.cps.map up1).size ≤ 80
    rw [Array.size_map]; show x.length ≤ 80; omega
  | 2 => show (Str.ofString " " ++ x).length ≤ 80; rw [Str.length_append]; omega
  | 3 => show (x ++ Str.ofString "  ").length ≤ 80; rw [Str.length_append]; omega
  | 4 => show x.length ≤ 80; omega
  | n + 5 => exact Nat.zero_le _
end
-- P10
section
open PySem.NumText
theorem num_plain {x : Str} (h : ∀ c ∈ x.cps.toList, 33 ≤ c ∧ c < 128) : numTextOf x = x.cps.toList ∧ numSeenOf x = x.cps.toList := by
  have e1 : numTextOf x = x.cps.toList := by
    refine if_pos ?_
    rw [← Array.all_toList, List.all_eq_true]
    intro c hc
    have := h c hc
    exact decide_eq_true (by omega)
  refine ⟨e1, ?_⟩
  show (numTextOf x).takeWhile _ = _
  rw [e1]
  refine NumText.takeWhile_all fun c hc => ?_
  have := h c hc
  exact bne_iff_ne.mpr (by omega)
theorem hexC_b : ∀ d : Fin 16, 48 ≤ hexC d.val ∧ hexC d.val < 103 ∧ hexC d.val ≠ 95 ∧ digit? (hexC d.val) = some d.val ∧ (hexC d.val < 65 ∨ 90 < hexC d.val) ∧ hexC d.val ≠ 46 ∧ (d.val < 10 → hexC d.val < 58) := by decide +kernel
theorem step_hex {b d : Nat} (hb : b ≤ 16) (hd : d < b) (ds : Array Nat) (f : Bool) : NumText.step b (ds, f) (hexC d) = some (ds.push d, true) := by
  obtain ⟨h1, h2, h3, h4, _⟩ := hexC_b ⟨d, by omega⟩
  dsimp only at h1 h2 h3 h4
  unfold NumText.step
  rw [if_neg (by rw [beq_iff_eq]; exact h3), h4]
  exact if_pos hd
theorem fold_hex {b : Nat} (hb : b ≤ 16) : ∀ (l : List Nat) (ds : Array Nat), (∀ d ∈ l, d < b) → (l.map hexC).foldlM (NumText.step b) (ds, true) = some ((ds.toList ++ l).toArray, true)
  | [], ds, _ => by simp
  | d :: l, ds, h => by
    rw [List.map_cons, List.foldlM_cons, step_hex hb (h d (List.mem_cons_self ..))]
    show (l.map hexC).foldlM (NumText.step b) (ds.push d, true) = _
    rw [fold_hex hb l _ fun c hc => h c (List.mem_cons_of_mem _ hc)]
    simp
theorem digits_hex {b : Nat} (hb : b ≤ 16) {l : List Nat} (h : ∀ d ∈ l, d < b) (hne : l ≠ []) : digits? b (l.map hexC) = some l.toArray := by
  cases l with
  | nil => exact absurd rfl hne
  | cons d l =>
    unfold digits?
    rw [List.map_cons, List.foldlM_cons, step_hex hb (h d (List.mem_cons_self ..))]
    show ((l.map hexC).foldlM (NumText.step b) ((#[] : Array Nat).push d, true)).bind _ = _
    rw [fold_hex hb l _ fun c hc => h c (List.mem_cons_of_mem _ hc)]
    simp
theorem worth_nat (b : Nat) : ∀ (l : List Nat) (a : Nat), ((l.foldl (fun acc d => acc * b + d) a : Nat) : Int) = l.foldl (fun (a : Int) (d : Nat) => a * (b : Int) + (d : Int)) (a : Int)
  | [], a => rfl
  | d :: l, a => by
    rw [List.foldl_cons, List.foldl_cons, worth_nat b l]
    congr 1
def PreOk (b : Nat) (pre : List Nat) : Prop := (b = 10 ∧ pre = []) ∨ (b = 16 ∧ pre = [48, 120]) ∨ (b = 8 ∧ pre = [48, 111]) ∨ (b = 2 ∧ pre = [48, 98])
theorem intB_of {x : Str} {neg : Bool} {b : Nat} {pre ds : List Nat} (hx : x.cps.toList = (if neg then [45] else []) ++ (pre ++ ds.map hexC)) (hp : PreOk b pre) (hd : ∀ d ∈ ds, d < b) (hne : ds ≠ []) :
   intB? b x = some (if neg then -worth (b : Int) ds else worth (b : Int) ds) := by
  have hb : b ≤ 16 := by rcases hp with ⟨rfl, _⟩ | ⟨rfl, _⟩ | ⟨rfl, _⟩ | ⟨rfl, _⟩ <;> decide
  have hhex : ∀ c ∈ ds.map hexC, 48 ≤ c ∧ c < 103 ∧ c ≠ 95 := by
    intro c hc
    obtain ⟨d, hd1, rfl⟩ := List.mem_map.mp hc
    obtain ⟨h1, h2, h3, _⟩ := hexC_b ⟨d, by have := hd d hd1; omega⟩
    exact ⟨h1, h2, h3⟩
  have hpre : ∀ c ∈ pre, 48 ≤ c ∧ c < 128 := by
    intro c hc
    rcases hp with ⟨_, rfl⟩ | ⟨_, rfl⟩ | ⟨_, rfl⟩ | ⟨_, rfl⟩
    · nomatch hc
    all_goals (simp at hc; omega)
  have hbody : ∀ c ∈ pre ++ ds.map hexC, 48 ≤ c ∧ c < 128 := by
    intro c hc
    rcases List.mem_append.mp hc with h | h
    · exact hpre c h
    · have := hhex c h; omega
  have hall : ∀ c ∈ x.cps.toList, 33 ≤ c ∧ c < 128 := by
    intro c hc
    rw [hx] at hc
    rcases List.mem_append.mp hc with h | h
    · cases neg
      · nomatch h
      · have : c = 45 := by simpa using h
        omega
    · have := hbody c h; omega
  obtain ⟨e1, e2⟩ := num_plain hall
  obtain ⟨a, t, hat⟩ : ∃ a t, pre ++ ds.map hexC = a :: t := by
    cases q : pre ++ ds.map hexC with
    | nil =>
      have := (List.append_eq_nil_iff.mp q).2
      exact absurd (List.map_eq_nil_iff.mp this) hne
    | cons a t => exact ⟨a, t, rfl⟩
  have ha : 48 ≤ a := (hbody a (by rw [hat]; exact List.mem_cons_self ..)).1
  have hsign : sign ((numSeenOf x).dropWhile blank) = (neg, pre ++ ds.map hexC) := by
    rw [e2, hx]
    cases neg
    · show sign (((pre ++ ds.map hexC)).dropWhile blank) = _
      rw [hat, dropWhile_of (by omega), sign_of (by omega) (by omega)]
    · show sign ((45 :: (pre ++ ds.map hexC)).dropWhile blank) = _
      rw [dropWhile_of (by omega)]; rfl
  have hbased : based b (pre ++ ds.map hexC) = (b, false, ds.map hexC) := by
    rcases hp with ⟨rfl, rfl⟩ | ⟨rfl, rfl⟩ | ⟨rfl, rfl⟩ | ⟨rfl, rfl⟩
    · exact based_ten _
    all_goals
      cases ds with
      | nil => exact absurd rfl hne
      | cons d l =>
        have h95 := (hhex (hexC d) (by simp)).2.2
        show (_, false, (match hexC d :: l.map hexC with | 95 :: r => r | r => r)) = _
        congr 2
        split
        · rename_i q; exact absurd (List.cons.inj q).1 h95
        · rfl
  have hrev : ((ds.map hexC).reverse.dropWhile blank).reverse = ds.map hexC := by
    cases q : (ds.map hexC).reverse with
    | nil => rw [List.reverse_eq_nil_iff.mp q]; rfl
    | cons c l =>
      have hc : c ∈ ds.map hexC := List.mem_reverse.mp (by rw [q]; exact List.mem_cons_self ..)
      rw [dropWhile_of (by have := hhex c hc; omega), ← q, List.reverse_reverse]
  unfold intB?
  rw [hsign, e1, e2, if_pos (beq_self_eq_true _), hbased]
  dsimp only
  rw [hrev, digits_hex hb hd hne]
  show some _ = _
  have hw : ((ds.toArray.foldl (fun acc d => acc * b + d) 0 : Nat) : Int) = worth (b : Int) ds := by
    rw [List.foldl_toArray]; exact worth_nat b ds 0
  dsimp only
  rw [hw]
theorem digitChar_hex : ∀ d : Nat, d < 10 → (Nat.digitChar d).toNat = hexC d := by decide
theorem dec_digits (m : Nat) : ∃ ds : List Nat, (Nat.toDigits 10 m).map Char.toNat = ds.map hexC ∧ (∀ d ∈ ds, d < 10) ∧ ds ≠ [] ∧ worth 10 ds = (m : Int) := by
  induction m using Nat.strongRecOn with
  | _ m ih =>
    by_cases h : m < 10
    · refine ⟨[m], ?_, by simpa using h, by simp, by simp [Mine.worth]⟩
      rw [Nat.toDigits_of_lt_base h]
      simp [digitChar_hex m h]
    · have hm : m % 10 < 10 := Nat.mod_lt m (by decide)
      have t : Nat.toDigits 10 (m / 10) ++ Nat.toDigits 10 (m % 10) = Nat.toDigits 10 (10 * (m / 10) + m % 10) := Nat.toDigits_append_toDigits (by decide) (by omega) hm
      rw [Nat.div_add_mod] at t
      obtain ⟨ds, e1, e2, e3, e4⟩ := ih (m / 10) (by omega)
      refine ⟨ds ++ [m % 10], ?_, ?_, by simp, ?_⟩
      · rw [← t, List.map_append, e1, Nat.toDigits_of_lt_base hm, List.map_append]
        simp [digitChar_hex _ hm]
      · intro d hd
        rcases List.mem_append.mp hd with q | q
        · exact e2 d q
        · have : d = m % 10 := by simpa using q
          omega
      · rw [worth_snoc, e4]; omega
theorem chars_of (s : String) : (Str.ofString s).cps.toList = s.toList.map Char.toNat := by
  rw [PySem.Str.ofString_eq_toList]
theorem int_chars (n : Int) : ∃ ds : List Nat, (Str.ofString (toString n)).cps.toList = (if n < 0 then [45] else []) ++ ds.map hexC ∧ (∀ d ∈ ds, d < 10) ∧ ds ≠ [] ∧ (if n < 0 then -worth 10 ds else worth 10 ds) = n := by
  have nat : ∀ m : Nat, (toString m).toList.map Char.toNat = (Nat.toDigits 10 m).map Char.toNat := fun m => by
    show (Nat.repr m).toList.map Char.toNat = _
    rw [Nat.toList_repr]
  cases n with
  | ofNat m =>
    obtain ⟨ds, e1, e2, e3, e4⟩ := dec_digits m
    have hn : ¬ Int.ofNat m < 0 := Int.not_lt.mpr (Int.natCast_nonneg m)
    refine ⟨ds, ?_, e2, e3, by rw [if_neg hn, e4]; rfl⟩
    rw [chars_of, if_neg hn]
    show (toString m).toList.map Char.toNat = _
    rw [nat, e1]; rfl
  | negSucc m =>
    obtain ⟨ds, e1, e2, e3, e4⟩ := dec_digits (m + 1)
    have hn : Int.negSucc m < 0 := by omega
    refine ⟨ds, ?_, e2, e3, by rw [if_pos hn, e4]; omega⟩
    rw [chars_of, if_pos hn]
    show ("-" ++ toString (m + 1)).toList.map Char.toNat = _
    rw [String.toList_append, List.map_append, nat, e1]; rfl
theorem intB_int (n : Int) : intB? 10 (Str.ofString (toString n)) = some n := by
  obtain ⟨ds, e1, e2, e3, e4⟩ := int_chars n
  have h := intB_of (x := Str.ofString (toString n)) (neg := decide (n < 0)) (b := 10) (pre := []) (ds := ds) (by simpa using e1) (Or.inl ⟨rfl, rfl⟩) e2 e3
  rw [h]
  congr 1
  simpa using e4
end
-- P11
section
theorem str_ext {x y : Str} (h : x.cps.toList = y.cps.toList) : x = y := PySem.Str.ext' (Array.toList_inj.mp h)
theorem app3 (p q : Str) (c : Nat) : (p ++ ⟨#[c]⟩ ++ q).cps.toList = p.cps.toList ++ c :: q.cps.toList := by
  rw [PySem.Str.cps_append, PySem.Str.cps_append, Array.toList_append, Array.toList_append]
  simp
theorem split_ne (x : Str) (c : Nat) : Txt.split x ⟨#[c]⟩ ≠ [] := fun h => by
  have := split_pos x ⟨#[c]⟩
  rw [h] at this
  simp at this
theorem split_none {x : Str} {c : Nat} (h : c ∉ x.cps.toList) : Txt.split x ⟨#[c]⟩ = [x] := by
  have hj := StrLaws.join_split x ⟨#[c]⟩
  have hn := split_ne x c
  cases hs : Txt.split x ⟨#[c]⟩ with
  | nil => exact absurd hs hn
  | cons p r =>
    rw [hs] at hj
    cases r with
    | nil =>
      have : p = x := hj
      rw [this]
    | cons q r =>
      exfalso
      apply h
      rw [← hj]
      show c ∈ (p ++ ⟨#[c]⟩ ++ Str.join ⟨#[c]⟩ (q :: r)).cps.toList
      rw [app3]; simp
theorem first_eq {c : Nat} : ∀ {a b r s : List Nat}, c ∉ a → c ∉ b → a ++ c :: r = b ++ c :: s → a = b ∧ r = s
  | [], [], r, s, _, _, h => ⟨rfl, (List.cons.inj h).2⟩
  | [], y :: b, r, s, _, hb, h => absurd ((List.cons.inj h).1 ▸ List.mem_cons_self ..) hb
  | x :: a, [], r, s, ha, _, h => absurd ((List.cons.inj h).1 ▸ List.mem_cons_self ..) ha
  | x :: a, y :: b, r, s, ha, hb, h => by
    obtain ⟨h1, h2⟩ := List.cons.inj h
    obtain ⟨e1, e2⟩ := first_eq (fun q => ha (List.mem_cons_of_mem _ q)) (fun q => hb (List.mem_cons_of_mem _ q)) h2
    exact ⟨by rw [h1, e1], e2⟩
theorem split_two {x a b : Str} {c : Nat} (hx : x.cps.toList = a.cps.toList ++ c :: b.cps.toList) (ha : c ∉ a.cps.toList) (hb : c ∉ b.cps.toList) : Txt.split x ⟨#[c]⟩ = [a, b] := by
  have hj := StrLaws.join_split x ⟨#[c]⟩
  have hf := StrLaws.split_free x c
  have hn := split_ne x c
  cases hs : Txt.split x ⟨#[c]⟩ with
  | nil => exact absurd hs hn
  | cons p r =>
    rw [hs] at hj hf
    have hp := hf p (List.mem_cons_self ..)
    cases r with
    | nil =>
      exfalso
      have e : p = x := hj
      rw [e, hx] at hp
      exact hp (by simp)
    | cons q r =>
      have hq := hf q (by simp)
      cases r with
      | nil =>
        have e : p ++ ⟨#[c]⟩ ++ q = x := hj
        have e2 : p.cps.toList ++ c :: q.cps.toList = a.cps.toList ++ c :: b.cps.toList := by
          rw [← hx, ← e, app3]
        obtain ⟨e3, e4⟩ := first_eq hp ha e2
        rw [str_ext e3, str_ext e4]
      | cons z r =>
        exfalso
        have e : p ++ ⟨#[c]⟩ ++ Str.join ⟨#[c]⟩ (q :: z :: r) = x := hj
        have e2 : p.cps.toList ++ c :: (Str.join ⟨#[c]⟩ (q :: z :: r)).cps.toList = a.cps.toList ++ c :: b.cps.toList := by
          rw [← hx, ← e, app3]
        obtain ⟨e3, e4⟩ := first_eq hp ha e2
        apply hb
        rw [← e4]
        show c ∈ (q ++ ⟨#[c]⟩ ++ Str.join ⟨#[c]⟩ (z :: r)).cps.toList
        rw [app3]; simp
theorem contains_one (x : Str) (c : Nat) : Txt.contains x ⟨#[c]⟩ = decide (c ∈ x.cps.toList) := StrLaws.found_one x c
theorem find_one {x : Str} {c : Nat} : (0 ≤ Txt.find x ⟨#[c]⟩ ↔ c ∈ x.cps.toList) := by
  have h := StrLaws.found_one x c
  unfold Txt.find
  cases ho : occurrences x ⟨#[c]⟩ 0 x.length 1 with
  | nil =>
    rw [ho] at h
    have : ¬ c ∈ x.cps.toList := by simpa using h.symm
    simp [this]
  | cons i r =>
    rw [ho] at h
    have : c ∈ x.cps.toList := by simpa using h.symm
    simp [this]
/-- nothing to strip behind -/
theorem rstrip_chars {x : Str} {c : Nat} {l r : List Nat} (hx : x.cps.toList = l ++ r) (hr : ∀ d ∈ r, d = c) (hl : ∀ d, l.getLast? = some d → d ≠ c) : (Txt.rstripChars x ⟨#[c]⟩).cps.toList = l := by
  unfold Txt.rstripChars
  rw [PyProof.Rows.stripBy_eq]
  have lo : stripLo (⟨#[c]⟩ : Str).cps.contains false x = 0 := rfl
  have hlen : x.length = l.length + r.length := by
    show x.cps.size = _
    rw [← Array.length_toList, hx, List.length_append]
  have g : ∀ d, (⟨#[c]⟩ : Str).cps.contains d = decide (d = c) := fun d => by simp
  have hi : stripHi (⟨#[c]⟩ : Str).cps.contains true x 0 = l.length := by
    simp only [stripHi, if_true, List.drop_zero]
    have e2 : (x.cps.toList.reverse.takeWhile (⟨#[c]⟩ : Str).cps.contains).length = r.length := by
      rw [hx, List.reverse_append, takeWhile_app r.reverse _ (fun d hd => by rw [g]; exact decide_eq_true (hr d (List.mem_reverse.mp hd))) (fun d hd => by
        rw [g]
        rw [List.head?_reverse] at hd
        exact decide_eq_false (hl d hd))]
      simp
    rw [e2, hlen]; omega
  rw [lo, hi, StrLaws.strSub_toList, hx]
  simp
end
-- P12
section
theorem slice_to {x : Str} {j : Int} (h0 : 0 ≤ j) (h1 : j ≤ x.length) : (Txt.slice x none (some j)).cps.toList = x.cps.toList.take j.toNat := by
  show (StrLaws.sliceText x none (some j)).cps.toList = _
  rw [StrLaws.sliceText_to ⟨h0, by simpa [Str.length] using h1⟩]
  simp
theorem slice_from {x : Str} {i : Int} (h0 : 0 ≤ i) (h1 : i ≤ x.length) : (Txt.slice x (some i) none).cps.toList = x.cps.toList.drop i.toNat := by
  show (StrLaws.sliceText x (some i) none).cps.toList = _
  rw [StrLaws.sliceText_from ⟨h0, by simpa [Str.length] using h1⟩]
  have h2 : i ≤ (x.cps.size : Int) := by simpa [Str.length] using h1
  simp only [Array.toList_extract, List.extract_eq_drop_take]
  exact List.take_of_length_le (by simp; omega)
theorem len_list (x : Str) : x.cps.toList.length = x.length := by simp [Str.length]
theorem app_chars (x y : Str) : (x ++ y).cps.toList = x.cps.toList ++ y.cps.toList := by rw [PySem.Str.cps_append, Array.toList_append]
def mL (r : Int) : List Nat := if r.fmod 2 = 1 then [45] else []
theorem tMinus_chars (r : Int) : (tMinus r).cps.toList = mL r := by
  have h0 := fmod_nonneg' (a := r) (b := 2) (by decide)
  have h1 := fmod_lt' (a := r) (b := 2) (by decide)
  unfold tMinus mL
  by_cases h : r.fmod 2 = 1
  · rw [if_pos h, h]; decide
  · rw [if_neg h, show r.fmod 2 = 0 from by omega]; decide
theorem tPre_ok {b : Int} (hb : B4 b) : PreOk b.toNat (tPre b).cps.toList := by
  rcases hb with rfl | rfl | rfl | rfl
  · exact Or.inr (Or.inr (Or.inr ⟨rfl, by decide⟩))
  · exact Or.inr (Or.inr (Or.inl ⟨rfl, by decide⟩))
  · exact Or.inl ⟨rfl, by decide⟩
  · exact Or.inr (Or.inl ⟨rfl, by decide⟩)
theorem tDs_len (b r : Int) : (tDs b r).length = tMany r := by unfold tDs; rw [figsL_len]
theorem tDs_pos (b r : Int) : 1 ≤ (tDs b r).length := by
  have := tManyI_b r
  have := tMany_c r
  rw [tDs_len]; omega
theorem tDs_lt {b r : Int} (hb : B4 b) : ∀ d ∈ tDs b r, d < b.toNat := fun d hd => by
  have h1 := figsL_lt hb.pos.1 _ _ d hd
  omega
def tA (r : Int) : Nat := (tAt r).toNat
theorem tA_le (b r : Int) : tA r ≤ (tDs b r).length := by
  have := tAt_b r
  have := tMany_c r
  rw [tDs_len]; unfold tA; omega
def t1L (b r : Int) : List Nat := if tDot r = true then ((tDs b r).take (tA r)).map hexC ++ 46 :: ((tDs b r).drop (tA r)).map hexC else (tDs b r).map hexC
theorem tF_chars (b r : Int) : (tF b r).cps.toList = (tDs b r).map hexC := by unfold tF digStr; rfl
theorem dot_chars : (Str.ofString ".").cps.toList = [46] := by decide
theorem tT1_chars (b r : Int) : (tT1 b r).cps.toList = t1L b r := by
  have ha := tAt_b r
  have hc := tMany_c r
  have hl := tF_len b r
  unfold tT1 t1L
  split
  · rw [app_chars, app_chars, slice_to ha.1 (by omega), slice_from ha.1 (by omega), tF_chars, dot_chars]
    show List.take (tA r) _ ++ [46] ++ List.drop (tA r) _ = _
    rw [← List.map_take, ← List.map_drop]; simp
  · exact tF_chars b r
theorem t1L_mem {b r : Int} (hb : B4 b) : ∀ c ∈ t1L b r, c = 46 ∨ ∃ d, d < b.toNat ∧ c = hexC d := by
  intro c hc
  have key : ∀ l : List Nat, (∀ d ∈ l, d < b.toNat) → c ∈ l.map hexC → ∃ d, d < b.toNat ∧ c = hexC d := by
    intro l hl hm
    obtain ⟨d, hd, rfl⟩ := List.mem_map.mp hm
    exact ⟨d, hl d hd, rfl⟩
  unfold t1L at hc
  split at hc
  · rcases List.mem_append.mp hc with h | h
    · exact Or.inr (key _ (fun d hd => tDs_lt hb d (List.mem_of_mem_take hd)) h)
    · rcases List.mem_cons.mp h with h | h
      · exact Or.inl h
      · exact Or.inr (key _ (fun d hd => tDs_lt hb d (List.mem_of_mem_drop hd)) h)
  · exact Or.inr (key _ (tDs_lt hb) hc)
theorem low_chars : (Str.ofString "_").cps.toList = [95] := by decide
theorem filter_id {l : List Nat} {c : Nat} (h : c ∉ l) : l.filter (· != c) = l := by
  rw [List.filter_eq_self]
  intro a ha
  exact bne_iff_ne.mpr (fun e => h (e ▸ ha))
theorem hex_ne {b d c : Nat} (hb : b ≤ 16) (hd : d < b) (hc : ¬ (48 ≤ c ∧ c ≤ 57) ∧ ¬ (97 ≤ c ∧ c ≤ 102)) : hexC d ≠ c := by
  have h : ∀ d : Fin 16, (48 ≤ hexC d.val ∧ hexC d.val ≤ 57) ∨ (97 ≤ hexC d.val ∧ hexC d.val ≤ 102) := by decide +kernel
  have := h ⟨d, by omega⟩
  dsimp only at this
  omega
theorem B4.toNat {b : Int} (h : B4 b) : b.toNat ≤ 16 := by have := h.pos; omega
theorem t1L_no {b r : Int} (hb : B4 b) {c : Nat} (hc : ¬ (48 ≤ c ∧ c ≤ 57) ∧ ¬ (97 ≤ c ∧ c ≤ 102)) (hc2 : c ≠ 46) : c ∉ t1L b r := fun h => by
  rcases t1L_mem hb c h with e | ⟨d, hd, e⟩
  · exact hc2 e
  · exact hex_ne hb.toNat hd hc e.symm
theorem tT2_chars (b r : Int) : ∃ u v : List Nat, t1L b r = u ++ v ∧ ((tT2 b r).cps.toList = u ++ 95 :: v ∨ (tT2 b r).cps.toList = u ++ v) := by
  unfold tT2
  split
  · rename_i h
    unfold tLow at h
    simp only [Bool.and_eq_true, decide_eq_true_eq] at h
    refine ⟨(t1L b r).take 2, (t1L b r).drop 2, (List.take_append_drop ..).symm, Or.inl ?_⟩
    rw [app_chars, app_chars, slice_to (by decide) (by omega), slice_from (by decide) (by omega), tT1_chars, low_chars]
    simp
  · exact ⟨t1L b r, [], by simp, Or.inr (by rw [tT1_chars]; simp)⟩
theorem tT2_filter {b r : Int} (hb : B4 b) : (tT2 b r).cps.toList.filter (· != 95) = t1L b r := by
  have hn : 95 ∉ t1L b r := t1L_no hb (by omega) (by omega)
  obtain ⟨u, v, e, h | h⟩ := tT2_chars b r
  · rw [h, List.filter_append, List.filter_cons_of_neg (by simp), ← List.filter_append, ← e, filter_id hn]
  · rw [h, ← e, filter_id hn]
theorem tT2_mem {b r : Int} : ∀ c ∈ (tT2 b r).cps.toList, c = 95 ∨ c ∈ t1L b r := by
  intro c hc
  obtain ⟨u, v, e, h | h⟩ := tT2_chars b r
  · rw [h] at hc
    rw [e]
    rcases List.mem_append.mp hc with q | q
    · exact Or.inr (List.mem_append_left _ q)
    · rcases List.mem_cons.mp q with q | q
      · exact Or.inl q
      · exact Or.inr (List.mem_append_right _ q)
  · rw [h, ← e] at hc; exact Or.inr hc
/-- what stands behind the figures -/
def sL (b r : Int) : List Nat := if tSh b r ≠ 0 then (tMark b r).cps.toList ++ (Str.ofString (toString (tSh b r))).cps.toList else []
theorem tT3_chars (b r : Int) : ∃ e : List Nat, (e = [] ∨ e = [108]) ∧ (tT3 b r).cps.toList = (tT2 b r).cps.toList ++ (sL b r ++ e) ∧ (sL b r ≠ [] → e = []) := by
  unfold tT3 sL
  by_cases h : tSh b r ≠ 0
  · rw [if_pos h, if_pos h]
    exact ⟨[], Or.inl rfl, by rw [app_chars, app_chars]; simp, fun _ => rfl⟩
  · rw [if_neg h, if_neg h]
    by_cases h2 : (r.fdiv 92160).fmod 4 = 0
    · rw [if_pos h2]
      exact ⟨[108], Or.inr rfl, by rw [app_chars]; simp; decide, fun q => absurd rfl q⟩
    · rw [if_neg h2]
      exact ⟨[], Or.inl rfl, by simp, fun q => absurd rfl q⟩
theorem tMark_chars (b r : Int) (hb : B4 b) : ∃ k, (tMark b r).cps.toList = [k] ∧ ((tP b r = true ∧ k = 112) ∨ (tP b r = false ∧ b = 16 ∧ k = 64) ∨ (tP b r = false ∧ b ≠ 16 ∧ k = 101)) := by
  unfold tMark
  split
  · rename_i h; exact ⟨112, by decide, Or.inl ⟨h, rfl⟩⟩
  · rename_i h
    have h' : tP b r = false := by simpa using h
    rcases hb with rfl | rfl | rfl | rfl
    · exact ⟨101, by decide, Or.inr (Or.inr ⟨h', by decide, rfl⟩)⟩
    · exact ⟨101, by decide, Or.inr (Or.inr ⟨h', by decide, rfl⟩)⟩
    · exact ⟨101, by decide, Or.inr (Or.inr ⟨h', by decide, rfl⟩)⟩
    · exact ⟨64, by decide, Or.inr (Or.inl ⟨h', rfl, rfl⟩)⟩
theorem sh_chars (n : Int) : ∀ c ∈ (Str.ofString (toString n)).cps.toList, c = 45 ∨ (48 ≤ c ∧ c ≤ 57) := by
  obtain ⟨ds, e1, e2, e3, e4⟩ := int_chars n
  intro c hc
  rw [e1] at hc
  rcases List.mem_append.mp hc with h | h
  · split at h
    · exact Or.inl (by simpa using h)
    · nomatch h
  · obtain ⟨d, hd, rfl⟩ := List.mem_map.mp h
    have := e2 d hd
    obtain ⟨q1, q2, q3, q4, q5, q6, q7⟩ := hexC_b ⟨d, by omega⟩
    exact Or.inr ⟨q1, by have := q7 this; dsimp only at this; omega⟩
end
-- G8
section
/-- the law's own answer -/
def DueOk (above below prec : Int) (rnd : Str) (v : Int × Int × Int × Int) : Prop :=
  (above = 0 ∧ v = (0, 0, 0, 0)) ∨ (above ≠ 0 ∧ ∃ (x : Nat) (f : Int), v = (sgn above, (x : Int), f, (Builtin.Int.intBits (x : Int) : Int)) ∧ IsLaw (upS rnd (sgn above)) prec.toNat above.natAbs below.natAbs x f)
section
variable {w : World} {p : Program} {loose : List Str} {mean : ExcName → Option Value} {mg mb : Str → Option Value} {A₀ : Around} {base h₀ : Heap} {outer : List Env} {L : Addr} {m : Str → Option Value} {news : List (Addr × Obj)} {s : Shared} {dp un : Nat} {gd : Option (List Code)} {cn : Str} {cs : Scope} {a : Addr} {ccd : Value} {cl : List (Str × Addr)} {Q E : Value → Shared → Prop}
set_option maxHeartbeats 8000000 in
theorem c_rounded0 {above below prec : Int} {rnd : Str} {t1 t2 t3 t4 : Tok}
   (B : Below A₀ base outer h₀) (F : Fr h₀ L s.heap m) (X : (hd.heap_39 w.params).In h₀) (N : News h₀ L s.heap news) (T : Top p loose mean mg mb h₀) (hk : cs.kind = .function) (hdp : dp + 1 < recursionLimit)
   (hz : above = 0)
   (ret : Ret4 h₀ L m news s Q 0 0 0 0) :
  wpAny (model PR w) (ktrTop dp un gd cn cs L a ccd cl outer) (call (.ref 141) [.int above t1, .int below t2, .int prec t3, .str rnd t4]) Q E s := by
  revert X; walk_at "m open"
  walk_at "m go"
  all_goals walk_at "m ret4"
theorem c_roundedU {above below prec : Int} {rnd : Str} {t1 t2 t3 t4 : Tok}
   (B : Below A₀ base outer h₀) (F : Fr h₀ L s.heap m) (X : (hd.heap_39 w.params).In h₀) (N : News h₀ L s.heap news) (T : Top p loose mean mg mb h₀) (hk : cs.kind = .function) (hdp : dp + 1 < recursionLimit)
   (hb : 0 < below) (hb1 : below.natAbs < 2 ^ 2000) (ha1 : above.natAbs < 2 ^ 2000) (hp : 1 ≤ prec) (hp1 : prec ≤ 90) (hr : IsRnd rnd)
   (ret : ∀ v, DueOk above below prec rnd v → Ret4V h₀ L m news s Q v) :
  wpAny (model PR w) (ktrTop dp un gd cn cs L a ccd cl outer) (call (.ref 141) [.int above t1, .int below t2, .int prec t3, .str rnd t4]) Q E s := by
  by_cases hz : above = 0
  · exact c_rounded0 B F X N T hk hdp hz (ret (0, 0, 0, 0) (Or.inl ⟨hz, rfl⟩))
  · obtain ⟨b, rfl⟩ := Int.eq_ofNat_of_zero_le (Int.le_of_lt hb)
    obtain ⟨n, rfl⟩ := Int.eq_ofNat_of_zero_le (show 0 ≤ prec by omega)
    have hm := mag_nat above
    refine c_rounded B F X N T hk hdp hz (by rw [hm]; exact rdOk_of (by omega) (by omega) (by omega) (by omega) ha1 hb1) hr ?_
    intro v k x hv hw hx h0
    rw [hm] at hv hw
    have hl := rd_law (by omega) (by omega) (by omega) hw hx h0
    refine ret v (Or.inr ⟨hz, x.toNat, _, ?_, by simpa using hl⟩)
    rw [hv, Int.toNat_of_nonneg (Int.le_of_lt h0)]
end
/-- a text that from_str answers with v -/
inductive FsOk (x : Str) (prec : Int) (rnd : Str) (v : Int × Int × Int × Int) : Prop
  | w (sa : Addr) (_ : FsS x) (_ : spVal (fsY x) = some sa) (_ : spTup sa = v)
  | q (y1 y2 : Str) (p q : Int) (_ : FsQ x y1 y2 p q) (_ : Small p) (_ : Small q) (_ : 0 < q) (_ : frV p q prec rnd = v)
  | n10 (e man ex : Int) (_ : FsH 10 x e man) (_ : smExp 10 (fsY x) e = ex) (_ : Builtin.Int.intBits man ≤ 64) (_ : -400 ≤ ex) (_ : ex ≤ 400) (_ : fsV10 man ex prec rnd = v)
  | n2 (b e man ex : Int) (_ : B4 b) (_ : b ≠ 10) (_ : FsH b x e man) (_ : smExp b (fsY x) e = ex) (_ : Builtin.Int.intBits man ≤ 64) (_ : fsV2 b (fsY x) man ex prec rnd = v)
theorem bits_abs (n : Int) : Builtin.Int.intBits n = Builtin.Int.intBits (n.natAbs : Int) := by
  unfold Builtin.Int.intBits
  by_cases h : n = 0
  · subst h; rfl
  · rw [if_neg (by simpa using h), if_neg (by simp; omega)]; simp
theorem abs_bits {n : Int} {k : Nat} (h : Builtin.Int.intBits n ≤ k) : n.natAbs < 2 ^ k := by
  rcases Nat.eq_zero_or_pos n.natAbs with h0 | h0
  · rw [h0]; exact two_pos k
  · rw [bits_abs] at h
    exact Nat.lt_of_lt_of_le (bits_bounds h0).2.1 (Nat.pow_le_pow_right (by decide) h)
theorem pow10_lt {k : Nat} (h : k ≤ 400) : (10 : Nat) ^ k < 2 ^ 1601 := by
  calc (10 : Nat) ^ k ≤ 16 ^ k := Nat.pow_le_pow_left (by decide) k
    _ ≤ 16 ^ 400 := Nat.pow_le_pow_right (by decide) h
    _ = 2 ^ 1600 := by rw [show (16 : Nat) = 2 ^ 4 from rfl, ← Nat.pow_mul]
    _ < 2 ^ 1601 := Nat.pow_lt_pow_right (by decide) (by decide)
section
variable {w : World} {p : Program} {loose : List Str} {mean : ExcName → Option Value} {mg mb : Str → Option Value} {A₀ : Around} {base h₀ : Heap} {outer : List Env} {L : Addr} {m : Str → Option Value} {news : List (Addr × Obj)} {s : Shared} {dp un : Nat} {gd : Option (List Code)} {cn : Str} {cs : Scope} {a : Addr} {ccd : Value} {cl : List (Str × Addr)} {Q E : Value → Shared → Prop}
theorem c_fs {x : Str} {prec : Int} {rnd : Str} {v : Int × Int × Int × Int} {t1 t2 t3 : Tok}
   (B : Below A₀ base outer h₀) (F : Fr h₀ L s.heap m) (X : (hd.heap_39 w.params).In h₀) (N : News h₀ L s.heap news) (T : Top p loose mean mg mb h₀) (hk : cs.kind = .function) (hdp : dp + 13 < recursionLimit) (hun : un + 100 < cLine)
   (H : FsOk x prec rnd v) (hp0 : 0 < prec) (hp1 : prec ≤ 1000) (hr : IsRnd rnd)
   (ret : RetT h₀ L m news s Q v) :
  wpAny (model PR w) (ktrTop dp un gd cn cs L a ccd cl outer) (call (.ref 127) [.str x t1, .int prec t2, .str rnd t3]) Q E s := by
  rcases H with ⟨sa, h1, h2, rfl⟩ | ⟨y1, y2, p_, q_, h1, h2, h3, h4, rfl⟩ | ⟨e, man, ex, h1, h2, h3, h4, h5, rfl⟩ | ⟨b, e, man, ex, h1, h2, h3, h4, h5, rfl⟩
  · exact c_fsW B F X N T hk hdp hun h1 h2 ret
  · exact c_fsQ B F X N T hk hdp hun h1 hp0 hp1 hr h2 h3 h4 ret
  · have hm := abs_bits h3
    have e1 := pow10_lt (k := ex.toNat) (by omega)
    have e2 := pow10_lt (k := (-ex).toNat) (by omega)
    have hpos : (0 : Int) < 10 ^ (-ex).toNat := Int.pow_pos (by decide)
    have a1 : ((10 : Int) ^ (-ex).toNat).natAbs = 10 ^ (-ex).toNat := by rw [Int.natAbs_pow]; rfl
    have a2 : ((10 : Int) ^ ex.toNat).natAbs = 10 ^ ex.toNat := by rw [Int.natAbs_pow]; rfl
    have p64 : (2 : Nat) ^ 64 ≤ 2 ^ 1601 := Nat.pow_le_pow_right (by decide) (by decide)
    have p4 : (2 : Nat) ^ 1601 ≤ 2 ^ 4000 := Nat.pow_le_pow_right (by decide) (by decide)
    refine c_fs10 B F X N T hk hdp hun h1 h2 h3 h4 h5 hp0 hp1 hr ?_ ?_ ?_ hpos ret
    · rw [mag_nat]
      have hlt : (man * 10 ^ ex.toNat).natAbs < 2 ^ 1665 := by
        rw [Int.natAbs_mul, a2]
        calc man.natAbs * 10 ^ ex.toNat < 2 ^ 64 * 10 ^ ex.toNat := Nat.mul_lt_mul_of_pos_right hm (Nat.pow_pos (by decide))
          _ ≤ 2 ^ 64 * 2 ^ 1601 := Nat.mul_le_mul_left _ (Nat.le_of_lt e1)
          _ = 2 ^ 1665 := by rw [← Nat.pow_add]
      have := bits_lt hlt
      omega
    · unfold Small; exact Nat.lt_of_lt_of_le hm (Nat.le_trans p64 p4)
    · unfold Small; rw [a1]; exact Nat.lt_of_lt_of_le e2 p4
  · have hm := abs_bits h5
    refine c_fs2 B F X N T hk hdp hun h1 h2 h3 h4 hp0 hp1 hr ?_ ret
    rw [mag_nat]
    have := bits_lt hm
    omega
end
end
-- P13
section
theorem worth_lt {b : Nat} : ∀ (n : Nat) (l : List Nat), l.length = n → (∀ d ∈ l, d < b) → 0 ≤ worth (b : Int) l ∧ worth (b : Int) l < ((b ^ n : Nat) : Int)
  | 0, l, hl, h => by
    rw [List.length_eq_zero_iff.mp hl]
    exact ⟨Int.le_refl 0, by show (0 : Int) < _; simp⟩
  | n + 1, l, hl, h => by
    have hne : l ≠ [] := fun e => by rw [e] at hl; simp at hl
    have e := List.dropLast_concat_getLast hne
    have hd := h _ (List.getLast_mem hne)
    have ih := worth_lt n l.dropLast (by simp [hl]) (fun d hd => h d (List.dropLast_subset _ hd))
    rw [← e, worth_snoc]
    generalize l.getLast hne = d at *
    generalize worth (b : Int) l.dropLast = W at *
    obtain ⟨w, rfl⟩ : ∃ w : Nat, W = (w : Int) := ⟨W.toNat, by omega⟩
    have h2 : w + 1 ≤ b ^ n := by have := ih.2; omega
    have h3 : (w + 1) * b ≤ b ^ n * b := Nat.mul_le_mul_right _ h2
    rw [← Nat.pow_succ, Nat.add_mul] at h3
    have hd' : d < b := hd
    have h4 : w * b + d < b ^ (n + 1) := Nat.lt_of_lt_of_le (by omega) h3
    refine ⟨?_, ?_⟩
    · exact_mod_cast Nat.zero_le (w * b + d)
    · exact_mod_cast h4
theorem worth_abs {b r : Int} (hb : B4 b) : (tW b r).natAbs < 2 ^ 64 := by
  have h := worth_lt (b := b.toNat) (tMany r) (tDs b r) (tDs_len b r) (tDs_lt hb)
  have e : ((b.toNat : Nat) : Int) = b := by have := hb.pos; omega
  rw [e] at h
  have h1 : b.toNat ^ tMany r ≤ 2 ^ 64 := by
    refine Nat.le_trans (Nat.pow_le_pow_left hb.toNat _) (Nat.le_trans (Nat.pow_le_pow_right (by decide) (tMany_16 r)) (by decide))
  unfold tW
  generalize worth b (tDs b r) = W at *
  split <;> omega
theorem txH_of {b r : Int} (hb : B4 b) : TxH b r := ⟨hb, Nat.le_trans (bits_le (worth_abs hb)) (by decide)⟩
end
-- P14
section
def Fine (c : Nat) : Prop := 33 ≤ c ∧ c < 127 ∧ (c < 65 ∨ 90 < c)
theorem fine_hex {b d : Nat} (hb : b ≤ 16) (hd : d < b) : Fine (hexC d) := by
  obtain ⟨h1, h2, _, _, h3, _⟩ := hexC_b ⟨d, by omega⟩
  dsimp only at h1 h2 h3
  exact ⟨by omega, by omega, h3⟩
theorem tPre_fine {b : Int} (hb : B4 b) : ∀ c ∈ (tPre b).cps.toList, Fine c := by
  have key : ∀ l : List Nat, (∀ c ∈ l, 33 ≤ c ∧ c < 127 ∧ (c < 65 ∨ 90 < c)) → ∀ c ∈ l, Fine c := fun l h => h
  rcases tPre_ok hb with ⟨_, h⟩ | ⟨_, h⟩ | ⟨_, h⟩ | ⟨_, h⟩ <;> rw [h] <;> exact key _ (by decide)
theorem sL_fine {b r : Int} (hb : B4 b) : ∀ c ∈ sL b r, Fine c := by
  intro c hc
  unfold sL at hc
  split at hc
  · rcases List.mem_append.mp hc with h | h
    · obtain ⟨k, hk, h2⟩ := tMark_chars b r hb
      rw [hk, List.mem_singleton] at h
      rw [h]
      rcases h2 with ⟨_, rfl⟩ | ⟨_, _, rfl⟩ | ⟨_, _, rfl⟩ <;> (unfold Fine; omega)
    · have := sh_chars _ c h
      unfold Fine; omega
  · exact absurd hc List.not_mem_nil
theorem tT2_fine {b r : Int} (hb : B4 b) : ∀ c ∈ (tT2 b r).cps.toList, Fine c := by
  intro c hc
  rcases tT2_mem c hc with rfl | h
  · unfold Fine; omega
  · rcases t1L_mem hb c h with rfl | ⟨d, hd, rfl⟩
    · unfold Fine; omega
    · exact fine_hex hb.toNat hd
theorem tText_chars (b r : Int) : ∃ e : List Nat, (e = [] ∨ e = [108]) ∧ (tText b r).cps.toList = mL r ++ ((tPre b).cps.toList ++ ((tT2 b r).cps.toList ++ (sL b r ++ e))) ∧ (sL b r ≠ [] → e = []) := by
  obtain ⟨e, h1, h2, h3⟩ := tT3_chars b r
  refine ⟨e, h1, ?_, h3⟩
  unfold tText
  rw [app_chars, app_chars, h2, tMinus_chars, List.append_assoc]
theorem tText_still {b : Int} (hb : B4 b) (r : Int) : KXs.Still (tText b r) := by
  intro c hc
  show Fine c
  obtain ⟨e, h1, h2, _⟩ := tText_chars b r
  rw [h2] at hc
  rcases List.mem_append.mp hc with h | hc
  · unfold mL at h; split at h
    · rw [List.mem_singleton] at h; subst h; unfold Fine; omega
    · exact absurd h List.not_mem_nil
  · rcases List.mem_append.mp hc with h | hc
    · exact tPre_fine hb c h
    · rcases List.mem_append.mp hc with h | hc
      · exact tT2_fine hb c h
      · rcases List.mem_append.mp hc with h | hc
        · exact sL_fine hb c h
        · rcases h1 with h1 | h1 <;> rw [h1] at hc
          · exact absurd hc List.not_mem_nil
          · rw [List.mem_singleton] at hc; subst hc; unfold Fine; omega
theorem tText_len {b : Int} (hb : B4 b) (r : Int) : (tText b r).length ≤ 78 := by
  have h := (txH_of (r := r) hb).sz
  obtain ⟨-, -, -, -, -, h6, h7, h8, -⟩ := h
  unfold tText
  have e1 : (tMinus r ++ tPre b ++ tT3 b r).length = (tMinus r).length + (tPre b).length + (tT3 b r).length := by
    rw [← len_list, ← len_list, ← len_list, ← len_list, app_chars, app_chars]; simp; omega
  omega
theorem t1L_head {b r : Int} (hb : B4 b) : ∃ d l, t1L b r = hexC d :: l ∧ d < b.toNat := by
  have h1 := tDs_pos b r
  have hlt := tDs_lt (r := r) hb
  unfold t1L
  have hA : tDot r = true → 0 < tA r := fun h => by
    unfold tDot at h; simp only [Bool.and_eq_true, decide_eq_true_eq] at h
    unfold tA; omega
  generalize tDs b r = l at *
  cases l with
  | nil => exact absurd h1 (by simp)
  | cons d l =>
    have hd := hlt d (List.mem_cons_self ..)
    split
    · rename_i h
      obtain ⟨n, hn⟩ : ∃ n, tA r = n + 1 := ⟨tA r - 1, by have := hA h; omega⟩
      rw [hn]
      exact ⟨d, _, by rw [List.take_succ_cons, List.map_cons, List.cons_append], hd⟩
    · exact ⟨d, _, List.map_cons, hd⟩
end
-- P15
section
theorem starts_eq (x y : Str) : Txt.startswith x y = (x.cps.toList.take y.length == y.cps.toList) := by
  show (decide (0 + y.length ≤ x.length) && Builtin.Str.subAt x y 0) = _
  rw [StrLaws.subAt_eq, List.drop_zero]
  by_cases h : 0 + y.length ≤ x.length
  · rw [decide_eq_true h, Bool.true_and]
  · rw [decide_eq_false h, Bool.false_and]
    symm
    rw [beq_eq_false_iff_ne]
    intro e
    have := congrArg List.length e
    rw [List.length_take, len_list, len_list] at this
    omega
theorem starts_mem {x y : Str} {c : Nat} (hc : c ∈ y.cps.toList) (hn : c ∉ x.cps.toList) : Txt.startswith x y = false := by
  rw [starts_eq, beq_eq_false_iff_ne]
  intro e
  rw [← e] at hc
  exact hn (List.mem_of_mem_take hc)
/-- a figure, with a minus sign ahead or none -/
def Headed (l : List Nat) : Prop := ∃ c q, 48 ≤ c ∧ c ≤ 57 ∧ (l = c :: q ∨ l = 45 :: c :: q)
theorem sp_none {x : Str} (h : Headed x.cps.toList) : spVal x = none := by
  obtain ⟨c, q, h1, h2, h3⟩ := h
  have key : ∀ y : Str, (∀ c q, 48 ≤ c → c ≤ 57 → y.cps.toList ≠ c :: q ∧ y.cps.toList ≠ 45 :: c :: q) → x ≠ y := by
    intro y hy e
    rw [e] at h3
    have := hy c q h1 h2
    rcases h3 with h3 | h3
    · exact this.1 h3
    · exact this.2 h3
  have k1 : ∀ (y : Str) (a : Nat) (l : List Nat), y.cps.toList = a :: l → (a < 48 ∨ 57 < a) → a ≠ 45 → x ≠ y := by
    intro y a l e h h'
    refine key y fun c q h1 h2 => ⟨fun k => ?_, fun k => ?_⟩
    · rw [e] at k; injection k with k _; omega
    · rw [e] at k; injection k with k _; omega
  have k2 : ∀ (y : Str) (a : Nat) (l : List Nat), y.cps.toList = 45 :: a :: l → (a < 48 ∨ 57 < a) → x ≠ y := by
    intro y a l e h
    refine key y fun c q h1 h2 => ⟨fun k => ?_, fun k => ?_⟩
    · rw [e] at k; injection k with k _; omega
    · rw [e] at k; injection k with _ k; injection k with k _; omega
  unfold spVal
  rw [if_neg (k1 _ 105 [110, 102] (by decide) (by omega) (by omega)), if_neg (k1 _ 43 [105, 110, 102] (by decide) (by omega) (by omega)), if_neg (k2 _ 105 [110, 102] (by decide) (by omega)),
    if_neg (k1 _ 110 [97, 110] (by decide) (by omega) (by omega)), if_neg (k1 _ 111 [111] (by decide) (by omega) (by omega)), if_neg (k1 _ 43 [111, 111] (by decide) (by omega) (by omega)), if_neg (k2 _ 111 [111] (by decide) (by omega))]
theorem base10 {x : Str} (h : ∀ c ∈ x.cps.toList, c ≠ 98 ∧ c ≠ 120 ∧ c ≠ 111 ∧ c ≠ 66 ∧ c ≠ 88) : fsBase x = 10 := by
  have k : ∀ (y : Str) (c : Nat), c ∈ y.cps.toList → (c = 98 ∨ c = 120 ∨ c = 111 ∨ c = 66 ∨ c = 88) → Txt.startswith x y = false := by
    intro y c hy hc
    refine starts_mem hy fun hx => ?_
    have := h c hx
    omega
  unfold fsBase sw4 sw2
  rw [k (Str.ofString "0b") 98 (by decide) (by omega), k (Str.ofString "-0b") 98 (by decide) (by omega), k (Str.ofString "0B") 66 (by decide) (by omega), k (Str.ofString "-0B") 66 (by decide) (by omega),
    k (Str.ofString "0x") 120 (by decide) (by omega), k (Str.ofString "-0x") 120 (by decide) (by omega), k (Str.ofString "0X") 88 (by decide) (by omega), k (Str.ofString "-0X") 88 (by decide) (by omega),
    k (Str.ofString "0o") 111 (by decide) (by omega), k (Str.ofString "-0o") 111 (by decide) (by omega)]
  rfl
theorem based_pre {x : Str} {k : Nat} {l : List Nat} (h : x.cps.toList = 48 :: k :: l ∨ x.cps.toList = 45 :: 48 :: k :: l) (hk : k = 98 ∨ k = 120 ∨ k = 111) :
   fsBase x = if k = 98 then 2 else if k = 120 then 16 else 8 := by
  have e : ∀ y : Str, Txt.startswith x y = (x.cps.toList.take y.length == y.cps.toList) := starts_eq x
  have q1 : (Str.ofString "0b").cps.toList = [48, 98] ∧ (Str.ofString "-0b").cps.toList = [45, 48, 98] ∧ (Str.ofString "0B").cps.toList = [48, 66] ∧ (Str.ofString "-0B").cps.toList = [45, 48, 66] := by decide
  have q2 : (Str.ofString "0x").cps.toList = [48, 120] ∧ (Str.ofString "-0x").cps.toList = [45, 48, 120] ∧ (Str.ofString "0X").cps.toList = [48, 88] ∧ (Str.ofString "-0X").cps.toList = [45, 48, 88] := by decide
  have q3 : (Str.ofString "0o").cps.toList = [48, 111] ∧ (Str.ofString "-0o").cps.toList = [45, 48, 111] := by decide
  obtain ⟨a1, a2, a3, a4⟩ := q1
  obtain ⟨b1, b2, b3, b4⟩ := q2
  obtain ⟨c1, c2⟩ := q3
  unfold fsBase sw4 sw2
  simp only [e, ← len_list, a1, a2, a3, a4, b1, b2, b3, b4, c1, c2]
  rcases h with h | h <;> rw [h] <;> rcases hk with rfl | rfl | rfl <;> simp
theorem tText_headed {b : Int} (hb : B4 b) (r : Int) : Headed (tText b r).cps.toList := by
  obtain ⟨e, h1, h2, h3⟩ := tText_chars b r
  have key : ∀ c q, 48 ≤ c → c ≤ 57 → (tPre b).cps.toList ++ ((tT2 b r).cps.toList ++ (sL b r ++ e)) = c :: q → Headed (tText b r).cps.toList := by
    intro c q k1 k2 k3
    rw [h2, k3]
    refine ⟨c, q, k1, k2, ?_⟩
    unfold mL; split
    · exact Or.inr rfl
    · exact Or.inl rfl
  rcases tPre_ok hb with ⟨hb1, h⟩ | ⟨_, h⟩ | ⟨_, h⟩ | ⟨_, h⟩
  · obtain ⟨d, l, k1, k2⟩ := t1L_head (r := r) hb
    have k3 := (hexC_b ⟨d, by omega⟩).2.2.2.2.2.2 (by show d < 10; omega)
    have k4 := (hexC_b ⟨d, by omega⟩).1
    dsimp only at k3 k4
    have : ∃ q, (tT2 b r).cps.toList = hexC d :: q := by
      unfold tT2
      split
      · rename_i h
        unfold tLow at h
        simp only [Bool.and_eq_true, decide_eq_true_eq] at h
        rw [app_chars, app_chars, slice_to (by decide) (by omega), slice_from (by decide) (by omega), tT1_chars, k1]
        exact ⟨_, rfl⟩
      · exact ⟨l, by rw [tT1_chars, k1]⟩
    obtain ⟨q, hq⟩ := this
    exact key (hexC d) (q ++ (sL b r ++ e)) k4 (by omega) (by rw [h, hq]; rfl)
  · exact key 48 (120 :: ((tT2 b r).cps.toList ++ (sL b r ++ e))) (by omega) (by omega) (by rw [h]; rfl)
  · exact key 48 (111 :: ((tT2 b r).cps.toList ++ (sL b r ++ e))) (by omega) (by omega) (by rw [h]; rfl)
  · exact key 48 (98 :: ((tT2 b r).cps.toList ++ (sL b r ++ e))) (by omega) (by omega) (by rw [h]; rfl)
theorem tText_sp {b : Int} (hb : B4 b) (r : Int) : spVal (tText b r) = none := sp_none (tText_headed hb r)
end
-- P16
section
theorem sL_mem {b r : Int} (hb : B4 b) : ∀ c ∈ sL b r, c = 45 ∨ (48 ≤ c ∧ c ≤ 57) ∨ c = 112 ∨ c = 64 ∨ c = 101 := by
  intro c hc
  unfold sL at hc
  split at hc
  · rcases List.mem_append.mp hc with h | h
    · obtain ⟨k, hk, h2⟩ := tMark_chars b r hb
      rw [hk, List.mem_singleton] at h
      rcases h2 with ⟨_, rfl⟩ | ⟨_, _, rfl⟩ | ⟨_, _, rfl⟩ <;> omega
    · have := sh_chars _ c h
      omega
  · exact absurd hc List.not_mem_nil
theorem tP_10 {b r : Int} (h : b = 10) : tP b r = false := by subst h; rfl
theorem sL_mem10 {b r : Int} (h10 : b = 10) : ∀ c ∈ sL b r, c = 45 ∨ (48 ≤ c ∧ c ≤ 57) ∨ c = 101 := by
  intro c hc
  unfold sL at hc
  split at hc
  · rcases List.mem_append.mp hc with h | h
    · obtain ⟨k, hk, h2⟩ := tMark_chars b r (by unfold B4; omega)
      rw [hk, List.mem_singleton] at h
      rcases h2 with ⟨h3, rfl⟩ | ⟨_, h3, rfl⟩ | ⟨_, _, rfl⟩
      · rw [tP_10 h10] at h3; exact absurd h3 (by decide)
      · omega
      · omega
    · have := sh_chars _ c h
      omega
  · exact absurd hc List.not_mem_nil
theorem tText_mem {b r : Int} (hb : B4 b) : ∀ c ∈ (tText b r).cps.toList, c = 45 ∨ c = 95 ∨ c = 46 ∨ c = 108 ∨ c ∈ (tPre b).cps.toList ∨ (∃ d, d < b.toNat ∧ c = hexC d) ∨ c ∈ sL b r := by
  intro c hc
  obtain ⟨e, h1, h2, _⟩ := tText_chars b r
  rw [h2] at hc
  rcases List.mem_append.mp hc with h | hc
  · unfold mL at h; split at h
    · rw [List.mem_singleton] at h; exact Or.inl h
    · exact absurd h List.not_mem_nil
  · rcases List.mem_append.mp hc with h | hc
    · exact Or.inr (Or.inr (Or.inr (Or.inr (Or.inl h))))
    · rcases List.mem_append.mp hc with h | hc
      · rcases tT2_mem c h with h | h
        · exact Or.inr (Or.inl h)
        · rcases t1L_mem hb c h with h | h
          · exact Or.inr (Or.inr (Or.inl h))
          · exact Or.inr (Or.inr (Or.inr (Or.inr (Or.inr (Or.inl h)))))
      · rcases List.mem_append.mp hc with h | hc
        · exact Or.inr (Or.inr (Or.inr (Or.inr (Or.inr (Or.inr h)))))
        · rcases h1 with h1 | h1 <;> rw [h1] at hc
          · exact absurd hc List.not_mem_nil
          · rw [List.mem_singleton] at hc; exact Or.inr (Or.inr (Or.inr (Or.inl hc)))
theorem tPre_mem {b : Int} (hb : B4 b) : ∀ c ∈ (tPre b).cps.toList, c = 48 ∨ c = 120 ∨ c = 111 ∨ c = 98 := by
  have key : ∀ l : List Nat, (∀ c ∈ l, c = 48 ∨ c = 120 ∨ c = 111 ∨ c = 98) → ∀ c ∈ l, c = 48 ∨ c = 120 ∨ c = 111 ∨ c = 98 := fun l h => h
  rcases tPre_ok hb with ⟨_, h⟩ | ⟨_, h⟩ | ⟨_, h⟩ | ⟨_, h⟩ <;> rw [h] <;> exact key _ (by decide)
theorem hexC_in {b d : Nat} (hb : b ≤ 16) (hd : d < b) : (48 ≤ hexC d ∧ hexC d ≤ 57) ∨ (97 ≤ hexC d ∧ hexC d ≤ 102) := by
  have k : ∀ d : Fin 16, (48 ≤ hexC d.val ∧ hexC d.val ≤ 57) ∨ (97 ≤ hexC d.val ∧ hexC d.val ≤ 102) := by decide +kernel
  exact k ⟨d, by omega⟩
theorem tText_slash {b : Int} (hb : B4 b) (r : Int) : Txt.contains (tText b r) (Str.ofString "/") = false := by
  have e : Str.ofString "/" = ⟨#[47]⟩ := by decide
  rw [e, contains_one, decide_eq_false_iff_not]
  intro hc
  rcases tText_mem hb 47 hc with h | h | h | h | h | ⟨d, hd, h⟩ | h
  · omega
  · omega
  · omega
  · omega
  · have := tPre_mem hb 47 h; omega
  · have := hexC_in hb.toNat hd; omega
  · have := sL_mem hb 47 h; omega
theorem tText_base {b : Int} (hb : B4 b) (r : Int) : fsBase (tText b r) = b := by
  by_cases h10 : b = 10
  · rw [base10]
    · exact h10.symm
    · intro c hc
      have hp : (tPre b).cps.toList = [] := by subst h10; decide
      rcases tText_mem hb c hc with h | h | h | h | h | ⟨d, hd, h⟩ | h
      · omega
      · omega
      · omega
      · omega
      · rw [hp] at h; exact absurd h List.not_mem_nil
      · have k3 := (hexC_b ⟨d, by omega⟩).2.2.2.2.2.2 (by show d < 10; omega)
        have k4 := (hexC_b ⟨d, by omega⟩).1
        dsimp only at k3 k4
        omega
      · have := sL_mem10 h10 c h; omega
  · obtain ⟨e, h1, h2, h3⟩ := tText_chars b r
    have key : ∀ k q, (tPre b).cps.toList ++ ((tT2 b r).cps.toList ++ (sL b r ++ e)) = 48 :: k :: q → ((tText b r).cps.toList = 48 :: k :: q ∨ (tText b r).cps.toList = 45 :: 48 :: k :: q) := by
      intro k q k3
      rw [h2, k3]
      unfold mL; split
      · exact Or.inr rfl
      · exact Or.inl rfl
    rcases tPre_ok hb with ⟨h, _⟩ | ⟨h0, h⟩ | ⟨h0, h⟩ | ⟨h0, h⟩
    · omega
    · rw [based_pre (key 120 _ (by rw [h]; rfl)) (by omega)]; simp; omega
    · rw [based_pre (key 111 _ (by rw [h]; rfl)) (by omega)]; simp; omega
    · rw [based_pre (key 98 _ (by rw [h]; rfl)) (by omega)]; simp; omega
end
-- P17
section
theorem mL_mem {r : Int} : ∀ c ∈ mL r, c = 45 := by
  intro c h
  unfold mL at h; split at h
  · exact List.mem_singleton.mp h
  · exact absurd h List.not_mem_nil
theorem tText_smY {b : Int} (hb : B4 b) (r : Int) : (smY (tText b r)).cps.toList = (mL r ++ ((tPre b).cps.toList ++ t1L b r)) ++ sL b r := by
  obtain ⟨e, h1, h2, h3⟩ := tText_chars b r
  have hs := tText_still hb r
  have el : Str.ofString "l" = ⟨#[108]⟩ := by decide
  have eu : Str.ofString "_" = ⟨#[95]⟩ := by decide
  have en : Str.ofString "" = ⟨#[]⟩ := by decide
  have hr : (Txt.rstripChars (Txt.lower (tText b r)) ⟨#[108]⟩).cps.toList = mL r ++ ((tPre b).cps.toList ++ ((tT2 b r).cps.toList ++ sL b r)) := by
    refine rstrip_chars (r := e) ?_ ?_ ?_
    · rw [KXs.lower_still hs, h2]; simp only [List.append_assoc]
    · intro d hd
      rcases h1 with h1 | h1 <;> rw [h1] at hd
      · exact absurd hd List.not_mem_nil
      · exact List.mem_singleton.mp hd
    · intro d hd he
      subst he
      have hm := List.mem_of_getLast? hd
      rcases List.mem_append.mp hm with h | hm
      · have := mL_mem _ h; omega
      · rcases List.mem_append.mp hm with h | hm
        · have := tPre_mem hb _ h; omega
        · rcases List.mem_append.mp hm with h | h
          · rcases tT2_mem _ h with h | h
            · omega
            · rcases t1L_mem hb _ h with h | ⟨d, hd, h⟩
              · omega
              · have := hexC_in hb.toNat hd; omega
          · have := sL_mem hb _ h; omega
  show (Txt.replace (Txt.rstripChars (Txt.lower (tText b r)) (Str.ofString "l")) (Str.ofString "_") (Str.ofString "")).cps.toList = _
  rw [el, eu, en, replace_strikes, hr, List.filter_append, List.filter_append, List.filter_append, tT2_filter hb,
    filter_id (fun h => by have := mL_mem _ h; omega), filter_id (fun h => by have := tPre_mem hb _ h; omega), filter_id (fun h => by have := sL_mem hb _ h; omega)]
  simp only [List.append_assoc]
/-- the text ahead of the mark -/
def tX (b r : Int) : Str := ⟨(mL r ++ ((tPre b).cps.toList ++ t1L b r)).toArray⟩
theorem tX_chars (b r : Int) : (tX b r).cps.toList = mL r ++ ((tPre b).cps.toList ++ t1L b r) := by unfold tX; simp
theorem tX_no {b r : Int} (hb : B4 b) {c : Nat} (h0 : c ≠ 45) (h1 : c ≠ 46) (h2 : c ≠ 48 ∧ c ≠ 120 ∧ c ≠ 111 ∧ c ≠ 98) (h3 : ∀ d, d < b.toNat → hexC d ≠ c) : c ∉ (tX b r).cps.toList := by
  rw [tX_chars]
  intro hm
  rcases List.mem_append.mp hm with h | hm
  · exact h0 (mL_mem _ h)
  · rcases List.mem_append.mp hm with h | h
    · have := tPre_mem hb _ h; omega
    · rcases t1L_mem hb _ h with h | ⟨d, hd, h⟩
      · exact h1 h
      · exact h3 d hd h.symm
theorem sep_of {b : Int} (hb : B4 b) {y : Str} {k : Nat} (h : (112 ∈ y.cps.toList ∧ (b = 2 ∨ b = 16) ∧ k = 112) ∨ (112 ∉ y.cps.toList ∧ b = 16 ∧ k = 64) ∨ ((112 ∉ y.cps.toList ∨ ¬ (b = 2 ∨ b = 16)) ∧ b ≠ 16 ∧ k = 101)) : smSep b y = ⟨#[k]⟩ := by
  have ep : Str.ofString "p" = ⟨#[112]⟩ := by decide
  have ee : Str.ofString "e" = ⟨#[101]⟩ := by decide
  have ea : Str.ofString "@" = ⟨#[64]⟩ := by decide
  have hf := find_one (x := y) (c := 112)
  unfold smSep
  rw [ep, ee, ea]
  unfold B4 at hb
  rcases h with ⟨h1, h2, rfl⟩ | ⟨h1, h2, rfl⟩ | ⟨h1, h2, rfl⟩
  · rw [if_pos ⟨h2, hf.mpr h1⟩]
  · rw [if_neg (fun q => h1 (hf.mp q.2)), if_neg (by omega)]
  · rw [if_neg (fun q => by
      rcases h1 with h1 | h1
      · exact h1 (hf.mp q.2)
      · exact h1 q.1), if_pos (by omega)]
theorem tP_b {b r : Int} (h : tP b r = true) : b = 2 ∨ b = 16 := by
  unfold tP at h
  simp only [Bool.and_eq_true, List.any_cons, List.any_nil, Bool.or_false, Bool.or_eq_true, beq_iff_eq] at h
  omega
end
-- P18
section
theorem tX_112 {b : Int} (hb : B4 b) (r : Int) : 112 ∉ (tX b r).cps.toList := tX_no hb (by omega) (by omega) (by omega) fun d hd => by have := hexC_in hb.toNat hd; omega
theorem tX_64 {b : Int} (hb : B4 b) (r : Int) : 64 ∉ (tX b r).cps.toList := tX_no hb (by omega) (by omega) (by omega) fun d hd => by have := hexC_in hb.toNat hd; omega
theorem hexC_10 {d : Nat} (h : d < 10) : 48 ≤ hexC d ∧ hexC d ≤ 57 := by
  have k3 := (hexC_b ⟨d, by omega⟩).2.2.2.2.2.2 h
  have k4 := (hexC_b ⟨d, by omega⟩).1
  dsimp only at k3 k4
  omega
theorem tX_101 {b : Int} (hb : B4 b) (h16 : b ≠ 16) (r : Int) : 101 ∉ (tX b r).cps.toList := tX_no hb (by omega) (by omega) (by omega) fun d hd => by
  have : b.toNat ≤ 10 := by unfold B4 at hb; omega
  have := hexC_10 (d := d) (by omega)
  omega
theorem sm_split {b : Int} (hb : B4 b) (r : Int) : (tSh b r = 0 ∧ smY (tText b r) = tX b r ∧ smP b (tText b r) = [tX b r] ∧ 112 ∉ (smY (tText b r)).cps.toList ∧ smSep b (smY (tText b r)) ≠ Str.ofString "p") ∨
   (tSh b r ≠ 0 ∧ smP b (tText b r) = [tX b r, Str.ofString (toString (tSh b r))] ∧ (112 ∈ (smY (tText b r)).cps.toList ↔ tP b r = true) ∧ (smSep b (smY (tText b r)) = Str.ofString "p" ↔ tP b r = true)) := by
  have hY := tText_smY hb r
  rw [← tX_chars] at hY
  have ep : Str.ofString "p" = ⟨#[112]⟩ := by decide
  by_cases h : tSh b r = 0
  · refine Or.inl ⟨h, ?_⟩
    have hs : sL b r = [] := by unfold sL; rw [if_neg (fun q => q h)]
    rw [hs, List.append_nil] at hY
    have e := str_ext hY
    have hp : 112 ∉ (smY (tText b r)).cps.toList := by rw [e]; exact tX_112 hb r
    refine ⟨e, ?_⟩
    by_cases h16 : b = 16
    · have hsep := sep_of hb (y := smY (tText b r)) (k := 64) (Or.inr (Or.inl ⟨hp, h16, rfl⟩))
      refine ⟨?_, hp, by rw [hsep, ep]; decide⟩
      show Txt.split _ (smSep b (smY (tText b r))) = _
      rw [hsep, e]; exact split_none (tX_64 hb r)
    · have hsep := sep_of hb (y := smY (tText b r)) (k := 101) (Or.inr (Or.inr ⟨Or.inl hp, h16, rfl⟩))
      refine ⟨?_, hp, by rw [hsep, ep]; decide⟩
      show Txt.split _ (smSep b (smY (tText b r))) = _
      rw [hsep, e]; exact split_none (tX_101 hb h16 r)
  · refine Or.inr ⟨h, ?_⟩
    obtain ⟨k, hk, h2⟩ := tMark_chars b r hb
    have hs : sL b r = k :: (Str.ofString (toString (tSh b r))).cps.toList := by unfold sL; rw [if_pos h, hk]; rfl
    rw [hs] at hY
    have hsh : ∀ c ∈ (Str.ofString (toString (tSh b r))).cps.toList, c = 45 ∨ (48 ≤ c ∧ c ≤ 57) := sh_chars _
    have hm : 112 ∈ (smY (tText b r)).cps.toList ↔ k = 112 := by
      rw [hY]
      constructor
      · intro q
        rcases List.mem_append.mp q with q | q
        · exact absurd q (tX_112 hb r)
        · rcases List.mem_cons.mp q with q | q
          · exact q.symm
          · have := hsh _ q; omega
      · intro q; rw [q]; exact List.mem_append_right _ (List.mem_cons_self ..)
    have hkP : k = 112 ↔ tP b r = true := by
      rcases h2 with ⟨h3, h4⟩ | ⟨h3, _, h4⟩ | ⟨h3, _, h4⟩
      · exact ⟨fun _ => h3, fun _ => h4⟩
      · exact ⟨fun q => by omega, fun q => absurd (h3.symm.trans q) (by decide)⟩
      · exact ⟨fun q => by omega, fun q => absurd (h3.symm.trans q) (by decide)⟩
    have hsep : smSep b (smY (tText b r)) = ⟨#[k]⟩ := by
      refine sep_of hb ?_
      rcases h2 with ⟨h3, h4⟩ | ⟨h3, h5, h4⟩ | ⟨h3, h5, h4⟩
      · exact Or.inl ⟨hm.mpr h4, tP_b h3, h4⟩
      · exact Or.inr (Or.inl ⟨fun q => by have := hm.mp q; omega, h5, h4⟩)
      · exact Or.inr (Or.inr ⟨Or.inl (fun q => by have := hm.mp q; omega), h5, h4⟩)
    have hA : k ∉ (tX b r).cps.toList := by
      rcases h2 with ⟨h3, h4⟩ | ⟨h3, h5, h4⟩ | ⟨h3, h5, h4⟩ <;> rw [h4]
      · exact tX_112 hb r
      · exact tX_64 hb r
      · exact tX_101 hb h5 r
    refine ⟨?_, hm.trans hkP, ?_⟩
    · show Txt.split _ (smSep b (smY (tText b r))) = _
      rw [hsep]
      exact split_two hY hA (fun q => by have := hsh _ q; rcases h2 with ⟨_, h4⟩ | ⟨_, _, h4⟩ | ⟨_, _, h4⟩ <;> omega)
    · rw [hsep, ep, ← hkP]
      constructor
      · intro q
        have q2 := congrArg (fun z : Str => z.cps.toList) q
        simpa using q2
      · intro q; rw [q]
end
-- P19
section
theorem zeros_split : ∀ (n : Nat) (l : List Nat), l.length = n → ∃ u k, l = u ++ List.replicate k 0 ∧ (∀ d, u.getLast? = some d → d ≠ 0)
  | 0, l, h => ⟨[], 0, by rw [List.length_eq_zero_iff.mp h]; rfl, fun d hd => by simp at hd⟩
  | n + 1, l, h => by
    have hne : l ≠ [] := fun e => by rw [e] at h; simp at h
    have e := List.dropLast_concat_getLast hne
    by_cases h0 : l.getLast hne = 0
    · obtain ⟨u, k, h1, h2⟩ := zeros_split n l.dropLast (by simp [h])
      refine ⟨u, k + 1, ?_, h2⟩
      rw [h0, h1] at e
      rw [← e, List.append_assoc, ← List.replicate_succ']
    · refine ⟨l, 0, by simp, fun d hd => ?_⟩
      rw [List.getLast?_eq_some_getLast hne] at hd
      injection hd with hd
      rw [← hd]; exact h0
theorem hexC_0 : ∀ d : Fin 16, hexC d.val = 48 → d.val = 0 := by decide +kernel
theorem rstrip_zeros {x : Str} {l : List Nat} {b : Nat} (hb : b ≤ 16) (hx : x.cps.toList = l.map hexC) (hl : ∀ d ∈ l, d < b) :
   ∃ u k, l = u ++ List.replicate k 0 ∧ (Txt.rstripChars x (Str.ofString "0")).cps.toList = u.map hexC := by
  obtain ⟨u, k, h1, h2⟩ := zeros_split _ l rfl
  refine ⟨u, k, h1, ?_⟩
  have e0 : Str.ofString "0" = ⟨#[48]⟩ := by decide
  rw [e0]
  refine rstrip_chars (r := (List.replicate k 0).map hexC) ?_ ?_ ?_
  · rw [hx, h1, List.map_append]
  · intro d hd
    obtain ⟨c, hc, rfl⟩ := List.mem_map.mp hd
    rw [(List.mem_replicate.mp hc).2]; decide
  · intro d hd he
    rw [List.getLast?_map] at hd
    cases hq : u.getLast? with
    | none => rw [hq] at hd; simp at hd
    | some c =>
      rw [hq] at hd
      simp only [Option.map_some] at hd
      injection hd with hd
      have hm : c ∈ l := by rw [h1]; exact List.mem_append_left _ (List.mem_of_getLast? hq)
      have := hl c hm
      exact h2 c hq (hexC_0 ⟨c, by omega⟩ (hd.trans he))
theorem worth_zeros (b : Int) (u : List Nat) : ∀ k, worth b (u ++ List.replicate k 0) = worth b u * b ^ k
  | 0 => by simp
  | k + 1 => by
    rw [List.replicate_succ', ← List.append_assoc, worth_snoc, worth_zeros b u k, Int.pow_succ]
    simp [Int.mul_assoc]
theorem sm_X {b : Int} (hb : B4 b) (r : Int) : smX b (tText b r) = tX b r ∧ smE b (tText b r) (tSh b r) = tSh b r ∧ ((smP b (tText b r)).length = 1 ∨ (smP b (tText b r)).length = 2) ∧
   ((smP b (tText b r)).length = 2 → intB? 10 ((smP b (tText b r)).getD 1 Str.empty) = some (tSh b r)) := by
  rcases sm_split hb r with ⟨h1, h2, h3, _⟩ | ⟨h1, h2, _⟩
  · refine ⟨?_, ?_, Or.inl (by rw [h3]; rfl), fun q => by rw [h3] at q; exact absurd q (by simp)⟩
    · show (if (smP b (tText b r)).length = 1 then smY (tText b r) else _) = _
      rw [if_pos (by rw [h3]; rfl), h2]
    · show (if (smP b (tText b r)).length = 1 then (0 : Int) else _) = _
      rw [if_pos (by rw [h3]; rfl), h1]
  · refine ⟨?_, ?_, Or.inr (by rw [h2]; rfl), fun _ => by rw [h2]; exact intB_int _⟩
    · show (if (smP b (tText b r)).length = 1 then smY (tText b r) else (smP b (tText b r)).getD 0 Str.empty) = _
      rw [if_neg (by rw [h2]; simp), h2]; rfl
    · show (if (smP b (tText b r)).length = 1 then (0 : Int) else _) = _
      rw [if_neg (by rw [h2]; simp)]
end
-- P20
section
theorem mL_ite (r : Int) : mL r = if (tMinus r == Str.ofString "-") then [45] else [] := by
  have h := tMinus_chars r
  have e : (Str.ofString "-").cps.toList = [45] := by decide
  unfold mL at h ⊢
  by_cases h1 : r.fmod 2 = 1
  · rw [if_pos h1] at h ⊢
    rw [if_pos (beq_iff_eq.mpr (str_ext (h.trans e.symm)))]
  · rw [if_neg h1] at h ⊢
    rw [if_neg]
    intro q
    rw [beq_iff_eq.mp q, e] at h
    exact absurd h (by simp)
def sgnW (r : Int) (W : Int) : Int := if (tMinus r == Str.ofString "-") = true then -W else W
theorem tW_eq (b r : Int) : tW b r = sgnW r (worth b (tDs b r)) := rfl
theorem sgnW_mul (r W c : Int) : sgnW r (W * c) = sgnW r W * c := by unfold sgnW; split <;> simp [Int.neg_mul]
theorem int_of {b : Int} (hb : B4 b) (r : Int) {x : Str} {ds : List Nat} (hx : x.cps.toList = mL r ++ ((tPre b).cps.toList ++ ds.map hexC)) (hd : ∀ d ∈ ds, d < b.toNat) (hne : ds ≠ []) :
   intB? b.toNat x = some (sgnW r (worth b ds)) := by
  rw [mL_ite] at hx
  have e : ((b.toNat : Nat) : Int) = b := by have := hb.pos; omega
  have h := intB_of hx (tPre_ok hb) hd hne
  rw [e] at h
  rw [h]; rfl
theorem smZ_two {b : Int} {x a c : Str} (h : smD b x = [a, c]) (ha : a ≠ Str.ofString "") (e : Int) : smZ b x = a ++ Txt.rstripChars c (Str.ofString "0") ∧
    smExp b x e = smE b x e - ((Txt.rstripChars c (Str.ofString "0")).length : Int) * (if smSep b (smY x) = Str.ofString "p" then (Builtin.Int.intBits b : Int) - 1 else 1) := by
  unfold smZ smExp smA smC
  rw [h]
  have hl : [a, c].length = 2 := rfl
  have g0 : [a, c].getD 0 Str.empty = a := rfl
  have g1 : [a, c].getD 1 Str.empty = c := rfl
  rw [if_pos hl, if_pos hl, g0, g1, if_neg ha]
  exact ⟨rfl, rfl⟩
theorem smZ_one {b : Int} {x a : Str} (h : smD b x = [a]) (e : Int) : smZ b x = smX b x ∧ smExp b x e = smE b x e := by
  unfold smZ smExp
  rw [h]
  rw [if_neg (by simp), if_neg (by simp)]
  exact ⟨rfl, rfl⟩
theorem sm_Z {b : Int} (hb : B4 b) (r : Int) : ∃ (n z : Nat) (man : Int), intB? b.toNat (smZ b (tText b r)) = some man ∧ tW b r = man * b ^ z ∧ tScale b r = (n : Int) + (z : Int) ∧
    smExp b (tText b r) (tSh b r) = tSh b r - (n : Int) * (if smSep b (smY (tText b r)) = Str.ofString "p" then (Builtin.Int.intBits b : Int) - 1 else 1) := by
  obtain ⟨hX, hE, _, _⟩ := sm_X hb r
  have ed : Str.ofString "." = ⟨#[46]⟩ := by decide
  have hlt := tDs_lt (r := r) hb
  have hpos := tDs_pos b r
  have h46 : ∀ l : List Nat, (∀ d ∈ l, d < b.toNat) → 46 ∉ l.map hexC := fun l hl h => by
    obtain ⟨d, hd, e⟩ := List.mem_map.mp h
    have := hexC_in hb.toNat (hl d hd); omega
  have hp46 : ∀ l, 46 ∉ l → 46 ∉ mL r ++ ((tPre b).cps.toList ++ l) := fun l hl h => by
    rcases List.mem_append.mp h with h | h
    · have := mL_mem _ h; omega
    · rcases List.mem_append.mp h with h | h
      · have := tPre_mem hb _ h; omega
      · exact hl h
  have hD0 : smD b (tText b r) = Txt.split (tX b r) (Str.ofString ".") := by show Txt.split (smX b (tText b r)) _ = _; rw [hX]
  by_cases hdot : tDot r = true
  · have htake : ∀ d ∈ (tDs b r).take (tA r), d < b.toNat := fun d hd => hlt d (List.mem_of_mem_take hd)
    have hdrop : ∀ d ∈ (tDs b r).drop (tA r), d < b.toNat := fun d hd => hlt d (List.mem_of_mem_drop hd)
    have hA0 : 0 < tA r := by
      have h := hdot
      unfold tDot at h; simp only [Bool.and_eq_true, decide_eq_true_eq] at h
      unfold tA; omega
    have hx : (tX b r).cps.toList = (⟨(mL r ++ ((tPre b).cps.toList ++ ((tDs b r).take (tA r)).map hexC)).toArray⟩ : Str).cps.toList ++ 46 :: (⟨(((tDs b r).drop (tA r)).map hexC).toArray⟩ : Str).cps.toList := by
      rw [tX_chars]; unfold t1L; rw [if_pos hdot]; simp
    have hD := split_two hx (by simpa using hp46 _ (h46 _ htake)) (by simpa using h46 _ hdrop)
    rw [← ed, ← hD0] at hD
    obtain ⟨u, k, hu, hC⟩ := rstrip_zeros (x := ⟨(((tDs b r).drop (tA r)).map hexC).toArray⟩) hb.toNat (by simp) hdrop
    have hne : (tDs b r).take (tA r) ≠ [] := fun q => by
      have := congrArg List.length q
      rw [List.length_take, List.length_nil] at this
      omega
    have hane : (⟨(mL r ++ ((tPre b).cps.toList ++ ((tDs b r).take (tA r)).map hexC)).toArray⟩ : Str) ≠ Str.ofString "" := by
      intro q
      have q2 := congrArg (fun z : Str => z.cps.toList) q
      have e0 : (Str.ofString "").cps.toList = [] := by decide
      simp only [e0] at q2
      exact hne (List.map_eq_nil_iff.mp (List.append_eq_nil_iff.mp (List.append_eq_nil_iff.mp q2).2).2)
    obtain ⟨hZ0, hE0⟩ := smZ_two hD hane (tSh b r)
    have hZ : (smZ b (tText b r)).cps.toList = mL r ++ ((tPre b).cps.toList ++ ((tDs b r).take (tA r) ++ u).map hexC) := by
      rw [hZ0, app_chars, hC]; simp
    have hds : tDs b r = ((tDs b r).take (tA r) ++ u) ++ List.replicate k 0 := by
      rw [List.append_assoc, ← hu, List.take_append_drop]
    refine ⟨u.length, k, sgnW r (worth b ((tDs b r).take (tA r) ++ u)), int_of hb r hZ ?_ ?_, ?_, ?_, ?_⟩
    · intro d hd
      exact hlt d (by rw [hds]; exact List.mem_append_left _ hd)
    · intro q; exact hne (List.append_eq_nil_iff.mp q).1
    · rw [tW_eq, ← sgnW_mul, ← worth_zeros, ← hds]
    · have hl := congrArg List.length hu
      rw [List.length_drop, List.length_append, List.length_replicate, tDs_len] at hl
      have hne1 : tT1 b r ≠ tF b r := fun q => by
        have q2 := congrArg (fun z : Str => z.cps.toList) q
        simp only [tT1_chars, tF_chars] at q2
        exact h46 _ hlt (by rw [← q2]; unfold t1L; rw [if_pos hdot]; simp)
      have h1 := tAt_b r
      have h2 := tMany_c r
      have h3 := tA_le b r
      rw [tDs_len] at h3
      unfold tScale
      rw [if_neg hne1]
      unfold tA at hl h3
      omega
    · rw [hE0, hE, ← len_list, hC, List.length_map]
  · have hx : (tX b r).cps.toList = mL r ++ ((tPre b).cps.toList ++ (tDs b r).map hexC) := by
      rw [tX_chars]; unfold t1L; rw [if_neg hdot]
    have hD : Txt.split (tX b r) ⟨#[46]⟩ = [tX b r] := split_none (by rw [hx]; exact hp46 _ (h46 _ hlt))
    rw [← ed, ← hD0] at hD
    obtain ⟨hZ0, hE0⟩ := smZ_one hD (tSh b r)
    have hZ : smZ b (tText b r) = tX b r := hZ0.trans hX
    refine ⟨0, 0, tW b r, ?_, by simp, ?_, ?_⟩
    · rw [hZ]; exact int_of hb r hx hlt (fun q => by rw [q] at hpos; simp at hpos)
    · unfold tScale tT1
      rw [if_neg hdot, if_pos rfl]; rfl
    · rw [hE0, hE]; simp
end
-- P21
section
theorem tText_ne {b : Int} (hb : B4 b) (r : Int) : (tText b r).cps.toList ≠ [] := by
  obtain ⟨c, q, _, _, h | h⟩ := tText_headed hb r <;> rw [h] <;> simp
theorem smY_len {x : Str} (h : KXs.Still x) : (smY x).length ≤ x.length := by
  have eu : Str.ofString "_" = ⟨#[95]⟩ := by decide
  have en : Str.ofString "" = ⟨#[]⟩ := by decide
  have h1 := len_rstripChars (Txt.lower x) (Str.ofString "l")
  rw [KXs.lower_still h] at h1
  show (Txt.replace (Txt.rstripChars (Txt.lower x) (Str.ofString "l")) (Str.ofString "_") (Str.ofString "")).length ≤ _
  rw [KXs.lower_still h, eu, en, ← len_list, replace_strikes]
  refine Nat.le_trans (List.length_filter_le ..) ?_
  rw [len_list]; exact h1
theorem fsH_of {b : Int} (hb : B4 b) (r : Int) {k : Nat} (hk : k < 5) {man : Int} (hz : intB? b.toNat (smZ b (tText b r)) = some man) :
   FsH b (lShown (tText b r) k) (tSh b r) man ∧ fsY (lShown (tText b r) k) = tText b r := by
  have hs := tText_still hb r
  have hl := tText_len hb r
  have hY : fsY (lShown (tText b r) k) = tText b r := shown_fsY hs (tText_ne hb r) k hk
  obtain ⟨_, _, h1, h2⟩ := sm_X hb r
  refine ⟨⟨⟨shown_len hs hl k⟩, by rw [hY, tText_sp hb r]; rfl, by rw [hY]; exact tText_base hb r, by rw [hY]; exact tText_slash hb r, ?_⟩, hY⟩
  rw [hY]
  exact ⟨by omega, Nat.le_trans (smY_len hs) (by omega), h1, h2, hz⟩
end
-- P22
section
theorem due_fme {A B prec man ex : Int} {rnd : Str} {v : Int × Int × Int × Int} (hr : IsRnd rnd) (hp : 0 < prec) (hB : B ≠ 0) (h : DueOk A B prec rnd v)
   (h0 : A = 0 ↔ man = 0) (hs : sgn A = sgn man) (hq : A.natAbs * 2 ^ (-ex).toNat = man.natAbs * 2 ^ ex.toNat * B.natAbs) : fmeV man ex prec rnd = v := by
  unfold fmeV
  rcases h with ⟨h1, h2⟩ | ⟨h1, x, f, h2, h3⟩
  · rw [if_pos (h0.mp h1), h2]
  · have hm : man ≠ 0 := fun q => h1 (h0.mpr q)
    rw [if_neg hm, mag_nat]
    have e : prec = ((prec.toNat : Nat) : Int) := by omega
    obtain ⟨y, g, k1, k2, _⟩ := nrm_law (exp := ex) (sign := sgn man) hr (sgn_01 man) (m := man.natAbs) (by omega) (p := prec.toNat) (by omega)
    rw [← e] at k1
    rw [hs] at h3
    obtain ⟨q1, q2⟩ := IsLaw.unique (by omega) (Nat.pow_pos (by decide)) (by omega) hq.symm k2 h3
    rw [k1, h2, hs, q1, q2]
theorem due_fr {A B prec p q : Int} {rnd : Str} {v : Int × Int × Int × Int} (hr : IsRnd rnd) (hp : 0 < prec) (hB : B ≠ 0) (h : DueOk A B prec rnd v) (hqq : 0 < q)
   (h0 : A = 0 ↔ p = 0) (hs : sgn A = sgn p) (hq : A.natAbs * q.natAbs = p.natAbs * B.natAbs) : frV p q prec rnd = v := by
  unfold frV
  rcases h with ⟨h1, h2⟩ | ⟨h1, x, f, h2, h3⟩
  · rw [if_pos (h0.mp h1), h2]
  · have hm : p ≠ 0 := fun q => h1 (h0.mpr q)
    rw [if_neg hm]
    have e : prec = ((prec.toNat : Nat) : Int) := by omega
    obtain ⟨y, g, k1, k2, _⟩ := fr_law hr hm hqq (p := prec.toNat) (by omega)
    rw [← e] at k1
    rw [hs] at h3
    obtain ⟨q1, q2⟩ := IsLaw.unique (by omega) (by omega) (by omega) hq.symm k2 h3
    rw [k1, h2, hs, q1, q2]
end
-- P23
section
theorem sgn_mulpos {a c : Int} (h : 0 < c) : sgn (a * c) = sgn a := by
  unfold sgn
  by_cases ha : a < 0
  · have := Int.mul_neg_of_neg_of_pos ha h
    simp [ha, this]
  · have := Int.mul_nonneg (by omega : 0 ≤ a) (Int.le_of_lt h)
    have h2 : ¬ a * c < 0 := by omega
    simp [ha, h2]
theorem zero_mulpos {a c : Int} (h : 0 < c) : a * c = 0 ↔ a = 0 := ⟨fun q => (Int.mul_eq_zero.mp q).resolve_right (by omega), fun q => by rw [q, Int.zero_mul]⟩
theorem due_two {A B prec man E : Int} {i j : Nat} {rnd : Str} {v : Int × Int × Int × Int} (hr : IsRnd rnd) (hp : 0 < prec) (h : DueOk A B prec rnd v)
   (hA : A = man * 2 ^ i) (hB : B = 2 ^ j) (hE : (i : Int) - j = E) : fmeV man E prec rnd = v := by
  have p1 : (0 : Int) < 2 ^ i := Int.pow_pos (by decide)
  have p2 : (0 : Int) < 2 ^ j := Int.pow_pos (by decide)
  refine due_fme hr hp (by omega) h (by rw [hA]; exact zero_mulpos p1) (by rw [hA]; exact sgn_mulpos p1) ?_
  have a1 : ((2 : Int) ^ i).natAbs = 2 ^ i := by rw [Int.natAbs_pow]; rfl
  have a2 : ((2 : Int) ^ j).natAbs = 2 ^ j := by rw [Int.natAbs_pow]; rfl
  rw [hA, hB, Int.natAbs_mul, a1, a2, Nat.mul_assoc, Nat.mul_assoc, ← Nat.pow_add, ← Nat.pow_add]
  congr 2
  omega
theorem due_ten {A B prec man ex : Int} {i j : Nat} {rnd : Str} {v : Int × Int × Int × Int} (hr : IsRnd rnd) (hp : 0 < prec) (h : DueOk A B prec rnd v)
   (hA : A = man * 10 ^ i) (hB : B = 10 ^ j) (hE : (i : Int) - j = ex) : fsV10 man ex prec rnd = v := by
  have p1 : (0 : Int) < 10 ^ i := Int.pow_pos (by decide)
  have p2 : (0 : Int) < 10 ^ j := Int.pow_pos (by decide)
  have ab : ∀ k : Nat, ((10 : Int) ^ k).natAbs = 10 ^ k := fun k => by rw [Int.natAbs_pow]; rfl
  unfold fsV10
  by_cases h0 : ex ≥ 0
  · rw [if_pos h0]
    have p3 : (0 : Int) < 10 ^ ex.toNat := Int.pow_pos (by decide)
    refine due_fme hr hp (by omega) h (by rw [hA]; exact (zero_mulpos p1).trans (zero_mulpos p3).symm) (by rw [hA]; exact (sgn_mulpos p1).trans (sgn_mulpos p3).symm) ?_
    have e0 : (2 : Nat) ^ (-(0 : Int)).toNat = 1 := rfl
    have e1 : (2 : Nat) ^ (0 : Int).toNat = 1 := rfl
    rw [e0, e1, hA, hB, Int.natAbs_mul, Int.natAbs_mul, ab, ab, ab, Nat.mul_one, Nat.mul_one, Nat.mul_assoc, ← Nat.pow_add]
    congr 2
    omega
  · rw [if_neg h0]
    have p3 : (0 : Int) < 10 ^ (-ex).toNat := Int.pow_pos (by decide)
    refine due_fr hr hp (by omega) h p3 (by rw [hA]; exact zero_mulpos p1) (by rw [hA]; exact sgn_mulpos p1) ?_
    rw [hA, hB, Int.natAbs_mul, ab, ab, ab, Nat.mul_assoc, ← Nat.pow_add]
    congr 2
    omega
end
-- P24
section
theorem man_bits {b : Int} (hb : B4 b) {r man : Int} {z : Nat} (h : tW b r = man * b ^ z) : Builtin.Int.intBits man ≤ 64 := by
  refine bits_le ?_
  have h1 := worth_abs (r := r) hb
  have h2 : 1 ≤ (b ^ z).natAbs := by
    have : 0 < b ^ z := Int.pow_pos (by have := hb.pos; omega)
    omega
  rw [h, Int.natAbs_mul] at h1
  exact Nat.lt_of_le_of_lt (Nat.le_mul_of_pos_right _ h2) h1
theorem sep_10 {r : Int} : smSep 10 (smY (tText 10 r)) ≠ Str.ofString "p" := by
  have hb : B4 10 := by unfold B4; omega
  rcases sm_split hb r with ⟨_, _, _, _, h⟩ | ⟨_, _, _, h⟩
  · exact h
  · intro q
    have := h.mp q
    rw [tP_10 rfl] at this
    exact absurd this (by decide)
theorem fsOk_10 {r prec : Int} {rnd : Str} {v : Int × Int × Int × Int} {k : Nat} (hk : k < 5) (hr : IsRnd rnd) (hp : 0 < prec) (h : DueOk (tAbove 10 r) (tBelow 10 r) prec rnd v) : FsOk (lShown (tText 10 r) k) prec rnd v := by
  have hb : B4 10 := by unfold B4; omega
  obtain ⟨n, z, man, h1, h2, h3, h4⟩ := sm_Z hb r
  obtain ⟨hF, hY⟩ := fsH_of hb r hk h1
  have hst : tStep 10 r = 10 := by unfold tStep; rw [tP_10 rfl]; rfl
  have hsh := tSh_b (b := 10) (r := r)
  have hsc := tScale_b 10 r
  rw [if_neg sep_10] at h4
  refine FsOk.n10 (tSh 10 r) man (tSh 10 r - n * 1) hF (by rw [hY]; exact h4) (man_bits hb h2) (by omega) (by omega) ?_
  refine due_ten (i := z + (tSh 10 r).toNat) (j := n + z + (-tSh 10 r).toNat) hr hp h ?_ ?_ (by omega)
  · unfold tAbove
    rw [hst]
    split
    · rw [h2, Int.pow_add, Int.mul_assoc]
    · rw [h2, show (tSh 10 r).toNat = 0 from by omega, Nat.add_zero]
  · have e : (tScale 10 r).toNat = n + z := by omega
    unfold tBelow tBe
    rw [hst, e]
    split
    · rw [show (-tSh 10 r).toNat = 0 from by omega, Nat.add_zero]
    · exact (Int.pow_add ..).symm
end
-- P25
section
theorem p_text {b : Int} (hb : B4 b) (r : Int) : 112 ∈ (tText b r).cps.toList ↔ 112 ∈ (smY (tText b r)).cps.toList := by
  obtain ⟨e, h1, h2, _⟩ := tText_chars b r
  have hY := tText_smY hb r
  rw [← tX_chars] at hY
  constructor
  · intro h
    rw [hY]
    rcases tText_mem hb 112 h with h | h | h | h | h | ⟨d, hd, h⟩ | h
    · omega
    · omega
    · omega
    · omega
    · have := tPre_mem hb _ h; omega
    · have := hexC_in hb.toNat hd; omega
    · exact List.mem_append_right _ h
  · intro h
    rw [hY] at h
    rcases List.mem_append.mp h with h | h
    · exact absurd h (tX_112 hb r)
    · rw [h2]
      exact List.mem_append_right _ (List.mem_append_right _ (List.mem_append_right _ (List.mem_append_left _ h)))
theorem fsV2_find {b : Int} {y : Str} {man ex prec : Int} {rnd : Str} : fsV2 b y man ex prec rnd = if 112 ∈ y.cps.toList then fmeV man ex prec rnd else fmeV man (ex * ((Builtin.Int.intBits b : Int) - 1)) prec rnd := by
  have ep : Str.ofString "p" = ⟨#[112]⟩ := by decide
  have hf := find_one (x := y) (c := 112)
  unfold fsV2
  rw [ep]
  by_cases h : 112 ∈ y.cps.toList
  · have := hf.mpr h
    rw [if_neg (by omega), if_pos h]
  · have : Txt.find y ⟨#[112]⟩ < 0 := by
      have : ¬ 0 ≤ Txt.find y ⟨#[112]⟩ := fun q => h (hf.mp q)
      omega
    rw [if_pos this, if_neg h]
theorem base_two {b : Int} (hb : B4 b) (h10 : b ≠ 10) : ∃ l : Nat, 1 ≤ l ∧ l ≤ 4 ∧ b = 2 ^ l ∧ (Builtin.Int.intBits b : Int) - 1 = l := by
  unfold B4 at hb
  rcases (show b = 2 ∨ b = 8 ∨ b = 16 by omega) with rfl | rfl | rfl
  · exact ⟨1, by omega, by omega, rfl, by decide⟩
  · exact ⟨3, by omega, by omega, rfl, by decide⟩
  · exact ⟨4, by omega, by omega, rfl, by decide⟩
theorem fsOk_2 {b r prec : Int} {rnd : Str} {v : Int × Int × Int × Int} {k : Nat} (hb : B4 b) (h10 : b ≠ 10) (hk : k < 5) (hr : IsRnd rnd) (hp : 0 < prec) (h : DueOk (tAbove b r) (tBelow b r) prec rnd v) : FsOk (lShown (tText b r) k) prec rnd v := by
  obtain ⟨n, z, man, h1, h2, h3, h4⟩ := sm_Z hb r
  obtain ⟨hF, hY⟩ := fsH_of hb r hk h1
  obtain ⟨l, hl1, hl4, hl, hbits⟩ := base_two hb h10
  refine FsOk.n2 b (tSh b r) man _ hb h10 hF (by rw [hY]) (man_bits hb h2) ?_
  rw [fsV2_find, hY, h4]
  have e : (tScale b r).toNat = n + z := by omega
  have hbm : ∀ m : Nat, b ^ m = 2 ^ (l * m) := fun m => (congrArg (fun t : Int => t ^ m) hl).trans (Int.pow_mul ..).symm
  have main : ∀ (q : Nat) (E : Int), tStep b r = 2 ^ q → tSh b r * q - n * l = E → fmeV man E prec rnd = v := by
    intro q E hq hE
    refine due_two (i := l * z + q * (tSh b r).toNat) (j := l * (n + z) + q * (-tSh b r).toNat) hr hp h ?_ ?_ ?_
    · unfold tAbove
      rw [hq, h2, hbm]
      split
      · rw [← Int.pow_mul, Int.mul_assoc, ← Int.pow_add]
      · rw [show (tSh b r).toNat = 0 from by omega, Nat.mul_zero, Nat.add_zero]
    · unfold tBelow tBe
      rw [hq, e, hbm]
      split
      · rw [show (-tSh b r).toNat = 0 from by omega, Nat.mul_zero, Nat.add_zero]
      · rw [← Int.pow_mul, ← Int.pow_add]
    · rw [← hE]
      have e1 : ((l * z + q * (tSh b r).toNat : Nat) : Int) = l * z + q * (tSh b r).toNat := by simp
      have e2 : ((l * (n + z) + q * (-tSh b r).toNat : Nat) : Int) = l * (n + z) + q * (-tSh b r).toNat := by simp
      rw [e1, e2]
      have e3 : ((tSh b r).toNat : Int) - ((-tSh b r).toNat : Int) = tSh b r := by omega
      generalize ((tSh b r).toNat : Int) = s1 at *
      generalize ((-tSh b r).toNat : Int) = s2 at *
      rw [← e3, Int.mul_add, Int.sub_mul, Int.mul_comm (q : Int) s1, Int.mul_comm (q : Int) s2, Int.mul_comm (l : Int) n]
      omega
  have hcase : (tP b r = true ∧ tStep b r = 2 ^ 1) ∨ (tP b r = false ∧ tStep b r = 2 ^ l) := by
    unfold tStep
    by_cases hP : tP b r = true
    · exact Or.inl ⟨hP, by rw [if_pos hP]; rfl⟩
    · exact Or.inr ⟨by simpa using hP, by rw [if_neg hP]; exact hl⟩
  rw [hbits]
  have fin : ∀ (q : Nat), tStep b r = 2 ^ q → (tSh b r = 0 ∨ (q = l)) → fmeV man ((tSh b r - n * 1) * l) prec rnd = v := by
    intro q hq hz
    refine main q _ hq ?_
    rw [Int.sub_mul, Int.mul_one]
    rcases hz with hz | hz
    · rw [hz]; simp
    · rw [hz]
  rcases sm_split hb r with ⟨g1, _, _, g4, g5⟩ | ⟨g1, _, g3, g4⟩
  · rw [if_neg g5, if_neg (fun q => g4 ((p_text hb r).mp q))]
    rcases hcase with ⟨_, hq⟩ | ⟨_, hq⟩
    · exact fin _ hq (Or.inl g1)
    · exact fin _ hq (Or.inl g1)
  · rcases hcase with ⟨hP, hq⟩ | ⟨hP, hq⟩
    · rw [if_pos (g4.mpr hP), if_pos ((p_text hb r).mpr (g3.mpr hP))]
      exact main 1 _ hq (by simp)
    · have hP' : ¬ tP b r = true := by rw [hP]; decide
      rw [if_neg (fun q => hP' (g4.mp q)), if_neg (fun q => hP' (g3.mp ((p_text hb r).mp q)))]
      exact fin _ hq (Or.inr rfl)
end
-- P26
section
/-- the quotient's text -/
def qText (p q : Int) : Str := Str.ofString (toString p) ++ Str.ofString "/" ++ Str.ofString (toString q)
theorem slash_eq : Str.ofString "/" = ⟨#[47]⟩ := by decide
theorem qText_chars (p q : Int) : (qText p q).cps.toList = (Str.ofString (toString p)).cps.toList ++ 47 :: (Str.ofString (toString q)).cps.toList := by
  unfold qText; rw [slash_eq, app3]
theorem qText_mem {p q : Int} : ∀ c ∈ (qText p q).cps.toList, c = 45 ∨ c = 47 ∨ (48 ≤ c ∧ c ≤ 57) := by
  intro c hc
  rw [qText_chars] at hc
  rcases List.mem_append.mp hc with h | h
  · have := sh_chars p c h; omega
  · rcases List.mem_cons.mp h with h | h
    · omega
    · have := sh_chars q c h; omega
theorem qText_still (p q : Int) : KXs.Still (qText p q) := by
  intro c hc
  have := qText_mem c hc
  show Fine c
  unfold Fine; omega
theorem qText_ne (p q : Int) : (qText p q).cps.toList ≠ [] := by rw [qText_chars]; simp
theorem qText_headed (p q : Int) : Headed (qText p q).cps.toList := by
  obtain ⟨ds, h1, h2, h3, _⟩ := int_chars p
  rw [qText_chars, h1]
  cases ds with
  | nil => exact absurd rfl h3
  | cons d l =>
    have hd := h2 d (List.mem_cons_self ..)
    have k3 := (hexC_b ⟨d, by omega⟩).2.2.2.2.2.2 hd
    have k4 := (hexC_b ⟨d, by omega⟩).1
    dsimp only at k3 k4
    refine ⟨hexC d, l.map hexC ++ 47 :: (Str.ofString (toString q)).cps.toList, k4, by omega, ?_⟩
    split
    · exact Or.inr rfl
    · exact Or.inl rfl
theorem strip_l {n : Int} : Txt.rstripChars (Str.ofString (toString n)) (Str.ofString "l") = Str.ofString (toString n) := by
  have e : Str.ofString "l" = ⟨#[108]⟩ := by decide
  rw [e]
  refine str_ext (rstrip_chars (r := []) (by simp) (fun d h => absurd h List.not_mem_nil) fun d h => ?_)
  have := sh_chars n d (List.mem_of_getLast? h)
  omega
theorem qText_len {p q : Int} (hp : p.natAbs < 10 ^ 10) (hq : q.natAbs < 10 ^ 10) : (qText p q).length ≤ 78 := by
  have a1 := int_len (k := 10) (by decide) hp
  have a2 := int_len (k := 10) (by decide) hq
  have a3 : (Str.ofString "/").length = 1 := by decide
  unfold qText
  rw [Str.length_append, Str.length_append]
  omega
theorem fsQ_of {p q : Int} {k : Nat} (hp : p.natAbs < 10 ^ 10) (hq : q.natAbs < 10 ^ 10) (hk : k < 5) : FsQ (lShown (qText p q) k) (Str.ofString (toString p)) (Str.ofString (toString q)) p q := by
  have hs := qText_still p q
  have hY : fsY (lShown (qText p q) k) = qText p q := shown_fsY hs (qText_ne p q) k hk
  have a1 := int_len (k := 10) (by decide) hp
  have a2 := int_len (k := 10) (by decide) hq
  have n47 : ∀ n : Int, 47 ∉ (Str.ofString (toString n)).cps.toList := fun n h => by
    have := sh_chars n 47 h; omega
  refine ⟨⟨shown_len hs (qText_len hp hq) k⟩, ?_, ?_, ?_, ?_, by omega, by omega, ?_, ?_⟩
  · rw [hY, sp_none (qText_headed p q)]; rfl
  · rw [hY]
    refine base10 fun c hc => ?_
    have := qText_mem c hc
    omega
  · rw [hY, slash_eq, contains_one, decide_eq_true_eq, qText_chars]
    simp
  · rw [hY, slash_eq]
    exact split_two (qText_chars p q) (n47 p) (n47 q)
  · rw [strip_l]; exact intB_int p
  · rw [strip_l]; exact intB_int q
theorem small_of {n : Int} (h : n.natAbs < 10 ^ 10) : Small n := by
  unfold Small
  exact Nat.lt_trans h (Nat.lt_of_lt_of_le (show 10 ^ 10 < 2 ^ 40 by decide) (Nat.pow_le_pow_right (by decide) (by decide)))
theorem fsOk_q {p q prec : Int} {rnd : Str} {v : Int × Int × Int × Int} {k : Nat} (hk : k < 5) (hr : IsRnd rnd) (hpr : 0 < prec) (hp : p.natAbs < 10 ^ 10) (hq : q.natAbs < 10 ^ 10) (hq0 : 0 < q) (h : DueOk p q prec rnd v) : FsOk (lShown (qText p q) k) prec rnd v :=
  FsOk.q _ _ p q (fsQ_of hp hq hk) (small_of hp) (small_of hq) hq0 (due_fr hr hpr (by omega) h hq0 Iff.rfl rfl rfl)
theorem fsOk_t {b r prec : Int} {rnd : Str} {v : Int × Int × Int × Int} {k : Nat} (hb : B4 b) (hk : k < 5) (hr : IsRnd rnd) (hp : 0 < prec) (h : DueOk (tAbove b r) (tBelow b r) prec rnd v) : FsOk (lShown (tText b r) k) prec rnd v := by
  by_cases h10 : b = 10
  · subst h10; exact fsOk_10 hk hr hp h
  · exact fsOk_2 hb h10 hk hr hp h
/-- the five words -/
def lWord (k : Nat) : Str := [Str.ofString "inf", Str.ofString "+oo", Str.ofString "-oo", Str.ofString "-inf", Str.ofString "nan"].getD k Str.empty
def lWordV (k : Nat) : Int × Int × Int × Int := [((0 : Int), (0 : Int), (-456 : Int), (-2 : Int)), (0, 0, -456, -2), (1, 0, -789, -3), (1, 0, -789, -3), (0, 0, -123, -1)].getD k (0, 0, 0, 0)
theorem word_still : ∀ j : Fin 5, (∀ c ∈ (lWord j.val).cps.toList, 33 ≤ c ∧ c < 127 ∧ (c < 65 ∨ 90 < c)) ∧ (lWord j.val).cps.toList ≠ [] ∧ (lWord j.val).length ≤ 78 := by decide
theorem word_sp : ∀ j : Fin 5, ∃ sa, spVal (lWord j.val) = some sa ∧ spTup sa = lWordV j.val := by
  intro j
  match j with
  | 0 => exact ⟨26, by decide, by decide⟩
  | 1 => exact ⟨26, by decide, by decide⟩
  | 2 => exact ⟨27, by decide, by decide⟩
  | 3 => exact ⟨27, by decide, by decide⟩
  | 4 => exact ⟨25, by decide, by decide⟩
theorem fsOk_w {prec : Int} {rnd : Str} {j k : Nat} (hj : j < 5) (hk : k < 5) : FsOk (lShown (lWord j) k) prec rnd (lWordV j) := by
  obtain ⟨h1, h2, h3⟩ := word_still ⟨j, hj⟩
  obtain ⟨sa, h4, h5⟩ := word_sp ⟨j, hj⟩
  have hs : KXs.Still (lWord j) := h1
  exact FsOk.w sa ⟨shown_len hs h3 k⟩ (by rw [show fsY (lShown (lWord j) k) = lWord j from shown_fsY hs h2 k hk]; exact h4) h5
end
-- P27
section
/-- the fifteen wrong texts -/
def lWrongs : List Str := [Str.ofString "", Str.ofString "1.2.3", Str.ofString "1e2e3", Str.ofString "12x", Str.ofString "0b12", Str.ofString "0o8", Str.ofString "0xg", Str.ofString "--1", Str.ofString "1/2/3", Str.ofString "e5", Str.ofString "1e", Str.ofString "0x", Str.ofString "infinite", Str.ofString "a", Str.ofString "1 2"]
/-- what is asked of a text that int(text, base) refuses at last -/
def badC (b e : Int) (x : Str) : Bool :=
  decide (x.length ≤ 80) && (spVal (fsY x)).isNone && decide (fsBase (fsY x) = b) && !(Txt.contains (fsY x) (Str.ofString "/")) &&
  (decide ((fsY x).length ≤ 30) && decide ((smY (fsY x)).length ≤ 30)) &&
  (decide ((smP b (fsY x)).length = 1) || (decide ((smP b (fsY x)).length = 2) && decide (intB? 10 ((smP b (fsY x)).getD 1 Str.empty) = some e))) &&
  decide (intB? b.toNat (smZ b (fsY x)) = none) && decide ((reprText (smZ b (fsY x))).length ≤ 2000)
theorem bad_c {b e : Int} {x : Str} (hb : B4 b) (h : badC b e x = true) : Bad x := by
  unfold badC at h
  simp only [Bool.and_eq_true, Bool.or_eq_true, decide_eq_true_eq, Bool.not_eq_true', Option.isNone_iff_eq_none] at h
  obtain ⟨⟨⟨⟨⟨⟨⟨h1, h2⟩, h3⟩, h4⟩, h5, h6⟩, h7⟩, h8⟩, h9⟩ := h
  refine Or.inr ⟨b, ⟨h1⟩, by rw [h2]; rfl, h3, h4, SmBad.c e hb ⟨h5, h6⟩ ⟨?_, ?_, h8, h9⟩⟩
  · rcases h7 with h | ⟨h, _⟩
    · exact Or.inl h
    · exact Or.inr h
  · intro q
    rcases h7 with h | ⟨_, h⟩
    · omega
    · exact h
def badB (x : Str) : Bool :=
  decide (x.length ≤ 80) && (spVal (fsY x)).isNone && decide (fsBase (fsY x) = 10) && !(Txt.contains (fsY x) (Str.ofString "/")) &&
  (decide ((fsY x).length ≤ 30) && decide ((smY (fsY x)).length ≤ 30)) &&
  decide ((smP 10 (fsY x)).length = 2) && decide (intB? 10 ((smP 10 (fsY x)).getD (1 : Int).toNat Str.empty) = none) && decide ((reprText ((smP 10 (fsY x)).getD (1 : Int).toNat Str.empty)).length ≤ 2000)
theorem bad_b {x : Str} (h : badB x = true) : Bad x := by
  unfold badB at h
  simp only [Bool.and_eq_true, decide_eq_true_eq, Bool.not_eq_true', Option.isNone_iff_eq_none] at h
  obtain ⟨⟨⟨⟨⟨⟨⟨h1, h2⟩, h3⟩, h4⟩, h5, h6⟩, h7⟩, h8⟩, h9⟩ := h
  exact Or.inr ⟨10, ⟨h1⟩, by rw [h2]; rfl, h3, h4, SmBad.b rfl ⟨h5, h6⟩ ⟨h8, h9⟩ h7⟩
def badA (x : Str) : Bool :=
  decide (x.length ≤ 80) && (spVal (fsY x)).isNone && decide (fsBase (fsY x) = 10) && !(Txt.contains (fsY x) (Str.ofString "/")) &&
  (decide ((fsY x).length ≤ 30) && decide ((smY (fsY x)).length ≤ 30)) && decide ((smP 10 (fsY x)).length = 3)
theorem bad_a {x : Str} (h : badA x = true) : Bad x := by
  unfold badA at h
  simp only [Bool.and_eq_true, decide_eq_true_eq, Bool.not_eq_true', Option.isNone_iff_eq_none] at h
  obtain ⟨⟨⟨⟨⟨h1, h2⟩, h3⟩, h4⟩, h5, h6⟩, h7⟩ := h
  exact Or.inr ⟨10, ⟨h1⟩, by rw [h2]; rfl, h3, h4, SmBad.a rfl ⟨h5, h6⟩ h7⟩
def badU (x : Str) : Bool :=
  decide (x.length ≤ 80) && (spVal (fsY x)).isNone && decide (fsBase (fsY x) = 10) && Txt.contains (fsY x) (Str.ofString "/") && decide (2 < (Txt.split (fsY x) (Str.ofString "/")).length)
theorem bad_u {x : Str} (h : badU x = true) : Bad x := by
  unfold badU at h
  simp only [Bool.and_eq_true, decide_eq_true_eq, Option.isNone_iff_eq_none] at h
  obtain ⟨⟨⟨⟨h1, h2⟩, h3⟩, h4⟩, h5⟩ := h
  exact Or.inl ⟨⟨h1⟩, by rw [h2]; rfl, h3, h4, h5⟩
theorem bad_wrong {k : Int} (h0 : 0 ≤ k) (h : k < 15) : Bad (lWrongs.getD k.toNat Str.empty) := by
  have t : B4 10 := Or.inr (Or.inr (Or.inl rfl))
  obtain ⟨n, rfl⟩ := Int.eq_ofNat_of_zero_le h0
  have hn : n < 15 := by omega
  match n, hn with
  | 0, _ => exact bad_c (e := 0) t (by decide +kernel)
  | 1, _ => exact bad_c (e := 0) t (by decide +kernel)
  | 2, _ => exact bad_a (by decide +kernel)
  | 3, _ => exact bad_c (e := 0) t (by decide +kernel)
  | 4, _ => exact bad_c (b := 2) (e := 0) (Or.inl rfl) (by decide +kernel)
  | 5, _ => exact bad_c (b := 8) (e := 0) (Or.inr (Or.inl rfl)) (by decide +kernel)
  | 6, _ => exact bad_c (b := 16) (e := 0) (Or.inr (Or.inr (Or.inr rfl))) (by decide +kernel)
  | 7, _ => exact bad_c (e := 0) t (by decide +kernel)
  | 8, _ => exact bad_u (by decide +kernel)
  | 9, _ => exact bad_c (e := 5) t (by decide +kernel)
  | 10, _ => exact bad_b (by decide +kernel)
  | 11, _ => exact bad_c (b := 16) (e := 0) (Or.inr (Or.inr (Or.inr rfl))) (by decide +kernel)
  | 12, _ => exact bad_b (by decide +kernel)
  | 13, _ => exact bad_c (e := 0) t (by decide +kernel)
  | 14, _ => exact bad_c (e := 0) t (by decide +kernel)
end
-- P28
section
def lPrec (f : Int) : Int := 1 + (f.fdiv 5).fmod 90
def lRnds : List Str := [Str.ofString "n", Str.ofString "f", Str.ofString "c", Str.ofString "d", Str.ofString "u"]
def lRnd (f : Int) : Str := lRnds.getD (f.fmod 5).toNat Str.empty
def lBases : List Int := [10, 10, 16, 8, 2, 10]
def lBase (f : Int) : Int := lBases.getD ((f.fdiv 450).fmod 6).toNat 0
theorem lPrec_b (f : Int) : 1 ≤ lPrec f ∧ lPrec f ≤ 90 := by
  have h0 := fmod_nonneg' (a := f.fdiv 5) (b := 90) (by decide)
  have h1 := fmod_lt' (a := f.fdiv 5) (b := 90) (by decide)
  unfold lPrec; omega
theorem lRnd_is (f : Int) : IsRnd (lRnd f) := by
  have h0 := fmod_nonneg' (a := f) (b := 5) (by decide)
  have h1 := fmod_lt' (a := f) (b := 5) (by decide)
  unfold lRnd
  generalize f.fmod 5 = k at *
  rcases (show k = 0 ∨ k = 1 ∨ k = 2 ∨ k = 3 ∨ k = 4 by omega) with rfl | rfl | rfl | rfl | rfl
  · exact Or.inl rfl
  · exact Or.inr (Or.inl rfl)
  · exact Or.inr (Or.inr (Or.inl rfl))
  · exact Or.inr (Or.inr (Or.inr (Or.inl rfl)))
  · exact Or.inr (Or.inr (Or.inr (Or.inr rfl)))
theorem lBase_4 (f : Int) : B4 (lBase f) := by
  have h0 := fmod_nonneg' (a := f.fdiv 450) (b := 6) (by decide)
  have h1 := fmod_lt' (a := f.fdiv 450) (b := 6) (by decide)
  unfold lBase
  generalize (f.fdiv 450).fmod 6 = k at *
  rcases (show k = 0 ∨ k = 1 ∨ k = 2 ∨ k = 3 ∨ k = 4 ∨ k = 5 by omega) with rfl | rfl | rfl | rfl | rfl | rfl <;> (unfold B4 lBases; decide)
theorem tBelow_pos {b : Int} (hb : B4 b) (r : Int) : 0 < tBelow b r := by
  have h1 : 0 < tBe b r := Int.pow_pos (by have := hb.pos; omega)
  unfold tBelow
  split
  · exact h1
  · exact Int.mul_pos h1 (Int.pow_pos (by have := (tStep_b (r := r) hb).pos; omega))
theorem step_abs {b : Int} (hb : B4 b) (r : Int) {k : Nat} (hk : k ≤ 380) : (tStep b r ^ k).natAbs < 2 ^ 1521 := pow_abs (tStep_b hb).abs hk
theorem tBelow_abs {b : Int} (hb : B4 b) (r : Int) : (tBelow b r).natAbs < 2 ^ 2000 := by
  have hs := tScale_b b r
  have hsh := tSh_b (b := b) (r := r)
  have h1 : (tBe b r).natAbs < 2 ^ 65 := pow_abs (n := 16) hb.abs (by omega)
  unfold tBelow
  split
  · exact Nat.lt_of_lt_of_le h1 (Nat.pow_le_pow_right (by decide) (by decide))
  · rw [Int.natAbs_mul]
    have h2 := step_abs hb r (k := (-tSh b r).toNat) (by omega)
    calc (tBe b r).natAbs * (tStep b r ^ (-tSh b r).toNat).natAbs ≤ 2 ^ 65 * (tStep b r ^ (-tSh b r).toNat).natAbs := Nat.mul_le_mul_right _ (Nat.le_of_lt h1)
      _ < 2 ^ 65 * 2 ^ 1521 := Nat.mul_lt_mul_of_pos_left h2 (Nat.pow_pos (by decide))
      _ = 2 ^ 1586 := by rw [← Nat.pow_add]
      _ ≤ 2 ^ 2000 := Nat.pow_le_pow_right (by decide) (by decide)
theorem tAbove_abs {b : Int} (hb : B4 b) (r : Int) : (tAbove b r).natAbs < 2 ^ 2000 := by
  have hsh := tSh_b (b := b) (r := r)
  have h1 := worth_abs (r := r) hb
  unfold tAbove
  split
  · rw [Int.natAbs_mul]
    have h2 := step_abs hb r (k := (tSh b r).toNat) (by omega)
    calc (tW b r).natAbs * (tStep b r ^ (tSh b r).toNat).natAbs ≤ 2 ^ 64 * (tStep b r ^ (tSh b r).toNat).natAbs := Nat.mul_le_mul_right _ (Nat.le_of_lt h1)
      _ < 2 ^ 64 * 2 ^ 1521 := Nat.mul_lt_mul_of_pos_left h2 (Nat.pow_pos (by decide))
      _ = 2 ^ 1585 := by rw [← Nat.pow_add]
      _ ≤ 2 ^ 2000 := Nat.pow_le_pow_right (by decide) (by decide)
  · exact Nat.lt_of_lt_of_le h1 (Nat.pow_le_pow_right (by decide) (by decide))
def lP (r : Int) : Int := r.fmod (10 ^ (9 : Int).toNat) - 10 ^ (8 : Int).toNat
def lQ (r : Int) : Int := 1 + (r.fdiv (10 ^ (9 : Int).toNat)).fmod (10 ^ (9 : Int).toNat)
theorem lP_b (r : Int) : -100000000 ≤ lP r ∧ lP r < 900000000 := by
  have e9 : (10 : Int) ^ (9 : Int).toNat = 1000000000 := by decide
  have e8 : (10 : Int) ^ (8 : Int).toNat = 100000000 := by decide
  have h0 := fmod_nonneg' (a := r) (b := 1000000000) (by decide)
  have h1 := fmod_lt' (a := r) (b := 1000000000) (by decide)
  unfold lP; rw [e9, e8]; omega
theorem lQ_b (r : Int) : 1 ≤ lQ r ∧ lQ r ≤ 1000000000 := by
  have e9 : (10 : Int) ^ (9 : Int).toNat = 1000000000 := by decide
  have h0 := fmod_nonneg' (a := r.fdiv 1000000000) (b := 1000000000) (by decide)
  have h1 := fmod_lt' (a := r.fdiv 1000000000) (b := 1000000000) (by decide)
  unfold lQ; rw [e9]; omega
theorem lP_abs (r : Int) : (lP r).natAbs < 10 ^ 10 := by have := lP_b r; omega
theorem lQ_abs (r : Int) : (lQ r).natAbs < 10 ^ 10 := by have := lQ_b r; omega
theorem ten_2000 {n : Int} (h : n.natAbs < 10 ^ 10) : n.natAbs < 2 ^ 2000 :=
  Nat.lt_trans h (Nat.lt_of_lt_of_le (show 10 ^ 10 < 2 ^ 40 by decide) (Nat.pow_le_pow_right (by decide) (by decide)))
theorem ten_log {n : Int} (h : n.natAbs < 10 ^ 10) : n.natAbs.log2 < 1920 := by
  by_cases h0 : n.natAbs = 0
  · rw [h0]; decide
  · exact (Nat.log2_lt h0).mpr (Nat.lt_trans h (Nat.lt_of_lt_of_le (show 10 ^ 10 < 2 ^ 40 by decide) (Nat.pow_le_pow_right (by decide) (by decide))))
/-- what the law knows of its text and of its answer behind the choice -/
structure Due (prec : Int) (rnd : Str) (tx : Str) (v : Int × Int × Int × Int) : Prop where
  len : tx.length ≤ 78
  ok : ∀ k, k < 5 → FsOk (lShown tx k) prec rnd v
theorem due_t {b r prec : Int} {rnd : Str} {v : Int × Int × Int × Int} (hb : B4 b) (hr : IsRnd rnd) (hp : 1 ≤ prec) (h : DueOk (tAbove b r) (tBelow b r) prec rnd v) : Due prec rnd (tText b r) v :=
  ⟨tText_len hb r, fun k hk => fsOk_t hb hk hr (by omega) h⟩
theorem due_q {r prec : Int} {rnd : Str} {v : Int × Int × Int × Int} (hr : IsRnd rnd) (hp : 1 ≤ prec) (h : DueOk (lP r) (lQ r) prec rnd v) : Due prec rnd (qText (lP r) (lQ r)) v :=
  ⟨qText_len (lP_abs r) (lQ_abs r), fun k hk => fsOk_q hk hr (by omega) (lP_abs r) (lQ_abs r) (by have := lQ_b r; omega) h⟩
theorem due_w {prec : Int} {rnd : Str} {j : Nat} (hj : j < 5) : Due prec rnd (lWord j) (lWordV j) :=
  ⟨(word_still ⟨j, hj⟩).2.2, fun k hk => fsOk_w hj hk⟩
end
-- G9
theorem caller_top {cn : Str} {cs : Scope} {L a : Addr} {cd : Value} : callerA.deeper (envOf cn cs L a cd) = ktrTop 302 7 (some []) cn cs L a cd [] [] := rfl
section
variable {M : Model} {A : Around} {E : Value → Shared → Prop} {Q : Flow → Shared → Prop} {s : Shared} {env : Env} {st : Stmt} {rest : List Stmt} {g : Heap} {L : Addr} {m₀ : Str → Option Value} {news : List (Addr × Obj)}
/-- a cut by hand -/
theorem cutC (ns : List (Str × (Tok → Value))) (_F : Fr g L s.heap m₀) (_N : News g L s.heap news)
   (h1 : wpAny M A (exec st env) (Cut g L news s True ns) E s)
   (h2 : ∀ m h tk, News g L h news → JElim g L h (wpC M A (execs rest env) Q E { s with heap := h, toks := tk }) ns m) :
   wpC M A (execs (st :: rest) env) Q E s := by
  refine wpC_execs_consA (wpAny_mono h1 (fun fl s' hc => ?_) fun _ _ y => y)
  obtain ⟨rfl, hP, m, h, tk, rfl, F, N⟩ := hc
  exact jelim (h2 m h tk N) F
def CutX {α : Type} (g : Heap) (L : Addr) (s : Shared) (P : α → Prop) (ns : α → List (Str × (Tok → Value))) (nw : α → List (Addr × Obj)) (fl : Flow) (s' : Shared) : Prop :=
  fl = .next ∧ ∃ x m h tk, P x ∧ s' = { s with heap := h, toks := tk } ∧ JFr g L h (ns x) m ∧ News g L h (nw x)
theorem cutX_end {α : Type} {P : α → Prop} {ns : α → List (Str × (Tok → Value))} {nw : α → List (Addr × Obj)} {h : Heap} {m : Str → Option Value} {tk : Nat} (x : α) (_F₀ : Fr g L h m) (hP : P x) (F : JFr g L h (ns x) m) (N : News g L h (nw x)) :
   CutX g L s P ns nw .next { s with heap := h, toks := tk } := ⟨rfl, x, m, h, tk, hP, rfl, F, N⟩
theorem cutX {α : Type} (P : α → Prop) (ns : α → List (Str × (Tok → Value))) (nw : α → List (Addr × Obj))
   (h1 : wpAny M A (exec st env) (CutX g L s P ns nw) E s)
   (h2 : ∀ x, P x → ∀ m h tk, News g L h (nw x) → JElim g L h (wpC M A (execs rest env) Q E { s with heap := h, toks := tk }) (ns x) m) :
   wpC M A (execs (st :: rest) env) Q E s := by
  refine wpC_execs_consA (wpAny_mono h1 (fun fl s' hc => ?_) fun _ _ y => y)
  obtain ⟨rfl, x, m, h, tk, hP, rfl, F, N⟩ := hc
  exact jelim (h2 x hP m h tk N) F
end
section
variable {prog : Program} {w : World} {A : Around} {E : Value → Shared → Prop} {s : Shared} {Q : Value → Shared → Prop} {t u : Tok}
theorem item_strs {value slice : PySem.Expr} {l : Addr} {vs : List Value} {xs : List Str} {i : Int} {n : Nat} {h₀ : Heap} {L : Addr} {news : List (Addr × Obj)} (N : News h₀ L s.heap news) (hm : (l, listOf vs.toArray n) ∈ news) (hv : StrsAre vs xs)
    (h0 : 0 ≤ i) (h1 : i < xs.length) (h2 : xs.length < 100) (h : ∀ t', Q (.str (xs.getD i.toNat Str.empty) t') s)
    (hs : subscripted slice false (.ref l) (.int i u) = operate [.ref l, .int i u] (getItem (.ref l) (.int i u)) := by with_unfolding_all rfl) :
    wpAny (model prog w) A (subscriptTail value slice (.ref l) (.int i u)) Q E s :=
  KTb.item_list (news_list N hm) hv h0 h1 (by omega) (fun t' _ => h t') hs
theorem item_ints {value slice : PySem.Expr} {l : Addr} {vs : List Value} {xs : List Int} {i : Int} {n : Nat} {h₀ : Heap} {L : Addr} {news : List (Addr × Obj)} (N : News h₀ L s.heap news) (hm : (l, listOf vs.toArray n) ∈ news) (hv : IntsAre vs xs)
    (h0 : 0 ≤ i) (h1 : i < xs.length) (h2 : xs.length < 100) (h : ∀ t', Q (.int (xs.getD i.toNat 0) t') s)
    (hs : subscripted slice false (.ref l) (.int i u) = operate [.ref l, .int i u] (getItem (.ref l) (.int i u)) := by with_unfolding_all rfl) :
    wpAny (model prog w) A (subscriptTail value slice (.ref l) (.int i u)) Q E s :=
  item_intsT (news_list N hm) hv h0 h1 (by omega) h hs
end
local macro_rules | `(tactic| walk_at "m room") => `(tactic| decide)
local macro_rules | `(tactic| walk_at "m units") => `(tactic| first | decide | exact (show (7 : Nat) + 64 < cLine from by decide))
section
variable {prog : Program} {w : World} {A : Around} {E : Value → Shared → Prop} {s : Shared} {Q : Value → Shared → Prop} {value slice : PySem.Expr} {l : Addr} {n : Nat} {h₀ : Heap} {L : Addr} {news : List (Addr × Obj)} {i : Int} {u : Tok}
theorem item_rnd {u0 u1 u2 u3 u4 : Tok} (N : News h₀ L s.heap news) (hm : (l, listOf [.str (Str.ofString "n") u0, .str (Str.ofString "f") u1, .str (Str.ofString "c") u2, .str (Str.ofString "d") u3, .str (Str.ofString "u") u4].toArray n) ∈ news)
    (h : ∀ t', Q (.str (lRnd i) t') s)
    (hs : subscripted slice false (.ref l) (.int (i.fmod 5) u) = operate [.ref l, .int (i.fmod 5) u] (getItem (.ref l) (.int (i.fmod 5) u)) := by with_unfolding_all rfl) :
    wpAny (model prog w) A (subscriptTail value slice (.ref l) (.int (i.fmod 5) u)) Q E s :=
  item_strs N hm (xs := lRnds) (by repeat (first | exact StrsAre.nil | refine StrsAre.cons _ _ ?_)) (fmod_nonneg' (by decide)) (fmod_lt' (by decide)) (by decide) h hs
theorem item_base {u0 u1 u2 u3 u4 u5 : Tok} (N : News h₀ L s.heap news) (hm : (l, listOf [.int 10 u0, .int 10 u1, .int 16 u2, .int 8 u3, .int 2 u4, .int 10 u5].toArray n) ∈ news)
    (h : ∀ t', Q (.int (lBase i) t') s)
    (hs : subscripted slice false (.ref l) (.int ((i.fdiv 450).fmod 6) u) = operate [.ref l, .int ((i.fdiv 450).fmod 6) u] (getItem (.ref l) (.int ((i.fdiv 450).fmod 6) u)) := by with_unfolding_all rfl) :
    wpAny (model prog w) A (subscriptTail value slice (.ref l) (.int ((i.fdiv 450).fmod 6) u)) Q E s :=
  item_ints N hm (xs := lBases) (by repeat (first | exact IntsAre.nil | refine IntsAre.cons _ _ ?_)) (fmod_nonneg' (by decide)) (fmod_lt' (by decide)) (by decide) h hs
theorem item_shown {tx : Str} {u0 u1 u2 u3 u4 : Tok} (N : News h₀ L s.heap news) (hm : (l, listOf [.str (tx) u0, .str (Txt.upper tx) u1, .str (Str.ofString " " ++ tx) u2, .str (tx ++ Str.ofString "  ") u3, .str (tx) u4].toArray n) ∈ news)
    (h : ∀ t', Q (.str (lShown tx (i.fmod 5).toNat) t') s)
    (hs : subscripted slice false (.ref l) (.int (i.fmod 5) u) = operate [.ref l, .int (i.fmod 5) u] (getItem (.ref l) (.int (i.fmod 5) u)) := by with_unfolding_all rfl) :
    wpAny (model prog w) A (subscriptTail value slice (.ref l) (.int (i.fmod 5) u)) Q E s :=
  item_strs N hm (xs := [tx, Txt.upper tx, Str.ofString " " ++ tx, tx ++ Str.ofString "  ", tx]) (by repeat (first | exact StrsAre.nil | refine StrsAre.cons _ _ ?_)) (fmod_nonneg' (by decide)) (fmod_lt' (by decide)) (by simp) h hs
theorem item_wrong {u0 u1 u2 u3 u4 u5 u6 u7 u8 u9 u10 u11 u12 u13 u14 : Tok} (N : News h₀ L s.heap news) (hm : (l, listOf [.str (Str.ofString "") u0, .str (Str.ofString "1.2.3") u1, .str (Str.ofString "1e2e3") u2, .str (Str.ofString "12x") u3, .str (Str.ofString "0b12") u4, .str (Str.ofString "0o8") u5, .str (Str.ofString "0xg") u6, .str (Str.ofString "--1") u7, .str (Str.ofString "1/2/3") u8, .str (Str.ofString "e5") u9, .str (Str.ofString "1e") u10, .str (Str.ofString "0x") u11, .str (Str.ofString "infinite") u12, .str (Str.ofString "a") u13, .str (Str.ofString "1 2") u14].toArray n) ∈ news)
    (h : ∀ t', Q (.str (lWrongs.getD (i.fmod 15).toNat Str.empty) t') s)
    (hs : subscripted slice false (.ref l) (.int (i.fmod 15) u) = operate [.ref l, .int (i.fmod 15) u] (getItem (.ref l) (.int (i.fmod 15) u)) := by with_unfolding_all rfl) :
    wpAny (model prog w) A (subscriptTail value slice (.ref l) (.int (i.fmod 15) u)) Q E s :=
  item_strs N hm (xs := lWrongs) (by repeat (first | exact StrsAre.nil | refine StrsAre.cons _ _ ?_)) (fmod_nonneg' (by decide)) (fmod_lt' (by decide)) (by decide) h hs
end
local macro_rules | `(tactic| walk_at "m idx") => `(tactic| first | exact fmod_nonneg' (by decide) | exact fmod_lt' (by decide))
local macro_rules | `(tactic| walk_at "m sub") => `(tactic| ((with_reducible show wpAny _ _ (subscriptTail _ _ (Value.ref _) (Value.int _ _)) _ _ _); (with_reducible refine' item_rnd ?N ?hm ?_; (case N => k_asm); (case hm => exact List.mem_cons_self ..)); intro t9))
local macro_rules | `(tactic| walk_at "m sub") => `(tactic| ((with_reducible show wpAny _ _ (subscriptTail _ _ (Value.ref _) (Value.int _ _)) _ _ _); (with_reducible refine' item_base ?N ?hm ?_; (case N => k_asm); (case hm => exact List.mem_cons_self ..)); intro t9))
local macro_rules | `(tactic| walk_at "m sub") => `(tactic| ((with_reducible show wpAny _ _ (subscriptTail _ _ (Value.ref _) (Value.int _ _)) _ _ _); (with_reducible refine' item_shown ?N ?hm ?_; (case N => k_asm); (case hm => exact List.mem_cons_self ..)); intro t9))
local macro_rules | `(tactic| walk_at "m sub") => `(tactic| ((with_reducible show wpAny _ _ (subscriptTail _ _ (Value.ref _) (Value.int _ _)) _ _ _); (with_reducible refine' item_wrong ?N ?hm ?_; (case N => k_asm); (case hm => exact List.mem_cons_self ..)); intro t9))
local macro_rules | `(tactic| walk_at "m call") => `(tactic| first
  | ((with_reducible show wpAny _ _ (call (Value.ref 134) _) _ _ _); (refine' c_mixed ?k1 ?k2 ?k3 ?k4 ?k5 ?kK ?kd ?p1 ?p2 ?p3 ?p4 ?p5 ?p6 ?_; (case k1 => k_asm); (case k2 => k_asm); (case k3 => k_asm); (case k4 => k_asm); (case k5 => k_asm); (case kK => first | exact rfl | assumption); (case kd => walk_at "m room"); (case p1 => with_reducible assumption); (case p2 => with_reducible assumption); (case p3 => with_reducible assumption); (case p4 => with_reducible assumption); (case p5 => decide); (case p6 => decide)); intro v9 t9 h9 tk9 p9 F9 N9; (try dsimp only); k_sweep))
theorem q_prec {f : Int} : 1 + (f.fdiv 5).fmod 90 = lPrec f := rfl
theorem q_p {r : Int} : r.fmod (10 ^ (9 : Int).toNat) - 10 ^ (8 : Int).toNat = lP r := rfl
theorem q_q {r : Int} : 1 + (r.fdiv (10 ^ (9 : Int).toNat)).fmod (10 ^ (9 : Int).toNat) = lQ r := rfl
local macro_rules | `(tactic| walk_at "m eq") => `(tactic| first
  | with_unfolding_none exact rfl
  | with_unfolding_none exact q_prec
  | with_unfolding_none exact q_p
  | with_unfolding_none exact q_q
  | with_reducible rfl
  | with_reducible exact q_prec
  | with_reducible exact q_p
  | with_reducible exact q_q)
theorem pq_sz (r : Int) : (Str.ofString (toString (lP r))).length ≤ 11 ∧ (Str.ofString (toString (lQ r))).length ≤ 11 ∧ (Str.ofString "/").length = 1 ∧ (Str.ofString (toString (lP r)) ++ Str.ofString "/").length ≤ 12 := by
  have a1 := int_len (k := 10) (by decide) (lP_abs r)
  have a2 := int_len (k := 10) (by decide) (lQ_abs r)
  have a3 : (Str.ofString "/").length = 1 := by decide
  refine ⟨by omega, by omega, a3, ?_⟩
  rw [Str.length_append]; omega
theorem pq_fit (r : Int) : (Str.ofString (toString (lP r))).length + (Str.ofString "/").length ≤ 16777216 ∧ (Str.ofString (toString (lP r)) ++ Str.ofString "/").length + (Str.ofString (toString (lQ r))).length ≤ 16777216 := by
  obtain ⟨h1, h2, h3, h4⟩ := pq_sz r
  exact ⟨by omega, by omega⟩
theorem Due.fit {prec : Int} {rnd tx : Str} {v : Int × Int × Int × Int} (h : Due prec rnd tx v) : tx.length ≤ 5592405 ∧ (Str.ofString " ").length + tx.length ≤ 16777216 ∧ tx.length + (Str.ofString "  ").length ≤ 16777216 := by
  have h0 := h.len
  have e1 : (Str.ofString " ").length = 1 := by decide
  have e2 : (Str.ofString "  ").length = 2 := by decide
  omega
local macro_rules | `(tactic| walk_at "m szs") => `(tactic| first
  | with_reducible exact (Due.fit (by with_reducible assumption)).1
  | with_reducible exact (Due.fit (by with_reducible assumption)).2.1
  | with_reducible exact (Due.fit (by with_reducible assumption)).2.2
  | with_reducible exact (pq_fit _).1
  | with_reducible exact (pq_fit _).2)
section
variable {prog : Program} {w : World} {A : Around} {E : Value → Shared → Prop} {s : Shared} {Q : Value → Shared → Prop} {t u : Tok}
theorem str_p {r : Int} (h : Q (.str (Str.ofString (toString (lP r))) s.toks) { s with toks := s.toks + 1 }) : wpAny (model prog w) A (call (.type "str") [.int (lP r) t]) Q E s := P.str_of_int (ten_log (lP_abs r)) h
theorem str_q {r : Int} (h : Q (.str (Str.ofString (toString (lQ r))) s.toks) { s with toks := s.toks + 1 }) : wpAny (model prog w) A (call (.type "str") [.int (lQ r) t]) Q E s := P.str_of_int (ten_log (lQ_abs r)) h
theorem item_word {value slice : PySem.Expr} {l : Addr} {a0 a1 a2 a3 a4 : Addr} {i : Int} {n : Nat} {h₀ : Heap} {L : Addr} {news : List (Addr × Obj)} (N : News h₀ L s.heap news) (hm : (l, listOf [.ref a0, .ref a1, .ref a2, .ref a3, .ref a4].toArray n) ∈ news)
    (h0 : 0 ≤ i) (h1 : i < 5) (q0 : Q (.ref a0) s) (q1 : Q (.ref a1) s) (q2 : Q (.ref a2) s) (q3 : Q (.ref a3) s) (q4 : Q (.ref a4) s)
    (hs : subscripted slice false (.ref l) (.int i u) = operate [.ref l, .int i u] (getItem (.ref l) (.int i u)) := by with_unfolding_all rfl) :
    wpAny (model prog w) A (subscriptTail value slice (.ref l) (.int i u)) Q E s := by
  have hl := news_list N hm
  rcases (show i = 0 ∨ i = 1 ∨ i = 2 ∨ i = 3 ∨ i = 4 by omega) with rfl | rfl | rfl | rfl | rfl
  · exact tail_any hl.typeIs slot_list_getitem.lookup (wpAny_getItem_list hl h0 (by omega) (x := .ref a0) (by rfl) q0) hs
  · exact tail_any hl.typeIs slot_list_getitem.lookup (wpAny_getItem_list hl h0 (by omega) (x := .ref a1) (by rfl) q1) hs
  · exact tail_any hl.typeIs slot_list_getitem.lookup (wpAny_getItem_list hl h0 (by omega) (x := .ref a2) (by rfl) q2) hs
  · exact tail_any hl.typeIs slot_list_getitem.lookup (wpAny_getItem_list hl h0 (by omega) (x := .ref a3) (by rfl) q3) hs
  · exact tail_any hl.typeIs slot_list_getitem.lookup (wpAny_getItem_list hl h0 (by omega) (x := .ref a4) (by rfl) q4) hs
theorem ne_same {a b : Addr} {v : Int × Int × Int × Int} {t1 t2 t3 t4 u1 u2 u3 u4 : Tok} (ha : IsTup s.heap a #[.int v.1 t1, .int v.2.1 t2, .int v.2.2.1 t3, .int v.2.2.2 t4]) (hb : IsTup s.heap b #[.int v.1 u1, .int v.2.1 u2, .int v.2.2.1 u3, .int v.2.2.2 u4]) (hu : A.units + 64 < cLine)
    (h : Q (.bool false) s) : wpAny (model prog w) A (compareOp .NotEq (.ref a) (.ref b)) Q E s :=
  ne_t4 ha hb hu (by simpa using h)
end
local macro_rules | `(tactic| walk_at "m sub") => `(tactic| ((with_reducible show wpAny _ _ (subscriptTail _ _ (Value.ref _) (Value.int _ _)) _ _ _); (with_reducible refine' item_word ?N ?hm ?k3 ?k4 ?_ ?_ ?_ ?_ ?_; (case N => k_asm); (case hm => exact List.mem_cons_self ..); (case k3 => walk_at "m idx"); (case k4 => walk_at "m idx"))))
local macro_rules | `(tactic| walk_at "m cmp") => `(tactic| ((with_reducible show wpAny _ _ (compareOp CmpOp.NotEq (Value.ref _) (Value.ref _)) _ _ _); (with_reducible rename IsTup _ _ _ => I8); (with_reducible rename News _ _ _ _ => N8); (refine ne_same I8 (N8.isTup (List.mem_cons_self ..)) ?hu ?_; (case hu => walk_at "m units"))))
local macro_rules | `(tactic| walk_at "m call") => `(tactic| first
  | ((with_reducible show wpAny _ _ (call (Value.type "str") [Value.int _ _] _) _ _ _); first | (with_reducible refine str_p ?_) | (with_reducible refine str_q ?_))
  | ((with_reducible show wpAny _ _ (call (Value.builtin "str.upper") [Value.str _ _] _) _ _ _); (refine SCL.upper (by walk_at "m szs") ?_); intro hl9; clear hl9)
  | ((with_reducible show wpAny _ _ (call (Value.ref 162) _) _ _ _); (refine' c_text ?k1 ?k2 ?k3 ?k4 ?k5 ?kK ?kd ?p1 ?_; (case k1 => k_asm); (case k2 => k_asm); (case k3 => k_asm); (case k4 => k_asm); (case k5 => k_asm); (case kK => first | exact rfl | assumption); (case kd => walk_at "m room"); (case p1 => exact txH_of (lBase_4 _))); intro D9 u9 u8 u7 c9 h9 tk9 F9 N9 l9; (try dsimp only); k_sweep)
  | ((with_reducible show wpAny _ _ (call (Value.ref 141) _) _ _ _); (refine' c_roundedU ?k1 ?k2 ?k3 ?k4 ?k5 ?kK ?kd ?p1 ?p2 ?p3 ?p4 ?p5 ?p6 ?_; (case k1 => k_asm); (case k2 => k_asm); (case k3 => k_asm); (case k4 => k_asm); (case k5 => k_asm); (case kK => first | exact rfl | assumption); (case kd => walk_at "m room"); (case p1 => walk_at "m below"); (case p2 => walk_at "m below"); (case p3 => walk_at "m below"); (case p4 => exact (lPrec_b _).1); (case p5 => exact (lPrec_b _).2); (case p6 => exact lRnd_is _)); intro v9 d9 D9 t9 u9 u8 u7 c9 h9 tk9 F9 N9 l9; (try dsimp only); k_sweep)
  | ((with_reducible show wpAny _ _ (call (Value.ref 127) _) _ _ _); (refine' c_fs ?k1 ?k2 ?k3 ?k4 ?k5 ?kK ?kd ?ku ?p1 ?p2 ?p3 ?p4 ?_; (case k1 => k_asm); (case k2 => k_asm); (case k3 => k_asm); (case k4 => k_asm); (case k5 => k_asm); (case kK => first | exact rfl | assumption); (case kd => walk_at "m room"); (case ku => walk_at "m units"); (case p1 => with_reducible assumption); (case p2 => exact Int.lt_of_lt_of_le (by decide) (lPrec_b _).1); (case p3 => exact Int.le_trans (lPrec_b _).2 (by decide)); (case p4 => exact lRnd_is _)); intro D9 t9 u9 u8 u7 h9 tk9 F9 N9 i9; (try dsimp only); k_sweep))
local macro_rules | `(tactic| walk_at "m below") => `(tactic| first
  | with_reducible exact tBelow_pos (lBase_4 _) _
  | with_reducible exact tBelow_abs (lBase_4 _) _
  | with_reducible exact tAbove_abs (lBase_4 _) _
  | exact Int.lt_of_lt_of_le (by decide) (lQ_b _).1
  | exact ten_2000 (lQ_abs _)
  | exact ten_2000 (lP_abs _))
local macro_rules | `(tactic| walk_at "m callC") => `(tactic| ((with_reducible show wpC _ _ (call (Value.ref 169) _) _ _ _); (refine' c_refused ?k1 ?k2 ?k3 ?k3b ?k4 ?k5 ?k5b ?kK ?kd ?p1 ?_; (case k1 => k_asm); (case k2 => k_asm); (case k3 => k_asm); (case k3b => k_asm); (case k4 => k_asm); (case k5 => k_asm); (case k5b => k_asm); (case kK => first | exact rfl | assumption); (case kd => walk_at "m room"); (case p1 => exact bad_wrong (fmod_nonneg' (by decide)) (fmod_lt' (by decide))))))
local macro_rules | `(tactic| walk_at "m") => `(tactic| first
  | ((with_reducible show wpC _ _ (execs (Stmt.Return _ _ :: _) _) _ _ _); refine wpC_execs_cons ?_)
  | ((with_reducible show wpC _ _ (exec (Stmt.Return (some _) _) _) _ _ _); refine wpC_Return_some ?_))
local macro_rules | `(tactic| walk_at "m") => `(tactic| first
  | ((with_reducible show wpAny _ _ (spliced _) _ _ _); walk_at "m spl")
  | ((with_reducible show wpAny _ _ (eval _ _) _ _ _); first
    | ((with_reducible show wpAny _ _ (eval (Expr.Name _ _) _) _ _ _); walk_at "m name")
    | with_reducible refine wpAny_Constant_int ?_
    | with_reducible refine Calls.Constant_str ?_
    | with_reducible refine wpAny_BinOp ?_
    | walk_at "m eval")
  | ((with_reducible show wpAny _ _ (storeName _ _ _) _ _ _); walk_at "m store")
  | ((with_reducible show wpAny _ _ (assignInOrder _ _) _ _ _); first | refine assignInOrder_cons ?_ | refine assignInOrder_nil ?_)
  | ((with_reducible show wpAny _ _ (binaryOp _ _ _) _ _ _); walk_at "m bin")
  | ((with_reducible show wpAny _ _ (newTuple _) _ _ _); (refine' kup_newTuple ?F ?N ?_ ?z; (case F => k_asm); (case N => k_asm); (case z => kmk_size)); intro D' h' F' N' l1; (try k_lt l1); k_sweep)
  | ((with_reducible show wpAny _ _ (exec _ _) _ _ _); walk_at "m exec")
  | with_reducible refine wpAny_execs_nil ?_
  | with_reducible refine bindName_ ?_
  | with_reducible refine PyProof.Rows.assign_Name ?_
  | with_reducible refine neg_int ?_)
set_option maxHeartbeats 4000000 in
theorem fin : PySem.Challenge.rw_ah5009_01.Holds := by
  refine hd ?_
  k_fill
  intro w s₀ s₁ mg mb G Y fa o pm cd doc dV kV ho hd hcd hD hmg hg args vals as hpre hlay hrd hwl hlo
  have KX := kIn_of Y
  have X := (Ground.X G).1
  have V := (Ground.X G).2
  refine Ground.open G ?_
  intro T B D TE TW
  try (refine guard_noD D (by decide +kernel) ?_; clear D)
  obtain ⟨_, _, M⟩ := bmod_of_top T
  have TA := at_of_top T
  try (obtain ⟨_, _, he, B0⟩ := based_of_top T rfl hmg ho hd; have he' : cd = _ := he; subst he'; clear he)
  clear hmg
  wrow_args hpre hlay hrd hwl hlo
  refine wpAny_guard (enter_callC ?_) (wpAny_pure (GoodW.toG ?_))
  · have K0 : Below callerA s₁.heap [] s₁.heap := below_caller _
    have he := Dflts.none hD rfl
    subst he
    refine codeC_full (by decide) ho hd (Top.nolimit T) hcd (BindsTo.of_eq rfl) (locs rfl) fun h₁ F => ?_
    dsimp only at F ⊢
    w_binds F
    have N0 := (News.nil : News _ _ _ []).at F
    clear hd TA hD hcd ho X V B TE TW M G Y
    k_drop
    rw [caller_top]
    refine wpC_mono (E := fun _ _ => False) (Q := fun fl s' => fl = .ret (.bool true) ∧ ∃ h' tk', (∀ b o, s₁.heap.get? b = some o → h'.get? b = some o) ∧ s' = { s₁ with heap := h', toks := tk' }) ?_ ?_ (fun _ _ h => h.elim)
    rotate_left
    · rintro fl s' ⟨rfl, h', tk', hk, rfl⟩
      dsimp only
      refine ⟨.inl ⟨.bool true, .bool true, [], rfl, fun cls => rfl, .bool _, ?_, fun _ => ⟨List.nodup_nil, fun a h => by cases h⟩⟩, hk, rfl, hg⟩
      first | exact postW_of (by wrow_shape) (by wtm_val) (by str_meet; first | done | w_fin) | decide +kernel | simp [OpenRow.toRowW]
    rename IntsAre _ _ => hI
    rename Heap.IsList _ _ _ => hL
    rename ¬ _ < _ => hcond
    have hvs := IntsAre.length hI
    rename List Int => ns
    rename List Value => vs
    have hsz : (vs.toArray.size : Int) < 2 ^ 63 := by
      have e : vs.toArray.size = ns.length := by simpa using hvs
      rw [e]; omega
    have hvs' : vs.toArray.size = ns.length := by simpa using hvs
    clear hvs hcond
    refine cutX (α := Int × Int) (g := s₁.heap) (L := s₁.heap.objs.size) (fun x => 0 ≤ x.1 ∧ 0 ≤ x.2) (fun x => [(Str.ofString "first", fun t => .int x.1 t), (Str.ofString "rich", fun t => .int x.2 t)]) (fun _ => []) ?_ ?_
    · walk_at "m go"
      rename Fr _ _ _ _ => kF
      refine' cutX_end (_, _) kF ?hP ?F ?N
      case F => dsimp only; walk_at "m jfr"
      case hP => exact ⟨by with_reducible assumption, by with_reducible assumption⟩
      case N => exact fun p hp => nomatch hp
    rintro ⟨f, r⟩ ⟨hf, hr⟩ m h tk N
    dsimp only [JElim] at hf hr ⊢
    intro t1 t2 F
    refine cutC (g := s₁.heap) (L := s₁.heap.objs.size) (news := []) [(Str.ofString "first", fun t => .int f t), (Str.ofString "rich", fun t => .int r t), (Str.ofString "prec", fun t => .int (lPrec f) t), (Str.ofString "rnd", fun t => .str (lRnd f) t)] F N ?_ ?_
    · walk_at "m go"
    clear F N N0
    intro m h tk N
    dsimp only [JElim]
    intro t1 t2 t3 t4 F
    refine cutC (g := s₁.heap) (L := s₁.heap.objs.size) (news := []) [(Str.ofString "first", fun t => .int f t), (Str.ofString "rich", fun t => .int r t), (Str.ofString "prec", fun t => .int (lPrec f) t), (Str.ofString "rnd", fun t => .str (lRnd f) t), (Str.ofString "base", fun t => .int (lBase f) t)] F N ?_ ?_
    · walk_at "m go"
    clear F N
    intro m h tk N
    dsimp only [JElim]
    intro t1 t2 t3 t4 t5 F
    refine cutC (g := s₁.heap) (L := s₁.heap.objs.size) (news := []) [(Str.ofString "first", fun t => .int f t), (Str.ofString "rich", fun t => .int r t), (Str.ofString "prec", fun t => .int (lPrec f) t), (Str.ofString "rnd", fun t => .str (lRnd f) t), (Str.ofString "text", fun t => .str (tText (lBase f) r) t), (Str.ofString "above", fun t => .int (tAbove (lBase f) r) t), (Str.ofString "below", fun t => .int (tBelow (lBase f) r) t)] F N ?_ ?_
    · walk_at "m go"
    clear F N
    intro m h tk N
    dsimp only [JElim]
    intro t1 t2 t3 t4 t5 t6 t7 F
    refine cutX (α := (Int × Int × Int × Int) × Addr × Tok × Tok × Tok × Tok × Nat) (g := s₁.heap) (L := s₁.heap.objs.size) (fun x => DueOk (tAbove (lBase f) r) (tBelow (lBase f) r) (lPrec f) (lRnd f) x.1)
      (fun x => [(Str.ofString "first", fun t => .int f t), (Str.ofString "rich", fun t => .int r t), (Str.ofString "prec", fun t => .int (lPrec f) t), (Str.ofString "rnd", fun t => .str (lRnd f) t), (Str.ofString "text", fun t => .str (tText (lBase f) r) t), (Str.ofString "due", fun _ => .ref x.2.1)])
      (fun x => [(x.2.1, T4 x.1.1 x.1.2.1 x.1.2.2.1 x.1.2.2.2 x.2.2.1 x.2.2.2.1 x.2.2.2.2.1 x.2.2.2.2.2.1 x.2.2.2.2.2.2)]) ?_ ?_
    · walk_at "m go"
      rename DueOk _ _ _ _ _ => kD
      rename Fr _ _ _ _ => kF
      rename News _ _ _ _ => kN
      refine' cutX_end ((_, _, _, _), _, _, _, _, _, _) kF kD ?F kN
      case F => dsimp only; walk_at "m jfr"
    clear F N
    rintro ⟨v, D, d1, d2, d3, d4, c⟩ hD m h tk N
    dsimp only [JElim] at hD N ⊢
    intro t1 t2 t3 t4 t5 t6 F
    have hD' := due_t (lBase_4 f) (lRnd_is f) (lPrec_b f).1 hD
    clear hD
    refine cutX (α := Str × (Int × Int × Int × Int) × Addr × Tok × Tok × Tok × Tok × Nat) (g := s₁.heap) (L := s₁.heap.objs.size) (fun x => Due (lPrec f) (lRnd f) x.1 x.2.1)
      (fun x => [(Str.ofString "first", fun t => .int f t), (Str.ofString "rich", fun t => .int r t), (Str.ofString "prec", fun t => .int (lPrec f) t), (Str.ofString "rnd", fun t => .str (lRnd f) t), (Str.ofString "text", fun t => .str x.1 t), (Str.ofString "due", fun _ => .ref x.2.2.1)])
      (fun x => [(x.2.2.1, T4 x.2.1.1 x.2.1.2.1 x.2.1.2.2.1 x.2.1.2.2.2 x.2.2.2.1 x.2.2.2.2.1 x.2.2.2.2.2.1 x.2.2.2.2.2.2.1 x.2.2.2.2.2.2.2)]) ?_ ?_
    · have hC364 : CutAt 364 True [(Str.ofString "first", fun t => .int f t), (Str.ofString "rich", fun t => .int r t), (Str.ofString "prec", fun t => .int (lPrec f) t), (Str.ofString "rnd", fun t => .str (lRnd f) t), (Str.ofString "p", fun t => .int (lP r) t), (Str.ofString "q", fun t => .int (lQ r) t)] := trivial
      walk_at "m go"
      all_goals (rename Fr _ _ _ _ => kF; rename News _ _ _ _ => kN)
      · refine' cutX_end (_, (_, _, _, _), _, _, _, _, _, _) kF ?P1 ?F1 ?N1
        case F1 => dsimp only; walk_at "m jfr"
        case P1 => exact due_w (j := 0) (by decide)
        case N1 => exact fun p hp => kN p (by rw [List.mem_singleton.mp hp]; k_mem)
      · refine' cutX_end (_, (_, _, _, _), _, _, _, _, _, _) kF ?P1 ?F1 ?N1
        case F1 => dsimp only; walk_at "m jfr"
        case P1 => exact due_w (j := 1) (by decide)
        case N1 => exact fun p hp => kN p (by rw [List.mem_singleton.mp hp]; k_mem)
      · refine' cutX_end (_, (_, _, _, _), _, _, _, _, _, _) kF ?P1 ?F1 ?N1
        case F1 => dsimp only; walk_at "m jfr"
        case P1 => exact due_w (j := 2) (by decide)
        case N1 => exact fun p hp => kN p (by rw [List.mem_singleton.mp hp]; k_mem)
      · refine' cutX_end (_, (_, _, _, _), _, _, _, _, _, _) kF ?P1 ?F1 ?N1
        case F1 => dsimp only; walk_at "m jfr"
        case P1 => exact due_w (j := 3) (by decide)
        case N1 => exact fun p hp => kN p (by rw [List.mem_singleton.mp hp]; k_mem)
      · refine' cutX_end (_, (_, _, _, _), _, _, _, _, _, _) kF ?P1 ?F1 ?N1
        case F1 => dsimp only; walk_at "m jfr"
        case P1 => exact due_w (j := 4) (by decide)
        case N1 => exact fun p hp => kN p (by rw [List.mem_singleton.mp hp]; k_mem)
      · rename DueOk _ _ _ _ _ => kD
        refine' cutX_end (_, (_, _, _, _), _, _, _, _, _, _) kF (due_q (lRnd_is f) (lPrec_b f).1 kD) ?F1 ?N1
        case F1 => dsimp only; walk_at "m jfr"
        case N1 => exact fun p hp => kN p (by rw [List.mem_singleton.mp hp]; k_mem)
      · refine' cutX_end (tText (lBase f) r, v, D, d1, d2, d3, d4, c) kF hD' ?F1 kN
        case F1 => dsimp only; walk_at "m jfr"
    clear F N hD'
    rintro ⟨tx, v, D, d1, d2, d3, d4, c⟩ hD m h tk N
    dsimp only [JElim] at hD N ⊢
    intro t1 t2 t3 t4 t5 t6 F
    have hk := hD.ok ((f.fdiv 18900).fmod 5).toNat (by have := fmod_lt' (a := f.fdiv 18900) (b := 5) (by decide); omega)
    refine cutC (g := s₁.heap) (L := s₁.heap.objs.size) (news := [(D, T4 v.1 v.2.1 v.2.2.1 v.2.2.2 d1 d2 d3 d4 c)]) [(Str.ofString "rich", fun t => .int r t), (Str.ofString "prec", fun t => .int (lPrec f) t), (Str.ofString "rnd", fun t => .str (lRnd f) t), (Str.ofString "shown", fun t => .str (lShown tx ((f.fdiv 18900).fmod 5).toNat) t), (Str.ofString "due", fun _ => .ref D)] F N ?_ ?_
    · walk_at "m go"
    clear F N
    intro m h tk N
    dsimp only [JElim]
    intro t1 t2 t3 t4 t5 F
    refine cutC (g := s₁.heap) (L := s₁.heap.objs.size) (news := []) [(Str.ofString "rich", fun t => .int r t), (Str.ofString "prec", fun t => .int (lPrec f) t), (Str.ofString "rnd", fun t => .str (lRnd f) t)] F (fun p hp => nomatch hp) ?_ ?_
    · walk_at "m go"
    clear F N
    intro m h tk N
    dsimp only [JElim]
    intro t1 t2 t3 F
    refine wpC_execs_consA ?_
    walk_at "m go"
    exact fun h' tk' hk => ⟨rfl, h', tk', hk, rfl⟩
  · refine ⟨.inl ⟨.bool true, .bool true, [], rfl, fun cls => rfl, .bool _, ?_, fun _ => ⟨List.nodup_nil, fun a h => by cases h⟩⟩, fun b o h => h, rfl, hg⟩
    first | exact postW_of (by wrow_shape) (by wtm_val) (by str_meet; first | done | w_fin) | decide +kernel | simp [OpenRow.toRowW]
end Mine
theorem PySem.Challenge.cw_ah5009_01_holds : PySem.Challenge.rw_ah5009_01.Holds := by
  exact Mine.fin
