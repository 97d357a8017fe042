import PyProof.Rows.All
import Wide.All
import OpenK.AllK
import Wide.FinOn
import PySem.Challenge.RW_ep5001_01
set_option Elab.async false
section
open PySem PySem.W PyProof.Rows PySem.Calls
set_option maxRecDepth 100000
set_option maxHeartbeats 8000000
set_option linter.unusedVariables false
namespace Mine
/-- the claim's caller stands among the codes -/
def HasC (l : List Code) : Prop := l.any Code.isCaller = true
theorem HasC.cons {c : Code} {l : List Code} (h : HasC l) : HasC (c :: l) := by
  unfold HasC at h ⊢
  rw [List.any_cons, h, Bool.or_true]
/-- wpAny, of the contexts alone under which the claim's caller stands -/
def wpC {α : Type} (M : Model) (A : Around) (t : Sem α) (Q : α → Shared → Prop) (E : Value → Shared → Prop) (s : Shared) : Prop :=
  ∀ Γ p, Ctx.In Γ A → HasC (Γ.code :: Γ.below.map (·.1)) → Sem.wp M Γ t (fun a _ s' => Q a s') (fun e _ s' => E e s') p s
def codeC (M : Model) (A : Around) (c : Code) (R : Result → Shared → Prop) (s : Shared) : Prop :=
  ∀ Γ p, Γ.code = c → Ctx.Below Γ A → HasC (Γ.below.map (·.1)) → wpCode M Γ R p s
section
variable {α β : Type} {M : Model} {A : Around} {E : Value → Shared → Prop} {s : Shared}
theorem wpC_of {t : Sem α} {Q : α → Shared → Prop} (h : wpAny M A t Q E s) : wpC M A t Q E s := fun Γ p hΓ _ => h Γ p hΓ
theorem wpC_mono {t : Sem α} {Q Q' : α → Shared → Prop} {E' : Value → Shared → Prop} (h : wpC M A t Q E s) (hQ : ∀ a s, Q a s → Q' a s) (hE : ∀ e s, E e s → E' e s) : wpC M A t Q' E' s :=
  fun Γ p hΓ hC => Sem.wp_mono M Γ t (fun a _ s => hQ a s) (fun e _ s => hE e s) p s (h Γ p hΓ hC)
theorem wpC_bind {m : Sem α} {f : α → Sem β} {Q : β → Shared → Prop} (h : wpC M A m (fun a s' => wpC M A (f a) Q E s') E s) : wpC M A (m >>= f) Q E s := fun Γ p hΓ hC => by
  rw [Sem.wp_bind']
  exact Sem.wp_mono M Γ m (fun a p' s' h' => h' Γ p' hΓ hC) (fun _ _ _ h' => h') p s (h Γ p hΓ hC)
theorem wpC_after {m : Sem α} {f : α → Sem β} {Q : β → Shared → Prop} (h : wpAny M A m (fun a s' => wpC M A (f a) Q E s') E s) : wpC M A (m >>= f) Q E s := wpC_bind (wpC_of h)
/-- a tree that raises on every way, and whatever stands behind it -/
theorem wpC_raises {m : Sem α} {f : α → Sem β} {Q : β → Shared → Prop} (h : wpC M A m (fun _ _ => False) E s) : wpC M A (m >>= f) Q E s := wpC_bind (wpC_mono h (fun _ _ x => x.elim) fun _ _ x => x)
theorem wpC_holding {vs : List Value} {m : Sem α} {Q : α → Shared → Prop} (h : wpC M A m Q E s) : wpC M A (holding vs m) Q E s := fun Γ p hΓ hC => by rw [Sem.wp_holding]; exact h Γ p hΓ hC
theorem wpC_keep {vs : List Value} {m : Sem α} {Q : α → Shared → Prop} (h : wpC M A m Q E s) : wpC M A (m.keep vs) Q E s := fun Γ p hΓ hC => by rw [Sem.wp_keep]; exact h Γ p hΓ hC
theorem wpC_attempt {m : Sem α} {Q : Except Value α → Shared → Prop} (h : wpC M A m (fun a => Q (.ok a)) (fun e => Q (.error e)) s) : wpC M A m.attempt Q E s := fun Γ p hΓ hC => by
  rw [Sem.wp_attempt]; exact h Γ p hΓ hC
theorem wpC_onRaise {m : Sem α} {k : Value → Sem Unit} {Q : α → Shared → Prop} (h : wpC M A m Q (fun e s' => wpAny M A (k e) (fun _ s'' => E e s'') E s') s) : wpC M A (m.onRaise k) Q E s := fun Γ p hΓ hC => by
  rw [Sem.wp_onRaise]
  exact Sem.wp_mono M Γ m (fun _ _ _ h' => h') (fun e p' s' h' => h' Γ p' hΓ) p s (h Γ p hΓ hC)
theorem wpC_call {f : Value} {pos : List Value} {kw : List (PySem.Str × Value)} {Q : Value → Shared → Prop}
    (hc : codeC M A (.call f ⟨pos, kw⟩) (fun r s' => match r with | .ok (.ret v) => Q v s' | .ok _ => False | .error e => E e s') s) : wpC M A (call f pos kw) Q E s :=
  fun Γ p hΓ hC => by
    show Sem.wp M Γ (runValue (.call f ⟨pos, kw⟩)) _ _ p s
    rw [Sem.wp_runValue]
    exact hc _ p rfl (hΓ.enter _ none p (by intro x; cases x)) hC
theorem codeC_of_tree {c : Code} {R : Result → Shared → Prop}
    (h : wpC M (A.under c) (M.den c) (fun fin s' => match fin with | .done f => R (.ok f) s' | .again c' => c'.quiet = true ∧ codeC M A c' R s') (fun e s' => R (.error e) s') s) : codeC M A c R s := fun Γ p hc hΓ hC => by
  rw [wpCode_iff_wp, hc]
  refine Sem.wp_mono M Γ _ (fun fin p' s' h' => ?_) (fun _ _ _ h' => h') p s (h Γ p (hc ▸ hΓ.in) hC.cons)
  cases fin with
  | done f => exact h'
  | again c' => exact ⟨h'.1, h'.2 (Γ.goto c') p' rfl (hΓ.goto c') hC⟩
theorem codeC_mono {c : Code} {R R' : Result → Shared → Prop} (h : codeC M A c R s) (hR : ∀ r s', R r s' → R' r s') : codeC M A c R' s := fun Γ p hc hΓ hC => wpCode_mono hR (h Γ p hc hΓ hC)
theorem wpC_stack {Q : List (Code × Pos) → Shared → Prop} (h : ∀ st : List (Code × Pos), HasC (st.map (·.1)) → Q st s) : wpC M A stack Q E s := fun Γ p hΓ hC => by
  show Q ((Γ.code, p) :: Γ.below) s
  exact h _ (by simpa using hC)
theorem wpC_execs_cons {st : Stmt} {rest : List Stmt} {env : Env} {Q : Flow → Shared → Prop} (h : wpC M A (exec st env) (fun f s' => match f with | .next => wpC M A (execs rest env) Q E s' | f => Q f s') E s) :
    wpC M A (execs (st :: rest) env) Q E s := fun Γ p hΓ hC => by
  rw [execs_cons, Sem.wp_bind']
  refine Sem.wp_mono M Γ _ (fun f p' s' h' => ?_) (fun _ _ _ h' => h') _ _ (h Γ p hΓ hC)
  cases f <;> first | exact h' Γ p' hΓ hC | exact h'
theorem execs_append (rest : List Stmt) (env : Env) : ∀ pre : List Stmt, execs (pre ++ rest) env = (do match ← execs pre env with | .next => execs rest env | f => pure f)
  | [] => by rw [execs_nil, List.nil_append, pure_bind]
  | st :: pre => by
    rw [List.cons_append, execs_cons, execs_cons, bind_assoc]
    congr 1
    funext f
    cases f <;> first | (rw [pure_bind]) | exact execs_append rest env pre
theorem wpC_execs_append {pre rest : List Stmt} {env : Env} {Q : Flow → Shared → Prop} (h : wpAny M A (execs pre env) (fun f s' => match f with | .next => wpC M A (execs rest env) Q E s' | f => Q f s') E s) :
    wpC M A (execs (pre ++ rest) env) Q E s := by
  rw [execs_append]
  refine wpC_after (wpAny_mono h (fun f s' h' => ?_) fun _ _ x => x)
  cases f <;> first | exact h' | exact wpC_of (wpAny_pure h')
end
section
variable {prog : Program} {w : World} {A : Around} {s : Shared} {E : Value → Shared → Prop}
theorem codeC_func {R : Result → Shared → Prop} {body : List Stmt} {env : Env}
    (h : wpC (model prog w) (A.deeper env) (execs body env) (fun f s' => R (.ok (.ret (match f with | .ret v => v | _ => .none))) s')
      (fun e s' => wpAny (model prog w) (A.deeper env) (leaving env e) (fun _ s'' => R (.error e) s'') (fun e' s'' => R (.error e') s'') s') s) :
    codeC (model prog w) A (.func body env) R s := by
  refine codeC_of_tree ?_
  show wpC _ (A.deeper env) (do point; match ← (execs body env).onRaise (leaving env) with | .ret v => ret v | _ => ret .none) _ _ s
  refine wpC_after (wpAny_point (wpC_bind (wpC_onRaise (wpC_mono h (fun f s' h' => ?_) fun _ _ h' => h'))))
  cases f <;> exact wpC_of (wpAny_pure h')
theorem codeC_call_function {R : Result → Shared → Prop} {a : Addr} {args : Args} {o : Obj} {fd : FuncData} {body : List Stmt} (hroom : A.depth < recursionLimit)
    (ho : s.heap.get? a = some o) (hd' : o.data = .func fd) (hco : fd.scope.isCoroutine = false) (hgen : fd.scope.isGenerator = false) (hbody : fd.body = .stmts body) (hcd : s.heap.CodeRec fd.code fd.qualname)
    (h : wpAny (model prog w) A.in1 (bindArgs fd args) (fun binds s₁ =>
      wpAny (model prog w) A.in1 (newFunctionEnv fd.scope fd.globals fd.closure binds (fd.qualname ++ ".<locals>.") (some a) fd.code none fd.builtins)
        (fun env s₂ => s₂.heap.NoLimit ∧ codeC (model prog w) A (.func body env) R s₂) (fun e s' => R (.error e) s') s₁) (fun e s' => R (.error e) s') s) :
    codeC (model prog w) A (.call (.ref a) args) R s := by
  refine codeC_of_tree ?_
  show wpC _ A.in1 (callAny (.ref a) args) _ _ s
  simp only [callAny]
  refine wpC_after (wpAny_load ho ?_)
  obtain ⟨c, oc, vs, tq, hc, hoc, hdc, hq⟩ := hcd
  simp only [hd', callFunction, hco, hgen, hbody, hc]
  rw [hc] at h
  refine wpC_after (m := field (.ref c) 1) (wpAny_field hoc hdc hq (wpC_after (wpAny_pure ?_)))
  exact wpC_after (wpAny_mono h (fun binds s₁ h₁ => wpC_after (wpAny_mono h₁ (fun env s₂ h₂ => wpC_after (wpAny_enterFrame h₂.1 hroom
    (wpC_of (wpAny_pure (And.intro rfl h₂.2))))) fun _ _ h' => h')) fun _ _ h' => h')
theorem wpC_Try {env : Env} {body orelse : List Stmt} {h₀ : ExceptHandler} {hs : List ExceptHandler} {pos : Pos} {Q : Flow → Shared → Prop}
    (h : wpC (model prog w) A (execs body env) (fun f s₁ => match f with | .next => wpAny (model prog w) A (execs orelse env) Q E s₁ | f => Q f s₁)
      (fun e s₁ => wpAny (model prog w) A (noteFrame e env) (fun _ s₂ => wpAny (model prog w) A (setFlight e none) (fun _ s₃ => wpAny (model prog w) A (handleBy e env (h₀ :: hs)) Q E s₃) E s₂) E s₁) s) :
    wpC (model prog w) A (exec (.Try body (h₀ :: hs) orelse [] pos) env) Q E s := by
  rw [arm_exec_Try]
  refine wpC_after (wpAny_standAt ?_)
  unfold tryStmt
  simp only [List.isEmpty_nil, if_true, List.isEmpty_cons, Bool.false_and, Bool.false_eq_true, if_false]
  refine wpC_bind (wpC_attempt (wpC_mono h (fun f s₁ h₁ => ?_) fun e s₁ h₁ => ?_))
  · cases f <;> first | exact wpC_of h₁ | exact wpC_of (wpAny_pure h₁)
  · exact wpC_of (wpAny_bind (wpAny_mono h₁ (fun _ _ h₂ => wpAny_bind h₂) fun _ _ x => x))
theorem wpC_Expr_raises {env : Env} {e : Expr} {pos : Pos} {Q : Flow → Shared → Prop} (h : wpC (model prog w) A (eval e env) (fun _ _ => False) E s)
    (hi : interactive env = false := by rfl) (hs : swapsWith e none pos.line env = pure false := by rfl) : wpC (model prog w) A (exec (.Expr e pos) env) Q E s := by
  rw [exec_Expr env e pos hi hs]
  exact wpC_after (wpAny_standAt (wpC_raises h))
theorem wpC_Return_raises {env : Env} {e : Expr} {pos : Pos} {Q : Flow → Shared → Prop} (h : wpC (model prog w) A (eval e env) (fun _ _ => False) E s) : wpC (model prog w) A (exec (.Return (some e) pos) env) Q E s := by
  rw [exec_Return_some]
  exact wpC_after (wpAny_standAt (wpC_raises h))
theorem wpC_methodCall {env : Env} {o : Expr} {name : PySem.Str} {apos pos : Pos} {args : List Expr} {kws : List Keyword} {pl : Sem Bool} {Q : Value → Shared → Prop}
    (h : wpAny (model prog w) A (eval o env) (fun ov s₁ => wpAny (model prog w) A (getMethod ov name pl) (fun fx s₂ => wpC (model prog w) A (callWith pos fx.1 fx.2 (backTo pos (starEach args env)) (backToKw pos (keywordEach kws env))) Q E s₂) E s₁) E s)
    (he : eval (.Call (.Attribute o name apos) args kws pos) env = (do
      let ov ← eval o env
      standAt apos.atName
      let (f, first) ← holding [ov] (getMethod ov name pl)
      callWith pos f first (backTo pos (starEach args env)) (backToKw pos (keywordEach kws env))) := by rfl) :
    wpC (model prog w) A (eval (.Call (.Attribute o name apos) args kws pos) env) Q E s := by
  rw [he]
  exact wpC_after (wpAny_mono h (fun ov s₁ h₁ => wpC_after (wpAny_standAt (wpC_after (wpAny_holding h₁)))) fun _ _ x => x)
theorem wpC_callWith {pos : Pos} {f : Value} {first : List Value} {P : Heap → Prop} {args : List (Bool × Sem Value)} {keywords : List (Option PySem.Str × Sem Value)} {Q : Value → Shared → Prop} (hplain : (args.any (·.1) || keywords.any (·.1.isNone)) = false)
    (hk : ∀ h, P h → ∃ k, (k = Keeper.frame ∨ k = Keeper.machine ∨ k = Keeper.boundFrame) ∧ Looks (model prog w) h (keeperOf f) k)
    (h : wpAny (model prog w) A (evalArgs f true args keywords) (fun a s₁ => P s₁.heap ∧ wpC (model prog w) A (call f (first ++ a.pos) a.kw) (fun _ _ => False) E s₁) E s) : wpC (model prog w) A (callWith pos f first args keywords) Q E s := by
  unfold callWith
  refine wpC_after (wpAny_holding (wpAny_mono h (fun a s₁ h₁ => wpC_after (wpAny_standAt ?_)) fun _ _ x => x))
  obtain ⟨k, hk', L⟩ := hk _ h₁.1
  simp only [hplain]
  refine wpC_after (L.here ?_)
  have marked (mk : Value) : wpC (model prog w) A (callMarked mk f (first ++ a.pos) a.kw) (fun _ _ => False) E s₁ := by unfold callMarked; exact wpC_keep h₁.2
  rcases hk' with rfl | rfl | rfl <;> dsimp only <;> first | exact wpC_raises h₁.2 | (split <;> first | exact wpC_raises h₁.2 | exact wpC_raises (marked _))
theorem wpC_callWith_K {K : Frag} {env : Env} {pos : Pos} {f : Value} {first : List Value} {h₀ : Heap} {e : Expr} {rest : List Expr} {Q : Value → Shared → Prop} (uX : K.In h₀) (hk : keepIn K f = true)
    (h : wpAny (model prog w) A (spliced (backTo pos (starEach (e :: rest) env))) (fun vs s₁ => K.In s₁.heap ∧ wpC (model prog w) A (call f (first ++ vs)) (fun _ _ => False) E s₁) E s)
    (he : starEach (e :: rest) env = (false, eval e env) :: starEach rest env := by rfl) (hplain : (backTo pos (starEach rest env)).any (·.1) = false := by rfl) :
    wpC (model prog w) A (callWith pos f first (backTo pos (starEach (e :: rest) env)) []) Q E s := by
  rw [he] at h ⊢
  exact wpC_callWith (by show ((false || (backTo pos (starEach rest env)).any (·.1)) || false) = false; rw [hplain]; rfl) (keeps_K hk) (evalArgs_plain h)
theorem wpC_callWith_type {T : String} {pos : Pos} {first : List Value} {args : List (Bool × Sem Value)} {Q : Value → Shared → Prop} (hplain : args.any (·.1) = false)
    (h : wpAny (model prog w) A (evalArgs (.type T) true args []) (fun a s₁ => wpC (model prog w) A (call (.type T) (first ++ a.pos) a.kw) (fun _ _ => False) E s₁) E s) : wpC (model prog w) A (callWith pos (.type T) first args []) Q E s := by
  unfold callWith
  refine wpC_after (wpAny_holding (wpAny_mono h (fun a s₁ h₁ => wpC_after (wpAny_standAt ?_)) fun _ _ x => x))
  simp only [hplain, List.any_nil, Bool.or_false]
  refine wpC_after (wpAny_pure ?_)
  exact wpC_raises h₁
theorem wpC_Call_Name {env : Env} {id : PySem.Str} {p pos : Pos} {args : List Expr} {keywords : List Keyword} {Q : Value → Shared → Prop}
    (h : wpAny (model prog w) A (eval (.Name id p) env) (fun f s₁ => wpC (model prog w) A (callWith pos f [] (backTo pos (starEach args env)) (backToKw pos (keywordEach keywords env))) Q E s₁) E s) :
    wpC (model prog w) A (eval (.Call (.Name id p) args keywords pos) env) Q E s := by
  rw [arm_eval_Call_Name']
  exact wpC_after h
end
end Mine
end
section
open PySem PySem.W PyProof.Rows PySem.Calls PySem.Spec
set_option maxRecDepth 100000
set_option maxHeartbeats 8000000
set_option linter.unusedVariables false
namespace Mine
section
variable {prog : Program} {w : World} {A A₀ : Around} {s : Shared} {E : Value → Shared → Prop}
/-- the law's own frame, cells and all, under the caller -/
theorem call_cellsC {R : Result → Shared → Prop} {name : PySem.Str} {params : Arguments} {body : List Stmt} {scope : Scope} {pm cd doc : Value} {a : Addr} {o : Obj} {args : List Value} {binds : List (PySem.Str × Value)}
    (hroom : A.depth < recursionLimit) (ho : s.heap.get? a = some o) (hdata : o.data = .func (Calls.docDef name params body scope pm cd doc)) (hlim : s.heap.NoLimit) (hcd : s.heap.CodeRec cd name)
    (hbind : bindArgs (Calls.docDef name params body scope pm cd doc) ⟨args, []⟩ = pure binds)
    (hkind : ∀ x ∈ binds, scope.names.lookup x.1 = some .local ∨ (scope.names.lookup x.1 = some .cell ∧ ((cellsFrom (s.heap.objs.size + 1) scope.names []).lookup x.1).isSome = true))
    (hnd : ((cellsFrom 0 scope.names []).map (·.1)).Nodup)
    (h : ∀ h₁ tk cells, Fr s.heap s.heap.objs.size h₁ (bindL (envOfC name scope s.heap.objs.size a cd).kindOf binds fun _ => none) → News s.heap s.heap.objs.size h₁ cells →
      CellsAre (bindC (envOfC name scope s.heap.objs.size a cd).kindOf binds fun _ => none) (cellsFrom (s.heap.objs.size + 1) scope.names []) cells →
      wpC (model prog w) (A.deeper (envOfC name scope s.heap.objs.size a cd)) (execs body (envOfC name scope s.heap.objs.size a cd))
        (fun f s' => R (.ok (.ret (match f with | .ret v => v | _ => .none))) s')
        (fun e s' => wpAny (model prog w) (A.deeper (envOfC name scope s.heap.objs.size a cd)) (leaving (envOfC name scope s.heap.objs.size a cd) e) (fun _ s'' => R (.error e) s'') (fun e' s'' => R (.error e') s'') s')
        { s with heap := h₁, toks := tk })
    (hco : scope.isCoroutine = false := by rfl) (hgen : scope.isGenerator = false := by rfl) (hk : scope.kind = .function := by rfl) : codeC (model prog w) A (.call (.ref a) ⟨args, []⟩) R s := by
  refine codeC_call_function hroom ho hdata hco hgen rfl hcd ?_
  rw [hbind]
  refine wpAny_pure (wpAny_newFunctionEnv_cells hk hkind fun env' he s' x => ?_)
  subst he
  refine ⟨hlim.keeps x.toInCall.keep, codeC_func ?_⟩
  obtain ⟨h₁, tk, rfl, _⟩ := x.done
  obtain ⟨cells, NC, Y⟩ := Cl.news (h₀ := s.heap) (Nat.le_refl _) fun n c hm => ⟨x.cell n c (lookup_of_mem_nodup (cellsFrom_names scope.names 0 (s.heap.objs.size + 1) [] [] rfl ▸ hnd) hm), x.above n c hm⟩
  exact h h₁ tk cells ⟨x.toInCall.ns, x.toInCall.keep, Nat.le_refl _⟩ NC Y
/-- a def that raises on every way -/
theorem codeC_def_raises {K : Frag} {p : Program} {loose : List PySem.Str} {mean : ExcName → Option Value} {mg mb : PySem.Str → Option Value} {base h₀ : Heap} {outer : List Env} {L : Addr} {m : PySem.Str → Option Value} {news : List (Addr × Obj)} {env : Env} {R : Result → Shared → Prop}
    {name qual : PySem.Str} {params : Arguments} {body : List Stmt} {scope : Scope} {dV kV doc pm cdv ct oc : Value} {an od : Option Addr} {osl : Array (Option Value)} {f : Addr} {args : Args} {binds : List (PySem.Str × Value)}
    (B : Below A₀ base outer h₀) (F : Fr h₀ L s.heap m) (X₀ : K.In h₀) (N : News h₀ L s.heap news) (T : Top p loose mean mg mb h₀) (hA : A.frames = some (env :: outer)) (hf : env.frame = some L) (hke : env.scope.kind = .function)
    (ho : K.lookup f = some ⟨oc, od, .func (fnOf name qual params body scope dV kV doc pm an cdv ct), osl⟩) (hcd : codeIn K cdv qual = true) (hroom : A.depth < recursionLimit)
    (hbind : BindsTo s (fnOf name qual params body scope dV kV doc pm an cdv ct) args binds) (hloc : ∀ y ∈ binds, scope.names.lookup y.1 = some .local)
    (h : ∀ g L' h₁, Fr h₀ L g m → Fr g L' h₁ (fun y => binds.reverse.lookup y) → News g L' h₁ news → Below A base (env :: outer) g → K.In g → Top p loose mean mg mb g → h₀.StaysIn g →
      wpC (model prog w) (A.deeper (envOf qual scope L' f cdv)) (execs body (envOf qual scope L' f cdv)) (fun _ _ => False)
        (fun e s' => wpAny (model prog w) (A.deeper (envOf qual scope L' f cdv)) (leaving (envOf qual scope L' f cdv) e) (fun _ s'' => R (.error e) s'') (fun e' s'' => R (.error e') s'') s')
        { s with heap := h₁, toks := s.toks + binds.length })
    (hco : scope.isCoroutine = false) (hgen : scope.isGenerator = false) (hk : scope.kind = .function) (hcell : ∀ x ∈ scope.names, x.2 ≠ .cell) : codeC (model prog w) A (.call (.ref f) args) R s := by
  obtain ⟨FG, BG, st, lv⟩ := groundX (R := R) B F N hA hf hke
  refine codeC_call_function hroom ((X₀.keeps F.keep) _ _ ho) rfl hco hgen rfl (codeRec_of (X₀.keeps F.keep) hcd) (hbind _ _ _ _ ?_)
  refine wpAny_newFunctionEnv hcell hloc (fun h₁ hns hsb => ?_) hk
  have hk₁ : ∀ b o, s.heap.get? b = some o → h₁.get? b = some o := fun b o e => hsb.extBut b o (Nat.ne_of_lt (Heap.lt_size e)) (Heap.get?_push_of_some _ e)
  refine ⟨(T.nolimit.keeps F.keep).keeps hk₁, codeC_func ?_⟩
  exact wpC_mono (h _ s.heap.objs.size h₁ FG ⟨hns, fun b o e => hk₁ b o (of_hideAll _ e), Nat.le_of_eq (hideAll_size _ _)⟩
    (fun p hp => ⟨hk₁ _ _ (N p hp).1, Nat.ne_of_lt (Heap.lt_size (N p hp).1), hideAll_none _ (List.mem_map_of_mem hp)⟩) BG (X₀.keeps st) (T.keeps st) st) (fun _ _ x => x.elim) fun _ _ y => y
end
/-- what is to be walked: the call of the law, of the contexts under the caller alone -/
abbrev WalkC (q : Program) (loose : List PySem.Str) (XP : (PySem.Str → Option Value) → Heap → Prop) (YP : World → Heap → Prop) (r : RowW) (d : DefRec) (kwd : List (PySem.Str × Expr)) : Prop :=
  ∀ (w : World) (s₀ s₁ : Shared) (mg mb : PySem.Str → Option Value), Ground q loose r.records XP w s₀ mg mb s₁.heap → YP w s₁.heap → ∀ (a : Addr) (o : Obj) (pm cd doc dV kV : Value), s₁.heap.get? a = some o →
    o.data = .func { docDef d.name d.params d.body d.scope pm cd doc with defaults := dV, kwdefaults := kV } → s₁.heap.CodeRec cd d.name → Dflts mg s₁.heap d.params kwd dV kV → mg d.name = some (.ref a) → s₁.gens = #[] →
    ∀ (args : List WData) (vals : List Value) (as : List Addr), r.claim.pre args = true → WData.layableAll args = true → ReadsAllW r.records (classAt s₀.heap) s₁.heap vals args as → WellAll w.params s₁.heap vals args → (∀ a ∈ as, (a == sysModules) = false) →
      codeC (model r.prog w) callerA (.call (.ref a) ⟨vals, []⟩) (GoodWG r.claim (classAt s₀.heap) (ExcName.means s₀.heap) args s₁) s₁
namespace PySem.W
theorem holds_open {r : OpenRow} {q : Program} {loose : List PySem.Str} {Xt : Shared → Bool} {XP : (PySem.Str → Option Value) → Heap → Prop} {α : Type} {Yf : Shared → α} {Ya : World → α} {YP : World → Heap → Prop} {d : DefRec} {kwd : List (PySem.Str × Expr)} {N : Nat}
    (left : LeftO r.prog q loose Xt Yf Ya N) (hY : ∀ w s, Yf s = Ya w → YP w s.heap) (hYk : ∀ w h h', YP w h → (∀ b o, h.get? b = some o → h'.get? b = some o) → YP w h')
    (hX : ∀ s, Xt s = true → XP (s.heap.nsMap mainGlobals) s.heap) (hXk : ∀ mg h h', XP mg h → (∀ b o, h.get? b = some o → h'.get? b = some o) → XP mg h')
    (hdef : defOf q r.name = some (d, kwd)) (hp : r.prog.theDef r.name = some (d.params, d.body, d.scope)) (hk : kwWritten? d.params.kwonlyargs d.params.kw_defaults = some kwd) (hRf : ∀ s, Xt s = true → RecFacts r.records s.heap) (hwr : (!r.writes || r.records.isEmpty) = true)
    (k1 : r.wellSaid = true) (ok : (chainsOk q && opensWell r.prog && (frees r.toRowW && r.within.isEmpty)) = true) (hb : r.prog.bare) (hw : r.toRowW.promised)
    (call : WalkC q loose XP YP r.toRowW d kwd) : r.Holds := by
  obtain ⟨ok, k5⟩ := Bool.and_eq_true_iff.mp ok
  obtain ⟨hch, o1⟩ := Bool.and_eq_true_iff.mp ok
  obtain ⟨k5, k6⟩ := Bool.and_eq_true_iff.mp k5
  obtain ⟨hsame, hu, ha, hap, hm⟩ := frees_parts k5
  have hi := ident_freeW hu ha hap
  have hwi : r.toRowW.claim.within = [] := List.isEmpty_iff.mp k6
  refine ⟨k1, hw, ⟨hb, o1, by show r.toRowW.makers.map _ = []; rw [hm]; rfl⟩, hw.witness, fun w => ⟨(left.behind hX hch w).1, fun s' hs' => ?_⟩⟩
  obtain ⟨s₀, hf, hg0, s, hT, hz, hgens, hg, G00, y⟩ := (left.behind (XP := fun mg h => XP mg h ∧ RecFacts r.records h) (fun s hs => ⟨hX s hs, hRf s hs⟩) hch w).2 s' hs'
  have G0 : Ground q loose [] XP w s (s.heap.nsMap mainGlobals) (s.heap.nsMap builtinsNs) s.heap := ⟨G00.T, G00.B, G00.D, G00.TE, G00.TD, G00.W, G00.X.1, G00.cls, G00.has, G00.apart, G00.once, G00.K⟩
  have RF := G00.X.2
  refine ⟨s₀, hf, hg0, s, hT, fun n hn => ?_, RF.1, RF.2.1, ?_⟩
  · obtain rfl : n = r.name := by split at hn <;> simp_all
    exact pinned_of_view hg G0 hdef hp hk
  have hgens : s.gens = #[] := Array.eq_empty_of_size_eq_zero (beq_iff_eq.mp hgens)
  have G : Ground q loose r.records XP w s _ _ s.heap := RF.ground G0
  intro args hpre hlay ord hord
  obtain ⟨⟨vs, s₁⟩, hlaid⟩ := Option.isSome_iff_exists.mp (layAllW_isSome (P := w.params) (ord := ord) G.has args r.toRowW.args s (pre_splitW hpre).1)
  have keeps := layAllW_keeps _ _ _ hlaid
  have hal := layAllW_rest _ _ _ hlaid
  obtain ⟨as, hrd, hin, hold⟩ := reads_layAllW hord _ _ _ hlaid hlay s₁.heap (fun _ _ e => e)
  have LD : Laid r.records w s s₁ args vs as := ⟨⟨ord, hord, hlaid⟩, hrd, hin, hold, keeps, hal.1.trans hgens, hal.2.2.1⟩
  have G₁ := G.keeps hXk keeps
  obtain ⟨a, o, pm, cd, doc, dV, kV, e1, e2, e3, e4, e5⟩ := G₁.fn hdef
  have hc := call w s s₁ _ _ G₁ (hYk _ _ _ (hY w s y) keeps) a o pm cd doc dV kV e2 e3 e4 e5 (defOf_name hdef ▸ e1) LD.gens args vs as hpre hlay LD.reads LD.well (LD.low G.low)
  have hwp : Sem.wp (model r.prog w) ⟨.builtin "claim.caller" {}, none, none, [], none⟩ (do match ← nsGet mainNs r.name with
      | some f => do ret (← PySem.call f vs)
      | none => unsupported "claim.caller:no-such-global" : Sem PySem.Fin)
      (Sem.finPost (model r.prog w) ⟨.builtin "claim.caller" {}, none, none, [], none⟩ fun res s' => GoodWG r.toRowW.claim (classAt s.heap) (ExcName.means s.heap) args s₁ res s' ∧ leftWithCleanup s'.gens = false)
      (fun e _ s' => GoodWG r.toRowW.claim (classAt s.heap) (ExcName.means s.heap) args s₁ (.error e) s' ∧ leftWithCleanup s'.gens = false) default s₁ := by
    have hC : wpC (model r.prog w) callerA (do match ← nsGet mainNs r.name with
        | some f => do ret (← PySem.call f vs)
        | none => unsupported "claim.caller:no-such-global" : Sem PySem.Fin)
        (fun fin s' => ∃ f, fin = .done f ∧ (GoodWG r.toRowW.claim (classAt s.heap) (ExcName.means s.heap) args s₁ (.ok f) s' ∧ leftWithCleanup s'.gens = false))
        (fun e s' => GoodWG r.toRowW.claim (classAt s.heap) (ExcName.means s.heap) args s₁ (.error e) s' ∧ leftWithCleanup s'.gens = false) s₁ := by
      refine wpC_after (wpAny_nsGet G₁.T.g ?_)
      rw [e1]
      refine wpC_bind (wpC_call (codeC_mono hc fun res s' g => ?_))
      have gb := leftWithCleanup_false_of_bare g.2.2.2
      rcases id g.1 with ⟨v, _, _, rfl, _⟩ | ⟨e, _, _, rfl, _⟩
      · exact wpC_of (wpAny_pure ⟨_, rfl, g, gb⟩)
      · exact ⟨g, gb⟩
    refine Sem.wp_mono _ _ _ (fun fin p' s' h' => ?_) (fun _ _ _ h' => h') _ _ (hC _ default caller_in rfl)
    obtain ⟨f, rfl, hf⟩ := h'
    exact hf
  obtain ⟨k, res, s₂, s₃, hsched, hrun, hfo, g⟩ := wp_halts_full (M := model r.prog w) (R := fun res s' => GoodWG r.toRowW.claim (classAt s.heap) (ExcName.means s.heap) args s₁ res s') (Shared.asleep_of_life hal.2.2.2 hz) hwp
  obtain ⟨eh, _, _, eo, _⟩ := Shared.forget_eq hfo
  obtain ⟨hcase, hos, _⟩ := g.laid (c := r.toRowW.claim) hsame hwi hi LD
  have hcase := hcase.congr eh
  have hlife : s₃.heap.life = s.heap.life := (runN_life _ _ _ hrun).trans hal.2.2.2
  rw [← eo] at hos
  refine ⟨vs, s₁, hlaid, k, _, s₃, hsched, ?_, (fun _ i x hx => by rw [hgens] at hx; simp at hx), fun q => ⟨namesKept_of hT hg r.keeps keeps (eh ▸ g.2.1.old), noTable hwr q⟩, by rw [hlife], Shared.rest_eq hos⟩
  rcases hcase with ⟨v, rfl, d1, d2, d3, d4, d5⟩ | ⟨e, ob, cls, rfl, d1, d2, d3, d4, d5⟩
  · exact .inl ⟨v, rfl, d1, d2, d3, fun b o y _ => d4 b o y, d5⟩
  · exact .inr ⟨e, ob, cls, rfl, d1, d2, d3, d4, fun b o y _ => d5 b o y⟩
end PySem.W
end Mine
end
section
open PySem PySem.W PyProof.Rows
set_option maxRecDepth 100000
set_option maxHeartbeats 8000000
namespace Mine
open_top hd for PySem.Challenge.rw_ep5001_01
end Mine
end
section
open PySem PySem.W PyProof.Rows
set_option maxRecDepth 100000
set_option maxHeartbeats 8000000
namespace Mine
abbrev Led := List (Addr × Obj)
noncomputable abbrev PR : Program := PySem.Challenge.rw_ep5001_01.row.toRowW.prog
noncomputable abbrev VW : Program := Mine.hd.view_39
noncomputable abbrev LS : List PySem.Str := looseW Mine.hd.view_39 [Str.ofString "Parameters"]
noncomputable abbrev KK (w : World) : Frag := Mine.hd.heap_39 w.params
abbrev Sig (w : World) (P : (ExcName → Option Value) → (PySem.Str → Option Value) → (PySem.Str → Option Value) → (dp un : Nat) → (gd : Option (List Code)) → (cn : PySem.Str) → (cs : Scope) → (a : Addr) → (ccd : Value) → (cl : List (PySem.Str × Addr)) → (outer : List Env) → (h₀ : Heap) → (L : Addr) → (m : PySem.Str → Option Value) → Prop) : Prop :=
  ∀ (mean : ExcName → Option Value) (mg mb : PySem.Str → Option Value) (dp un : Nat) (gd : Option (List Code)) (cn : PySem.Str) (cs : Scope) (a : Addr) (ccd : Value) (cl : List (PySem.Str × Addr)) (outer : List Env) (A₀ : Around) (base h₀ : Heap) (L : Addr) (m : PySem.Str → Option Value),
    Below A₀ base outer h₀ → Frag.In (Mine.hd.heap_39 w.params) h₀ → Top VW LS mean mg mb h₀ → cs.kind = .function → dp + 8 < recursionLimit → un + 64 < cLine → P mean mg mb dp un gd cn cs a ccd cl outer h₀ L m
abbrev Sig2 (w : World) (P : (ExcName → Option Value) → (PySem.Str → Option Value) → (PySem.Str → Option Value) → (dp un : Nat) → (gd : Option (List Code)) → (cn : PySem.Str) → (cs : Scope) → (a : Addr) → (ccd : Value) → (cl : List (PySem.Str × Addr)) → (outer : List Env) → (h₀ : Heap) → (L : Addr) → (m : PySem.Str → Option Value) → Prop) : Prop :=
  ∀ (mean : ExcName → Option Value) (mg mb : PySem.Str → Option Value) (dp un : Nat) (gd : Option (List Code)) (cn : PySem.Str) (cs : Scope) (a : Addr) (ccd : Value) (cl : List (PySem.Str × Addr)) (outer : List Env) (A₀ : Around) (base h₀ : Heap) (L : Addr) (m : PySem.Str → Option Value),
    Below A₀ base outer h₀ → Frag.In (Mine.hd.heap_39 w.params) h₀ → Top VW LS mean mg mb h₀ → cs.kind = .function → dp + 16 < recursionLimit → un + 128 < cLine → P mean mg mb dp un gd cn cs a ccd cl outer h₀ L m
def Stop (p : Prop) : Prop := p
theorem stop_ {p : Prop} (h : Stop p) : p := h
theorem Stop.out {p : Prop} (h : p) : Stop p := h
end Mine
end
section
open PySem PySem.W PyProof.Rows
set_option maxRecDepth 100000
set_option maxHeartbeats 8000000
set_option linter.unusedVariables false
namespace Mine
/-- what an object of Parameters holds -/
abbrev parE (w : World) (bits poly first : Int) (tin tout : Bool) (last size : Int) (k0 k1 k2 k3 k4 k5 k6 v0 v1 v2 v3 v4 : Tok) : List DictEntry :=
  [⟨PyData.keyHash w.params (Str.ofString "_crc_width"), .str (Str.ofString "_crc_width") k0, .int bits v0⟩,
   ⟨PyData.keyHash w.params (Str.ofString "_polynomial"), .str (Str.ofString "_polynomial") k1, .int poly v1⟩,
   ⟨PyData.keyHash w.params (Str.ofString "_initial_crc"), .str (Str.ofString "_initial_crc") k2, .int first v2⟩,
   ⟨PyData.keyHash w.params (Str.ofString "_reflect_input"), .str (Str.ofString "_reflect_input") k3, .bool tin⟩,
   ⟨PyData.keyHash w.params (Str.ofString "_reflect_output"), .str (Str.ofString "_reflect_output") k4, .bool tout⟩,
   ⟨PyData.keyHash w.params (Str.ofString "_xor_output"), .str (Str.ofString "_xor_output") k5, .int last v3⟩,
   ⟨PyData.keyHash w.params (Str.ofString "data_width"), .str (Str.ofString "data_width") k6, .int size v4⟩]
theorem kind_index : builtinKind "_operator.index" = none := by decide +kernel
theorem plain_index : plainId "_operator.index" = true := by decide +kernel
theorem entry_index : entryFor table "_operator.index" = some Builtin.«_operator.index» := entryFor_of_fast (by kernel_rfl)
theorem args_index (a : Value) : argsOk "_operator.index" ⟨[a], []⟩ := by unfold argsOk; kernel_rfl
section
variable {prog : Program} {w : World} {A : Around} {E : Value → Shared → Prop} {s : Shared}
theorem call_index_int {a : Int} {t : Tok} {Q : Value → Shared → Prop} (h : Q (.int a t) s) : wpAny (model prog w) A (call (.builtin "_operator.index") [.int a t]) Q E s := by
  refine Calls.call_function_entry kind_index plain_index entry_index (args_index _) ?_
  unfold Builtin.«_operator.index»
  refine wpAny_bind (wpAny_of_eq (a := .int a t) rfl ?_)
  exact wpAny_pure ⟨_, rfl, h⟩
theorem contains_range {r : Addr} {a b : Int} {t u v : Tok} {x : Int} {tx : Tok} {Q : Bool → Shared → Prop} (hr : IsRange s.heap r a b 1 t u v) (h : Q (decide (a ≤ x) && decide (x < b)) s) :
    wpAny (model prog w) A (contains (.ref r) (.int x tx)) Q E s := by
  have ht : s.TypeIs (.ref r) "range" := ⟨_, hr, rfl⟩
  unfold contains
  refine wpAny_holding ?_
  refine wpAny_bind (wpAny_specialOf ht F.slot_range_contains.lookup ?_)
  rw [if_neg (by decide)]
  refine wpAny_bind (wpAny_callSpecialUnlessNone?_slot (name := Str.ofString "__contains__") ht F.slot_range_contains
    (wpAny_call_entry F.slot_range_contains ht F.entry_range_contains ?_ (F.args_range_contains_2 _ _)))
  obtain ⟨hp, g, d, tk, os⟩ := s
  wp_walk using wpAny_loadPart' hr
  have e : (Builtin.Range.rangePlace? a b 1 x).isSome = (decide (a ≤ x) && decide (x < b)) := by
    unfold Builtin.Range.rangePlace?
    simp only [show ((1 : Int) > 0) = True from by simp, if_true, Int.emod_one, beq_self_eq_true, Bool.and_true]
    cases hb : (decide (a ≤ x) && decide (x < b)) <;> simp
  refine ⟨_, rfl, ?_⟩
  rw [e]
  exact wpAny_truthy_bool h
theorem in_range {r : Addr} {a b : Int} {t u v : Tok} {x : Int} {tx : Tok} {Q : Value → Shared → Prop} (hr : IsRange s.heap r a b 1 t u v) (h : Q (.bool (decide (a ≤ x) && decide (x < b))) s) :
    wpAny (model prog w) A (compareOp .In (.int x tx) (.ref r)) Q E s := by
  show wpAny _ _ (do return .bool (← contains (.ref r) (.int x tx))) Q E s
  exact wpAny_bind (contains_range hr (wpAny_pure h))
theorem notin_range {r : Addr} {a b : Int} {t u v : Tok} {x : Int} {tx : Tok} {Q : Value → Shared → Prop} (hr : IsRange s.heap r a b 1 t u v) (h : Q (.bool (!(decide (a ≤ x) && decide (x < b)))) s) :
    wpAny (model prog w) A (compareOp .NotIn (.int x tx) (.ref r)) Q E s := by
  show wpAny _ _ (do return .bool (!(← contains (.ref r) (.int x tx)))) Q E s
  exact wpAny_bind (contains_range hr (wpAny_pure h))
end
end Mine
end
section
open PySem PySem.W PyProof.Rows
set_option maxRecDepth 100000
set_option maxHeartbeats 8000000
set_option linter.unusedVariables false
namespace Mine
open Builtin Float
abbrev binF (k : Nat) : FormatSpec := ⟨48, 61, none, false, false, some k, none, none, some 98⟩
def specOf (n : Int) : PySem.Str := Str.empty ++ Str.ofString "0" ++ Str.ofString (toString n) ++ Str.ofString "b"
def specChk (n : Nat) : Bool :=
  let spec := specOf (n : Int)
  !(spec.length == 0) && !((spec.cps.toList.drop 1).any (· ≥ 128) || (spec.cps.getD 0 0 ≥ 128 && !([60, 62, 61, 94] : List Nat).contains (spec.cps.getD 1 0))) && decide (spec.length ≤ 10) &&
  match parseFormatSpec spec.cps.toList "int" 62 with
  | .ok f => f.fill == 48 && f.align == 61 && f.sign.isNone && !f.noNeg0 && !f.alt && f.width == some n && f.grouping.isNone && f.precision.isNone && f.type == some 98
  | .error _ => false
theorem specChk_all : (List.range 73).all (fun n => n == 0 || specChk n) = true := by decide +kernel
structure SpecBin (spec : PySem.Str) (k : Nat) : Prop where
  ne : (spec.length == 0) = false
  asc : ((spec.cps.toList.drop 1).any (· ≥ 128) || (spec.cps.getD 0 0 ≥ 128 && !([60, 62, 61, 94] : List Nat).contains (spec.cps.getD 1 0))) = false
  short : spec.length ≤ 10
  parse : parseFormatSpec spec.cps.toList "int" 62 = .ok (binF k)
theorem specBin {n : Int} (h1 : 1 ≤ n) (h2 : n ≤ 72) : SpecBin (specOf n) n.toNat := by
  have e : ((n.toNat : Nat) : Int) = n := Int.toNat_of_nonneg (by omega)
  have h := List.all_eq_true.mp specChk_all n.toNat (List.mem_range.mpr (by omega))
  have hz : (n.toNat == 0) = false := by simp; omega
  rw [hz, Bool.false_or] at h
  unfold specChk at h
  rw [e] at h
  simp only [Bool.and_eq_true, Bool.not_eq_true'] at h
  obtain ⟨⟨⟨a1, a2⟩, a3⟩, a4⟩ := h
  refine ⟨a1, a2, of_decide_eq_true a3, ?_⟩
  cases hp : parseFormatSpec (specOf n).cps.toList "int" 62 with
  | error m => rw [hp] at a4; cases a4
  | ok f =>
    rw [hp] at a4
    obtain ⟨f1, f2, f3, f4, f5, f6, f7, f8, f9⟩ := f
    simp only [Bool.and_eq_true, Bool.not_eq_true', beq_iff_eq, Option.isNone_iff_eq_none] at a4
    obtain ⟨⟨⟨⟨⟨⟨⟨⟨b1, b2⟩, b3⟩, b4⟩, b5⟩, b6⟩, b7⟩, b8⟩, b9⟩ := a4
    subst b1 b2 b3 b4 b5 b6 b7 b8 b9
    rfl
def binText (k : Nat) (a : Int) : PySem.Str := intField' (binF k) (decide (a < 0)) [] ((Nat.toDigits 2 a.natAbs).map Char.toNat) [] 4
section
variable {prog : Program} {w : World} {A : Around} {E : Value → Shared → Prop} {s : Shared}
theorem formatField_bin {a : Int} {t : Tok} {spec : PySem.Str} {k : Nat} {Q : Value → Shared → Prop} (hS : SpecBin spec k) (hk : k ≤ 100000) (hlen : (binText k a).length ≤ sizeLine)
    (h : ∀ tk k', Q (.str (binText k a) tk) { s with toks := k' }) : wpAny (model prog w) A (formatField (.int a t) spec) Q E s := by
  have hss : spec.length ≤ sizeLine := Nat.le_trans hS.short (by rw [sizeLine_eq]; decide)
  refine KXf.field_int (y := binText k a) (spec' := spec) rfl hS.ne hss ?_ h
  intro u
  apply KPc.meets_of
  intro prog w A E s Q hQ
  unfold Builtin.«int.__format__»
  simp only [selfAndOne, noKeywords, Int.intOfSelf, asInt?, asStr?, List.isEmpty_nil, if_true, pure_bind, bind_pure, bind_assoc, hS.ne, hS.asc, Bool.false_eq_true, if_false,
    show (Value.str spec u == Value.none) = false from rfl]
  refine wpAny_bind (wpAny_typeNameOf (T := "str") (typeIs_str _ _ _) (by decide) fun _ => ?_)
  refine wpAny_bind (wpAny_typeNameOfCut_int ?_)
  simp only [hS.parse, Option.getD_some]
  rw [if_pos (by decide)]
  show wpAny _ _ (if _ then _ else _) _ _ _
  have hw' : ¬ (k > 100000) := by omega
  rw [if_neg (by simpa using hw')]
  exact KXf.ret_text rfl hlen hQ
end
end Mine
end
section
open PySem PySem.W PyProof.Rows
set_option maxRecDepth 100000
set_option linter.unusedVariables false
namespace Mine
/-- the mirror: the first k places of a, the lowest first -/
noncomputable def mirN (a : Nat) : Nat → Nat
  | 0 => 0
  | k + 1 => mirN a k * 2 + a / 2 ^ k % 2
theorem mirN_top (a : Nat) : ∀ k, mirN a (k + 1) = (a % 2) * 2 ^ k + mirN (a / 2) k
  | 0 => by simp [mirN]
  | k + 1 => by
    have h := mirN_top a k
    show mirN a (k + 1) * 2 + a / 2 ^ (k + 1) % 2 = _
    rw [h]
    show _ = (a % 2) * 2 ^ (k + 1) + (mirN (a / 2) k * 2 + a / 2 / 2 ^ k % 2)
    rw [Nat.div_div_eq_div_mul, Nat.pow_succ, Nat.mul_comm 2 (2 ^ k), Nat.add_mul, Nat.mul_assoc]
    omega
theorem mirN_lt (a : Nat) : ∀ k, mirN a k < 2 ^ k
  | 0 => by simp [mirN]
  | k + 1 => by
    have h := mirN_lt a k
    have h2 : a / 2 ^ k % 2 < 2 := Nat.mod_lt _ (by decide)
    show mirN a k * 2 + a / 2 ^ k % 2 < 2 ^ (k + 1)
    rw [Nat.pow_succ]
    omega
theorem mirN_bit (a : Nat) : ∀ k i, i < k → (mirN a k).testBit i = a.testBit (k - 1 - i)
  | 0, i, h => absurd h (Nat.not_lt_zero _)
  | k + 1, i, h => by
    have e : mirN a (k + 1) = 2 * mirN a k + (a.testBit k).toNat := by
      show mirN a k * 2 + a / 2 ^ k % 2 = _
      rw [Nat.toNat_testBit]
      omega
    rw [e]
    cases i with
    | zero =>
      have e2 : k + 1 - 1 - 0 = k := by omega
      rw [e2, Nat.testBit_zero]
      cases a.testBit k <;> simp <;> omega
    | succ i =>
      have e2 : k + 1 - 1 - (i + 1) = k - 1 - i := by omega
      rw [e2, Nat.testBit_succ]
      have e3 : (2 * mirN a k + (a.testBit k).toNat) / 2 = mirN a k := by
        have := Bool.toNat_lt (a.testBit k)
        omega
      rw [e3]
      exact mirN_bit a k i (by omega)
theorem mirN_mirN {a k : Nat} (h : a < 2 ^ k) : mirN (mirN a k) k = a := by
  apply Nat.eq_of_testBit_eq
  intro i
  by_cases hi : i < k
  · rw [mirN_bit _ _ _ hi, mirN_bit _ _ _ (by omega)]
    congr 1
    omega
  · have l1 : mirN (mirN a k) k < 2 ^ i := Nat.lt_of_lt_of_le (mirN_lt _ k) (Nat.pow_le_pow_right (by decide) (by omega))
    have l2 : a < 2 ^ i := Nat.lt_of_lt_of_le h (Nat.pow_le_pow_right (by decide) (by omega))
    rw [Nat.testBit_lt_two_pow l1, Nat.testBit_lt_two_pow l2]
theorem mirN_ends {b k : Nat} (hk : 0 < k) (h0 : b.testBit 0 = true) (h1 : b.testBit (k - 1) = true) : mirN b k &&& (1 ||| 2 ^ (k - 1)) = 1 ||| 2 ^ (k - 1) := by
  apply Nat.eq_of_testBit_eq
  intro i
  have e1 : Nat.testBit 1 i = decide (0 = i) := by
    have := @Nat.testBit_two_pow 0 i
    rwa [Nat.pow_zero] at this
  rw [Nat.testBit_and, Nat.testBit_or, Nat.testBit_two_pow, e1]
  by_cases hi : i = 0
  · subst hi
    rw [mirN_bit _ _ _ hk, Nat.sub_zero, h1]
    simp
  · by_cases hj : k - 1 = i
    · subst hj
      rw [mirN_bit _ _ _ (by omega), Nat.sub_self, h0]
      simp
    · have : ¬ 0 = i := fun h => hi h.symm
      simp [this, hj]
/-- the words of the text: noughts and ones, the lowest place first -/
def bitsL (k a : Nat) : List Nat := (List.range k).map fun i => 48 + a / 2 ^ i % 2
theorem bitsL_succ (k a : Nat) : bitsL (k + 1) a = (48 + a % 2) :: bitsL k (a / 2) := by
  unfold bitsL
  rw [List.range_succ_eq_map, List.map_cons, List.map_map]
  congr 1
  · simp
  · apply List.map_congr_left
    intro i _
    simp only [Function.comp]
    rw [Nat.div_div_eq_div_mul, Nat.pow_succ, Nat.mul_comm 2]
theorem bitsL_snoc (k a : Nat) : bitsL (k + 1) a = bitsL k a ++ [48 + a / 2 ^ k % 2] := by
  unfold bitsL
  rw [List.range_succ, List.map_append]
  rfl
theorem bitsL_length (k a : Nat) : (bitsL k a).length = k := by simp [bitsL]
theorem bitsL_fold (a : Nat) : ∀ k, (bitsL k a).foldl (fun acc c => acc * 2 + (c - 48)) 0 = mirN a k
  | 0 => rfl
  | k + 1 => by
    rw [bitsL_snoc, List.foldl_append, bitsL_fold a k]
    show mirN a k * 2 + (48 + a / 2 ^ k % 2 - 48) = mirN a k * 2 + a / 2 ^ k % 2
    omega
theorem bitsL_mem {k a c : Nat} (h : c ∈ bitsL k a) : c = 48 ∨ c = 49 := by
  obtain ⟨i, _, rfl⟩ := List.mem_map.mp h
  have := Nat.mod_lt (a / 2 ^ i) (show 0 < 2 by decide)
  omega
theorem digits_bits : ∀ (k a : Nat), a < 2 ^ k → List.replicate (k - (Nat.toDigits 2 a).length) 48 ++ (Nat.toDigits 2 a).map Char.toNat = if k = 0 then [48] else (bitsL k a).reverse
  | 0, a, h => by
    have : a = 0 := by simpa using h
    subst this
    rfl
  | k + 1, a, h => by
    rw [if_neg (by omega), bitsL_succ, List.reverse_cons]
    by_cases ha : a < 2
    · rw [Nat.toDigits_of_lt_base ha]
      have e : (Nat.digitChar a).toNat = 48 + a % 2 := by
        have : a = 0 ∨ a = 1 := by omega
        rcases this with rfl | rfl <;> rfl
      have e2 : bitsL k (a / 2) = List.replicate k 48 := by
        have : a / 2 = 0 := by omega
        rw [this]
        unfold bitsL
        rw [List.eq_replicate_iff]
        refine ⟨by simp, fun b hb => ?_⟩
        obtain ⟨i, _, rfl⟩ := List.mem_map.mp hb
        simp
      rw [e2, List.reverse_replicate]
      simp [e]
    · have hk : k ≠ 0 := by
        intro hk
        subst hk
        simp at h
        omega
      have ih := digits_bits k (a / 2) (by rw [Nat.pow_succ] at h; omega)
      rw [if_neg hk] at ih
      have t : Nat.toDigits 2 (a / 2) ++ Nat.toDigits 2 (a % 2) = Nat.toDigits 2 (2 * (a / 2) + a % 2) := Nat.toDigits_append_toDigits (by decide) (by omega) (Nat.mod_lt a (by decide))
      rw [Nat.div_add_mod, Nat.toDigits_of_lt_base (Nat.mod_lt a (by decide))] at t
      rw [← t, ← ih, List.map_append, List.append_assoc]
      have e : (Nat.digitChar (a % 2)).toNat = 48 + a % 2 := by
        have : a % 2 = 0 ∨ a % 2 = 1 := by omega
        rcases this with h | h <;> rw [h] <;> rfl
      simp [e]
end Mine
end
section
open PySem PySem.W PyProof.Rows
set_option maxRecDepth 100000
set_option maxHeartbeats 8000000
set_option linter.unusedVariables false
namespace Mine
open Builtin Float NumText
theorem binText_list {k a : Nat} (hk : 0 < k) (h : a < 2 ^ k) : (binText k (a : Int)).cps.toList = (bitsL k a).reverse := by
  unfold binText
  have hd : ((Nat.toDigits 2 (a : Int).natAbs).map Char.toNat).isEmpty = false := by
    have := tDigits_len_ge 2 (a : Int).natAbs
    cases h : Nat.toDigits 2 (a : Int).natAbs with
    | nil => rw [h] at this; simp at this
    | cons _ _ => rfl
  have hneg : decide ((a : Int) < 0) = false := decide_eq_false (by omega)
  rw [hneg, intField'_zero_nonneg (binF k) _ 4 rfl rfl hd rfl rfl]
  have := digits_bits k a h
  rw [if_neg (by omega)] at this
  rw [List.length_map]
  simpa using this
theorem rev_list (x : PySem.Str) (u : Tok) : (Txt.sliceBy x none none (-1, u)).cps.toList = x.cps.toList.reverse := by
  rw [step_rev_list]
  apply List.ext_getElem
  · simp [Str.length]
  · intro i h1 h2
    simp [Str.length] at h1 h2 ⊢
    rw [Array.getElem?_eq_getElem (by omega)]
    rfl
theorem rev_text {k a : Nat} (hk : 0 < k) (h : a < 2 ^ k) (u : Tok) : (Txt.sliceBy (binText k (a : Int)) none none (-1, u)).cps.toList = bitsL k a := by
  rw [rev_list, binText_list hk h, List.reverse_reverse]
theorem foldlM_bits : ∀ (l : List Nat) (ds : Array Nat) (b : Bool), (∀ c ∈ l, c = 48 ∨ c = 49) → l.foldlM (step 2) (ds, b) = some (ds ++ (l.map (· - 48)).toArray, l.isEmpty && b || !l.isEmpty)
  | [], ds, b, _ => by simp
  | c :: r, ds, b, h => by
    have hc := h c (.head _)
    have e : step 2 (ds, b) c = some (ds.push (c - 48), true) := by rcases hc with rfl | rfl <;> rfl
    rw [List.foldlM_cons, e]
    show List.foldlM (step 2) (ds.push (c - 48), true) r = _
    rw [foldlM_bits r _ _ fun x hx => h x (.tail _ hx)]
    cases r <;> simp
theorem dropBlank {l : List Nat} (h : ∀ c ∈ l, c = 48 ∨ c = 49 ∨ c = 45) : l.dropWhile blank = l := by
  cases l with
  | nil => rfl
  | cons c r =>
    have e : blank c = false := by rcases h c (.head _) with rfl | rfl | rfl <;> rfl
    rw [List.dropWhile_cons_of_neg (by rw [e]; decide)]
theorem sign_bits {l : List Nat} (h : ∀ c ∈ l.head?, c = 48 ∨ c = 49) : sign l = (false, l) := by
  cases l with
  | nil => rfl
  | cons c r => rcases h c rfl with rfl | rfl <;> rfl
theorem prefix_bits {l : List Nat} (h : ∀ c ∈ l, c = 48 ∨ c = 49 ∨ c = 45) : prefix? l = none := by
  cases l with
  | nil => rfl
  | cons c r => cases r with
    | nil => rcases h c (.head _) with rfl | rfl | rfl <;> rfl
    | cons d r => rcases h c (.head _) with rfl | rfl | rfl <;> rcases h d (.tail _ (.head _)) with rfl | rfl | rfl <;> rfl
theorem read_bits {l : List Nat} (hl : l ≠ []) (h : ∀ c ∈ l, c = 48 ∨ c = 49) : (int_private% "readNumeral") 0 2 l = (int_private% "Numeral.value") ((l.foldl (fun acc c => acc * 2 + (c - 48)) 0 : Nat) : Int) := by
  have h3 : ∀ c ∈ l, c = 48 ∨ c = 49 ∨ c = 45 := fun c hc => (h c hc).imp id .inl
  rw [readNumeral_eq, dropBlank h3, sign_bits fun c hc => h c (List.mem_of_mem_head? hc)]
  have eb : based 2 l = (2, false, l) := by
    unfold based
    rw [prefix_bits h3]
    rfl
  dsimp only
  rw [eb]
  dsimp only
  rw [dropBlank (l := l.reverse) fun c hc => h3 c (List.mem_reverse.mp hc), List.reverse_reverse]
  have ed : digits? 2 l = some (l.map (· - 48)).toArray := by
    unfold digits?
    rw [foldlM_bits l #[] false h]
    cases l with
    | nil => exact absurd rfl hl
    | cons c r => simp
  rw [ed]
  unfold judge
  dsimp only
  rw [if_neg (by simp), if_neg (by simp)]
  simp [List.foldl_map]
theorem digits_minus (l : List Nat) : ∀ (ds : Array Nat) (b : Bool), (∀ c ∈ l, c = 48 ∨ c = 49) → (l ++ [45]).foldlM (step 2) (ds, b) = none := by
  induction l with
  | nil => intro ds b _; rfl
  | cons c r ih =>
    intro ds b h
    have e : step 2 (ds, b) c = some (ds.push (c - 48), true) := by rcases h c (.head _) with rfl | rfl <;> rfl
    rw [List.cons_append, List.foldlM_cons, e]
    exact ih _ _ fun x hx => h x (.tail _ hx)
theorem read_minus {l : List Nat} (hl : l ≠ []) (h : ∀ c ∈ l, c = 48 ∨ c = 49) : (int_private% "readNumeral") 0 2 (l ++ [45]) = (int_private% "Numeral.invalid") := by
  have h3 : ∀ c ∈ l ++ [45], c = 48 ∨ c = 49 ∨ c = 45 := fun c hc => by
    rcases List.mem_append.mp hc with hc | hc
    · exact (h c hc).imp id .inl
    · exact .inr (.inr (List.mem_singleton.mp hc))
  rw [readNumeral_eq, dropBlank h3, sign_bits fun c hc => by
    cases l with
    | nil => exact absurd rfl hl
    | cons d r => exact h c (by simp at hc; subst hc; exact .head _)]
  have eb : based 2 (l ++ [45]) = (2, false, l ++ [45]) := by
    unfold based
    rw [prefix_bits h3]
    rfl
  dsimp only
  rw [eb]
  dsimp only
  have hd : ((l ++ [45]).reverse).dropWhile blank = (l ++ [45]).reverse := dropBlank fun c hc => h3 c (List.mem_reverse.mp hc)
  rw [hd, List.reverse_reverse]
  unfold digits?
  rw [digits_minus l #[] false h]
  rfl
end Mine
end
section
open PySem PySem.W PyProof.Rows
set_option maxRecDepth 100000
set_option maxHeartbeats 8000000
set_option linter.unusedVariables false
namespace Mine
open PySem.Calls PySem.NumText
theorem wp_text2 {M : Model} {A : Around} {E : Value → Shared → Prop} {s : Shared} {Q : Value → Shared → Prop} {v : Value} {text : List Nat} {n : Int}
    (hs : (text.takeWhile (· != 0)).length ≤ 640) (hr : (int_private% "readNumeral") 0 2 (text.takeWhile (· != 0)) = (int_private% "Numeral.value") n)
    (ha : ((text.takeWhile (· != 0)).length == text.length) = true) (h : Q (.int n s.toks) { s with toks := s.toks + 1 }) :
    wpAny M A ((int_private% "intFromText") v text 2) Q E s := by
  obtain ⟨hp, g, d, tk, os⟩ := s
  repeat (any_goals (first
    | assumption
    | (with_reducible refine wpAny_ite_true (decide_eq_true hs) ?_)
    | (with_reducible refine wpAny_ite_true (decide_eq_true ha) ?_)
    | wp_step))
  all_goals (try rw [hr])
  all_goals (try dsimp only)
  repeat (any_goals (first
    | assumption
    | (with_reducible refine wpAny_ite_true (decide_eq_true hs) ?_)
    | (with_reducible refine wpAny_ite_true (decide_eq_true ha) ?_)
    | wp_step))
structure Hid (p : Prop) : Prop where
  out : p
theorem typeCall_int_2 (a b : Value) : checkTypeCall "int" ⟨[a, b], []⟩ = pure () := by kernel_rfl
theorem newCall_int_2 (a b : Value) : checkBuiltinCall "int.__new__" ⟨[.type "int", a, b], []⟩ = pure () := by kernel_rfl
theorem args_init_3 (a b c : Value) : argsOk "object.__init__" ⟨[a, b, c], []⟩ := by unfold argsOk; kernel_rfl
theorem gives_text2 {x : PySem.Str} {u v : Tok} {n : Int} (hs : (numSeenOf x).length ≤ 640) (hr : (int_private% "readNumeral") 0 2 (numSeenOf x) = (int_private% "Numeral.value") n) (he : ((numSeenOf x).length == (numTextOf x).length) = true) :
    Gives (Builtin.«int.__new__» ⟨[.type "int", .str x u, .int 2 v], []⟩) (.int n) :=
  .of_wp fun M A E s Q h => by
    obtain ⟨hp, g, d, tk, os⟩ := s
    have f1 := F.conv_sub_int
    have f2 := F.madeHere_int
    have f3 := KIN.str_int
    have f4 := KIN.str_idx
    have f5 := KIN.str_trunc
    have f6 : typeOf (.str x u) = pure (.type "str") := rfl
    have hk := Hid.mk (And.intro hs (And.intro hr he))
    clear hs hr he
    repeat (any_goals (first
      | assumption
      | ((with_reducible show wpAny _ _ ((int_private% "intFromText") _ _ _) _ _ _); refine wp_text2 hk.out.1 hk.out.2.1 hk.out.2.2 ?_)
      | wp_step))
    all_goals first | exact ⟨_, rfl, h⟩ | skip
section
variable {prog : Program} {w : World} {A : Around} {E : Value → Shared → Prop} {s : Shared} {Q : Value → Shared → Prop} {x : PySem.Str} {t u : Tok} {n : Int}
theorem call_text2 (hs : (numSeenOf x).length ≤ 640) (hr : (int_private% "readNumeral") 0 2 (numSeenOf x) = (int_private% "Numeral.value") n) (he : ((numSeenOf x).length == (numTextOf x).length) = true)
    (h : Q (.int n s.toks) { s with toks := s.toks + 1 }) : wpAny (model prog w) A (call (.type "int") [.str x t, .int 2 u]) Q E s :=
  callType_new F.called_int F.newNe_int (typeCall_int_2 _ _) (newCall_int_2 _ _) (fun obj => args_init_3 obj _ _) F.entry_int_new (gives_text2 hs hr he).meets (show (Made.int n).post _ s from ⟨rfl, h⟩)
end
theorem seen_bits {x : PySem.Str} (h : ∀ c ∈ x.cps.toList, c = 48 ∨ c = 49 ∨ c = 45) : numTextOf x = x.cps.toList ∧ numSeenOf x = x.cps.toList := by
  have e1 : numTextOf x = x.cps.toList := by
    unfold numTextOf
    rw [if_pos]
    rw [Array.all_eq_true_iff_forall_mem]
    intro c hc
    rcases h c (by simpa using hc) with rfl | rfl | rfl <;> rfl
  refine ⟨e1, ?_⟩
  unfold numSeenOf
  rw [e1]
  generalize x.cps.toList = l at h
  induction l with
  | nil => rfl
  | cons c r ih =>
    rw [List.takeWhile_cons_of_pos (by rcases h c (.head _) with rfl | rfl | rfl <;> rfl), ih fun d hd => h d (.tail _ hd)]
section
variable {prog : Program} {w : World} {A : Around} {E : Value → Shared → Prop} {s : Shared} {Q : Value → Shared → Prop} {t u : Tok}
/-- int(the mirrored text, 2) -/
theorem call_bits {k a : Nat} {st : Tok} (hk : 0 < k) (hk2 : k ≤ 640) (ha : a < 2 ^ k) (h : ∀ tk c, Q (.int (mirN a k : Nat) tk) { s with toks := c }) :
    wpAny (model prog w) A (call (.type "int") [.str (Txt.sliceBy (binText k (a : Int)) none none (-1, st)) t, .int 2 u]) Q E s := by
  have hl := rev_text hk ha st
  have hm : ∀ c ∈ (Txt.sliceBy (binText k (a : Int)) none none (-1, st)).cps.toList, c = 48 ∨ c = 49 ∨ c = 45 := by
    rw [hl]
    exact fun c hc => (bitsL_mem hc).imp id .inl
  obtain ⟨e1, e2⟩ := seen_bits hm
  rw [hl] at e1 e2
  have hne : bitsL k a ≠ [] := by
    intro e
    have := bitsL_length k a
    rw [e] at this
    simp at this
    omega
  refine call_text2 (n := (mirN a k : Nat)) (by rw [e2, bitsL_length]; exact hk2) ?_ (by rw [e1, e2]; simp) (h _ _)
  rw [e2, read_bits hne fun c hc => bitsL_mem hc, bitsL_fold]
end
end Mine
end
section
open PySem PySem.W PyProof.Rows
set_option maxRecDepth 100000
set_option maxHeartbeats 8000000
set_option linter.unusedVariables false
namespace Mine
local macro_rules | `(tactic| k_all) => `(tactic| assumption)
local macro_rules | `(tactic| k_room) => `(tactic| ktr_room)
local macro_rules | `(tactic| k_units) => `(tactic| ktr_units)
local macro_rules | `(tactic| walk_at "Exists") => `(tactic| refine ⟨_, _, rfl, ?_⟩)
theorem binText_fits {a n : Int} (h1 : 0 ≤ a) (h2 : a < 2 ^ n.toNat) (h3 : 1 ≤ n) (h4 : n ≤ 72) : (binText n.toNat a).length ≤ sizeLine := by
  obtain ⟨m, rfl⟩ := Int.eq_ofNat_of_zero_le h1
  have hk : 0 < n.toNat := by omega
  have hm : m < 2 ^ n.toNat := by
    have h := kbt_cast n.toNat
    omega
  have e : (binText n.toNat (m : Int)).length = n.toNat := by
    show (binText n.toNat (m : Int)).cps.size = _
    rw [← Array.length_toList, binText_list hk hm, List.length_reverse, bitsL_length]
  rw [e, sizeLine_eq]
  omega
/-- the mirror of an int of n places -/
noncomputable def mirZ (word n : Int) : Int := (mirN word.toNat n.toNat : Nat)
theorem mirZ_nonneg (word n : Int) : 0 ≤ mirZ word n := Int.natCast_nonneg _
theorem mirZ_lt (word n : Int) : mirZ word n < 2 ^ n.toNat := by
  have h1 := mirN_lt word.toNat n.toNat
  have h2 := kbt_cast n.toNat
  unfold mirZ
  omega
section
variable {prog : Program} {w : World} {A : Around} {E : Value → Shared → Prop} {s : Shared} {Q : Value → Shared → Prop} {t u : Tok}
theorem call_bitsZ {word n : Int} {st : Tok} (h1 : 0 ≤ word) (h2 : word < 2 ^ n.toNat) (h3 : 1 ≤ n) (h4 : n ≤ 72) (h : ∀ tk c, Q (.int (mirZ word n) tk) { s with toks := c }) :
    wpAny (model prog w) A (call (.type "int") [.str (Txt.sliceBy (binText n.toNat word) none none (-1, st)) t, .int 2 u]) Q E s := by
  obtain ⟨m, rfl⟩ := Int.eq_ofNat_of_zero_le h1
  have hm : m < 2 ^ n.toNat := by
    have h := kbt_cast n.toNat
    omega
  exact call_bits (by omega) (by omega) hm h
end
local macro_rules | `(tactic| walk_at "formatField int") => `(tactic| (k_here; (with_reducible show wpAny _ _ (formatField (Value.int _ _) (_ ++ PySem.Str.ofString "b")) _ _ _); refine formatField_bin (specBin (by omega) (by omega)) (by omega) (binText_fits (by assumption) (by assumption) (by assumption) (by assumption)) ?_; intro _ _))
local macro_rules | `(tactic| walk_at "subscriptTail Name Slice str ref") => `(tactic| ((with_reducible rename Fr _ _ _ _ => F'); (with_reducible rename News _ _ _ _ => N'); (refine slice_strK_nn (hsz := ?hsz) (s := ⟨_, _, _, _, _⟩) F' N' (by decide) ?_); (case hsz => exact binText_fits (by assumption) (by assumption) (by assumption) (by assumption)); intro _ _ _ _ _))
local macro_rules | `(tactic| walk_at "call type:int") => `(tactic| (k_here; (with_reducible show wpAny _ _ (call (Value.type "int") [Value.str (Txt.sliceBy _ _ _ _) _, _]) _ _ _); refine call_bitsZ (by assumption) (by assumption) (by assumption) (by assumption) ?_; intro _ _))
theorem reflect_c (w : World) (word n : Int) (t1 t2 : Tok) (news : Led) (s : Shared) (Q E : Value → Shared → Prop) :
  Sig w fun mean mg mb dp un gd cn cs a ccd cl outer h₀ L m =>
    Fr h₀ L s.heap m → News h₀ L s.heap news → 0 ≤ word → word < 2 ^ n.toNat → 1 ≤ n → n ≤ 72 →
    (∀ (t : Tok) (h' : Heap) (tk' : Nat), Fr h₀ L h' m → News h₀ L h' news → Q (.int (mirZ word n) t) { s with heap := h', toks := tk' }) →
    wpAny (model PR w) (ktrTop dp un gd cn cs L a ccd cl outer) (call (.ref 119) [.int word t1, .int n t2]) Q E s := by
  intro mean mg mb dp un gd cn cs a ccd cl outer A₀ base h₀ L m B X T hk hd hu F N h1 h2 h3 h4 hret
  have hfill : PySem.Challenge.rw_ep5001_01 = PySem.Challenge.rw_ep5001_01 ∧ Frag.In (Mine.hd.heap_39 w.params) h₀ := by
    k_fill
    exact ⟨rfl, X⟩
  clear hfill
  refine wpAny_call ?_
  k_dflt ktr_enter
  k_steps
  exact hret _ _ _ (by k_asm) (by k_asm)
end Mine
end
section
open PySem PySem.W PyProof.Rows
set_option maxRecDepth 100000
set_option maxHeartbeats 8000000
set_option linter.unusedVariables false
namespace Mine
theorem mir_fold (word : Int) (h0 : 0 ≤ word) : ∀ n : Nat, (List.foldl (fun (σ : Int × Unit) (k : Int) => (σ.fst * 2 + (word.fdiv (2 ^ k.toNat)).fmod 2, ())) (0, ()) (rangeInts 0 1 n)).fst = (mirN word.toNat n : Nat)
  | 0 => rfl
  | n + 1 => by
    have ih := mir_fold word h0 n
    obtain ⟨a, rfl⟩ := Int.eq_ofNat_of_zero_le h0
    unfold rangeInts at ih ⊢
    rw [List.range_succ, List.map_append, List.foldl_append]
    show Prod.fst (List.foldl _ (0, ()) _) * 2 + ((a : Int).fdiv (2 ^ ((0 : Int) + (n : Nat) * 1).toNat)).fmod 2 = ((mirN a n * 2 + a / 2 ^ n % 2 : Nat) : Int)
    rw [ih]
    have e : ((0 : Int) + (n : Nat) * 1).toNat = n := by omega
    rw [e, Int.fdiv_eq_ediv_of_nonneg _ (Int.le_of_lt (kbt_pos n)), Int.fmod_eq_emod_of_nonneg _ (by decide), ← kbt_cast]
    show ((mirN a n : Nat) : Int) * 2 + _ = _
    omega
local macro_rules | `(tactic| k_room) => `(tactic| ktr_room)
theorem mirror_c (w : World) (word wide : Int) (t1 t2 : Tok) (news : Led) (s : Shared) (Q E : Value → Shared → Prop) :
  Sig w fun mean mg mb dp un gd cn cs a ccd cl outer h₀ L m =>
    Fr h₀ L s.heap m → News h₀ L s.heap news → 0 ≤ word → 0 ≤ wide → wide ≤ 80 →
    (∀ (t : Tok) (h' : Heap) (tk' : Nat), Fr h₀ L h' m → News h₀ L h' news → Q (.int (mirZ word wide) t) { s with heap := h', toks := tk' }) →
    wpAny (model PR w) (ktrTop dp un gd cn cs L a ccd cl outer) (call (.ref 157) [.int word t1, .int wide t2]) Q E s := by
  intro mean mg mb dp un gd cn cs a ccd cl outer A₀ base h₀ L m B X T hk hd hu F N h1 h2 h3 hret
  have hfill : PySem.Challenge.rw_ep5001_01 = PySem.Challenge.rw_ep5001_01 ∧ Frag.In (Mine.hd.heap_39 w.params) h₀ := by
    k_fill
    exact ⟨rfl, X⟩
  clear hfill
  refine wpAny_call ?_
  k_dflt ktr_enter
  k_steps
  refine cb_retI hret ?_ (by k_asm) (by k_asm)
  exact (mir_fold word h1 (wide - 0).toNat).trans (by rw [Int.sub_zero]; rfl)
end Mine
end
section
open PySem PySem.W PyProof.Rows
set_option maxRecDepth 100000
set_option maxHeartbeats 8000000
namespace Mine
local macro_rules | `(tactic| k_all) => `(tactic| assumption)
theorem draw_c (w : World) (b l : Addr) (i j many : Int) (ti tj tm : Tok) (n n2 : Nat) (vs : List Value) (ns : List Int) (rest : Led) (s : Shared) (Q E : Value → Shared → Prop) :
  Sig w fun mean mg mb dp un gd cn cs a ccd cl outer h₀ L m =>
    Fr h₀ L s.heap m → News h₀ L s.heap ((b, W.listOf #[.ref l, .int i ti, .int j tj] n) :: (l, W.listOf vs.toArray n2) :: rest) → IntsAre vs ns → ns.length ≤ 24 → l ≠ b → (∀ p ∈ rest, p.1 ≠ b) →
    0 ≤ i → 1 ≤ many →
    (∀ (i' j' r : Int) (t1 t2 t3 : Tok) (n' : Nat) (h' : Heap) (tk' : Nat), Fr h₀ L h' m → News h₀ L h' ((b, W.listOf #[.ref l, .int i' t1, .int j' t2] n') :: (l, W.listOf vs.toArray n2) :: rest) → 0 ≤ i' → 0 ≤ r → r < many → Q (.int r t3) { s with heap := h', toks := tk' }) →
    wpAny (model PR w) (ktrTop dp un gd cn cs L a ccd cl outer) (call (.ref 150) [.ref b, .int many tm]) Q E s := by
  intro mean mg mb dp un gd cn cs a ccd cl outer A₀ base h₀ L m B X T hk hd hu F N hI hlen hlb hrest hi0 hm hret
  have hfill : PySem.Challenge.rw_ep5001_01 = PySem.Challenge.rw_ep5001_01 ∧ Frag.In (Mine.hd.heap_39 w.params) h₀ := by
    k_fill
    exact ⟨rfl, X⟩
  clear hfill
  refine wpAny_call ?_
  k_dflt ktr_enter
  k_steps
  · refine hret (i + 1) j _ _ _ _ _ _ _ (by k_asm) (by k_asm) (by omega) (fmod_lo _ (by omega)) (fmod_hi _ (by omega))
  · refine hret (i + 1) _ _ _ _ _ _ _ _ (by k_asm) (by k_asm) (by omega) (fmod_lo _ (by omega)) (fmod_hi _ (by omega))
theorem draw_use (w : World) (b l : Addr) (i j many : Int) (ti tj tm : Tok) (n n2 : Nat) (vs : List Value) (ns : List Int) (rest : Led) (s : Shared) (Q E : Value → Shared → Prop) :
  Sig w fun mean mg mb dp un gd cn cs a ccd cl outer h₀ L m =>
    Fr h₀ L s.heap m → News h₀ L s.heap ((b, W.listOf #[.ref l, .int i ti, .int j tj] n) :: rest) → (l, W.listOf vs.toArray n2) ∈ rest → IntsAre vs ns → ns.length ≤ 24 → (∀ p ∈ rest, p.1 ≠ b) →
    0 ≤ i → 1 ≤ many →
    (∀ (i' j' r : Int) (t1 t2 t3 : Tok) (n' : Nat) (h' : Heap) (tk' : Nat), Fr h₀ L h' m → News h₀ L h' ((b, W.listOf #[.ref l, .int i' t1, .int j' t2] n') :: rest) → 0 ≤ i' → 0 ≤ r → r < many → Q (.int r t3) { s with heap := h', toks := tk' }) →
    wpAny (model PR w) (ktrTop dp un gd cn cs L a ccd cl outer) (call (.ref 150) [.ref b, .int many tm]) Q E s := by
  intro mean mg mb dp un gd cn cs a ccd cl outer A₀ base h₀ L m B X T hk hd hu F N hl hI hlen hrest hi0 hm hret
  refine draw_c w b l i j many ti tj tm n n2 vs ns rest s Q E mean mg mb dp un gd cn cs a ccd cl outer A₀ base h₀ L m B X T hk hd hu F ?_ hI hlen (hrest _ hl) hrest hi0 hm ?_
  · intro p hp
    rcases List.mem_cons.mp hp with rfl | hp
    · exact N _ (.head _)
    · rcases List.mem_cons.mp hp with rfl | hp
      · exact N _ (.tail _ hl)
      · exact N _ (.tail _ hp)
  · intro i' j' r t1 t2 t3 n' h' tk' F' N' a1 a2 a3
    refine hret i' j' r t1 t2 t3 n' h' tk' F' (fun p hp => N' p ?_) a1 a2 a3
    rcases List.mem_cons.mp hp with rfl | hp
    · exact .head _
    · exact .tail _ (.tail _ hp)
end Mine
end
section
open PySem PySem.W PyProof.Rows
set_option maxRecDepth 100000
set_option maxHeartbeats 8000000
set_option linter.unusedVariables false
namespace Mine
local macro_rules | `(tactic| k_all) => `(tactic| assumption)
local macro_rules | `(tactic| k_room) => `(tactic| ktr_room)
local macro_rules | `(tactic| k_units) => `(tactic| ktr_units)
local macro_rules | `(tactic| walk_at "call builtin:_operator.index") => `(tactic| (k_here; refine call_index_int ?_))
local macro_rules | `(tactic| walk_at "compareOp NotIn int ref") => `(tactic| (k_here; (refine' notin_range ?k1 ?_; (case k1 => assumption); k_whole)))
theorem news_drop2 {h₀ h : Heap} {L : Addr} {p1 p2 q1 q2 : Addr × Obj} {news : Led} (N : News h₀ L h (p1 :: p2 :: q1 :: q2 :: news)) : News h₀ L h (p1 :: p2 :: news) := fun p hp => N p (by
  rcases List.mem_cons.mp hp with rfl | hp
  · exact .head _
  · rcases List.mem_cons.mp hp with rfl | hp
    · exact .tail _ (.head _)
    · exact .tail _ (.tail _ (.tail _ (.tail _ hp))))
theorem check_c (w : World) (wide poly first last size : Int) (tin tout : Bool) (a1 a2 a3 a4 a5 : Tok) (news : Led) (s : Shared) (Q E : Value → Shared → Prop) :
  Sig w fun mean mg mb dp un gd cn cs a ccd cl outer h₀ L m =>
    Fr h₀ L s.heap m → News h₀ L s.heap news →
    1 ≤ wide → wide ≤ 12 → 0 ≤ poly → poly < 2 ^ wide.toNat → 0 ≤ first → first < 2 ^ wide.toNat → 0 ≤ last → last < 2 ^ wide.toNat → 1 ≤ size → 
    (∀ (k0 k1 k2 k3 k4 k5 k6 v0 v1 v2 v3 v4 : Tok) (x dx : Addr) (h' : Heap) (tk' : Nat), Fr h₀ L h' m → News h₀ L h' ((x, instObj 139 dx) :: (dx, dictOf (parE w wide poly first tin tout last size k0 k1 k2 k3 k4 k5 k6 v0 v1 v2 v3 v4) 7) :: news) → (∀ p ∈ news, p.1 < dx) → dx < x →
      Q (.ref x) { s with heap := h', toks := tk' }) →
    wpAny (model PR w) (ktrTop dp un gd cn cs L a ccd cl outer) (call (.ref 164) [.int wide a1, .int poly a2, .int first a3, .bool tin, .bool tout, .int last a4, .int size a5]) Q E s := by
  intro mean mg mb dp un gd cn cs a ccd cl outer A₀ base h₀ L m B X T hk hd hu F N h1 h2 h3 h4 h5 h6 h7 h8 h9 hret
  have hfill : PySem.Challenge.rw_ep5001_01 = PySem.Challenge.rw_ep5001_01 ∧ Frag.In (Mine.hd.heap_39 w.params) h₀ := by
    k_fill
    exact ⟨rfl, X⟩
  clear hfill
  refine wpAny_call ?_
  k_dflt ktr_enter
  k_steps
  rename (_ < _ ∧ _ < _ ∧ AllLt _ _) => l1
  refine' hret _ _ _ _ _ _ _ _ _ _ _ _ _ _ _ _ ?kF (news_drop2 ?kN) (ktn_ltOf l1.2.2) ?kl
  case kF => k_asm
  case kN => k_asm
  case kl => assumption
end Mine
end
section
open PySem PySem.W PyProof.Rows
set_option maxRecDepth 100000
set_option linter.unusedVariables false
namespace Mine
theorem pow_mono {a b : Nat} (h : a ≤ b) : (2 : Int) ^ a ≤ 2 ^ b := by
  rw [← kbt_cast, ← kbt_cast]
  exact Int.ofNat_le.mpr (Nat.pow_le_pow_right (by decide) h)
theorem pow12 {x b : Int} (hb : b ≤ 12) (h : x < 2 ^ b.toNat) : x < 4096 := by
  have : (2 : Int) ^ b.toNat ≤ 2 ^ 12 := pow_mono (by omega)
  omega
theorem pow9 {x b : Int} (hb : b ≤ 9) (h : x < 2 ^ b.toNat) : x < 512 := by
  have : (2 : Int) ^ b.toNat ≤ 2 ^ 9 := pow_mono (by omega)
  omega
theorem and_bd {x y : Int} (hx : 0 ≤ x) (hy : 0 ≤ y) : 0 ≤ Builtin.bitAnd x y ∧ Builtin.bitAnd x y ≤ x ∧ Builtin.bitAnd x y ≤ y := by
  rw [bitAnd_pp hx hy]
  have h1 : x.toNat &&& y.toNat ≤ x.toNat := Nat.and_le_left
  have h2 : x.toNat &&& y.toNat ≤ y.toNat := Nat.and_le_right
  omega
theorem xor_bd {x y : Int} (hx : 0 ≤ x) (hy : 0 ≤ y) : 0 ≤ Builtin.bitXor x y ∧ Builtin.bitXor x y ≤ x + y := by
  have h := and_bd hx hy
  rw [bitXor_and]
  omega
def bitF (top ps c : Int) : Int := if Builtin.bitAnd c top = 0 then c * 2 else Builtin.bitXor (c * 2) ps
noncomputable def inF (top ps : Int) : Nat → Int → Int
  | 0, c => c
  | n + 1, c => bitF top ps (inF top ps n c)
theorem inF_bd {top ps c : Int} (hp : 0 ≤ ps) (hc : 0 ≤ c) : ∀ n, 0 ≤ inF top ps n c ∧ inF top ps n c + ps ≤ 2 ^ n * (c + ps)
  | 0 => by simp [inF]; omega
  | n + 1 => by
    obtain ⟨h1, h2⟩ := inF_bd hp hc (top := top) n
    have e : (2 : Int) ^ (n + 1) * (c + ps) = 2 * (2 ^ n * (c + ps)) := by rw [Int.pow_succ, Int.mul_comm ((2 : Int) ^ n) 2, Int.mul_assoc]
    rw [e]
    show 0 ≤ bitF top ps (inF top ps n c) ∧ bitF top ps (inF top ps n c) + ps ≤ _
    unfold bitF
    split
    · omega
    · have := xor_bd (x := inF top ps n c * 2) (y := ps) (by omega) hp
      omega
theorem inF_lt {top ps c : Int} {n : Nat} (hp : 0 ≤ ps) (hp2 : ps < 2097152) (hc : 0 ≤ c) (hc2 : c < 4194304) (hn : n ≤ 9) : 0 ≤ inF top ps n c ∧ inF top ps n c < 4294967296 := by
  obtain ⟨h1, h2⟩ := inF_bd hp hc (top := top) n
  have h3 : (2 : Int) ^ n ≤ 2 ^ 9 := pow_mono hn
  have h4 : (2 : Int) ^ n * (c + ps) ≤ 2 ^ 9 * (c + ps) := Int.mul_le_mul_of_nonneg_right h3 (by omega)
  omega
noncomputable def wordF (bits size poly c n : Int) : Int :=
  Builtin.bitAnd (inF (2 ^ (bits + size - 1).toNat) (poly * 2 ^ size.toNat) size.toNat (Builtin.bitXor c (n * 2 ^ bits.toNat))) (2 ^ (bits + size).toNat - 1)
noncomputable def outF (bits size poly first : Int) (ws : List Int) : Int := ws.foldl (wordF bits size poly) (first * 2 ^ size.toNat)
noncomputable def regF (bits size poly first : Int) (ws : List Int) : Int := (outF bits size poly first ws).fdiv (2 ^ size.toNat)
noncomputable def inW (tin : Bool) (size n : Int) : Int := if tin then mirZ n size else n
noncomputable def crcF (bits poly first : Int) (tin tout : Bool) (last size : Int) (ws : List Int) : Int :=
  Builtin.bitXor (if tout then mirZ (regF bits size poly first (ws.map (inW tin size))) bits else regF bits size poly first (ws.map (inW tin size))) last
theorem pow_split {bits size : Int} (h1 : 0 ≤ bits) (h2 : 0 ≤ size) : (2 : Int) ^ (bits + size).toNat = 2 ^ bits.toNat * 2 ^ size.toNat := by
  rw [← Int.pow_add]
  congr 1
  omega
theorem wordF_bd {bits size poly c n : Int} : 0 ≤ wordF bits size poly c n ∧ wordF bits size poly c n < 2 ^ (bits + size).toNat := by
  unfold wordF
  rw [kbt_mask]
  exact ⟨Int.emod_nonneg _ (Int.ne_of_gt (kbt_pos _)), Int.emod_lt_of_pos _ (kbt_pos _)⟩
theorem outF_bd {bits size poly first : Int} (h1 : 0 ≤ bits) (h2 : 0 ≤ size) (hf : 0 ≤ first) (hf2 : first < 2 ^ bits.toNat) (ws : List Int) : 0 ≤ outF bits size poly first ws ∧ outF bits size poly first ws < 2 ^ (bits + size).toNat := by
  unfold outF
  suffices h : ∀ (ws : List Int) (c : Int), 0 ≤ c ∧ c < 2 ^ (bits + size).toNat → 0 ≤ ws.foldl (wordF bits size poly) c ∧ ws.foldl (wordF bits size poly) c < 2 ^ (bits + size).toNat by
    refine h ws _ ⟨Int.mul_nonneg hf (Int.le_of_lt (kbt_pos _)), ?_⟩
    rw [pow_split h1 h2]
    exact Int.mul_lt_mul_of_pos_right hf2 (kbt_pos _)
  intro ws
  induction ws with
  | nil => intro c h; exact h
  | cons w r ih => intro c _; exact ih _ wordF_bd
theorem regF_bd {bits size poly first : Int} (h1 : 0 ≤ bits) (h2 : 0 ≤ size) (hf : 0 ≤ first) (hf2 : first < 2 ^ bits.toNat) (ws : List Int) : 0 ≤ regF bits size poly first ws ∧ regF bits size poly first ws < 2 ^ bits.toNat := by
  obtain ⟨a, b⟩ := outF_bd (poly := poly) h1 h2 hf hf2 ws
  unfold regF
  rw [Int.fdiv_eq_ediv_of_nonneg _ (Int.le_of_lt (kbt_pos _))]
  refine ⟨Int.ediv_nonneg a (Int.le_of_lt (kbt_pos _)), ?_⟩
  rw [pow_split h1 h2] at b
  exact Int.ediv_lt_of_lt_mul (kbt_pos _) b
theorem outF_snoc (bits size poly first : Int) (ws : List Int) (n : Int) : outF bits size poly first (ws ++ [n]) = wordF bits size poly (outF bits size poly first ws) n := by
  unfold outF
  rw [List.foldl_append]
  rfl
/-! what the law asks of the check -/
theorem crc_in (bits poly first size : Int) (ws : List Int) : crcF bits poly first true false 0 size ws = crcF bits poly first false false 0 size (ws.map fun n => mirZ n size) := by
  unfold crcF
  have e : (ws.map fun n => mirZ n size).map (inW false size) = ws.map (inW true size) := by
    rw [List.map_map]
    rfl
  rw [e]
theorem crc_plain (bits poly first size : Int) (ws : List Int) : crcF bits poly first false false 0 size ws = regF bits size poly first ws := by
  unfold crcF inW
  simp [bitXor_zero]
theorem crc_out (bits poly first last size : Int) (ws : List Int) : crcF bits poly first false true last size ws = Builtin.bitXor (mirZ (crcF bits poly first false false 0 size ws) bits) last := by
  rw [crc_plain]
  unfold crcF inW
  simp
theorem crc_last (bits poly first last size : Int) (ws : List Int) : crcF bits poly first false false last size ws = Builtin.bitXor (crcF bits poly first false false 0 size ws) last := by
  rw [crc_plain]
  unfold crcF inW
  simp
theorem crc_both (bits poly first last size : Int) (ws : List Int) : crcF bits poly first true true last size ws = Builtin.bitXor (mirZ (crcF bits poly first false false 0 size (ws.map fun n => mirZ n size)) bits) last := by
  rw [crc_plain]
  unfold crcF inW
  simp
end Mine
end
section
open PySem PySem.W PyProof.Rows
set_option maxRecDepth 100000
set_option maxHeartbeats 8000000
set_option linter.unusedVariables false
namespace Mine
local macro_rules | `(tactic| k_all) => `(tactic| assumption)
local macro_rules | `(tactic| k_room) => `(tactic| ktr_room)
local macro_rules | `(tactic| k_units) => `(tactic| ktr_units)
local macro_rules | `(tactic| walk_at "exec For Name Name cons nil") => `(tactic| (k_here; (rename Fr _ _ _ _ => lF'); (with_unfolding_all refine' For_invVF lF' ?k1 ?k2 ?_; (case k1 => exact rfl); (case k2 => exact rfl); k_whole)))
local macro_rules | `(tactic| walk_at "exec For Name Call cons nil") => `(tactic| (k_here; (rename Fr _ _ _ _ => lF'); (with_unfolding_all refine' For_invVF lF' ?k1 ?k2 ?_; (case k1 => exact rfl); (case k2 => exact rfl); k_whole)))
local macro_rules | `(tactic| walk_at "pyIter ref") => `(tactic| (k_here; refine stop_ ?_))
local macro_rules | `(tactic| walk_at "call ref") => `(tactic| (k_here; (with_reducible show wpAny _ _ (call (Value.ref 119) [Value.int _ _, Value.int _ _]) _ _ _); (k_dflt (refine' reflect_c _ _ _ _ _ _ _ _ _ _ _ _ _ _ _ _ _ _ _ _ _ _ _ _ _ _ ?kB ?kX ?kT ?kK ?kd ?ku ?kF ?kN ?p1 ?p2 ?p3 ?p4 ?_; (case kB => k_asm); (case kX => k_asm); (case kT => k_asm); (case kK => first | exact rfl | assumption); (case kd => ktr_room); (case ku => ktr_units); (case kF => k_asm); (case kN => k_asm); (case p1 => first | assumption | omega); (case p2 => first | assumption | omega); (case p3 => first | assumption | omega); (case p4 => first | assumption | omega))); intro t9 h9 tk9 F9 N9; (try dsimp only); (try k_fold)))
local macro_rules | `(tactic| walk_at "InvPostN") => `(tactic| refine stop_ ?_)
theorem ne_of_contains {z a : PySem.Str} (h : [a].contains z = false) : ¬ z = a := by
  intro e
  subst e
  simp at h
theorem in_yes {top ps d d0 k : Int} {pre2 : List Int} (h : d = inF top ps pre2.length d0) (hne : Builtin.bitAnd d (1 * top) ≠ 0) : Builtin.bitXor (d * 2 ^ (1 : Int).toNat) ps = inF top ps (pre2 ++ [k]).length d0 := by
  rw [List.length_append]
  show _ = bitF top ps (inF top ps pre2.length d0)
  rw [← h]
  unfold bitF
  rw [Int.one_mul] at hne
  rw [if_neg hne]
  rfl
theorem in_no {top ps d d0 k : Int} {pre2 : List Int} (h : d = inF top ps pre2.length d0) (hne : Builtin.bitAnd d (1 * top) = 0) : d * 2 ^ (1 : Int).toNat = inF top ps (pre2 ++ [k]).length d0 := by
  rw [List.length_append]
  show _ = bitF top ps (inF top ps pre2.length d0)
  rw [← h]
  unfold bitF
  rw [Int.one_mul] at hne
  rw [if_pos hne]
  rfl
theorem out_turn {bits size poly first c d wv n : Int} {tin : Bool} {pre : List Int} (hP : c = outF bits size poly first (pre.map (inW tin size)))
    (hP2 : d = inF (2 ^ (bits + size - 1).toNat) (poly * 2 ^ size.toNat) (size - 0).toNat (Builtin.bitXor c (wv * 2 ^ bits.toNat))) (hw : inW tin size n = wv) :
    Builtin.bitAnd d (1 * 2 ^ (bits + size).toNat - 1) = outF bits size poly first ((pre ++ [n]).map (inW tin size)) := by
  rw [List.map_append, List.map_cons, List.map_nil, outF_snoc, ← hP, hw]
  unfold wordF
  rw [hP2, Int.sub_zero, Int.one_mul]
theorem loop_end {h₀ h' : Heap} {L : Addr} {nx own : Led} {x nm : PySem.Str} {stored : List PySem.Str} {m₀ m' : PySem.Str → Option Value} {P : List Int → Int × Tok → Prop} {pre : List Int} {s₁ : Shared} {tk : Nat} {v : Int} {t : Tok} {Q : Flow → Shared → Prop}
    (F : Fr h₀ L h' m') (N : News h₀ L h' (nx ++ own)) (hv : m' nm = some (.int v t)) (hm : ∀ z, z ≠ x → z ≠ nm → stored.contains z = false → m' z = m₀ z) (hP : P pre (v, t)) :
    InvPostN h₀ L (KstS (fun _ => nx) (fun c => [(nm, .int c.1 c.2)]) (fun _ => True) x stored m₀ P pre) own (nx.map (·.1)) s₁ Q .next { s₁ with heap := h', toks := tk } :=
  ⟨h', tk, m', nx ++ own, nx, rfl, F, N, fun p hp => List.mem_append.mpr (.inl hp), fun p hp => List.mem_append.mpr (.inr hp), rfl, (v, t), rfl, trivial,
    fun p hp => by rw [List.mem_singleton.mp hp]; exact hv, fun z z1 z2 z3 => hm z z1 (z2 _ (List.mem_singleton.mpr rfl)) z3, hP⟩
theorem compute_c (w : World) (bits poly first last size : Int) (tin tout : Bool) (k0 k1 k2 k3 k4 k5 k6 v0 v1 v2 v3 v4 : Tok) (x dx l : Addr) (vs : List Value) (ns : List Int) (n2 : Nat) (rest : Led) (s : Shared) (Q E : Value → Shared → Prop) :
  Sig2 w fun mean mg mb dp un gd cn cs a ccd cl outer h₀ L m =>
    Fr h₀ L s.heap m → News h₀ L s.heap ((x, instObj 139 dx) :: (dx, dictOf (parE w bits poly first tin tout last size k0 k1 k2 k3 k4 k5 k6 v0 v1 v2 v3 v4) 7) :: (l, W.listOf vs.toArray n2) :: rest) → IntsAre vs ns → ns.length ≤ 24 →
    1 ≤ bits → bits ≤ 12 → 1 ≤ size → size ≤ 9 → 0 ≤ poly → poly < 2 ^ bits.toNat → 0 ≤ first → first < 2 ^ bits.toNat → 0 ≤ last → last < 2 ^ bits.toNat → (∀ n ∈ ns, 0 ≤ n ∧ n < 2 ^ size.toNat) →
    (∀ (t : Tok) (h' : Heap) (tk' : Nat), Fr h₀ L h' m → News h₀ L h' ((x, instObj 139 dx) :: (dx, dictOf (parE w bits poly first tin tout last size k0 k1 k2 k3 k4 k5 k6 v0 v1 v2 v3 v4) 7) :: (l, W.listOf vs.toArray n2) :: rest) → Q (.int (crcF bits poly first tin tout last size ns) t) { s with heap := h', toks := tk' }) →
    wpAny (model PR w) (ktrTop dp un gd cn cs L a ccd cl outer) (call (.ref 112) [.ref x, .ref l]) Q E s := by
  intro mean mg mb dp un gd cn cs a ccd cl outer A₀ base h₀ L m B X T hk hd hu F N hI hlen h1 h2 h3 h4 h5 h6 h7 h8 h9 h10 hns hret
  have hfill : PySem.Challenge.rw_ep5001_01 = PySem.Challenge.rw_ep5001_01 ∧ Frag.In (Mine.hd.heap_39 w.params) h₀ := by
    k_fill
    exact ⟨rfl, X⟩
  clear hfill
  have q1 : poly < 4096 := pow12 h2 h6
  have q2 : first < 4096 := pow12 h2 h8
  have q3 : last < 4096 := pow12 h2 h10
  have q4 : (2 : Int) ^ size.toNat ≤ 512 := pow_mono (a := size.toNat) (b := 9) (by omega)
  have q5 : (2 : Int) ^ bits.toNat ≤ 4096 := pow_mono (a := bits.toNat) (b := 12) (by omega)
  have p1 : 0 ≤ poly * 2 ^ size.toNat := Int.mul_nonneg h5 (Int.le_of_lt (kbt_pos _))
  have p2 : poly * 2 ^ size.toNat < 2097152 := by
    have := Int.mul_le_mul (a := poly) (b := 2 ^ size.toNat) (c := 4095) (d := 512) (by omega) q4 (Int.le_of_lt (kbt_pos _)) (by decide)
    omega
  refine wpAny_call ?_
  k_dflt ktr_enter
  k_steps
  refine Stop.out ?_
  rename Fr _ _ _ _ => lF'
  rename News _ _ _ _ => lN'
  refine kst_listL (σ := Int × Tok) (fun _ => _) (fun c => [(Str.ofString "crc", .int c.1 c.2)]) (fun _ => True) [Str.ofString "_"] (fun pre c => c.1 = outF bits size poly first (pre.map (inW tin size))) (first * 2 ^ size.toNat, _) rfl (fun _ => .tail _ (.tail _ (.head _))) hI lF' lN' trivial (by intro p hp; rw [List.mem_singleton.mp hp]; rfl) rfl ?turn ?done
  case turn =>
    rintro ⟨c, tc⟩ pre post n t u h tk own heq hmem hoff _ hP F1 N1
    clear lF' lN'
    dsimp only at hP
    have hb := outF_bd (poly := poly) (by omega) (by omega) h7 h8 (pre.map (inW tin size)) (size := size) (bits := bits)
    rw [← hP] at hb
    have hn := hns n hmem
    have c1 : 0 ≤ c := hb.1
    have c2 : c < 2097152 := Int.lt_of_lt_of_le hb.2 (pow_mono (b := 21) (by omega))
    have n1 : 0 ≤ n := hn.1
    have n2 : n < 512 := pow9 h4 hn.2
    have n3 : n < 2 ^ size.toNat := hn.2
    have m1 : 0 ≤ mirZ n size := mirZ_nonneg n size
    have m2 : mirZ n size < 512 := pow9 h4 (mirZ_lt n size)
    simp only [List.cons_append, List.nil_append] at N1
    show wpAny _ _ _ _ _ _
    k_fold
    k_steps
    · rename IsRange _ _ _ _ _ _ _ _ => rgX
      rename Fr _ _ _ _ => lF'
      rename News _ _ _ _ => lN'
      refine Stop.out ?_
      have d1 := xor_bd (x := c) (y := mirZ n size * 2 ^ bits.toNat) c1 (Int.mul_nonneg (by assumption) (Int.le_of_lt (kbt_pos _)))
      have d2 : mirZ n size * 2 ^ bits.toNat ≤ 512 * 4096 := Int.mul_le_mul (by omega) q5 (Int.le_of_lt (kbt_pos _)) (by decide)
      refine kst_range (σ := Int × Tok) (fun _ => _) (fun e => [(Str.ofString "crc", .int e.1 e.2)]) (fun _ => True) [] (fun pre e => e.1 = inF (2 ^ (bits + size - 1).toNat) (poly * 2 ^ size.toNat) pre.length (Builtin.bitXor c (mirZ n size * 2 ^ bits.toNat))) (Builtin.bitXor c (mirZ n size * 2 ^ bits.toNat), _) rfl rgX (small_one (by omega) (by omega) (by omega) (by omega)) (rangeSize_nat _ _) lF' lN' trivial (by intro p hp; rw [List.mem_singleton.mp hp]; rfl) rfl ?turn2 ?done2
      case turn2 =>
        rintro ⟨d, td⟩ pre2 k t2 u2 h2 tk2 own2 hk2 hlt hoff2 _ hP2 F2 N2
        clear lF' lN'
        dsimp only at hP2
        have e1 := inF_lt (top := 2 ^ (bits + size - 1).toNat) (ps := poly * 2 ^ size.toNat) (c := Builtin.bitXor c (mirZ n size * 2 ^ bits.toNat)) (n := pre2.length) p1 p2 d1.1 (by omega) (by omega)
        rw [← hP2] at e1
        have e2 := e1.1
        have e3 := e1.2
        simp only [List.cons_append, List.nil_append] at N2
        show wpAny _ _ _ _ _ _
        k_fold
        k_steps
        · exact loop_end (by k_asm) (by k_asm) rfl (by intro z z1 z2 z3; simp [kstB, z1, z2]) (in_yes hP2 (by assumption))
        · exact loop_end (by k_asm) (by k_asm) rfl (by intro z z1 z2 z3; simp [kstB, z1, z2]) (in_no hP2 (by first | assumption | (exact Decidable.not_not.mp (by assumption))))
      case done2 =>
        rintro ⟨d, td⟩ u2 h2 tk2 _ hP2 F2 N2
        clear lF' lN'
        dsimp only at hP2
        rw [rangeKs_length] at hP2
        k_steps
        exact loop_end (by k_asm) (by k_asm) rfl (by intro z z1 z2 z3; have z4 := ne_of_contains z3; simp [kstB, z1, z2, z4]) (out_turn hP hP2 (by rw [show tin = true by assumption]; rfl))
    · rename IsRange _ _ _ _ _ _ _ _ => rgX
      rename Fr _ _ _ _ => lF'
      rename News _ _ _ _ => lN'
      refine Stop.out ?_
      have d1 := xor_bd (x := c) (y := n * 2 ^ bits.toNat) c1 (Int.mul_nonneg (by assumption) (Int.le_of_lt (kbt_pos _)))
      have d2 : n * 2 ^ bits.toNat ≤ 512 * 4096 := Int.mul_le_mul (by omega) q5 (Int.le_of_lt (kbt_pos _)) (by decide)
      refine kst_range (σ := Int × Tok) (fun _ => _) (fun e => [(Str.ofString "crc", .int e.1 e.2)]) (fun _ => True) [] (fun pre e => e.1 = inF (2 ^ (bits + size - 1).toNat) (poly * 2 ^ size.toNat) pre.length (Builtin.bitXor c (n * 2 ^ bits.toNat))) (Builtin.bitXor c (n * 2 ^ bits.toNat), _) rfl rgX (small_one (by omega) (by omega) (by omega) (by omega)) (rangeSize_nat _ _) lF' lN' trivial (by intro p hp; rw [List.mem_singleton.mp hp]; rfl) rfl ?turn2 ?done2
      case turn2 =>
        rintro ⟨d, td⟩ pre2 k t2 u2 h2 tk2 own2 hk2 hlt hoff2 _ hP2 F2 N2
        clear lF' lN'
        dsimp only at hP2
        have e1 := inF_lt (top := 2 ^ (bits + size - 1).toNat) (ps := poly * 2 ^ size.toNat) (c := Builtin.bitXor c (n * 2 ^ bits.toNat)) (n := pre2.length) p1 p2 d1.1 (by omega) (by omega)
        rw [← hP2] at e1
        have e2 := e1.1
        have e3 := e1.2
        simp only [List.cons_append, List.nil_append] at N2
        show wpAny _ _ _ _ _ _
        k_fold
        k_steps
        · exact loop_end (by k_asm) (by k_asm) rfl (by intro z z1 z2 z3; simp [kstB, z1, z2]) (in_yes hP2 (by assumption))
        · exact loop_end (by k_asm) (by k_asm) rfl (by intro z z1 z2 z3; simp [kstB, z1, z2]) (in_no hP2 (by first | assumption | (exact Decidable.not_not.mp (by assumption))))
      case done2 =>
        rintro ⟨d, td⟩ u2 h2 tk2 _ hP2 F2 N2
        clear lF' lN'
        dsimp only at hP2
        rw [rangeKs_length] at hP2
        k_steps
        exact loop_end (by k_asm) (by k_asm) rfl (by intro z z1 z2 z3; have z4 := ne_of_contains z3; simp [kstB, z1, z2, z4]) (out_turn hP hP2 (by rw [show tin = false by assumption]; rfl))
  case done =>
    rintro ⟨c, tc⟩ u h tk _ hP F1 N1
    clear lF' lN'
    dsimp only at hP
    have hb := outF_bd (poly := poly) (by omega) (by omega) h7 h8 (ns.map (inW tin size)) (size := size) (bits := bits)
    rw [← hP] at hb
    have hr := regF_bd (poly := poly) (by omega) (by omega) h7 h8 (ns.map (inW tin size)) (size := size) (bits := bits)
    have c1 : 0 ≤ c := hb.1
    have r1 : 0 ≤ c.fdiv (2 ^ size.toNat) := by rw [hP]; exact hr.1
    have r2 : c.fdiv (2 ^ size.toNat) < 2 ^ bits.toNat := by rw [hP]; exact hr.2
    k_steps
    · refine cb_retI hret ?_ (by k_asm) (by k_asm)
      rw [hP, show tout = true by assumption]
      rfl
    · refine cb_retI hret ?_ (by k_asm) (by k_asm)
      rw [hP, show tout = false by assumption]
      rfl
end Mine
end
section
open PySem PySem.W PyProof.Rows PySem.Calls PySem.NumText
set_option maxRecDepth 100000
set_option maxHeartbeats 8000000
set_option linter.unusedVariables false
namespace Mine
open Builtin
section
variable {prog : Program} {w : World} {A : Around} {s : Shared} {E : Value → Shared → Prop}
theorem wpC_neg {M : Model} {A : Around} {E : Value → Shared → Prop} {s : Shared} {α : Type} {c : Prop} [Decidable c] {a b : Sem α} {Q : α → Shared → Prop} (hc : ¬ c) (h : wpC M A b Q E s) : wpC M A (if c then a else b) Q E s := by rw [if_neg hc]; exact h
theorem wpC_pos {M : Model} {A : Around} {E : Value → Shared → Prop} {s : Shared} {α : Type} {c : Prop} [Decidable c] {a b : Sem α} {Q : α → Shared → Prop} (hc : c) (h : wpC M A a Q E s) : wpC M A (if c then a else b) Q E s := by rw [if_pos hc]; exact h
theorem new_refuses {x : PySem.Str} {u v : Tok} {Q : Fin → Shared → Prop} (h : wpC (model prog w) A ((int_private% "intFromText") (.str x u) (numTextOf x) 2) (fun _ _ => False) E s) :
    wpC (model prog w) A (Builtin.«int.__new__» ⟨[.type "int", .str x u, .int 2 v], []⟩) Q E s := by
  have f1 := F.conv_sub_int
  have f2 := F.madeHere_int
  unfold Builtin.«int.__new__»
  simp only [f1, f2, isType, pure_bind, bind_pure, bind_assoc]
  refine wpC_neg (by decide) ?_
  refine wpC_neg (by decide) ?_
  refine wpC_neg (by simp) ?_
  refine wpC_neg (by simp) ?_
  simp only [List.forIn_nil, pure_bind]
  refine wpC_after (m := Int.intIndex "int.__new__" (.int 2 v)) (wpAny_of_eq (a := (2 : Int)) rfl ?_)
  refine wpC_neg (by decide) ?_
  refine wpC_after (wpAny_of_eq (a := some (numTextOf x)) rfl ?_)
  exact wpC_raises h
theorem type_call_refuses {x b : Value} {Q : Fin → Shared → Prop} (h : wpC (model prog w) A (call (.builtin "int.__new__") [.type "int", x, b]) (fun _ _ => False) E s) :
    wpC (model prog w) A (Builtin.«type.__call__» ⟨[.type "int", x, b], []⟩) Q E s := by
  have h1 := F.called_int.notType
  have h2 := F.called_int.canCreate
  have h3 := F.mro_int
  have h4 := F.called_int.made
  have h5 := typeCall_int_2 x b
  unfold Builtin.«type.__call__»
  simp only [h1, h3, h4, h5, pure_bind, bind_pure, bind_assoc, Bool.false_eq_true, if_false, List.isEmpty_cons]
  refine wpC_neg (by rw [h2]; decide) ?_
  exact wpC_raises (wpC_holding h)
theorem wpC_mark {M : Model} {own : List String} {e : Value} {Q : Unit → Shared → Prop} (h : Q () s) : wpC M A (markTheRefusal own e) Q E s := by
  unfold markTheRefusal
  refine wpC_bind (wpC_stack fun st hC => ?_)
  have hf : pythonCodeMadeTheCall own (st.map (·.1)) = false := by
    unfold pythonCodeMadeTheCall
    show (!((st.map (·.1)).any Code.isCaller) && _ && _) = false
    rw [show (st.map (·.1)).any Code.isCaller = true from hC]
    rfl
  exact wpC_neg (by rw [hf]; decide) (wpC_of (wpAny_pure h))
theorem text_refuses {x : PySem.Str} {u : Tok} {text : List Nat} (hh : A.handled = none) (hs : (text.takeWhile (· != 0)).length ≤ 640) (hr : (int_private% "readNumeral") 0 2 (text.takeWhile (· != 0)) = (int_private% "Numeral.invalid"))
    (hx : (reprText x).length ≤ sizeLine) (h : ∀ h' tk e, Heap.NewExc s.heap h' e "ValueError" → E (.ref e) { s with heap := h', toks := tk }) :
    wpC (model prog w) A ((int_private% "intFromText") (.str x u) text 2) (fun _ _ => False) E s := by
  refine wpC_pos (c := (text.takeWhile (· != 0)).length ≤ 640) hs ?_
  refine wpC_after (wpAny_pure ?_)
  dsimp only
  rw [hr]
  dsimp only
  refine wpC_after (wpAny_of_eq (a := none) rfl ?_)
  refine wpC_neg (by simp) ?_
  refine wpC_after (wpAny_rule ?_)
  refine wpC_after (wpAny_of_eq (a := none) rfl ?_)
  refine wpC_after (wpAny_pyRepr_str ?_ hx)
  refine wpC_after (wpAny_mkStr ?_ ?len)
  case len =>
    rw [sizeLine_eq, PySem.Str.length_append]
    have h1 : (PySem.Str.ofString (toString "invalid literal for int() with base " ++ toString 2 ++ toString ": ")).length ≤ 100 := by decide +kernel
    have h2 : (⟨(reprText x).cps.extract 0 200⟩ : PySem.Str).length ≤ 200 := by
      show ((reprText x).cps.extract 0 200).size ≤ 200
      rw [Array.size_extract]
      omega
    omega
  refine wpC_after (wpAny_newExc_plain plainExc_ValueError (fun h' e hm => ?_) (by rw [sizeLine_eq]; exact Nat.le_of_ble_eq_true rfl))
  refine wpC_bind (m := markTheRefusal ["int.__new__"] (.ref e)) (wpC_mark ?_)
  exact wpC_of (wpAny_raiseNew_none hh (h _ _ _ hm.newExc))
theorem codeC_builtin {id : String} {args : Args} {b : Builtin} {R : Result → Shared → Prop} (hb : entryFor table id = some b)
    (h : wpC (model prog w) (A.under (.builtin id args)) (b args) (fun fin s' => match fin with | .done f => R (.ok f) s' | .again c' => c'.quiet = true ∧ codeC (model prog w) A c' R s') (fun e s' => R (.error e) s') s) :
    codeC (model prog w) A (.builtin id args) R s := by
  refine codeC_of_tree ?_
  show wpC _ _ (match entryFor table id with | some b => b args | none => unsupported ((withoutEnding? id "#data").getD id)) _ _ s
  rw [hb]; exact h
/-- int(x, 2) of a text that is no number -/
theorem int_refuses {x : PySem.Str} {t u : Tok} (hh : A.handled = none) (hs : (numSeenOf x).length ≤ 640) (hr : (int_private% "readNumeral") 0 2 (numSeenOf x) = (int_private% "Numeral.invalid"))
    (hx : (reprText x).length ≤ sizeLine) (h : ∀ h' tk e, Heap.NewExc s.heap h' e "ValueError" → E (.ref e) { s with heap := h', toks := tk }) :
    wpC (model prog w) A (call (.type "int") [.str x t, .int 2 u]) (fun _ _ => False) E s := by
  refine wpC_call (codeC_of_tree ?_)
  show wpC _ _ (callAny (.type "int") _) _ _ _
  refine wpC_of (wpAny_pure ⟨Code.quiet_builtin _ (by decide +kernel), codeC_builtin F.entry_type_call ?_⟩)
  rw [Around.under_plain (weight_type_call_type "int" _ []) (units_type_call_type "int" _ [])]
  refine type_call_refuses (wpC_call (codeC_of_tree ?_))
  show wpC _ _ (do checkBuiltinCall "int.__new__" ⟨[.type "int", .str x t, .int 2 u], []⟩; again (.builtin "int.__new__" ⟨[.type "int", .str x t, .int 2 u], []⟩)) _ _ _
  rw [newCall_int_2]
  refine wpC_after (wpAny_pure ?_)
  refine wpC_of (wpAny_pure ⟨plainId_quiet F.called_int.plain _, codeC_builtin F.entry_int_new ?_⟩)
  refine new_refuses (text_refuses ?_ hs hr hx ?_)
  · exact hh
  · exact h
end
end Mine
end
section
open PySem PySem.W PyProof.Rows PySem.Calls
set_option maxRecDepth 100000
set_option maxHeartbeats 8000000
set_option linter.unusedVariables false
namespace Mine
open NumText
theorem binText_neg {k m : Nat} (hm : m < 2 ^ k) (hk : 0 < k) (h0 : 0 < m) : (binText (k + 1) (-(m : Int))).cps.toList = 45 :: (bitsL k m).reverse := by
  unfold binText
  have hneg : decide (-(m : Int) < 0) = true := decide_eq_true (by omega)
  have hab : (-(m : Int)).natAbs = m := by omega
  rw [hneg, hab]
  have hd : ((Nat.toDigits 2 m).map Char.toNat).isEmpty = false := by
    have := tDigits_len_ge 2 m
    cases h : Nat.toDigits 2 m with
    | nil => rw [h] at this; simp at this
    | cons _ _ => rfl
  have hb := digits_bits k m hm
  rw [if_neg (by omega)] at hb
  have hl : (Nat.toDigits 2 m).length ≤ k := by
    have := congrArg List.length hb
    rw [List.length_append, List.length_replicate, List.length_map, List.length_reverse, bitsL_length] at this
    omega
  unfold intField'
  simp only [hd, Bool.false_eq_true, if_false, if_true, List.length_nil, List.append_nil, List.length_append, List.length_replicate, List.length_map, List.length_cons,
    show ((48 : Nat) == 48) = true by decide, show ((61 : Nat) == 61) = true by decide, show ((61 : Nat) == 60) = false by decide, show ((61 : Nat) == 94) = false by decide, Bool.and_self, List.replicate_zero, List.nil_append]
  have e1 : (((k + 1 : Nat) : Int) - (((0 + 1 : Nat) : Int) + ((0 : Nat) : Int) + ((0 : Nat) : Int))).toNat - (Nat.toDigits 2 m).length = k - (Nat.toDigits 2 m).length := by omega
  rw [e1, ← hb]
  simp
  omega
theorem rev_neg {k m : Nat} (hm : m < 2 ^ k) (hk : 0 < k) (h0 : 0 < m) (u : Tok) : (Txt.sliceBy (binText (k + 1) (-(m : Int))) none none (-1, u)).cps.toList = bitsL k m ++ [45] := by
  rw [rev_list, binText_neg hm hk h0]
  simp
theorem binText_neg_fits {word n : Int} (h1 : 0 ≤ word) (h2 : word < 2 ^ n.toNat) (h3 : 1 ≤ n) (h4 : n ≤ 70) : (binText (n + 2).toNat (-1 - word)).length ≤ sizeLine := by
  obtain ⟨a, rfl⟩ := Int.eq_ofNat_of_zero_le h1
  have hp := kbt_cast n.toNat
  have e : (n + 2).toNat = (n.toNat + 1) + 1 := by omega
  have hm : a + 1 < 2 ^ (n.toNat + 1) := by rw [Nat.pow_succ]; omega
  have e2 : (-1 - (a : Int)) = -((a + 1 : Nat) : Int) := by omega
  rw [e, e2]
  show (binText (n.toNat + 1 + 1) (-((a + 1 : Nat) : Int))).cps.size ≤ _
  rw [← Array.length_toList, binText_neg hm (by omega) (by omega), List.length_cons, List.length_reverse, bitsL_length, sizeLine_eq]
  omega
section
variable {prog : Program} {w : World} {A : Around} {E : Value → Shared → Prop} {s : Shared}
theorem int_refusesZ {word n : Int} {t u st : Tok} (hh : A.handled = none) (h1 : 0 ≤ word) (h2 : word < 2 ^ n.toNat) (h3 : 1 ≤ n) (h4 : n ≤ 70) (h : ∀ h' tk e, Heap.NewExc s.heap h' e "ValueError" → E (.ref e) { s with heap := h', toks := tk }) :
    wpC (model prog w) A (call (.type "int") [.str (Txt.sliceBy (binText (n + 2).toNat (-1 - word)) none none (-1, st)) t, .int 2 u]) (fun _ _ => False) E s := by
  obtain ⟨a, rfl⟩ := Int.eq_ofNat_of_zero_le h1
  have hp := kbt_cast n.toNat
  have e : (n + 2).toNat = (n.toNat + 1) + 1 := by omega
  have hm : a + 1 < 2 ^ (n.toNat + 1) := by rw [Nat.pow_succ]; omega
  have e2 : (-1 - (a : Int)) = -((a + 1 : Nat) : Int) := by omega
  rw [e, e2]
  have hl := rev_neg hm (by omega) (by omega) st
  have hb : ∀ c ∈ bitsL (n.toNat + 1) (a + 1), c = 48 ∨ c = 49 := fun c hc => bitsL_mem hc
  have hx : ∀ c ∈ (Txt.sliceBy (binText (n.toNat + 1 + 1) (-((a + 1 : Nat) : Int))) none none (-1, st)).cps.toList, c = 48 ∨ c = 49 ∨ c = 45 := by
    rw [hl]
    intro c hc
    rcases List.mem_append.mp hc with hc | hc
    · exact (hb c hc).imp id .inl
    · exact .inr (.inr (List.mem_singleton.mp hc))
  obtain ⟨e3, e4⟩ := seen_bits hx
  have hlen : (Txt.sliceBy (binText (n.toNat + 1 + 1) (-((a + 1 : Nat) : Int))) none none (-1, st)).length = n.toNat + 1 + 1 := by
    show (Txt.sliceBy (binText (n.toNat + 1 + 1) (-((a + 1 : Nat) : Int))) none none (-1, st)).cps.size = _
    rw [← Array.length_toList, hl, List.length_append, bitsL_length]
    rfl
  have hne : bitsL (n.toNat + 1) (a + 1) ≠ [] := by
    intro e
    have := bitsL_length (n.toNat + 1) (a + 1)
    rw [e] at this
    simp at this
  refine int_refuses hh ?_ ?_ ?_ h
  · rw [e4, hl, List.length_append, bitsL_length]
    show n.toNat + 1 + 1 ≤ 640
    omega
  · rw [e4, hl]
    exact read_minus hne hb
  · refine Nat.le_trans (StrLaws.reprText_len _ fun c hc => ?_) (by rw [hlen, sizeLine_eq]; omega)
    rcases hx c hc with rfl | rfl | rfl <;> decide
end
section
variable {prog : Program} {w : World} {A₀ : Around} {E : Value → Shared → Prop} {s' : Shared} {h₀ h : Heap} {outer : List Env} {L a e : Addr} {m : PySem.Str → Option Value} {cn : PySem.Str} {cs : Scope} {cd : Value} {cl : List (PySem.Str × Addr)} {K : Frag}
  {b₀ : Stmt} {suite : List Stmt} {pos np : Pos} {rest : List ExceptHandler} {Q : Flow → Shared → Prop} {news : List (Addr × Obj)}
  {p : Program} {loose : List PySem.Str} {mg mb : PySem.Str → Option Value} {x : PySem.Str} {X T' : String}
/-- caught in a frame that has cells, by a suite that raises nothing -/
theorem caught_X0 (B : Below A₀ h₀ outer h₀) (F : Fr h₀ L h m) (hsm : h.UpToSlots s'.heap) (R : RaisedN h₀ (envX cn cs L a cd cl :: outer) e (.type X) news s'.heap)
    (X₀ : K.In h₀) (T : TopRead p loose mg mb h₀) (hK : nsIn K mainGlobals x = some none) (hv : bootBuiltins x = some (.type T'))
    (hexc : isSubtype (.type T') (.type "BaseException") = pure true) (hnt : isSubtype (.type ((Manifest.find? T').elim "type" fun y => y.metatype)) (.type "tuple") = pure false) (hsub : isSubtype (.type X) (.type T') = pure true)
    (k : ∀ h', Fr h₀ L h' m → News h₀ L h' news →
      wpAny (model prog w) ((A₀.deeper (envX cn cs L a cd cl)).mark (some (.ref e))) (execs (b₀ :: suite) (envX cn cs L a cd cl)) Q (fun _ _ => False) { s' with heap := h' })
    (hn : x ≠ "__name__") (hk : cs.kind = .function := by rfl) (hx : (envX cn cs L a cd cl).kindOf x = some .globalImplicit := by rfl) (hd : (x == ("__debug__" : PySem.Str)) = false := by decide) :
    wpAny (model prog w) (A₀.deeper (envX cn cs L a cd cl)) (noteFrame (.ref e) (envX cn cs L a cd cl))
      (fun _ s₂ => wpAny (model prog w) (A₀.deeper (envX cn cs L a cd cl)) (setFlight (.ref e) none) (fun _ s₃ =>
        wpAny (model prog w) (A₀.deeper (envX cn cs L a cd cl)) (handleBy (.ref e) (envX cn cs L a cd cl) (.ExceptHandler (some (.Name x np)) none (b₀ :: suite) pos :: rest)) Q E s₃) E s₂) E s' := by
  obtain ⟨B₁, a0, hB, hl, hfl⟩ := R
  have hL : B₁.get? L = none := by
    obtain ⟨_, ⟨L', _, hf, hn', _⟩, _⟩ := hfl.2.2.1
    obtain rfl : L = L' := Option.some.inj hf
    exact hn'
  refine wpAny_looks_onW (Around.frames_deeper B.stack) rfl hfl fun h₄ hheld₄ hsm₄ => ?_
  refine wpAny_landsW hheld₄ fun h₅ hheld hsm₅' => ?_
  have hsm₅ := hsm₄.trans hsm₅'
  have hheld' := flyingW_base hB hheld
  have F₅ := F.of_stays hheld'.1 (hsm.trans hsm₅)
  obtain ⟨ob, hob, hobc⟩ := hheld'.there
  refine wpAny_handleBy_builtin (X := X) (T := T') (b := true) hexc hnt hsub (nameX_B F₅ X₀ T hK hv hn ⟨rfl, ⟨ob, hob, hobc⟩, ?_⟩ hk hx hd)
  refine lands_againW hheld fun h₆ hfl₆ hsm₆ => ?_
  have F₆ := F.of_stays (flyingW_base hB hfl₆).1 ((hsm.trans hsm₅).trans hsm₆)
  exact wpAny_mono (k h₆ F₆ fun q hq => ⟨hfl₆.1 _ _ (hl q hq).1, (fun z => by have := (hl q hq).1; rw [z, hL] at this; cases this), (hl q hq).2⟩) (fun _ _ x => x) fun _ _ x => x.elim
end
end Mine
end
section
open PySem PySem.W PyProof.Rows PySem.Calls
set_option maxRecDepth 100000
set_option maxHeartbeats 8000000
set_option linter.unusedVariables false
namespace Mine
local macro_rules | `(tactic| k_room) => `(tactic| ktr_room)
local macro_rules | `(tactic| k_units) => `(tactic| ktr_units)
local macro_rules | `(tactic| walk_at "Exists") => `(tactic| refine ⟨_, _, rfl, ?_⟩)
local macro_rules | `(tactic| walk_at "formatField int") => `(tactic| (k_here; (with_reducible show wpAny _ _ (formatField (Value.int _ _) (_ ++ PySem.Str.ofString "b")) _ _ _); refine formatField_bin (specBin (by omega) (by omega)) (by omega) (binText_neg_fits (by assumption) (by assumption) (by assumption) (by assumption)) ?_; intro _ _))
local macro_rules | `(tactic| walk_at "subscriptTail Name Slice str ref") => `(tactic| ((with_reducible rename Fr _ _ _ _ => F'); (with_reducible rename News _ _ _ _ => N'); (refine slice_strK_nn (hsz := ?hsz) (s := ⟨_, _, _, _, _⟩) F' N' (by decide) ?_); (case hsz => exact binText_neg_fits (by assumption) (by assumption) (by assumption) (by assumption)); intro _ _ _ _ _))
theorem wpC_callWith_typeE {prog : Program} {w : World} {A : Around} {E : Value → Shared → Prop} {s : Shared} {T : String} {env : Env} {pos : Pos} {first : List Value} {e : Expr} {rest : List Expr} {Q : Value → Shared → Prop}
    (h : wpAny (model prog w) A (spliced (backTo pos (starEach (e :: rest) env))) (fun vs s₁ => wpC (model prog w) A (call (.type T) (first ++ vs)) (fun _ _ => False) E s₁) E s)
    (he : starEach (e :: rest) env = (false, eval e env) :: starEach rest env := by rfl) (hplain : (backTo pos (starEach rest env)).any (·.1) = false := by rfl) :
    wpC (model prog w) A (callWith pos (.type T) first (backTo pos (starEach (e :: rest) env)) []) Q E s := by
  rw [he] at h ⊢
  exact wpC_callWith_type (by show (false || (backTo pos (starEach rest env)).any (·.1)) = false; rw [hplain]; rfl) (evalArgs_plain h)
theorem reflect_refuses (w : World) (word n : Int) (t1 t2 : Tok) (news : Led) (s : Shared) (E : Value → Shared → Prop) :
  Sig w fun mean mg mb dp un gd cn cs a ccd cl outer h₀ L m =>
    Fr h₀ L s.heap m → News h₀ L s.heap news → 0 ≤ word → word < 2 ^ n.toNat → 1 ≤ n → n ≤ 70 → ∀ base, Below { handled := none, depth := 0, frames := some outer, guards := none, units := 0 } base outer h₀ →
    (∀ (e : Addr) (h h' : Heap) (tk' : Nat), RaisedN base (envX cn cs L a ccd cl :: outer) e (.type "ValueError") news h' → Fr h₀ L h m → h.UpToSlots h' → E (.ref e) { s with heap := h', toks := tk' }) →
    wpC (model PR w) (ktrTop dp un gd cn cs L a ccd cl outer) (call (.ref 119) [.int (-1 - word) t1, .int (n + 2) t2]) (fun _ _ => False) E s := by
  intro mean mg mb dp un gd cn cs a ccd cl outer A₀ base0 h₀ L m B0 X T hk hd hu F N h1 h2 h3 h4 base B hret
  have hfill : PySem.Challenge.rw_ep5001_01 = PySem.Challenge.rw_ep5001_01 ∧ Frag.In (Mine.hd.heap_39 w.params) h₀ := by
    k_fill
    exact ⟨rfl, X⟩
  clear hfill
  refine wpC_call ?_
  k_dflt (refine' codeC_def_raises ?k1 ?k2 ?k3 ?k4 ?k5 ?kA ?kF ?kK ?k6 ?k7 ?k8 ?k9 ?kB ?_ ?c2 ?c3 ?c4 ?c5; (case kA => exact rfl); (case kF => exact rfl); (case kK => assumption); (case k1 => exact B); (case k2 => k_asm); (case k3 => k_asm); (case k4 => k_asm); (case k5 => k_asm); (case k6 => k_is); (case k7 => k_is); (case k8 => ktr_room); (case k9 => exact BindsTo.of_eq rfl); (case c5 => decide); (case kB => exact locs rfl); (case c2 => exact rfl); (case c3 => exact rfl); (case c4 => exact rfl))
  intro g' L' h' FG' F' N' B' X' T' St'
  refine wpC_execs_cons (wpC_Return_raises (wpC_Call_Name ?_))
  walk1
  refine wpC_callWith_typeE ?_
  k_steps
  refine int_refusesZ rfl h1 h2 h3 h4 ?_
  intro h9 tk9 e9 hx9
  rename Fr _ _ _ _ => F9
  rename News _ _ _ _ => N9
  exact leave_newK B' hx9 F9 N9 (fun h7 R7 U7 => hret _ _ _ _ R7 FG' U7)
end Mine
end
section
open PySem PySem.W PyProof.Rows
namespace Mine
theorem bitOr_pp {x y : Int} (hx : 0 ≤ x) (hy : 0 ≤ y) : Builtin.bitOr x y = ((x.toNat ||| y.toNat : Nat) : Int) := by
  have h1 : ¬ (0 ≤ Builtin.bitNot x) := by unfold Builtin.bitNot; omega
  have h2 : ¬ (0 ≤ Builtin.bitNot y) := by unfold Builtin.bitNot; omega
  have h3 : ∀ z : Int, Builtin.bitNot (Builtin.bitNot z) = z := by intro z; unfold Builtin.bitNot; omega
  unfold Builtin.bitOr Builtin.bitAnd
  simp only [h1, h2, decide_false, h3]
theorem mirZ_mirZ {v n : Int} (h0 : 0 ≤ v) (h1 : v < 2 ^ n.toNat) : mirZ (mirZ v n) n = v := by
  unfold mirZ
  have : v.toNat < 2 ^ n.toNat := by
    have e : ((2 ^ n.toNat : Nat) : Int) = 2 ^ n.toNat := by simp
    omega
  rw [Int.toNat_natCast, mirN_mirN this]
  omega
theorem pow_pred {wide : Int} (h : 1 ≤ wide) : (2 : Int) ^ wide.toNat = 2 * (1 * 2 ^ (wide - 1).toNat) := by
  have : wide.toNat = (wide - 1).toNat + 1 := by omega
  rw [this, Int.pow_succ]
  omega
theorem one_pow_toNat (k : Nat) : ((1 : Int) * 2 ^ k).toNat = 2 ^ k := by
  have e : ((2 ^ k : Nat) : Int) = 2 ^ k := by simp
  rw [Int.one_mul, ← e]
  rfl
theorem both_rng {word wide : Int} (h0 : 0 ≤ word) (h1 : word < 2 ^ wide.toNat) (hw : 1 ≤ wide) : 0 ≤ Builtin.bitOr (Builtin.bitOr word 1) (1 * 2 ^ (wide - 1).toNat) ∧ Builtin.bitOr (Builtin.bitOr word 1) (1 * 2 ^ (wide - 1).toNat) < 2 ^ wide.toNat := by
  have hp := kbt_pos (wide - 1).toNat
  have e : ((2 ^ wide.toNat : Nat) : Int) = 2 ^ wide.toNat := by simp
  have hk : wide.toNat = (wide - 1).toNat + 1 := by omega
  have h2 : word.toNat < 2 ^ wide.toNat := by omega
  rw [bitOr_pp h0 (by decide)]
  rw [bitOr_pp (Int.natCast_nonneg _) (by omega), Int.toNat_natCast, one_pow_toNat]
  refine ⟨Int.natCast_nonneg _, ?_⟩
  rw [← e]
  refine Int.ofNat_lt.mpr (Nat.or_lt_two_pow (Nat.or_lt_two_pow h2 ?_) ?_)
  · exact Nat.one_lt_two_pow (by omega)
  · exact Nat.pow_lt_pow_right (by decide) (by omega)
theorem both_ends {word wide : Int} (h0 : 0 ≤ word) (hw : 1 ≤ wide) : Builtin.bitAnd (mirZ (Builtin.bitOr (Builtin.bitOr word 1) (1 * 2 ^ (wide - 1).toNat)) wide) (Builtin.bitOr 1 (1 * 2 ^ (wide - 1).toNat)) = Builtin.bitOr 1 (1 * 2 ^ (wide - 1).toNat) := by
  have hp := kbt_pos (wide - 1).toNat
  have hk : (wide - 1).toNat = wide.toNat - 1 := by omega
  rw [bitOr_pp h0 (by decide)]
  rw [bitOr_pp (Int.natCast_nonneg _) (by omega), bitOr_pp (by decide) (by omega), Int.toNat_natCast, one_pow_toNat]
  rw [bitAnd_pp (mirZ_nonneg _ _) (Int.natCast_nonneg _), Int.toNat_natCast]
  unfold mirZ
  rw [Int.toNat_natCast, Int.toNat_natCast]
  rw [hk]
  show ((mirN ((word.toNat ||| 1) ||| 2 ^ (wide.toNat - 1)) wide.toNat &&& (1 ||| 2 ^ (wide.toNat - 1)) : Nat) : Int) = ((1 ||| 2 ^ (wide.toNat - 1) : Nat) : Int)
  rw [mirN_ends (by omega)]
  · simp
  · simp
theorem reflect_d (w : World) (word n : Int) (t1 t2 : Tok) (news : Led) (s : Shared) (Q E : Value → Shared → Prop) :
  Sig w fun mean mg mb dp un gd cn cs a ccd cl outer h₀ L m =>
    Fr h₀ L s.heap m → News h₀ L s.heap news → 0 ≤ word → word < 2 ^ n.toNat → 1 ≤ n → n ≤ 72 →
    (∀ (t : Tok) (h' : Heap) (tk' : Nat), Fr h₀ L h' m → News h₀ L h' news → 0 ≤ mirZ word n → mirZ word n < 2 ^ n.toNat → mirZ (mirZ word n) n = word → Q (.int (mirZ word n) t) { s with heap := h', toks := tk' }) →
    wpAny (model PR w) (ktrTop dp un gd cn cs L a ccd cl outer) (call (.ref 119) [.int word t1, .int n t2]) Q E s := by
  intro mean mg mb dp un gd cn cs a ccd cl outer A₀ base h₀ L m B X T hk hd hu F N h1 h2 h3 h4 hret
  exact reflect_c w word n t1 t2 news s Q E mean mg mb dp un gd cn cs a ccd cl outer A₀ base h₀ L m B X T hk hd hu F N h1 h2 h3 h4 fun t h' tk' F' N' => hret t h' tk' F' N' (mirZ_nonneg _ _) (mirZ_lt _ _) (mirZ_mirZ h1 h2)
end Mine
end
section
open PySem PySem.W PyProof.Rows PySem.Calls
set_option maxRecDepth 100000
set_option maxHeartbeats 8000000
set_option linter.unusedVariables false
namespace Mine
section
variable {M : Model} {A : Around} {E : Value → Shared → Prop} {s : Shared}
theorem wpC_split (n : Nat) {body : List Stmt} {env : Env} {Q : Flow → Shared → Prop} (h : wpAny M A (execs (body.take n) env) (fun f s' => match f with | .next => Stop (wpC M A (execs (body.drop n) env) Q E s') | f => Q f s') E s) : wpC M A (execs body env) Q E s := by
  rw [← List.take_append_drop n body]
  refine wpC_execs_append (wpAny_mono h (fun f s' h' => ?_) fun _ _ x => x)
  cases f <;> exact h'
theorem wpAny_split (n : Nat) {body : List Stmt} {env : Env} {Q : Flow → Shared → Prop} (h : wpAny M A (execs (body.take n) env) (fun f s' => match f with | .next => Stop (wpAny M A (execs (body.drop n) env) Q E s') | f => Q f s') E s) : wpAny M A (execs body env) Q E s := by
  rw [← List.take_append_drop n body, execs_append]
  refine wpAny_bind (wpAny_mono h (fun f s' h' => ?_) fun _ _ x => x)
  cases f <;> first | exact h' | exact wpAny_pure h'
end
theorem wpAny_seq (n : Nat) {M : Model} {A : Around} {E : Value → Shared → Prop} {s : Shared} {body : List Stmt} {env : Env} {Q : Flow → Shared → Prop} (J : Shared → Prop)
    (h1 : wpAny M A (execs (body.take n) env) (fun f s' => match f with | .next => Stop (J s') | f => Q f s') E s) (h2 : ∀ s', J s' → wpAny M A (execs (body.drop n) env) Q E s') : wpAny M A (execs body env) Q E s :=
  wpAny_split n (wpAny_mono h1 (fun f s' h' => by cases f <;> first | exact Stop.out (h2 s' h') | exact h') fun _ _ x => x)
/-- the frame with one name more, an int of which P is known -/
def J1 (s₁ : Shared) {h0 h : Heap} {L : Addr} {m : PySem.Str → Option Value} {led : Led} (uF : Fr h0 L h m) (uN : News h0 L h led) (nm : PySem.Str) (P : Int → Prop) (s' : Shared) : Prop :=
  ∃ (h' : Heap) (tk : Nat) (v : Int) (t : Tok), s' = { s₁ with heap := h', toks := tk } ∧ Fr h0 L h' (fun y => if y = nm then some (.int v t) else m y) ∧ News h0 L h' led ∧ P v
/-- the same after one draw: the box is another -/
def JD (s₁ : Shared) {h0 h : Heap} {L : Addr} {m : PySem.Str → Option Value} {rest : Led} {b l : Addr} {i j : Int} {ti tj : Tok} {n : Nat} (uF : Fr h0 L h m) (uN : News h0 L h ((b, W.listOf #[.ref l, .int i ti, .int j tj] n) :: rest)) (nm : PySem.Str) (P : Int → Prop) (s' : Shared) : Prop :=
  ∃ (h' : Heap) (tk : Nat) (i j : Int) (ti tj : Tok) (n : Nat) (v : Int) (t : Tok), s' = { s₁ with heap := h', toks := tk } ∧ Fr h0 L h' (fun y => if y = nm then some (.int v t) else m y) ∧ News h0 L h' ((b, W.listOf #[.ref l, .int i ti, .int j tj] n) :: rest) ∧ 0 ≤ i ∧ P v
theorem six_rng {wide : Int} (h : 1 ≤ wide) : (0 : Int) ≤ 1 * 2 ^ wide.toNat - 1 ∧ (1 : Int) * 2 ^ wide.toNat - 1 < 2 ^ wide.toNat ∧ (0 : Int) ≤ 1 * 2 ^ (wide - 1).toNat ∧ (1 : Int) * 2 ^ (wide - 1).toNat < 2 ^ wide.toNat ∧ (0 : Int) < 2 ^ wide.toNat ∧ (1 : Int) < 2 ^ wide.toNat := by
  have pw0 := kbt_pos wide.toNat
  have pw1 := kbt_pos (wide - 1).toNat
  have pw2 := pow_pred h
  omega
section
open PyProof.Rows.LCg
variable {prog : Program} {w : World} {A : Around} {s : Shared} {h₀ : Heap} {L : Addr} {m : PySem.Str → Option Value} {env : Env}
/-- a comprehension's turns, by an invariant of the list so far and of the ledger -/
theorem comp_rest {elt : Expr} {x : PySem.Str} {scope : Scope} {cl : List (PySem.Str × Addr)} {S : Led → Prop} {P : Nat → Value → Prop} {Fin : List Value → Led → Prop} {n : Nat} (J : Nat → List Value → Led → Prop)
    (fin : ∀ ys news, J n ys news → Fin ys news)
    (step : ∀ i ys news, i < n → J i ys news → ∀ v I oI C oC D m₂ h tk (E' : Value → Shared → Prop), P i v → NsObj oC m₂ → m₂ x = some v → Fr h₀ L h m → News h₀ L h ((I, oI) :: (C, oC) :: (D, lst ys) :: news) → Off3 I C D news → ((@Ne Nat I C) ∧ (@Ne Nat I D) ∧ (@Ne Nat C D)) →
      wpAny (model prog w) A (eval elt (compEnvC scope cl C env)) (CompEnd h₀ L m { s with heap := h, toks := tk } I oI C oC D (lst ys) S (fun y news' => J (i + 1) (ys ++ [y]) news')) E' { s with heap := h, toks := tk }) :
    ∀ k i ys news, i + k = n → J i ys news → CompRest prog w A h₀ L m env elt x scope cl s S P Fin k i ys news
  | 0, i, ys, news, e, hJ => by
    have e' : i = n := e
    subst e'
    exact fin ys news hJ
  | k + 1, i, ys, news, e, hJ => by
    intro v I oI C oC D m₂ h tk E' h1 h2 h3 h4 h5 h6 h7
    refine wpAny_mono (step i ys news (by omega) hJ v I oI C oC D m₂ h tk E' h1 h2 h3 h4 h5 h6 h7) (fun y s₂ h₂ => ?_) fun _ _ e => e
    obtain ⟨h', tk', news', e1, e2, e3, e4, e5, e6⟩ := h₂
    exact ⟨h', tk', news', e1, e2, e3, e4, e5, comp_rest J fin step k (i + 1) (ys ++ [y]) news' (by omega) e6⟩
end
/-- the words drawn so far, and the box as it stands -/
def JW (b l : Addr) (rest : Led) (top : Int) (i : Nat) (ys : List Value) (news : Led) : Prop :=
  ∃ (bi bj : Int) (ti tj : Tok) (nn : Nat) (ks : List Int), news = (b, W.listOf #[.ref l, .int bi ti, .int bj tj] nn) :: rest ∧ 0 ≤ bi ∧ IntsAre ys ks ∧ ks.length = i ∧ ∀ n ∈ ks, 0 ≤ n ∧ n < top
/-- the mirrored words so far -/
def JM (all : Led) (ks : List Int) (size : Int) (i : Nat) (ys : List Value) (news : Led) : Prop :=
  news = all ∧ IntsAre ys ((ks.take i).map fun n => mirZ n size)
theorem ints_at {vs : List Value} {ks : List Int} (h : IntsAre vs ks) (i : Nat) {v : Value} (e : vs.toArray[i]? = some v) : ∃ n t, v = .int n t ∧ ks[i]? = some n := IntsAre.at h i v (by simpa using e)
theorem JM.step {all : Led} {ks : List Int} {size n : Int} {i : Nat} {ys : List Value} {t : Tok} (h : IntsAre ys ((ks.take i).map fun n => mirZ n size)) (hn : ks[i]? = some n) : JM all ks size (i + 1) (ys ++ [.int (mirZ n size) t]) all := by
  refine ⟨rfl, ?_⟩
  rw [List.take_succ, hn, List.map_append]
  exact h.append (.cons _ _ .nil)
theorem compute_use (w : World) (bits poly first last size : Int) (tin tout : Bool) (k0 k1 k2 k3 k4 k5 k6 v0 v1 v2 v3 v4 : Tok) (x dx l : Addr) (vs : List Value) (ns : List Int) (n2 : Nat) (all : Led) (s : Shared) (Q E : Value → Shared → Prop) :
  Sig2 w fun mean mg mb dp un gd cn cs a ccd cl outer h₀ L m =>
    Fr h₀ L s.heap m → News h₀ L s.heap all → (x, instObj 139 dx) ∈ all → (dx, dictOf (parE w bits poly first tin tout last size k0 k1 k2 k3 k4 k5 k6 v0 v1 v2 v3 v4) 7) ∈ all → (l, W.listOf vs.toArray n2) ∈ all → IntsAre vs ns → ns.length ≤ 24 →
    1 ≤ bits → bits ≤ 12 → 1 ≤ size → size ≤ 9 → 0 ≤ poly → poly < 2 ^ bits.toNat → 0 ≤ first → first < 2 ^ bits.toNat → 0 ≤ last → last < 2 ^ bits.toNat → (∀ n ∈ ns, 0 ≤ n ∧ n < 2 ^ size.toNat) →
    (∀ (t : Tok) (h' : Heap) (tk' : Nat), Fr h₀ L h' m → News h₀ L h' all → Q (.int (crcF bits poly first tin tout last size ns) t) { s with heap := h', toks := tk' }) →
    wpAny (model PR w) (ktrTop dp un gd cn cs L a ccd cl outer) (call (.ref 112) [.ref x, .ref l]) Q E s := by
  intro mean mg mb dp un gd cn cs a ccd cl outer A₀ base h₀ L m B X T hk hd hu F N m1 m2 m3 hI hlen h1 h2 h3 h4 h5 h6 h7 h8 h9 h10 hns hret
  refine compute_c w bits poly first last size tin tout k0 k1 k2 k3 k4 k5 k6 v0 v1 v2 v3 v4 x dx l vs ns n2 all s Q E mean mg mb dp un gd cn cs a ccd cl outer A₀ base h₀ L m B X T hk hd hu F ?_ hI hlen h1 h2 h3 h4 h5 h6 h7 h8 h9 h10 hns ?_
  · intro p hp
    rcases List.mem_cons.mp hp with rfl | hp
    · exact N _ m1
    · rcases List.mem_cons.mp hp with rfl | hp
      · exact N _ m2
      · rcases List.mem_cons.mp hp with rfl | hp
        · exact N _ m3
        · exact N _ hp
  · intro t h' tk' F' N'
    exact hret t h' tk' F' fun p hp => N' p (.tail _ (.tail _ (.tail _ hp)))
theorem range_small {r : Int} (h0 : 0 ≤ r) (h1 : r < 100) : Builtin.Range.small 0 r 1 = true := by
  have e : (2 : Int) ^ 62 = 4611686018427387904 := by decide
  exact small_one (by omega) (by omega) (by omega) (by omega)
theorem ve_isExc : isSubtype (.type "ValueError") (.type "BaseException") = pure true := by rw [isSubtype_type]; kernel_rfl
theorem ve_sub : isSubtype (.type "ValueError") (.type "ValueError") = pure true := by rw [isSubtype_type]; kernel_rfl
theorem ve_notTuple : isSubtype (.type ((Manifest.find? "ValueError").elim "type" fun x => x.metatype)) (.type "tuple") = pure false := by
  rw [show (Manifest.find? "ValueError").elim "type" (fun x => x.metatype) = "type" from by kernel_rfl, isSubtype_type]; kernel_rfl
/-- the frame as it was -/
def J0 (s₁ : Shared) {h0 h : Heap} {L : Addr} {m : PySem.Str → Option Value} {led : Led} (uF : Fr h0 L h m) (uN : News h0 L h led) (s' : Shared) : Prop :=
  ∃ (h' : Heap) (tk : Nat), s' = { s₁ with heap := h', toks := tk } ∧ Fr h0 L h' m ∧ News h0 L h' led
theorem news_sub {h₀ h : Heap} {L : Addr} {big small : Led} (N : News h₀ L h big) (sub : ∀ p ∈ small, p ∈ big) : News h₀ L h small := fun p hp => N p (sub p hp)
theorem crc_plain_bd {bits poly first size : Int} (h1 : 0 ≤ bits) (h2 : 0 ≤ size) (hf : 0 ≤ first) (hf2 : first < 2 ^ bits.toNat) (ws : List Int) : 0 ≤ crcF bits poly first false false 0 size ws ∧ crcF bits poly first false false 0 size ws < 2 ^ bits.toNat := by
  rw [crc_plain]
  exact regF_bd h1 h2 hf hf2 ws
/-- the names of the loop, whatever they hold -/
def J3 (s₁ : Shared) {h0 h : Heap} {L : Addr} {m : PySem.Str → Option Value} {led : Led} (uF : Fr h0 L h m) (uN : News h0 L h led) (s' : Shared) : Prop :=
  ∃ (h' : Heap) (tk : Nat) (o1 o2 o3 : Option Value), s' = { s₁ with heap := h', toks := tk } ∧ Fr h0 L h' (fun y => if y = Str.ofString "told" then o1 else if y = Str.ofString "one" then o2 else if y = Str.ofString "both" then o3 else m y) ∧ News h0 L h' led
theorem fr_pick3 {h0 h : Heap} {L : Addr} {m mF : PySem.Str → Option Value} {a b c : PySem.Str} (F : Fr h0 L h mF) (e : ∀ y, ¬ y = a → ¬ y = b → ¬ y = c → mF y = m y) : Fr h0 L h (fun y => if y = a then mF a else if y = b then mF b else if y = c then mF c else m y) := by
  refine ⟨?_, F.keep, F.above⟩
  obtain ⟨o, es, ep, h1, h2, h3, h4⟩ := F.ns
  refine ⟨o, es, ep, h1, h2, h3, fun y => (h4 y).trans ?_⟩
  show mF y = if y = a then mF a else if y = b then mF b else if y = c then mF c else m y
  by_cases ha : y = a
  · rw [if_pos ha, ha]
  rw [if_neg ha]
  by_cases hb : y = b
  · rw [if_pos hb, hb]
  rw [if_neg hb]
  by_cases hc : y = c
  · rw [if_pos hc, hc]
  rw [if_neg hc]
  exact e y ha hb hc
theorem one_le_shl (k : Nat) : (1 : Int) ≤ 1 * 2 ^ k := by
  have := kbt_pos k
  omega
theorem word_rng (x : Int) (k : Nat) : 0 ≤ Int.fmod x (1 * 2 ^ k) ∧ Int.fmod x (1 * 2 ^ k) < 2 ^ k := by
  have := kbt_pos k
  rw [Int.one_mul]
  exact ⟨fmod_lo x this, fmod_hi x this⟩
theorem short_rng {x : Int} {k d : Nat} (h0 : 0 ≤ x) (h1 : x < 2 ^ k) : 0 ≤ Int.fdiv x (2 ^ d) ∧ Int.fdiv x (2 ^ d) < 2 ^ k := by
  have hp := kbt_pos d
  rw [Int.fdiv_eq_ediv_of_nonneg _ (Int.le_of_lt hp)]
  exact ⟨Int.ediv_nonneg h0 (Int.le_of_lt hp), Int.lt_of_le_of_lt (Int.ediv_le_self _ h0) h1⟩
local macro_rules | `(tactic| walk_at "call ref") => `(tactic| (k_here; (with_reducible show wpAny _ _ (call (Value.ref 150) [Value.ref _, Value.int _ _]) _ _ _); (k_dflt (refine' draw_use _ _ _ _ _ _ _ _ _ _ _ _ _ _ _ _ _ _ _ _ _ _ _ _ _ _ _ _ _ _ _ _ _ _ ?kB ?kX ?kT ?kK ?kd ?ku ?kF ?kN ?kl ?kI ?klen ?krest ?ki ?km ?_; (case kB => k_asm); (case kX => k_asm); (case kT => k_asm); (case kK => first | exact rfl | assumption); (case kd => ktr_room); (case ku => ktr_units); (case kF => k_asm); (case kN => k_asm); (case kl => k_mem); (case kI => l_ints); (case klen => first | exact List.length_take_le _ _ | omega | (simp only [List.length_take]; omega)); (case krest => k_all); (case ki => first | assumption | omega); (case km => first | exact one_le_shl _ | omega))); intro i9 j9 r9 t1 t2 t3 n9 h9 tk9 F9 N9 hi9 hr9 hr9'; (try dsimp only); (try k_fold)))
local macro_rules | `(tactic| walk_at "call ref") => `(tactic| (k_here; (with_reducible show wpAny _ _ (call (Value.ref 119) [Value.int _ _, Value.int _ _]) _ _ _); (k_dflt (refine' reflect_d _ _ _ _ _ _ _ _ _ _ _ _ _ _ _ _ _ _ _ _ _ _ _ _ _ _ ?kB ?kX ?kT ?kK ?kd ?ku ?kF ?kN ?p1 ?p2 ?p3 ?p4 ?_; (case kB => k_asm); (case kX => k_asm); (case kT => k_asm); (case kK => first | exact rfl | assumption); (case kd => ktr_room); (case ku => ktr_units); (case kF => k_asm); (case kN => k_asm); (case p1 => first | assumption | omega); (case p2 => first | assumption | omega); (case p3 => first | assumption | omega); (case p4 => first | assumption | omega))); intro t9 h9 tk9 F9 N9 mz0 mz1 mz2; (try dsimp only); (try k_fold)))
local macro_rules | `(tactic| walk_at "call ref") => `(tactic| (k_here; (with_reducible show wpAny _ _ (call (Value.ref 157) [Value.int _ _, Value.int _ _]) _ _ _); (k_dflt (refine' mirror_c _ _ _ _ _ _ _ _ _ _ _ _ _ _ _ _ _ _ _ _ _ _ _ _ _ _ ?kB ?kX ?kT ?kK ?kd ?ku ?kF ?kN ?p1 ?p2 ?p3 ?_; (case kB => k_asm); (case kX => k_asm); (case kT => k_asm); (case kK => first | exact rfl | assumption); (case kd => ktr_room); (case ku => ktr_units); (case kF => k_asm); (case kN => k_asm); (case p1 => first | assumption | omega); (case p2 => first | assumption | omega); (case p3 => first | assumption | omega))); intro t9 h9 tk9 F9 N9; (try dsimp only); (try k_fold)))
local macro_rules | `(tactic| walk_at "binaryOp LShift int int") => `(tactic| (k_here; (with_reducible refine lshift_int_small ?kb1 ?kb2 ?kb3 ?_); (case kb1 => first | assumption | omega); (case kb2 => first | assumption | omega); (case kb3 => decide)))
local macro_rules | `(tactic| walk_at "pyIter ref") => `(tactic| (k_here; (with_reducible show wpAny _ _ (pyIter (Value.ref _)) (fun it s₂ => TurnsAt _ _ _ _ _ _ _ _ _ it s₂) _ _); ktu_seq; (try dsimp only)))
local macro_rules | `(tactic| walk_at "ItemsRest") => `(tactic| ((with_unfolding_all refine ItemsRest.val (fun h' tk' F' => ?_)); ktu_objs; (try dsimp only)))
local macro_rules | `(tactic| walk_at "exec Return some") => `(tactic| (k_here; exfalso; contradiction))
local macro_rules | `(tactic| k_sub) => `(tactic| (intro p hp; (first | exact hp | exact .tail _ hp | exact .tail _ (.tail _ hp) | exact .tail _ (.tail _ (.tail _ hp)) | exact .tail _ (.tail _ (.tail _ (.tail _ hp))) | exact .tail _ (.tail _ (.tail _ (.tail _ (.tail _ hp)))) | exact .tail _ (.tail _ (.tail _ (.tail _ (.tail _ (.tail _ hp))))))))
local macro_rules | `(tactic| walk_at "CompSrc") => `(tactic| (k_here; (with_reducible show PyProof.Rows.LCg.CompSrc _ _ _ _ _ _ _ _ _ _ _ (fun s₂ => PyProof.Rows.LCg.FinA _ _ _ s₂ _ _) _ _); refine stop_ ?_))
local macro_rules | `(tactic| walk_at "call ref") => `(tactic| (k_here; (with_reducible show wpAny _ _ (call (Value.ref 164) _) _ _ _); (k_dflt (refine' check_c _ _ _ _ _ _ _ _ _ _ _ _ _ _ _ _ _ _ _ _ _ _ _ _ _ _ _ _ _ _ _ _ _ _ ?kB ?kX ?kT ?kK ?kd ?ku ?kF ?kN ?p1 ?p2 ?p3 ?p4 ?p5 ?p6 ?p7 ?p8 ?p9 ?_; (case kB => k_asm); (case kX => k_asm); (case kT => k_asm); (case kK => first | exact rfl | assumption); (case kd => ktr_room); (case ku => ktr_units); (case kF => k_asm); (case kN => k_asm); (case p1 => assumption); (case p2 => assumption); (case p3 => assumption); (case p4 => assumption); (case p5 => assumption); (case p6 => assumption); (case p7 => first | assumption | exact Int.le_refl 0); (case p8 => first | assumption | exact kbt_pos _); (case p9 => assumption))); intro e0 e1 e2 e3 e4 e5 e6 f0 f1 f2 f3 f4 x9 dx9 h9 tk9 F9 N9 lt9 lx9; (try dsimp only); (try k_fold)))
local macro_rules | `(tactic| walk_at "call ref") => `(tactic| (k_here; (with_reducible show wpAny _ _ (call (Value.ref 112) _) _ _ _); (k_dflt (refine' compute_use _ _ _ _ _ _ _ _ _ _ _ _ _ _ _ _ _ _ _ _ _ _ _ _ _ _ _ _ _ _ _ _ _ _ _ _ _ _ _ _ _ _ _ _ _ _ _ ?kB ?kX ?kT ?kK ?kd ?ku ?kF ?kN ?m1 ?m2 ?m3 ?kI ?kl ?p1 ?p2 ?p9 ?p10 ?p3 ?p4 ?p5 ?p6 ?p7 ?p8 ?kns ?_; (case kB => k_asm); (case kX => k_asm); (case kT => k_asm); (case kK => first | exact rfl | assumption); (case kd => ktr_room); (case ku => ktr_units); (case kF => k_asm); (case kN => k_asm); (case m1 => k_mem); (case m2 => k_mem); (case m3 => k_mem); (case kI => assumption); (case kl => assumption); (case p1 => assumption); (case p2 => assumption); (case p3 => assumption); (case p4 => assumption); (case p5 => assumption); (case p6 => assumption); (case p7 => first | assumption | exact Int.le_refl 0); (case p8 => first | assumption | exact kbt_pos _); (case p9 => assumption); (case p10 => assumption); (case kns => assumption))); intro t9 h9 tk9 F9 N9; (try dsimp only); (try k_fold)))
theorem main : PySem.Challenge.rw_ep5001_01.Holds := by
  refine hd ?_
  k_fill
  intro w s₀ s₁ mg mb G Y fa o pm cd doc dV kV ho hd hcd hD hmg hg args vals as hpre hlay hrd hwl hlo
  have KX := kIn_of Y
  have X := (Ground.X G).1
  have V := (Ground.X G).2
  refine Ground.open G ?_
  intro T B D TE TW
  obtain ⟨_, _, M⟩ := bmod_of_top T
  clear hmg
  wrow_args hpre hlay hrd hwl hlo
  w_top on
  refine codeC_mono ?_ (fun _ _ g => GoodW.toG g)
  have K0 := below_caller (Top.heap T)
  have he := Dflts.none hD rfl; subst he; have he := Dflts.noKw hD; subst he
  refine call_cellsC (by decide) ho (fd_plain hd) (Top.nolimit T) hcd rfl (kinds_of (by kinds_ok)) (by decide) fun h₁ tk₁ cells F N0 X0 => ?_
  cells_open X0
  k_drop
  refine wpC_split 7 ?_
  refine wpAny_split 1 ?_
  dsimp only [List.take, List.drop]
  k_fold
  k_steps
  refine Stop.out ?_
  rename Fr _ _ _ _ => F2
  rename News _ _ _ _ => N2
  refine wpAny_seq 1 (JD s₁ F2 N2 (Str.ofString "wide") (fun v => 1 ≤ v ∧ v ≤ 70)) ?_ ?_
  · skip
    dsimp only [List.take, List.drop]
    k_fold
    k_steps
    refine Stop.out ⟨_, _, _, _, _, _, _, _, _, rfl, by k_asm, by k_asm, by assumption, by omega, by omega⟩
  rintro s' ⟨h3, tk3, i3, j3, ti3, tj3, n3, wide, tw, rfl, F3, N3, hi3, hw1, hw2⟩
  dsimp only [List.take, List.drop]
  clear F2 N2
  refine wpAny_seq 1 (J1 s₁ F3 N3 (Str.ofString "word") (fun v => 0 ≤ v ∧ v < 2 ^ wide.toNat)) ?_ ?_
  · skip
    dsimp only [List.take, List.drop]
    k_fold
    k_steps
    all_goals refine Stop.out ⟨_, _, _, _, rfl, by k_asm, by k_asm, word_rng _ _⟩
  rintro s' ⟨h4, tk4, word, tx, rfl, F4, N4, hx0, hx1⟩
  dsimp only [List.take, List.drop]
  clear F3 N3
  refine wpAny_seq 1 (JD s₁ F4 N4 (Str.ofString "short") (fun v => 0 ≤ v ∧ v < 2 ^ wide.toNat)) ?_ ?_
  · skip
    dsimp only [List.take, List.drop]
    k_fold
    k_steps
    refine Stop.out ⟨_, _, _, _, _, _, _, _, _, rfl, by k_asm, by k_asm, by assumption, short_rng hx0 hx1⟩
  rintro s' ⟨h5, tk5, i5, j5, ti5, tj5, n5, short, ts, rfl, F5, N5, hi5, hs0, hs1⟩
  dsimp only [List.take, List.drop]
  clear F4 N4
  have q8 : wide - 1 ≤ 1000000 := by omega
  have q9 : wide ≤ 72 := by omega
  have q10 : wide ≤ 80 := by omega
  have q11 : 0 ≤ wide := by omega
  refine wpAny_seq 2 (J3 s₁ F5 N5) ?_ ?_
  · skip
    dsimp only [List.take, List.drop]
    try k_fold
    obtain ⟨q1, q2, q3, q4, q5, q6⟩ := six_rng hw1
    have q7 : 0 ≤ wide - 1 := by omega
    obtain ⟨pb1, pb2⟩ := both_rng hx0 hx1 hw1
    have pe := both_ends hx0 hw1
    k_steps
    all_goals (rename Fr _ _ _ _ => FF; rename News _ _ _ _ => NN; refine Stop.out ⟨_, _, _, _, _, rfl, fr_pick3 FF (by intro y a b c; simp only [if_neg a, if_neg b, if_neg c]), fun p hp => NN p (.tail _ hp)⟩)
  rintro s' ⟨h6, tk6, o1, o2, o3, rfl, F6, N6⟩
  dsimp only [List.take, List.drop]
  clear F5 N5 hs0 hs1
  k_fold
  k_steps
  refine Stop.out ?_
  rename Fr _ _ _ _ => F7
  rename News _ _ _ _ => N7
  refine wpC_execs_cons (wpC_Try (wpC_execs_cons (wpC_Expr_raises (wpC_methodCall ?_))))
  k_steps
  dsimp only
  refine wpC_callWith_K KX (by k_is) ?_
  k_steps
  rename Fr _ _ _ _ => F8
  rename News _ _ _ _ => N8
  refine reflect_refuses w word wide _ _ _ _ _ _ mg mb _ _ _ _ _ _ _ _ _ callerA s₁.heap s₁.heap _ _ K0 KX T rfl ?kd ?ku F8 N8 hx0 hx1 hw1 hw2 s₁.heap ⟨rfl, K0.stays, K0.frames⟩ ?_
  case kd => ktr_room
  case ku => ktr_units
  intro ev h9 h10 tk10 hR FU hU
  refine caught_X0 (T' := "ValueError") K0 FU hU hR KX (topRead_of T) ?k1 (by decide +kernel) ve_isExc ve_notTuple ve_sub ?_ ?k2
  case k1 => k_is
  case k2 => decide
  intro h11 F11 N11
  k_fold
  k_steps
  rename Fr _ _ _ _ => F12
  rename News _ _ _ _ => N12
  try clear FU hU hR
  refine wpC_of ?_
  refine wpAny_seq 2 (JD s₁ F12 N12 (Str.ofString "bits") (fun v => 1 ≤ v ∧ v ≤ 12)) ?_ ?_
  · skip
    dsimp only [List.take, List.drop]
    k_fold
    k_steps
    refine Stop.out ⟨_, _, _, _, _, _, _, _, _, rfl, by k_asm, by k_asm, by assumption, by omega, by omega⟩
  rintro s' ⟨h13, tk13, i13, j13, ti13, tj13, n13, bits, tb, rfl, F13, N13, hi13, hb1, hb2⟩
  dsimp only [List.take, List.drop]
  try clear F12 N12
  have b0 : 0 ≤ bits := by omega
  have b3 : bits ≤ 1000000 := by omega
  refine wpAny_split 1 ?_
  dsimp only [List.take, List.drop]
  k_fold
  k_steps
  refine Stop.out ?_
  rename Int => rz
  rename rz < _ => hrz
  rename 0 ≤ rz => hrz0
  rename Fr _ _ _ _ => F14
  rename News _ _ _ _ => N14
  try clear F13 N13
  have hz1 : 1 ≤ 1 + rz := by omega
  have hz2 : 1 + rz ≤ 9 := by omega
  have hz3 : 0 ≤ 1 + rz := by omega
  have hz4 : 1 + rz ≤ 1000000 := by omega
  refine wpAny_seq 1 (JD s₁ F14 N14 (Str.ofString "poly") (fun v => 0 ≤ v ∧ v < 2 ^ bits.toNat)) ?_ ?_
  · skip
    dsimp only [List.take, List.drop]
    k_fold
    k_steps
    refine Stop.out ⟨_, _, _, _, _, _, _, _, _, rfl, by k_asm, by k_asm, by assumption, by omega, by omega⟩
  rintro s' ⟨h15, tk15, i15, j15, ti15, tj15, n15, poly, tpoly, rfl, F15, N15, hi15, poly0, poly1⟩
  dsimp only [List.take, List.drop]
  clear F14 N14
  refine wpAny_seq 1 (JD s₁ F15 N15 (Str.ofString "first") (fun v => 0 ≤ v ∧ v < 2 ^ bits.toNat)) ?_ ?_
  · skip
    dsimp only [List.take, List.drop]
    k_fold
    k_steps
    refine Stop.out ⟨_, _, _, _, _, _, _, _, _, rfl, by k_asm, by k_asm, by assumption, by omega, by omega⟩
  rintro s' ⟨h16, tk16, i16, j16, ti16, tj16, n16, first, tfirst, rfl, F16, N16, hi16, first0, first1⟩
  dsimp only [List.take, List.drop]
  clear F15 N15
  refine wpAny_seq 1 (JD s₁ F16 N16 (Str.ofString "last") (fun v => 0 ≤ v ∧ v < 2 ^ bits.toNat)) ?_ ?_
  · skip
    dsimp only [List.take, List.drop]
    k_fold
    k_steps
    refine Stop.out ⟨_, _, _, _, _, _, _, _, _, rfl, by k_asm, by k_asm, by assumption, by omega, by omega⟩
  rintro s' ⟨h17, tk17, i17, j17, ti17, tj17, n17, last, tlast, rfl, F17, N17, hi17, last0, last1⟩
  dsimp only [List.take, List.drop]
  clear F16 N16
  refine wpAny_split 1 ?_
  dsimp only [List.take, List.drop]
  k_fold
  k_steps
  rename IsRange _ _ _ _ _ _ _ _ => rgX
  rename Int => r6
  rename r6 < (6 : Int) => hr6
  rename 0 ≤ r6 => hr60
  rename Fr _ _ _ _ => F18
  rename News _ _ _ _ => N18
  refine Stop.out ?_
  refine LCg.CompSrc.range rfl F18 N18 rgX (range_small hr60 (by omega)) (rangeSize_nat _ _) (by rw [sizeLine_eq]; omega) (fun g => comp_rest (JW _ _ _ (2 ^ (1 + rz).toNat)) ?fin ?step _ 0 [] _ (Nat.zero_add _) ⟨_, _, _, _, _, [], rfl, by assumption, .nil, rfl, by simp⟩)
  case step =>
    rintro i ys1 news1 _ ⟨bi, bj, ti, tj, nn, ks, rfl, hbi, hI, hlen, hrng⟩ v I oI C oC D m₂ hh tkk E' _ hC hx FF NN off ne
    clear F18 N18
    simp only [LCg.Off3, and_true] at off
    have NN2 : News s₁.heap s₁.heap.objs.size hh (_ :: (I, oI) :: (C, oC) :: (D, LCg.lst ys1) :: _) := fun p hp => NN p (by rcases List.mem_cons.mp hp with rfl | hp; exact .tail _ (.tail _ (.tail _ (.head _))); rcases List.mem_cons.mp hp with rfl | hp; exact .head _; rcases List.mem_cons.mp hp with rfl | hp; exact .tail _ (.head _); rcases List.mem_cons.mp hp with rfl | hp; exact .tail _ (.tail _ (.head _)); exact .tail _ (.tail _ (.tail _ (.tail _ hp))))
    clear NN
    dsimp only
    k_steps
    rename Int => r9
    refine ⟨_, _, _, _, _, ks ++ [r9], rfl, by assumption, hI.append (.cons r9 _ .nil), by simp [hlen], ?_⟩
    intro n hn
    rcases List.mem_append.mp hn with hn | hn
    · exact hrng n hn
    · rw [List.mem_singleton.mp hn]
      rename r9 < _ => hr9
      exact ⟨by assumption, by rw [Int.one_mul] at hr9; exact hr9⟩
  case fin =>
    clear rgX F18 N18
    rintro ys1 news1 ⟨bi, bj, ti, tj, nn, ks, rfl, hbi, hI, hlen, hrng⟩ dw h19 tk19 F19 N19 o19
    simp only [LCg.Off1, and_true] at o19
    have hl5 : ks.length ≤ 5 := by omega
    dsimp only
    k_steps
    refine Stop.out ?_
    refine wpAny_split 2 ?_
    dsimp only [List.take, List.drop]
    k_fold
    k_steps
    rename Fr _ _ _ _ => F20
    rename News _ _ _ _ => N20
    refine Stop.out ?_
    refine LCg.CompSrc.ledger (its := ys1.toArray) (k := ys1.length) rfl F20 N20 (by k_mem) (by rw [List.size_toArray, hI.length, sizeLine_eq]; omega) (fun g => comp_rest (JM _ ks (1 + rz)) ?fin2 ?step2 _ 0 [] _ (Nat.zero_add _) ⟨rfl, .nil⟩)
    case step2 =>
      rintro i ys2 news2 _ ⟨rfl, hI2⟩ v I oI C oC D m₂ hh tkk E' hv hC hx FF NN off ne
      clear F20 N20
      obtain ⟨n, tn, rfl, hn⟩ := ints_at hI i hv
      have hn0 := (hrng n (List.mem_of_getElem? hn)).1
      have off0 := off
      simp only [LCg.Off3, and_true] at off
      have hz5 : 1 + rz ≤ 80 := by omega
      dsimp only
      iterate 11 walk1
      rename Fr _ _ _ _ => F9
      rename News _ _ _ _ => N9
      exact LCg.CompEnd.intro F9 N9 _ (fun p hp => hp) off0 (.inr ⟨_, by k_mem, rfl, _, rfl⟩) (JM.step hI2 hn)
    case fin2 =>
      clear F20 N20
      rintro ys2 news2 ⟨rfl, hI2⟩ dm h21 tk21 F21 N21 o21
      simp only [LCg.Off1, and_true] at o21
      rw [List.size_toArray, hI.length, List.take_length] at hI2
      have hl24 : ks.length ≤ 24 := by omega
      have hm24 : (ks.map fun n => mirZ n (1 + rz)).length ≤ 24 := by rw [List.length_map]; exact hl24
      have hmr : ∀ n ∈ (ks.map fun n => mirZ n (1 + rz)), 0 ≤ n ∧ n < 2 ^ (1 + rz).toNat := by
        intro n hn
        obtain ⟨z, _, rfl⟩ := List.mem_map.mp hn
        exact ⟨mirZ_nonneg _ _, mirZ_lt _ _⟩
      obtain ⟨rg0, rg1⟩ := crc_plain_bd (poly := poly) b0 hz3 first0 first1 ks
      obtain ⟨rm0, rm1⟩ := crc_plain_bd (poly := poly) b0 hz3 first0 first1 (ks.map fun n => mirZ n (1 + rz))
      have hb80 : bits ≤ 80 := by omega
      dsimp only
      k_steps
      rename Fr _ _ _ _ => F22
      rename News _ _ _ _ => N22
      refine Stop.out ?_
      refine wpAny_seq 1 (J0 s₁ F22 N22) ?_ ?_
      · skip
        have ci := crc_in bits poly first (1 + rz) ks
        try dsimp only [List.take, List.drop]
        try k_fold
        k_steps
        all_goals (rename Fr _ _ _ _ => FF; rename News _ _ _ _ => NN; refine Stop.out ⟨_, _, rfl, FF, news_sub NN ?_⟩; k_sub)
      rintro s' ⟨h23, tk23, rfl, F23, N23⟩
      dsimp only [List.take, List.drop]
      try clear F21 N21
      clear F22 N22
      refine wpAny_seq 1 (J1 s₁ F23 N23 (Str.ofString "register") (fun v => v = crcF bits poly first false false 0 (1 + rz) ks)) ?_ ?_
      · skip
        try dsimp only [List.take, List.drop]
        try k_fold
        k_steps
        all_goals (rename Fr _ _ _ _ => FF; rename News _ _ _ _ => NN; refine Stop.out ⟨_, _, _, _, rfl, FF, news_sub NN ?_, rfl⟩; k_sub)
      rintro s' ⟨h24, tk24, reg, treg, rfl, F24, N24, hreg⟩
      subst hreg
      dsimp only [List.take, List.drop]
      clear F23 N23
      refine wpAny_seq 1 (J0 s₁ F24 N24) ?_ ?_
      · skip
        have ci := crc_out bits poly first last (1 + rz) ks
        try dsimp only [List.take, List.drop]
        try k_fold
        k_steps
        all_goals (rename Fr _ _ _ _ => FF; rename News _ _ _ _ => NN; refine Stop.out ⟨_, _, rfl, FF, news_sub NN ?_⟩; k_sub)
      rintro s' ⟨h25, tk25, rfl, F25, N25⟩
      dsimp only [List.take, List.drop]
      clear F24 N24
      refine wpAny_seq 1 (J0 s₁ F25 N25) ?_ ?_
      · skip
        have ci := crc_last bits poly first last (1 + rz) ks
        try dsimp only [List.take, List.drop]
        try k_fold
        k_steps
        all_goals (rename Fr _ _ _ _ => FF; rename News _ _ _ _ => NN; refine Stop.out ⟨_, _, rfl, FF, news_sub NN ?_⟩; k_sub)
      rintro s' ⟨h26, tk26, rfl, F26, N26⟩
      dsimp only [List.take, List.drop]
      clear F25 N25
      refine wpAny_seq 1 (J1 s₁ F26 N26 (Str.ofString "both") (fun v => v = crcF bits poly first true true last (1 + rz) ks)) ?_ ?_
      · skip
        try dsimp only [List.take, List.drop]
        try k_fold
        k_steps
        all_goals (rename Fr _ _ _ _ => FF; rename News _ _ _ _ => NN; refine Stop.out ⟨_, _, _, _, rfl, FF, news_sub NN ?_, rfl⟩; k_sub)
      rintro s' ⟨h27, tk27, bth, tbth, rfl, F27, N27, hbth⟩
      subst hbth
      dsimp only [List.take, List.drop]
      clear F26 N26
      have ci := crc_both bits poly first last (1 + rz) ks
      try dsimp only [List.take, List.drop]
      try k_fold
      k_steps
end Mine
end
theorem PySem.Challenge.cw_ep5001_01_holds : PySem.Challenge.rw_ep5001_01.Holds :=
  Mine.main
