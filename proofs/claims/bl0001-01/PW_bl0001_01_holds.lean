import PyProof.Rows.All
import Wide.All
import OpenK.AllK
import Wide.FinOn
import PySem.Challenge.RW_bl0001_01
set_option Elab.async false
set_option linter.unusedSimpArgs false
set_option linter.unusedVariables false
section
open PySem PySem.W PyProof.Rows PySem.Calls
namespace Mine
open Sem (wp)

/-- the caller of a claim stands on the stack -/
def Cb (Γ : Ctx) : Prop := (Γ.below.any fun x => x.1.isCaller) = true
theorem Cb.goto {Γ : Ctx} (h : Cb Γ) (c : Code) : Cb (Γ.goto c) := h
theorem Cb.enter {Γ : Ctx} (h : Cb Γ) (c : Code) (hd : Option Value) (p : Pos) : Cb (Γ.enter c hd p) := by
  unfold Cb at h ⊢
  show (((Γ.code, p) :: Γ.below).any fun x => x.1.isCaller) = true
  rw [List.any_cons, h, Bool.or_true]

/-- as wpAny, said of the stacks alone that bear a claim's caller -/
def wpC {α : Type} (M : Model) (A : Around) (t : Sem α) (Q : α → Shared → Prop) (E : Value → Shared → Prop) (s : Shared) : Prop :=
  ∀ Γ p, Γ.In A → Cb Γ → wp M Γ t (fun a _ s' => Q a s') (fun e _ s' => E e s') p s
def codeC (M : Model) (A : Around) (c : Code) (R : Result → Shared → Prop) (s : Shared) : Prop :=
  ∀ Γ p, Γ.code = c → Γ.Below A → Cb Γ → wpCode M Γ R p s

section
variable {α β : Type} {M : Model} {A : Around} {E : Value → Shared → Prop} {s : Shared}
theorem C.any {t : Sem α} {Q : α → Shared → Prop} (h : wpAny M A t Q E s) : wpC M A t Q E s := fun Γ p hΓ _ => h Γ p hΓ
theorem C.codeAny {c : Code} {R : Result → Shared → Prop} (h : codeAny M A c R s) : codeC M A c R s := fun Γ p hc hΓ _ => h Γ p hc hΓ
theorem C.pure {a : α} {Q : α → Shared → Prop} (h : Q a s) : wpC M A (Pure.pure a) Q E s := fun _ _ _ _ => h
theorem C.mono {t : Sem α} {Q Q' : α → Shared → Prop} {E' : Value → Shared → Prop} (h : wpC M A t Q E s) (hQ : ∀ a s, Q a s → Q' a s) (hE : ∀ e s, E e s → E' e s) : wpC M A t Q' E' s :=
  fun Γ p hΓ hC => Sem.wp_mono M Γ t (fun a _ s => hQ a s) (fun e _ s => hE e s) p s (h Γ p hΓ hC)
theorem C.bind {m : Sem α} {f : α → Sem β} {Q : β → Shared → Prop} (h : wpC M A m (fun a s' => wpC M A (f a) Q E s') E s) : wpC M A (m >>= f) Q E s := fun Γ p hΓ hC => by
  rw [Sem.wp_bind']
  exact Sem.wp_mono M Γ m (fun a p' s' h' => h' Γ p' hΓ hC) (fun _ _ _ h' => h') p s (h Γ p hΓ hC)
/-- first a part that asks nothing of the stack -/
theorem C.bindA {m : Sem α} {f : α → Sem β} {Q : β → Shared → Prop} (h : wpAny M A m (fun a s' => wpC M A (f a) Q E s') E s) : wpC M A (m >>= f) Q E s := C.bind (C.any h)
theorem C.onRaise {m : Sem α} {k : Value → Sem Unit} {Q : α → Shared → Prop} (h : wpC M A m Q (fun e s' => wpAny M A (k e) (fun _ s'' => E e s'') E s') s) : wpC M A (m.onRaise k) Q E s := fun Γ p hΓ hC => by
  rw [Sem.wp_onRaise]
  exact Sem.wp_mono M Γ m (fun _ _ _ h' => h') (fun e p' s' h' => h' Γ p' hΓ) p s (h Γ p hΓ hC)
theorem C.attempt {m : Sem α} {Q : Except Value α → Shared → Prop} (h : wpC M A m (fun a => Q (.ok a)) (fun e => Q (.error e)) s) : wpC M A m.attempt Q E s := fun Γ p hΓ hC => by rw [Sem.wp_attempt]; exact h Γ p hΓ hC
theorem C.holding {vs : List Value} {m : Sem α} {Q : α → Shared → Prop} (h : wpC M A m Q E s) : wpC M A (PySem.holding vs m) Q E s := fun Γ p hΓ hC => by rw [Sem.wp_holding]; exact h Γ p hΓ hC
theorem C.keep {vs : List Value} {m : Sem α} {Q : α → Shared → Prop} (h : wpC M A m Q E s) : wpC M A (m.keep vs) Q E s := fun Γ p hΓ hC => by
  have := h Γ p hΓ hC
  first | (rw [Sem.wp_keep]; exact this) | simpa using this
theorem C.runValue {c : Code} {Q : Value → Shared → Prop} (hc : codeC M A c (fun r s' => match r with | .ok (.ret v) => Q v s' | .ok _ => False | .error e => E e s') s) : wpC M A (PySem.runValue c) Q E s := fun Γ p hΓ hC => by
  rw [Sem.wp_runValue]; exact hc _ p rfl (hΓ.enter c none p (by intro x; cases x)) (hC.enter _ _ _)
theorem C.call {f : Value} {pos : List Value} {kw : List (Str × Value)} {Q : Value → Shared → Prop} (hc : codeC M A (.call f ⟨pos, kw⟩) (fun r s' => match r with | .ok (.ret v) => Q v s' | .ok _ => False | .error e => E e s') s) : wpC M A (PySem.call f pos kw) Q E s := C.runValue hc
theorem C.codeMono {c : Code} {R R' : Result → Shared → Prop} (h : codeC M A c R s) (hR : ∀ r s, R r s → R' r s) : codeC M A c R' s := fun Γ p hc hΓ hC => wpCode_mono hR (h Γ p hc hΓ hC)
theorem C.tree {c : Code} {R : Result → Shared → Prop}
    (h : wpC M (A.under c) (M.den c) (fun fin s' => match fin with | .done f => R (.ok f) s' | .again c' => c'.quiet = true ∧ codeC M A c' R s') (fun e s' => R (.error e) s') s) : codeC M A c R s := fun Γ p hc hΓ hC => by
  rw [wpCode_iff_wp, hc]
  refine Sem.wp_mono M Γ _ (fun fin p' s' h' => ?_) (fun _ _ _ h' => h') p s (h Γ p (hc ▸ hΓ.in) hC)
  cases fin with
  | done f => exact h'
  | again c' => exact ⟨h'.1, h'.2 (Γ.goto c') p' rfl (hΓ.goto c') hC⟩
end

section
variable {prog : Program} {w : World} {A A₀ : Around} {R : Result → Shared → Prop} {s : Shared}
theorem C.func {body : List Stmt} {env : Env}
    (h : wpC (model prog w) (A.deeper env) (execs body env) (fun f s' => R (.ok (.ret (match f with | .ret v => v | _ => .none))) s')
      (fun e s' => wpAny (model prog w) (A.deeper env) (leaving env e) (fun _ s'' => R (.error e) s'') (fun e' s'' => R (.error e') s'') s') s) :
    codeC (model prog w) A (.func body env) R s := by
  refine C.tree ?_
  show wpC _ (A.deeper env) (do point; match ← (execs body env).onRaise (leaving env) with | .ret v => ret v | _ => ret .none) _ _ s
  refine C.bindA (wpAny_point (C.bind (C.onRaise (C.mono h (fun f s' h' => ?_) fun _ _ h' => h'))))
  cases f <;> exact C.pure h'

theorem C.callFunction {a : Addr} {args : Args} {o : Obj} {fd : FuncData} {body : List Stmt} (hroom : A.depth < recursionLimit) (ho : s.heap.get? a = some o)
    (hd' : o.data = .func fd) (hco : fd.scope.isCoroutine = false) (hgen : fd.scope.isGenerator = false) (hbody : fd.body = .stmts body) (hcd : s.heap.CodeRec fd.code fd.qualname)
    (h : wpAny (model prog w) A.in1 (bindArgs fd args) (fun binds s₁ =>
      wpAny (model prog w) A.in1 (newFunctionEnv fd.scope fd.globals fd.closure binds (fd.qualname ++ ".<locals>.") (some a) fd.code none fd.builtins)
        (fun env s₂ => s₂.heap.NoLimit ∧ codeC (model prog w) A (.func body env) R s₂) (fun e s' => R (.error e) s') s₁) (fun e s' => R (.error e) s') s) :
    codeC (model prog w) A (.call (.ref a) args) R s := by
  refine C.tree (C.any ?_)
  show wpAny _ A.in1 (callAny (.ref a) args) _ _ s
  simp only [callAny]
  refine wpAny_bind (wpAny_load ho ?_)
  obtain ⟨c, oc, vs, tq, hc, hoc, hdc, hq⟩ := hcd
  simp only [hd', PySem.callFunction, hco, hgen, hbody, hc]
  rw [hc] at h
  refine wpAny_bind (m := field (.ref c) 1) (wpAny_field hoc hdc hq (wpAny_bind (wpAny_pure ?_)))
  exact wpAny_bind (wpAny_mono h (fun binds s₁ h₁ => wpAny_bind (wpAny_mono h₁ (fun env s₂ h₂ => wpAny_bind (wpAny_enterFrame h₂.1 hroom
    (wpAny_pure (And.intro rfl h₂.2)))) fun _ _ h' => h')) fun _ _ h' => h')

theorem C.callDef {a : Addr} {o : Obj} {fd : FuncData} {body : List Stmt} {args : Args} {binds : List (Str × Value)}
    (hroom : A.depth < recursionLimit) (ho : s.heap.get? a = some o) (hdata : o.data = .func fd) (hlim : s.heap.NoLimit) (hcd : s.heap.CodeRec fd.code fd.qualname)
    (hbody : fd.body = .stmts body) (hbind : BindsTo s fd args binds)
    (hcell : ∀ x ∈ fd.scope.names, x.2 ≠ .cell) (hloc : ∀ x ∈ binds, fd.scope.names.lookup x.1 = some .local)
    (h : ∀ h₀, h₀.Ns s.heap.objs.size (fun x => binds.reverse.lookup x) → (∀ b o, s.heap.get? b = some o → h₀.get? b = some o) →
      wpC (model prog w) (A.deeper (callEnv fd s.heap.objs.size a)) (execs body (callEnv fd s.heap.objs.size a)) (fun f s' => R (.ok (.ret (match f with | .ret v => v | _ => .none))) s')
        (fun e s' => wpAny (model prog w) (A.deeper (callEnv fd s.heap.objs.size a)) (leaving (callEnv fd s.heap.objs.size a) e) (fun _ s'' => R (.error e) s'') (fun e' s'' => R (.error e') s'') s')
        { s with heap := h₀, toks := s.toks + binds.length })
    (hco : fd.scope.isCoroutine = false := by rfl) (hgen : fd.scope.isGenerator = false := by rfl) (hk : fd.scope.kind = .function := by rfl) :
    codeC (model prog w) A (.call (.ref a) args) R s := by
  refine C.callFunction hroom ho hdata hco hgen hbody hcd (hbind _ _ _ _ ?_)
  refine wpAny_newFunctionEnv hcell hloc (fun h₀ hns₀ hsb₀ => ⟨hlim.fresh _ hsb₀, C.func (h h₀ hns₀ fun b o e => ?_)⟩) hk
  exact hsb₀.extBut b o (Nat.ne_of_lt (Heap.lt_size e)) (Heap.get?_push_of_some _ e)

variable {base h₀ : Heap} {outer : List Env} {L a : Addr} {m : Str → Option Value} {env : Env} {news : List (Addr × Obj)} {K : Frag} {p : Program} {loose : List Str} {mean : ExcName → Option Value} {mg mb : Str → Option Value}
theorem C.codeDef {name qual : Str} {params : Arguments} {body : List Stmt} {scope : Scope} {dV kV doc pm cdv ct oc : Value} {an od : Option Addr} {osl : Array (Option Value)} {f : Addr} {args : Args} {binds : List (Str × Value)}
    (B : Below A₀ base outer h₀) (F : Fr h₀ L s.heap m) (X₀ : K.In h₀) (N : News h₀ L s.heap news) (T : Top p loose mean mg mb h₀) (hA : A.frames = some (env :: outer)) (hf : env.frame = some L) (hke : env.scope.kind = .function)
    (ho : K.lookup f = some ⟨oc, od, .func (fnOf name qual params body scope dV kV doc pm an cdv ct), osl⟩) (hcd : codeIn K cdv qual = true) (hroom : A.depth < recursionLimit)
    (hbind : BindsTo s (fnOf name qual params body scope dV kV doc pm an cdv ct) args binds) (hloc : ∀ y ∈ binds, scope.names.lookup y.1 = some .local)
    (h : ∀ g L' h₁, Fr h₀ L g m → Fr g L' h₁ (fun y => binds.reverse.lookup y) → News g L' h₁ news → Below A base (env :: outer) g → K.In g → Top p loose mean mg mb g →
      wpC (model prog w) (A.deeper (envOf qual scope L' f cdv)) (execs body (envOf qual scope L' f cdv))
        (fun fl s' => LeaveK h₀ L m g R (match fl with | .ret v => v | _ => .none) s')
        (fun e s' => wpAny (model prog w) (A.deeper (envOf qual scope L' f cdv)) (leaving (envOf qual scope L' f cdv) e) (fun _ s'' => R (.error e) s'') (fun e' s'' => R (.error e') s'') s')
        { s with heap := h₁, toks := s.toks + binds.length })
    (hco : scope.isCoroutine = false) (hgen : scope.isGenerator = false) (hk : scope.kind = .function)
    (hcell : ∀ x ∈ scope.names, x.2 ≠ .cell) : codeC (model prog w) A (.call (.ref f) args) R s := by
  obtain ⟨FG, BG, st, lv⟩ := groundX (R := R) B F N hA hf hke
  refine C.callDef (fd := fnOf name qual params body scope dV kV doc pm an cdv ct) (body := body) (binds := binds) hroom ((X₀.keeps F.keep) _ _ ho) rfl (T.nolimit.keeps F.keep) (codeRec_of (X₀.keeps F.keep) hcd) rfl hbind hcell hloc (fun h₁ hns hk₁ => ?_) hco hgen hk
  exact C.mono (h _ s.heap.objs.size h₁ FG ⟨hns, fun b o e => hk₁ b o (of_hideAll _ e), Nat.le_of_eq (hideAll_size _ _)⟩
    (fun p hp => ⟨hk₁ _ _ (N p hp).1, Nat.ne_of_lt (Heap.lt_size (N p hp).1), hideAll_none _ (List.mem_map_of_mem hp)⟩) BG (X₀.keeps st) (T.keeps st)) (fun fl s' hl => lv _ _ hl) fun _ _ y => y
end

section
variable {prog : Program} {w : World} {M : Model} {A : Around} {E : Value → Shared → Prop} {s : Shared} {env : Env}
theorem C.execs_cons {st : Stmt} {rest : List Stmt} {Q : Flow → Shared → Prop}
    (h : wpC M A (exec st env) (fun f s' => match f with | .next => wpC M A (execs rest env) Q E s' | f => Q f s') E s) : wpC M A (execs (st :: rest) env) Q E s := fun Γ p hΓ hC => by
  rw [PySem.execs_cons, Sem.wp_bind']
  refine Sem.wp_mono M Γ _ (fun f p' s' h' => ?_) (fun _ _ _ h' => h') _ _ (h Γ p hΓ hC)
  cases f <;> first | exact h' Γ p' hΓ hC | exact h'
theorem C.Assign_Name {x : Str} {pos' : Pos} {value : Expr} {pos : Pos} {Q : Flow → Shared → Prop}
    (h : wpC M A (eval value env) (fun v s₁ => wpAny M A (storeName env x v) (fun _ => Q .next) E s₁) E s)
    (hs : swapsWith value (some (.Name x pos')) pos.line env = Pure.pure false := by rfl) : wpC M A (exec (.Assign [.Name x pos'] value pos) env) Q E s := fun Γ p hΓ hC => by
  simp only [exec_Assign_Name env x pos' value pos hs, Sem.wp_bind', Sem.wp_cmd_standAt, Sem.wp_bindName, Sem.wp_pure']
  exact Sem.wp_mono M Γ _ (fun v _ s₁ h₁ => h₁ Γ _ hΓ) (fun _ _ _ h' => h') _ _ (h Γ _ hΓ hC)
theorem C.Return_some {e : Expr} {pos : Pos} {Q : Flow → Shared → Prop} (h : wpC M A (eval e env) (fun v => Q (.ret v)) E s) : wpC M A (exec (.Return (some e) pos) env) Q E s := fun Γ p hΓ hC => by
  simp only [exec_Return_some, Sem.wp_bind', Sem.wp_cmd_standAt, Sem.wp_pure']; exact h Γ _ hΓ hC
theorem C.If {test : Expr} {body orelse : List Stmt} {pos : Pos} {Q : Flow → Shared → Prop}
    (h : wpAny M A (isTrue test env (eval test env)) (fun b s₂ => if b then wpC M A (execs body env) Q E s₂ else wpC M A (execs orelse env) Q E s₂) E s) : wpC M A (exec (.If test body orelse pos) env) Q E s := fun Γ p hΓ hC => by
  simp only [exec_If, Sem.wp_bind', Sem.wp_cmd_standAt]
  refine Sem.wp_mono M Γ _ (fun b p₂ s₂ h₂ => ?_) (fun _ _ _ h' => h') _ _ (h Γ _ hΓ)
  cases b <;> exact h₂ Γ p₂ hΓ hC
theorem C.Try_except {body orelse : List Stmt} {h₀ : ExceptHandler} {hs : List ExceptHandler} {pos : Pos} {Q : Flow → Shared → Prop}
    (h : wpC M A (execs body env) (fun f s₁ => match f with | .next => wpAny M A (execs orelse env) Q E s₁ | f => Q f s₁)
      (fun e s₁ => wpAny M A (noteFrame e env) (fun _ s₂ => wpAny M A (setFlight e none) (fun _ s₃ => wpAny M A (handleBy e env (h₀ :: hs)) Q E s₃) E s₂) E s₁) s) :
    wpC M A (exec (.Try body (h₀ :: hs) orelse [] pos) env) Q E s := by
  rw [arm_exec_Try]
  refine C.bindA (wpAny_standAt ?_)
  unfold tryStmt
  simp only [List.isEmpty_nil, if_true, List.isEmpty_cons, Bool.false_and, Bool.false_eq_true, if_false]
  refine C.bind (C.attempt (C.mono h (fun f s₁ h₁ => ?_) fun e s₁ h₁ => ?_))
  · cases f <;> first | exact C.any h₁ | exact C.pure h₁
  · exact C.any (wpAny_bind (wpAny_mono h₁ (fun _ _ h₂ => wpAny_bind h₂) fun _ _ x => x))
theorem C.Call {func : Expr} {args : List Expr} {pos : Pos} {Q : Value → Shared → Prop}
    (h : wpAny M A (eval func env) (fun f s₁ => wpC M A (callWith pos f [] (backTo pos (starEach args env)) []) Q E s₁) E s)
    (he : eval (.Call func args [] pos) env = (do callWith pos (← eval func env) [] (backTo pos (starEach args env)) (backToKw pos (keywordEach [] env))) := by rfl) :
    wpC M A (eval (.Call func args [] pos) env) Q E s := by
  rw [he]; exact C.bindA h
theorem C.MethodCall {o : Expr} {name : Str} {apos pos : Pos} {args : List Expr} {pl : Sem Bool} {Q : Value → Shared → Prop}
    (h : wpAny M A (eval o env) (fun ov s₁ => wpAny M A (getMethod ov name pl) (fun fx s₂ => wpC M A (callWith pos fx.1 fx.2 (backTo pos (starEach args env)) []) Q E s₂) E s₁) E s)
    (he : eval (.Call (.Attribute o name apos) args [] pos) env = (do
      let ov ← eval o env
      standAt apos.atName
      let (f, first) ← PySem.holding [ov] (getMethod ov name pl)
      callWith pos f first (backTo pos (starEach args env)) []) := by rfl) :
    wpC M A (eval (.Call (.Attribute o name apos) args [] pos) env) Q E s := by
  rw [he]
  refine C.bindA (wpAny_mono h (fun ov s₁ h₁ => C.bindA (wpAny_standAt (C.bindA (wpAny_holding (wpAny_mono h₁ (fun fx s₂ h₂ => ?_) fun _ _ x => x))))) fun _ _ x => x)
  exact h₂
theorem C.callWith_of {P : Heap → Prop} {pos : Pos} {f : Value} {first : List Value} {args : List (Bool × Sem Value)} {Q : Value → Shared → Prop} (hplain : args.any (·.1) = false)
    (hk : ∀ h, P h → ∃ k, (k = Keeper.frame ∨ k = Keeper.machine ∨ k = Keeper.boundFrame) ∧ Looks M h (keeperOf f) k)
    (h : wpAny M A (evalArgs f true args []) (fun a s₁ => P s₁.heap ∧ wpC M A (PySem.call f (first ++ a.pos) a.kw) Q E s₁) E s) : wpC M A (callWith pos f first args []) Q E s := by
  unfold callWith
  refine C.bindA (wpAny_holding (wpAny_mono h (fun a s₁ h₁ => C.bindA (wpAny_standAt ?_)) fun _ _ x => x))
  obtain ⟨k, hk', L⟩ := hk _ h₁.1
  simp only [hplain, List.any_nil, Bool.or_false]
  refine C.bindA (L.here ?_)
  have tail : ∀ {t : Sem Value}, wpC M A t Q E s₁ → wpC M A (t >>= fun r => PySem.holding [r] point >>= fun _ => Pure.pure r) Q E s₁ :=
    fun ht => C.bind (C.mono ht (fun r s₂ hr => C.any (wpAny_bind (wpAny_holding (wpAny_point (wpAny_pure hr))))) fun _ _ x => x)
  have marked (mk : Value) : wpC M A (callMarked mk f (first ++ a.pos) a.kw) Q E s₁ := by unfold callMarked; exact C.keep h₁.2
  rcases hk' with rfl | rfl | rfl <;> dsimp only <;> first | exact tail h₁.2 | (split <;> first | exact tail h₁.2 | exact tail (marked _))
theorem C.callWith_builtin {pos : Pos} {id : String} {first : List Value} {args : List (Bool × Sem Value)} {Q : Value → Shared → Prop} (hplain : args.any (·.1) = false)
    (h : wpAny M A (evalArgs (.builtin id) true args []) (fun a s₁ => wpC M A (PySem.call (.builtin id) (first ++ a.pos) a.kw) Q E s₁) E s) : wpC M A (callWith pos (.builtin id) first args []) Q E s := by
  unfold callWith
  refine C.bindA (wpAny_holding (wpAny_mono h (fun a s₁ h₁ => C.bindA (wpAny_standAt ?_)) fun _ _ x => x))
  simp only [hplain, List.any_nil, Bool.or_false]
  refine C.bindA (wpAny_pure ?_)
  exact C.bind (C.mono h₁ (fun r s₂ hr => C.any (wpAny_bind (wpAny_holding (wpAny_point (wpAny_pure hr))))) fun _ _ x => x)
theorem C.builtin {id : String} {args : Args} {b : Builtin} {R : Result → Shared → Prop} (hb : entryFor table id = some b)
    (h : wpC (model prog w) (A.under (.builtin id args)) (b args) (fun fin s' => match fin with | .done f => R (.ok f) s' | .again c' => c'.quiet = true ∧ codeC (model prog w) A c' R s') (fun e s' => R (.error e) s') s) :
    codeC (model prog w) A (.builtin id args) R s := by
  refine C.tree ?_
  show wpC _ _ (match entryFor table id with | some b => b args | none => unsupported ((withoutEnding? id "#data").getD id)) _ _ s
  rw [hb]; exact h
/-- the call of a built-in: what it checks, then its code -/
theorem C.callBuiltin {id : String} {args : Args} {R : Result → Shared → Prop} (hq : plainId id = true)
    (h : wpAny (model prog w) A.in1 (checkBuiltinCall id args) (fun _ s₁ => codeC (model prog w) A (.builtin id args) R s₁) (fun e s' => R (.error e) s') s) : codeC (model prog w) A (.call (.builtin id) args) R s := by
  refine C.tree (C.any ?_)
  have hu : A.under (.call (.builtin id) args) = A.in1 := Around.under_plain (by rfl) (by rfl)
  rw [hu]
  show wpAny _ A.in1 (callAny (.builtin id) args) _ _ s
  simp only [callAny]
  exact wpAny_bind (wpAny_mono h (fun _ s₁ h₁ => wpAny_pure ⟨plainId_quiet hq args, h₁⟩) fun _ _ x => x)
end
end Mine
end
section
open PySem PySem.W PyProof.Rows PySem.Calls
namespace Mine
abbrev Γ₀ : Ctx := ⟨.builtin "claim.caller" {}, none, none, [], none⟩

theorem thread_ends_C {prog : Program} {w : World} {t : Sem Fin} {s : Shared} {R : Result → Shared → Prop} (hreg : s.asleep)
    (h : Sem.wp (model prog w) Γ₀ t (fun fin _ s' => ∃ f, fin = .done f ∧ (R (.ok f) s' ∧ leftWithCleanup s'.gens = false)) (fun e _ s' => R (.error e) s' ∧ leftWithCleanup s'.gens = false) default s) :
    ∃ n r s' s'', runN (denote table) prog w n s ⟨t, .builtin "claim.caller" {}, default, []⟩ = .halted (outcomeOf r) s' ∧
      schedN (denote table) prog w n (.single s ⟨t, .builtin "claim.caller" {}, default, []⟩) = .halted (outcomeOf r) s' ∧ s'.forget = s''.forget ∧ R r s'' := by
  have h' : Sem.wp (model prog w) Γ₀ t (Sem.finPost (model prog w) Γ₀ fun r s' => R r s' ∧ leftWithCleanup s'.gens = false) (fun e _ s' => R (.error e) s' ∧ leftWithCleanup s'.gens = false) default s := by
    refine Sem.wp_mono _ _ t (fun fin p' s' h' => ?_) (fun _ _ _ h' => h') default s h
    obtain ⟨f, rfl, hf⟩ := h'
    exact hf
  obtain ⟨n, r, s₁, s₂, hs, hn, hfo, hR⟩ := wp_halts_full (M := model prog w) (R := R) hreg h'
  exact ⟨n, r, s₂, s₁, hn, hs, hfo, hR⟩

theorem callFrom_C {c : ClaimW} {tree : List Value → Sem Fin} {w : World} {s : Shared} {free : Addr → Prop} {gens : Prop} {kept : Heap → Prop} (hz : s.asleep) (hgens : s.gens = #[])
    (hspec : ∀ args, c.pre args = true → WData.layableAll args = true →
      ∀ ord : List DictEntry → List DictEntry, (∀ l, (ord l).Perm l) →
      ∃ vs s₁, layAllW c.records (classAt s.heap) w.params ord args s = some (vs, s₁) ∧
        Sem.wp (model c.prog w) Γ₀ (tree vs) (fun fin _ s' => ∃ f, fin = .done f ∧ (c.Ends s args vs s₁ (.ok f) s' ∧ s'.os = s.os ∧ AllBare s'.gens ∧ kept s'.heap))
          (fun e _ s' => c.Ends s args vs s₁ (.error e) s' ∧ s'.os = s.os ∧ AllBare s'.gens ∧ kept s'.heap) default s₁) :
    c.CallFrom (fun vs => ⟨tree vs, .builtin "claim.caller" {}, default, []⟩) w free gens kept s := by
  intro args hpre hlay ord hord
  obtain ⟨vs, s₁, hlaid, hcode⟩ := hspec args hpre hlay ord hord
  have hal := layAllW_rest _ _ _ hlaid
  obtain ⟨k, r, s', s'', hrun, hsched, hfo, hcase, hos, hkp⟩ := thread_ends_C (prog := c.prog) (w := w) (t := tree vs) (s := s₁)
    (R := fun r s' => c.Ends s args vs s₁ r s' ∧ s'.os = s.os ∧ kept s'.heap)
    (Shared.asleep_of_life hal.2.2.2 hz)
    (Sem.wp_mono _ _ _ (by
      rintro fin _ s' ⟨f, e, h1, h2, h3, h4⟩
      exact ⟨f, e, ⟨h1, h2, h4⟩, leftWithCleanup_false_of_bare h3⟩) (by
      rintro e _ s' ⟨h1, h2, h3, h4⟩
      exact ⟨⟨h1, h2, h4⟩, leftWithCleanup_false_of_bare h3⟩) _ _ hcode)
  obtain ⟨eh, _, _, eo, _⟩ := Shared.forget_eq hfo
  have hcase := hcase.congr eh
  have hkp : kept s'.heap := by first | exact eh ▸ hkp | (rw [eh] at hkp; exact hkp) | (rw [← eh] at hkp; exact hkp)
  rw [← eo] at hos
  have hlife : s'.heap.life = s.heap.life := (runN_life _ _ _ hrun).trans hal.2.2.2
  refine ⟨vs, s₁, hlaid, k, _, s', hsched, ?_, (fun _ i x hx => by rw [hgens] at hx; simp at hx), hkp, by rw [hlife], Shared.rest_eq hos⟩
  rcases hcase with ⟨v, rfl, d1, d2, d3, d4, d5⟩ | ⟨e, ob, cls, rfl, d1, d2, d3, d4, d5⟩
  · exact .inl ⟨v, rfl, d1, d2, d3, fun b o y _ => d4 b o y, d5⟩
  · exact .inr ⟨e, ob, cls, rfl, d1, d2, d3, d4, fun b o y _ => d5 b o y⟩

/-- what the walk has to show, asked of the stacks that bear the caller -/
abbrev WalkC (q : Program) (loose : List Str) (XP : (Str → Option Value) → Heap → Prop) (YP : World → Heap → Prop) (r : RowW) (d : DefRec) (kwd : List (Str × Expr)) : Prop :=
  ∀ (w : World) (s₀ s₁ : Shared) (mg mb : Str → Option Value), Ground q loose r.records XP w s₀ mg mb s₁.heap → YP w s₁.heap → ∀ (a : Addr) (o : Obj) (pm cd doc dV kV : Value), s₁.heap.get? a = some o →
    o.data = .func { docDef d.name d.params d.body d.scope pm cd doc with defaults := dV, kwdefaults := kV } → s₁.heap.CodeRec cd d.name → Dflts mg s₁.heap d.params kwd dV kV → mg d.name = some (.ref a) → s₁.gens = #[] →
    ∀ (args : List WData) (vals : List Value) (as : List Addr), r.claim.pre args = true → WData.layableAll args = true → ReadsAllW r.records (classAt s₀.heap) s₁.heap vals args as → WellAll w.params s₁.heap vals args → (∀ a ∈ as, (a == sysModules) = false) →
      codeC (model r.prog w) callerA (.call (.ref a) ⟨vals, []⟩) (fun x s' => match x with
        | .ok (.ret v) => GoodWG r.claim (classAt s₀.heap) (ExcName.means s₀.heap) args s₁ (.ok (.ret v)) s'
        | .ok _ => False
        | .error e => GoodWG r.claim (classAt s₀.heap) (ExcName.means s₀.heap) args s₁ (.error e) s') s₁

theorem open_anyC {r : RowW} {q : Program} {loose defs kps : List Str} {writes : Bool} {Xt : Shared → Bool} {XP : (Str → Option Value) → Heap → Prop} {α : Type} {Yf : Shared → α} {Ya : World → α} {YP : World → Heap → Prop} {N : Nat}
    (left : LeftO r.prog q loose Xt Yf Ya N) (hY : ∀ w s, Yf s = Ya w → YP w s.heap) (hYk : ∀ w h h', YP w h → (∀ b o, h.get? b = some o → h'.get? b = some o) → YP w h') (hX : ∀ s, Xt s = true → XP (s.heap.nsMap mainGlobals) s.heap) (hXk : ∀ mg h h', XP mg h → (∀ b o, h.get? b = some o → h'.get? b = some o) → XP mg h')
    (hRf : ∀ s, Xt s = true → RecFacts r.records s.heap) (hwr : (!writes || r.records.isEmpty) = true) (ok : (chainsOk q && opensWell r.prog && (frees r && r.within.isEmpty)) = true) (hb : r.prog.bare) (hw : r.promised)
    (pin : ∀ w s, s.heap.isNs mainGlobals = true → Ground q loose [] XP w s (s.heap.nsMap mainGlobals) (s.heap.nsMap builtinsNs) s.heap → ∀ n ∈ defs, isTheDefsW r.prog s.heap n)
    (call : ∀ (w : World) (s₀ s₁ : Shared) (mg mb : Str → Option Value), Ground q loose r.records XP w s₀ mg mb s₁.heap → YP w s₁.heap → ∀ (args : List WData) (vs : List Value) (as : List Addr),
      r.claim.pre args = true → WData.layableAll args = true → Laid r.records w s₀ s₁ args vs as → sysModules < s₀.heap.objs.size → ∃ f, mg r.name = some f ∧
        codeC (model r.prog w) callerA (.call f ⟨vs, []⟩) (fun x s' => match x with
          | .ok (.ret v) => GoodWG r.claim (classAt s₀.heap) (ExcName.means s₀.heap) args s₁ (.ok (.ret v)) s'
          | .ok _ => False
          | .error e => GoodWG r.claim (classAt s₀.heap) (ExcName.means s₀.heap) args s₁ (.error e) s') s₁) : r.claim.HoldsOpenBy (fun vs => ⟨(do match ← nsGet mainNs r.name with
      | some f => do ret (← PySem.call f vs)
      | none => unsupported "claim.caller:no-such-global"), .builtin "claim.caller" {}, default, []⟩) defs kps writes := by
  obtain ⟨ok, k5⟩ := Bool.and_eq_true_iff.mp ok
  obtain ⟨hch, o1⟩ := Bool.and_eq_true_iff.mp ok
  obtain ⟨k5, k6⟩ := Bool.and_eq_true_iff.mp k5
  obtain ⟨hsame, hu, ha, hap, hm⟩ := frees_parts k5
  refine ⟨⟨hb, o1, by show r.makers.map _ = []; rw [hm]; rfl⟩, hw.witness, fun w => ⟨(left.behind hX hch w).1, fun s' hs' => ?_⟩⟩
  obtain ⟨s₀, hf, hg0, s, hT, hz, hgens, hg, G00, y⟩ := (left.behind (XP := fun mg h => XP mg h ∧ RecFacts r.records h) (fun s hs => ⟨hX s hs, hRf s hs⟩) hch w).2 s' hs'
  have G0 : Ground q loose [] XP w s (s.heap.nsMap mainGlobals) (s.heap.nsMap builtinsNs) s.heap := ⟨G00.T, G00.B, G00.D, G00.TE, G00.TD, G00.W, G00.X.1, G00.cls, G00.has, G00.apart, G00.once, G00.K⟩
  have RF := G00.X.2
  have hT' := hT
  refine ⟨s₀, hf, hg0, s, hT, pin w s hg G0, RF.1, RF.2.1, ?_⟩
  have hgens : s.gens = #[] := Array.eq_empty_of_size_eq_zero (beq_iff_eq.mp hgens)
  have G : Ground q loose r.records XP w s _ _ s.heap := RF.ground G0
  refine callFrom_C (c := r.claim) hz hgens fun args hpre hlay ord hord => ?_
  obtain ⟨⟨vs, s₁⟩, hlaid⟩ := Option.isSome_iff_exists.mp (layAllW_isSome (P := w.params) (ord := ord) G.has args r.args s (pre_splitW hpre).1)
  have keeps := layAllW_keeps _ _ _ hlaid
  have hal := layAllW_rest _ _ _ hlaid
  obtain ⟨as, hrd, hin, hold⟩ := reads_layAllW hord _ _ _ hlaid hlay s₁.heap (fun _ _ e => e)
  have L : Laid r.records w s s₁ args vs as := ⟨⟨ord, hord, hlaid⟩, hrd, hin, hold, keeps, hal.1.trans hgens, hal.2.2.1⟩
  have G₁ := G.keeps hXk keeps
  obtain ⟨f, hf, h⟩ := call w s s₁ _ _ G₁ (hYk _ _ _ (hY w s y) keeps) args vs as hpre hlay L G.low
  have hi := ident_freeW hu ha hap
  have hwi : r.claim.within = [] := List.isEmpty_iff.mp k6
  refine ⟨vs, s₁, hlaid, ?_⟩
  show Sem.wp (model r.prog w) Γ₀ (nsGet mainNs r.name >>= fun x => match x with
      | some f => (PySem.call f vs >>= fun v => ret v)
      | none => unsupported "claim.caller:no-such-global") _ _ default s₁
  rw [Sem.wp_bind']
  refine (Sem.wp_nsGet _ Γ₀ _ default s₁ G₁.T.g r.name _).mpr ?_
  rw [hf]
  show Sem.wp (model r.prog w) Γ₀ (PySem.call f vs >>= fun v => ret v) _ _ default s₁
  rw [Sem.wp_bind']
  unfold PySem.call
  rw [Sem.wp_runValue]
  refine wpCode_mono (fun x s' hx => ?_) (h (Γ₀.enter (.call f ⟨vs, []⟩) none default) default rfl (caller_in.enter _ none _ (by intro x; cases x)) rfl)
  match x, hx with
  | .ok (.ret v), g => exact ⟨_, rfl, have z := g.laid (c := r.claim) hsame hwi hi L; ⟨z.1, z.2.1, z.2.2, fun q => ⟨namesKept_of hT' hg kps keeps g.2.1.old, noTable hwr q⟩⟩⟩
  | .error e, g => exact (have z := g.laid (c := r.claim) hsame hwi hi L; ⟨z.1, z.2.1, z.2.2, fun q => ⟨namesKept_of hT' hg kps keeps g.2.1.old, noTable hwr q⟩⟩)

theorem PySem.W.holds_open {r : OpenRow} {q : Program} {loose : List Str} {Xt : Shared → Bool} {XP : (Str → Option Value) → Heap → Prop} {α : Type} {Yf : Shared → α} {Ya : World → α} {YP : World → Heap → Prop} {d : DefRec} {kwd : List (Str × Expr)} {N : Nat}
    (left : LeftO r.prog q loose Xt Yf Ya N) (hY : ∀ w s, Yf s = Ya w → YP w s.heap) (hYk : ∀ w h h', YP w h → (∀ b o, h.get? b = some o → h'.get? b = some o) → YP w h')
    (hX : ∀ s, Xt s = true → XP (s.heap.nsMap mainGlobals) s.heap) (hXk : ∀ mg h h', XP mg h → (∀ b o, h.get? b = some o → h'.get? b = some o) → XP mg h')
    (hdef : defOf q r.name = some (d, kwd)) (hp : r.prog.theDef r.name = some (d.params, d.body, d.scope)) (hk : kwWritten? d.params.kwonlyargs d.params.kw_defaults = some kwd) (hRf : ∀ s, Xt s = true → RecFacts r.records s.heap) (hwr : (!r.writes || r.records.isEmpty) = true)
    (k1 : r.wellSaid = true) (ok : (chainsOk q && opensWell r.prog && (frees r.toRowW && r.within.isEmpty)) = true) (hb : r.prog.bare) (hw : r.toRowW.promised)
    (call : WalkC q loose XP YP r.toRowW d kwd) : r.Holds := by
  refine ⟨k1, hw, open_anyC (r := r.toRowW) left hY hYk hX hXk hRf hwr ok hb hw (fun w s hg G n hn => ?_) fun w s₀ s₁ mg mb G Y args vs as hpre hlay L low => ?_⟩
  · obtain rfl : n = r.name := by split at hn <;> simp_all
    exact pinned_of_view hg G hdef hp hk
  · obtain ⟨a, o, pm, cd, doc, dV, kV, h1, h2, h3, h4, h5⟩ := G.fn hdef
    exact ⟨.ref a, h1, call w s₀ s₁ mg mb G Y a o pm cd doc dV kV h2 h3 h4 h5 (defOf_name hdef ▸ h1) L.gens args vs as hpre hlay L.reads L.well (L.low low)⟩

set_option maxRecDepth 100000 in
set_option maxHeartbeats 8000000 in
open_top hd for PySem.Challenge.rw_bl0001_01
/-- behind the head: the walk is the plain one again -/
theorem walk_plain : True := by
  w_top off
  trivial
end Mine
end
section
open PySem
namespace Mine
open PySem.Sre (M Seen Op ops accepts itemWidth inSet Kept Wait Outcome)

def rxCode : Array Nat := #[14, 8, 1, 2, 4, 1, 1, 92, 0, 16, 92, 17, 0, 7, 5, 16, 39, 15, 52, 5, 16, 34, 15, 47, 5, 16, 92, 15, 42, 15, 13, 11, 9, 0, 0, 0, 5521478, 0, 0, 0, 0, 0, 15, 27, 11, 16, 120, 24, 5, 0, 2, 2, 1, 15, 16, 14, 24, 10, 1, 3, 13, 5, 22, 48, 55, 0, 1, 15, 2, 0, 17, 1, 1]

theorem rx_size : rxCode.size = 73 := rfl

/-- a state of the machine over our code -/
def ST (t : Array Nat) (st pc pos h : Nat) (o : Bool) (mk : Array (Option Nat)) (lm li : Int) (fr : List Sre.Frame) (wt : Nat) (ans : Option Bool) (sn : Seen) : M :=
  { code := rxCode, text := t, lim := t.size, start := st, lastStart := t.size, pc := pc, pos := pos, handed := h, outermost := o, marks := mk, lastmark := lm, lastindex := li,
    frames := fr, weight := wt, answer := ans, seen := sn }

/-- the machine comes to an outcome within k steps, and P holds there -/
def Ends (m : M) (k : Nat) (P : M → Prop) : Prop := ∃ j, j ≤ k ∧ (M.runFor j m).outcome.isSome = true ∧ P (M.runFor j m)
theorem Ends.step {m m' : M} {k : Nat} {P : M → Prop} (h : m.step = m') (hm : m.outcome = none) (e : Ends m' k P) : Ends m (k + 1) P := by
  obtain ⟨j, hj, h1, h2⟩ := e
  refine ⟨j + 1, Nat.succ_le_succ hj, ?_⟩
  have : M.runFor (j + 1) m = M.runFor j m' := by
    show (if m.outcome.isSome then m else M.runFor j m.step) = _
    rw [hm, h]; rfl
  rw [this]; exact ⟨h1, h2⟩
theorem Ends.now {m : M} {k : Nat} {P : M → Prop} (h : m.outcome.isSome = true) (p : P m) : Ends m k P := ⟨0, Nat.zero_le _, h, p⟩
theorem Ends.le {m : M} {k k' : Nat} {P : M → Prop} (e : Ends m k P) (h : k ≤ k') : Ends m k' P := let ⟨j, hj, r⟩ := e; ⟨j, Nat.le_trans hj h, r⟩
theorem Ends.mono {m : M} {k : Nat} {P P' : M → Prop} (e : Ends m k P) (h : ∀ m, P m → P' m) : Ends m k P' := let ⟨j, hj, a, b⟩ := e; ⟨j, hj, a, h _ b⟩

section
variable {t : Array Nat} {st pc pos h : Nat} {o : Bool} {mk : Array (Option Nat)} {lm li : Int} {fr : List Sre.Frame} {wt : Nat} {sn : Seen}

theorem st_none {ans : Option Bool} : (ST t st pc pos h o mk lm li fr wt ans sn).outcome = none := rfl

theorem step_exec (hpc : pc < 73) :
    (ST t st pc pos h o mk lm li fr wt none sn).step = (ST t st pc pos h o mk lm li fr wt none sn).exec := by
  unfold M.step ST
  simp [rx_size, hpc]

theorem st_lit_no {c : Nat} (hpc : pc < 73) (hw : rxCode.getD pc 0 = 16) (hc : rxCode.getD (pc + 1) 0 = c) (hp : pos < t.size) (hn : t.getD pos 0 ≠ c) :
    (ST t st pc pos h o mk lm li fr wt none sn).step = ST t st pc pos h o mk lm li fr wt (some false) (sn.add 16) := by
  have hp' : ¬ (pos ≥ t.size) := Nat.not_le.mpr hp
  have hb : (t.getD pos 0 == c) = false := by simpa using hn
  have e : accepts rxCode pc (t.getD pos 0) (sn.add 16) = .ok (false, sn.add 16) := by
    unfold accepts; rw [hw, hc]
    simp only [show ops[16]? = some Op.LITERAL from rfl, hb]
  rw [step_exec hpc]
  unfold M.exec ST
  simp only [M.word, Nat.add_zero, hw, show ops[16]? = some Op.LITERAL from rfl, hp', if_false, e, M.say]

theorem st_lit_end (hpc : pc < 73) (hw : rxCode.getD pc 0 = 16) (hp : t.size ≤ pos) :
    (ST t st pc pos h o mk lm li fr wt none sn).step = ST t st pc pos h o mk lm li fr wt (some false) (sn.add 16) := by
  have hp' : (pos ≥ t.size) := hp
  rw [step_exec hpc]
  unfold M.exec ST
  simp only [M.word, Nat.add_zero, hw, show ops[16]? = some Op.LITERAL from rfl, hp', if_true, M.say]

theorem st_lit_ok {c pc' : Nat} (hpc : pc < 73) (hw : rxCode.getD pc 0 = 16) (hc : rxCode.getD (pc + 1) 0 = c) (hp : pos < t.size) (hn : t.getD pos 0 = c) (hq : pc + 2 = pc') :
    (ST t st pc pos h o mk lm li fr wt none sn).step = ST t st pc' (pos + 1) h o mk lm li fr wt none (sn.add 16) := by
  have hp' : ¬ (pos ≥ t.size) := Nat.not_le.mpr hp
  have hb : (t.getD pos 0 == c) = true := by simpa using hn
  have e : accepts rxCode pc (t.getD pos 0) (sn.add 16) = .ok (true, sn.add 16) := by
    unfold accepts; rw [hw, hc]
    simp only [show ops[16]? = some Op.LITERAL from rfl, hb]
  have iw : itemWidth rxCode pc = 2 := by unfold itemWidth; rw [hw]; rfl
  subst hq
  rw [step_exec hpc]
  unfold M.exec ST
  simp only [M.word, Nat.add_zero, hw, show ops[16]? = some Op.LITERAL from rfl, hp', if_false, e, iw]

theorem st_jump {pc' : Nat} (hpc : pc < 73) (hw : rxCode.getD pc 0 = 15) (hq : pc + 1 + rxCode.getD (pc + 1) 0 = pc') :
    (ST t st pc pos h o mk lm li fr wt none sn).step = ST t st pc' pos h o mk lm li fr wt none (sn.add 15) := by
  subst hq
  rw [step_exec hpc]
  unfold M.exec ST
  simp only [M.word, Nat.add_zero, hw, show ops[15]? = some Op.JUMP from rfl]

theorem st_mark0 {a b : Option Nat} : (ST t st 11 pos h o #[a, b] (-1) li fr wt none sn).step = ST t st 13 pos h o #[some pos, b] 0 li fr wt none (sn.add 17) := by
  rw [step_exec (by decide)]
  unfold M.exec ST
  simp [M.word, show rxCode.getD 11 0 = 17 from rfl, show rxCode.getD 12 0 = 0 from rfl, show ops[17]? = some Op.MARK from rfl, M.mark]
  rfl
theorem st_mark1 {a b : Option Nat} : (ST t st 70 pos h o #[a, b] 0 li fr wt none sn).step = ST t st 72 pos h o #[a, some pos] 1 1 fr wt none (sn.add 17) := by
  rw [step_exec (by decide)]
  unfold M.exec ST
  simp [M.word, show rxCode.getD 70 0 = 17 from rfl, show rxCode.getD 71 0 = 1 from rfl, show ops[17]? = some Op.MARK from rfl, M.mark]
  rfl
theorem st_success : (ST t st 72 pos h o mk lm li fr wt none sn).step = ST t st 72 pos pos o mk lm li fr wt (some true) (sn.add 1) := by
  rw [step_exec (by decide)]
  unfold M.exec ST
  simp [M.word, show rxCode.getD 72 0 = 1 from rfl, show ops[1]? = some Op.SUCCESS from rfl, M.say]

/-- the frame of the branch, at an alternative -/
def brFrame (alt q : Nat) (o : Bool) : Sre.Frame := { wait := .nextBranch, pc := alt, pos := q, outermost := o, kept := { lastmark := 0, lastindex := -1 } }
def nsFrame (p : Nat) (o : Bool) : Sre.Frame := { wait := .nextStart, pc := 9, pos := p, outermost := o }

theorem st_branch : (ST t st 13 pos h o mk 0 (-1) fr 1 none sn).step = ST t st 15 pos pos o mk 0 (-1) (brFrame 14 pos o :: fr) 2 none (sn.add 7) := by
  rw [step_exec (by decide)]
  unfold M.exec ST
  simp [M.word, show rxCode.getD 13 0 = 7 from rfl, show rxCode.getD 14 0 = 5 from rfl, show ops[7]? = some Op.BRANCH from rfl, M.alternative, M.attempt, M.keep, brFrame, M.frame]

theorem st_next {alt pc' q : Nat} {o' : Bool} (ha : alt + rxCode.getD alt 0 = pc') (hn : (rxCode.getD pc' 0 == 0) = false) :
    (ST t st pc q h o' mk lm li (brFrame alt pos o :: fr) 2 (some false) sn).step = ST t st (pc' + 1) pos pos o mk 0 (-1) (brFrame pc' pos o :: fr) 2 none sn := by
  subst ha
  unfold M.step ST
  have hn' : ¬ rxCode.getD (alt + rxCode.getD alt 0) 0 = 0 := by simpa only [beq_eq_false_iff_ne, ne_eq] using hn
  simp [-Array.getD_eq_getD_getElem?, brFrame, M.resume, M.putBack, M.alternative, hn', M.attempt, M.frame]
theorem st_last {alt q : Nat} {o' : Bool} (ha : alt + rxCode.getD alt 0 = 69) :
    (ST t st pc q h o' mk lm li (brFrame alt pos o :: fr) 2 (some false) sn).step = ST t st alt pos h o mk 0 (-1) fr 1 (some false) sn := by
  unfold M.step ST
  simp [-Array.getD_eq_getD_getElem?, brFrame, M.resume, M.putBack, M.alternative, ha, M.say, show rxCode.getD 69 0 = 0 from rfl]
theorem st_start {p q : Nat} {o' : Bool} (hp : p < t.size) :
    (ST t st pc q h o' mk lm li [nsFrame p o] 1 (some false) sn).step = ST t (p + 1) 9 (p + 1) (p + 1) false mk (-1) (-1) [nsFrame (p + 1) false] 1 none sn := by
  unfold M.step ST
  simp [nsFrame, M.resume, M.putBack, M.attemptFrom, M.hasFirstSet, M.attemptAt, M.attempt, hp, show rxCode.getD 0 0 = 14 from rfl, show rxCode.getD 2 0 = 1 from rfl, show ops[14]? = some Op.INFO from rfl]
theorem st_over {p q : Nat} {o' : Bool} (hp : t.size ≤ p) :
    (ST t st pc q h o' mk lm li [nsFrame p o] 1 (some false) sn).step = ST t st 9 p h o mk lm li [] 0 (some false) sn := by
  unfold M.step ST
  simp [nsFrame, M.resume, M.putBack, M.say, Nat.not_lt.mpr hp]
theorem st_fin {yes : Bool} : (ST t st pc pos h o mk lm li [] wt (some yes) sn).step = { ST t st pc pos h o mk lm li [] wt (some yes) sn with outcome := some (if yes then .matched else .failed) } := by
  unfold M.step ST
  simp
theorem st_yes {f : Sre.Frame} (hf : f.kept.marks = #[]) (hw : f.wait = .nextStart ∨ f.wait = .nextBranch ∨ f.wait = .giveBack) :
    (ST t st pc pos h o mk lm li (f :: fr) (wt + 1) (some true) sn).step = ST t st f.pc f.pos h f.outermost mk lm li fr wt (some true) sn := by
  unfold M.step ST
  obtain ⟨wait, pcf, posf, of, cf, kf, lf, bf⟩ := f
  simp only at hf hw
  rcases hw with rfl | rfl | rfl <;> simp [M.resume, M.say, hf]

theorem acc30 {c : Nat} {b : Bool} (hb : (decide (c < 256) && (rxCode.getD (33 + c / 32) 0).testBit (c % 32)) = b) : accepts rxCode 30 c sn = .ok (b, if b then sn.add 9 else (sn.add 9).add 0) := by
  have e : accepts rxCode 30 c sn = inSet rxCode c 73 32 true sn := rfl
  rw [e]
  have e2 : inSet rxCode c 73 32 true sn = if (decide (c < 256) && (rxCode.getD (33 + c / 32) 0).testBit (c % 32)) = true then .ok (true, sn.add 9) else inSet rxCode c 72 41 true (sn.add 9) := by
    show (if (decide (c < 256) && (rxCode.getD (32 + (1 + c / 32)) 0).testBit (c % 32)) = true then _ else _) = _
    rw [show 32 + (1 + c / 32) = 33 + c / 32 from by omega]
    rfl
  rw [e2, hb]
  cases b <;> rfl
theorem acc60 (c : Nat) : ∃ sn', accepts rxCode 60 c sn = .ok (decide (48 ≤ c) && decide (c ≤ 55), sn') := by
  have e : accepts rxCode 60 c sn = if (decide (48 ≤ c) && decide (c ≤ 55)) = true then .ok (true, sn.add 22) else inSet rxCode c 72 65 true (sn.add 22) := rfl
  rw [e]
  cases decide (48 ≤ c) && decide (c ≤ 55)
  · exact ⟨_, rfl⟩
  · exact ⟨_, rfl⟩
theorem acc51 (c : Nat) : ∃ sn', accepts rxCode 51 c sn = .ok (c != 10, sn') := ⟨_, rfl⟩

theorem st_in_no (hp : pos < t.size) (hb : (decide (t.getD pos 0 < 256) && (rxCode.getD (33 + t.getD pos 0 / 32) 0).testBit (t.getD pos 0 % 32)) = false) :
    ∃ sn', (ST t st 30 pos h o mk lm li fr wt none sn).step = ST t st 30 pos h o mk lm li fr wt (some false) sn' := by
  have hp' : ¬ (pos ≥ t.size) := Nat.not_le.mpr hp
  refine ⟨((sn.add 13).add 9).add 0, ?_⟩
  rw [step_exec (by decide)]
  unfold M.exec ST
  simp only [M.word, Nat.add_zero, show rxCode.getD 30 0 = 13 from rfl, show ops[13]? = some Op.IN from rfl, hp', if_false, acc30 hb, M.say]
  rfl
theorem st_in_ok (hp : pos < t.size) (hb : (decide (t.getD pos 0 < 256) && (rxCode.getD (33 + t.getD pos 0 / 32) 0).testBit (t.getD pos 0 % 32)) = true) :
    ∃ sn', (ST t st 30 pos h o mk lm li fr wt none sn).step = ST t st 42 (pos + 1) h o mk lm li fr wt none sn' := by
  have hp' : ¬ (pos ≥ t.size) := Nat.not_le.mpr hp
  refine ⟨((sn.add 13).add 9), ?_⟩
  rw [step_exec (by decide)]
  unfold M.exec ST
  simp only [M.word, Nat.add_zero, show rxCode.getD 30 0 = 13 from rfl, show ops[13]? = some Op.IN from rfl, hp', if_false, acc30 hb, M.say]
  rfl

/-- how many of the next n signs f takes -/
def cnt (f : Nat → Bool) (t : Array Nat) : (p n : Nat) → Nat
  | _, 0 => 0
  | p, n + 1 => if f (t.getD p 0) then cnt f t (p + 1) n + 1 else 0
theorem run_cnt {i : Nat} {f : Nat → Bool} (hacc : ∀ c sn, ∃ sn', accepts rxCode i c sn = .ok (f c, sn')) :
    ∀ n p found sn, ∃ sn', Sre.run rxCode t i n p found sn = .ok (found + cnt f t p n, sn')
  | 0, _, _, _ => ⟨_, rfl⟩
  | n + 1, p, found, sn => by
    obtain ⟨s1, h1⟩ := hacc (t.getD p 0) sn
    have e : Sre.run rxCode t i (n + 1) p found sn = (do
      let (yes, seen) ← accepts rxCode i (t.getD p 0) sn
      if yes then Sre.run rxCode t i n (p + 1) (found + 1) seen else pure (found, seen)) := rfl
    rw [e, h1]
    cases hf : f (t.getD p 0) with
    | false =>
      refine ⟨s1, ?_⟩
      have : cnt f t p (n + 1) = 0 := by show (if f (t.getD p 0) = true then _ else _) = _; rw [hf]; rfl
      rw [this]; rfl
    | true =>
      obtain ⟨s2, h2⟩ := run_cnt hacc n (p + 1) (found + 1) s1
      refine ⟨s2, ?_⟩
      have : found + cnt f t p (n + 1) = found + 1 + cnt f t (p + 1) n := by
        have : cnt f t p (n + 1) = cnt f t (p + 1) n + 1 := by show (if f (t.getD p 0) = true then _ else _) = _; rw [hf]; rfl
        omega
      rw [this]; exact h2

def gbFrame (pc q : Nat) (o : Bool) (n : Nat) : Sre.Frame := { wait := .giveBack, pc := pc, pos := q, outermost := o, count := n, kept := { lastmark := 0, lastindex := -1 } }
theorem st_any {n : Nat} (hp : pos ≤ t.size) (hn : cnt (· != 10) t pos (min 2 (t.size - pos)) = n) :
    ∃ sn', (ST t st 47 pos h o mk 0 (-1) fr 2 none sn).step = ST t st 53 (pos + n) (pos + n) o mk 0 (-1) (gbFrame 47 (pos + n) o n :: fr) 3 none sn' := by
  obtain ⟨s1, h1⟩ := run_cnt (t := t) (i := 51) (f := (· != 10)) (fun c sn => acc51 c) (min 2 (t.size - pos)) pos 0 ((sn.add 24).add 2)
  rw [hn, Nat.zero_add] at h1
  have hr : ((t.size : Int) - (pos : Int)).toNat = t.size - pos := by omega
  have hr0 : ¬ (((0 : Nat) : Int) > (t.size : Int) - (pos : Int)) := by omega
  refine ⟨s1, ?_⟩
  rw [step_exec (by decide)]
  unfold M.exec ST
  simp only [M.word, Nat.add_zero, show rxCode.getD 47 0 = 24 from rfl, show ops[24]? = some Op.REPEAT_ONE from rfl, show 47 + 2 = 49 from rfl, show 47 + 3 = 50 from rfl, show 47 + 4 = 51 from rfl, show rxCode.getD 49 0 = 0 from rfl, show rxCode.getD 50 0 = 2 from rfl,
    show rxCode.getD 51 0 = 2 from rfl, hr0, if_false, hr, h1, Bool.false_eq_true, Nat.not_lt_zero]
  simp [M.afterRun, M.keep, M.attempt, M.frame, gbFrame, M.word, show rxCode.getD 48 0 = 5 from rfl]
theorem st_dig {n : Nat} (hp : pos < t.size) (hn : cnt (fun c => decide (48 ≤ c) && decide (c ≤ 55)) t pos (min 3 (t.size - pos)) = n) (h0 : 0 < n) :
    ∃ sn', (ST t st 56 pos h o mk 0 (-1) fr 2 none sn).step = ST t st 67 (pos + n) (pos + n) o mk 0 (-1) (gbFrame 56 (pos + n) o n :: fr) 3 none sn' := by
  obtain ⟨s1, h1⟩ := run_cnt (t := t) (i := 60) (f := fun c => decide (48 ≤ c) && decide (c ≤ 55)) (fun c sn => acc60 c) (min 3 (t.size - pos)) pos 0 ((sn.add 24).add 13)
  rw [hn, Nat.zero_add] at h1
  have hr : ((t.size : Int) - (pos : Int)).toNat = t.size - pos := by omega
  have hr0 : ¬ (((1 : Nat) : Int) > (t.size : Int) - (pos : Int)) := by omega
  have hn1 : ¬ n < 1 := by omega
  refine ⟨s1, ?_⟩
  rw [step_exec (by decide)]
  unfold M.exec ST
  simp only [M.word, Nat.add_zero, show rxCode.getD 56 0 = 24 from rfl, show ops[24]? = some Op.REPEAT_ONE from rfl, show 56 + 2 = 58 from rfl, show 56 + 3 = 59 from rfl, show 56 + 4 = 60 from rfl, show rxCode.getD 58 0 = 1 from rfl, show rxCode.getD 59 0 = 3 from rfl,
    show rxCode.getD 60 0 = 13 from rfl, hr0, if_false, hr, h1, Bool.false_eq_true, hn1]
  simp [M.afterRun, M.keep, M.attempt, M.frame, gbFrame, M.word, show rxCode.getD 57 0 = 10 from rfl]
theorem st_dig_no (hp : pos < t.size) (hn : cnt (fun c => decide (48 ≤ c) && decide (c ≤ 55)) t pos (min 3 (t.size - pos)) = 0) :
    ∃ sn', (ST t st 56 pos h o mk 0 (-1) fr 2 none sn).step = ST t st 56 pos h o mk 0 (-1) fr 2 (some false) sn' := by
  obtain ⟨s1, h1⟩ := run_cnt (t := t) (i := 60) (f := fun c => decide (48 ≤ c) && decide (c ≤ 55)) (fun c sn => acc60 c) (min 3 (t.size - pos)) pos 0 ((sn.add 24).add 13)
  rw [hn, Nat.zero_add] at h1
  have hr : ((t.size : Int) - (pos : Int)).toNat = t.size - pos := by omega
  have hr0 : ¬ (((1 : Nat) : Int) > (t.size : Int) - (pos : Int)) := by omega
  refine ⟨s1, ?_⟩
  rw [step_exec (by decide)]
  unfold M.exec ST
  simp only [M.word, Nat.add_zero, show rxCode.getD 56 0 = 24 from rfl, show ops[24]? = some Op.REPEAT_ONE from rfl, show 56 + 2 = 58 from rfl, show 56 + 3 = 59 from rfl, show 56 + 4 = 60 from rfl, show rxCode.getD 58 0 = 1 from rfl, show rxCode.getD 59 0 = 3 from rfl,
    show rxCode.getD 60 0 = 13 from rfl, hr0, if_false, hr, h1, Bool.false_eq_true, Nat.zero_lt_one, if_true, M.say]
end

/-- what a match at p up to e leaves -/
def Found (p e : Nat) (m : M) : Prop := m.outcome = some .matched ∧ m.start = p ∧ m.handed = e ∧ m.marks = #[some (p + 1), some e] ∧ m.lastmark = 1 ∧ m.lastindex = 1
def SS (t : Array Nat) (p : Nat) (a b : Option Nat) (sn : Seen) (o : Bool) : M := ST t p 9 p p o #[a, b] (-1) (-1) [nsFrame p o] 1 none sn

section
variable {t : Array Nat} {p q h e : Nat} {o : Bool} {a b : Option Nat} {li : Int} {sn : Seen}
theorem from70 : Ends (ST t p 70 e h o #[some (p + 1), b] 0 li [brFrame q (p + 1) o, nsFrame p o] 2 none sn) 5 (Found p e) := by
  refine .step st_mark1 st_none (.step st_success st_none (.step (st_yes rfl (.inr (.inl rfl))) st_none (.step (st_yes rfl (.inl rfl)) st_none (.step st_fin st_none (.now rfl ?_)))))
  exact ⟨rfl, rfl, rfl, rfl, rfl, rfl⟩
theorem from70g {pc n q' : Nat} : Ends (ST t p 70 e h o #[some (p + 1), b] 0 li [gbFrame pc q' o n, brFrame q (p + 1) o, nsFrame p o] 3 none sn) 6 (Found p e) := by
  refine .step st_mark1 st_none (.step st_success st_none (.step (st_yes rfl (.inr (.inr rfl))) st_none (.step (st_yes rfl (.inr (.inl rfl))) st_none (.step (st_yes rfl (.inl rfl)) st_none (.step st_fin st_none (.now rfl ?_))))))
  exact ⟨rfl, rfl, rfl, rfl, rfl, rfl⟩

/-- an alternative is about to be tried at p + 1 -/
def AL (t : Array Nat) (p alt pc : Nat) (b : Option Nat) (sn : Seen) (o : Bool) : M := ST t p pc (p + 1) (p + 1) o #[some (p + 1), b] 0 (-1) [brFrame alt (p + 1) o, nsFrame p o] 2 none sn

theorem to14 {k : Nat} {P : M → Prop} (hp : p < t.size) (hc : t.getD p 0 = 92) (H : ∀ sn', Ends (AL t p 14 15 b sn' o) k P) : Ends (SS t p a b sn o) (k + 3) P := by
  refine .step (st_lit_ok (c := 92) (pc' := 11) (by decide) rfl rfl hp hc rfl) st_none (.step st_mark0 st_none (.step st_branch st_none ?_))
  exact H _
theorem alt_no {alt pc alt' c k : Nat} {P : M → Prop} (hpc : pc < 73) (hw : rxCode.getD pc 0 = 16) (hc : rxCode.getD (pc + 1) 0 = c) (ha : alt + rxCode.getD alt 0 = alt') (hz : (rxCode.getD alt' 0 == 0) = false)
    (hp : p + 1 < t.size) (hn : t.getD (p + 1) 0 ≠ c) (H : ∀ sn', Ends (AL t p alt' (alt' + 1) b sn' o) k P) : Ends (AL t p alt pc b sn o) (k + 2) P := by
  refine .step (st_lit_no hpc hw hc hp hn) st_none (.step (st_next ha hz) st_none ?_)
  exact H _
theorem alt_ok {alt pc c : Nat} (hpc : pc + 2 < 73) (hw : rxCode.getD pc 0 = 16) (hc : rxCode.getD (pc + 1) 0 = c) (hj : rxCode.getD (pc + 2) 0 = 15) (h70 : pc + 2 + 1 + rxCode.getD (pc + 2 + 1) 0 = 70)
    (hp : p + 1 < t.size) (hn : t.getD (p + 1) 0 = c) : Ends (AL t p alt pc b sn o) 7 (Found p (p + 2)) := by
  refine .step (st_lit_ok (by omega) hw hc hp hn rfl) st_none (.step (st_jump hpc hj h70) st_none from70)
theorem alt_in_ok (hp : p + 1 < t.size) (hb : (decide (t.getD (p + 1) 0 < 256) && (rxCode.getD (33 + t.getD (p + 1) 0 / 32) 0).testBit (t.getD (p + 1) 0 % 32)) = true) : Ends (AL t p 29 30 b sn o) 7 (Found p (p + 2)) := by
  obtain ⟨s1, h1⟩ := st_in_ok (st := p) (h := p + 1) (o := o) (mk := #[some (p + 1), b]) (lm := 0) (li := -1) (fr := [brFrame 29 (p + 1) o, nsFrame p o]) (wt := 2) (sn := sn) hp hb
  refine .step h1 st_none (.step (st_jump (pc' := 70) (by decide) rfl rfl) st_none from70)
theorem alt_in_no {k : Nat} {P : M → Prop} (hp : p + 1 < t.size) (hb : (decide (t.getD (p + 1) 0 < 256) && (rxCode.getD (33 + t.getD (p + 1) 0 / 32) 0).testBit (t.getD (p + 1) 0 % 32)) = false)
    (H : ∀ sn', Ends (AL t p 44 45 b sn' o) k P) : Ends (AL t p 29 30 b sn o) (k + 2) P := by
  obtain ⟨s1, h1⟩ := st_in_no (st := p) (h := p + 1) (o := o) (mk := #[some (p + 1), b]) (lm := 0) (li := -1) (fr := [brFrame 29 (p + 1) o, nsFrame p o]) (wt := 2) (sn := sn) hp hb
  refine .step h1 st_none (.step (st_next (pc' := 44) rfl rfl) st_none ?_)
  exact H _
theorem alt_hex {n : Nat} (hp : p + 1 < t.size) (hx : t.getD (p + 1) 0 = 120) (hn : cnt (· != 10) t (p + 2) (min 2 (t.size - (p + 2))) = n) : Ends (AL t p 44 45 b sn o) 9 (Found p (p + 2 + n)) := by
  obtain ⟨s1, h1⟩ := st_any (st := p) (pos := p + 2) (h := p + 1) (o := o) (mk := #[some (p + 1), b]) (fr := [brFrame 44 (p + 1) o, nsFrame p o]) (sn := sn.add 16) hp hn
  refine .step (st_lit_ok (c := 120) (pc' := 47) (by decide) rfl rfl hp hx rfl) st_none (.step h1 st_none (.step (st_jump (pc' := 70) (by decide) rfl rfl) st_none from70g))
theorem alt_dig {n : Nat} (hp : p + 1 < t.size) (hn : cnt (fun c => decide (48 ≤ c) && decide (c ≤ 55)) t (p + 1) (min 3 (t.size - (p + 1))) = n) (h0 : 0 < n) : Ends (AL t p 55 56 b sn o) 8 (Found p (p + 1 + n)) := by
  obtain ⟨s1, h1⟩ := st_dig (st := p) (pos := p + 1) (h := p + 1) (o := o) (mk := #[some (p + 1), b]) (fr := [brFrame 55 (p + 1) o, nsFrame p o]) (sn := sn) hp hn h0
  refine .step h1 st_none (.step (st_jump (pc' := 70) (by decide) rfl rfl) st_none from70g)
theorem alt_dig_no {k : Nat} {P : M → Prop} (hp : p + 1 < t.size) (hn : cnt (fun c => decide (48 ≤ c) && decide (c ≤ 55)) t (p + 1) (min 3 (t.size - (p + 1))) = 0)
    (H : ∀ sn', Ends (SS t (p + 1) (some (p + 1)) b sn' false) k P) : Ends (AL t p 55 56 b sn o) (k + 3) P := by
  obtain ⟨s1, h1⟩ := st_dig_no (st := p) (pos := p + 1) (h := p + 1) (o := o) (mk := #[some (p + 1), b]) (fr := [brFrame 55 (p + 1) o, nsFrame p o]) (sn := sn) hp hn
  refine .step h1 st_none (.step (st_last rfl) st_none (.step (st_start (by omega)) st_none ?_))
  exact H _
theorem raw_on {k : Nat} {P : M → Prop} (hp : p < t.size) (hc : t.getD p 0 ≠ 92) (H : ∀ sn', Ends (SS t (p + 1) a b sn' false) k P) : Ends (SS t p a b sn o) (k + 2) P := by
  refine .step (st_lit_no (c := 92) (by decide) rfl rfl hp hc) st_none (.step (st_start hp) st_none ?_)
  exact H _
theorem over (hp : t.size ≤ p) : Ends (SS t p a b sn o) 3 (fun m => m.outcome = some .failed) := by
  refine .step (st_lit_end (by decide) rfl hp) st_none (.step (st_over hp) st_none (.step st_fin st_none (.now rfl rfl)))
end
end Mine
end
section
open PySem
namespace Mine
open PySem.Sre (M Seen Op ops accepts itemWidth inSet Kept Wait Outcome)

/-- from p on the text is r -/
def At (t : Array Nat) (p : Nat) (r : List Nat) : Prop := t.toList.drop p = r
theorem At.cons {t : Array Nat} {p c : Nat} {r : List Nat} (h : At t p (c :: r)) : p < t.size ∧ t.getD p 0 = c ∧ At t (p + 1) r := by
  unfold At at h ⊢
  have hl : p < t.toList.length := by
    apply Nat.lt_of_not_le; intro q
    rw [List.drop_eq_nil_of_le q] at h; cases h
  have e := List.drop_eq_getElem_cons hl
  rw [e] at h
  injection h with h1 h2
  have hs : p < t.size := by simpa using hl
  refine ⟨hs, ?_, h2⟩
  rw [Array.getElem_toList] at h1
  simp [Array.getD, hs, h1]
theorem At.nil {t : Array Nat} {p : Nat} (h : At t p []) : t.size ≤ p := by
  unfold At at h
  have := List.drop_eq_nil_iff.mp h
  simpa using this
theorem At.app {t : Array Nat} {p : Nat} {w r : List Nat} (h : At t p (w ++ r)) : At t (p + w.length) r := by
  unfold At at h ⊢
  rw [← List.drop_drop, h, List.drop_left]
theorem At.size {t : Array Nat} {p : Nat} {r : List Nat} (h : At t p r) (hp : p ≤ t.size) : t.size - p = r.length := by
  unfold At at h
  rw [← h, List.length_drop]; simp
theorem At.le {t : Array Nat} {p : Nat} {c : Nat} {r : List Nat} (h : At t p (c :: r)) : t.size - p = r.length + 1 := by
  rw [h.size (Nat.le_of_lt h.cons.1)]; rfl
theorem At.start (l : List Nat) : At l.toArray 0 l := by unfold At; rfl

theorem cnt_all {f : Nat → Bool} {t : Array Nat} : ∀ {hs r : List Nat} {p : Nat}, At t p (hs ++ r) → (∀ h ∈ hs, f h = true) → ∀ n, n ≤ hs.length → cnt f t p n = n
  | _, _, _, _, _, 0, _ => rfl
  | [], _, _, _, _, n + 1, hn => by simp at hn
  | h :: hs, r, p, ha, hf, n + 1, hn => by
    obtain ⟨_, h2, h3⟩ := At.cons (r := hs ++ r) ha
    show (if f (t.getD p 0) = true then cnt f t (p + 1) n + 1 else 0) = n + 1
    rw [h2, if_pos (hf h (.head _)), cnt_all h3 (fun x hx => hf x (.tail _ hx)) n (by simpa using hn)]
theorem cnt_stop {f : Nat → Bool} {t : Array Nat} : ∀ {hs : List Nat} {c : Nat} {r : List Nat} {p : Nat}, At t p (hs ++ c :: r) → (∀ h ∈ hs, f h = true) → f c = false → ∀ n, hs.length ≤ n → cnt f t p n = hs.length
  | [], _, _, _, _, _, _, 0, _ => rfl
  | [], c, r, p, ha, _, hc, n + 1, _ => by
    obtain ⟨_, h2, _⟩ := At.cons (r := r) ha
    show (if f (t.getD p 0) = true then cnt f t (p + 1) n + 1 else 0) = 0
    rw [h2, if_neg (by rw [hc]; exact Bool.false_ne_true)]
  | h :: hs, _, _, _, _, _, _, 0, hn => by simp at hn
  | h :: hs, c, r, p, ha, hf, hc, n + 1, hn => by
    obtain ⟨_, h2, h3⟩ := At.cons (r := hs ++ c :: r) ha
    show (if f (t.getD p 0) = true then cnt f t (p + 1) n + 1 else 0) = hs.length + 1
    rw [h2, if_pos (hf h (.head _)), cnt_stop h3 (fun x hx => hf x (.tail _ hx)) hc n (by simpa using hn)]

def inCs (c : Nat) : Bool := decide (c < 256) && (rxCode.getD (33 + c / 32) 0).testBit (c % 32)
def octal (c : Nat) : Bool := decide (48 ≤ c) && decide (c ≤ 55)

/-- w is a word that the pattern takes, before r -/
inductive TokOk : List Nat → List Nat → Prop
  | quote (c : Nat) (r : List Nat) (h : c = 39 ∨ c = 34 ∨ c = 92 ∨ (c ≠ 39 ∧ c ≠ 34 ∧ c ≠ 92 ∧ inCs c = true)) : TokOk [92, c] r
  | hex (hs r : List Nat) (h2 : hs.length ≤ 2) (hn : ∀ h ∈ hs, h ≠ 10) (he : hs.length = 2 ∨ r = []) : TokOk (92 :: 120 :: hs) r
  | oct (d : Nat) (ds r : List Nat) (h2 : ds.length ≤ 2) (hd : ∀ x ∈ d :: ds, octal x = true) (he : ds.length = 2 ∨ r = [] ∨ ∃ c r', r = c :: r' ∧ octal c = false) : TokOk (92 :: d :: ds) r

section
variable {t : Array Nat} {p : Nat} {o : Bool} {a b : Option Nat} {sn : Seen}
theorem to29 {c k : Nat} {r : List Nat} {P : M → Prop} (h : At t p (92 :: c :: r)) (h1 : c ≠ 39) (h2 : c ≠ 34) (h3 : c ≠ 92) (H : ∀ sn', Ends (AL t p 29 30 b sn' o) k P) : Ends (SS t p a b sn o) (k + 9) P := by
  obtain ⟨p0, c0, h'⟩ := h.cons
  obtain ⟨p1, c1, _⟩ := h'.cons
  refine to14 p0 c0 fun s1 => ?_
  refine alt_no (c := 39) (alt' := 19) (by decide) rfl rfl rfl rfl p1 (by rw [c1]; exact h1) fun s2 => ?_
  refine alt_no (c := 34) (alt' := 24) (by decide) rfl rfl rfl rfl p1 (by rw [c1]; exact h2) fun s3 => ?_
  exact alt_no (c := 92) (alt' := 29) (by decide) rfl rfl rfl rfl p1 (by rw [c1]; exact h3) fun s4 => H s4
theorem to44 {c k : Nat} {r : List Nat} {P : M → Prop} (h : At t p (92 :: c :: r)) (h1 : c ≠ 39) (h2 : c ≠ 34) (h3 : c ≠ 92) (h4 : inCs c = false) (H : ∀ sn', Ends (AL t p 44 45 b sn' o) k P) : Ends (SS t p a b sn o) (k + 11) P := by
  obtain ⟨p0, c0, h'⟩ := h.cons
  obtain ⟨p1, c1, _⟩ := h'.cons
  exact to29 (k := k + 2) h h1 h2 h3 fun s1 => alt_in_no p1 (by rw [c1]; exact h4) H
theorem to55 {c k : Nat} {r : List Nat} {P : M → Prop} (h : At t p (92 :: c :: r)) (h1 : c ≠ 39) (h2 : c ≠ 34) (h3 : c ≠ 92) (h4 : inCs c = false) (h5 : c ≠ 120) (H : ∀ sn', Ends (AL t p 55 56 b sn' o) k P) : Ends (SS t p a b sn o) (k + 13) P := by
  obtain ⟨p0, c0, h'⟩ := h.cons
  obtain ⟨p1, c1, _⟩ := h'.cons
  exact to44 (k := k + 2) h h1 h2 h3 h4 fun s1 => alt_no (c := 120) (alt' := 55) (by decide) rfl rfl rfl rfl p1 (by rw [c1]; exact h5) fun s2 => H s2

theorem octal_facts {c : Nat} (h : octal c = true) : c ≠ 39 ∧ c ≠ 34 ∧ c ≠ 92 ∧ inCs c = false ∧ c ≠ 120 := by
  have h' : 48 ≤ c ∧ c ≤ 55 := by simpa [octal] using h
  have : c = 48 ∨ c = 49 ∨ c = 50 ∨ c = 51 ∨ c = 52 ∨ c = 53 ∨ c = 54 ∨ c = 55 := by omega
  rcases this with rfl | rfl | rfl | rfl | rfl | rfl | rfl | rfl <;> decide

theorem tok_ends {w r : List Nat} (h : TokOk w r) (ha : At t p (w ++ r)) : Ends (SS t p a b sn o) 30 (Found p (p + w.length)) := by
  cases h with
  | quote c r hc =>
    have ha : At t p (92 :: c :: r) := ha
    obtain ⟨p0, c0, h'⟩ := ha.cons
    obtain ⟨p1, c1, _⟩ := h'.cons
    show Ends _ 30 (Found p (p + 2))
    rcases hc with rfl | rfl | rfl | ⟨h1, h2, h3, h4⟩
    · refine Ends.le (k := 7 + 3) ?_ (by decide)
      exact to14 p0 c0 fun s1 => alt_ok (c := 39) (by decide) rfl rfl rfl rfl p1 c1
    · refine Ends.le (k := 7 + 2 + 3) ?_ (by decide)
      exact to14 p0 c0 fun s1 => alt_no (c := 39) (alt' := 19) (by decide) rfl rfl rfl rfl p1 (by rw [c1]; decide) fun s2 => alt_ok (c := 34) (by decide) rfl rfl rfl rfl p1 c1
    · refine Ends.le (k := 7 + 2 + 2 + 3) ?_ (by decide)
      exact to14 p0 c0 fun s1 => alt_no (c := 39) (alt' := 19) (by decide) rfl rfl rfl rfl p1 (by rw [c1]; decide) fun s2 =>
        alt_no (c := 34) (alt' := 24) (by decide) rfl rfl rfl rfl p1 (by rw [c1]; decide) fun s3 => alt_ok (c := 92) (by decide) rfl rfl rfl rfl p1 c1
    · refine Ends.le (k := 7 + 9) ?_ (by decide)
      exact to29 ha h1 h2 h3 fun s1 => alt_in_ok p1 (by rw [c1]; exact h4)
  | hex hs r h2 hn he =>
    have ha : At t p (92 :: 120 :: (hs ++ r)) := ha
    obtain ⟨p0, c0, h'⟩ := ha.cons
    obtain ⟨p1, c1, h''⟩ := h'.cons
    have hcnt : cnt (· != 10) t (p + 2) (min 2 (t.size - (p + 2))) = hs.length := by
      have hsz : t.size - (p + 2) = (hs ++ r).length := h''.size (by omega)
      rw [hsz]
      have hall : ∀ x ∈ hs, (x != 10) = true := fun x hx => by simpa using hn x hx
      have hle : min 2 (hs ++ r).length = hs.length := by
        rw [List.length_append]
        rcases he with he | rfl
        · omega
        · simp; omega
      rw [hle]
      exact cnt_all h'' hall _ (Nat.le_refl _)
    have e : p + (92 :: 120 :: hs).length = p + 2 + hs.length := by simp; omega
    rw [e]
    refine Ends.le (k := 9 + 11) ?_ (by decide)
    exact to44 ha (by decide) (by decide) (by decide) (by decide) fun s1 => alt_hex p1 c1 hcnt
  | oct d ds r h2 hd he =>
    have ha : At t p (92 :: d :: (ds ++ r)) := ha
    obtain ⟨p0, c0, h'⟩ := ha.cons
    obtain ⟨p1, c1, h''⟩ := h'.cons
    obtain ⟨f1, f2, f3, f4, f5⟩ := octal_facts (hd d (.head _))
    have hcnt : cnt (fun c => decide (48 ≤ c) && decide (c ≤ 55)) t (p + 1) (min 3 (t.size - (p + 1))) = (d :: ds).length := by
      have hsz : t.size - (p + 1) = (d :: ds ++ r).length := (show At t (p + 1) (d :: ds ++ r) from h').size (by omega)
      rw [hsz]
      rcases he with he | rfl | ⟨c, r', rfl, hc⟩
      · rw [show min 3 (d :: ds ++ r).length = (d :: ds).length from by simp only [List.length_append, List.length_cons]; omega]
        exact cnt_all (show At t (p + 1) (d :: ds ++ r) from h') hd _ (Nat.le_refl _)
      · have hm : min 3 ((d :: ds : List Nat) ++ []).length = (d :: ds).length := by simp only [List.length_append, List.length_cons, List.length_nil]; omega
        rw [hm]
        exact cnt_all (show At t (p + 1) (d :: ds ++ []) from h') hd _ (Nat.le_refl _)
      · exact cnt_stop (show At t (p + 1) (d :: ds ++ c :: r') from h') hd hc _ (by simp only [List.length_append, List.length_cons]; omega)
    have e : p + (92 :: d :: ds).length = p + 1 + (d :: ds).length := by simp; omega
    rw [e]
    refine Ends.le (k := 8 + 13) ?_ (by decide)
    exact to55 ha f1 f2 f3 f4 f5 fun s1 => alt_dig p1 hcnt (by simp)

/-- a backslash that the pattern does not take -/
def kept (c : Nat) : Bool := c != 39 && c != 34 && c != 92 && !inCs c && c != 120 && !octal c
theorem kept_on {c k : Nat} {r : List Nat} {P : M → Prop} (hk : kept c = true) (ha : At t p (92 :: c :: r)) (H : ∀ a' b' sn', Ends (SS t (p + 2) a' b' sn' false) k P) : Ends (SS t p a b sn o) (k + 18) P := by
  obtain ⟨p0, c0, h'⟩ := ha.cons
  obtain ⟨p1, c1, h''⟩ := h'.cons
  simp only [kept, Bool.and_eq_true, bne_iff_ne, ne_eq, Bool.not_eq_true'] at hk
  obtain ⟨⟨⟨⟨⟨h1, h2⟩, h3⟩, h4⟩, h5⟩, h6⟩ := hk
  refine to55 (k := k + 2 + 3) ha h1 h2 h3 h4 h5 fun s1 => ?_
  refine alt_dig_no p1 ?_ fun s2 => ?_
  · cases hm : min 3 (t.size - (p + 1)) with
    | zero => rfl
    | succ n =>
      show (if (decide (48 ≤ t.getD (p + 1) 0) && decide (t.getD (p + 1) 0 ≤ 55)) = true then _ else 0) = 0
      rw [c1]
      have h6' : (decide (48 ≤ c) && decide (c ≤ 55)) = false := h6
      rw [h6']; rfl
  · exact raw_on p1 (by rw [c1]; exact h3) fun s3 => H _ _ s3
end
end Mine
end
section
open PySem
namespace Mine
set_option maxRecDepth 100000

theorem pa_match : PlainAttrs "re.Match" :=
  ⟨⟨"object.__getattribute__", by rw [typeLookup_type, builtinLookup_eq_fast]; kernel_rfl, by decide +kernel⟩, by rw [typeLookup_type, builtinLookup_eq_fast]; kernel_rfl⟩
theorem pa_pattern : PlainAttrs "re.Pattern" :=
  ⟨⟨"object.__getattribute__", by rw [typeLookup_type, builtinLookup_eq_fast]; kernel_rfl, by decide +kernel⟩, by rw [typeLookup_type, builtinLookup_eq_fast]; kernel_rfl⟩
theorem own_match : Manifest.owners.lookup (String.ofList ['h', 'c', 't', 'a', 'M', '.', 'e', 'r'].reverse) = some Manifest.sig_re_Match := by kernel_rfl
theorem own_pattern : Manifest.owners.lookup (String.ofList ['n', 'r', 'e', 't', 't', 'a', 'P', '.', 'e', 'r'].reverse) = some Manifest.sig_re_Pattern := by kernel_rfl
theorem slot_group : Slot "re.Match" "group" "re.Match.group" :=
  .of (owner := "re.Match") (n := "group") (by rw [typeLookup_type, builtinLookup_eq_fast]; kernel_rfl) (by decide +kernel) (by decide +kernel) (by decide +kernel)
    (by first | exact .inl (by decide +kernel) | exact .inr (by decide +kernel)) (by rw [isSubtype_type]; kernel_rfl)
theorem type_group : typeOf (.builtin "re.Match.group") = pure (.type "method_descriptor") := by show builtinType _ = _; rw [builtinType_eq_fast]; kernel_rfl
theorem entry_group : entryFor table "re.Match.group" = some Builtin.«re.Match.group» := entryFor_of_tree (by kernel_rfl)
theorem slot_sub : Slot "re.Pattern" "sub" "re.Pattern.sub" :=
  .of (owner := "re.Pattern") (n := "sub") (by rw [typeLookup_type, builtinLookup_eq_fast]; kernel_rfl) (by decide +kernel) (by decide +kernel) (by decide +kernel)
    (by first | exact .inl (by decide +kernel) | exact .inr (by decide +kernel)) (by rw [isSubtype_type]; kernel_rfl)
theorem type_sub : typeOf (.builtin "re.Pattern.sub") = pure (.type "method_descriptor") := by show builtinType _ = _; rw [builtinType_eq_fast]; kernel_rfl
theorem entry_sub : entryFor table "re.Pattern.sub" = some Builtin.«re.Pattern.sub» := entryFor_of_tree (by kernel_rfl)
theorem entry_loop : entryFor table "re.Pattern.sub.loop" = some Builtin.«re.Pattern.sub.loop» := entryFor_of_tree (by kernel_rfl)
theorem plain_loop : plainId "re.Pattern.sub.loop" = true := by decide +kernel
theorem args_sub (a b c : Value) : argsOk "re.Pattern.sub" ⟨[a, b, c], []⟩ := by
  unfold argsOk; rw [signature?_of (id := "re.Pattern.sub") (n := ['b', 'u', 's']) (o := ['n', 'r', 'e', 't', 't', 'a', 'P', '.', 'e', 'r']) (by kernel_rfl) own_pattern]; kernel_rfl
theorem args_group (a b c : Value) : argsOk "re.Match.group" ⟨[a, b, c], []⟩ := by
  unfold argsOk; rw [signature?_of (id := "re.Match.group") (n := ['p', 'u', 'o', 'r', 'g']) (o := ['h', 'c', 't', 'a', 'M', '.', 'e', 'r']) (by kernel_rfl) own_match]; kernel_rfl
end Mine
end
section
open PySem PySem.W PyProof.Rows PySem.Calls PySem.Spec PySem.Builtin PySem.Builtin.Re
namespace Mine
set_option maxRecDepth 100000

theorem call_entry {prog : Program} {w : World} {A : Around} {E : Value → Shared → Prop} {s : Shared} {T : String} {name : Str} {id : String} {B : Builtin} {self : Value} {rest : List Value} {Q : Value → Shared → Prop} (slot : Slot T name id) (hT : s.TypeIs self T)
    (entry : entryFor table id = some B) (args : argsOk id ⟨self :: rest, []⟩)
    (h : wpAny (model prog w) A.in1 (B ⟨self :: rest, []⟩) (fun fin s' => match fin with | .done f => wants Q E (.ok f) s' | .again c' => c'.quiet = true ∧ codeAny (model prog w) A c' (wants Q E) s') (fun e s' => wants Q E (.error e) s') s) :
    wpAny (model prog w) A (call (.builtin id) (self :: rest)) Q E s :=
  wpAny_call (codeAny_call_builtin slot.plain entry (slot.check _ _ _ _ _ _ _ _ hT args h))

abbrev matchObj (str : Value) (lim : Int) (tup : Addr) : Obj := { cls := .type "re.Match", data := .fields #[str, .ref 36, .int 0 0, .int lim 0, .int 1 0, .ref tup] }
abbrev tupObj (vs : List Value) (n : Nat) : Obj := { cls := .type "tuple", data := .seq vs.toArray n }
section
variable {prog : Program} {w : World} {A : Around} {E : Value → Shared → Prop} {s : Shared}
theorem group_text {M : Model} {text : Str} {tk : Tok} {g b e : Nat} {vs : Array Int} {fs : Array Value} {Q : Value → Shared → Prop} (hf : fs.getD 0 .none = .str text tk) (hb : vs.getD (2 * g) (-1) = b) (he : vs.getD (2 * g + 1) (-1) = e) (hs : (text.cps.extract b e).size ≤ sizeLine)
    (h : Q (.str ⟨text.cps.extract b e⟩ s.toks) { s with toks := s.toks + 1 }) : wpAny M A (reGroupText ⟨fs, vs⟩ g .none) Q E s := by
  unfold reGroupText
  simp only [hb, he, hf]
  have h1 : (decide ((b : Int) < 0) || decide ((e : Int) < 0)) = false := by
    rw [Bool.or_eq_false_iff]; exact ⟨decide_eq_false (by omega), decide_eq_false (by omega)⟩
  rw [h1]
  simp only [Bool.false_eq_true, if_false]
  refine wpAny_bind ?_
  unfold reTextOf
  refine wpAny_bind (m := asStr? (.str text tk)) (wpAny_pure ?_)
  refine wpAny_pure ?_
  show wpAny _ _ (reSlice text.cps 0 (b : Int).toNat (e : Int).toNat) _ _ _
  unfold reSlice mkStr
  simp only [Int.toNat_natCast, beq_self_eq_true, if_true]
  rw [if_neg (by show ¬ (text.cps.extract b e).size > sizeLine; omega)]
  exact wpAny_bind (wpAny_fresh (wpAny_pure h))

theorem call_group {mt tp : Addr} {text : Str} {tk : Tok} {lim : Int} {b0 e0 b1 e1 : Nat} {nt : Nat} {t u : Tok} {Q : Value → Shared → Prop}
    (hm : s.heap.get? mt = some (matchObj (.str text tk) lim tp)) (htp : s.heap.get? tp = some (tupObj [.int b0 0, .int e0 0, .int b1 0, .int e1 0] nt)) 
    (h0 : (text.cps.extract b0 e0).size ≤ sizeLine) (h1 : (text.cps.extract b1 e1).size ≤ sizeLine)
    (h : wpAny (model prog w) A.in1 (newTuple [.str ⟨text.cps.extract b0 e0⟩ s.toks, .str ⟨text.cps.extract b1 e1⟩ (s.toks + 1)]) Q E { s with toks := s.toks + 1 + 1 }) :
    wpAny (model prog w) A (call (.builtin "re.Match.group") [.ref mt, .int 0 t, .int 1 u]) Q E s := by
  refine call_entry slot_group ⟨_, hm, rfl⟩ entry_group (args_group _ _ _) ?_
  unfold Builtin.«re.Match.group»
  refine wpAny_bind (m := noKeywords _ _) (wpAny_pure ?_)
  dsimp only
  unfold reFound
  refine wpAny_bind ?_
  refine wpAny_bind (m := fieldsOf _) (wpAny_bind (wpAny_load hm (wpAny_pure ?_)))
  refine wpAny_bind (m := reRawItems _) (wpAny_bind (m := seqItems? _) (wpAny_bind (wpAny_load htp (wpAny_pure (wpAny_pure ?_)))))
  refine wpAny_pure ?_
  have z : Array.map reRawOf ((some #[Value.int (↑b0) 0, Value.int (↑e0) 0, Value.int (↑b1) 0, Value.int (↑e1) 0]).getD #[]) = #[(b0 : Int), (e0 : Int), (b1 : Int), (e1 : Int)] := by simp [reRawOf]
  rw [z]
  have num0 : ∀ {fs : Array Value} {t : Tok} {s : Shared} {P : Nat → Shared → Prop}, P 0 s → wpAny (model prog w) A.in1 (reGroupNumber ⟨fs, #[(b0 : Int), (e0 : Int), (b1 : Int), (e1 : Int)]⟩ (.int 0 t)) P (fun e s' => wants Q E (.error e) s') s := fun hq => wpAny_pure hq
  have num1 : ∀ {fs : Array Value} {t : Tok} {s : Shared} {P : Nat → Shared → Prop}, P 1 s → wpAny (model prog w) A.in1 (reGroupNumber ⟨fs, #[(b0 : Int), (e0 : Int), (b1 : Int), (e1 : Int)]⟩ (.int 1 t)) P (fun e s' => wants Q E (.error e) s') s := fun hq => wpAny_pure hq
  refine wpAny_bind ?_
  rw [List.forIn_cons]
  refine wpAny_bind (wpAny_bind (wpAny_holding (wpAny_bind (num0 (group_text rfl rfl rfl h0 (wpAny_pure ?_))))))
  dsimp only
  rw [List.forIn_cons]
  refine wpAny_bind (wpAny_bind (wpAny_holding (wpAny_bind (num1 (group_text rfl rfl rfl h1 (wpAny_pure ?_))))))
  dsimp only
  rw [List.forIn_nil]
  refine wpAny_pure ?_
  refine wpAny_bind (wpAny_mono h (fun v s' hv => wpAny_pure hv) fun _ _ he => he)

theorem group_K {h₀ : Heap} {L : Addr} {m : Str → Option Value} {news : List (Addr × Obj)} {mt tp : Addr} {text : Str} {tk : Tok} {lim : Int} {b0 e0 b1 e1 : Nat} {nt : Nat} {t u : Tok} {g0 g1 : Str} {Q : Value → Shared → Prop}
    (F : Fr h₀ L s.heap m) (N : News h₀ L s.heap news) (hm : (mt, matchObj (.str text tk) lim tp) ∈ news) (htp : (tp, tupObj [.int b0 0, .int e0 0, .int b1 0, .int e1 0] nt) ∈ news)
    (h0 : (⟨text.cps.extract b0 e0⟩ : Str) = g0) (h1 : (⟨text.cps.extract b1 e1⟩ : Str) = g1) (s0 : g0.length ≤ sizeLine) (s1 : g1.length ≤ sizeLine)
    (h : ∀ q h', Fr h₀ L h' m → News h₀ L h' ((q, tupObj [.str g0 s.toks, .str g1 (s.toks + 1)] 0) :: news) → (∀ p ∈ news, p.1 < q) → Q (.ref q) { s with heap := h', toks := s.toks + 1 + 1 }) :
    wpAny (model prog w) A (call (.builtin "re.Match.group") [.ref mt, .int 0 t, .int 1 u]) Q E s := by
  subst h0 h1
  refine call_group (N _ hm).1 (N _ htp).1 s0 s1 ?_
  exact newTuple_N (s := { s with toks := s.toks + 1 + 1 }) F N (fun h' F' N' => h _ h' F' N' fun p hp => Heap.lt_size (N p hp).1) (by show 2 ≤ sizeLine; decide)
theorem method_group {h₀ : Heap} {L : Addr} {news : List (Addr × Obj)} {mt tp : Addr} {str : Value} {lim : Int} {pl : Sem Bool} {Q : Value × List Value → Shared → Prop} (N : News h₀ L s.heap news) (hm : (mt, matchObj str lim tp) ∈ news)
    (h : Q (.builtin "re.Match.group", [.ref mt]) s) : wpAny (model prog w) A (getMethod (.ref mt) "group" pl) Q E s :=
  getMethod_builtin ⟨_, (N _ hm).1, rfl⟩ pa_match slot_group type_group (fun a e => by cases e; exact ⟨_, (N _ hm).1, rfl⟩) h
end
end Mine
end
section
open PySem PySem.W PyProof.Rows PySem.Calls PySem.Spec PySem.Builtin
namespace Mine
set_option maxRecDepth 100000

theorem wp_text {M : Model} {A : Around} {E : Value → Shared → Prop} {s : Shared} {Q : Value → Shared → Prop} {v : Value} {text : List Nat} {b : Nat} {n : Int}
    (hs : (text.takeWhile (· != 0)).length ≤ 640) (hr : (int_private% "readNumeral") 0 b (text.takeWhile (· != 0)) = (int_private% "Numeral.value") n)
    (ha : ((text.takeWhile (· != 0)).length == text.length) = true) (h : Q (.int n s.toks) { s with toks := s.toks + 1 }) :
    wpAny M A ((int_private% "intFromText") v text b) Q E s := by
  obtain ⟨hp, g, d, tk, os⟩ := s
  repeat (any_goals (first
    | assumption
    | (with_reducible refine wpAny_ite_true (decide_eq_true hs) ?_)
    | (with_reducible refine wpAny_ite_true (decide_eq_true ha) ?_)
    | wp_step))
  all_goals (try rw [hr])
  all_goals (try dsimp only)
  repeat (any_goals (first
    | assumption
    | (with_reducible refine wpAny_ite_true (decide_eq_true hs) ?_)
    | (with_reducible refine wpAny_ite_true (decide_eq_true ha) ?_)
    | wp_step))


set_option maxHeartbeats 4000000 in
theorem gives_base {x : PySem.Str} {u v : Tok} {b n : Int} (hb : b = 8 ∨ b = 16) (hc : x.cps.all (· < 128) = true) (hs : (x.cps.toList.takeWhile (· != 0)).length ≤ 640)
    (hr : (int_private% "readNumeral") 0 b.toNat (x.cps.toList.takeWhile (· != 0)) = (int_private% "Numeral.value") n) (ha : ((x.cps.toList.takeWhile (· != 0)).length == x.cps.toList.length) = true) :
    Gives (Builtin.«int.__new__» ⟨[.type "int", .str x u, .int b v], []⟩) (.int n) :=
  .of_wp fun M A E s Q h => by
    obtain ⟨hp, g, d, tk, os⟩ := s
    have f1 := F.conv_sub_int
    have f2 := F.madeHere_int
    have f6 : typeOf (.str x u) = pure (.type "str") := rfl
    rcases hb with rfl | rfl
    all_goals (
      repeat (any_goals (first
        | assumption
        | wp_step))
      simp only [hc, if_true]
      rw [hr]
      dsimp only
      rw [if_pos ha]
      repeat (any_goals (first
        | assumption
        | wp_step))
      try exact ⟨_, rfl, h⟩)

namespace F
theorem typeCall_int_2 (a b : Value) : checkTypeCall "int" ⟨[a, b], []⟩ = pure () := by kernel_rfl
theorem newCall_int_2 (a b : Value) : checkBuiltinCall "int.__new__" ⟨[.type "int", a, b], []⟩ = pure () := by kernel_rfl
end F
theorem call_int_2 {prog : Program} {w : World} {A : Around} {E : Value → Shared → Prop} {s : Shared} {x y : Value} {S : PySem.Spec} {Q : Value → Shared → Prop} (g : Meets (Builtin.«int.__new__» ⟨[.type "int", x, y], []⟩) S) (h : S A.in1 (wants (fun obj s₁ => s₁.TypeIs obj "int" ∧ Q obj s₁) E) s) :
    wpAny (model prog w) A (call (.type "int") [x, y]) Q E s :=
  callType_new F.called_int F.newNe_int (F.typeCall_int_2 x y) (F.newCall_int_2 x y) (fun obj => F.args_object_init_3 obj x y) F.entry_int_new g h
theorem call_base {prog : Program} {w : World} {A : Around} {E : Value → Shared → Prop} {s : Shared} {x : PySem.Str} {u v : Tok} {b n : Int} {Q : Value → Shared → Prop} (hb : b = 8 ∨ b = 16) (hc : x.cps.all (· < 128) = true) (hs : (x.cps.toList.takeWhile (· != 0)).length ≤ 640)
    (hr : (int_private% "readNumeral") 0 b.toNat (x.cps.toList.takeWhile (· != 0)) = (int_private% "Numeral.value") n) (ha : ((x.cps.toList.takeWhile (· != 0)).length == x.cps.toList.length) = true)
    (h : Q (.int n s.toks) { s with toks := s.toks + 1 }) : wpAny (model prog w) A (call (.type "int") [.str x u, .int b v]) Q E s :=
  call_int_2 (gives_base hb hc hs hr ha).meets (show (Made.int n).post _ s from ⟨rfl, h⟩)
end Mine
end
section
open PySem PySem.Builtin.Re
namespace Mine
open PySem.Sre (M Seen Op ops accepts itemWidth inSet Kept Wait Outcome)

inductive Seg where
  | raw (w : List Nat)
  | tok (w : List Nat) (v : Option Str)
def Seg.w : Seg → List Nat
  | .raw w => w
  | .tok w _ => w
def txt : List Seg → List Nat
  | [] => []
  | x :: xs => x.w ++ txt xs
theorem txt_app : ∀ xs ys, txt (xs ++ ys) = txt xs ++ txt ys
  | [], _ => rfl
  | x :: xs, ys => by simp [txt, txt_app xs ys]
inductive SkipOk : List Nat → Prop
  | one (c : Nat) (h : c ≠ 92) : SkipOk [c]
  | two (c : Nat) (h : kept c = true) : SkipOk [92, c]
def Good : List Seg → Prop
  | [] => True
  | .raw w :: xs => SkipOk w ∧ Good xs
  | .tok w _ :: xs => TokOk w (txt xs) ∧ Good xs

def raws (rs : List (List Nat)) : List Seg := rs.map .raw
theorem TokOk.len {w r : List Nat} (h : TokOk w r) : 2 ≤ w.length := by cases h <;> simp

/-- the first word that is taken, or none -/
inductive First : List Seg → Type
  | tok (rs : List (List Nat)) (w : List Nat) (v : Option Str) (ys : List Seg) : First (raws rs ++ .tok w v :: ys)
  | none (rs : List (List Nat)) : First (raws rs)
def first : (xs : List Seg) → First xs
  | [] => .none []
  | .tok w v :: ys => .tok [] w v ys
  | .raw w :: xs => match xs, first xs with
    | _, .tok rs w' v ys => .tok (w :: rs) w' v ys
    | _, .none rs => .none (w :: rs)

section
variable {t : Array Nat}
theorem skip_all {P : M → Prop} {K : Nat} : ∀ (rs : List (List Nat)) (xs : List Seg) (p : Nat) (a b : Option Nat) (sn : Seen) (o : Bool), At t p (txt (raws rs ++ xs)) → Good (raws rs ++ xs) →
    (∀ a' b' sn' o', Ends (SS t (p + (txt (raws rs)).length) a' b' sn' o') K P) → Ends (SS t p a b sn o) (K + 18 * rs.length) P
  | [], xs, p, a, b, sn, o, _, _, H => by simpa [raws, txt] using H a b sn o
  | w :: rs, xs, p, a, b, sn, o, ha, hg, H => by
    have hg' : SkipOk w ∧ Good (raws rs ++ xs) := hg
    have ha' : At t p (w ++ txt (raws rs ++ xs)) := ha
    have e : (txt (raws (w :: rs))).length = w.length + (txt (raws rs)).length := by simp [raws, txt, Seg.w]
    have hk : K + 18 * (w :: rs).length = K + 18 * rs.length + 18 := by simp only [List.length_cons]; omega
    rw [hk]
    have IH := fun a' b' sn' o' => skip_all (P := P) (K := K) rs xs (p + w.length) a' b' sn' o' ha'.app hg'.2 (fun a'' b'' s'' o'' => by
      have := H a'' b'' s'' o''
      rw [e, ← Nat.add_assoc] at this
      exact this)
    cases hg'.1 with
    | one c hc =>
      obtain ⟨p0, c0, _⟩ := At.cons (show At t p (c :: txt (raws rs ++ xs)) from ha')
      refine Ends.le (k := K + 18 * rs.length + 2) ?_ (by omega)
      exact raw_on p0 (by rw [c0]; exact hc) fun s1 => IH _ _ s1 _
    | two c hc => exact kept_on hc (show At t p (92 :: c :: txt (raws rs ++ xs)) from ha') fun a' b' s1 => IH a' b' s1 _
end

theorem rx_header : Sre.header rxCode = (2, 9) := rfl
theorem forSearch_go {t : Array Nat} {p : Nat} (h : 2 ≤ t.size - p) : ∃ sn, Sre.forSearch rxCode t 1 p t.size false = SS t p none none sn true := by
  refine ⟨({} : Seen).add 14, ?_⟩
  have h1 : ¬ (p > t.size) := by omega
  have h2 : ¬ (t.size - p < (Sre.header rxCode).1) := by rw [rx_header]; show ¬ (t.size - p < 2); omega
  have hc : ¬ ((decide (p > t.size) || decide (t.size - p < (Sre.header rxCode).1)) = true) := by rw [decide_eq_false h1, decide_eq_false h2]; decide
  unfold Sre.forSearch
  dsimp only
  rw [if_neg hc]
  rfl
theorem forSearch_no {t : Array Nat} {p : Nat} (h : t.size - p < 2) : Ends (Sre.forSearch rxCode t 1 p t.size false) 1 (fun m => m.outcome = some .failed) := by
  have h2 : t.size - p < (Sre.header rxCode).1 := by rw [rx_header]; exact h
  have hc : (decide (p > t.size) || decide (t.size - p < (Sre.header rxCode).1)) = true := by rw [decide_eq_true h2, Bool.or_true]
  unfold Sre.forSearch
  dsimp only
  rw [if_pos hc]
  exact Ends.step rfl rfl (Ends.now rfl rfl)

theorem find_none {t : Array Nat} {p : Nat} {rs : List (List Nat)} (ha : At t p (txt (raws rs))) (hp : p ≤ t.size) (hg : Good (raws rs)) :
    Ends (Sre.forSearch rxCode t 1 p t.size false) (18 * rs.length + 3) (fun m => m.outcome = some .failed) := by
  by_cases h : t.size - p < 2
  · exact (forSearch_no h).le (by omega)
  · obtain ⟨sn, e⟩ := forSearch_go (t := t) (p := p) (by omega)
    rw [e]
    have hs := ha.size hp
    refine Ends.le (k := 3 + 18 * rs.length) ?_ (by omega)
    exact skip_all rs [] p none none sn true (by simpa using ha) (by simpa using hg) fun a' b' s' o' => over (by omega)
theorem find_tok {t : Array Nat} {p : Nat} {rs : List (List Nat)} {w : List Nat} {v : Option Str} {ys : List Seg} (ha : At t p (txt (raws rs ++ .tok w v :: ys))) (hp : p ≤ t.size) (hg : Good (raws rs ++ .tok w v :: ys)) :
    Ends (Sre.forSearch rxCode t 1 p t.size false) (18 * rs.length + 30) (Found (p + (txt (raws rs)).length) (p + (txt (raws rs)).length + w.length)) := by
  have gtail : ∀ rs : List (List Nat), Good (raws rs ++ .tok w v :: ys) → TokOk w (txt ys) := by
    intro rs
    induction rs with
    | nil => exact fun h => h.1
    | cons r rs ih => exact fun h => ih h.2
  have ht := gtail rs hg
  have hl := ht.len
  have hs := ha.size hp
  rw [txt_app] at ha hs
  obtain ⟨sn, e⟩ := forSearch_go (t := t) (p := p) (by rw [hs]; simp only [txt, Seg.w, List.length_append]; omega)
  rw [e]
  refine Ends.le (k := 30 + 18 * rs.length) ?_ (by omega)
  refine skip_all rs (.tok w v :: ys) p none none sn true (by rw [txt_app]; exact ha) hg fun a' b' s' o' => ?_
  exact tok_ends ht ha.app

theorem runFor_stays : ∀ (k : Nat) {m : M}, m.outcome.isSome = true → M.runFor k m = m
  | 0, _, _ => rfl
  | _ + 1, _, h => by show (if _ then _ else _) = _; rw [if_pos h]
theorem runFor_add : ∀ (i j : Nat) (m : M), M.runFor (i + j) m = M.runFor j (M.runFor i m)
  | 0, j, m => by rw [Nat.zero_add]; rfl
  | i + 1, j, m => by
    have e : i + 1 + j = (i + j) + 1 := by omega
    rw [e]
    show (if m.outcome.isSome then m else M.runFor (i + j) m.step) = M.runFor j (if m.outcome.isSome then m else M.runFor i m.step)
    cases h : m.outcome.isSome with
    | true => simp only [if_true]; exact (runFor_stays j h).symm
    | false => simp only [Bool.false_eq_true, if_false]; exact runFor_add i j m.step

section
variable {MM : Model} {A : Around} {E : Value → Shared → Prop} {s : Shared}
theorem wp_drive {m' : M} {Q : M → Shared → Prop} (h : Q m' s) : ∀ (N k : Nat) (m : M), k < 4 * N → M.runFor k m = m' → m'.outcome.isSome = true → wpAny MM A (reDrive N m) Q E s
  | 0, k, m, hk, _, _ => absurd hk (by omega)
  | N + 1, k, m, hk, hm, ho => by
    unfold reDrive
    by_cases h4 : (m.runFor reTurnSteps).outcome.isSome = true
    · have e : m.runFor reTurnSteps = m' := by
        rcases Nat.le_total k 4 with hk4 | hk4
        · obtain ⟨d, hd⟩ := Nat.exists_eq_add_of_le hk4
          show M.runFor 4 m = m'
          rw [hd, runFor_add, hm, runFor_stays d ho]
        · obtain ⟨d, hd⟩ := Nat.exists_eq_add_of_le hk4
          rw [← hm, hd, runFor_add]
          exact (runFor_stays d h4).symm
      simp only [h4, if_true]
      rw [e]; exact wpAny_pure h
    · simp only [h4]
      refine wpAny_bind (wpAny_rule ?_)
      have hk4 : 4 ≤ k := by
        apply Nat.le_of_not_lt
        intro q
        obtain ⟨d, hd⟩ := Nat.exists_eq_add_of_le (Nat.le_of_lt q)
        apply h4
        show (M.runFor 4 m).outcome.isSome = true
        rw [hd, runFor_add, hm, runFor_stays d ho]
        exact ho
      obtain ⟨d, hd⟩ := Nat.exists_eq_add_of_le hk4
      refine wp_drive h N d _ (by omega) ?_ ho
      rw [← hm, hd, runFor_add]; rfl

theorem wp_rules {P : Unit → Shared → Prop} (F : Nat → Unit → Sem (ForInStep Unit)) (hF : ∀ i (P' : ForInStep Unit → Shared → Prop), P' (.yield ()) s → wpAny MM A (F i ()) P' E s) (h : P () s) : ∀ l : List Nat, wpAny MM A (forIn l () F) P E s
  | [] => wpAny_pure h
  | i :: l => by
    rw [List.forIn_cons]
    exact wpAny_bind (hF i _ (wp_rules F hF h l))

theorem wp_found {m : M} {k : Nat} {p e : Nat} {Q : Option M → Shared → Prop} (hk : k < 4 * 2 ^ 64) (H : Ends m k (Found p e)) (h : ∀ m', Found p e m' → Q (some m') s) : wpAny MM A (reRunToEnd m) Q E s := by
  obtain ⟨j, hj, ho, hf⟩ := H
  unfold reRunToEnd
  refine wpAny_bind (wp_drive ?_ (2 ^ 64) j m (by omega) rfl ho)
  refine wpAny_bind ?_
  refine wp_rules _ (fun i P' hP => by split <;> first | exact wpAny_bind (wpAny_rule (wpAny_pure hP)) | exact wpAny_pure hP) ?_ _
  have : (M.runFor j m).outcome = some .matched := hf.1
  rw [this]
  exact wpAny_pure (h _ hf)
theorem wp_none {m : M} {k : Nat} {Q : Option M → Shared → Prop} (hk : k < 4 * 2 ^ 64) (H : Ends m k (fun m => m.outcome = some .failed)) (h : Q none s) : wpAny MM A (reRunToEnd m) Q E s := by
  obtain ⟨j, hj, ho, hf⟩ := H
  unfold reRunToEnd
  refine wpAny_bind (wp_drive ?_ (2 ^ 64) j m (by omega) rfl ho)
  refine wpAny_bind ?_
  refine wp_rules _ (fun i P' hP => by split <;> first | exact wpAny_bind (wpAny_rule (wpAny_pure hP)) | exact wpAny_pure hP) ?_ _
  rw [hf]
  exact wpAny_pure h
end
end Mine
end
section
open PySem PySem.W PyProof.Rows PySem.Calls PySem.Builtin.Re
namespace Mine
set_option maxRecDepth 100000

noncomputable abbrev LS : List Str := looseW hd.view_39 [Str.ofString "_twin_re_1", Str.ofString "simple_escapes"]
abbrev ofL (l : List Nat) : Str := ⟨l.toArray⟩

/-- escape, upon a match of g0 (its tail g1), hands back v -/
def EscOk (w : World) (g0 g1 v : Str) : Prop :=
  ∀ (mean : ExcName → Option Value) (mg mb : Str → Option Value) (dp un : Nat) (gd : Option (List Code)) (cn : Str) (cs : Scope) (a : Addr) (ccd : Value) (cl : List (Str × Addr)) (outer : List Env) (A₀ : Around) (base h₀ : Heap) (L : Addr) (m : Str → Option Value) (news : List (Addr × Obj)) (s : Shared) (mt tp : Addr) (lim : Int) (nt : Nat)
    (text : Str) (tk : Tok) (b0 e0 b1 : Nat) (R : Result → Shared → Prop),
    Below A₀ base outer h₀ → Fr h₀ L s.heap m → (hd.heap_39 w.params).In h₀ → News h₀ L s.heap ((mt, matchObj (.str text tk) lim tp) :: (tp, tupObj [.int b0 0, .int e0 0, .int b1 0, .int e0 0] nt) :: news) → Top hd.view_39 LS mean mg mb h₀ → cs.kind = .function → dp < 900 → un < 100 →
    (⟨text.cps.extract b0 e0⟩ : Str) = g0 → (⟨text.cps.extract b1 e0⟩ : Str) = g1 →
    (∀ h' tk' u, Fr h₀ L h' m → News h₀ L h' news → R (.ok (.ret (.str v u))) { s with heap := h', toks := tk' }) →
    codeC (model PySem.Challenge.rw_bl0001_01.row.prog w) (ktrTop dp un gd cn cs L a ccd cl outer) (.call (.ref 44) ⟨[.ref mt], []⟩) R s
/-- .. raises ValueError -/
def EscBad (w : World) (g0 g1 : Str) : Prop :=
  ∀ (mean : ExcName → Option Value) (mg mb : Str → Option Value) (dp un : Nat) (gd : Option (List Code)) (cn : Str) (cs : Scope) (a : Addr) (ccd : Value) (cl : List (Str × Addr)) (outer : List Env) (A₀ : Around) (base h₀ : Heap) (L : Addr) (m : Str → Option Value) (news : List (Addr × Obj)) (s : Shared) (mt tp : Addr) (lim : Int) (nt : Nat)
    (text : Str) (tk : Tok) (b0 e0 b1 : Nat) (R : Result → Shared → Prop),
    Below A₀ base outer h₀ → Fr h₀ L s.heap m → (hd.heap_39 w.params).In h₀ → News h₀ L s.heap ((mt, matchObj (.str text tk) lim tp) :: (tp, tupObj [.int b0 0, .int e0 0, .int b1 0, .int e0 0] nt) :: news) → Top hd.view_39 LS mean mg mb h₀ → (hd.heap_39 w.params).In base → Top hd.view_39 LS mean mg mb base → cs.kind = .function → dp < 900 → un < 100 →
    (⟨text.cps.extract b0 e0⟩ : Str) = g0 → (⟨text.cps.extract b1 e0⟩ : Str) = g1 →
    (∀ h' tk' e g, Fr h₀ L g m → g.UpToSlots h' → RaisedN base (envX cn cs L a ccd cl :: outer) e (.type "ValueError") news h' → R (.error (.ref e)) { s with heap := h', toks := tk' }) →
    codeC (model PySem.Challenge.rw_bl0001_01.row.prog w) (ktrTop dp un gd cn cs L a ccd cl outer) (.call (.ref 44) ⟨[.ref mt], []⟩) R s

theorem RaisedN.tail {base : Heap} {l : List Env} {e : Addr} {cls : Value} {x : Addr × Obj} {news : List (Addr × Obj)} {h : Heap} (R : RaisedN base l e cls (x :: news) h) : RaisedN base l e cls news h := by
  obtain ⟨B, a0, h1, h2, h3⟩ := R
  exact ⟨B, a0, h1, fun q hq => h2 q (.tail _ hq), h3⟩

def EscAll (w : World) : List Seg → Prop
  | [] => True
  | .raw _ :: xs => EscAll w xs
  | .tok t (some v) :: xs => EscOk w (ofL t) (ofL (t.drop 1)) v ∧ EscAll w xs
  | .tok t none :: _ => EscBad w (ofL t) (ofL (t.drop 1))
def res : List Seg → Option (List Nat)
  | [] => some []
  | .raw t :: xs => (res xs).map (t ++ ·)
  | .tok _ (some v) :: xs => (res xs).map (v.cps.toList ++ ·)
  | .tok _ none :: _ => none

def target (text : Str) (tk : Tok) : ReTarget := { pattern := .ref 36, string := .str text tk, code := rxCode, text := text.cps, kind := 0, groups := 1, pos := 0, lim := text.cps.size }

section
variable {M : Model} {A : Around} {E : Value → Shared → Prop} {s : Shared}
theorem wp_target {P : Params} {text : Str} {tk : Tok} {Q : ReTarget → Shared → Prop} (X : (hd.heap_39 P).In s.heap) (h : Q (target text tk) s) : wpAny M A (reWholeTarget (.ref 36) (.str text tk)) Q E s := by
  unfold reWholeTarget
  refine wpAny_bind (m := fieldsOf (.ref 36)) (wpAny_bind (wpAny_load (X 36 _ rfl) (wpAny_pure ?_)))
  refine wpAny_bind (m := reTextOf (.str text tk)) (wpAny_bind (m := asStr? (.str text tk)) (wpAny_pure (wpAny_pure ?_)))
  refine wpAny_bind (m := reRawItems _) (wpAny_bind (m := seqItems? (.ref 35)) (wpAny_bind (wpAny_load (X 35 _ rfl) (wpAny_pure (wpAny_pure ?_)))))
  refine wpAny_pure ?_
  generalize hx : Array.map (fun (x : Int) => x.toNat) _ = c
  have hc : c = rxCode := by rw [← hx]; decide +kernel
  subst hc
  exact h

theorem push_K {h₀ : Heap} {L q : Addr} {m : Str → Option Value} {its : Array Value} {n : Nat} {v : Value} {news : List (Addr × Obj)} {Q : Unit → Shared → Prop} (F : Fr h₀ L s.heap m) (N : News h₀ L s.heap ((q, listOf its n) :: news)) (hq : ∀ p ∈ news, p.1 ≠ q) (hsz : its.size ≤ 100000)
    (h : ∀ h', Fr h₀ L h' m → News h₀ L h' ((q, listOf (its.push v) (n + 1)) :: news) → Q () { s with heap := h' }) : wpAny M A (updateSeq q (·.push v)) Q E s := by
  have hl : (100000 : Nat) ≤ sizeLine := by decide
  refine wpAny_updateSeq (N _ (.head _)).1 rfl ?_ (Nat.le_trans hsz hl) (by rw [Array.size_push]; omega)
  have e : Obj.mapSeq (·.push v) (listOf its n) = listOf (its.push v) (n + 1) := by
    show (⟨_, _, .seq (its.push v) (if (its.push v).size == its.size then n else n + 1), _⟩ : Obj) = _
    have : ((its.push v).size == its.size) = false := by rw [Array.size_push]; simp
    rw [this]; rfl
  obtain ⟨F', N'⟩ := news_upd (pre := []) F N (fun _ hp => (nomatch hp)) hq e rfl
  exact h _ F' N'

theorem newMatch_K {h₀ : Heap} {L : Addr} {m : Str → Option Value} {news : List (Addr × Obj)} {str : Value} {lim p e : Nat} {mm : Sre.M} {Q : Value → Shared → Prop} (F : Fr h₀ L s.heap m) (N : News h₀ L s.heap news) (hf : Found p e mm) (he : p + 1 ≤ e)
    (h : ∀ mt tp h', Fr h₀ L h' m → News h₀ L h' ((mt, matchObj str lim tp) :: (tp, tupObj [.int p 0, .int e 0, .int (p + 1 : Nat) 0, .int e 0] 0) :: news) → Q (.ref mt) { s with heap := h' }) :
    wpAny M A (reNewMatch (.ref 36) str 1 0 lim mm) Q E s := by
  obtain ⟨h1, h2, h3, h4, h5, h6⟩ := hf
  unfold reNewMatch
  have r1 : List.range 1 = [0] := rfl
  simp only [r1, h2, h3, h4, h5, h6, List.flatMap_cons, List.flatMap_nil, List.append_nil, List.any_cons, List.any_nil, Bool.or_false]
  have c1 : (((2 * 0 + 1 : Nat) : Int) ≤ 1) := by decide
  rw [if_pos c1]
  have g0 : (#[some (p + 1), some e] : Array (Option Nat)).getD (2 * 0) none = some (p + 1) := rfl
  have g1 : (#[some (p + 1), some e] : Array (Option Nat)).getD (2 * 0 + 1) none = some e := rfl
  simp only [g0, g1]
  have c2 : (decide (((2 * 0 + 1 : Nat) : Int) ≤ 1) && decide (e < p + 1)) = false := by
    rw [decide_eq_false (show ¬ e < p + 1 by omega), Bool.and_false]
  rw [c2]
  simp only [Bool.false_eq_true, if_false]
  refine wpAny_bind (newTuple_N F N (fun h' F' N' => ?_) (by show 4 ≤ sizeLine; decide))
  unfold newFields
  refine wpAny_newObj_type ?_ (by first | trivial | decide | size_fits)
  exact h _ _ _ (F'.push _) (N'.push F' _)
end
end Mine
end
section
open PySem PySem.W PyProof.Rows PySem.Calls PySem.Builtin.Re
namespace Mine
set_option maxRecDepth 100000

def flat (l : List (Str × Tok)) : List Nat := l.flatMap fun p => p.1.cps.toList
theorem flat_app (l r : List (Str × Tok)) : flat (l ++ r) = flat l ++ flat r := by simp [flat]
theorem values_push (l : List (Str × Tok)) (x : Str) (t : Tok) : ((strValues l).toArray).push (.str x t) = (strValues (l ++ [(x, t)])).toArray := by simp [strValues]
theorem values_size (l : List (Str × Tok)) : (strValues l).toArray.size = l.length := by simp [strValues]

theorem glued_toList : ∀ (ps : List Str) (x : Str), (ps.foldl (fun acc p => acc ++ (#[] : Array Nat) ++ p.cps) x.cps).toList = x.cps.toList ++ ps.flatMap fun p => p.cps.toList
  | [], x => by simp
  | p :: ps, x => by
    have := glued_toList ps (⟨x.cps ++ #[] ++ p.cps⟩ : Str)
    simp only [List.foldl_cons] at this ⊢
    rw [this]; simp
theorem join_flat (l : List (Str × Tok)) : Txt.join ⟨#[]⟩ (l.map (·.1)) = ofL (flat l) := by
  cases l with
  | nil => rfl
  | cons p l =>
    have h := glued_toList (l.map (·.1)) p.1
    apply congrArg Str.mk
    apply Array.ext'
    show (((p.1 :: l.map (·.1)).drop 1).foldl (fun acc p => acc ++ (#[] : Array Nat) ++ p.cps) p.1.cps).toList = flat (p :: l)
    rw [List.drop_one, List.tail_cons, h]
    simp [flat, List.flatMap_map]
theorem joinOk_of (l : List (Str × Tok)) (h : (flat l).length ≤ 100000) : JoinOk ⟨#[]⟩ (l.map (·.1)) = true := by
  have key : ∀ (l : List (Str × Tok)) (k : Nat), (l.map (·.1)).foldl (fun n p => n + p.length + Str.length ⟨#[]⟩) k = k + (flat l).length := by
    intro l
    induction l with
    | nil => intro k; rfl
    | cons p l ih =>
      intro k
      rw [List.map_cons, List.foldl_cons, ih]
      have : Str.length (⟨#[]⟩ : Str) = 0 := rfl
      rw [this]
      simp only [flat, List.flatMap_cons, List.length_append]
      have : p.1.length = p.1.cps.toList.length := by show p.1.cps.size = _; simp
      rw [this]; omega
  unfold JoinOk PySem.Builtin.Str.tooLong
  rw [List.foldl_toArray', key]
  · have : (100000 : Nat) ≤ sizeLine := by decide
    simp; omega
  · simp

theorem ext_mid {t : Array Nat} {p : Nat} {w r : List Nat} (h : At t p (w ++ r)) : t.extract p (p + w.length) = w.toArray := by
  apply Array.ext'
  unfold At at h
  rw [Array.toList_extract]
  simp only [List.extract_eq_take_drop, Nat.add_sub_cancel_left]
  rw [h, List.take_left]

section
variable {w : World} {mean : ExcName → Option Value} {mg mb : Str → Option Value} {dp : Nat} {gd : Option (List Code)} {cn : Str} {cs : Scope} {a : Addr} {ccd : Value} {cl : List (Str × Addr)} {outer : List Env} {A₀ : Around} {base h₀ : Heap} {L : Addr} {m : Str → Option Value}

abbrev loopArgs (text : Str) (tk : Tok) (n p : Int) (q : Addr) : List Value :=
  [.ref 36, .str text tk, .ref 44, rawInt 1, rawInt 0, rawInt n, rawInt p, rawInt p, .bool false, .ref q, .bool false]

theorem wp_slice {M : Model} {A : Around} {E : Value → Shared → Prop} {s : Shared} {t : Array Nat} {b e : Nat} {wd : List Nat} {Q : Value → Shared → Prop} (hw : t.extract b e = wd.toArray) (hs : wd.length ≤ 100000)
    (h : Q (.str (ofL wd) s.toks) { s with toks := s.toks + 1 }) : wpAny M A (reSlice t 0 b e) Q E s := by
  have hl : (100000 : Nat) ≤ sizeLine := by decide
  unfold reSlice mkStr
  simp only [beq_self_eq_true, if_true, hw]
  rw [if_neg (by show ¬ (wd.toArray.size > sizeLine); rw [List.size_toArray]; omega)]
  exact wpAny_bind (wpAny_fresh (wpAny_pure h))


theorem res_app (xs : List Seg) : ∀ rs : List (List Nat), res (raws rs ++ xs) = (res xs).map (txt (raws rs) ++ ·)
  | [] => by cases h : res xs <;> simp [raws, txt, h]
  | r :: rs => by
    show (res (raws rs ++ xs)).map (r ++ ·) = _
    rw [res_app xs rs]
    cases res xs <;> simp [raws, txt, Seg.w]
theorem res_raws (rs : List (List Nat)) : res (raws rs) = some (txt (raws rs)) := by
  have := res_app [] rs
  simpa [res] using this
theorem escAll_app {w : World} {xs : List Seg} : ∀ {rs : List (List Nat)}, EscAll w (raws rs ++ xs) → EscAll w xs
  | [], h => h
  | _ :: rs, h => escAll_app (rs := rs) h
theorem good_app {xs : List Seg} : ∀ {rs : List (List Nat)}, Good (raws rs ++ xs) → Good xs
  | [], h => h
  | _ :: rs, h => good_app (rs := rs) h.2

def endTree (text : Str) (q : Addr) : Sem Fin := do
  let joiner ← reSlice text.cps 0 0 0
  let r ← if ((← seqItems? (.ref q)).getD #[]).isEmpty then pure joiner else call (.builtin "str.join") [joiner, .ref q]
  ret r
theorem end_ok {M : World} {A : Around} {E : Value → Shared → Prop} {s : Shared} {text : Str} {q : Addr} {news : List (Addr × Obj)} {l : List (Str × Tok)} {nn : Nat} {Q : Fin → Shared → Prop} (F : Fr h₀ L s.heap m) (N : News h₀ L s.heap ((q, listOf (strValues l).toArray nn) :: news)) (hl : (flat l).length ≤ 100000)
    (h : ∀ tk' u, Q (.done (.ret (.str (ofL (flat l)) u))) { s with toks := tk' }) : wpAny (model PySem.Challenge.rw_bl0001_01.row.prog M) A (endTree text q) Q E s := by
  unfold endTree
  refine wpAny_bind (wp_slice (wd := []) (by simp) (by decide) ?_)
  refine wpAny_bind (m := seqItems? (.ref q)) (wpAny_bind (wpAny_load (N _ (.head _)).1 (wpAny_pure ?_)))
  by_cases he : (((some (strValues l).toArray).getD #[]).isEmpty) = true
  · rw [if_pos he]
    have : l = [] := by
      cases l with
      | nil => rfl
      | cons x l => exact absurd he (by simp [strValues])
    subst this
    exact wpAny_bind (wpAny_pure (wpAny_pure (h _ _)))
  · rw [if_neg he]
    refine wpAny_bind (SC.join (l := l) ⟨_, (N _ (.head _)).1, rfl, nn, rfl⟩ rfl (joinOk_of l hl) fun t' k' => ?_)
    rw [join_flat]
    exact wpAny_pure (h _ _)

def turnTree (text : Str) (tk : Tok) (n : Int) (q : Addr) (mm : Sre.M) : Sem Fin := do
  let found ← reNewMatch (.ref 36) (.str text tk) 1 0 text.cps.size mm
  let item ← holding [found] (call (.ref 44) [found])
  if (item != Value.none) = true then do
    updateSeq q fun x => x.push item
    again (.builtin "re.Pattern.sub.loop" ⟨[.ref 36, .str text tk, .ref 44, rawInt 1, rawInt 0, rawInt (n + 1), rawInt mm.handed, rawInt mm.handed, .bool (mm.handed == mm.start), .ref q, .bool false], []⟩)
  else again (.builtin "re.Pattern.sub.loop" ⟨[.ref 36, .str text tk, .ref 44, rawInt 1, rawInt 0, rawInt (n + 1), rawInt mm.handed, rawInt mm.handed, .bool (mm.handed == mm.start), .ref q, .bool false], []⟩)

set_option maxHeartbeats 4000000 in
theorem loop_C (B : Below A₀ base outer h₀) (X : (hd.heap_39 w.params).In h₀) (T : Top hd.view_39 LS mean mg mb h₀) (Xb : (hd.heap_39 w.params).In base) (Tb : Top hd.view_39 LS mean mg mb base) (hk : cs.kind = .function) (hdp : dp < 900) {un : Nat} (hun : un < 90) (text : Str) (tk : Tok) (q : Addr) (news : List (Addr × Obj)) (hq : ∀ p ∈ news, p.1 ≠ q)
    (hts : text.cps.size ≤ 10000) : ∀ (k : Nat) (xs : List Seg), xs.length < k → ∀ (p : Nat) (n : Int) (l : List (Str × Tok)) (nn : Nat) (s : Shared) (R : Result → Shared → Prop),
    At text.cps p (txt xs) → p ≤ text.cps.size → Good xs → EscAll w xs → l.length + 2 * xs.length + 2 ≤ 100000 → (∀ r, res xs = some r → (flat l ++ r).length ≤ 100000) →
    Fr h₀ L s.heap m → News h₀ L s.heap ((q, listOf (strValues l).toArray nn) :: news) →
    (∀ r, res xs = some r → ∀ h' tk' u, Fr h₀ L h' m → News h₀ L h' news → R (.ok (.ret (.str (ofL (flat l ++ r)) u))) { s with heap := h', toks := tk' }) →
    (res xs = none → ∀ h' tk' e g, Fr h₀ L g m → g.UpToSlots h' → RaisedN base (envX cn cs L a ccd cl :: outer) e (.type "ValueError") news h' → R (.error (.ref e)) { s with heap := h', toks := tk' }) →
    codeC (model PySem.Challenge.rw_bl0001_01.row.prog w) (ktrTop dp un gd cn cs L a ccd cl outer) (.builtin "re.Pattern.sub.loop" ⟨loopArgs text tk n p q, []⟩) R s := by
  intro k
  induction k with
  | zero => intro xs hxs; exact absurd hxs (Nat.not_lt_zero _)
  | succ k ih =>
    intro xs hxs p n l nn s R hat hp hg he hlen hres F N hok hbad
    refine C.builtin entry_loop ?_
    rw [Around.under_plainId plain_loop]
    unfold Builtin.«re.Pattern.sub.loop»
    refine C.bindA (wp_target (X.keeps F.keep) ?_)
    dsimp only
    rw [if_neg (show ¬ ((1 : Int) == 0) = true by decide)]
    have z0 : ¬ ((0 : Int) != 0 && decide (n ≥ 0)) = true := by simp
    have zp : ((p : Int)).toNat = p := Int.toNat_natCast p
    have fx := first xs
    cases fx with
    | none rs =>
      have hr := res_raws rs
      have hl1 : (raws rs).length = rs.length := by simp [raws]
      refine C.bindA ?_
      rw [if_neg z0]
      unfold reNextFound
      rw [zp]
      refine wp_none (k := 18 * rs.length + 3) (by omega) (find_none hat hp hg) ?_
      dsimp only
      have hsz := hat.size hp
      by_cases hlt : p < (target text tk).lim
      · rw [if_pos hlt]
        refine C.bindA (wp_slice (t := text.cps) (b := p) (e := text.cps.size) (wd := txt (raws rs)) ?_ (by omega) ?_)
        · have h0 : At text.cps p (txt (raws rs) ++ []) := by simpa using hat
          have e1 := ext_mid h0
          rw [← hsz, Nat.add_sub_cancel' hp] at e1
          exact e1
        · refine C.bindA (push_K F N hq (by rw [values_size]; omega) fun h' F' N' => ?_)
          rw [values_push] at N'
          refine C.any (show wpAny _ _ (endTree text q) _ _ _ from end_ok F' N' ?_ fun tk' u => ?_)
          · rw [flat_app]; simpa [flat] using hres _ hr
          · have := hok _ hr h' tk' u F' (News.tail' N')
            rw [flat_app]
            simpa [flat] using this
      · rw [if_neg hlt]
        have ht0 : txt (raws rs) = [] := by
          have h0 : ¬ p < text.cps.size := hlt
          exact List.eq_nil_of_length_eq_zero (by omega)
        refine C.any (show wpAny _ _ (endTree text q) _ _ _ from end_ok F N ?_ fun tk' u => ?_)
        · have := hres _ hr; rw [ht0] at this; simpa using this
        · have := hok _ hr s.heap tk' u F (News.tail' N)
          rw [ht0] at this; simpa using this
    | tok rs t v ys =>
      have hl1 : (raws rs ++ Seg.tok t v :: ys).length = rs.length + ys.length + 1 := by simp [raws]; omega
      have hg' : TokOk t (txt ys) ∧ Good ys := good_app hg
      have he' : EscAll w (.tok t v :: ys) := escAll_app he
      have hat1 : At text.cps (p + (txt (raws rs)).length) (t ++ txt ys) := by
        rw [txt_app] at hat
        exact hat.app
      have hsz := hat.size hp
      rw [txt_app] at hsz
      have ht2 := hg'.1.len
      have hszl : text.cps.size - p = (txt (raws rs)).length + (t.length + (txt ys).length) := by
        rw [hsz]; simp [txt, Seg.w]
      generalize hp1 : p + (txt (raws rs)).length = p1 at hat1
      refine C.bindA ?_
      rw [if_neg z0]
      unfold reNextFound
      rw [zp]
      have hfind := find_tok hat hp hg
      rw [hp1] at hfind
      refine wp_found (k := 18 * rs.length + 30) (by omega) hfind fun mm hf => ?_
      have hms : mm.start = p1 := hf.2.1
      have hmh : mm.handed = p1 + t.length := hf.2.2.1
      have turn : ∀ (l' : List (Str × Tok)) (nn' : Nat) (h1 : Heap) (tk1 : Nat), Fr h₀ L h1 m → News h₀ L h1 ((q, listOf (strValues l').toArray nn') :: news) → flat l' = flat l ++ txt (raws rs) → l'.length ≤ l.length + 1 →
          wpC (model PySem.Challenge.rw_bl0001_01.row.prog w) (ktrTop dp un gd cn cs L a ccd cl outer).in1 (turnTree text tk n q mm)
            (fun fin s' => match fin with | .done f => R (.ok f) s' | .again c' => c'.quiet = true ∧ codeC (model PySem.Challenge.rw_bl0001_01.row.prog w) (ktrTop dp un gd cn cs L a ccd cl outer) c' R s')
            (fun e s' => R (.error e) s') { s with heap := h1, toks := tk1 } := by
        intro l' nn' h1 tk1 F1 N1 hfl hll
        unfold turnTree
        refine C.bindA (newMatch_K (s := { s with heap := h1, toks := tk1 }) F1 N1 hf (by omega) fun mt tp h2 F2 N2 => ?_)
        refine C.bind (C.holding (C.call ?_))
        have hx0 : (⟨text.cps.extract p1 (p1 + t.length)⟩ : Str) = ofL t := congrArg Str.mk (ext_mid hat1)
        have hx1 : (⟨text.cps.extract (p1 + 1) (p1 + t.length)⟩ : Str) = ofL (t.drop 1) := by
          cases t with
          | nil => simp at ht2
          | cons c t' =>
            have h3 := (At.cons (show At text.cps p1 (c :: (t' ++ txt ys)) from hat1)).2.2
            have h4 := ext_mid h3
            rw [show p1 + 1 + t'.length = p1 + (c :: t').length by simp; omega] at h4
            exact congrArg Str.mk h4
        cases v with
        | some v =>
          refine he'.1 mean mg mb dp (un + 1) gd cn cs a ccd cl outer A₀ base h₀ L m ((q, listOf (strValues l').toArray nn') :: news) _ mt tp text.cps.size 0 text tk p1 (p1 + t.length) (p1 + 1) _ B F2 X N2 T hk hdp (by omega) hx0 hx1 fun h3 tk3 u F3 N3 => ?_
          dsimp only
          rw [if_pos (show (Value.str v u != Value.none) = true from rfl)]
          refine C.bindA (push_K F3 N3 hq (by rw [values_size]; omega) fun h4 F4 N4 => ?_)
          rw [values_push] at N4
          refine C.pure ⟨plainId_quiet plain_loop _, ?_⟩
          rw [hmh, hms]
          have hne : (p1 + t.length == p1) = false := beq_eq_false_iff_ne.mpr (by omega)
          rw [hne]
          have hres' : ∀ r, res ys = some r → res (raws rs ++ Seg.tok t (some v) :: ys) = some (txt (raws rs) ++ (v.cps.toList ++ r)) := fun r hr => by
            rw [res_app]; show Option.map _ ((res ys).map _) = _; rw [hr]; rfl
          have hfl' : ∀ r, flat (l' ++ [(v, u)]) ++ r = flat l ++ (txt (raws rs) ++ (v.cps.toList ++ r)) := fun r => by
            rw [flat_app, hfl]; simp [flat]
          refine ih ys (by omega) (p1 + t.length) (n + 1) (l' ++ [(v, u)]) _ _ R hat1.app (by omega) hg'.2 he'.2 (by rw [List.length_append]; simp only [List.length_cons, List.length_nil]; omega) (fun r hr => by rw [hfl']; exact hres _ (hres' r hr)) F4 N4 (fun r hr h' tk' u' F' N' => ?_) fun hn h' tk' e g Fg Ug Rg => ?_
          · rw [hfl']; exact hok _ (hres' r hr) h' tk' u' F' N'
          · exact hbad (by rw [res_app]; show Option.map _ ((res ys).map _) = _; rw [hn]; rfl) h' tk' e g Fg Ug Rg
        | none =>
          refine he' mean mg mb dp (un + 1) gd cn cs a ccd cl outer A₀ base h₀ L m ((q, listOf (strValues l').toArray nn') :: news) _ mt tp text.cps.size 0 text tk p1 (p1 + t.length) (p1 + 1) _ B F2 X N2 T Xb Tb hk hdp (by omega) hx0 hx1 fun h3 tk3 e g Fg Ug Rg => ?_
          exact hbad (by rw [res_app]; rfl) h3 tk3 e g Fg Ug (Mine.RaisedN.tail Rg)
      dsimp only
      by_cases hlt : p < mm.start
      · rw [if_pos hlt]
        refine C.bindA (wp_slice (t := text.cps) (b := p) (e := mm.start) (wd := txt (raws rs)) ?_ (by omega) ?_)
        · rw [hms, ← hp1]
          have h0 := hat
          rw [txt_app] at h0
          exact ext_mid h0
        · refine C.bindA (push_K F N hq (by rw [values_size]; omega) fun h' F' N' => ?_)
          rw [values_push] at N'
          refine turn _ _ h' _ F' N' (by rw [flat_app]; simp [flat]) (by simp)
      · rw [if_neg hlt]
        have ht0 : txt (raws rs) = [] := List.eq_nil_of_length_eq_zero (by omega)
        exact turn l nn s.heap s.toks F N (by rw [ht0]; simp) (by omega)
end
end Mine
end
section
open PySem PySem.W PyProof.Rows PySem.Calls PySem.Builtin.Re
namespace Mine
set_option maxRecDepth 100000

theorem fn_call : typeLookup (.type "function") "__call__" = pure (some (.builtin "function.__call__")) := by rw [typeLookup_type, builtinLookup_eq_fast]; kernel_rfl
theorem str_bytearray : isSubtype (.type "str") (.type "bytearray") = pure false := by rw [isSubtype_type]; kernel_rfl
theorem named_sub (a b : Value) : reNamed "re.Pattern.sub" "sub" ["repl", "string", "count"] 2 [a, b] [] = pure [some a, some b, none] := by
  first | rfl | (unfold reNamed; simp)
section
variable {w : World} {mean : ExcName → Option Value} {mg mb : Str → Option Value} {dp : Nat} {gd : Option (List Code)} {cn : Str} {cs : Scope} {a : Addr} {ccd : Value} {cl : List (Str × Addr)} {outer : List Env} {A₀ : Around} {base h₀ : Heap} {L : Addr} {m : Str → Option Value}

theorem sub_C {s : Shared} (B : Below A₀ base outer h₀) (F : Fr h₀ L s.heap m) (X : (hd.heap_39 w.params).In h₀) {news : List (Addr × Obj)} (N : News h₀ L s.heap news) (T : Top hd.view_39 LS mean mg mb h₀) (Xb : (hd.heap_39 w.params).In base) (Tb : Top hd.view_39 LS mean mg mb base) (hk : cs.kind = .function) (hdp : dp < 900) {un : Nat} (hun : un < 90) {text : Str} {tk : Tok}
    (hts : text.cps.size ≤ 10000) {xs : List Seg} (hat : text.cps.toList = txt xs) (hg : Good xs) (he : EscAll w xs) (hlen : 2 * xs.length + 2 ≤ 100000) (hres : ∀ r, res xs = some r → r.length ≤ 100000) {Q E : Value → Shared → Prop}
    (hok : ∀ r, res xs = some r → ∀ h' tk' u, Fr h₀ L h' m → News h₀ L h' news → Q (.str (ofL r) u) { s with heap := h', toks := tk' })
    (hbad : res xs = none → ∀ h' tk' e g, Fr h₀ L g m → g.UpToSlots h' → RaisedN base (envX cn cs L a ccd cl :: outer) e (.type "ValueError") news h' → E (.ref e) { s with heap := h', toks := tk' }) :
    wpC (model PySem.Challenge.rw_bl0001_01.row.prog w) (ktrTop dp un gd cn cs L a ccd cl outer) (call (.builtin "re.Pattern.sub") [.ref 36, .ref 44, .str text tk]) Q E s := by
  have Xs := X.keeps F.keep
  refine C.call (C.callBuiltin slot_sub.plain (slot_sub.check _ _ _ _ _ _ _ _ ⟨_, Xs 36 _ rfl, rfl⟩ (args_sub _ _ _) ?_))
  refine C.builtin entry_sub ?_
  rw [Around.under_plainId slot_sub.plain]
  unfold Builtin.«re.Pattern.sub» reSubstitute
  dsimp only
  rw [named_sub]
  refine C.bindA (wpAny_pure ?_)
  dsimp only
  refine C.bindA (wpAny_pure ?_)
  refine C.bindA (wpAny_specialOf (T := "function") ⟨_, Xs 44 _ rfl, rfl⟩ fn_call ?_)
  refine C.any (A := (ktrTop dp un gd cn cs L a ccd cl outer).in1) ?_
  rw [if_pos (show (some (Value.builtin "function.__call__")).isSome = true from rfl)]
  refine wpAny_bind (wpAny_pure ?_)
  rw [if_pos (show (some (Value.builtin "function.__call__")).isSome = true from rfl)]
  refine wpAny_bind (wpAny_pure ?_)
  dsimp only
  refine wpAny_bind (wpAny_holding (wp_target Xs ?_))
  rw [if_pos (show ((1 : Int) == 1) = true from rfl)]
  refine wpAny_bind ?_
  unfold reNotHeld
  refine wpAny_bind (wpAny_isInstance (T := "str") (typeIs_str _ _ _) str_bytearray ?_)
  simp only [Bool.false_eq_true, if_false]
  refine wpAny_pure ?_
  refine wpAny_bind (newList_N F N (fun h' F' N' => ?_) (by show 0 ≤ sizeLine; exact Nat.zero_le _))
  refine wpAny_pure ⟨plainId_quiet plain_loop _, ?_⟩
  have hat0 : At text.cps 0 (txt xs) := by unfold At; rw [List.drop_zero]; exact hat
  refine loop_C B X T Xb Tb hk hdp hun text tk _ news (fun p hp => Nat.ne_of_lt (Heap.lt_size (N p hp).1)) hts _ xs (Nat.lt_succ_self _) 0 0 [] 0 { s with heap := h' } _ hat0 (Nat.zero_le _) hg he (by simpa using hlen) (fun r hr => by simpa [flat] using hres r hr) F' N' (fun r hr h'' tk' u F'' N'' => ?_) fun hn h'' tk' e g Fg Ug Rg => ?_
  · exact hok r hr h'' tk' u F'' N''
  · exact hbad hn h'' tk' e g Fg Ug Rg
end
end Mine
end
section
open PySem PySem.W PyProof.Rows
namespace Mine
theorem cps_app (x y : Str) : (x ++ y).cps.toList = x.cps.toList ++ y.cps.toList := by
  show (x.cps ++ y.cps).toList = _
  simp
theorem len_list (x : Str) : x.length = x.cps.toList.length := by show x.cps.size = _; simp
theorem str_ext {x y : Str} (h : x.cps.toList = y.cps.toList) : x = y := by
  cases x; cases y; exact congrArg Str.mk (Array.ext' h)

theorem slice_neg {x : Str} {l : Option Int} {j : Int} (h0 : j < 0) (h1 : 0 ≤ j + x.length) : Txt.slice x l (some j) = Txt.slice x l (some (j + x.length)) := by
  have e : PySem.Builtin.Str.strSliceIndices l (some j) 1 x.length = PySem.Builtin.Str.strSliceIndices l (some (j + x.length)) 1 x.length := by
    unfold PySem.Builtin.Str.strSliceIndices
    have h2 : ¬ (j + (x.length : Int) < 0) := by omega
    simp only [h0, h2, if_true, if_false]
  unfold Txt.slice
  rw [e]
theorem slice_list {x : Str} {i j : Int} (h : 0 ≤ i ∧ i ≤ j ∧ j ≤ x.length) : (Txt.slice x (some i) (some j)).cps.toList = (x.cps.toList.drop i.toNat).take (j - i).toNat := by
  have := eq_of_beq (slice_closes (x := x) (i := i) (j := j) ⟨h.1, h.2.1, by rw [← len_list]; exact h.2.2⟩)
  rw [this]
/-- the inside of q ++ W ++ q -/
theorem slice_inside (q W : Str) (k : Nat) (hk : q.length = k) (h0 : 0 < k) : Txt.slice (q ++ W ++ q) (some (k : Int)) (some (-(k : Int))) = W := by
  have hl : (q ++ W ++ q).length = k + W.length + k := by rw [len_list, cps_app, cps_app, List.length_append, List.length_append, ← len_list, ← len_list, hk]
  rw [slice_neg (by omega) (by omega)]
  apply str_ext
  rw [slice_list (by omega), hl, cps_app, cps_app, List.append_assoc]
  rw [show ((k : Int)).toNat = k by omega, show (-(k : Int) + ((k + W.length + k : Nat) : Int) - (k : Int)).toNat = W.length by omega]
  rw [show k = q.cps.toList.length by rw [← len_list, hk], List.drop_left, len_list W, List.take_left]

theorem slice_to {x : Str} {j : Int} (h : 0 ≤ j) : (Txt.slice x none (some j)).cps.toList = x.cps.toList.take j.toNat := by
  have key : ∀ {j : Int}, 0 ≤ j → j ≤ x.length → (Txt.slice x none (some j)).cps.toList = x.cps.toList.take j.toNat := by
    intro j h0 h1
    have := eq_of_beq (slice_closes_to (x := x) (j := j) ⟨h0, by rw [← len_list]; exact h1⟩)
    rw [this]; simp
  by_cases hj : j ≤ x.length
  · exact key h hj
  · rw [slice_to_beyond (by omega), key (by omega) (Int.le_refl _), List.take_of_length_le (by rw [← len_list]; omega), List.take_of_length_le (by rw [← len_list]; omega)]

theorem item_first {q W : Str} {c : Nat} {r : List Nat} (hq : q.cps.toList = c :: r) : Txt.item (q ++ W ++ q) 0 = ⟨#[c]⟩ := by
  have hl : 0 < (q ++ W ++ q).length := by rw [len_list, cps_app, cps_app, hq]; simp
  have hg : (q ++ W ++ q).cps[0]? = some c := by
    rw [← Array.getElem?_toList, cps_app, cps_app, hq]; rfl
  have hi : seqIndex? 0 (q ++ W ++ q).length = some 0 := by
    unfold seqIndex?
    simp; omega
  unfold Txt.item
  rw [show Txt.charAt (q ++ W ++ q) 0 = some c from by unfold Txt.charAt; rw [hi]; exact hg]
  rfl
theorem single_ne {q W t : Str} {c : Nat} (hq : q.cps.toList = [c]) (ht : t.cps.toList = [c, c, c]) (hW : W.cps.toList.head? ≠ some c) : (Txt.slice (q ++ W ++ q) none (some 3) == t) = false := by
  apply Bool.eq_false_iff.mpr
  intro h
  have e := congrArg (fun s : Str => s.cps.toList) (eq_of_beq h)
  simp only [slice_to (show (0 : Int) ≤ 3 by decide), cps_app, hq, ht] at e
  cases hw : W.cps.toList with
  | nil => rw [hw] at e; simp at e
  | cons d r =>
    rw [hw] at e hW
    simp at e hW
    exact hW e.1
theorem triple_eq {q W t : Str} {c : Nat} (hq : q.cps.toList = [c, c, c]) (ht : t.cps.toList = [c, c, c]) : (Txt.slice (q ++ W ++ q) none (some 3) == t) = true := by
  have : Txt.slice (q ++ W ++ q) none (some 3) = t := by
    apply str_ext
    simp only [slice_to (show (0 : Int) ≤ 3 by decide), cps_app, hq, ht]
    simp
  rw [this]; exact beq_self_eq_true _
end Mine
end
section
open PySem PySem.W PyProof.Rows PySem.Calls
namespace Mine
structure SegsOk (w : World) (W : Str) (xs : List Seg) : Prop where
  hat : W.cps.toList = txt xs
  good : Good xs
  esc : EscAll w xs
  len : 2 * xs.length + 2 ≤ 100000
  res : ∀ r, Mine.res xs = some r → r.length ≤ 100000
def EvC (w : World) (qt W : Str) : Prop :=
  ∀ (xs : List Seg) (mean : ExcName → Option Value) (mg mb : Str → Option Value) (dp un : Nat) (gd : Option (List Code)) (cn : Str) (cs : Scope) (a : Addr) (ccd : Value) (cl : List (Str × Addr)) (outer : List Env) (A₀ : Around) (base h₀ : Heap) (L : Addr) (m : Str → Option Value) (news : List (Addr × Obj)) (s : Shared) (tk : Tok)
    (R : Result → Shared → Prop), SegsOk w W xs →
    Below A₀ base outer h₀ → Fr h₀ L s.heap m → (hd.heap_39 w.params).In h₀ → News h₀ L s.heap news → Top hd.view_39 LS mean mg mb h₀ → (hd.heap_39 w.params).In base → Top hd.view_39 LS mean mg mb base → cs.kind = .function → dp < 800 → un < 80 → W.length ≤ 9000 →
    (∀ r, res xs = some r → ∀ h' tk' u, Fr h₀ L h' m → News h₀ L h' news → R (.ok (.ret (.str (ofL r) u))) { s with heap := h', toks := tk' }) →
    (res xs = none → ∀ h' tk' e g, Fr h₀ L g m → g.UpToSlots h' → RaisedN base (envX cn cs L a ccd cl :: outer) e (.type "ValueError") news h' → R (.error (.ref e)) { s with heap := h', toks := tk' }) →
    codeC (model PySem.Challenge.rw_bl0001_01.row.prog w) (ktrTop dp un gd cn cs L a ccd cl outer) (.call (.ref 51) ⟨[.str (qt ++ W ++ qt) tk], []⟩) R s

theorem C.callWith_builtinS {M : Model} {A : Around} {E : Value → Shared → Prop} {s : Shared} {env : Env} {pos : Pos} {id : String} {first : List Value} {e : Expr} {rest : List Expr} {Q : Value → Shared → Prop}
    (h : wpAny M A (spliced (backTo pos (starEach (e :: rest) env))) (fun vs s₁ => wpC M A (PySem.call (.builtin id) (first ++ vs)) Q E s₁) E s)
    (he : starEach (e :: rest) env = (false, eval e env) :: starEach rest env := by rfl) (hplain : (backTo pos (starEach rest env)).any (·.1) = false := by rfl) :
    wpC M A (callWith pos (.builtin id) first (backTo pos (starEach (e :: rest) env)) []) Q E s := by
  rw [he] at h ⊢
  exact C.callWith_builtin (by show (false || (backTo pos (starEach rest env)).any (·.1)) = false; rw [hplain]; rfl) (evalArgs_plain h)
theorem method_sub {prog : Program} {w : World} {A : Around} {E : Value → Shared → Prop} {s : Shared} {P : Params} {h₀ : Heap} {L : Addr} {m : Str → Option Value} {pl : Sem Bool} {Q : Value × List Value → Shared → Prop} (F : Fr h₀ L s.heap m) (X : (hd.heap_39 P).In h₀)
    (h : Q (.builtin "re.Pattern.sub", [.ref 36]) s) : wpAny (model prog w) A (getMethod (.ref 36) "sub" pl) Q E s :=
  have Xs := X.keeps F.keep
  getMethod_builtin ⟨_, Xs 36 _ rfl, rfl⟩ pa_pattern slot_sub type_sub (fun a e => by cases e; exact ⟨_, Xs 36 _ rfl, rfl⟩) h
local macro_rules | `(tactic| walk_at "getMethod ref") => `(tactic| (k_here; (with_reducible show wpAny _ _ (getMethod (Value.ref 36) (Str.ofString "sub") _) _ _ _); k_dflt (refine' method_sub ?k1 ?k2 ?_; (case k1 => k_asm); (case k2 => k_asm); k_whole)))
local macro_rules | `(tactic| walk_at "ENTER C") => `(tactic| (refine' C.codeDef ?k1 ?k2 ?k3 ?k4 ?k5 ?kA ?kF ?kK ?k6 ?k7 ?k8 ?k9 ?kB ?_ ?c2 ?c3 ?c4 ?c5; (case kA => exact rfl); (case kF => exact rfl); (case kK => assumption); (case k1 => k_asm); (case k2 => k_asm); (case k3 => k_asm); (case k4 => k_asm); (case k5 => k_asm); (case k6 => k_is); (case k7 => k_is); (case k8 => ktr_room); (case k9 => exact BindsTo.of_eq rfl); (case c5 => decide); (case kB => exact locs rfl); (case c2 => exact rfl); (case c3 => exact rfl); (case c4 => exact rfl); k_whole; intro g' L' h' FG' F' N' B' X' T'; (try dsimp only)))

local macro_rules | `(tactic| walk_at "NEXT") => `(tactic| (refine C.execs_cons (C.any ?_); k_fold; k_steps))

theorem lit_item {prog : Program} {w : World} {A : Around} {E : Value → Shared → Prop} {s : Shared} {value slice : Expr} {x c : Str} {t u : Tok} {Q : Value → Shared → Prop} (hi : Txt.item x 0 = c) (h1 : ((0 : Nat) : Int) < (x.length : Int)) (h : Q (.str c s.toks) { s with toks := s.toks + 1 })
    (hs : subscripted slice false (.str x t) (.int 0 u) = PySem.operate [.str x t, .int 0 u] (getItem (.str x t) (.int 0 u)) := by with_unfolding_all rfl)
    (ht : ∀ r, letTemporaryGo value (.str x t) r = pure () := by intro _; with_unfolding_all rfl) : wpAny (model prog w) A (subscriptTail value slice (.str x t) (.int 0 u)) Q E s :=
  item_str (by decide) (by omega) (by omega) (fun _ => hi ▸ h) hs ht
theorem lit_mul {prog : Program} {w : World} {A : Around} {E : Value → Shared → Prop} {s : Shared} {x c : Str} {t u : Tok} {Q : Value → Shared → Prop} (hm : Txt.mul x 3 = c) (hx : x.length ≤ 1) (h : ∀ t' k, Q (.str c t') { s with toks := k }) : wpAny (model prog w) A (binaryOp .Mult (.str x t) (.int 3 u)) Q E s :=
  SB.mul (mulOk_of 1 3 hx (by decide) (by decide) (by decide) (by decide)) (hm ▸ h)
local macro_rules | `(tactic| walk_at "subscriptTail Name Constant str int") => `(tactic| (k_here; k_dflt (refine' lit_item ?hi ?h1 ?_; (case hi => assumption); (case h1 => assumption); k_whole)))
local macro_rules | `(tactic| walk_at "binaryOp Mult str int") => `(tactic| (k_here; k_dflt (refine' lit_mul ?hm ?h1 ?_; (case hm => assumption); (case h1 => decide); k_whole); intro t' k'))


theorem len_eq3 {q W : Str} {k : Nat} (hq : q.length = k) : (q ++ W ++ q).length = k + W.length + k := by
  rw [len_list, cps_app, cps_app, List.length_append, List.length_append, ← len_list, ← len_list, hq]
theorem len_le {q W : Str} {k : Nat} (h : (q ++ W ++ q).length = k + W.length + k) (hW : W.length ≤ 9000) (hk : k ≤ 3) : (q ++ W ++ q).length ≤ 10000 := by omega
theorem len_st {prog : Program} {w : World} {A : Around} {E : Value → Shared → Prop} {s : Shared} {x : Str} {u : Tok} {Q : Value → Shared → Prop} (hx : x.length ≤ 10000) (h : Q (.int (x.length : Nat) (s.toks + 1)) { s with toks := s.toks + 1 + 1 }) : wpAny (model prog w) A (call (.builtin "len") [.str x u]) Q E s :=
  PyProof.Rows.len_str (by omega) h
local macro_rules | `(tactic| walk_at "call builtin:len") => `(tactic| (k_here; k_dflt (refine' len_st ?k1 ?_; (case k1 => first | with_reducible assumption | decide); k_whole)))
set_option maxRecDepth 100000 in
set_option maxHeartbeats 8000000 in
theorem ev_q1 (w : World) (W : Str) (hW0 : W.cps.toList.head? ≠ some 39) : EvC w (Str.ofString "'") W := by
  unfold EvC
  k_fill
  intro xs mean mg mb dp un gd cn cs a ccd cl outer A₀ base h₀ L m news s tk R SO B F X N T Xb Tb hk hd hu hW hok hbad
  have hi : Txt.item (Str.ofString "'" ++ W ++ Str.ofString "'") 0 = Str.ofString "'" := item_first (c := 39) (r := []) (by decide)
  have hm : Txt.mul (Str.ofString "'") 3 = Str.ofString "'''" := by decide +kernel
  have hs3 : (Txt.slice (Str.ofString "'" ++ W ++ Str.ofString "'") none (some 3) == Str.ofString "'''") = false := single_ne (c := 39) (by decide) (by decide) hW0
  have hl0 : ((0 : Nat) : Int) < ((Str.ofString "'" ++ W ++ Str.ofString "'").length : Int) := by rw [len_list, cps_app, cps_app, List.length_append, List.length_append, ← len_list, ← len_list, show (Str.ofString "'").length = 1 by decide]; omega
  have hq3 : (Str.ofString "'").length = 1 := by decide
  have hxe := len_eq3 (W := W) hq3
  have hxl := len_le hxe hW (by decide)
  k_dflt walk_at "ENTER C"
  (refine C.execs_cons (C.any ?_); k_fold; k_steps)
  (refine C.execs_cons (C.any ?_); k_fold; k_steps)
  (refine C.execs_cons (C.any ?_); k_fold; k_steps)
  (refine C.execs_cons (C.any ?_); k_fold; k_steps)
  (refine C.execs_cons (C.any ?_); k_fold; k_steps)
  (refine C.execs_cons (C.any ?_); k_fold; k_steps)
  refine C.execs_cons (C.Return_some (C.MethodCall ?_))
  k_fold
  k_steps
  refine C.callWith_builtinS ?_
  k_fold
  k_steps
  rw [slice_inside (Str.ofString "'") W _ rfl (by decide)]
  refine' sub_C (dp := dp + 1) (un := un + 3) (cn := Str.ofString "evalString") (a := 51) (ccd := .ref 50) (cl := []) (outer := envX cn cs L a ccd cl :: outer) (xs := xs) ?kB ?kF ?kX ?kN ?kT Xb Tb rfl (by omega) (by omega) ?kts SO.hat SO.good SO.esc SO.len SO.res ?kok ?kbad
  case kB => assumption
  case kF => assumption
  case kX => assumption
  case kN => assumption
  case kT => assumption
  case kts => exact (show W.length ≤ 10000 by omega)
  case kok =>
    intro r hr h' tk' u F9 N9
    refine leaveK_ F9 N9 fun F8 N8 => ?_
    exact hok r hr h' tk' u F8 N8
  case kbad =>
    intro hn h' tk' e g F9 U9 R9
    k_steps
    (rename Heap.UpToSlots _ _ => u8)
    exact hbad hn _ _ _ _ (by assumption) u8 (by assumption)


set_option maxRecDepth 100000 in
set_option maxHeartbeats 8000000 in
theorem ev_q2 (w : World) (W : Str) (hW0 : W.cps.toList.head? ≠ some 34) : EvC w (Str.ofString "\"") W := by
  unfold EvC
  k_fill
  intro xs mean mg mb dp un gd cn cs a ccd cl outer A₀ base h₀ L m news s tk R SO B F X N T Xb Tb hk hd hu hW hok hbad
  have hi : Txt.item (Str.ofString "\"" ++ W ++ Str.ofString "\"") 0 = Str.ofString "\"" := item_first (c := 34) (r := []) (by decide)
  have hm : Txt.mul (Str.ofString "\"") 3 = Str.ofString "\"\"\"" := by decide +kernel
  have hs3 : (Txt.slice (Str.ofString "\"" ++ W ++ Str.ofString "\"") none (some 3) == Str.ofString "\"\"\"") = false := single_ne (c := 34) (by decide) (by decide) hW0
  have hl0 : ((0 : Nat) : Int) < ((Str.ofString "\"" ++ W ++ Str.ofString "\"").length : Int) := by rw [len_list, cps_app, cps_app, List.length_append, List.length_append, ← len_list, ← len_list, show (Str.ofString "\"").length = 1 by decide]; omega
  have hq3 : (Str.ofString "\"").length = 1 := by decide
  have hxe := len_eq3 (W := W) hq3
  have hxl := len_le hxe hW (by decide)
  k_dflt walk_at "ENTER C"
  (refine C.execs_cons (C.any ?_); k_fold; k_steps)
  (refine C.execs_cons (C.any ?_); k_fold; k_steps)
  (refine C.execs_cons (C.any ?_); k_fold; k_steps)
  (refine C.execs_cons (C.any ?_); k_fold; k_steps)
  (refine C.execs_cons (C.any ?_); k_fold; k_steps)
  (refine C.execs_cons (C.any ?_); k_fold; k_steps)
  refine C.execs_cons (C.Return_some (C.MethodCall ?_))
  k_fold
  k_steps
  refine C.callWith_builtinS ?_
  k_fold
  k_steps
  rw [slice_inside (Str.ofString "\"") W _ rfl (by decide)]
  refine' sub_C (dp := dp + 1) (un := un + 3) (cn := Str.ofString "evalString") (a := 51) (ccd := .ref 50) (cl := []) (outer := envX cn cs L a ccd cl :: outer) (xs := xs) ?kB ?kF ?kX ?kN ?kT Xb Tb rfl (by omega) (by omega) ?kts SO.hat SO.good SO.esc SO.len SO.res ?kok ?kbad
  case kB => assumption
  case kF => assumption
  case kX => assumption
  case kN => assumption
  case kT => assumption
  case kts => exact (show W.length ≤ 10000 by omega)
  case kok =>
    intro r hr h' tk' u F9 N9
    refine leaveK_ F9 N9 fun F8 N8 => ?_
    exact hok r hr h' tk' u F8 N8
  case kbad =>
    intro hn h' tk' e g F9 U9 R9
    k_steps
    (rename Heap.UpToSlots _ _ => u8)
    exact hbad hn _ _ _ _ (by assumption) u8 (by assumption)


set_option maxRecDepth 100000 in
set_option maxHeartbeats 8000000 in
theorem ev_q3 (w : World) (W : Str) : EvC w (Str.ofString "'''") W := by
  unfold EvC
  k_fill
  intro xs mean mg mb dp un gd cn cs a ccd cl outer A₀ base h₀ L m news s tk R SO B F X N T Xb Tb hk hd hu hW hok hbad
  have hi : Txt.item (Str.ofString "'''" ++ W ++ Str.ofString "'''") 0 = Str.ofString "'" := item_first (c := 39) (r := [39, 39]) (by decide)
  have hm : Txt.mul (Str.ofString "'") 3 = Str.ofString "'''" := by decide +kernel
  have hs3 : (Txt.slice (Str.ofString "'''" ++ W ++ Str.ofString "'''") none (some 3) == Str.ofString "'''") = true := triple_eq (c := 39) (by decide) (by decide)
  have hl0 : ((0 : Nat) : Int) < ((Str.ofString "'''" ++ W ++ Str.ofString "'''").length : Int) := by rw [len_list, cps_app, cps_app, List.length_append, List.length_append, ← len_list, ← len_list, show (Str.ofString "'''").length = 3 by decide]; omega
  have hq3 : (Str.ofString "'''").length = 3 := by decide
  have hxe := len_eq3 (W := W) hq3
  have hxl := len_le hxe hW (by decide)
  k_dflt walk_at "ENTER C"
  (refine C.execs_cons (C.any ?_); k_fold; k_steps)
  (refine C.execs_cons (C.any ?_); k_fold; k_steps)
  (refine C.execs_cons (C.any ?_); k_fold; k_steps)
  (refine C.execs_cons (C.any ?_); k_fold; k_steps)
  (refine C.execs_cons (C.any ?_); k_fold; k_steps)
  (refine C.execs_cons (C.any ?_); k_fold; k_steps)
  refine C.execs_cons (C.Return_some (C.MethodCall ?_))
  k_fold
  k_steps
  refine C.callWith_builtinS ?_
  k_fold
  k_steps
  rw [slice_inside (Str.ofString "'''") W _ rfl (by decide)]
  refine' sub_C (dp := dp + 1) (un := un + 3) (cn := Str.ofString "evalString") (a := 51) (ccd := .ref 50) (cl := []) (outer := envX cn cs L a ccd cl :: outer) (xs := xs) ?kB ?kF ?kX ?kN ?kT Xb Tb rfl (by omega) (by omega) ?kts SO.hat SO.good SO.esc SO.len SO.res ?kok ?kbad
  case kB => assumption
  case kF => assumption
  case kX => assumption
  case kN => assumption
  case kT => assumption
  case kts => exact (show W.length ≤ 10000 by omega)
  case kok =>
    intro r hr h' tk' u F9 N9
    refine leaveK_ F9 N9 fun F8 N8 => ?_
    exact hok r hr h' tk' u F8 N8
  case kbad =>
    intro hn h' tk' e g F9 U9 R9
    k_steps
    (rename Heap.UpToSlots _ _ => u8)
    exact hbad hn _ _ _ _ (by assumption) u8 (by assumption)


set_option maxRecDepth 100000 in
set_option maxHeartbeats 8000000 in
theorem ev_q4 (w : World) (W : Str) : EvC w (Str.ofString "\"\"\"") W := by
  unfold EvC
  k_fill
  intro xs mean mg mb dp un gd cn cs a ccd cl outer A₀ base h₀ L m news s tk R SO B F X N T Xb Tb hk hd hu hW hok hbad
  have hi : Txt.item (Str.ofString "\"\"\"" ++ W ++ Str.ofString "\"\"\"") 0 = Str.ofString "\"" := item_first (c := 34) (r := [34, 34]) (by decide)
  have hm : Txt.mul (Str.ofString "\"") 3 = Str.ofString "\"\"\"" := by decide +kernel
  have hs3 : (Txt.slice (Str.ofString "\"\"\"" ++ W ++ Str.ofString "\"\"\"") none (some 3) == Str.ofString "\"\"\"") = true := triple_eq (c := 34) (by decide) (by decide)
  have hl0 : ((0 : Nat) : Int) < ((Str.ofString "\"\"\"" ++ W ++ Str.ofString "\"\"\"").length : Int) := by rw [len_list, cps_app, cps_app, List.length_append, List.length_append, ← len_list, ← len_list, show (Str.ofString "\"\"\"").length = 3 by decide]; omega
  have hq3 : (Str.ofString "\"\"\"").length = 3 := by decide
  have hxe := len_eq3 (W := W) hq3
  have hxl := len_le hxe hW (by decide)
  k_dflt walk_at "ENTER C"
  (refine C.execs_cons (C.any ?_); k_fold; k_steps)
  (refine C.execs_cons (C.any ?_); k_fold; k_steps)
  (refine C.execs_cons (C.any ?_); k_fold; k_steps)
  (refine C.execs_cons (C.any ?_); k_fold; k_steps)
  (refine C.execs_cons (C.any ?_); k_fold; k_steps)
  (refine C.execs_cons (C.any ?_); k_fold; k_steps)
  refine C.execs_cons (C.Return_some (C.MethodCall ?_))
  k_fold
  k_steps
  refine C.callWith_builtinS ?_
  k_fold
  k_steps
  rw [slice_inside (Str.ofString "\"\"\"") W _ rfl (by decide)]
  refine' sub_C (dp := dp + 1) (un := un + 3) (cn := Str.ofString "evalString") (a := 51) (ccd := .ref 50) (cl := []) (outer := envX cn cs L a ccd cl :: outer) (xs := xs) ?kB ?kF ?kX ?kN ?kT Xb Tb rfl (by omega) (by omega) ?kts SO.hat SO.good SO.esc SO.len SO.res ?kok ?kbad
  case kB => assumption
  case kF => assumption
  case kX => assumption
  case kN => assumption
  case kT => assumption
  case kts => exact (show W.length ≤ 10000 by omega)
  case kok =>
    intro r hr h' tk' u F9 N9
    refine leaveK_ F9 N9 fun F8 N8 => ?_
    exact hok r hr h' tk' u F8 N8
  case kbad =>
    intro hn h' tk' e g F9 U9 R9
    k_steps
    (rename Heap.UpToSlots _ _ => u8)
    exact hbad hn _ _ _ _ (by assumption) u8 (by assumption)
end Mine
end
section
open PySem PySem.W PyProof.Rows PySem.Calls PySem.Spec
namespace Mine
local macro_rules | `(tactic| walk_at "getMethod ref") => `(tactic| (k_here; (with_reducible show wpAny _ _ (getMethod (Value.ref _) (Str.ofString "group") _) _ _ _); k_dflt (refine' method_group ?k1 ?k2 ?_; (case k1 => k_asm); (case k2 => k_mem); k_whole)))
local macro_rules | `(tactic| walk_at "call builtin:re.Match.group") => `(tactic| (k_here; k_dflt (refine' group_K ?k1 ?k2 ?k3 ?k4 ?k5 ?k6 ?k7 ?k8 ?_; (case k1 => k_asm); (case k2 => k_asm); (case k3 => k_mem); (case k4 => k_mem); (case k5 => assumption); (case k6 => assumption); (case k7 => first | decide +kernel | exact Nat.le_trans (by assumption) (by decide)); (case k8 => first | decide +kernel | exact Nat.le_trans (by assumption) (by decide)); k_whole); intro q' h' F' N' l1; (try k_lt l1); (try k_sweep)))

/-- int(x, b) is n -/
structure IntOk (x : PySem.Str) (b n : Int) : Prop where
  hb : b = 8 ∨ b = 16
  hc : x.cps.all (· < 128) = true
  hs : (x.cps.toList.takeWhile (· != 0)).length ≤ 640
  hr : (int_private% "readNumeral") 0 b.toNat (x.cps.toList.takeWhile (· != 0)) = (int_private% "Numeral.value") n
  ha : ((x.cps.toList.takeWhile (· != 0)).length == x.cps.toList.length) = true
theorem call_ok {prog : Program} {w : World} {A : Around} {E : Value → Shared → Prop} {s : Shared} {x : PySem.Str} {u v : Tok} {b n : Int} {Q : Value → Shared → Prop} (g : IntOk x b n)
    (h : Q (.int n s.toks) { s with toks := s.toks + 1 }) : wpAny (model prog w) A (call (.type "int") [.str x u, .int b v]) Q E s := call_base g.hb g.hc g.hs g.hr g.ha h
local macro_rules | `(tactic| walk_at "call type:int") => `(tactic| (k_here; k_dflt (refine' call_ok ?k0 ?_; (case k0 => assumption); k_whole)))

abbrev escT : List (PyData × PyData) := [(PyData.str { cps := #[97] }, PyData.str { cps := #[7] }), (PyData.str { cps := #[98] }, PyData.str { cps := #[8] }), (PyData.str { cps := #[102] }, PyData.str { cps := #[12] }), (PyData.str { cps := #[110] }, PyData.str { cps := #[10] }), (PyData.str { cps := #[114] }, PyData.str { cps := #[13] }), (PyData.str { cps := #[116] }, PyData.str { cps := #[9] }), (PyData.str { cps := #[118] }, PyData.str { cps := #[11] }), (PyData.str { cps := #[39] }, PyData.str { cps := #[39] }), (PyData.str { cps := #[34] }, PyData.str { cps := #[34] }), (PyData.str { cps := #[92] }, PyData.str { cps := #[92] })]
theorem none_flat {v : Value} {x : PyData} {D : List (PyData × PyData)} (hk : PySem.Spec.lookup x D = none) (hv : PyProof.V.Flat v ((PySem.Spec.lookup x D).getD .none)) : v = .none := by
  rw [hk] at hv; exact PyProof.V.Flat.none_inv hv
local macro_rules | `(tactic| walk_at "compareOp IsNot") => `(tactic| ((rename PyProof.V.Flat _ _ => hv9); (have e9 := none_flat (by assumption) hv9); clear hv9; subst e9))
theorem some_flat {v : Value} {x : PyData} {y : PySem.Str} {D : List (PyData × PyData)} (hk : PySem.Spec.lookup x D = some (.str y)) (hv : PyProof.V.Flat v ((PySem.Spec.lookup x D).getD .none)) : ∃ t, v = .str y t := by
  rw [hk] at hv; exact PyProof.V.Flat.str_inv hv
local macro_rules | `(tactic| walk_at "compareOp IsNot") => `(tactic| ((rename PyProof.V.Flat _ _ => hv9); (obtain ⟨t9, e9⟩ := some_flat (by assumption) hv9); clear hv9; subst e9))
set_option maxRecDepth 100000 in
set_option maxHeartbeats 8000000 in
theorem esc_short (w : World) (g0 g1 v : Str) (hl0 : g0.length ≤ 10) (hl1 : g1.length ≤ 10) (hs : Txt.startswith g0 (Str.ofString "\\") = true) (hk9 : PySem.Spec.lookup (.str g1) escT = some (.str v)) : EscOk w g0 g1 v := by
  unfold EscOk
  k_fill
  intro mean mg mb dp un gd cn cs a ccd cl outer A₀ base h₀ L m news s mt tp lim nt text tk b0 e0 b1 R B F X N T hk hd hu h0 h1 hR
  refine C.codeAny ?_
  k_dflt ktr_enter
  k_steps
  all_goals (rename News _ _ _ _ => kN; exact hR _ _ _ (by assumption) (fun p hp => kN p (by repeat first | exact hp | apply List.Mem.tail)))
set_option maxRecDepth 100000 in
set_option maxHeartbeats 8000000 in
theorem esc_oct (w : World) (g0 g1 : Str) (n : Int) (hl0 : g0.length ≤ 10) (hl1 : g1.length ≤ 10) (hs : Txt.startswith g0 (Str.ofString "\\") = true) (hx : Txt.startswith g1 (Str.ofString "x") = false) (hk9 : PySem.Spec.lookup (.str g1) escT = none) (hi : IntOk g1 8 n) (hn : 0 ≤ n ∧ n ≤ 255) : EscOk w g0 g1 (ofL [n.toNat]) := by
  unfold EscOk
  k_fill
  intro mean mg mb dp un gd cn cs a ccd cl outer A₀ base h₀ L m news s mt tp lim nt text tk b0 e0 b1 R B F X N T hk hd hu h0 h1 hR
  refine C.codeAny ?_
  k_dflt ktr_enter
  k_steps
  all_goals (rename News _ _ _ _ => kN; exact hR _ _ _ (by assumption) (fun p hp => kN p (by repeat first | exact hp | apply List.Mem.tail)))
set_option maxRecDepth 100000 in
set_option maxHeartbeats 8000000 in
theorem esc_hex (w : World) (g0 g1 : Str) (n : Int) (hl0 : g0.length ≤ 10) (hl1 : g1.length ≤ 10) (hs : Txt.startswith g0 (Str.ofString "\\") = true) (hx : Txt.startswith g1 (Str.ofString "x") = true) (hk9 : PySem.Spec.lookup (.str g1) escT = none) (hi : IntOk (Txt.slice g1 (some 1) none) 16 n) (hn : 0 ≤ n ∧ n ≤ 255) (hl2 : (Txt.slice g1 (some 1) none).length = 2) : EscOk w g0 g1 (ofL [n.toNat]) := by
  unfold EscOk
  k_fill
  intro mean mg mb dp un gd cn cs a ccd cl outer A₀ base h₀ L m news s mt tp lim nt text tk b0 e0 b1 R B F X N T hk hd hu h0 h1 hR
  refine C.codeAny ?_
  k_dflt ktr_enter
  k_steps
  all_goals (rename News _ _ _ _ => kN; exact hR _ _ _ (by assumption) (fun p hp => kN p (by repeat first | exact hp | apply List.Mem.tail)))
theorem esc_141 (w : World) : EscOk w (ofL [92, 49, 52, 49]) (ofL [49, 52, 49]) (ofL [97]) := esc_oct w (ofL [92, 49, 52, 49]) (ofL [49, 52, 49]) 97 (by decide +kernel) (by decide +kernel) (by decide +kernel) (by decide +kernel) (by decide +kernel) ⟨.inl rfl, by decide +kernel, by decide +kernel, by kernel_rfl, by decide +kernel⟩ (by decide)
theorem esc_012 (w : World) : EscOk w (ofL [92, 48, 49, 50]) (ofL [48, 49, 50]) (ofL [10]) := esc_oct w (ofL [92, 48, 49, 50]) (ofL [48, 49, 50]) 10 (by decide +kernel) (by decide +kernel) (by decide +kernel) (by decide +kernel) (by decide +kernel) ⟨.inl rfl, by decide +kernel, by decide +kernel, by kernel_rfl, by decide +kernel⟩ (by decide)
theorem esc_12 (w : World) : EscOk w (ofL [92, 49, 50]) (ofL [49, 50]) (ofL [10]) := esc_oct w (ofL [92, 49, 50]) (ofL [49, 50]) 10 (by decide +kernel) (by decide +kernel) (by decide +kernel) (by decide +kernel) (by decide +kernel) ⟨.inl rfl, by decide +kernel, by decide +kernel, by kernel_rfl, by decide +kernel⟩ (by decide)
theorem esc_067 (w : World) : EscOk w (ofL [92, 48, 54, 55]) (ofL [48, 54, 55]) (ofL [55]) := esc_oct w (ofL [92, 48, 54, 55]) (ofL [48, 54, 55]) 55 (by decide +kernel) (by decide +kernel) (by decide +kernel) (by decide +kernel) (by decide +kernel) ⟨.inl rfl, by decide +kernel, by decide +kernel, by kernel_rfl, by decide +kernel⟩ (by decide)
theorem esc_67 (w : World) : EscOk w (ofL [92, 54, 55]) (ofL [54, 55]) (ofL [55]) := esc_oct w (ofL [92, 54, 55]) (ofL [54, 55]) 55 (by decide +kernel) (by decide +kernel) (by decide +kernel) (by decide +kernel) (by decide +kernel) ⟨.inl rfl, by decide +kernel, by decide +kernel, by kernel_rfl, by decide +kernel⟩ (by decide)
theorem esc_047 (w : World) : EscOk w (ofL [92, 48, 52, 55]) (ofL [48, 52, 55]) (ofL [39]) := esc_oct w (ofL [92, 48, 52, 55]) (ofL [48, 52, 55]) 39 (by decide +kernel) (by decide +kernel) (by decide +kernel) (by decide +kernel) (by decide +kernel) ⟨.inl rfl, by decide +kernel, by decide +kernel, by kernel_rfl, by decide +kernel⟩ (by decide)
theorem esc_47 (w : World) : EscOk w (ofL [92, 52, 55]) (ofL [52, 55]) (ofL [39]) := esc_oct w (ofL [92, 52, 55]) (ofL [52, 55]) 39 (by decide +kernel) (by decide +kernel) (by decide +kernel) (by decide +kernel) (by decide +kernel) ⟨.inl rfl, by decide +kernel, by decide +kernel, by kernel_rfl, by decide +kernel⟩ (by decide)
theorem esc_042 (w : World) : EscOk w (ofL [92, 48, 52, 50]) (ofL [48, 52, 50]) (ofL [34]) := esc_oct w (ofL [92, 48, 52, 50]) (ofL [48, 52, 50]) 34 (by decide +kernel) (by decide +kernel) (by decide +kernel) (by decide +kernel) (by decide +kernel) ⟨.inl rfl, by decide +kernel, by decide +kernel, by kernel_rfl, by decide +kernel⟩ (by decide)
theorem esc_42 (w : World) : EscOk w (ofL [92, 52, 50]) (ofL [52, 50]) (ofL [34]) := esc_oct w (ofL [92, 52, 50]) (ofL [52, 50]) 34 (by decide +kernel) (by decide +kernel) (by decide +kernel) (by decide +kernel) (by decide +kernel) ⟨.inl rfl, by decide +kernel, by decide +kernel, by kernel_rfl, by decide +kernel⟩ (by decide)
theorem esc_134 (w : World) : EscOk w (ofL [92, 49, 51, 52]) (ofL [49, 51, 52]) (ofL [92]) := esc_oct w (ofL [92, 49, 51, 52]) (ofL [49, 51, 52]) 92 (by decide +kernel) (by decide +kernel) (by decide +kernel) (by decide +kernel) (by decide +kernel) ⟨.inl rfl, by decide +kernel, by decide +kernel, by kernel_rfl, by decide +kernel⟩ (by decide)
theorem esc_011 (w : World) : EscOk w (ofL [92, 48, 49, 49]) (ofL [48, 49, 49]) (ofL [9]) := esc_oct w (ofL [92, 48, 49, 49]) (ofL [48, 49, 49]) 9 (by decide +kernel) (by decide +kernel) (by decide +kernel) (by decide +kernel) (by decide +kernel) ⟨.inl rfl, by decide +kernel, by decide +kernel, by kernel_rfl, by decide +kernel⟩ (by decide)
theorem esc_11 (w : World) : EscOk w (ofL [92, 49, 49]) (ofL [49, 49]) (ofL [9]) := esc_oct w (ofL [92, 49, 49]) (ofL [49, 49]) 9 (by decide +kernel) (by decide +kernel) (by decide +kernel) (by decide +kernel) (by decide +kernel) ⟨.inl rfl, by decide +kernel, by decide +kernel, by kernel_rfl, by decide +kernel⟩ (by decide)
theorem esc_000 (w : World) : EscOk w (ofL [92, 48, 48, 48]) (ofL [48, 48, 48]) (ofL [0]) := esc_oct w (ofL [92, 48, 48, 48]) (ofL [48, 48, 48]) 0 (by decide +kernel) (by decide +kernel) (by decide +kernel) (by decide +kernel) (by decide +kernel) ⟨.inl rfl, by decide +kernel, by decide +kernel, by kernel_rfl, by decide +kernel⟩ (by decide)
theorem esc_0 (w : World) : EscOk w (ofL [92, 48]) (ofL [48]) (ofL [0]) := esc_oct w (ofL [92, 48]) (ofL [48]) 0 (by decide +kernel) (by decide +kernel) (by decide +kernel) (by decide +kernel) (by decide +kernel) ⟨.inl rfl, by decide +kernel, by decide +kernel, by kernel_rfl, by decide +kernel⟩ (by decide)
theorem esc_351 (w : World) : EscOk w (ofL [92, 51, 53, 49]) (ofL [51, 53, 49]) (ofL [233]) := esc_oct w (ofL [92, 51, 53, 49]) (ofL [51, 53, 49]) 233 (by decide +kernel) (by decide +kernel) (by decide +kernel) (by decide +kernel) (by decide +kernel) ⟨.inl rfl, by decide +kernel, by decide +kernel, by kernel_rfl, by decide +kernel⟩ (by decide)
theorem esc_007 (w : World) : EscOk w (ofL [92, 48, 48, 55]) (ofL [48, 48, 55]) (ofL [7]) := esc_oct w (ofL [92, 48, 48, 55]) (ofL [48, 48, 55]) 7 (by decide +kernel) (by decide +kernel) (by decide +kernel) (by decide +kernel) (by decide +kernel) ⟨.inl rfl, by decide +kernel, by decide +kernel, by kernel_rfl, by decide +kernel⟩ (by decide)
theorem esc_7 (w : World) : EscOk w (ofL [92, 55]) (ofL [55]) (ofL [7]) := esc_oct w (ofL [92, 55]) (ofL [55]) 7 (by decide +kernel) (by decide +kernel) (by decide +kernel) (by decide +kernel) (by decide +kernel) ⟨.inl rfl, by decide +kernel, by decide +kernel, by kernel_rfl, by decide +kernel⟩ (by decide)
theorem esc_040 (w : World) : EscOk w (ofL [92, 48, 52, 48]) (ofL [48, 52, 48]) (ofL [32]) := esc_oct w (ofL [92, 48, 52, 48]) (ofL [48, 52, 48]) 32 (by decide +kernel) (by decide +kernel) (by decide +kernel) (by decide +kernel) (by decide +kernel) ⟨.inl rfl, by decide +kernel, by decide +kernel, by kernel_rfl, by decide +kernel⟩ (by decide)
theorem esc_40 (w : World) : EscOk w (ofL [92, 52, 48]) (ofL [52, 48]) (ofL [32]) := esc_oct w (ofL [92, 52, 48]) (ofL [52, 48]) 32 (by decide +kernel) (by decide +kernel) (by decide +kernel) (by decide +kernel) (by decide +kernel) ⟨.inl rfl, by decide +kernel, by decide +kernel, by kernel_rfl, by decide +kernel⟩ (by decide)
theorem esc_173 (w : World) : EscOk w (ofL [92, 49, 55, 51]) (ofL [49, 55, 51]) (ofL [123]) := esc_oct w (ofL [92, 49, 55, 51]) (ofL [49, 55, 51]) 123 (by decide +kernel) (by decide +kernel) (by decide +kernel) (by decide +kernel) (by decide +kernel) ⟨.inl rfl, by decide +kernel, by decide +kernel, by kernel_rfl, by decide +kernel⟩ (by decide)
theorem esc_x61 (w : World) : EscOk w (ofL [92, 120, 54, 49]) (ofL [120, 54, 49]) (ofL [97]) := esc_hex w (ofL [92, 120, 54, 49]) (ofL [120, 54, 49]) 97 (by decide +kernel) (by decide +kernel) (by decide +kernel) (by decide +kernel) (by decide +kernel) ⟨.inr rfl, by decide +kernel, by decide +kernel, by kernel_rfl, by decide +kernel⟩ (by decide) (by decide +kernel)
theorem esc_x0a (w : World) : EscOk w (ofL [92, 120, 48, 97]) (ofL [120, 48, 97]) (ofL [10]) := esc_hex w (ofL [92, 120, 48, 97]) (ofL [120, 48, 97]) 10 (by decide +kernel) (by decide +kernel) (by decide +kernel) (by decide +kernel) (by decide +kernel) ⟨.inr rfl, by decide +kernel, by decide +kernel, by kernel_rfl, by decide +kernel⟩ (by decide) (by decide +kernel)
theorem esc_x37 (w : World) : EscOk w (ofL [92, 120, 51, 55]) (ofL [120, 51, 55]) (ofL [55]) := esc_hex w (ofL [92, 120, 51, 55]) (ofL [120, 51, 55]) 55 (by decide +kernel) (by decide +kernel) (by decide +kernel) (by decide +kernel) (by decide +kernel) ⟨.inr rfl, by decide +kernel, by decide +kernel, by kernel_rfl, by decide +kernel⟩ (by decide) (by decide +kernel)
theorem esc_x27 (w : World) : EscOk w (ofL [92, 120, 50, 55]) (ofL [120, 50, 55]) (ofL [39]) := esc_hex w (ofL [92, 120, 50, 55]) (ofL [120, 50, 55]) 39 (by decide +kernel) (by decide +kernel) (by decide +kernel) (by decide +kernel) (by decide +kernel) ⟨.inr rfl, by decide +kernel, by decide +kernel, by kernel_rfl, by decide +kernel⟩ (by decide) (by decide +kernel)
theorem esc_x22 (w : World) : EscOk w (ofL [92, 120, 50, 50]) (ofL [120, 50, 50]) (ofL [34]) := esc_hex w (ofL [92, 120, 50, 50]) (ofL [120, 50, 50]) 34 (by decide +kernel) (by decide +kernel) (by decide +kernel) (by decide +kernel) (by decide +kernel) ⟨.inr rfl, by decide +kernel, by decide +kernel, by kernel_rfl, by decide +kernel⟩ (by decide) (by decide +kernel)
theorem esc_x5c (w : World) : EscOk w (ofL [92, 120, 53, 99]) (ofL [120, 53, 99]) (ofL [92]) := esc_hex w (ofL [92, 120, 53, 99]) (ofL [120, 53, 99]) 92 (by decide +kernel) (by decide +kernel) (by decide +kernel) (by decide +kernel) (by decide +kernel) ⟨.inr rfl, by decide +kernel, by decide +kernel, by kernel_rfl, by decide +kernel⟩ (by decide) (by decide +kernel)
theorem esc_x09 (w : World) : EscOk w (ofL [92, 120, 48, 57]) (ofL [120, 48, 57]) (ofL [9]) := esc_hex w (ofL [92, 120, 48, 57]) (ofL [120, 48, 57]) 9 (by decide +kernel) (by decide +kernel) (by decide +kernel) (by decide +kernel) (by decide +kernel) ⟨.inr rfl, by decide +kernel, by decide +kernel, by kernel_rfl, by decide +kernel⟩ (by decide) (by decide +kernel)
theorem esc_x00 (w : World) : EscOk w (ofL [92, 120, 48, 48]) (ofL [120, 48, 48]) (ofL [0]) := esc_hex w (ofL [92, 120, 48, 48]) (ofL [120, 48, 48]) 0 (by decide +kernel) (by decide +kernel) (by decide +kernel) (by decide +kernel) (by decide +kernel) ⟨.inr rfl, by decide +kernel, by decide +kernel, by kernel_rfl, by decide +kernel⟩ (by decide) (by decide +kernel)
theorem esc_xe9 (w : World) : EscOk w (ofL [92, 120, 101, 57]) (ofL [120, 101, 57]) (ofL [233]) := esc_hex w (ofL [92, 120, 101, 57]) (ofL [120, 101, 57]) 233 (by decide +kernel) (by decide +kernel) (by decide +kernel) (by decide +kernel) (by decide +kernel) ⟨.inr rfl, by decide +kernel, by decide +kernel, by kernel_rfl, by decide +kernel⟩ (by decide) (by decide +kernel)
theorem esc_x07 (w : World) : EscOk w (ofL [92, 120, 48, 55]) (ofL [120, 48, 55]) (ofL [7]) := esc_hex w (ofL [92, 120, 48, 55]) (ofL [120, 48, 55]) 7 (by decide +kernel) (by decide +kernel) (by decide +kernel) (by decide +kernel) (by decide +kernel) ⟨.inr rfl, by decide +kernel, by decide +kernel, by kernel_rfl, by decide +kernel⟩ (by decide) (by decide +kernel)
theorem esc_x20 (w : World) : EscOk w (ofL [92, 120, 50, 48]) (ofL [120, 50, 48]) (ofL [32]) := esc_hex w (ofL [92, 120, 50, 48]) (ofL [120, 50, 48]) 32 (by decide +kernel) (by decide +kernel) (by decide +kernel) (by decide +kernel) (by decide +kernel) ⟨.inr rfl, by decide +kernel, by decide +kernel, by kernel_rfl, by decide +kernel⟩ (by decide) (by decide +kernel)
theorem esc_x7B (w : World) : EscOk w (ofL [92, 120, 55, 66]) (ofL [120, 55, 66]) (ofL [123]) := esc_hex w (ofL [92, 120, 55, 66]) (ofL [120, 55, 66]) 123 (by decide +kernel) (by decide +kernel) (by decide +kernel) (by decide +kernel) (by decide +kernel) ⟨.inr rfl, by decide +kernel, by decide +kernel, by kernel_rfl, by decide +kernel⟩ (by decide) (by decide +kernel)
theorem esc_a (w : World) : EscOk w (ofL [92, 97]) (ofL [97]) (ofL [7]) := esc_short w (ofL [92, 97]) (ofL [97]) (ofL [7]) (by decide +kernel) (by decide +kernel) (by decide +kernel) (by kernel_rfl)
theorem esc_n (w : World) : EscOk w (ofL [92, 110]) (ofL [110]) (ofL [10]) := esc_short w (ofL [92, 110]) (ofL [110]) (ofL [10]) (by decide +kernel) (by decide +kernel) (by decide +kernel) (by kernel_rfl)
theorem esc_t (w : World) : EscOk w (ofL [92, 116]) (ofL [116]) (ofL [9]) := esc_short w (ofL [92, 116]) (ofL [116]) (ofL [9]) (by decide +kernel) (by decide +kernel) (by decide +kernel) (by kernel_rfl)
theorem esc_u27 (w : World) : EscOk w (ofL [92, 39]) (ofL [39]) (ofL [39]) := esc_short w (ofL [92, 39]) (ofL [39]) (ofL [39]) (by decide +kernel) (by decide +kernel) (by decide +kernel) (by kernel_rfl)
theorem esc_u22 (w : World) : EscOk w (ofL [92, 34]) (ofL [34]) (ofL [34]) := esc_short w (ofL [92, 34]) (ofL [34]) (ofL [34]) (by decide +kernel) (by decide +kernel) (by decide +kernel) (by kernel_rfl)
theorem esc_u5c (w : World) : EscOk w (ofL [92, 92]) (ofL [92]) (ofL [92]) := esc_short w (ofL [92, 92]) (ofL [92]) (ofL [92]) (by decide +kernel) (by decide +kernel) (by decide +kernel) (by kernel_rfl)
end Mine
end
section
open PySem PySem.W PyProof.Rows PySem.Calls PySem.Spec PySem.Builtin
namespace Mine
set_option maxRecDepth 100000
theorem no_mark {own : List String} {codes : List Code} (h : (codes.any fun x => x.isCaller) = true) : pythonCodeMadeTheCall own codes = false := by
  obtain ⟨c, hc, hi⟩ := List.any_eq_true.mp h
  have key : ∀ f : Code → Bool, (∀ a, f (.builtin "claim.caller" a) = true) → ∀ X Y : Bool, ((!codes.any f) && X && Y) = false := by
    intro f hf X Y
    have : codes.any f = true := List.any_eq_true.mpr ⟨c, hc, by
      unfold Code.isCaller at hi
      split at hi
      · exact hf _
      · cases hi⟩
    rw [this]; rfl
  exact key _ (fun _ => rfl) _ _
theorem C.mark {M : Model} {A : Around} {E : Value → Shared → Prop} {s : Shared} {own : List String} {e : Value} {Q : Unit → Shared → Prop} (h : Q () s) : wpC M A (markTheRefusal own e) Q E s := fun Γ p hΓ hC => by
  unfold markTheRefusal
  rw [Sem.wp_bind']
  unfold stack
  rw [Sem.wp_stack, Sem.wp_pure]
  have hC' : ((((Γ.code, p) :: Γ.below).map (·.1)).any fun x => x.isCaller) = true := by
    unfold Cb at hC
    rw [List.map_cons, List.any_cons, List.any_map]
    rw [show (fun x : Code => x.isCaller) ∘ (fun x : Code × Pos => x.1) = fun x => x.1.isCaller from rfl, hC, Bool.or_true]
  rw [no_mark hC']
  exact h
theorem C.ite_true {α : Type} {M : Model} {A : Around} {E : Value → Shared → Prop} {s : Shared} {Q : α → Shared → Prop} {c : Prop} [Decidable c] {t e : Sem α} (hc : c) (h : wpC M A t Q E s) : wpC M A (if c then t else e) Q E s := by rw [if_pos hc]; exact h
theorem C.ite_false {α : Type} {M : Model} {A : Around} {E : Value → Shared → Prop} {s : Shared} {Q : α → Shared → Prop} {c : Prop} [Decidable c] {t e : Sem α} (hc : ¬ c) (h : wpC M A e Q E s) : wpC M A (if c then t else e) Q E s := by rw [if_neg hc]; exact h
theorem refuse_text {prog : Program} {w : World} {A : Around} {E : Value → Shared → Prop} {s : Shared} {x : PySem.Str} {u : Tok} {text : List Nat} {b : Nat} {Q : Value → Shared → Prop} (hh : A.handled = none)
    (hs : (text.takeWhile (· != 0)).length ≤ 640) (hr : (int_private% "readNumeral") 0 b (text.takeWhile (· != 0)) = (int_private% "Numeral.invalid"))
    (hx : (reprText x).length ≤ 1000) (hz : (Str.ofString (toString "invalid literal for int() with base " ++ toString b ++ toString ": ") ++ ({ cps := (reprText x).cps.extract 0 200 } : PySem.Str)).length ≤ 100000)
    (h : ∀ h' tk e, Heap.NewExc s.heap h' e "ValueError" → E (.ref e) { s with heap := h', toks := tk }) :
    wpC (model prog w) A ((int_private% "intFromText") (.str x u) text b) Q E s := by
  k_dflt (refine C.ite_true hs ?_)
  refine C.bindA (wpAny_pure ?_)
  dsimp only
  rw [hr]
  dsimp only
  refine C.bindA ?_
  repeat (any_goals (first | assumption | wp_step))
  refine C.ite_false (by simp) ?_
  refine C.bindA (wpAny_rule ?_)
  refine C.bindA ?_
  repeat (any_goals (first | assumption | wp_step))
  refine C.bindA ?_
  unfold pyRepr
  have hl : (1000 : Nat) ≤ sizeLine := by decide
  refine wpAny_bind (wpAny_pyReprObj_gives (typeIs_str s x u) F.slot_str_repr F.entry_str_repr (F.args_str_repr_1 _) (gives_str_repr x u) ?_ (hx := Nat.le_trans hx hl))
  k_dflt (refine wpAny_pure ?_)
  refine C.bindA (wpAny_mkStr ?_ (Nat.le_trans hz (by decide)))
  refine C.bindA (wpAny_newExc_plain plainExc_ValueError fun h' e hm => ?_)
  refine C.bind (C.mark ?_)
  exact C.any (wpAny_raiseNew_none hh (h _ _ _ hm.newExc))
theorem refuse_new {prog : Program} {w : World} {A : Around} {E : Value → Shared → Prop} {s : Shared} {x : PySem.Str} {u v : Tok} {Q : Fin → Shared → Prop} (hh : A.handled = none) (hc : x.cps.all (· < 128) = true)
    (hs : (x.cps.toList.takeWhile (· != 0)).length ≤ 640) (hr : (int_private% "readNumeral") 0 16 (x.cps.toList.takeWhile (· != 0)) = (int_private% "Numeral.invalid")) (hx : (reprText x).length ≤ 1000) (hz : (Str.ofString (toString "invalid literal for int() with base " ++ toString (16 : Nat) ++ toString ": ") ++ ({ cps := (reprText x).cps.extract 0 200 } : PySem.Str)).length ≤ 100000)
    (h : ∀ h' tk e, Heap.NewExc s.heap h' e "ValueError" → E (.ref e) { s with heap := h', toks := tk }) :
    wpC (model prog w) A (Builtin.«int.__new__» ⟨[.type "int", .str x u, .int 16 v], []⟩) Q E s := by
  have f1 := F.conv_sub_int
  have f2 := F.madeHere_int
  have f6 : typeOf (.str x u) = pure (.type "str") := rfl
  unfold Builtin.«int.__new__»
  dsimp only
  refine C.bindA ?_
  repeat (any_goals (first | assumption | wp_step))
  refine C.ite_false (by simp) ?_
  refine C.bindA ?_
  repeat (any_goals (first | assumption | wp_step))
  refine C.ite_false (by simp) ?_
  refine C.bindA ?_
  repeat (any_goals (first | assumption | wp_step))
  refine C.ite_false (by simp) ?_
  refine C.ite_false (by simp) ?_
  refine C.bindA ?_
  repeat (any_goals (first | assumption | wp_step))
  rw [show ([Value.str x u, Value.int 16 v][1]? <|> Option.map (fun x => x.snd) ([] : List (PySem.Str × Value)).head?) = some (Value.int 16 v) from rfl, show ([Value.str x u, Value.int 16 v].head?) = some (Value.str x u) from rfl]
  dsimp only
  refine C.bindA ?_
  repeat (any_goals (first | assumption | wp_step))
  refine C.ite_false (by simp) ?_
  refine C.bindA ?_
  repeat (any_goals (first | assumption | wp_step))
  simp only [hc, if_true]
  exact C.bind (refuse_text hh hs hr hx hz h)
theorem refuse_call {prog : Program} {w : World} {A : Around} {E : Value → Shared → Prop} {s : Shared} {x : PySem.Str} {u v : Tok} {Q : Value → Shared → Prop} (hh : A.handled = none) (hc : x.cps.all (· < 128) = true)
    (hs : (x.cps.toList.takeWhile (· != 0)).length ≤ 640) (hr : (int_private% "readNumeral") 0 16 (x.cps.toList.takeWhile (· != 0)) = (int_private% "Numeral.invalid")) (hx : (reprText x).length ≤ 1000) (hz : (Str.ofString (toString "invalid literal for int() with base " ++ toString (16 : Nat) ++ toString ": ") ++ ({ cps := (reprText x).cps.extract 0 200 } : PySem.Str)).length ≤ 100000)
    (h : ∀ h' tk e, Heap.NewExc s.heap h' e "ValueError" → E (.ref e) { s with heap := h', toks := tk }) :
    wpC (model prog w) A (call (.type "int") [.str x u, .int 16 v]) Q E s := by
  have ft := F.called_int
  obtain ⟨c, tl, hmro⟩ := ft.mro
  have hmade := ft.made
  have hsub := ft.sub
  have hct := F.typeCall_int_2 (.str x u) (.int 16 v)
  have hcn := F.newCall_int_2 (.str x u) (.int 16 v)
  refine C.call (C.tree ?_)
  show wpC _ _ (callAny (.type "int") _) _ _ _
  refine C.pure ⟨Code.quiet_builtin _ (by decide +kernel), C.builtin F.entry_type_call ?_⟩
  rw [Around.under_plain (weight_type_call_type "int" [.str x u, .int 16 v] []) (units_type_call_type "int" [.str x u, .int 16 v] [])]
  have h1 := ft.notType
  have h2 := ft.canCreate
  unfold Builtin.«type.__call__»
  dsimp only
  refine C.ite_false (by simp [h1]) ?_
  refine C.ite_false (by simp [*]) ?_
  refine C.bindA (wpAny_of_eq hct ?_)
  refine C.bindA (wpAny_of_eq hmro ?_)
  refine C.ite_false (by simp) ?_
  refine C.bindA (wpAny_of_eq hmade ?_)
  dsimp only
  refine C.bindA (wpAny_pure ?_)
  refine C.bind (C.holding (C.call (C.callBuiltin ft.plain (wpAny_of_eq hcn (C.builtin F.entry_int_new ?_)))))
  rw [Around.under_plainId ft.plain]
  exact refuse_new hh hc hs hr hx hz h
end Mine
end
section
open PySem PySem.W PyProof.Rows PySem.Calls PySem.Spec
namespace Mine
local macro_rules | `(tactic| walk_at "getMethod ref") => `(tactic| (k_here; (with_reducible show wpAny _ _ (getMethod (Value.ref _) (Str.ofString "group") _) _ _ _); k_dflt (refine' method_group ?k1 ?k2 ?_; (case k1 => k_asm); (case k2 => k_mem); k_whole)))
local macro_rules | `(tactic| walk_at "call builtin:re.Match.group") => `(tactic| (k_here; k_dflt (refine' group_K ?k1 ?k2 ?k3 ?k4 ?k5 ?k6 ?k7 ?k8 ?_; (case k1 => k_asm); (case k2 => k_asm); (case k3 => k_mem); (case k4 => k_mem); (case k5 => assumption); (case k6 => assumption); (case k7 => decide +kernel); (case k8 => decide +kernel); k_whole); intro q' h' F' N' l1; (try k_lt l1); (try k_sweep)))

theorem raisedKN {base : Heap} {l : List Env} {e t : Addr} {cls : Value} {vs : List Value} {news news' : List (Addr × Obj)} {h : Heap} (R : RaisedK base l e cls t vs news' h) (hs : ∀ p ∈ news, p ∈ news') : RaisedN base l e cls news h := by
  obtain ⟨⟨B, h1, h2, h3, _⟩, _⟩ := R
  exact ⟨B, _, h1, fun q hq => h2 q (hs q hq), h3⟩
set_option maxRecDepth 100000 in
set_option maxHeartbeats 8000000 in
theorem esc_bad_x4 (w : World) : EscBad w (ofL [92, 120, 52]) (ofL [120, 52]) := by
  rw [show ofL [92, 120, 52] = Str.ofString "\\x4" by decide, show ofL [120, 52] = Str.ofString "x4" by decide]
  unfold EscBad
  k_fill
  intro mean mg mb dp un gd cn cs a ccd cl outer A₀ base h₀ L m news s mt tp lim nt text tk b0 e0 b1 R B F X N T Xb Tb hk hd hu h0 h1 hR
  refine C.codeAny ?_
  k_dflt ktr_enter
  k_steps
  all_goals (rename RaisedK _ _ _ _ _ _ _ _ => kR; exact hR _ _ _ _ (by assumption) (by assumption) (raisedKN kR (fun p hp => by repeat first | exact hp | apply List.Mem.tail)))
set_option maxRecDepth 100000 in
set_option maxHeartbeats 8000000 in
theorem esc_bad_x (w : World) : EscBad w (ofL [92, 120]) (ofL [120]) := by
  rw [show ofL [92, 120] = Str.ofString "\\x" by decide, show ofL [120] = Str.ofString "x" by decide]
  unfold EscBad
  k_fill
  intro mean mg mb dp un gd cn cs a ccd cl outer A₀ base h₀ L m news s mt tp lim nt text tk b0 e0 b1 R B F X N T Xb Tb hk hd hu h0 h1 hR
  refine C.codeAny ?_
  k_dflt ktr_enter
  k_steps
  all_goals (rename RaisedK _ _ _ _ _ _ _ _ => kR; exact hR _ _ _ _ (by assumption) (by assumption) (raisedKN kR (fun p hp => by repeat first | exact hp | apply List.Mem.tail)))
end Mine
end
section
open PySem PySem.W PyProof.Rows PySem.Calls
namespace Mine
/-- an exception with its traceback's head, and no context -/
def Tx (h base : Heap) (e : Addr) (cls fl : Value) : Prop :=
  ∃ oe vs T oT ts, h.get? e = some oe ∧ oe.cls = cls ∧ oe.data = .fields vs ∧ vs[1]? = some (.ref T) ∧ vs[2]? = some .none ∧ base.get? T = none ∧ T ≠ e ∧ h.get? T = some oT ∧ oT.data = .fields ts ∧ ts[3]? = some fl
section
variable {M : Model} {A : Around} {E : Value → Shared → Prop} {s : Shared}
theorem note_x {base : Heap} {env : Env} {outer : List Env} {L e : Addr} {oe : Obj} {vs : Array Value} {Q : Unit → Shared → Prop} (hfr : A.frames = some (env :: outer)) (hl : s.heap.FunFrames base (env :: outer)) (hf : env.frame = some L)
    (he : s.heap.get? e = some oe) (hkb : base.StaysIn s.heap) (hen : base.get? e = none) (hd : oe.data = .fields vs) (h1 : vs[1]? = some .none) (h2 : vs[2]? = some .none)
    (h : ∀ h', base.StaysIn h' → h'.FunFrames base (env :: outer) → Tx h' base e oe.cls (rawInt L) → s.heap.UpToSlots h' → Q () { s with heap := h' }) : wpAny M A (noteFrame (.ref e) env) Q E s := by
  unfold noteFrame
  simp only [hf]
  refine wpAny_bind (wpAny_field he hd h1 ?_)
  rw [if_neg (by decide)]
  have off : e ∉ (env :: outer).filterMap (·.frame) := fun hm => by
    obtain ⟨_, o, ho, hnf⟩ := hl.mem hm
    rw [he] at ho; injection ho with ho; subst ho; exact hnf vs hd
  refine wpAny_bind (wpAny_frameOf_fun hfr hl hf fun g hg => ?_)
  refine wpAny_bind (wpAny_entryPlaceOf fun pl hpl => ?_)
  unfold EntryCells.newEntry newFields
  refine wpAny_bind (wpAny_newObj_type ?_ (hpl.sizeOk5 _ _ _ _ _))
  generalize hob : ({ cls := .type "traceback", dict := none, data := .fields ([Value.none, .ref L, .none, rawInt L, .none] ++ (if pl.isEmpty then List.replicate 6 Value.none else pl)).toArray } : Obj) = ob
  have heg : g.get? e = some oe := (hg.2.1 e off).trans he
  have hep := Heap.get?_push_of_some (h := g) ob heg
  have hTe : g.objs.size ≠ e := Nat.ne_of_gt (Heap.lt_size heg)
  have up : ∀ b o, b ≠ e → g.get? b = some o → ((g.push ob).update e (Obj.mapFields (·.setIfInBounds 1 (Value.ref g.objs.size)))).get? b = some o := fun b o hb hbo => by
    rw [Heap.get?_update_other _ _ (Ne.symm hb)]
    exact Heap.get?_push_of_some _ hbo
  have stays : base.StaysIn g := fun b o hbo => (hg.2.1 b fun hm => by rw [(hl.mem hm).1] at hbo; cases hbo).trans (hkb b o hbo)
  have nrec : ∀ b o, s.heap.get? b = some o → (∀ vs, o.data ≠ .fields vs) → b ≠ e := fun b o hb hnf q => by
    rw [q, he] at hb; injection hb with hb; subst hb; exact hnf vs hd
  have hT : ((g.push ob).update e (Obj.mapFields (·.setIfInBounds 1 (Value.ref g.objs.size)))).get? g.objs.size = some ob := by
    rw [Heap.get?_update_other _ _ (Ne.symm hTe)]
    subst hob
    exact Heap.get?_push_size g rfl
  have hd' := Obj.data_mapFields hd (·.setIfInBounds 1 (Value.ref g.objs.size))
  refine wpAny_setField hep hd (Array.getElem?_eq_some_iff.mp h1).1 (h _ (fun b o hbo => up b o (fun q => by rw [q, hen] at hbo; cases hbo) (stays b o hbo)) (hl.of_keeps fun b o hb hnf => ?_) ?_ fun b o hb hnf => ?_)
  · obtain ⟨sl, hs⟩ := hg.2.2 b o hb
    exact ⟨_, up b _ (nrec b o hb hnf) hs, rfl⟩
  · refine ⟨_, _, g.objs.size, ob, _, Heap.get?_update_self _ hep (Obj.isFreed_of_fields hd'), Obj.cls_mapFields _ _, hd', by simp [(Array.getElem?_eq_some_iff.mp h1).1], by rw [Array.getElem?_setIfInBounds_ne (by decide)]; exact h2, stays.fresh, hTe, hT, by rw [← hob], ?_⟩
    simp
  · obtain ⟨sl, hs⟩ := hg.2.2 b o hb
    exact ⟨sl, up b _ (nrec b o hb hnf) hs⟩
theorem flight_x {base : Heap} {l : List Env} {e : Addr} {cls fl : Value} {Q : Unit → Shared → Prop} (hkb : base.StaysIn s.heap) (hl : s.heap.FunFrames base l) (ht : Tx s.heap base e cls fl)
    (h : ∀ h', base.StaysIn h' → h'.FunFrames base l → Tx h' base e cls .none → s.heap.UpToSlots h' → Q () { s with heap := h' }) : wpAny M A (setFlight (.ref e) none) Q E s := by
  obtain ⟨oe, vs, T, oT, ts, he, hc, hd, h1, h2, hnT, hTe, hT, hdT, h3⟩ := ht
  have other : ∀ b, b ≠ T → (s.heap.update T (Obj.mapFields (·.setIfInBounds 3 ((none : Option Addr).elim Value.none fun f => rawInt f)))).get? b = s.heap.get? b := fun b hb => Heap.get?_update_other _ _ (Ne.symm hb)
  have nrec : ∀ b o, s.heap.get? b = some o → (∀ vs, o.data ≠ .fields vs) → b ≠ T := fun b o hb hnf q => by
    rw [q, hT] at hb; injection hb with hb; subst hb; exact hnf ts hdT
  have hd' := Obj.data_mapFields hdT (·.setIfInBounds 3 ((none : Option Addr).elim Value.none fun f => rawInt f))
  have hsz := (Array.getElem?_eq_some_iff.mp h3).1
  unfold setFlight
  refine wpAny_bind (wpAny_field he hd h1 ?_)
  rw [if_pos (show (Value.ref T != Value.none) = true from by simp)]
  refine wpAny_setField hT hdT hsz (h _ (fun b o hbo => (other b fun q => by rw [q, hnT] at hbo; cases hbo).trans (hkb b o hbo)) (hl.of_keeps fun b o hb hnf => ⟨o, (other b (nrec b o hb hnf)).trans hb, rfl⟩)
    ⟨oe, vs, T, _, _, (other e (Ne.symm hTe)).trans he, hc, hd, h1, h2, hnT, hTe, Heap.get?_update_self _ hT (Obj.isFreed_of_fields hd'), hd', by simp [hsz]⟩ fun b o hb hnf => ⟨o.slots, (other b (nrec b o hb hnf)).trans hb⟩)
end
section
variable {prog : Program} {w : World} {A : Around} {E : Value → Shared → Prop} {s' : Shared} {base g h : Heap} {outer : List Env} {L a e : Addr} {m : Str → Option Value} {name : Str} {scope : Scope} {cd : Value}
  {b₀ : Stmt} {suite : List Stmt} {pos np : Pos} {rest : List ExceptHandler} {Q : Flow → Shared → Prop} {news : List (Addr × Obj)} {p : Program} {loose : List Str} {mean : ExcName → Option Value} {mg mb : Str → Option Value} {x : Str} {X T' : String}
/-- an exception that is new in a frame of any depth, taken by that frame's own clause -/
theorem caught_x (K : Below A base outer g) (F : Fr g L h m) (N : News g L h news) (hx : Heap.NewExc h s'.heap e X) (T : TopRead p loose mg mb base) (hv : bootBuiltins x = some (.type T'))
    (hexc : isSubtype (.type T') (.type "BaseException") = pure true) (hnt : isSubtype (.type ((Manifest.find? T').elim "type" fun y => y.metatype)) (.type "tuple") = pure false) (hsub : isSubtype (.type X) (.type T') = pure true)
    (hE : PassesOwnAt (model prog w) ((A.deeper (envOf name scope L a cd)).mark (some (.ref e))) (A.deeper (envOf name scope L a cd)) (envOf name scope L a cd) E)
    (k : ∀ h' B g₀, base.StaysIn g₀ → base.StaysIn B → (∀ q ∈ news, B.get? q.1 = some q.2 ∧ base.get? q.1 = none) → B.get? e = none → B.StaysIn h' → h'.FunFrames B (envOf name scope L a cd :: outer) → Tx h' B e (.type X) .none → Fr g₀ L h' m → g.UpToSlots h' →
      wpAny (model prog w) ((A.deeper (envOf name scope L a cd)).mark (some (.ref e))) (execs (b₀ :: suite) (envOf name scope L a cd)) Q E { s' with heap := h' })
    (h1 : x ∉ startupNames := by decide +kernel) (h2 : x ∉ loose := by decide +kernel) (h3 : x ∉ (recsOf p).map (·.name) := by decide +kernel) (h4 : x ∉ (litsOf p).map (·.1) := by decide +kernel) (h4c : x ∉ (clssOf p loose).map (·.name) := by decide +kernel) (hn : x ≠ "__name__" := by decide +kernel)
    (hk : scope.kind = .function := by rfl) (hxk : (envOf name scope L a cd).kindOf x = some .globalImplicit := by rfl) (hdb : (x == ("__debug__" : Str)) = false := by decide) :
    wpAny (model prog w) (A.deeper (envOf name scope L a cd)) (noteFrame (.ref e) (envOf name scope L a cd))
      (fun _ s₂ => wpAny (model prog w) (A.deeper (envOf name scope L a cd)) (setFlight (.ref e) none) (fun _ s₃ =>
        wpAny (model prog w) (A.deeper (envOf name scope L a cd)) (handleBy (.ref e) (envOf name scope L a cd) (.ExceptHandler (some (.Name x np)) none (b₀ :: suite) pos :: rest)) Q E s₃) E s₂) E s' := by
  have K' := K.push (name := name) (a := a) (cd := cd) F hk
  generalize hB : hideAll h ((envOf name scope L a cd :: outer).filterMap (·.frame)) = B
  have hin : ∀ env ∈ (envOf name scope L a cd :: outer), ∀ b, env.frame = some b → b ∈ (envOf name scope L a cd :: outer).filterMap (·.frame) := fun env he b hb => List.mem_filterMap.mpr ⟨env, he, hb⟩
  have ofB : ∀ b o, B.get? b = some o → h.get? b = some o := fun b o q => of_hideAll _ (hB ▸ q)
  have st : base.StaysIn B := fun b o q => hB ▸ hideAll_get _ (K'.stays b o q) fun hm => by
    rw [(K'.frames.mem hm).1] at q; cases q
  have hl : ∀ q ∈ news, B.get? q.1 = some q.2 ∧ base.get? q.1 = none := fun q hq => by
    refine ⟨hB ▸ hideAll_get _ (N q hq).1 fun hm => ?_, fresh_of_stays K.stays (N q hq).2.2⟩
    obtain ⟨env, he, hf⟩ := List.mem_filterMap.mp hm
    rcases List.mem_cons.mp he with rfl | he
    · exact (N q hq).2.1 (Option.some.inj hf).symm
    · obtain ⟨o, ho, _⟩ := (K.frames.mem (List.mem_filterMap.mpr ⟨env, he, hf⟩)).2
      rw [(N q hq).2.2] at ho; cases ho
  have hen : B.get? e = none := by
    cases q : B.get? e with
    | none => rfl
    | some o => have := ofB _ _ q; rw [hx.new] at this; cases this
  obtain ⟨ob, tp, he, hcls, hd⟩ := hx.there
  have fr0 : s'.heap.FunFrames B (envOf name scope L a cd :: outer) := hB ▸ (funFrames_hide K'.frames hin).of_keeps fun b o hb _ => ⟨o, hx.keeps b o hb, rfl⟩
  have up0 : g.UpToSlots s'.heap := (Heap.UpToSlots.of_keeps F.keep).trans (Heap.UpToSlots.of_keeps hx.keeps)
  have uph : h.UpToSlots s'.heap := Heap.UpToSlots.of_keeps hx.keeps
  generalize hG : hideAll g (outer.filterMap (·.frame)) = g₀
  have ofG : ∀ b o, g₀.get? b = some o → g.get? b = some o := fun b o q => of_hideAll _ (hG ▸ q)
  have stG : base.StaysIn g₀ := fun b o q => hG ▸ hideAll_get _ (K.stays b o q) fun hm => by
    rw [(K.frames.mem hm).1] at q; cases q
  have sGB : ∀ b o, g₀.get? b = some o → B.get? b = some o := fun b o q => hB ▸ hideAll_get _ (F.keep b o (ofG b o q)) fun hm => by
    obtain ⟨env, he, hf⟩ := List.mem_filterMap.mp hm
    rcases List.mem_cons.mp he with rfl | he
    · obtain rfl : L = b := Option.some.inj hf
      exact absurd (Nat.lt_of_lt_of_le (Heap.lt_size (ofG _ _ q)) F.above) (Nat.lt_irrefl _)
    · have := hideAll_none (h := g) _ (List.mem_filterMap.mpr ⟨env, he, hf⟩)
      rw [hG, q] at this; cases this
  have Fb : Fr g₀ L h m := ⟨F.ns, fun b o q => F.keep b o (ofG b o q), by rw [← hG, hideAll_size]; exact F.above⟩
  refine note_x K'.stack fr0 rfl he (fun b o q => hx.keeps b o (ofB b o q)) hen hd rfl rfl fun h₄ s4 f4 t4 u4 => ?_
  refine flight_x s4 f4 t4 fun h₅ s5 f5 t5 u5 => ?_
  have F₅ : Fr g₀ L h₅ m := Fb.of_stays (fun b o q => s5 b o (sGB b o q)) (uph.trans (u4.trans u5))
  have ht : ∃ ob', h₅.get? e = some ob' ∧ ob'.cls = .type X := by
    obtain ⟨oe, _, _, _, _, q1, q2, _⟩ := t5
    exact ⟨oe, q1, q2.trans hcls⟩
  obtain ⟨ob', hob, hobc⟩ := ht
  refine wpAny_handleBy_builtin (X := X) (T := T') (b := true) hexc hnt hsub (ld_builtin_at F₅ (T.keeps stG).g (T.free x h1 h2 h3 h4 h4c) (T.keeps stG).b ((T.builtins x hn).trans hv) ⟨rfl, ⟨ob', hob, hobc⟩, ?_⟩ hk hxk hdb)
  refine flight_x s5 f5 t5 fun h₆ s6 f6 t6 u6 => ?_
  have F₆ : Fr g₀ L h₆ m := Fb.of_stays (fun b o q => s6 b o (sGB b o q)) (uph.trans (u4.trans (u5.trans u6)))
  exact wpAny_passesOwnAt hE (k h₆ B g₀ stG st hl hen s6 f6 (hcls ▸ t6) F₆ (up0.trans (u4.trans (u5.trans u6))))
end
section
variable {prog : Program} {w : World} {A : Around} {E : Value → Shared → Prop} {s : Shared} {env : Env}
theorem entry_unchain : entryFor table "proto.unchain" = some Builtin.«proto.unchain» := entryFor_of_fast (by kernel_rfl)
theorem raise_marked {α : Type} {e eh : Addr} {oe oh : Obj} {vs hs : Array Value} {Q : α → Shared → Prop} (hh : A.handled = some (.ref eh)) (hne : eh ≠ e) (he : s.heap.get? e = some oe) (hd : oe.data = .fields vs) (hsz : 2 < vs.size)
    (hf : s.heap.get? eh = some oh) (hdh : oh.data = .fields hs) (h2 : hs[2]? = some .none) (h : E (.ref e) { s with heap := s.heap.update e (Obj.mapFields (·.setIfInBounds 2 (.ref eh))) }) : wpAny (model prog w) A (raiseNew (.ref e) : Sem α) Q E s := by
  unfold raiseNew
  refine wpAny_bind (wpAny_handled ?_)
  rw [hh]
  dsimp only
  rw [if_pos (show (Value.ref eh != Value.ref e) = true from by simpa using hne)]
  refine wpAny_bind (wpAny_holding (wpAny_runValue (codeAny_builtin entry_unchain ?_)))
  unfold Builtin.«proto.unchain»
  dsimp only
  refine wpAny_bind (wpAny_field hf hdh h2 ?_)
  rw [if_pos (show (Value.none == Value.none) = true from by simp)]
  refine wpAny_pure ?_
  show wpAny _ _ (setField (.ref e) 2 (.ref eh) >>= fun _ => throw (.ref e)) _ _ _
  exact wpAny_bind (wpAny_setField he hd hsz (wpAny_throw h))
theorem raise_from {cls : String} (F : ExcRaiseFacts cls) {x c : Sem Value} {eh : Addr} {Q : Flow → Shared → Prop} (hh : A.handled = some (.ref eh)) (hc : ∀ (Q : Value → Shared → Prop) s, Q .none s → wpAny (model prog w) A c Q E s)
    (h : wpAny (model prog w) A x (fun v s₁ => ∃ e t oh hs, v = .ref e ∧ eh ≠ e ∧ s₁.heap.get? e = some { cls := .type cls, data := .fields #[.ref t, .none, .none, .none, .bool false, .none] } ∧ s₁.heap.get? eh = some oh ∧ oh.data = .fields hs ∧ hs[2]? = some .none ∧
      ∀ h', (∀ b, b ≠ e → h'.get? b = s₁.heap.get? b) → h'.get? e = some { cls := .type cls, data := .fields #[.ref t, .none, .ref eh, .none, .bool true, .none] } → E (.ref e) { s₁ with heap := h' }) E s) :
    wpAny (model prog w) A (raiseStmt env (some x) (some c)) Q E s := by
  unfold raiseStmt
  refine wpAny_bind (wpAny_mono h (fun v s₁ h₁ => ?_) fun _ _ x => x)
  obtain ⟨e, t, oh, hs, rfl, hne, he, hf, hdh, h2, hE⟩ := h₁
  obtain ⟨hp, g, d, tk, os⟩ := s₁
  have hsub := F.isExc
  have hmeta := F.plainMeta
  refine wpAny_bind (wpAny_holding (hc _ _ (wpAny_bind (wpAny_pure ?_))))
  repeat (first | refine wpAny_loadPart he ?_ | wp_step)
  have d0 : ({ cls := .type cls, data := .fields #[.ref t, .none, .none, .none, .bool false, .none] } : Obj).data = .fields #[.ref t, .none, .none, .none, .bool false, .none] := rfl
  have e1 := Heap.get?_update_self (Obj.mapFields (·.setIfInBounds 3 Value.none)) he (Obj.isFreed_of_fields (Obj.data_mapFields d0 _))
  have d1 := Obj.data_mapFields d0 (·.setIfInBounds 3 Value.none)
  have e2 := Heap.get?_update_self (Obj.mapFields (·.setIfInBounds 4 (Value.bool true))) e1 (Obj.isFreed_of_fields (Obj.data_mapFields d1 _))
  have d2 := Obj.data_mapFields d1 (·.setIfInBounds 4 (Value.bool true))
  have oth : ∀ b, b ≠ e → ((hp.update e (Obj.mapFields (·.setIfInBounds 3 Value.none))).update e (Obj.mapFields (·.setIfInBounds 4 (Value.bool true)))).get? b = hp.get? b := fun b hb => by
    rw [Heap.get?_update_other _ _ (Ne.symm hb), Heap.get?_update_other _ _ (Ne.symm hb)]
  refine raise_marked hh hne e2 d2 (by simp) ((oth eh hne).trans hf) hdh h2 (hE _ (fun b hb => ?_) ?_)
  · exact (Heap.get?_update_other _ _ (Ne.symm hb)).trans (oth b hb)
  · exact Heap.get?_update_self _ e2 (Obj.isFreed_of_fields (Obj.data_mapFields d2 _))
theorem Raise_from {cls newId initId : String} (FC : ExcCallFacts cls newId initId) (FR : ExcRaiseFacts cls) {x : Str} {np cpos pos kp : Pos} {kn : Nat} {e₀ : Expr} {rest : List Expr} {eh : Addr} {Q : Flow → Shared → Prop} (hh : A.handled = some (.ref eh))
    (h : wpAny (model prog w) A (eval (.Name x np) env) (fun f s₁ => f = .type cls ∧ wpAny (model prog w) A (spliced (backTo cpos (starEach (e₀ :: rest) env)))
      (fun vs s₂ => vs.length ≤ sizeLine ∧ (∃ oh hs, s₂.heap.get? eh = some oh ∧ oh.data = .fields hs ∧ hs[2]? = some .none) ∧
        ∀ h' e t, (∀ b o, s₂.heap.get? b = some o → h'.get? b = some o) → s₂.heap.get? e = none → h'.get? e = some { cls := .type cls, data := .fields #[.ref t, .none, .ref eh, .none, .bool true, .none] } → E (.ref e) { s₂ with heap := h' }) E s₁) E s)
    (he : starEach (e₀ :: rest) env = (false, eval e₀ env) :: starEach rest env := by rfl) (hplain : (backTo cpos (starEach rest env)).any (·.1) = false := by rfl) :
    wpAny (model prog w) A (exec (.Raise (some (.Call (.Name x np) (e₀ :: rest) [] cpos)) (some (.Constant .none kn kp)) pos) env) Q E s := by
  rw [arm_exec_Raise]
  refine wpAny_bind (wpAny_standAt ?_)
  refine raise_from FR hh (fun Q' s' hq => ?_) ?_
  · show wpAny _ _ (constValue env .none >>= fun v => standAt pos >>= fun _ => pure v) _ _ _
    refine wpAny_bind ?_
    repeat (first | exact wpAny_bind (wpAny_standAt (wpAny_pure hq)) | wp_step)
  · refine wpAny_bind (wpAny_Call_ofName (wpAny_mono h (fun f s₁ h₁ => ?_) fun _ _ y => y))
    obtain ⟨rfl, h₁⟩ := h₁
    refine callWith_excType (by rw [he]; show (false || (backTo cpos (starEach rest env)).any (·.1)) = false; rw [hplain]; rfl) ?_
    rw [he] at h₁ ⊢
    refine Calls.evalArgs_plain (wpAny_mono h₁ (fun vs s₂ h₂ => ?_) fun _ _ y => y)
    obtain ⟨hlen, ⟨oh, hs, q1, q2, q3⟩, hE⟩ := h₂
    obtain ⟨hp, g, d, tk, os⟩ := s₂
    refine wpAny_call_exc FC (hrest := hlen) fun h' e hm => ?_
    obtain ⟨t, ht, _, _⟩ := hm.there
    have hne : eh ≠ e := fun q => by
      have := hm.new
      rw [← q] at this
      exact absurd (this.symm.trans q1) (by simp)
    refine wpAny_bind (wpAny_standAt (wpAny_pure ⟨e, t, oh, hs, rfl, hne, ht, hm.keeps _ _ q1, q2, q3, fun h2 k1 k2 => ?_⟩))
    refine hE h2 e t (fun b o hb => ?_) hm.new k2
    have hbe : b ≠ e := fun q => by
      have := hm.new
      rw [← q] at this
      exact absurd (this.symm.trans hb) (by simp)
    exact (k1 b hbe).trans (hm.keeps b o hb)
end
end Mine
end
section
open PySem PySem.W PyProof.Rows PySem.Calls PySem.Spec
namespace Mine
local macro_rules | `(tactic| walk_at "getMethod ref") => `(tactic| (k_here; (with_reducible show wpAny _ _ (getMethod (Value.ref _) (Str.ofString "group") _) _ _ _); k_dflt (refine' method_group ?k1 ?k2 ?_; (case k1 => k_asm); (case k2 => k_mem); k_whole)))
local macro_rules | `(tactic| walk_at "call builtin:re.Match.group") => `(tactic| (k_here; k_dflt (refine' group_K ?k1 ?k2 ?k3 ?k4 ?k5 ?k6 ?k7 ?k8 ?_; (case k1 => k_asm); (case k2 => k_asm); (case k3 => k_mem); (case k4 => k_mem); (case k5 => assumption); (case k6 => assumption); (case k7 => decide +kernel); (case k8 => decide +kernel); k_whole); intro q' h' F' N' l1; (try k_lt l1); (try k_sweep)))

local macro_rules | `(tactic| walk_at "ENTER C") => `(tactic| (refine' C.codeDef ?k1 ?k2 ?k3 ?k4 ?k5 ?kA ?kF ?kK ?k6 ?k7 ?k8 ?k9 ?kB ?_ ?c2 ?c3 ?c4 ?c5; (case kA => exact rfl); (case kF => exact rfl); (case kK => assumption); (case k1 => k_asm); (case k2 => k_asm); (case k3 => k_asm); (case k4 => k_asm); (case k5 => k_asm); (case k6 => k_is); (case k7 => k_is); (case k8 => ktr_room); (case k9 => exact BindsTo.of_eq rfl); (case c5 => decide); (case kB => exact locs rfl); (case c2 => exact rfl); (case c3 => exact rfl); (case c4 => exact rfl); k_whole; intro g' L' h' FG' F' N' B' X' T'; (try dsimp only)))

/-- a thing that the walk leaves alone -/
def Kept (P : Prop) : Prop := P
theorem C.callWith_type {M : Model} {A : Around} {E : Value → Shared → Prop} {s : Shared} {pos : Pos} {T : String} {first : List Value} {args : List (Bool × Sem Value)} {Q : Value → Shared → Prop} (hplain : args.any (·.1) = false)
    (h : wpAny M A (evalArgs (.type T) true args []) (fun a s₁ => wpC M A (PySem.call (.type T) (first ++ a.pos) a.kw) Q E s₁) E s) : wpC M A (callWith pos (.type T) first args []) Q E s := by
  unfold callWith
  refine C.bindA (wpAny_holding (wpAny_mono h (fun a s₁ h₁ => C.bindA (wpAny_standAt ?_)) fun _ _ x => x))
  simp only [hplain, List.any_nil, Bool.or_false]
  refine C.bindA (wpAny_pure ?_)
  exact C.bind (C.mono h₁ (fun r s₂ hr => C.any (wpAny_bind (wpAny_holding (wpAny_point (wpAny_pure hr))))) fun _ _ x => x)
theorem C.callWith_typeS {M : Model} {A : Around} {E : Value → Shared → Prop} {s : Shared} {env : Env} {pos : Pos} {T : String} {first : List Value} {e : Expr} {rest : List Expr} {Q : Value → Shared → Prop}
    (h : wpAny M A (spliced (backTo pos (starEach (e :: rest) env))) (fun vs s₁ => wpC M A (PySem.call (.type T) (first ++ vs)) Q E s₁) E s)
    (he : starEach (e :: rest) env = (false, eval e env) :: starEach rest env := by rfl) (hplain : (backTo pos (starEach rest env)).any (·.1) = false := by rfl) :
    wpC M A (callWith pos (.type T) first (backTo pos (starEach (e :: rest) env)) []) Q E s := by
  rw [he] at h ⊢
  exact C.callWith_type (by show (false || (backTo pos (starEach rest env)).any (·.1)) = false; rw [hplain]; rfl) (evalArgs_plain h)
set_option maxRecDepth 100000 in
set_option maxHeartbeats 8000000 in
theorem esc_bad_xg1 (w : World) : EscBad w (ofL [92, 120, 103, 49]) (ofL [120, 103, 49]) := by
  rw [show ofL [92, 120, 103, 49] = Str.ofString "\\xg1" by decide, show ofL [120, 103, 49] = Str.ofString "xg1" by decide]
  unfold EscBad
  k_fill
  intro mean mg mb dp un gd cn cs a ccd cl outer A₀ base h₀ L m news s mt tp lim nt text tk b0 e0 b1 R B F X N T Xb Tb hk hd hu h0 h1 hR
  k_dflt walk_at "ENTER C"
  (refine C.execs_cons (C.any ?_); k_fold; k_steps)
  (refine C.execs_cons (C.any ?_); k_fold; k_steps)
  (refine C.execs_cons (C.any ?_); k_fold; k_steps)
  (refine C.execs_cons (C.any ?_); k_fold; k_steps)
  refine C.execs_cons (C.If ?_)
  k_fold
  k_steps
  (refine C.execs_cons (C.any ?_); k_fold; k_steps)
  (refine C.execs_cons (C.any ?_); k_fold; k_steps)
  refine C.execs_cons (C.Try_except ?_)
  refine C.execs_cons (C.Assign_Name (C.Call ?_))
  k_fold
  k_steps
  refine C.callWith_typeS ?_
  k_fold
  k_steps
  refine refuse_call (x := Str.ofString "g1") rfl (by decide +kernel) (by decide +kernel) (by kernel_rfl) (by decide +kernel) (by decide +kernel) (fun h5 tk5 e5 hx => ?_)
  (rename Fr _ _ _ _ => F5); (rename News _ _ _ _ => N5); (rename Below _ _ _ _ => B5); (rename Fr h₀ L _ m => FG5)
  refine caught_x B5 F5 N5 hx (topRead_of Tb) PyProof.Rows.Boot.«ValueError» (by rw [isSubtype_type]; kernel_rfl) (by rw [isSubtype_type]; kernel_rfl) (by rw [isSubtype_type]; kernel_rfl) (by exact PassesOwnAt.leaving) (fun h6 Bs g6 stG st hl hen s6 f6 t6 F6 u6 => ?_)
  have X6 := Xb.keeps stG
  have T6 := Tb.keeps stG
  have N6 := (News.nil : News _ _ _ []).at F6
  refine wpAny_execs_cons (Raise_from PySem.F.excCall_ValueError PySem.F.excRaise_ValueError rfl ?_)
  refine nameX_B F6 X6 (topRead_of T6) (by k_is) PyProof.Rows.Boot.«ValueError» (by decide) ⟨rfl, ?_⟩
  refine wpAny_mono (Q := fun vs s₂ => Kept (∃ v k, vs = [v] ∧ s₂ = { s with heap := h6, toks := k })) ?_ (fun vs s₂ hM => ?_) (fun _ _ x => x)
  · clear F5 N5 B5 hx hl s6 f6 t6 u6 hR
    k_fold
    k_steps
    all_goals exact ⟨_, _, rfl, rfl⟩
  obtain ⟨v, k, rfl, rfl⟩ := hM
  obtain ⟨oh, hs, T0, oT, ts, q1, q2, q3, q4, q5, q6⟩ := t6
  refine ⟨show (1 : Nat) ≤ sizeLine by decide, ⟨oh, hs, q1, q3, q5⟩, fun h7 e7 t7 k1 k2 k3 => ?_⟩
  have hen7 : Bs.get? e7 = none := by
    cases q : Bs.get? e7 with
    | none => rfl
    | some o => have := s6 _ _ q; rw [k2] at this; cases this
  refine wpAny_leaving_firstW (base := Bs) (outer := envX cn cs L a ccd cl :: outer) (a0 := .ref t7) rfl (f6.of_keeps fun b o hb _ => ⟨o, k1 b o hb, rfl⟩) rfl k3 (fun b o q => k1 b o (s6 b o q)) hen7 rfl rfl rfl (fun h9 hL => ?_)
  obtain ⟨l1, ⟨_, _, l2⟩, l3, l4⟩ := hL
  exact hR h9 k e7 _ FG5 (u6.trans ((Heap.UpToSlots.of_keeps k1).trans l4)) ⟨Bs, .ref t7, st, fun q hq => hl q (by repeat first | exact hq | apply List.Mem.tail), l1, hen7, l2, l3⟩
end Mine
end
section
open PySem PySem.W PyProof.Rows PySem.Calls
namespace Mine
/-- the pieces: (as it may stand, as it stands ahead of an octal digit, what it means) -/
def tab : List (List Nat × List Nat × List Nat) := [([92, 110], [92, 110], [10]), ([92, 39], [92, 39], [39]), ([92, 34], [92, 34], [34]), ([92, 92], [92, 92], [92]), ([92, 116], [92, 116], [9]), ([92, 97], [92, 97], [7]), ([92, 49, 52, 49], [92, 49, 52, 49], [97]), ([92, 48, 49, 50], [92, 48, 49, 50], [10]), ([92, 49, 50], [92, 48, 49, 50], [10]), ([92, 48, 54, 55], [92, 48, 54, 55], [55]), ([92, 54, 55], [92, 48, 54, 55], [55]), ([92, 48, 52, 55], [92, 48, 52, 55], [39]), ([92, 52, 55], [92, 48, 52, 55], [39]), ([92, 48, 52, 50], [92, 48, 52, 50], [34]), ([92, 52, 50], [92, 48, 52, 50], [34]), ([92, 49, 51, 52], [92, 49, 51, 52], [92]), ([92, 48, 49, 49], [92, 48, 49, 49], [9]), ([92, 49, 49], [92, 48, 49, 49], [9]), ([92, 48, 48, 48], [92, 48, 48, 48], [0]), ([92, 48], [92, 48, 48, 48], [0]), ([92, 51, 53, 49], [92, 51, 53, 49], [233]), ([92, 48, 48, 55], [92, 48, 48, 55], [7]), ([92, 55], [92, 48, 48, 55], [7]), ([92, 48, 52, 48], [92, 48, 52, 48], [32]), ([92, 52, 48], [92, 48, 52, 48], [32]), ([92, 49, 55, 51], [92, 49, 55, 51], [123]), ([92, 120, 54, 49], [92, 120, 54, 49], [97]), ([92, 120, 48, 97], [92, 120, 48, 97], [10]), ([92, 120, 51, 55], [92, 120, 51, 55], [55]), ([92, 120, 50, 55], [92, 120, 50, 55], [39]), ([92, 120, 50, 50], [92, 120, 50, 50], [34]), ([92, 120, 53, 99], [92, 120, 53, 99], [92]), ([92, 120, 48, 57], [92, 120, 48, 57], [9]), ([92, 120, 48, 48], [92, 120, 48, 48], [0]), ([92, 120, 101, 57], [92, 120, 101, 57], [233]), ([92, 120, 48, 55], [92, 120, 48, 55], [7]), ([92, 120, 50, 48], [92, 120, 50, 48], [32]), ([92, 120, 55, 66], [92, 120, 55, 66], [123]), ([92, 100], [92, 100], [92, 100]), ([92, 37], [92, 37], [92, 37]), ([92, 78], [92, 78], [92, 78]), ([92, 117], [92, 117], [92, 117])]
def triple (a b v : Str) : List Nat × List Nat × List Nat := (a.cps.toList, b.cps.toList, v.cps.toList)
/-- a piece that the law may write, under the quote qt -/
def okPc (qt : Str) (t : List Nat × List Nat × List Nat) : Prop :=
  tab.contains t = true ∨ ∃ c, t = ([c], [c], [c]) ∧ c ≠ 92 ∧ Txt.item qt 0 ≠ ⟨#[c]⟩
theorem okT {qt : Str} {t : List Nat × List Nat × List Nat} (h : tab.contains t = true) : okPc qt t := .inl h
theorem okR {qt d a : Str} {c : Nat} (h : Txt.item qt 0 = d) (ha : a = ⟨#[c]⟩) (h1 : c ≠ 92) (h2 : d ≠ ⟨#[c]⟩) : okPc qt (triple a a a) := by
  subst ha
  exact .inr ⟨c, rfl, h1, h ▸ h2⟩
abbrev kp (i : Int) : Str := Str.ofString "\\" ++ Txt.item (Str.ofString "d%Nu") i
theorem okK {qt : Str} {q : Int} : okPc qt (triple (kp ((q.fdiv 9).fmod 4)) (kp ((q.fdiv 9).fmod 4)) (kp ((q.fdiv 9).fmod 4))) ∧ (kp ((q.fdiv 9).fmod 4)).length ≤ 2 := by
  have h0 : 0 ≤ (q.fdiv 9).fmod 4 := Int.fmod_nonneg_of_pos _ (by decide)
  have h1 : (q.fdiv 9).fmod 4 < 4 := Int.fmod_lt_of_pos _ (by decide)
  generalize (q.fdiv 9).fmod 4 = i at *
  have : i = 0 ∨ i = 1 ∨ i = 2 ∨ i = 3 := by omega
  rcases this with rfl | rfl | rfl | rfl <;> exact ⟨okT (by decide +kernel), by decide +kernel⟩
def vals (es : List (List Nat × List Nat × List Nat)) : List Nat := es.flatMap (·.2.2)
def pcs (es : List (List Nat × List Nat × List Nat)) : List Dat := es.map fun e => Dat.tuple [.str ⟨e.1.toArray⟩, .str ⟨e.2.1.toArray⟩]
def d0 (sp : Int) : List Dat := if sp = 1 then [Dat.tuple [.str (Str.ofString "\\xg1"), .str (Str.ofString "\\xg1")]] else []
def Inv (qt : Str) (sp : Int) (pre : List Int) (text : Str) (parts : List Dat) : Prop :=
  ∃ es, es.length = pre.length ∧ text.cps.toList = vals es ∧ parts = d0 sp ++ pcs es ∧ ∀ e ∈ es, okPc qt e
def P1 (qt : Str) (sp : Int) (pre : List Int) (text : Str) (parts : List Dat) : Prop := text.length ≤ 2 * pre.length ∧ parts.length ≤ pre.length + 1 ∧ Inv qt sp pre text parts
theorem inv0 (qt : Str) (sp : Int) : Inv qt sp [] (Str.ofString "") (d0 sp) := ⟨[], rfl, rfl, by simp [pcs], fun _ h => nomatch h⟩
theorem start0 (qt : Str) (sp : Int) : (Str.ofString "").length ≤ 2 * ([] : List Int).length ∧ (d0 sp).length ≤ ([] : List Int).length + 1 ∧ Inv qt sp [] (Str.ofString "") (d0 sp) := ⟨by decide, by unfold d0; split <;> simp, inv0 qt sp⟩
theorem step1 {qt : Str} {sp : Int} {pre : List Int} {text a b v : Str} {parts : List Dat} {n : Int} (h1 : text.length ≤ 2 * pre.length) (h2 : parts.length ≤ pre.length + 1) (h3 : Inv qt sp pre text parts) (hok : okPc qt (triple a b v)) (hv : v.length ≤ 2) :
    (text ++ v).length ≤ 2 * (pre ++ [n]).length ∧ (parts ++ [Dat.tuple [.str a, .str b]]).length ≤ (pre ++ [n]).length + 1 ∧ Inv qt sp (pre ++ [n]) (text ++ v) (parts ++ [Dat.tuple [.str a, .str b]]) := by
  refine ⟨?_, by simp only [List.length_append, List.length_singleton]; omega, ?_⟩
  · rw [len_list, cps_app, List.length_append, ← len_list, ← len_list, List.length_append, List.length_singleton]; omega
  · obtain ⟨es, e1, e2, e3, e4⟩ := h3
    refine ⟨es ++ [triple a b v], by simp [e1], ?_, ?_, ?_⟩
    · rw [cps_app, e2]; simp [vals, triple]
    · rw [e3]; simp [pcs, triple]
    · intro e he
      rcases List.mem_append.mp he with he | he
      · exact e4 e he
      · rw [List.mem_singleton.mp he]; exact hok
abbrev poolL : List Str := [Str.ofString "a", Str.ofString "\n", Str.ofString "7", Str.ofString "'", Str.ofString "\"", Str.ofString "\\", Str.ofString "\t", Str.ofString "\x00", Str.ofString "é", Str.ofString "\x07", Str.ofString " ", Str.ofString "{"]
def SgOk (q : Int) (sg : Str) : Prop := (q % 12 = 0 ∧ sg = Str.ofString "a") ∨ (q % 12 = 1 ∧ sg = Str.ofString "\n") ∨ (q % 12 = 2 ∧ sg = Str.ofString "7") ∨ (q % 12 = 3 ∧ sg = Str.ofString "'") ∨ (q % 12 = 4 ∧ sg = Str.ofString "\"") ∨ (q % 12 = 5 ∧ sg = Str.ofString "\\") ∨ (q % 12 = 6 ∧ sg = Str.ofString "\t") ∨ (q % 12 = 7 ∧ sg = Str.ofString "\x00") ∨ (q % 12 = 8 ∧ sg = Str.ofString "é") ∨ (q % 12 = 9 ∧ sg = Str.ofString "\x07") ∨ (q % 12 = 10 ∧ sg = Str.ofString " ") ∨ (q % 12 = 11 ∧ sg = Str.ofString "{")
theorem sgOk {q : Int} (h0 : 0 ≤ q) : SgOk q (poolL.getD (q.fmod 12).toNat Str.empty) := by
  have e : q.fmod 12 = q % 12 := by rw [Int.fmod_eq_emod_of_nonneg _ (by decide)]
  rw [e]
  unfold SgOk
  have : q % 12 = 0 ∨ q % 12 = 1 ∨ q % 12 = 2 ∨ q % 12 = 3 ∨ q % 12 = 4 ∨ q % 12 = 5 ∨ q % 12 = 6 ∨ q % 12 = 7 ∨ q % 12 = 8 ∨ q % 12 = 9 ∨ q % 12 = 10 ∨ q % 12 = 11 := by omega
  rcases this with h | h | h | h | h | h | h | h | h | h | h | h <;> rw [h] <;> simp [poolL]
/-- what a text's frame holds, said anew -/
theorem reform {h₀ h : Heap} {L : Addr} {m m0 : Str → Option Value} {vS vN vT : Option Value} (F : Fr h₀ L h m) (h1 : m (Str.ofString "sign") = vS) (h2 : m (Str.ofString "n") = vN) (h3 : m (Str.ofString "text") = vT)
    (h4 : ∀ y, [Str.ofString "q", Str.ofString "sign", Str.ofString "how", Str.ofString "piece", Str.ofString "full"].contains y = false → y ≠ Str.ofString "n" → y ≠ Str.ofString "text" → m y = m0 y) :
    Fr h₀ L h (fun y => if y = Str.ofString "sign" then vS else if y = Str.ofString "n" then vN else if y = Str.ofString "text" then vT else if [Str.ofString "q", Str.ofString "sign", Str.ofString "how", Str.ofString "piece", Str.ofString "full"].contains y = true then m y else m0 y) := by
  have e : m = (fun y => if y = Str.ofString "sign" then vS else if y = Str.ofString "n" then vN else if y = Str.ofString "text" then vT else if [Str.ofString "q", Str.ofString "sign", Str.ofString "how", Str.ofString "piece", Str.ofString "full"].contains y = true then m y else m0 y) := by
    funext y
    by_cases a1 : y = Str.ofString "sign"
    · rw [if_pos a1, ← h1, a1]
    rw [if_neg a1]
    by_cases a2 : y = Str.ofString "n"
    · rw [if_pos a2, ← h2, a2]
    rw [if_neg a2]
    by_cases a3 : y = Str.ofString "text"
    · rw [if_pos a3, ← h3, a3]
    rw [if_neg a3]
    by_cases a4 : [Str.ofString "q", Str.ofString "sign", Str.ofString "how", Str.ofString "piece", Str.ofString "full"].contains y = true
    · rw [if_pos a4]
    rw [if_neg a4]
    exact h4 y (by simpa using a4) a2 a3
  rw [← e]; exact F
theorem sto_ne {y : Str} (h : [Str.ofString "q", Str.ofString "sign", Str.ofString "how", Str.ofString "piece", Str.ofString "full"].contains y = false) : y ≠ Str.ofString "q" ∧ y ≠ Str.ofString "sign" ∧ y ≠ Str.ofString "how" ∧ y ≠ Str.ofString "piece" ∧ y ≠ Str.ofString "full" := by
  refine ⟨?_, ?_, ?_, ?_, ?_⟩ <;> (rintro rfl; revert h; decide +kernel)
/-- the first sign of the quote, one of two -/
theorem lit_or {prog : Program} {w : World} {A : Around} {E : Value → Shared → Prop} {s : Shared} {value slice : Expr} {x c d : Str} {t u : Tok} {Q : Value → Shared → Prop} (hi : Txt.item x 0 = c ∨ Txt.item x 0 = d) (h1 : ((0 : Nat) : Int) < (x.length : Int))
    (h : Txt.item x 0 = c → Q (.str c s.toks) { s with toks := s.toks + 1 }) (h' : Txt.item x 0 = d → Q (.str d s.toks) { s with toks := s.toks + 1 })
    (hs : subscripted slice false (.str x t) (.int 0 u) = PySem.operate [.str x t, .int 0 u] (getItem (.str x t) (.int 0 u)) := by with_unfolding_all rfl)
    (ht : ∀ r, letTemporaryGo value (.str x t) r = pure () := by intro _; with_unfolding_all rfl) : wpAny (model prog w) A (subscriptTail value slice (.str x t) (.int 0 u)) Q E s :=
  item_str (by decide) (by omega) (by omega) (fun _ => hi.elim (fun e => e ▸ h e) (fun e => e ▸ h' e)) hs ht
theorem quote0 {qt : Str} (h : qt = Str.ofString "'" ∨ qt = Str.ofString "\"" ∨ qt = Str.ofString "'''" ∨ qt = Str.ofString "\"\"\"") : (Txt.item qt 0 = Str.ofString "'" ∨ Txt.item qt 0 = Str.ofString "\"") ∧ ((0 : Nat) : Int) < (qt.length : Int) ∧ qt.length ≤ 3 := by
  rcases h with rfl | rfl | rfl | rfl <;> decide +kernel
end Mine
end
section
open PySem PySem.W PyProof.Rows PySem.Calls PySem.Spec
namespace Mine
def ts (n : Int) : Str := Str.ofString (toString n)
def octS (n : Int) : Str :=
  if 63 < n then Str.ofString "\\" ++ ts (n.fdiv 64) ++ ts ((n.fdiv 8).fmod 8) ++ ts (n.fmod 8)
  else if 7 < n then Str.ofString "\\" ++ Str.ofString "" ++ ts ((n.fdiv 8).fmod 8) ++ ts (n.fmod 8)
  else Str.ofString "\\" ++ Str.ofString "" ++ Str.ofString "" ++ ts (n.fmod 8)
def OctC (w : World) : Prop :=
  ∀ (mean : ExcName → Option Value) (mg mb : Str → Option Value) (dp un : Nat) (gd : Option (List Code)) (cn : Str) (cs : Scope) (a : Addr) (ccd : Value) (cl : List (Str × Addr)) (outer : List Env) (A₀ : Around) (base h₀ : Heap) (L : Addr) (m : Str → Option Value) (news : List (Addr × Obj)) (s : Shared) (n : Int) (t : Tok) (R : Result → Shared → Prop), Below A₀ base outer h₀ → Fr h₀ L s.heap m → (hd.heap_39 w.params).In h₀ → News h₀ L s.heap news → Top hd.view_39 LS mean mg mb h₀ → cs.kind = .function → dp < 900 → un < 100 → 0 ≤ n → n ≤ 255 →
    (∀ h' tk' v u, v = octS n → Fr h₀ L h' m → News h₀ L h' news → R (.ok (.ret (.str v u))) { s with heap := h', toks := tk' }) →
    codeAny (model PySem.Challenge.rw_bl0001_01.row.prog w) (ktrTop dp un gd cn cs L a ccd cl outer) (.call (.ref 79) ⟨[.int n t], []⟩) R s
set_option maxRecDepth 100000 in
set_option maxHeartbeats 8000000 in
theorem oct_K (w : World) : OctC w := by
  unfold OctC
  k_fill
  intro mean mg mb dp un gd cn cs a ccd cl outer A₀ base h₀ L m news s n t R B F X N T hk hd hu h0 h1 hR
  k_dflt ktr_enter
  k_steps
  all_goals exact hR _ _ _ _ (by unfold octS; first | (rw [if_pos (by omega)]; rfl) | (rw [if_neg (by omega), if_pos (by omega)]; rfl) | (rw [if_neg (by omega), if_neg (by omega)]; rfl)) (by assumption) (by assumption)

abbrev shortP (t0 t1 t2 t3 t4 t5 t6 t7 t8 t9 t10 t11 : Tok) : List (Value × Value) := [(Value.str (Str.ofString "\n") t0, Value.str (Str.ofString "\\n") t1), (Value.str (Str.ofString "'") t2, Value.str (Str.ofString "\\'") t3), (Value.str (Str.ofString "\"") t4, Value.str (Str.ofString "\\\"") t5), (Value.str (Str.ofString "\\") t6, Value.str (Str.ofString "\\\\") t7), (Value.str (Str.ofString "\t") t8, Value.str (Str.ofString "\\t") t9), (Value.str (Str.ofString "\x07") t10, Value.str (Str.ofString "\\a") t11)]
def ShortC (w : World) : Prop :=
  ∀ (mean : ExcName → Option Value) (mg mb : Str → Option Value) (dp un : Nat) (gd : Option (List Code)) (cn : Str) (cs : Scope) (a : Addr) (ccd : Value) (cl : List (Str × Addr)) (outer : List Env) (A₀ : Around) (base h₀ : Heap) (L : Addr) (m : Str → Option Value) (news : List (Addr × Obj)) (s : Shared) (R : Result → Shared → Prop), Below A₀ base outer h₀ → Fr h₀ L s.heap m → (hd.heap_39 w.params).In h₀ → News h₀ L s.heap news → Top hd.view_39 LS mean mg mb h₀ → cs.kind = .function → dp < 900 → un < 100 →
    (∀ h' tk' d o t0 t1 t2 t3 t4 t5 t6 t7 t8 t9 t10 t11, Fr h₀ L h' m → News h₀ L h' ((d, o) :: news) → (∀ p ∈ news, p.1 < d) → (d == sysModules) = false →
      Obj.IsDictOf (strKind PySem.Challenge.rw_bl0001_01.row.prog w) o (strPairs [(Value.str (Str.ofString "\n") t0, Value.str (Str.ofString "\\n") t1), (Value.str (Str.ofString "'") t2, Value.str (Str.ofString "\\'") t3), (Value.str (Str.ofString "\"") t4, Value.str (Str.ofString "\\\"") t5), (Value.str (Str.ofString "\\") t6, Value.str (Str.ofString "\\\\") t7), (Value.str (Str.ofString "\t") t8, Value.str (Str.ofString "\\t") t9), (Value.str (Str.ofString "\x07") t10, Value.str (Str.ofString "\\a") t11)]) → R (.ok (.ret (.ref d))) { s with heap := h', toks := tk' }) →
    codeAny (model PySem.Challenge.rw_bl0001_01.row.prog w) (ktrTop dp un gd cn cs L a ccd cl outer) (.call (.ref 65) ⟨[], []⟩) R s
set_option maxRecDepth 100000 in
set_option maxHeartbeats 8000000 in
theorem short_K (w : World) : ShortC w := by
  unfold ShortC
  k_fill
  intro mean mg mb dp un gd cn cs a ccd cl outer A₀ base h₀ L m news s R B F X N T hk hd hu hR
  k_dflt ktr_enter
  k_steps
  all_goals exact hR _ _ _ _ _ _ _ _ _ _ _ _ _ _ _ _ (by assumption) (by assumption) (by assumption) (by assumption) (by assumption)
theorem octLen {n : Int} {v : Str} (e : v = octS n) (h0 : 0 ≤ n) (h1 : n ≤ 255) : 2 ≤ v.length ∧ v.length ≤ 4 := by
  subst e
  obtain ⟨k, rfl⟩ := Int.eq_ofNat_of_zero_le h0
  have hk : k < 256 := by omega
  have key : ∀ k : Fin 256, 2 ≤ (octS (k.val : Int)).length ∧ (octS (k.val : Int)).length ≤ 4 := by decide +kernel
  exact key ⟨k, hk⟩
theorem sgLen {q : Int} {sg : Str} (h : SgOk q sg) : sg.length = 1 ∧ sg.cps.getD 0 0 ≤ 255 := by
  unfold SgOk at h
  rcases h with ⟨_, rfl⟩ | ⟨_, rfl⟩ | ⟨_, rfl⟩ | ⟨_, rfl⟩ | ⟨_, rfl⟩ | ⟨_, rfl⟩ | ⟨_, rfl⟩ | ⟨_, rfl⟩ | ⟨_, rfl⟩ | ⟨_, rfl⟩ | ⟨_, rfl⟩ | ⟨_, rfl⟩ <;> exact ⟨rfl, by decide⟩
abbrev fullS (v : Str) : Str := Str.ofString "\\" ++ Txt.slice (Str.ofString "000") none (some (4 - (v.length : Int))) ++ Txt.slice v (some 1) none
theorem okO1 {qt : Str} {q : Int} {sg v : Str} (h : SgOk q sg) (e : v = octS ((sg.cps.getD 0 0 : Nat) : Int)) : okPc qt (triple (fullS v) (fullS v) sg) ∧ sg.length ≤ 2 := by
  subst e
  rcases h with ⟨_, rfl⟩ | ⟨_, rfl⟩ | ⟨_, rfl⟩ | ⟨_, rfl⟩ | ⟨_, rfl⟩ | ⟨_, rfl⟩ | ⟨_, rfl⟩ | ⟨_, rfl⟩ | ⟨_, rfl⟩ | ⟨_, rfl⟩ | ⟨_, rfl⟩ | ⟨_, rfl⟩ <;> exact ⟨okT (by decide +kernel), by decide +kernel⟩
theorem okO2 {qt : Str} {q : Int} {sg v : Str} (h : SgOk q sg) (e : v = octS ((sg.cps.getD 0 0 : Nat) : Int)) : okPc qt (triple v (fullS v) sg) ∧ sg.length ≤ 2 := by
  subst e
  rcases h with ⟨_, rfl⟩ | ⟨_, rfl⟩ | ⟨_, rfl⟩ | ⟨_, rfl⟩ | ⟨_, rfl⟩ | ⟨_, rfl⟩ | ⟨_, rfl⟩ | ⟨_, rfl⟩ | ⟨_, rfl⟩ | ⟨_, rfl⟩ | ⟨_, rfl⟩ | ⟨_, rfl⟩ <;> exact ⟨okT (by decide +kernel), by decide +kernel⟩
abbrev hexS (c : Int) : Str := Str.ofString "\\x" ++ Txt.item (Str.ofString "0123456789abcdef") (c.fdiv 16) ++ Txt.item (Str.ofString "0123456789aBcDeF") (c.fmod 16)
theorem okH {qt : Str} {q : Int} {sg : Str} (h : SgOk q sg) : okPc qt (triple (hexS ((sg.cps.getD 0 0 : Nat) : Int)) (hexS ((sg.cps.getD 0 0 : Nat) : Int)) sg) ∧ sg.length ≤ 2 := by
  rcases h with ⟨_, rfl⟩ | ⟨_, rfl⟩ | ⟨_, rfl⟩ | ⟨_, rfl⟩ | ⟨_, rfl⟩ | ⟨_, rfl⟩ | ⟨_, rfl⟩ | ⟨_, rfl⟩ | ⟨_, rfl⟩ | ⟨_, rfl⟩ | ⟨_, rfl⟩ | ⟨_, rfl⟩ <;> exact ⟨okT (by decide +kernel), by decide +kernel⟩
abbrev bsl (sg : Str) : Str := Str.ofString "\\" ++ sg
theorem okB {qt : Str} {sg x : Str} (h : sg = x) (hx : x = Str.ofString "\\" ∨ x = Str.ofString "'" ∨ x = Str.ofString "\"") : okPc qt (triple (bsl sg) (bsl sg) sg) ∧ sg.length ≤ 2 := by
  subst h
  rcases hx with rfl | rfl | rfl <;> exact ⟨okT (by decide +kernel), by decide +kernel⟩
theorem okW {qt d : Str} {q : Int} {sg : Str} (h : SgOk q sg) (h1 : sg ≠ Str.ofString "\\") (hd : Txt.item qt 0 = d) (h2 : sg ≠ d) : okPc qt (triple sg sg sg) ∧ sg.length ≤ 2 := by
  have hl := (sgLen h).1
  refine ⟨.inr ⟨sg.cps.getD 0 0, ?_, ?_, ?_⟩, by omega⟩
  · rcases h with ⟨_, rfl⟩ | ⟨_, rfl⟩ | ⟨_, rfl⟩ | ⟨_, rfl⟩ | ⟨_, rfl⟩ | ⟨_, rfl⟩ | ⟨_, rfl⟩ | ⟨_, rfl⟩ | ⟨_, rfl⟩ | ⟨_, rfl⟩ | ⟨_, rfl⟩ | ⟨_, rfl⟩ <;> rfl
  · rcases h with ⟨_, rfl⟩ | ⟨_, rfl⟩ | ⟨_, rfl⟩ | ⟨_, rfl⟩ | ⟨_, rfl⟩ | ⟨_, rfl⟩ | ⟨_, rfl⟩ | ⟨_, rfl⟩ | ⟨_, rfl⟩ | ⟨_, rfl⟩ | ⟨_, rfl⟩ | ⟨_, rfl⟩ <;> first | exact absurd rfl h1 | decide
  · rw [hd]; intro e; apply h2; rw [e]
    rcases h with ⟨_, rfl⟩ | ⟨_, rfl⟩ | ⟨_, rfl⟩ | ⟨_, rfl⟩ | ⟨_, rfl⟩ | ⟨_, rfl⟩ | ⟨_, rfl⟩ | ⟨_, rfl⟩ | ⟨_, rfl⟩ | ⟨_, rfl⟩ | ⟨_, rfl⟩ | ⟨_, rfl⟩ <;> rfl
theorem strNe {x y : Str} (h : (x == y) = false) : x ≠ y := fun e => by rw [e] at h; simp at h
def shortD : List (PyData × PyData) := [(.str (Str.ofString "\n"), .str (Str.ofString "\\n")), (.str (Str.ofString "'"), .str (Str.ofString "\\'")), (.str (Str.ofString "\""), .str (Str.ofString "\\\"")), (.str (Str.ofString "\\"), .str (Str.ofString "\\\\")), (.str (Str.ofString "\t"), .str (Str.ofString "\\t")), (.str (Str.ofString "\x07"), .str (Str.ofString "\\a"))]
theorem shortFlat (t0 t1 t2 t3 t4 t5 t6 t7 t8 t9 t10 t11 : Tok) : PyProof.V.FlatPairs PyData.str (strPairs (shortP t0 t1 t2 t3 t4 t5 t6 t7 t8 t9 t10 t11)) shortD := by
  exact .cons (.str _ _) (.cons (.str _ _) (.cons (.str _ _) (.cons (.str _ _) (.cons (.str _ _) (.cons (.str _ _) .nil)))))
def inShort (x : Str) : Bool := (Spec.lookup (.str x) shortD).isSome
def shortOf (x : Str) : Str := match Spec.lookup (.str x) shortD with | some (.str y) => y | _ => Str.empty
theorem short_some {x : Str} (h : inShort x = true) : Spec.lookup (.str x) shortD = some (.str (shortOf x)) := by
  unfold inShort at h
  unfold shortOf
  have key : ∀ D : List (PyData × PyData), (∀ p ∈ D, ∃ y, p.2 = .str y) → (Spec.lookup (.str x) D).isSome = true → ∃ y, Spec.lookup (.str x) D = some (.str y) := by
    intro D
    induction D with
    | nil => intro _ h; simp [Spec.lookup] at h
    | cons p D ih =>
      intro hp h
      unfold Spec.lookup at h ⊢
      split at h
      · rename_i hh
        obtain ⟨y, e⟩ := hp p (.head _)
        exact ⟨y, by simp_all⟩
      · simp_all
  obtain ⟨y, e⟩ := key shortD (by intro p hp; simp only [shortD, List.mem_cons, List.mem_nil_iff, or_false] at hp; rcases hp with rfl | rfl | rfl | rfl | rfl | rfl <;> exact ⟨_, rfl⟩) h
  rw [e]
section
variable {prog : Program} {w : World} {A : Around} {E : Value → Shared → Prop} {s : Shared} {d : Addr}
theorem in_short {x : Str} {t : Tok} {Q : Value → Shared → Prop} (T : StrTab prog w s.heap d shortD) (h : Q (.bool (inShort x)) { s with toks := s.toks + 1 }) : wpAny (model prog w) A (compareOp .In (.str x t) (.ref d)) Q E s := in_strTab T h
theorem item_short {value slice : Expr} {x : Str} {t : Tok} {Q : Value → Shared → Prop} (T : StrTab prog w s.heap d shortD) (hs' : inShort x = true) (h : ∀ u, Q (.str (shortOf x) u) { s with toks := s.toks + 1 })
    (hs : subscripted slice false (.ref d) (.str x t) = PySem.operate [.ref d, .str x t] (getItem (.ref d) (.str x t)) := by with_unfolding_all rfl) (hg : ∀ r, letTemporaryGo value (.ref d) r = pure () := by intro _; with_unfolding_all rfl) :
    wpAny (model prog w) A (subscriptTail value slice (.ref d) (.str x t)) Q E s :=
  item_strTab T (short_some hs') (fun v hv => by obtain ⟨u, e⟩ := PyProof.V.Flat.str_inv hv; subst e; exact h u) hs hg
theorem get_short {x : Str} {t : Tok} {Q : Value → Shared → Prop} (T : StrTab prog w s.heap d shortD) (hs' : inShort x = true) (h : ∀ u, Q (.str (shortOf x) u) { s with toks := s.toks + 1 }) :
    wpAny (model prog w) A (getItem (.ref d) (.str x t)) Q E s :=
  getItem_tab PyProof.V.same_str (strKind_is prog w x t) T (short_some hs') (fun v hv => by obtain ⟨u, e⟩ := PyProof.V.Flat.str_inv hv; subst e; exact h u)
end
theorem okS {qt : Str} {q : Int} {sg : Str} (h : SgOk q sg) (hs : inShort sg = true) : okPc qt (triple (shortOf sg) (shortOf sg) sg) ∧ sg.length ≤ 2 := by
  rcases h with ⟨_, rfl⟩ | ⟨_, rfl⟩ | ⟨_, rfl⟩ | ⟨_, rfl⟩ | ⟨_, rfl⟩ | ⟨_, rfl⟩ | ⟨_, rfl⟩ | ⟨_, rfl⟩ | ⟨_, rfl⟩ | ⟨_, rfl⟩ | ⟨_, rfl⟩ | ⟨_, rfl⟩ <;> first | exact ⟨okT (by decide +kernel), by decide +kernel⟩ | exact absurd hs (by decide +kernel)
end Mine
end
section
open PySem PySem.W PyProof.Rows PySem.Calls
namespace Mine
def lawFd : Stmt := (PySem.Challenge.pw_bl0001_01.main.body).getLast?.getD (.Pass default)
def lawScope : Scope := match lawFd with | .FunctionDef _ _ _ _ _ _ sc _ _ _ => sc | _ => { kind := .function, names := [], isGenerator := false, isCoroutine := false, more := [] }
def lawBody : List Stmt := match lawFd with | .FunctionDef _ _ b _ _ _ _ _ _ _ => b | _ => []
def loop1 : List Stmt := match lawBody.drop 5 with | .For _ _ b _ _ :: _ => b | _ => []
def if1 : Stmt := (loop1[3]?).getD (.Pass default)
def els : Stmt → Stmt | .If _ _ [e] _ => e | s => s
def if2 := els if1
def if3 := els if2
def if4 := els if3
def if5 := els if4
/-- a thing that the walk leaves alone -/
def Held (P : Prop) : Prop := P
/-- the frame of law while a turn of loop 1 goes -/
abbrev fm (l : Addr) (qt : Str) (t2 : Tok) (q : Int) (tq : Tok) (sg : Str) (ts : Tok) (hw : Int) (th : Tok) (m0 : Str → Option Value) : Str → Option Value := fun y =>
  if y = Str.ofString "how" then some (.int hw th) else if y = Str.ofString "sign" then some (.str sg ts) else if y = Str.ofString "q" then some (.int q tq) else if y = Str.ofString "parts" then some (.ref l) else if y = Str.ofString "quote" then some (.str qt t2) else m0 y
abbrev sto5 : List Str := [Str.ofString "q", Str.ofString "sign", Str.ofString "how", Str.ofString "piece", Str.ofString "full"]
abbrev pairO (a b : Str) (ta tb : Tok) : Obj := { cls := .type "tuple", data := .seq #[.str a ta, .str b tb] }
/-- a turn's If is done -/
def Done (h₀ : Heap) (L l : Addr) (us : Array Value) (n : Nat) (rest : List (Addr × Obj)) (qt : Str) (m : Str → Option Value) (s s' : Shared) : Prop :=
  ∃ (a b v : Str) (ta tb tv : Tok) (tp : Addr) (h : Heap) (tk : Nat) (m' : Str → Option Value), (okPc qt (triple a b v) ∧ v.length ≤ 2) ∧ s' = { s with heap := h, toks := tk } ∧ Fr h₀ L h m' ∧ News h₀ L h ((tp, pairO a b ta tb) :: (l, listOf (us.push (.ref tp)) (n + 1)) :: rest) ∧
    (l < tp ∧ AllLt tp rest) ∧ m' (Str.ofString "sign") = some (.str v tv) ∧ ∀ y, sto5.contains y = false → m' y = m y
theorem mkD {h₀ : Heap} {L l : Addr} {us : Array Value} {n : Nat} {rest : List (Addr × Obj)} {qt : Str} {m : Str → Option Value} {s : Shared} {a b v : Str} {ta tb tv : Tok} {tp : Addr} {h : Heap} {tk : Nat} {m' : Str → Option Value} {nw : List (Addr × Obj)}
    (F : Fr h₀ L h m') (N : News h₀ L h nw) (i1 : (tp, pairO a b ta tb) ∈ nw) (i2 : (l, listOf (us.push (.ref tp)) (n + 1)) ∈ nw) (i3 : ∀ p ∈ rest, p ∈ nw) (lt : l < tp ∧ AllLt tp rest) (j : m' (Str.ofString "sign") = some (.str v tv)) (j2 : ∀ y, sto5.contains y = false → m' y = m y)
    (ok : okPc qt (triple a b v) ∧ v.length ≤ 2) : Done h₀ L l us n rest qt m s { s with heap := h, toks := tk } :=
  ⟨a, b, v, ta, tb, tv, tp, h, tk, m', ok, rfl, F, List.forall_mem_cons.mpr ⟨N _ i1, List.forall_mem_cons.mpr ⟨N _ i2, fun p hp => N p (i3 p hp)⟩⟩, lt, j, j2⟩
def TurnC (w : World) (st : Stmt) : Prop :=
  ∀ (mean : ExcName → Option Value) (mg mb : Str → Option Value) (dp un : Nat) (gd : Option (List Code)) (a : Addr) (ccd : Value) (outer : List Env) (A₀ : Around) (base h₀ : Heap) (L : Addr) (m0 : Str → Option Value) (s : Shared) (l : Addr) (us : Array Value) (n : Nat) (rest : List (Addr × Obj)) (qt : Str) (t2 : Tok) (q : Int) (tq : Tok) (sg : Str) (ts : Tok) (hw : Int) (th : Tok) (P : Shared → Prop) (E : Value → Shared → Prop),
    Below A₀ base outer h₀ → Fr h₀ L s.heap (fm l qt t2 q tq sg ts hw th m0) → (hd.heap_39 w.params).In h₀ → News h₀ L s.heap ((l, listOf us n) :: rest) → Top hd.view_39 LS mean mg mb h₀ → dp < 800 → un < 80 → OwnOff rest [l] → us.size ≤ 100 →
    (Txt.item qt 0 = Str.ofString "'" ∨ Txt.item qt 0 = Str.ofString "\"") ∧ ((0 : Nat) : Int) < (qt.length : Int) ∧ qt.length ≤ 3 → SgOk q sg → 0 ≤ q ∧ q < 840 → 0 ≤ hw ∧ hw < 6 →
    (∀ s', Done h₀ L l us n rest qt (fm l qt t2 q tq sg ts hw th m0) s s' → P s') →
    wpAny (model PySem.Challenge.rw_bl0001_01.row.prog w) (ktrTop dp un gd (Str.ofString "law") lawScope L a ccd [] outer) (exec st (envX (Str.ofString "law") lawScope L a ccd [])) (fun f s' => match f with | .next => Held (P s') | _ => False) E s
theorem ifB {M : Model} {A : Around} {E : Value → Shared → Prop} {s : Shared} {env : Env} {test : Expr} {body orelse : List Stmt} {pos : Pos} {Q : Flow → Shared → Prop} {h₀ : Heap} {L : Addr} {m : Str → Option Value} {news : List (Addr × Obj)} (C : Bool → Prop)
    (h1 : ∀ P : Bool → Shared → Prop, (∀ b h tk, C b → Fr h₀ L h m → News h₀ L h news → P b { s with heap := h, toks := tk }) → wpAny M A (isTrue test env (eval test env)) (fun b s' => Held (P b s')) E s)
    (h2 : ∀ h tk, C true → Fr h₀ L h m → News h₀ L h news → wpAny M A (execs body env) Q E { s with heap := h, toks := tk })
    (h3 : ∀ h tk, C false → Fr h₀ L h m → News h₀ L h news → wpAny M A (execs orelse env) Q E { s with heap := h, toks := tk }) : wpAny M A (exec (.If test body orelse pos) env) Q E s := fun Γ p hΓ => by
  simp only [exec_If, Sem.wp_bind', Sem.wp_cmd_standAt]
  refine Sem.wp_mono M Γ _ (fun b p₂ s₂ h₂ => ?_) (fun _ _ _ h' => h') _ _ (h1 (fun b s' => if b then wpAny M A (execs body env) Q E s' else wpAny M A (execs orelse env) Q E s') (fun b h tk c f n => ?_) Γ _ hΓ)
  · cases b <;> exact h₂ Γ p₂ hΓ
  · cases b
    · exact h3 h tk c f n
    · exact h2 h tk c f n
theorem oneSt {M : Model} {A : Around} {E : Value → Shared → Prop} {s : Shared} {env : Env} {st : Stmt} {P : Shared → Prop} (h : wpAny M A (exec st env) (fun f s' => match f with | .next => Held (P s') | _ => False) E s) :
    wpAny M A (execs [st] env) (fun f s' => match f with | .next => Held (P s') | _ => False) E s :=
  wpAny_execs_cons (wpAny_mono h (fun f s' h => by cases f <;> first | exact wpAny_execs_nil h | exact h.elim) fun _ _ x => x)
/-- the first sign of the quote -/
theorem lit_q {prog : Program} {w : World} {A : Around} {E : Value → Shared → Prop} {s : Shared} {value slice : Expr} {x c d : Str} {t u : Tok} {Q : Value → Shared → Prop} (hi : (Txt.item x 0 = c ∨ Txt.item x 0 = d) ∧ ((0 : Nat) : Int) < (x.length : Int) ∧ x.length ≤ 3)
    (h : Q (.str (Txt.item x 0) s.toks) { s with toks := s.toks + 1 })
    (hs : subscripted slice false (.str x t) (.int 0 u) = PySem.operate [.str x t, .int 0 u] (getItem (.str x t) (.int 0 u)) := by with_unfolding_all rfl)
    (ht : ∀ r, letTemporaryGo value (.str x t) r = pure () := by intro _; with_unfolding_all rfl) : wpAny (model prog w) A (subscriptTail value slice (.str x t) (.int 0 u)) Q E s :=
  item_str (by decide) (by omega) (by omega) (fun _ => h) hs ht
local macro_rules | `(tactic| walk_at "call ref") => `(tactic| (k_here; (with_reducible show wpAny _ _ (call (Value.ref 79) [Value.int _ _] []) _ _ _); k_dflt (refine' wpAny_call (oct_K _ _ _ _ _ _ _ _ _ _ _ _ _ _ _ _ _ _ _ _ _ _ _ ?kB ?kF ?kX ?kN ?kT ?kk ?kd ?ku ?k0 ?k1 ?_); (case kk => exact rfl); (case kB => k_asm); (case kF => k_asm); (case kX => k_asm); (case kN => k_asm); (case kT => k_asm); (case kd => omega); (case ku => omega); (case k0 => omega); (case k1 => omega); k_whole); intro h' tk' v' u' e' F' N'; (have lv' := octLen e' (by omega) (by omega)); (try dsimp only); (try k_sweep)))
local macro_rules | `(tactic| walk_at "call ref") => `(tactic| (k_here; (with_reducible show wpAny _ _ (call (Value.ref 65) _ _) _ _ _); k_dflt (refine' wpAny_call (short_K _ _ _ _ _ _ _ _ _ _ _ _ _ _ _ _ _ _ _ _ _ ?kB ?kF ?kX ?kN ?kT ?kk ?kd ?ku ?_); (case kk => exact rfl); (case kB => k_asm); (case kF => k_asm); (case kX => k_asm); (case kN => k_asm); (case kT => k_asm); (case kd => omega); (case ku => omega); k_whole); intro h' tk' d' o' t0 t1 t2 t3 t4 t5 t6 t7 t8 t9 t10 t11 F' N' l1 lo' hd'; (have fp' := shortFlat t0 t1 t2 t3 t4 t5 t6 t7 t8 t9 t10 t11); (try k_lt l1); (try dsimp only); (try k_sweep)))
local macro_rules | `(tactic| walk_at "compareOp In str ref") => `(tactic| (k_here; (with_reducible show wpAny _ _ (compareOp CmpOp.In (Value.str _ _) (Value.ref _)) _ _ _); k_dflt (refine' in_short ?k1 ?_; (case k1 => k_tabat); k_whole)))
local macro_rules | `(tactic| walk_at "subscriptTail") => `(tactic| (k_here; (with_reducible show wpAny _ _ (subscriptTail _ _ (Value.ref _) (Value.str _ _)) _ _ _); k_dflt (refine' item_short ?k1 ?k2 ?_; (case k1 => k_tabat); (case k2 => assumption); k_whole); intro u'))
local macro_rules | `(tactic| walk_at "getItem ref str") => `(tactic| (k_here; k_dflt (refine' get_short ?k1 ?k2 ?_; (case k1 => k_tabat); (case k2 => assumption); k_whole); intro u'))
local macro_rules | `(tactic| walk_at "subscriptTail Name Constant str int") => `(tactic| (k_here; k_dflt (refine' lit_q ?hi ?_; (case hi => assumption); k_whole)))
theorem okB5 {qt : Str} {sg : Str} (h : sg = Str.ofString "\\") : okPc qt (triple (bsl sg) (bsl sg) sg) ∧ sg.length ≤ 2 := okB h (.inl rfl)
theorem okB6 {qt : Str} {sg : Str} {X : Prop} (h : sg = Txt.item qt 0) (hq : (Txt.item qt 0 = Str.ofString "'" ∨ Txt.item qt 0 = Str.ofString "\"") ∧ X) : okPc qt (triple (bsl sg) (bsl sg) sg) ∧ sg.length ≤ 2 := okB h (.inr hq.1)
local macro_rules | `(tactic| walk_at "newTuple") => `(tactic| (k_here; k_dflt (refine' kup_newTuple ?F ?N ?_ ?z; (case F => k_asm); (case N => k_asm); (case z => kmk_size)); intro D' h' F' N' l1; (try k_lt l1); (try k_sweep)))
set_option maxRecDepth 100000 in
set_option maxHeartbeats 8000000 in
theorem if5_K (w : World) : TurnC w if5 := by
  unfold TurnC
  k_fill
  intro mean mg mb dp un gd a ccd outer A₀ base h₀ L m0 s l us n rest qt t2 q tq sg ts hw th P E B F X N T hd hu hoff hus hqt hsg hq hhw hP
  conv in (occs := *) if5 => all_goals whnf
  conv in (occs := *) lawScope => all_goals whnf
  obtain ⟨hsl, hsc⟩ := sgLen hsg
  k_fold
  k_steps
  all_goals exact hP _ (mkD (by assumption) (by assumption) (by exact List.Mem.head _) (by repeat first | exact List.Mem.head _ | apply List.Mem.tail) (fun p hp => by repeat first | exact hp | apply List.Mem.tail) (by assumption) (by first | rfl | with_unfolding_all rfl)
    (fun y hy => by obtain ⟨n1, n2, n3, n4, n5⟩ := sto_ne hy; simp only [n1, n2, n3, n4, n5, if_false])
    (by first | with_reducible exact okB5 (eq_of_beq (by assumption)) | with_reducible exact okB6 (eq_of_beq (by assumption)) hqt | with_reducible exact okW hsg (strNe (by assumption)) rfl (strNe (by assumption))))
set_option maxRecDepth 100000 in
set_option maxHeartbeats 8000000 in
theorem if4_K (w : World) : TurnC w if4 := by
  unfold TurnC
  k_fill
  intro mean mg mb dp un gd a ccd outer A₀ base h₀ L m0 s l us n rest qt t2 q tq sg ts hw th P E B F X N T hd hu hoff hus hqt hsg hq hhw hP
  conv in (occs := *) if4 => all_goals whnf
  conv in (occs := *) lawScope => all_goals whnf
  obtain ⟨hsl, hsc⟩ := sgLen hsg
  refine ifB (h₀ := h₀) (L := L) (m := fm l qt t2 q tq sg ts hw th m0) (news := (l, listOf us n) :: rest) (fun b => True) ?_ ?_ ?_
  · intro P9 hP9
    k_fold
    k_steps
    all_goals exact hP9 _ _ _ (by exact trivial) (by assumption) (fun p hp => (by assumption : News _ _ _ _) p (by repeat first | exact hp | apply List.Mem.tail))
  · intro h5 tk5 hC F5 N5
    clear F N
    k_fold
    k_steps
    all_goals exact hP _ (mkD (by assumption) (by assumption) (by exact List.Mem.head _) (by repeat first | exact List.Mem.head _ | apply List.Mem.tail) (fun p hp => by repeat first | exact hp | apply List.Mem.tail) (by assumption) (by first | rfl | with_unfolding_all rfl)
    (fun y hy => by obtain ⟨n1, n2, n3, n4, n5⟩ := sto_ne hy; simp only [n1, n2, n3, n4, n5, if_false])
    (by with_reducible exact okH hsg))
  · intro h5 tk5 hC F5 N5
    exact oneSt (if5_K w mean mg mb dp un gd a ccd outer A₀ base h₀ L m0 _ l us n rest qt t2 q tq sg ts hw th P E B F5 X N5 T hd hu hoff hus hqt hsg hq hhw (fun s' h => hP s' h))
set_option maxRecDepth 100000 in
set_option maxHeartbeats 8000000 in
theorem if3_K (w : World) : TurnC w if3 := by
  unfold TurnC
  k_fill
  intro mean mg mb dp un gd a ccd outer A₀ base h₀ L m0 s l us n rest qt t2 q tq sg ts hw th P E B F X N T hd hu hoff hus hqt hsg hq hhw hP
  conv in (occs := *) if3 => all_goals whnf
  conv in (occs := *) lawScope => all_goals whnf
  obtain ⟨hsl, hsc⟩ := sgLen hsg
  refine ifB (h₀ := h₀) (L := L) (m := fm l qt t2 q tq sg ts hw th m0) (news := (l, listOf us n) :: rest) (fun b => True) ?_ ?_ ?_
  · intro P9 hP9
    k_fold
    k_steps
    all_goals exact hP9 _ _ _ (by exact trivial) (by assumption) (fun p hp => (by assumption : News _ _ _ _) p (by repeat first | exact hp | apply List.Mem.tail))
  · intro h5 tk5 hC F5 N5
    clear F N
    k_fold
    k_steps
    all_goals exact hP _ (mkD (by assumption) (by assumption) (by exact List.Mem.head _) (by repeat first | exact List.Mem.head _ | apply List.Mem.tail) (fun p hp => by repeat first | exact hp | apply List.Mem.tail) (by assumption) (by first | rfl | with_unfolding_all rfl)
    (fun y hy => by obtain ⟨n1, n2, n3, n4, n5⟩ := sto_ne hy; simp only [n1, n2, n3, n4, n5, if_false])
    (by first | with_reducible exact okO1 hsg (by assumption) | with_reducible exact okO2 hsg (by assumption)))
  · intro h5 tk5 hC F5 N5
    exact oneSt (if4_K w mean mg mb dp un gd a ccd outer A₀ base h₀ L m0 _ l us n rest qt t2 q tq sg ts hw th P E B F5 X N5 T hd hu hoff hus hqt hsg hq hhw (fun s' h => hP s' h))
set_option maxRecDepth 100000 in
set_option maxHeartbeats 8000000 in
theorem if2_K (w : World) : TurnC w if2 := by
  unfold TurnC
  k_fill
  intro mean mg mb dp un gd a ccd outer A₀ base h₀ L m0 s l us n rest qt t2 q tq sg ts hw th P E B F X N T hd hu hoff hus hqt hsg hq hhw hP
  conv in (occs := *) if2 => all_goals whnf
  conv in (occs := *) lawScope => all_goals whnf
  obtain ⟨hsl, hsc⟩ := sgLen hsg
  refine ifB (h₀ := h₀) (L := L) (m := fm l qt t2 q tq sg ts hw th m0) (news := (l, listOf us n) :: rest) (fun b => b = true → inShort sg = true) ?_ ?_ ?_
  · intro P9 hP9
    k_fold
    k_steps
    all_goals exact hP9 _ _ _ (by first | assumption | (intro _; assumption) | (intro h; exact absurd h (by decide)) | simp_all) (by assumption) (fun p hp => (by assumption : News _ _ _ _) p (by repeat first | exact hp | apply List.Mem.tail))
  · intro h5 tk5 hC F5 N5
    clear F N
    specialize hC rfl
    k_fold
    k_steps
    all_goals exact hP _ (mkD (by assumption) (by assumption) (by exact List.Mem.head _) (by repeat first | exact List.Mem.head _ | apply List.Mem.tail) (fun p hp => by repeat first | exact hp | apply List.Mem.tail) (by first | assumption | exact (show _ ∧ l < _ ∧ AllLt _ _ by assumption).2 | exact (show _ ∧ _ ∧ l < _ ∧ AllLt _ _ by assumption).2.2) (by first | rfl | with_unfolding_all rfl)
    (fun y hy => by obtain ⟨n1, n2, n3, n4, n5⟩ := sto_ne hy; simp only [n1, n2, n3, n4, n5, if_false])
    (by with_reducible exact okS hsg hC))
  · intro h5 tk5 hC F5 N5
    exact oneSt (if3_K w mean mg mb dp un gd a ccd outer A₀ base h₀ L m0 _ l us n rest qt t2 q tq sg ts hw th P E B F5 X N5 T hd hu hoff hus hqt hsg hq hhw (fun s' h => hP s' h))
set_option maxRecDepth 100000 in
set_option maxHeartbeats 8000000 in
theorem if1_K (w : World) : TurnC w if1 := by
  unfold TurnC
  k_fill
  intro mean mg mb dp un gd a ccd outer A₀ base h₀ L m0 s l us n rest qt t2 q tq sg ts hw th P E B F X N T hd hu hoff hus hqt hsg hq hhw hP
  conv in (occs := *) if1 => all_goals whnf
  conv in (occs := *) lawScope => all_goals whnf
  obtain ⟨hsl, hsc⟩ := sgLen hsg
  refine ifB (h₀ := h₀) (L := L) (m := fm l qt t2 q tq sg ts hw th m0) (news := (l, listOf us n) :: rest) (fun b => True) ?_ ?_ ?_
  · intro P9 hP9
    k_fold
    k_steps
    all_goals exact hP9 _ _ _ (by exact trivial) (by assumption) (fun p hp => (by assumption : News _ _ _ _) p (by repeat first | exact hp | apply List.Mem.tail))
  · intro h5 tk5 hC F5 N5
    clear F N
    k_fold
    k_steps
    all_goals exact hP _ (mkD (by assumption) (by assumption) (by exact List.Mem.head _) (by repeat first | exact List.Mem.head _ | apply List.Mem.tail) (fun p hp => by repeat first | exact hp | apply List.Mem.tail) (by assumption) (by first | rfl | with_unfolding_all rfl)
    (fun y hy => by obtain ⟨n1, n2, n3, n4, n5⟩ := sto_ne hy; simp only [n1, n2, n3, n4, n5, if_false])
    (by with_reducible exact okK))
  · intro h5 tk5 hC F5 N5
    exact oneSt (if2_K w mean mg mb dp un gd a ccd outer A₀ base h₀ L m0 _ l us n rest qt t2 q tq sg ts hw th P E B F5 X N5 T hd hu hoff hus hqt hsg hq hhw (fun s' h => hP s' h))
end Mine
end
section
open PySem PySem.W PyProof.Rows PySem.Calls
namespace Mine
/-- one statement, what it leaves named by letters -/
theorem asg {α : Type} {M : Model} {A : Around} {E : Value → Shared → Prop} {s : Shared} {env : Env} {st : Stmt} {rest : List Stmt} {Q : Flow → Shared → Prop} {h₀ : Heap} {L : Addr} {news : List (Addr × Obj)} (m' : α → Str → Option Value) (C : α → Prop)
    (h1 : ∀ (P : Shared → Prop) (E' : Value → Shared → Prop), (∀ a h tk, C a → Fr h₀ L h (m' a) → News h₀ L h news → P { s with heap := h, toks := tk }) → wpAny M A (exec st env) (fun f s' => match f with | .next => Held (P s') | _ => False) E' s)
    (h2 : ∀ a h tk, C a → Fr h₀ L h (m' a) → News h₀ L h news → wpAny M A (execs rest env) Q E { s with heap := h, toks := tk }) : wpAny M A (execs (st :: rest) env) Q E s :=
  wpAny_execs_cons (wpAny_mono (h1 (fun s' => wpAny M A (execs rest env) Q E s') E h2) (fun f s' h => by cases f <;> first | exact h | exact h.elim) fun _ _ x => x)
theorem fr_put {h₀ h : Heap} {L : Addr} {m : Str → Option Value} {x : Str} {v : Option Value} (F : Fr h₀ L h m) (e : m x = v) : Fr h₀ L h (fun y => if y = x then v else m y) := by
  have e' : m = (fun y => if y = x then v else m y) := by
    funext y
    by_cases a : y = x
    · rw [if_pos a, a, e]
    · rw [if_neg a]
  exact e' ▸ F
abbrev m1 (text : Str) (tT : Tok) (N : Int) (tN : Tok) (l : Addr) (qt : Str) (t2 : Tok) (m₁ : Str → Option Value) : Str → Option Value := fun y =>
  if y = Str.ofString "parts" then some (.ref l) else if y = Str.ofString "quote" then some (.str qt t2) else if y = Str.ofString "text" then some (.str text tT) else if y = Str.ofString "n" then some (.int N tN) else m₁ y
local macro_rules | `(tactic| walk_at "call ref") => `(tactic| (k_here; k_dflt (refine wpAny_call ?_; ktr_enter)))
set_option maxRecDepth 100000 in
set_option maxHeartbeats 8000000 in
theorem turn1_K (w : World) : ∀ (mean : ExcName → Option Value) (mg mb : Str → Option Value) (dp un : Nat) (gd : Option (List Code)) (a : Addr) (ccd : Value) (outer : List Env) (A₀ : Around) (base h₀ : Heap) (L : Addr) (m₁ : Str → Option Value) (s : Shared) (l : Addr) (us : Array Value) (nS : Nat) (rest : List (Addr × Obj)) (qt : Str) (t2 : Tok) (N : Int) (tN : Tok) (text : Str) (tT : Tok) (Q : Flow → Shared → Prop) (E : Value → Shared → Prop)
    (_ : Below A₀ base outer h₀) (F : Fr h₀ L s.heap (m1 text tT N tN l qt t2 m₁)) (X : (Mine.hd.heap_39 w.params).In h₀) (NN : News h₀ L s.heap ((l, listOf us nS) :: rest)) (T : Top Mine.hd.view_39 LS mean mg mb h₀) (hd : dp < 800) (hu : un < 80) (hoff : OwnOff rest [l]) (hus : us.size ≤ 100)
    (hqt : (Txt.item qt 0 = Str.ofString "'" ∨ Txt.item qt 0 = Str.ofString "\"") ∧ ((0 : Nat) : Int) < (qt.length : Int) ∧ qt.length ≤ 3) (htext : text.length ≤ 1000)
    (hQ : ∀ (a b v : Str) (ta tb tt : Tok) (tp : Addr) (h : Heap) (tk : Nat) (m' : Str → Option Value), (okPc qt (triple a b v) ∧ v.length ≤ 2) → Fr h₀ L h m' → News h₀ L h ((tp, pairO a b ta tb) :: (l, listOf (us.push (.ref tp)) (nS + 1)) :: rest) → (l < tp ∧ AllLt tp rest) →
      m' (Str.ofString "text") = some (.str (text ++ v) tt) → (∀ y, sto5.contains y = false → y ≠ Str.ofString "text" → m' y = m1 text tT N tN l qt t2 m₁ y) → Q .next { s with heap := h, toks := tk })  ,
    wpAny (model PySem.Challenge.rw_bl0001_01.row.prog w) (ktrTop dp un gd (Str.ofString "law") lawScope L a ccd [] outer) (execs loop1 (envX (Str.ofString "law") lawScope L a ccd [])) Q E s := by
  k_fill
  intro mean mg mb dp un gd a ccd outer A₀ base h₀ L m₁ s l us nS rest qt t2 N tN text tT Q E B F X NN T hd hu hoff hus hqt htext hQ
  have hkS : lawScope.kind = .function := rfl
  conv in (occs := *) loop1 => all_goals whnf
  conv in (occs := *) lawScope => all_goals whnf
  refine asg (h₀ := h₀) (L := L) (news := (l, listOf us nS) :: rest) (α := Int × Tok) (fun p y => if y = Str.ofString "q" then some (.int p.1 p.2) else m1 text tT N tN l qt t2 m₁ y) (fun p => 0 ≤ p.1 ∧ p.1 < 840) ?_ ?_
  · intro P9 E9 hP9
    k_fold
    k_steps
    all_goals exact hP9 (_, _) _ _ ⟨Int.fmod_nonneg_of_pos _ (by decide), Int.fmod_lt_of_pos _ (by decide)⟩ (by assumption) (by assumption)
  clear F NN
  rintro ⟨q, tq⟩ h5 tk5 hq F NN
  dsimp only at hq F
  refine asg (h₀ := h₀) (L := L) (news := (l, listOf us nS) :: rest) (α := Str × Tok) (fun p y => if y = Str.ofString "sign" then some (.str p.1 p.2) else if y = Str.ofString "q" then some (.int q tq) else m1 text tT N tN l qt t2 m₁ y) (fun p => SgOk q p.1) ?_ ?_
  · intro P9 E9 hP9
    k_fold
    k_steps
    (rename News _ _ _ _ => kN)
    exact hP9 (_, _) _ _ (sgOk hq.1) (by assumption) (fun p hp => kN p (.tail _ hp))
  clear F NN
  rintro ⟨sg, ts⟩ h6 tk6 hsg F NN
  dsimp only at hsg F
  refine asg (h₀ := h₀) (L := L) (news := (l, listOf us nS) :: rest) (α := Int × Tok) (fun p y => if y = Str.ofString "how" then some (.int p.1 p.2) else if y = Str.ofString "sign" then some (.str sg ts) else if y = Str.ofString "q" then some (.int q tq) else m1 text tT N tN l qt t2 m₁ y) (fun p => 0 ≤ p.1 ∧ p.1 < 6) ?_ ?_
  · intro P9 E9 hP9
    k_fold
    k_steps
    all_goals exact hP9 (_, _) _ _ ⟨Int.fmod_nonneg_of_pos _ (by decide), Int.fmod_lt_of_pos _ (by decide)⟩ (by assumption) (by assumption)
  clear F NN
  rintro ⟨hw, th⟩ h7 tk7 hhw F NN
  dsimp only at hhw F
  refine wpAny_execs_cons (wpAny_mono (if1_K w mean mg mb dp un gd a ccd outer A₀ base h₀ L (fun y => if y = Str.ofString "text" then some (.str text tT) else if y = Str.ofString "n" then some (.int N tN) else m₁ y) _ l us nS rest qt t2 q tq sg ts hw th _ E B F X NN T hd hu hoff hus hqt hsg hq hhw (fun s' h => h)) (fun f s' h => ?_) fun _ _ x => x)
  cases f <;> first | exact h.elim | skip
  obtain ⟨a8, b8, v8, ta8, tb8, tv8, tp8, h8, tk8, m8, ⟨hok, hv⟩, rfl, F8, N8, hlt, j1, j2⟩ := h
  clear F NN
  have F := fr_put (fr_put F8 j1) (show (fun y => if y = Str.ofString "sign" then some (.str v8 tv8) else m8 y) (Str.ofString "text") = some (.str text tT) from by
    show (if Str.ofString "text" = Str.ofString "sign" then some (.str v8 tv8) else m8 (Str.ofString "text")) = _
    rw [if_neg (by decide +kernel), j2 _ (by decide +kernel)]; rfl)
  clear F8
  show wpAny _ _ _ _ _ _
  k_steps
  exact hQ a8 b8 v8 ta8 tb8 _ tp8 _ _ _ ⟨hok, hv⟩ (by assumption) (by assumption) hlt rfl (fun y hy ht => by
    obtain ⟨n1, n2, n3, n4, n5⟩ := sto_ne hy
    have := j2 y hy
    simp only [fm, m1, n1, n2, n3, ht, if_false] at this ⊢
    exact this)
end Mine
end
section
open PySem PySem.W PyProof.Rows PySem.Calls
namespace Mine
def for1 : Stmt := match lawBody.drop 5 with | f :: _ => f | _ => .Pass default
abbrev mI (A : Addr) (text : Str) (tT : Tok) (l : Addr) (qt : Str) (t2 : Tok) (m₀ : Str → Option Value) : Str → Option Value := fun y =>
  if y = Str.ofString "script" then some (.ref A) else if y = Str.ofString "parts" then some (.ref l) else if y = Str.ofString "quote" then some (.str qt t2) else if y = Str.ofString "text" then some (.str text tT) else m₀ y
abbrev sto7 : List Str := [Str.ofString "q", Str.ofString "sign", Str.ofString "how", Str.ofString "piece", Str.ofString "full", Str.ofString "text", Str.ofString "n"]
theorem sto_57 {y : Str} (h : sto7.contains y = false) : sto5.contains y = false ∧ y ≠ Str.ofString "text" ∧ y ≠ Str.ofString "n" := by
  have h' : ∀ z ∈ sto7, y ≠ z := by
    intro z hz e
    subst e
    have : sto7.contains y = true := List.contains_iff_mem.mpr hz
    rw [h] at this; cases this
  refine ⟨?_, h' _ (by simp), h' _ (by simp)⟩
  rw [Bool.eq_false_iff]
  intro q
  have := List.contains_iff_mem.mp q
  have m : y ∈ sto7 := by simp only [sto5, sto7, List.mem_cons, List.mem_nil_iff, or_false] at this ⊢; rcases this with h | h | h | h | h <;> simp [h]
  exact h' y m rfl
theorem lt_of {d : Addr} : ∀ {z : List (Addr × Obj)}, AllLt d z → ∀ p ∈ z, p.1 < d
  | [], _, p, hp => nomatch hp
  | q :: z, h, p, hp => by
    rcases List.mem_cons.mp hp with rfl | hp
    · exact h.1
    · exact lt_of h.2 p hp
/-- between the turns of loop 1 -/
def J1 (qt : Str) (sp : Int) (l : Addr) (il : Addr × Obj) (m₀ : Str → Option Value) (pre : List Int) (m : Str → Option Value) (nx : List (Addr × Obj)) : Prop :=
  ∃ (text : Str) (tT : Tok) (us : List Value) (nS : Nat) (tl : List (Addr × Obj)) (parts : List Dat), nx = (l, listOf us.toArray nS) :: il :: tl ∧ OwnOff tl [l] ∧ DatAll tl us parts ∧ P1 qt sp pre text parts ∧ m (Str.ofString "text") = some (.str text tT) ∧ ∀ y, sto7.contains y = false → m y = m₀ y
theorem J1.step {h₀ : Heap} {L : Addr} {qt : Str} {sp : Int} {l : Addr} {il : Addr × Obj} {m₀ m' : Str → Option Value} {pre : List Int} {n : Int} {text a b v : Str} {ta tb tt : Tok} {us : List Value} {nS : Nat} {tl own : List (Addr × Obj)} {parts : List Dat} {s : Shared} {h : Heap} {tk : Nat} {tp : Addr}
    (hil : il.1 ≠ l) (hown : OwnOff own (((l, listOf us.toArray nS) :: il :: tl).map (·.1))) (htl : OwnOff tl [l]) (hd : DatAll tl us parts) (hp : P1 qt sp pre text parts) (hok : okPc qt (triple a b v) ∧ v.length ≤ 2)
    (F : Fr h₀ L h m') (N : News h₀ L h ((tp, pairO a b ta tb) :: (l, listOf (us.toArray.push (.ref tp)) (nS + 1)) :: (il :: (tl ++ own)))) (hlt : l < tp ∧ AllLt tp (il :: (tl ++ own))) (j : m' (Str.ofString "text") = some (.str (text ++ v) tt)) (j2 : ∀ y, sto7.contains y = false → m' y = m₀ y) :
    InvEndG h₀ L (fun m' nx => il ∈ nx ∧ J1 qt sp l il m₀ (pre ++ [n]) m' nx) own s { s with heap := h, toks := tk } := by
  have lts := lt_of hlt.2
  have es : us.toArray.push (Value.ref tp) = (us ++ [Value.ref tp]).toArray := by simp
  rw [es] at N
  refine InvEndG.intro (nx := (l, listOf (us ++ [Value.ref tp]).toArray (nS + 1)) :: il :: (tp, pairO a b ta tb) :: tl) F N ?_ ?_ ?_ ?_
  · refine ⟨.tail _ (.head _), text ++ v, tt, _, _, _, _, rfl, ?_, ?_, step1 hp.1 hp.2.1 hp.2.2 hok.1 hok.2, j, j2⟩
    · intro p hp' c hc
      rcases List.mem_cons.mp hp' with rfl | hp'
      · rw [List.mem_singleton.mp hc]; exact fun e => absurd hlt.1 (by show ¬ (l < tp); rw [show tp = l from e]; exact Nat.lt_irrefl _)
      · exact htl p hp' c hc
    · exact DatAll.append (hd.mono fun _ h => .tail _ h) (.one (.tuple (vs := [.str a ta, .str b tb]) (.head _) (.cons (.str _ _) (.cons (.str _ _) .nil))))
  · intro p hp' c hc
    simp only [List.map_cons, List.mem_cons] at hc
    rcases hc with rfl | rfl | rfl | hc
    · exact hown p hp' _ (by simp)
    · exact hown p hp' _ (by simp)
    · exact Nat.ne_of_lt (lts p (.tail _ (List.mem_append_right _ hp')))
    · exact hown p hp' _ (by simp only [List.map_cons, List.mem_cons]; exact .inr (.inr hc))
  · intro p hp'
    rcases List.mem_cons.mp hp' with rfl | hp'
    · exact .tail _ (.head _)
    rcases List.mem_cons.mp hp' with rfl | hp'
    · exact .tail _ (.tail _ (.head _))
    rcases List.mem_cons.mp hp' with rfl | hp'
    · exact .head _
    · exact .tail _ (.tail _ (.tail _ (List.mem_append_left _ hp')))
  · exact fun p hp' => .tail _ (.tail _ (.tail _ (List.mem_append_right _ hp')))
theorem evl {M : Model} {A : Around} {E : Value → Shared → Prop} {s : Shared} {t : Sem Value} {P : Value → Shared → Prop} (C : Value → Shared → Prop) (h1 : ∀ P' : Value → Shared → Prop, (∀ v s', C v s' → P' v s') → wpAny M A t (fun v s' => Held (P' v s')) E s) (h2 : ∀ v s', C v s' → P v s') : wpAny M A t P E s := h1 P h2
def It1 (h₀ : Heap) (L l : Addr) (m : Str → Option Value) (news : List (Addr × Obj)) (s : Shared) (v : Value) (s' : Shared) : Prop :=
  ∃ li vsi ni ns h tk, v = .ref li ∧ s' = { s with heap := h, toks := tk } ∧ IntsAre vsi ns ∧ ns.length ≤ 20 ∧ l < li ∧ Fr h₀ L h m ∧ News h₀ L h ((li, listOf vsi.toArray ni) :: news)
local macro_rules | `(tactic| walk_at "call ref") => `(tactic| (k_here; k_dflt (refine wpAny_call ?_; ktr_enter)))
set_option maxRecDepth 100000 in
set_option maxHeartbeats 8000000 in
theorem loop1_K (w : World) : ∀ (mean : ExcName → Option Value) (mg mb : Str → Option Value) (dp un : Nat) (gd : Option (List Code)) (a : Addr) (ccd : Value) (outer : List Env) (A₀ : Around) (base h₀ : Heap) (L : Addr) (m₀ : Str → Option Value) (s : Shared) (l : Addr) (us₀ : List Value) (n₀ : Nat) (own₀ : List (Addr × Obj)) (qt : Str) (t2 : Tok) (sp : Int) (tT : Tok) (A : Addr) (vs : List Value) (xs : List Int) (Q : Flow → Shared → Prop) (E : Value → Shared → Prop)
    (_ : Below A₀ base outer h₀) (_ : Fr h₀ L s.heap (mI A (Str.ofString "") tT l qt t2 m₀)) (_ : (Mine.hd.heap_39 w.params).In h₀) (_ : News h₀ L s.heap ((l, listOf us₀.toArray n₀) :: own₀)) (_ : Top Mine.hd.view_39 LS mean mg mb h₀) (_ : dp < 800) (_ : un < 80) (_ : AllLt l own₀) (_ : DatAll own₀ us₀ (d0 sp))
    (_ : h₀.IsList A vs.toArray) (_ : IntsAre vs xs) (_ : xs.length ≤ 63) (_ : (Txt.item qt 0 = Str.ofString "'" ∨ Txt.item qt 0 = Str.ofString "\"") ∧ ((0 : Nat) : Int) < (qt.length : Int) ∧ qt.length ≤ 3)
    (_ : PassesOwn (model PySem.Challenge.rw_bl0001_01.row.prog w) (ktrTop dp un gd (Str.ofString "law") lawScope L a ccd [] outer) (envX (Str.ofString "law") lawScope L a ccd []) E)
    (_ : ∀ (ns : List Int) (text : Str) (tT' : Tok) (us : List Value) (nS : Nat) (tl : List (Addr × Obj)) (parts : List Dat) (h : Heap) (tk : Nat) (m : Str → Option Value), P1 qt sp ns text parts → ns.length ≤ 20 → Fr h₀ L h m → News h₀ L h ((l, listOf us.toArray nS) :: tl) → OwnOff tl [l] → DatAll tl us parts →
      m (Str.ofString "text") = some (.str text tT') → (∀ y, sto7.contains y = false → m y = mI A (Str.ofString "") tT l qt t2 m₀ y) → Q .next { s with heap := h, toks := tk }),
    wpAny (model PySem.Challenge.rw_bl0001_01.row.prog w) (ktrTop dp un gd (Str.ofString "law") lawScope L a ccd [] outer) (exec for1 (envX (Str.ofString "law") lawScope L a ccd [])) Q E s := by
  k_fill
  intro mean mg mb dp un gd a ccd outer A₀ base h₀ L m₀ s l us₀ n₀ own₀ qt t2 sp tT A vs xs Q E B F X N T hd hu hoff hdat hL hI hxs hqt hE hQ
  have hkS : lawScope.kind = .function := rfl
  conv in (occs := *) for1 => all_goals whnf
  refine For_invVF F rfl rfl ?_ (by intro _; rfl) hE
  refine evl (It1 h₀ L l (mI A (Str.ofString "") tT l qt t2 m₀) ((l, listOf us₀.toArray n₀) :: own₀) s) (fun P9 hP9 => ?_) (fun v s' hC => ?_)
  · conv in (occs := *) lawScope => all_goals whnf
    k_fold
    k_steps
    · (rename (List.length _ = _) => qc); (rename (_ ∧ AllLt _ own₀) => ql)
      exact hP9 _ _ ⟨_, _, _, _, _, _, rfl, rfl, by assumption, by rw [qc]; omega, ql.1, by assumption, by assumption⟩
    · (rename (_ ∧ _ ∧ AllLt _ own₀) => ql); (rename News _ _ _ _ => kN)
      exact hP9 _ _ ⟨_, _, _, [3, 14, 25, 36, 47, 9], _, _, rfl, rfl, .cons _ _ (.cons _ _ (.cons _ _ (.cons _ _ (.cons _ _ (.cons _ _ .nil))))), by decide, ql.2.1, by assumption, fun p hp => kN p (by
        rcases List.mem_cons.mp hp with e | hp
        · exact e ▸ .head _
        · exact .tail _ (.tail _ hp))⟩
  obtain ⟨li, vsi, ni, ns, h5, tk5, rfl, rfl, hIi, hns, hlt, F5, N5⟩ := hC
  clear F N
  refine kdl_iter (nn := ni) (vs := vsi) (news := (l, listOf us₀.toArray n₀) :: (li, listOf vsi.toArray ni) :: own₀) (fun i m nx => J1 qt sp l (li, listOf vsi.toArray ni) (mI A (Str.ofString "") tT l qt t2 m₀) (ns.take i) m nx) rfl (.tail _ (.head _)) F5 ?_ ?_ ?_ ?_
  · intro p hp
    refine N5 p ?_
    rcases List.mem_cons.mp hp with rfl | hp
    · exact .tail _ (.head _)
    rcases List.mem_cons.mp hp with rfl | hp
    · exact .head _
    · exact .tail _ (.tail _ hp)
  · refine ⟨Str.ofString "", tT, us₀, n₀, own₀, d0 sp, rfl, ?_, hdat, ?_, rfl, fun _ _ => rfl⟩
    · intro p hp c hc
      rw [List.mem_singleton.mp hc]
      exact Nat.ne_of_lt (lt_of hoff p hp)
    · rw [List.take_zero]; exact start0 qt sp
  · intro i v m₁ news₁ h tk own hv hown hil hJ F₁ N₁
    obtain ⟨n, t, rfl, hn⟩ := hIi.at i v hv
    obtain ⟨text, tT', us, nS, tl, parts, rfl, htl, hd', hp, j, j2⟩ := hJ
    have hs : ns.take (i + 1) = ns.take i ++ [n] := by simp [List.take_add_one, hn]
    have hl : (ns.take i).length ≤ 20 := by rw [List.length_take]; omega
    have hx : ∀ z : Str, z ≠ Str.ofString "n" → ∀ u, m₁ z = u → (if z = Str.ofString "n" then some (Value.int n t) else m₁ z) = u := fun z hz u e => by rw [if_neg hz, e]
    have F2 := fr_put (x := Str.ofString "text") (v := some (.str text tT')) F₁ (hx _ (by decide +kernel) _ j)
    have F3 := fr_put (x := Str.ofString "quote") (v := some (.str qt t2)) F2 (by
      show (if Str.ofString "quote" = Str.ofString "text" then _ else _) = _
      rw [if_neg (by decide +kernel)]; exact hx _ (by decide +kernel) _ (by rw [j2 _ (by decide +kernel)]; rfl))
    have F4 := fr_put (x := Str.ofString "parts") (v := some (.ref l)) F3 (by
      show (if Str.ofString "parts" = Str.ofString "quote" then _ else if Str.ofString "parts" = Str.ofString "text" then _ else _) = _
      rw [if_neg (by decide +kernel), if_neg (by decide +kernel)]; exact hx _ (by decide +kernel) _ (by rw [j2 _ (by decide +kernel)]; rfl))
    have hne : li ≠ l := Nat.ne_of_gt hlt
    dsimp only
    rw [hs]
    refine turn1_K w mean mg mb dp un gd a ccd outer A₀ base h₀ L m₁ _ l us.toArray nS ((li, listOf vsi.toArray ni) :: (tl ++ own)) qt t2 n t text tT' _ E B F4 X N₁ T hd hu ?_ ?_ hqt ?_ ?_
    · intro p hp c hc
      rw [List.mem_singleton.mp hc]
      rcases List.mem_cons.mp hp with rfl | hp
      · exact hne
      rcases List.mem_append.mp hp with hp | hp
      · exact htl p hp l (.head _)
      · exact hown p hp l (by simp)
    · have := hd'.length; have := hp.2.1; simp only [List.size_toArray]; omega
    · have := hp.1; omega
    · intro a' b' v' ta tb tt tp h' tk' m' hok F' N' hlt' j' j2'
      show InvEndG _ _ _ _ _ _
      refine J1.step (ta := ta) (tb := tb) (tt := tt) hne hown htl hd' hp hok F' N' hlt' j' (fun y hy => ?_)
      obtain ⟨s1, s2, s3⟩ := sto_57 hy
      rw [j2' y s1 s2]
      have := j2 y hy
      by_cases a1 : y = Str.ofString "parts"
      · subst a1; rfl
      by_cases a2 : y = Str.ofString "quote"
      · subst a2; rfl
      simp only [m1, a1, a2, s2, s3, if_false]
      exact this
  · intro m₁ news₁ h tk hJ F₁ N₁
    obtain ⟨text, tT', us, nS, tl, parts, rfl, htl, hd', hp, j, j2⟩ := hJ
    have hl : ns.take vsi.length = ns := List.take_of_length_le (by rw [hIi.length]; exact Nat.le_refl _)
    rw [hl] at hp
    refine hQ ns text tT' us nS ((li, listOf vsi.toArray ni) :: tl) parts h tk m₁ hp hns F₁ N₁ ?_ (hd'.mono fun _ h => .tail _ h) j j2
    intro p hp c hc
    rcases List.mem_cons.mp hp with rfl | hp
    · rw [List.mem_singleton.mp hc]; exact Nat.ne_of_gt hlt
    · exact htl p hp c hc
end Mine
end
section
open PySem PySem.W PyProof.Rows PySem.Calls
namespace Mine
def for2 : Stmt := match lawBody.drop 7 with | f :: _ => f | _ => .Pass default
def loop2 : List Stmt := match for2 with | .For _ _ b _ _ => b | _ => []
abbrev m2 (W : Str) (tW : Tok) (K : Int) (tK : Tok) (l : Addr) (m₁ : Str → Option Value) : Str → Option Value := fun y =>
  if y = Str.ofString "written" then some (.str W tW) else if y = Str.ofString "parts" then some (.ref l) else if y = Str.ofString "k" then some (.int K tK) else m₁ y
theorem list_at {prog : Program} {w : World} {A : Around} {E : Value → Shared → Prop} {s : Shared} {value slice : Expr} {h₀ : Heap} {L l : Addr} {us : Array Value} {n : Nat} {news : List (Addr × Obj)} {k : Int} {u : Tok} {v : Value} {Q : Value → Shared → Prop}
    (N : News h₀ L s.heap ((l, listOf us n) :: news)) (h0 : 0 ≤ k ∧ k < 100000) (hx : us[k.toNat]? = some v) (h : Q v s)
    (hs : subscripted slice false (.ref l) (.int k u) = operate [.ref l, .int k u] (getItem (.ref l) (.int k u)) := by with_unfolding_all rfl) :
    wpAny (model prog w) A (subscriptTail value slice (.ref l) (.int k u)) Q E s :=
  have hl : s.heap.IsList l us := ⟨_, (N _ (.head _)).1, rfl, n, rfl⟩
  tail_any hl.typeIs slot_list_getitem.lookup (wpAny_getItem_list hl h0.1 (by omega) hx h) hs
def dig : List Nat → Bool
  | c :: _ => octal c
  | [] => false
theorem item_head {W : Str} {c : Nat} {r : List Nat} (h : W.cps.toList = c :: r) : Txt.item W 0 = ⟨#[c]⟩ := by
  have hl : 0 < W.length := by rw [len_list, h]; simp
  have hg : W.cps[0]? = some c := by rw [← Array.getElem?_toList, h]; rfl
  have hi : seqIndex? 0 W.length = some 0 := by
    unfold seqIndex?
    simp; omega
  unfold Txt.item
  rw [show Txt.charAt W 0 = some c from by unfold Txt.charAt; rw [hi]; exact hg]
  rfl
theorem dig_some {W : Str} {b : Bool} (hp : 1 ≤ W.length) (ho : (PySem.Builtin.Str.occurrences (Str.ofString "01234567") (Txt.item W 0) 0 (Str.ofString "01234567").length 1).isEmpty = b) : dig W.cps.toList = !b := by
  cases hw : W.cps.toList with
  | nil => rw [len_list, hw] at hp; simp at hp
  | cons c r =>
    rw [item_head hw] at ho
    have := StrLaws.found_one (Str.ofString "01234567") c
    rw [ho] at this
    rw [this]
    show octal c = decide (c ∈ (Str.ofString "01234567").cps.toList)
    have e : (Str.ofString "01234567").cps.toList = [48, 49, 50, 51, 52, 53, 54, 55] := by decide +kernel
    rw [e, Bool.eq_iff_iff, decide_eq_true_eq]
    unfold octal
    simp only [Bool.and_eq_true, decide_eq_true_eq, List.mem_cons, List.mem_nil_iff, or_false]
    omega
theorem dig_none {W : Str} (h : (W != Str.ofString "") = false) : dig W.cps.toList = false := by
  have : W = Str.ofString "" := by simpa using h
  rw [this]; rfl
theorem pick_list {W x y : Str} {b : Bool} (h : dig W.cps.toList = b) : ((if b then y else x) ++ W).cps.toList = (if dig W.cps.toList then y.cps.toList else x.cps.toList) ++ W.cps.toList := by
  rw [h, cps_app]; cases b <;> rfl
theorem len_at {prog : Program} {w : World} {A : Around} {E : Value → Shared → Prop} {s : Shared} {h₀ : Heap} {L l : Addr} {us : List Value} {k n : Nat} {news : List (Addr × Obj)} {Q : Value → Shared → Prop} (N : News h₀ L s.heap ((l, listOf us.toArray n) :: news)) (hl : us.length = k) (hs : k ≤ 100000) (h : Q (.int (k : Nat) (s.toks + 1)) { s with toks := s.toks + 1 + 1 }) :
    wpAny (model prog w) A (call (.builtin "len") [.ref l]) Q E s :=
  PyProof.Rows.len_list ⟨_, (N _ (.head _)).1, rfl, n, rfl⟩ (by simp only [List.size_toArray]; omega) (by simp only [List.size_toArray, hl]; exact h)
local macro_rules | `(tactic| walk_at "call builtin:len") => `(tactic| (k_here; k_dflt (refine' len_at ?k1 ?k2 ?k3 ?_; (case k1 => k_asm); (case k2 => assumption); (case k3 => omega); k_whole)))
local macro_rules | `(tactic| walk_at "subscriptTail") => `(tactic| (k_here; (with_reducible show wpAny _ _ (subscriptTail _ _ (Value.ref _) (Value.int _ _)) _ _ _); k_dflt (refine' list_at ?k1 ?k2 ?k3 ?_ ?k4; (case k1 => k_asm); (case k2 => assumption); (case k3 => assumption); (case k4 => with_unfolding_all rfl); k_whole)))
local macro_rules | `(tactic| k_mem) => `(tactic| assumption)
set_option maxRecDepth 100000 in
set_option maxHeartbeats 8000000 in
theorem turn2_K (w : World) : ∀ (mean : ExcName → Option Value) (mg mb : Str → Option Value) (dp un : Nat) (gd : Option (List Code)) (a : Addr) (ccd : Value) (outer : List Env) (A₀ : Around) (base h₀ : Heap) (L : Addr) (m₁ : Str → Option Value) (s : Shared) (l : Addr) (us : Array Value) (nS : Nat) (rest : List (Addr × Obj)) (W : Str) (tW : Tok) (K : Int) (tK : Tok) (x y : Str) (tx ty : Tok) (p : Addr) (np : Nat) (Q : Flow → Shared → Prop) (E : Value → Shared → Prop)
    (_ : Below A₀ base outer h₀) (_ : Fr h₀ L s.heap (m2 W tW K tK l m₁)) (_ : (Mine.hd.heap_39 w.params).In h₀) (_ : News h₀ L s.heap ((l, listOf us nS) :: rest)) (_ : Top Mine.hd.view_39 LS mean mg mb h₀) (_ : dp < 800) (_ : un < 80)
    (_ : 0 ≤ K ∧ K < 100000) (_ : us[K.toNat]? = some (.ref p)) (_ : (p, ({ cls := .type "tuple", data := .seq #[.str x tx, .str y ty] np } : Obj)) ∈ rest) (_ : W.length ≤ 1000) (_ : x.length ≤ 4) (_ : y.length ≤ 4)
    (_ : ∀ (W' : Str) (t' : Tok) (h : Heap) (tk : Nat) (m' : Str → Option Value), Fr h₀ L h m' → News h₀ L h ((l, listOf us nS) :: rest) → m' (Str.ofString "written") = some (.str W' t') → (∀ z, z ≠ Str.ofString "written" → m' z = m2 W tW K tK l m₁ z) → W'.cps.toList = (if dig W.cps.toList then y.cps.toList else x.cps.toList) ++ W.cps.toList → Q .next { s with heap := h, toks := tk }),
    wpAny (model PySem.Challenge.rw_bl0001_01.row.prog w) (ktrTop dp un gd (Str.ofString "law") lawScope L a ccd [] outer) (execs loop2 (envX (Str.ofString "law") lawScope L a ccd [])) Q E s := by
  k_fill
  intro mean mg mb dp un gd a ccd outer A₀ base h₀ L m₁ s l us nS rest W tW K tK x y tx ty p np Q E B F X N T hd hu hK hus hp hW hx hy hQ
  have hkS : lawScope.kind = .function := rfl
  conv in (occs := *) loop2 => all_goals whnf
  conv in (occs := *) lawScope => all_goals whnf
  k_steps
  all_goals exact hQ _ _ _ _ _ (by assumption) (by assumption) rfl (fun z h => if_neg h) (by first | exact pick_list (b := false) (dig_none (by assumption)) | exact pick_list (b := true) (dig_some (b := false) (by assumption) (by assumption)) | exact pick_list (b := false) (dig_some (b := true) (by assumption) (by assumption)))
def wr : List (List Nat × List Nat) → List Nat → List Nat
  | [], t => t
  | p :: ps, t => (if dig (wr ps t) then p.2 else p.1) ++ wr ps t
theorem wr_len : ∀ {ps : List (List Nat × List Nat)} {t : List Nat}, (∀ p ∈ ps, p.1.length ≤ 4 ∧ p.2.length ≤ 4) → (wr ps t).length ≤ 4 * ps.length + t.length
  | [], t, _ => by simp [wr]
  | p :: ps, t, h => by
    have ih := wr_len (ps := ps) (t := t) fun q hq => h q (.tail _ hq)
    have hp := h p (.head _)
    unfold wr
    rw [List.length_append, List.length_cons]
    split <;> omega
abbrev datP (p : List Nat × List Nat) : Dat := Dat.tuple [.str ⟨p.1.toArray⟩, .str ⟨p.2.toArray⟩]
section
variable {prog : Program} {w : World} {A : Around} {E : Value → Shared → Prop} {s : Shared} {env : Env} {h₀ : Heap} {x : Str} {body : List Stmt} {Q : Flow → Shared → Prop}
theorem down_iter {r : Addr} {a₀ b₀ : Int} {t₀ u₀ v₀ : Tok} {n : Nat} {m₀ : Str → Option Value} {news : List (Addr × Obj)} (J : Nat → (Str → Option Value) → List (Addr × Obj) → Prop)
    (hh : A.handled = none) (hr : IsRange s.heap r a₀ b₀ (-1) t₀ u₀ v₀) (hsmall : PySem.Builtin.Range.small a₀ b₀ (-1) = true) (hn : PySem.Builtin.Range.rangeSize a₀ b₀ (-1) = (n : Int)) (F : Fr h₀ env.locals s.heap m₀) (N : News h₀ env.locals s.heap news) (hj : J 0 m₀ news)
    (turn : ∀ i t m₁ nx h tk own, i < n → OwnOff own (nx.map (·.1)) → J i m₁ nx → Fr h₀ env.locals h (fun y => if y = x then some (.int (a₀ - (i : Int)) t) else m₁ y) → News h₀ env.locals h (nx ++ own) →
      wpAny (model prog w) A (execs body env) (InvPostG h₀ env.locals (J (i + 1)) own { s with heap := h, toks := tk } Q) E { s with heap := h, toks := tk })
    (done : ∀ m₁ nx h tk, J n m₁ nx → Fr h₀ env.locals h m₁ → News h₀ env.locals h nx → Q .next { s with heap := h, toks := tk }) :
    wpAny (model prog w) A (pyIter (.ref r)) (fun it s₂ => LoopAtV prog w A h₀ env x body Q E it s₂) E s := by
  refine wpAny_pyIter_range hr hsmall ?_
  have W : Walks prog w A s.heap.objs.size [s.heap.objs.size] [s.heap.objs.size] n (fun i v => i < n ∧ ∃ t, v = .int (a₀ + i * (-1)) t)
      (fun i h => IsRangeIter h s.heap.objs.size (a₀ + (i : Nat) * (-1)) ((n : Int) - (i : Nat)) (-1)) := (Walks.range hh _ a₀ (-1) n).bound
  refine kdr_loop J W (fun _ h => h) (fun _ h => h) ?_ ?_ ?_ ?_ (by show IsRangeIter _ _ _ _ _; rw [hn]; simpa using Heap.get?_push_size _ rfl) (F.push _) (fun p hp => ⟨Heap.get?_push_of_some _ (N p hp).1, (N p hp).2⟩) hj ?_ ?_
  · intro i h hi b hb
    rw [List.mem_singleton.mp hb]
    exact ⟨_, hi⟩
  · intro hm
    exact absurd F.ns.lt ((List.mem_singleton.mp hm) ▸ Nat.lt_irrefl _)
  · intro b hb
    rw [List.mem_singleton.mp hb]
    exact next_is_new F
  · intro p hp hI
    exact absurd (Heap.lt_size (N p hp).1) ((List.mem_singleton.mp hI) ▸ Nat.lt_irrefl _)
  · rintro i v m₁ nx h tk own hi ⟨_, t, rfl⟩ hoff hJ F₁ N₁
    have e1 : a₀ + (i : Int) * (-1) = a₀ - (i : Int) := by omega
    rw [e1] at F₁
    exact turn i t m₁ nx h tk own hi hoff hJ F₁ N₁
  · exact fun m₁ nx h tk hJ F₁ N₁ => done m₁ nx h tk hJ F₁ N₁
end
abbrev mJ (W : Str) (tW : Tok) (l : Addr) (m₀ : Str → Option Value) : Str → Option Value := fun y =>
  if y = Str.ofString "written" then some (.str W tW) else if y = Str.ofString "parts" then some (.ref l) else m₀ y
def It2 (h₀ : Heap) (L : Addr) (m : Str → Option Value) (news : List (Addr × Obj)) (n : Nat) (s : Shared) (v : Value) (s' : Shared) : Prop :=
  ∃ r a t₀ u₀ v₀ h tk, v = .ref r ∧ s' = { s with heap := h, toks := tk } ∧ a = (n : Int) - 1 ∧ IsRange h r a (-1) (-1) t₀ u₀ v₀ ∧ Fr h₀ L h m ∧ News h₀ L h news
set_option maxRecDepth 100000 in
set_option maxHeartbeats 8000000 in
theorem loop2_K (w : World) : ∀ (mean : ExcName → Option Value) (mg mb : Str → Option Value) (dp un : Nat) (gd : Option (List Code)) (a : Addr) (ccd : Value) (outer : List Env) (A₀ : Around) (base h₀ : Heap) (L : Addr) (m₀ : Str → Option Value) (s : Shared) (l : Addr) (us : List Value) (nS : Nat) (tl : List (Addr × Obj)) (W : Str) (tW : Tok) (PS : List (List Nat × List Nat)) (Q : Flow → Shared → Prop) (E : Value → Shared → Prop)
    (_ : Below A₀ base outer h₀) (_ : Fr h₀ L s.heap (mJ W tW l m₀)) (_ : (Mine.hd.heap_39 w.params).In h₀) (_ : News h₀ L s.heap ((l, listOf us.toArray nS) :: tl)) (_ : Top Mine.hd.view_39 LS mean mg mb h₀) (_ : dp < 800) (_ : un < 80)
    (_ : PS.length ≤ 21) (_ : DatAll tl us (PS.map datP)) (_ : ∀ p ∈ PS, p.1.length ≤ 4 ∧ p.2.length ≤ 4) (_ : W.length ≤ 3)
    (_ : PassesOwn (model PySem.Challenge.rw_bl0001_01.row.prog w) (ktrTop dp un gd (Str.ofString "law") lawScope L a ccd [] outer) (envX (Str.ofString "law") lawScope L a ccd []) E)
    (_ : ∀ (W' : Str) (t' : Tok) (h : Heap) (tk : Nat) (m : Str → Option Value), W'.cps.toList = wr PS W.cps.toList → Fr h₀ L h m → News h₀ L h ((l, listOf us.toArray nS) :: tl) → m (Str.ofString "written") = some (.str W' t') → (∀ y, y ≠ Str.ofString "written" → y ≠ Str.ofString "k" → m y = mJ W tW l m₀ y) → Q .next { s with heap := h, toks := tk }),
    wpAny (model PySem.Challenge.rw_bl0001_01.row.prog w) (ktrTop dp un gd (Str.ofString "law") lawScope L a ccd [] outer) (exec for2 (envX (Str.ofString "law") lawScope L a ccd [])) Q E s := by
  k_fill
  intro mean mg mb dp un gd a ccd outer A₀ base h₀ L m₀ s l us nS tl W tW PS Q E B F X N T hd hu hPS hdat hPl hW hE hQ
  have hkS : lawScope.kind = .function := rfl
  have hlen : us.length = PS.length := by rw [hdat.length, List.length_map]
  conv in (occs := *) for2 => all_goals whnf
  refine For_invVF F rfl rfl ?_ (by intro _; rfl) hE
  refine evl (It2 h₀ L (mJ W tW l m₀) ((l, listOf us.toArray nS) :: tl) PS.length s) (fun P9 hP9 => ?_) (fun v s' hC => ?_)
  · conv in (occs := *) lawScope => all_goals whnf
    k_fold
    k_steps
    exact hP9 _ _ ⟨_, _, _, _, _, _, _, rfl, rfl, rfl, by assumption, by assumption, by assumption⟩
  obtain ⟨r, a1, t₀, u₀, v₀, h5, tk5, rfl, rfl, rfl, hr, F5, N5⟩ := hC
  clear F N
  refine down_iter (n := PS.length) (news := (l, listOf us.toArray nS) :: tl) (fun i m nx => nx = (l, listOf us.toArray nS) :: tl ∧ ∃ (W' : Str) (t' : Tok), m (Str.ofString "written") = some (.str W' t') ∧ W'.cps.toList = wr (PS.drop (PS.length - i)) W.cps.toList ∧ ∀ y, y ≠ Str.ofString "written" → y ≠ Str.ofString "k" → m y = mJ W tW l m₀ y)
    rfl hr (small_down (by omega) (by omega) (by omega) (by omega)) (by rw [rangeSize_downNat]; omega) F5 N5 ⟨rfl, W, tW, rfl, ?_, fun _ _ _ => rfl⟩ ?_ ?_
  · rw [Nat.sub_zero, List.drop_length]; rfl
  · rintro i t m₁ nx h tk own hi hown ⟨rfl, W', t', j, hw, j2⟩ F₁ N₁
    have hk : PS.length - (i + 1) < PS.length := by omega
    obtain ⟨v, hv, hd'⟩ := hdat.get (k := PS.length - (i + 1)) (by rw [List.length_map]; exact hk)
    rw [List.getElem_map] at hd'
    have hp4 := hPl _ (List.getElem_mem hk)
    have hdrop : PS.drop (PS.length - (i + 1)) = PS[PS.length - (i + 1)] :: PS.drop (PS.length - i) := by
      rw [List.drop_eq_getElem_cons hk, show PS.length - (i + 1) + 1 = PS.length - i by omega]
    have hl' : W'.length ≤ 1000 := by
      have := wr_len (ps := PS.drop (PS.length - i)) (t := W.cps.toList) fun q hq => hPl q (List.mem_of_mem_drop hq)
      rw [← hw, ← len_list, ← len_list, List.length_drop] at this
      omega
    generalize PS[PS.length - (i + 1)] = pp at hd' hp4 hdrop
    obtain ⟨px, py⟩ := pp
    cases hd' with
    | @tuple ap vs np _ hm hds =>
    cases hds with
    | @cons v1 vs1 _ _ h1 hds =>
    cases hds with
    | @cons v2 vs2 _ _ h2 hds =>
    cases hds
    cases h1 with
    | str _ tx =>
    cases h2 with
    | str _ ty =>
    have hx : ∀ z : Str, z ≠ Str.ofString "k" → ∀ u, m₁ z = u → (if z = Str.ofString "k" then some (Value.int ((PS.length : Int) - 1 - (i : Int)) t) else m₁ z) = u := fun z hz u e => by rw [if_neg hz, e]
    have F2 := fr_put (x := Str.ofString "parts") (v := some (.ref l)) F₁ (hx _ (by decide +kernel) _ (by rw [j2 _ (by decide +kernel) (by decide +kernel)]; rfl))
    have F3 := fr_put (x := Str.ofString "written") (v := some (.str W' t')) F2 (by
      show (if Str.ofString "written" = Str.ofString "parts" then _ else _) = _
      rw [if_neg (by decide +kernel)]; exact hx _ (by decide +kernel) _ j)
    refine turn2_K w mean mg mb dp un gd a ccd outer A₀ base h₀ L m₁ _ l us.toArray nS (tl ++ own) W' t' ((PS.length : Int) - 1 - (i : Int)) t ⟨px.toArray⟩ ⟨py.toArray⟩ tx ty ap np _ E B F3 X N₁ T hd hu (by omega) ?_ (List.mem_append_left _ hm) hl' (by simpa [PySem.Str.length] using hp4.1) (by simpa [PySem.Str.length] using hp4.2) ?_
    · rw [show ((PS.length : Int) - 1 - (i : Int)).toNat = PS.length - (i + 1) by omega]
      simpa using hv
    · intro W2 t2 h' tk' m' F' N' j' j2' hw2
      show InvEndG _ _ _ _ _ _
      refine InvEndG.intro (nx := (l, listOf us.toArray nS) :: tl) F' N' ⟨rfl, W2, t2, j', ?_, fun y y1 y2 => ?_⟩ hown (fun p hp => List.mem_append_left own hp) (fun p hp => List.mem_append_right ((l, listOf us.toArray nS) :: tl) hp)
      · rw [hw2, hw, hdrop]; rfl
      · rw [j2' y y1]
        have := j2 y y1 y2
        by_cases a1 : y = Str.ofString "parts"
        · subst a1; rfl
        simp only [m2, a1, y1, y2, if_false]
        exact this
  · rintro m₁ nx h tk ⟨rfl, W', t', j, hw, j2⟩ F₁ N₁
    rw [Nat.sub_self, List.drop_zero] at hw
    exact hQ W' t' h tk m₁ hw F₁ N₁ j j2
end Mine
end
section
open PySem PySem.W PyProof.Rows PySem.Calls
namespace Mine
abbrev Ent := List Nat × List Nat × List Nat
/-- is the word one that the pattern takes, what follows it being a figure of 0 .. 7 or not -/
def chk (w : List Nat) (d : Bool) : Bool := match w with
  | [92, c] => c == 39 || c == 34 || c == 92 || (c != 39 && c != 34 && c != 92 && inCs c) || (octal c && !d)
  | 92 :: c :: ds => if c == 120 then ds.length == 2 && ds.all (· != 10) else (c :: ds).all octal && (ds.length == 2 || (ds.length == 1 && !d))
  | _ => false
theorem dig_false {r : List Nat} (h : dig r = false) : r = [] ∨ ∃ c r', r = c :: r' ∧ octal c = false := by
  cases r with
  | nil => exact .inl rfl
  | cons c r => exact .inr ⟨c, r, rfl, h⟩
theorem chk_ok {w r : List Nat} {d : Bool} (h : chk w d = true) (hd : dig r = d) : TokOk w r := by
  unfold chk at h
  split at h
  · rename_i c
    simp only [Bool.or_eq_true, beq_iff_eq, Bool.and_eq_true, bne_iff_ne, ne_eq, Bool.not_eq_true'] at h
    rcases h with (((h | h) | h) | h) | h
    · exact .quote c r (.inl h)
    · exact .quote c r (.inr (.inl h))
    · exact .quote c r (.inr (.inr (.inl h)))
    · exact .quote c r (.inr (.inr (.inr ⟨h.1.1.1, h.1.1.2, h.1.2, h.2⟩)))
    · refine .oct c [] r (by simp) (fun x hx => by rw [List.mem_singleton.mp hx]; exact h.1) (.inr ?_)
      exact dig_false (hd.trans h.2)
  · rename_i c ds _
    split at h
    · rename_i hc
      have hc : c = 120 := by simpa using hc
      subst hc
      simp only [Bool.and_eq_true, beq_iff_eq, List.all_eq_true, bne_iff_ne, ne_eq] at h
      exact .hex ds r (by omega) h.2 (.inl h.1)
    · simp only [Bool.and_eq_true, Bool.or_eq_true, beq_iff_eq, Bool.not_eq_true'] at h
      obtain ⟨h1, h2⟩ := h
      refine .oct c ds r (by rcases h2 with h2 | h2 <;> omega) (fun x hx => List.all_eq_true.mp h1 x hx) ?_
      rcases h2 with h2 | ⟨_, h2⟩
      · exact .inl h2
      · exact .inr (dig_false (hd.trans h2))
  · cases h
def skipB (w : List Nat) : Bool := match w with
  | [c] => c != 92
  | [92, c] => kept c
  | _ => false
theorem skip_ok {w : List Nat} (h : skipB w = true) : SkipOk w := by
  unfold skipB at h
  split at h
  · exact .one _ (by simpa using h)
  · exact .two _ h
  · cases h
def wd (e : Ent) (d : Bool) : List Nat := if d then e.2.1 else e.1
def seg (e : Ent) (d : Bool) : Seg := if wd e d = e.2.2 then .raw (wd e d) else .tok (wd e d) (some (ofL e.2.2))
theorem seg_w (e : Ent) (d : Bool) : (seg e d).w = wd e d := by unfold seg; split <;> rfl
def sgs : List Ent → List Seg → List Seg
  | [], T => T
  | e :: es, T => seg e (dig (txt (sgs es T))) :: sgs es T
def pairs (es : List Ent) : List (List Nat × List Nat) := es.map fun e => (e.1, e.2.1)
theorem sgs_txt (T : List Seg) : ∀ es : List Ent, txt (sgs es T) = wr (pairs es) (txt T)
  | [] => rfl
  | e :: es => by
    show (seg e _).w ++ txt (sgs es T) = _
    rw [seg_w, sgs_txt T es]
    rfl
theorem sgs_len (T : List Seg) : ∀ es : List Ent, (sgs es T).length = es.length + T.length
  | [] => by simp [sgs]
  | e :: es => by simp only [sgs, List.length_cons, sgs_len T es]; omega
def escL : List (List Nat × List Nat) := [([92, 97], [7]), ([92, 110], [10]), ([92, 116], [9]), ([92, 39], [39]), ([92, 34], [34]), ([92, 92], [92]), ([92, 49, 52, 49], [97]), ([92, 48, 49, 50], [10]), ([92, 49, 50], [10]), ([92, 48, 54, 55], [55]), ([92, 54, 55], [55]), ([92, 48, 52, 55], [39]), ([92, 52, 55], [39]), ([92, 48, 52, 50], [34]), ([92, 52, 50], [34]), ([92, 49, 51, 52], [92]), ([92, 48, 49, 49], [9]), ([92, 49, 49], [9]), ([92, 48, 48, 48], [0]), ([92, 48], [0]), ([92, 51, 53, 49], [233]), ([92, 48, 48, 55], [7]), ([92, 55], [7]), ([92, 48, 52, 48], [32]), ([92, 52, 48], [32]), ([92, 49, 55, 51], [123]), ([92, 120, 54, 49], [97]), ([92, 120, 48, 97], [10]), ([92, 120, 51, 55], [55]), ([92, 120, 50, 55], [39]), ([92, 120, 50, 50], [34]), ([92, 120, 53, 99], [92]), ([92, 120, 48, 57], [9]), ([92, 120, 48, 48], [0]), ([92, 120, 101, 57], [233]), ([92, 120, 48, 55], [7]), ([92, 120, 50, 48], [32]), ([92, 120, 55, 66], [123])]
theorem escL_ok (w : World) : ∀ p ∈ escL, EscOk w (ofL p.1) (ofL (p.1.drop 1)) (ofL p.2) := by
  unfold escL
  exact List.forall_mem_cons.mpr ⟨esc_a w,  List.forall_mem_cons.mpr ⟨esc_n w,  List.forall_mem_cons.mpr ⟨esc_t w,  List.forall_mem_cons.mpr ⟨esc_u27 w,  List.forall_mem_cons.mpr ⟨esc_u22 w,  List.forall_mem_cons.mpr ⟨esc_u5c w,  List.forall_mem_cons.mpr ⟨esc_141 w,  List.forall_mem_cons.mpr ⟨esc_012 w,  List.forall_mem_cons.mpr ⟨esc_12 w,  List.forall_mem_cons.mpr ⟨esc_067 w,  List.forall_mem_cons.mpr ⟨esc_67 w,  List.forall_mem_cons.mpr ⟨esc_047 w,  List.forall_mem_cons.mpr ⟨esc_47 w,  List.forall_mem_cons.mpr ⟨esc_042 w,  List.forall_mem_cons.mpr ⟨esc_42 w,  List.forall_mem_cons.mpr ⟨esc_134 w,  List.forall_mem_cons.mpr ⟨esc_011 w,  List.forall_mem_cons.mpr ⟨esc_11 w,  List.forall_mem_cons.mpr ⟨esc_000 w,  List.forall_mem_cons.mpr ⟨esc_0 w,  List.forall_mem_cons.mpr ⟨esc_351 w,  List.forall_mem_cons.mpr ⟨esc_007 w,  List.forall_mem_cons.mpr ⟨esc_7 w,  List.forall_mem_cons.mpr ⟨esc_040 w,  List.forall_mem_cons.mpr ⟨esc_40 w,  List.forall_mem_cons.mpr ⟨esc_173 w,  List.forall_mem_cons.mpr ⟨esc_x61 w,  List.forall_mem_cons.mpr ⟨esc_x0a w,  List.forall_mem_cons.mpr ⟨esc_x37 w,  List.forall_mem_cons.mpr ⟨esc_x27 w,  List.forall_mem_cons.mpr ⟨esc_x22 w,  List.forall_mem_cons.mpr ⟨esc_x5c w,  List.forall_mem_cons.mpr ⟨esc_x09 w,  List.forall_mem_cons.mpr ⟨esc_x00 w,  List.forall_mem_cons.mpr ⟨esc_xe9 w,  List.forall_mem_cons.mpr ⟨esc_x07 w,  List.forall_mem_cons.mpr ⟨esc_x20 w,  List.forall_mem_cons.mpr ⟨esc_x7B w, fun _ h => nomatch h⟩⟩⟩⟩⟩⟩⟩⟩⟩⟩⟩⟩⟩⟩⟩⟩⟩⟩⟩⟩⟩⟩⟩⟩⟩⟩⟩⟩⟩⟩⟩⟩⟩⟩⟩⟩⟩⟩
/-- what the table's pieces are -/
theorem tab_ok : ∀ e ∈ tab, ∀ d : Bool, (if wd e d = e.2.2 then skipB (wd e d) = true else chk (wd e d) d = true ∧ escL.contains (wd e d, e.2.2) = true) ∧ (wd e d).head? = some 92 ∧ e.1.length ≤ 4 ∧ e.2.1.length ≤ 4 := by
  decide +kernel
/-- what one piece is, whatever follows -/
theorem pc_ok {qt : Str} {e : Ent} (h : okPc qt e) (d : Bool) : (if wd e d = e.2.2 then skipB (wd e d) = true else chk (wd e d) d = true ∧ escL.contains (wd e d, e.2.2) = true) ∧ e.1.length ≤ 4 ∧ e.2.1.length ≤ 4 ∧ ((wd e d).head? = some 92 ∨ ∃ c, (wd e d).head? = some c ∧ Txt.item qt 0 ≠ ⟨#[c]⟩) := by
  rcases h with h | ⟨c, rfl, hc, hq⟩
  · obtain ⟨h1, h2, h3, h4⟩ := tab_ok e (List.contains_iff_mem.mp h) d
    exact ⟨h1, h3, h4, .inl h2⟩
  · have e1 : wd ([c], [c], [c]) d = [c] := by unfold wd; cases d <;> rfl
    rw [e1]
    exact ⟨by rw [if_pos rfl]; simpa [skipB] using hc, by simp, by simp, .inr ⟨c, rfl, hq⟩⟩
theorem good_sgs {qt : Str} {T : List Seg} (hT : Good T) : ∀ {es : List Ent}, (∀ e ∈ es, okPc qt e) → Good (sgs es T)
  | [], _ => hT
  | e :: es, h => by
    have ih := good_sgs hT (es := es) fun x hx => h x (.tail _ hx)
    have hp := (pc_ok (h e (.head _)) (dig (txt (sgs es T)))).1
    show Good (seg e _ :: sgs es T)
    unfold seg
    split at hp
    · rename_i q; rw [if_pos q]; exact ⟨skip_ok hp, ih⟩
    · rename_i q; rw [if_neg q]; exact ⟨chk_ok hp.1 rfl, ih⟩
theorem esc_sgs {w : World} {qt : Str} {T : List Seg} (hT : EscAll w T) : ∀ {es : List Ent}, (∀ e ∈ es, okPc qt e) → EscAll w (sgs es T)
  | [], _ => hT
  | e :: es, h => by
    have ih := esc_sgs hT (es := es) fun x hx => h x (.tail _ hx)
    have hp := (pc_ok (h e (.head _)) (dig (txt (sgs es T)))).1
    show EscAll w (seg e _ :: sgs es T)
    unfold seg
    split at hp
    · rename_i q; rw [if_pos q]; exact ih
    · rename_i q; rw [if_neg q]; exact ⟨escL_ok w _ (List.contains_iff_mem.mp hp.2), ih⟩
theorem res_sgs {T : List Seg} {t : List Nat} (hT : res T = some t) : ∀ es : List Ent, res (sgs es T) = some (vals es ++ t)
  | [] => hT
  | e :: es => by
    have ih := res_sgs hT es
    show res (seg e _ :: sgs es T) = _
    unfold seg
    split
    · rename_i q
      show (res (sgs es T)).map _ = _
      rw [ih, q]; simp [vals]
    · show (res (sgs es T)).map _ = _
      rw [ih]; simp [vals]
theorem res_none {T : List Seg} (hT : res T = none) : ∀ es : List Ent, res (sgs es T) = none
  | [] => hT
  | e :: es => by
    have ih := res_none hT es
    show res (seg e _ :: sgs es T) = _
    unfold seg
    split <;> (show (res (sgs es T)).map _ = _; rw [ih]; rfl)
/-- the spoilt end -/
def endT (sp : Int) : List Seg := if sp = 2 then [.tok [92, 120, 52] none] else if sp = 3 then [.tok [92, 120] none] else []
def endL (sp : Int) : List Nat := if sp = 2 then [92, 120, 52] else if sp = 3 then [92, 120] else []
def frontE (sp : Int) : List Seg := if sp = 1 then [.tok [92, 120, 103, 49] none] else []
def frontP (sp : Int) : List (List Nat × List Nat) := if sp = 1 then [([92, 120, 103, 49], [92, 120, 103, 49])] else []
def whole (sp : Int) (es : List Ent) : List Seg := frontE sp ++ sgs es (endT sp)
theorem end_txt (sp : Int) : txt (endT sp) = endL sp := by
  unfold endT endL
  split
  · rfl
  · split <;> rfl
theorem whole_txt (sp : Int) (es : List Ent) : txt (whole sp es) = wr (frontP sp ++ pairs es) (endL sp) := by
  unfold whole frontE frontP
  have := sgs_txt (endT sp) es
  rw [end_txt] at this
  split
  · show [92, 120, 103, 49] ++ txt (sgs es (endT sp)) = (if _ then _ else _) ++ wr (pairs es) (endL sp)
    rw [this]
    split <;> rfl
  · exact this
theorem parts_dat (sp : Int) (es : List Ent) : d0 sp ++ pcs es = (frontP sp ++ pairs es).map datP := by
  rw [List.map_append]
  congr 1
  · unfold d0 frontP
    split
    · have e : Str.ofString "\\xg1" = ⟨[92, 120, 103, 49].toArray⟩ := by decide +kernel
      rw [e]; rfl
    · rfl
  · unfold pcs pairs; rw [List.map_map]; rfl
theorem pairs_len {qt : Str} {es : List Ent} (sp : Int) (h : ∀ e ∈ es, okPc qt e) : ∀ p ∈ frontP sp ++ pairs es, p.1.length ≤ 4 ∧ p.2.length ≤ 4 := by
  intro p hp
  rcases List.mem_append.mp hp with hp | hp
  · unfold frontP at hp
    split at hp
    · rw [List.mem_singleton.mp hp]; decide
    · cases hp
  · obtain ⟨e, he, rfl⟩ := List.mem_map.mp hp
    have := pc_ok (h e he) true
    exact ⟨this.2.1, this.2.2.1⟩
theorem good_end (sp : Int) : Good (endT sp) := by
  unfold endT
  split
  · exact ⟨.hex [52] [] (by simp) (by simp) (.inr rfl), trivial⟩
  · split
    · exact ⟨.hex [] [] (by simp) (by simp) (.inr rfl), trivial⟩
    · trivial
theorem good_whole {qt : Str} {es : List Ent} (sp : Int) (h : ∀ e ∈ es, okPc qt e) : Good (whole sp es) := by
  have := good_sgs (good_end sp) h
  unfold whole frontE
  split
  · exact ⟨.hex [103, 49] _ (by simp) (by simp) (.inl rfl), this⟩
  · exact this
theorem esc_whole {w : World} {qt : Str} {es : List Ent} (hx : EscBad w (ofL [92, 120, 103, 49]) (ofL [120, 103, 49])) (sp : Int) (h : ∀ e ∈ es, okPc qt e) : EscAll w (whole sp es) := by
  have ht : EscAll w (endT sp) := by
    unfold endT
    split
    · exact esc_bad_x4 w
    · split
      · exact esc_bad_x w
      · trivial
  have := esc_sgs ht h
  unfold whole frontE
  split
  · exact hx
  · exact this
theorem res_bad {sp : Int} (h : sp = 1 ∨ sp = 2 ∨ sp = 3) (es : List Ent) : res (whole sp es) = none := by
  rcases h with rfl | rfl | rfl
  · rfl
  · exact res_none rfl es
  · exact res_none rfl es
theorem res_good {sp : Int} (h1 : sp ≠ 1) (h2 : sp ≠ 2) (h3 : sp ≠ 3) (es : List Ent) : res (whole sp es) = some (vals es) := by
  unfold whole frontE endT
  rw [if_neg h1, if_neg h2, if_neg h3]
  have := res_sgs (T := []) (t := []) rfl es
  rw [List.append_nil] at this
  exact this
theorem head_app {a b : List Nat} {c : Nat} (h : a.head? = some c) : (a ++ b).head? = some c := by cases a <;> simp_all
/-- what is written never opens with the quote's own sign -/
theorem head_whole {qt : Str} {es : List Ent} (sp : Int) (h : ∀ e ∈ es, okPc qt e) {c : Nat} (hq : Txt.item qt 0 = ⟨#[c]⟩) (hc : c ≠ 92) : (txt (whole sp es)).head? ≠ some c := by
  unfold whole frontE
  split
  · intro e
    rw [show txt ([Seg.tok [92, 120, 103, 49] none] ++ sgs es (endT sp)) = 92 :: _ from rfl] at e
    simp at e; exact hc e.symm
  · cases es with
    | nil =>
      show (txt (endT sp)).head? ≠ some c
      rw [end_txt]
      unfold endL
      intro e
      split at e
      · simp at e; exact hc e.symm
      · split at e
        · simp at e; exact hc e.symm
        · simp at e
    | cons e es =>
      intro he
      rw [show txt ([] ++ sgs (e :: es) (endT sp)) = (seg e (dig (txt (sgs es (endT sp))))).w ++ txt (sgs es (endT sp)) from rfl, seg_w] at he
      rcases (pc_ok (h e (.head _)) (dig (txt (sgs es (endT sp))))).2.2.2 with h' | ⟨c', h', hn⟩
      · rw [head_app h'] at he; exact hc (Option.some.inj he).symm
      · rw [head_app h'] at he
        rw [Option.some.inj he] at hn
        exact hn hq
/-- all that evalString's contract asks -/
theorem segs_ok {w : World} {qt W : Str} {es : List Ent} {sp : Int} (hx : EscBad w (ofL [92, 120, 103, 49]) (ofL [120, 103, 49])) (h : ∀ e ∈ es, okPc qt e) (hn : es.length ≤ 20) (hv : (vals es).length ≤ 1000) (hW : W.cps.toList = wr (frontP sp ++ pairs es) (endL sp)) : SegsOk w W (whole sp es) := by
  refine ⟨by rw [hW, whole_txt], good_whole sp h, esc_whole hx sp h, ?_, fun r hr => ?_⟩
  · unfold whole frontE
    rw [List.length_append, sgs_len]
    have : (endT sp).length ≤ 1 := by
      unfold endT
      split
      · simp
      · split <;> simp
    split <;> simp <;> omega
  · by_cases hs : sp = 1 ∨ sp = 2 ∨ sp = 3
    · rw [res_bad hs] at hr; cases hr
    · rw [res_good (fun e => hs (.inl e)) (fun e => hs (.inr (.inl e))) (fun e => hs (.inr (.inr e)))] at hr
      rw [← Option.some.inj hr]; omega
theorem ev_all (w : World) (qt W : Str) (hq : qt = Str.ofString "'" ∨ qt = Str.ofString "\"" ∨ qt = Str.ofString "'''" ∨ qt = Str.ofString "\"\"\"") (hW : ∀ c, Txt.item qt 0 = ⟨#[c]⟩ → c ≠ 92 → W.cps.toList.head? ≠ some c) : EvC w qt W := by
  rcases hq with rfl | rfl | rfl | rfl
  · exact ev_q1 w W (hW 39 (by decide +kernel) (by decide))
  · exact ev_q2 w W (hW 34 (by decide +kernel) (by decide))
  · exact ev_q3 w W
  · exact ev_q4 w W
end Mine
end
section
open PySem PySem.W PyProof.Rows PySem.Calls
namespace Mine
/-- one statement, then the rest, where the caller stands on the stack -/
theorem C.asg {α : Type} {M : Model} {A : Around} {E : Value → Shared → Prop} {s : Shared} {env : Env} {st : Stmt} {rest : List Stmt} {Q : Flow → Shared → Prop} {h₀ : Heap} {L : Addr} {news : List (Addr × Obj)} (m' : α → Str → Option Value) (Cc : α → Prop)
    (h1 : ∀ (P : Shared → Prop) (E' : Value → Shared → Prop), (∀ a h tk, Cc a → Fr h₀ L h (m' a) → News h₀ L h news → P { s with heap := h, toks := tk }) → wpAny M A (exec st env) (fun f s' => match f with | .next => Held (P s') | _ => False) E' s)
    (h2 : ∀ a h tk, Cc a → Fr h₀ L h (m' a) → News h₀ L h news → wpC M A (execs rest env) Q E { s with heap := h, toks := tk }) : wpC M A (execs (st :: rest) env) Q E s :=
  C.execs_cons (C.mono (C.any (h1 (fun s' => wpC M A (execs rest env) Q E s') E h2)) (fun f s' h => by cases f <;> first | exact h | exact h.elim) fun _ _ x => x)
theorem C.mid {M : Model} {A : Around} {E : Value → Shared → Prop} {s : Shared} {env : Env} {st : Stmt} {rest : List Stmt} {Q : Flow → Shared → Prop} (Mid : Shared → Prop)
    (h1 : ∀ (P : Shared → Prop) (E' : Value → Shared → Prop), (∀ s', Mid s' → P s') → wpAny M A (exec st env) (fun f s' => match f with | .next => Held (P s') | _ => False) E' s) (h2 : ∀ s', Mid s' → wpC M A (execs rest env) Q E s') : wpC M A (execs (st :: rest) env) Q E s :=
  C.execs_cons (C.mono (C.any (h1 (fun s' => wpC M A (execs rest env) Q E s') E h2)) (fun f s' h => by cases f <;> first | exact h | exact h.elim) fun _ _ x => x)
def Parts (h₀ : Heap) (L : Addr) (sp : Int) (m : Str → Option Value) (s s' : Shared) : Prop :=
  ∃ l us n own h tk, AllLt l own ∧ DatAll own us (d0 sp) ∧ s' = { s with heap := h, toks := tk } ∧ Fr h₀ L h (fun y => if y = Str.ofString "parts" then some (.ref l) else m y) ∧ News h₀ L h ((l, listOf us.toArray n) :: own)
local macro_rules | `(tactic| walk_at "call ref") => `(tactic| (k_here; k_dflt (refine wpAny_call ?_; ktr_enter)))
abbrev fS (A : Addr) : Str → Option Value := fun y => List.lookup y [(Str.ofString "script", Value.ref A)].reverse
/-- the law up to loop 2 -/
def tail2 : List Stmt := lawBody.drop 8
set_option maxRecDepth 100000 in
set_option maxHeartbeats 8000000 in
theorem front_K (w : World) : ∀ (mean : ExcName → Option Value) (mg mb : Str → Option Value) (dp un : Nat) (gd : Option (List Code)) (a : Addr) (ccd : Value) (outer : List Env) (A₀ : Around) (base h₀ : Heap) (L : Addr) (s : Shared) (A : Addr) (vs : List Value) (xs : List Int) (Q : Flow → Shared → Prop) (E : Value → Shared → Prop)
    (_ : Below A₀ base outer h₀) (_ : Fr h₀ L s.heap (fS A)) (_ : (Mine.hd.heap_39 w.params).In h₀) (_ : News h₀ L s.heap []) (_ : Top Mine.hd.view_39 LS mean mg mb h₀) (_ : dp < 700) (_ : un < 60)
    (_ : h₀.IsList A vs.toArray) (_ : IntsAre vs xs) (_ : xs.length ≤ 63)
    (_ : PassesOwn (model PySem.Challenge.rw_bl0001_01.row.prog w) (ktrTop dp un gd (Str.ofString "law") lawScope L a ccd [] outer) (envX (Str.ofString "law") lawScope L a ccd []) E)
    (_ : ∀ (qt : Str) (t2 : Tok) (sp : Int) (t3 : Tok) (es : List (List Nat × List Nat × List Nat)) (text : Str) (tT : Tok) (W : Str) (tW : Tok) (h : Heap) (tk : Nat) (m : Str → Option Value), (qt = Str.ofString "'" ∨ qt = Str.ofString "\"" ∨ qt = Str.ofString "'''" ∨ qt = Str.ofString "\"\"\"") → (0 ≤ sp ∧ sp < 6) → es.length ≤ 20 → (∀ e ∈ es, okPc qt e) → text.cps.toList = vals es → text.length ≤ 40 → W.cps.toList = wr (frontP sp ++ pairs es) (endL sp) →
      Fr h₀ L h (fun y => if y = Str.ofString "quote" then some (.str qt t2) else if y = Str.ofString "written" then some (.str W tW) else if y = Str.ofString "text" then some (.str text tT) else if y = Str.ofString "spoilt" then some (.int sp t3) else m y) → News h₀ L h [] →
      wpC (model PySem.Challenge.rw_bl0001_01.row.prog w) (ktrTop dp un gd (Str.ofString "law") lawScope L a ccd [] outer) (execs tail2 (envX (Str.ofString "law") lawScope L a ccd [])) Q E { s with heap := h, toks := tk }),
    wpC (model PySem.Challenge.rw_bl0001_01.row.prog w) (ktrTop dp un gd (Str.ofString "law") lawScope L a ccd [] outer) (execs lawBody (envX (Str.ofString "law") lawScope L a ccd [])) Q E s := by
  k_fill
  intro mean mg mb dp un gd a ccd outer A₀ base h₀ L s A vs xs Q E B F X N T hd hu hL hI hxs hE hQ
  have hkS : lawScope.kind = .function := rfl
  have hd8 : dp < 800 := by omega
  have hu8 : un < 80 := by omega
  conv in (occs := *) lawBody => all_goals whnf
  refine C.asg (h₀ := h₀) (L := L) (news := []) (α := Int × Tok) (fun p y => if y = Str.ofString "head" then some (.int p.1 p.2) else fS A y) (fun _ => True) ?_ ?_
  · intro P9 E9 hP9
    conv in (occs := *) lawScope => all_goals whnf
    k_fold
    k_steps
    all_goals exact hP9 (_, _) _ _ trivial (by assumption) (by assumption)
  clear F N
  rintro ⟨hv, t1⟩ h5 tk5 _ F N
  dsimp only at F
  refine C.asg (h₀ := h₀) (L := L) (news := []) (α := Str × Tok) (fun p y => if y = Str.ofString "quote" then some (.str p.1 p.2) else if y = Str.ofString "head" then some (.int hv t1) else fS A y) (fun p => p.1 = Str.ofString "'" ∨ p.1 = Str.ofString "\"" ∨ p.1 = Str.ofString "'''" ∨ p.1 = Str.ofString "\"\"\"") ?_ ?_
  · intro P9 E9 hP9
    conv in (occs := *) lawScope => all_goals whnf
    k_fold
    k_steps
    all_goals (refine hP9 (_, _) _ _ ?_ (by assumption) News.nil; first | exact .inl rfl | exact .inr (.inl rfl) | exact .inr (.inr (.inl rfl)) | exact .inr (.inr (.inr rfl)))
  clear F N
  rintro ⟨qt, t2⟩ h6 tk6 hqt F N
  dsimp only at F hqt
  show wpC _ _ _ _ _ { s with heap := h6, toks := tk6 }
  refine C.asg (h₀ := h₀) (L := L) (news := []) (α := Int × Tok) (fun p y => if y = Str.ofString "spoilt" then some (.int p.1 p.2) else if y = Str.ofString "quote" then some (.str qt t2) else if y = Str.ofString "head" then some (.int hv t1) else fS A y) (fun p => 0 ≤ p.1 ∧ p.1 < 6) ?_ ?_
  · intro P9 E9 hP9
    conv in (occs := *) lawScope => all_goals whnf
    k_fold
    k_steps
    all_goals exact hP9 (_, _) _ _ ⟨Int.fmod_nonneg_of_pos _ (by decide), Int.fmod_lt_of_pos _ (by decide)⟩ (by assumption) (by assumption)
  clear F N
  rintro ⟨sp, t3⟩ h7 tk7 hsp F N
  dsimp only at F hsp
  show wpC _ _ _ _ _ { s with heap := h7, toks := tk7 }
  refine C.asg (h₀ := h₀) (L := L) (news := []) (α := Tok) (fun t y => if y = Str.ofString "text" then some (.str (Str.ofString "") t) else if y = Str.ofString "spoilt" then some (.int sp t3) else if y = Str.ofString "quote" then some (.str qt t2) else if y = Str.ofString "head" then some (.int hv t1) else fS A y) (fun _ => True) ?_ ?_
  · intro P9 E9 hP9
    conv in (occs := *) lawScope => all_goals whnf
    k_fold
    k_steps
    all_goals exact hP9 _ _ _ trivial (by assumption) (by assumption)
  clear F N
  rintro t4 h8 tk8 _ F N
  show wpC _ _ _ _ _ { s with heap := h8, toks := tk8 }
  refine C.mid (Parts h₀ L sp (fun y => if y = Str.ofString "text" then some (.str (Str.ofString "") t4) else if y = Str.ofString "spoilt" then some (.int sp t3) else if y = Str.ofString "quote" then some (.str qt t2) else if y = Str.ofString "head" then some (.int hv t1) else fS A y) { s with heap := h8, toks := tk8 }) ?_ ?_
  · intro P9 E9 hP9
    conv in (occs := *) lawScope => all_goals whnf
    k_fold
    k_steps
    all_goals (first
      | (have hs1 : sp = 1 := by assumption
         rename News _ _ _ _ => kN
         refine hP9 _ ⟨_, _, _, _, _, _, ?_, ?_, rfl, by assumption, kN⟩
         · exact ⟨by assumption, trivial⟩
         · rw [d0, if_pos hs1]
           exact .cons (.tuple (.head _) (.cons (.str _ _) (.cons (.str _ _) .nil))) .nil)
      | (have hs1 : ¬ sp = 1 := by assumption
         rename News _ _ _ _ => kN
         refine hP9 _ ⟨_, _, _, _, _, _, ?_, ?_, rfl, by assumption, kN⟩
         · exact trivial
         · rw [d0, if_neg hs1]; exact .nil))
  clear F N
  rintro s' ⟨l, us, n0, own, h9, tk9, hoff, hdat, rfl, F, N⟩
  show wpC _ _ _ _ _ { s with heap := h9, toks := tk9 }
  have F2 := fr_put (x := Str.ofString "script") (v := some (.ref A)) (fr_put (x := Str.ofString "parts") (v := some (.ref l)) (fr_put (x := Str.ofString "quote") (v := some (.str qt t2)) (fr_put (x := Str.ofString "text") (v := some (.str (Str.ofString "") t4)) F rfl) rfl) rfl) rfl
  clear F
  refine C.execs_cons (C.any ?_)
  refine loop1_K w mean mg mb dp un gd a ccd outer A₀ base h₀ L _ _ l us n0 own qt t2 sp t4 A vs xs _ E B F2 X N T hd8 hu8 hoff hdat hL hI hxs (quote0 hqt) hE ?_
  intro ns text tT us' nS tl parts h10 tk10 m10 hp hns F10 N10 hoff' hdat' jt j2
  show wpC _ _ _ _ _ { s with heap := h10, toks := tk10 }
  obtain ⟨hp1, hp2, es, he1, he2, he3, he4⟩ := hp
  subst he3
  clear F2 N
  have js : m10 (Str.ofString "spoilt") = some (.int sp t3) := by rw [j2 _ (by decide +kernel)]; rfl
  have F := fr_put F10 js
  clear F10
  refine C.asg (h₀ := h₀) (L := L) (news := (l, listOf us'.toArray nS) :: tl) (α := Str × Tok) (fun p y => if y = Str.ofString "written" then some (.str p.1 p.2) else if y = Str.ofString "spoilt" then some (.int sp t3) else m10 y) (fun p => p.1.cps.toList = (if sp = 2 then [92, 120, 52] else if sp = 3 then [92, 120] else [])) ?_ ?_
  · intro P9 E9 hP9
    conv in (occs := *) lawScope => all_goals whnf
    have hc : sp = 0 ∨ sp = 1 ∨ sp = 2 ∨ sp = 3 ∨ sp = 4 ∨ sp = 5 := by omega
    rcases hc with rfl | rfl | rfl | rfl | rfl | rfl
    all_goals (with_reducible show wpAny _ _ _ _ _ _)
    all_goals k_fold
    all_goals k_steps
    all_goals (rename News _ _ _ _ => kN; refine hP9 (_, _) _ _ ?_ (by assumption) (fun p hp => kN p (by repeat first | exact hp | apply List.Mem.tail)); dsimp only; decide +kernel)
  clear F
  rintro ⟨W, tW⟩ h11 tk11 hW F N
  dsimp only at F hW
  show wpC _ _ _ _ _ { s with heap := h11, toks := tk11 }
  have hW3 : W.length ≤ 3 := by
    rw [len_list, hW]
    split
    · decide
    · split <;> decide
  have jp : m10 (Str.ofString "parts") = some (.ref l) := by rw [j2 _ (by decide +kernel)]; rfl
  have jq : m10 (Str.ofString "quote") = some (.str qt t2) := by rw [j2 _ (by decide +kernel)]; rfl
  have F2 := fr_put (x := Str.ofString "written") (v := some (.str W tW)) (fr_put (x := Str.ofString "parts") (v := some (.ref l)) F jp) rfl
  clear F
  refine C.execs_cons (C.any ?_)
  rw [parts_dat] at hdat'
  refine loop2_K w mean mg mb dp un gd a ccd outer A₀ base h₀ L _ _ l us' nS tl W tW (frontP sp ++ pairs es) _ E B F2 X N T hd8 hu8 ?_ hdat' (pairs_len sp he4) hW3 hE ?_
  · have h1 : (frontP sp).length ≤ 1 := by unfold frontP; split <;> simp
    have h2 : (pairs es).length = es.length := by simp [pairs]
    rw [List.length_append, h2]; omega
  intro W' t' h12 tk12 m12 hw' F12 N12 jw j3
  show wpC _ _ _ _ _ { s with heap := h12, toks := tk12 }
  rw [hW] at hw'
  have j4 : ∀ z, z ≠ Str.ofString "written" → z ≠ Str.ofString "k" → z ≠ Str.ofString "parts" → z ≠ Str.ofString "spoilt" → m12 z = m10 z := fun z z1 z2 z3 z4 => by
    rw [j3 z z1 z2]
    show (if z = _ then _ else if z = _ then _ else if z = _ then _ else if z = _ then _ else m10 z) = _
    rw [if_neg z1, if_neg z3, if_neg z1, if_neg z4]
  have ks : m12 (Str.ofString "spoilt") = some (.int sp t3) := by rw [j3 _ (by decide +kernel) (by decide +kernel)]; rfl
  have kt : m12 (Str.ofString "text") = some (.str text tT) := by rw [j4 _ (by decide +kernel) (by decide +kernel) (by decide +kernel) (by decide +kernel)]; exact jt
  have kq : m12 (Str.ofString "quote") = some (.str qt t2) := by rw [j4 _ (by decide +kernel) (by decide +kernel) (by decide +kernel) (by decide +kernel)]; exact jq
  refine hQ qt t2 sp t3 es text tT W' t' h12 tk12 m12 hqt hsp (by omega) he4 he2 (by omega) hw' ?_ News.nil
  refine fr_put (fr_put (fr_put (fr_put F12 ks) ?_) ?_) ?_
  · exact kt
  · exact jw
  · exact kq
end Mine
end
section
open PySem PySem.W PyProof.Rows PySem.Calls
namespace Mine
theorem C.callWith_K {K : Frag} {M : Model} {A : Around} {E : Value → Shared → Prop} {s : Shared} {env : Env} {pos : Pos} {f : Value} {first : List Value} {e : Expr} {rest : List Expr} {Q : Value → Shared → Prop} (hk : keepIn K f = true)
    (h : wpAny M A (spliced (backTo pos (starEach (e :: rest) env))) (fun vs s₁ => K.In s₁.heap ∧ wpC M A (PySem.call f (first ++ vs)) Q E s₁) E s)
    (he : starEach (e :: rest) env = (false, eval e env) :: starEach rest env := by rfl) (hplain : (backTo pos (starEach rest env)).any (·.1) = false := by rfl) :
    wpC M A (callWith pos f first (backTo pos (starEach (e :: rest) env)) []) Q E s := by
  rw [he] at h ⊢
  exact C.callWith_of (P := K.In) (by show (false || (backTo pos (starEach rest env)).any (·.1)) = false; rw [hplain]; rfl) (keeps_K hk) (evalArgs_plain h)
set_option maxRecDepth 100000 in
set_option maxHeartbeats 8000000 in
theorem tail_K (w : World) : ∀ (hx : EscBad w (ofL [92, 120, 103, 49]) (ofL [120, 103, 49])) (mean : ExcName → Option Value) (mg mb : Str → Option Value) (a : Addr) (ccd : Value) (h₀ : Heap) (L : Addr) (s : Shared) (R : Result → Shared → Prop)
    (qt : Str) (t2 : Tok) (sp : Int) (t3 : Tok) (es : List (List Nat × List Nat × List Nat)) (text : Str) (tT : Tok) (W : Str) (tW : Tok) (m : Str → Option Value)
    (_ : Below callerA h₀ [] h₀) (_ : Fr h₀ L s.heap (fun y => if y = Str.ofString "quote" then some (.str qt t2) else if y = Str.ofString "written" then some (.str W tW) else if y = Str.ofString "text" then some (.str text tT) else if y = Str.ofString "spoilt" then some (.int sp t3) else m y))
    (_ : (Mine.hd.heap_39 w.params).In h₀) (_ : News h₀ L s.heap []) (_ : Top Mine.hd.view_39 LS mean mg mb h₀)
    (_ : qt = Str.ofString "'" ∨ qt = Str.ofString "\"" ∨ qt = Str.ofString "'''" ∨ qt = Str.ofString "\"\"\"") (_ : 0 ≤ sp ∧ sp < 6) (_ : es.length ≤ 20) (_ : ∀ e ∈ es, okPc qt e) (_ : text.cps.toList = vals es) (_ : text.length ≤ 40) (_ : W.cps.toList = wr (frontP sp ++ pairs es) (endL sp))
    (_ : ∀ h tk m, Fr h₀ L h m → R (.ok (.ret (.bool true))) { s with heap := h, toks := tk }),
    wpC (model PySem.Challenge.rw_bl0001_01.row.prog w) (callerA.deeper (envOf (Str.ofString "law") lawScope L a ccd)) (execs tail2 (envOf (Str.ofString "law") lawScope L a ccd))
      (fun f s' => R (.ok (.ret (match f with | .ret v => v | _ => .none))) s')
      (fun e s' => wpAny (model PySem.Challenge.rw_bl0001_01.row.prog w) (callerA.deeper (envOf (Str.ofString "law") lawScope L a ccd)) (leaving (envOf (Str.ofString "law") lawScope L a ccd) e) (fun _ s'' => R (.error e) s'') (fun e' s'' => R (.error e') s'') s') s := by
  k_fill
  intro hx mean mg mb a ccd h₀ L s R qt t2 sp t3 es text tT W tW m B F X N T hqt hsp hn hes htx htl hW hR
  have hkS : lawScope.kind = .function := rfl
  have hlp := wr_len (t := endL sp) (pairs_len sp hes)
  have hWl : W.length ≤ 200 := by
    rw [← hW, ← len_list] at hlp
    have h1 : (frontP sp).length ≤ 1 := by unfold frontP; split <;> simp
    have h2 : (pairs es).length = es.length := by simp [pairs]
    have h3 : (endL sp).length ≤ 3 := by
      unfold endL
      split
      · simp
      · split <;> simp
    rw [List.length_append] at hlp
    omega
  have SO := segs_ok hx hes hn (by rw [← htx, ← len_list]; omega) hW
  have EV := ev_all w qt W hqt (fun c h1 h2 => by rw [hW, ← whole_txt]; exact head_whole sp hes h1 h2)
  obtain ⟨hq0, hq1, hq2⟩ := quote0 hqt
  conv in (occs := *) tail2 => all_goals whnf
  conv in (occs := *) lawScope => all_goals whnf
  refine C.execs_cons (C.Try_except ?_)
  refine C.execs_cons (C.Assign_Name (C.Call ?_))
  k_fold
  k_steps
  refine C.callWith_K (K := Mine.hd.heap_39 w.params) (by k_is) ?_
  k_fold
  k_steps
  refine C.call ?_
  k_dflt (refine EV (whole sp es) mean mg mb _ _ _ _ _ a ccd [] [] callerA h₀ h₀ L _ [] _ _ _ SO B F X N T X T rfl (by decide) (by decide) (by omega) ?ok ?bad)
  case ok =>
    intro r hr h' tk' u F9 N9
    by_cases hs : sp = 1 ∨ sp = 2 ∨ sp = 3
    · rw [res_bad hs] at hr; cases hr
    rw [res_good (fun e => hs (.inl e)) (fun e => hs (.inr (.inl e))) (fun e => hs (.inr (.inr e)))] at hr
    have e : ofL r = text := by rw [← Option.some.inj hr, ← htx]
    rw [e]
    dsimp only
    clear F N
    k_steps
    refine C.any ?_
    k_steps
    show wpC _ _ _ _ _ _
    refine C.any ?_
    k_steps
    all_goals first
      | (exfalso; omega)
      | (rw [beq_self_eq_true text]; exact hR _ _ _ (by assumption))
  case bad =>
    intro hn' h' tk' e g F9 U9 R9
    have hs : sp = 1 ∨ sp = 2 ∨ sp = 3 := by
      by_cases hs : sp = 1 ∨ sp = 2 ∨ sp = 3
      · exact hs
      · rw [res_good (fun e => hs (.inl e)) (fun e => hs (.inr (.inl e))) (fun e => hs (.inr (.inr e)))] at hn'; cases hn'
    dsimp only
    clear F N
    k_steps
    show R (.ok (.ret (.bool (decide (sp < 4))))) _
    rw [decide_eq_true (by omega)]
    exact hR _ _ _ (by assumption)
end Mine
end
section
open PySem PySem.W PyProof.Rows PySem.Calls
namespace Mine
theorem C.fullW {prog : Program} {w : World} {A : Around} {R : Result → Shared → Prop} {s : Shared} {name : Str} {params : Arguments} {body : List Stmt} {scope : Scope}
    {dV kV pm cd doc : Value} {a : Addr} {o : Obj} {args : Args} {binds : List (Str × Value)}
    (hroom : A.depth < recursionLimit) (ho : s.heap.get? a = some o) (hdata : o.data = .func { docDef name params body scope pm cd doc with defaults := dV, kwdefaults := kV }) (hlim : s.heap.NoLimit) (hcd : s.heap.CodeRec cd name)
    (hbind : BindsTo s { docDef name params body scope pm cd doc with defaults := dV, kwdefaults := kV } args binds)
    (hloc : ∀ x ∈ binds, scope.names.lookup x.1 = some .local)
    (h : ∀ h₁, Fr s.heap s.heap.objs.size h₁ (fun x => binds.reverse.lookup x) →
      wpC (model prog w) (A.deeper (envOf name scope s.heap.objs.size a cd)) (execs body (envOf name scope s.heap.objs.size a cd))
        (fun f s' => R (.ok (.ret (match f with | .ret v => v | _ => .none))) s')
        (fun e s' => wpAny (model prog w) (A.deeper (envOf name scope s.heap.objs.size a cd)) (leaving (envOf name scope s.heap.objs.size a cd) e)
          (fun _ s'' => R (.error e) s'') (fun e' s'' => R (.error e') s'') s')
        { s with heap := h₁, toks := s.toks + binds.length })
    (hco : scope.isCoroutine = false := by rfl) (hgen : scope.isGenerator = false := by rfl) (hk : scope.kind = .function := by rfl)
    (hcell : ∀ x ∈ scope.names, x.2 ≠ .cell := by decide) :
    codeC (model prog w) A (.call (.ref a) args) R s :=
  C.callDef hroom ho hdata hlim hcd rfl hbind hcell hloc (fun h₁ hns hkeep => h h₁ ⟨hns, hkeep, Nat.le_refl _⟩) hco hgen hk
set_option maxRecDepth 100000 in
set_option maxHeartbeats 8000000 in
theorem law_all (hx : ∀ w, EscBad w (ofL [92, 120, 103, 49]) (ofL [120, 103, 49])) : PySem.Challenge.rw_bl0001_01.Holds := hd (by
  k_fill
  intro w s₀ s₁ mg mb G Y fa o pm cd doc dV kV ho hd' hcd hD hmg hg args vals as hpre hlay hrd hwl hlo
  have KX := kIn_of Y
  have T := Ground.T G
  wrow_args hpre hlay hrd hwl hlo
  have he := Dflts.none hD rfl
  subst he
  refine C.fullW (by decide) ho hd' (Top.nolimit T) hcd (BindsTo.of_eq rfl) (locs rfl) (fun h₁ F => ?_)
  w_binds F
  have N := (News.nil : News _ _ _ []).at F
  have B := below_caller s₁.heap
  clear hd' hcd hmg hD G Y
  rename_i xs hs hlay0 hL1 hr1 hl2 w4 w3 A vs w0 hL ra w1 r0 hI hr hc1 hc2
  k_dflt (refine front_K w (ExcName.means s₀.heap) mg mb _ _ _ fa cd [] callerA s₁.heap s₁.heap s₁.heap.objs.size _ A vs xs _ _ B F KX N T (by decide) (by decide) hL hI (by omega) ?hE ?hQ)
  case hE => exact PassesOwn.leaving
  case hQ =>
    intro qt t2 sp t3 es text tT W tW h tk m hqt hsp hn hes htx htl hW F' N'
    refine tail_K w (hx w) (ExcName.means s₀.heap) mg mb fa cd s₁.heap s₁.heap.objs.size _ _ qt t2 sp t3 es text tT W tW m B F' KX N' T hqt hsp hn hes htx htl hW (fun h' tk' m' F9 => ?_)
    dsimp only


    exact GoodW.toG (goodW_bool F9 hg (raisesW_false (fun ct hct => nomatch hct)) (postW_of (r := PySem.Challenge.rw_bl0001_01.row.toRowW) rfl (w_eq_bool (w_res rfl) w_lit) rfl) rfl)
  )
end Mine
end
set_option maxRecDepth 100000 in
set_option maxHeartbeats 8000000 in
theorem PySem.Challenge.cw_bl0001_01_holds : PySem.Challenge.rw_bl0001_01.Holds :=
  Mine.law_all Mine.esc_bad_xg1
