import PyProof.Rows.All
import Wide.All
import OpenK.AllK
import Wide.FinOn
import PySem.Challenge.RW_we0013_01
open PySem PySem.W PyProof.Rows
set_option Elab.async false
set_option maxRecDepth 100000
set_option maxHeartbeats 8000000
namespace Mine
/-- a code that no bytearray takes for a holder of its bytes -/
noncomputable def notDec : Code → Bool
  | .builtin id _ => !(Builtin.Bytes.decodersThatHold ++ ["bytearray.__contains__", "bytearray.__mod__", "bytearray.__rmod__", "_struct.pack_into.held", "bytearray.find.held"]).contains id
  | _ => true
def Clean (Γ : Ctx) : Prop := notDec Γ.code = true ∧ Γ.below.all (fun x => notDec x.1) = true
theorem Clean.enter {Γ : Ctx} (h : Clean Γ) {c : Code} (hc : notDec c = true) (hd : Option Value) (p : Pos) : Clean (Γ.enter c hd p) :=
  ⟨hc, by show ((Γ.code, p) :: Γ.below).all (fun x => notDec x.1) = true; rw [List.all_cons, h.1, h.2]; rfl⟩
theorem Clean.goto {Γ : Ctx} (h : Clean Γ) {c : Code} (hc : notDec c = true) : Clean (Γ.goto c) := ⟨hc, h.2⟩
def wpG {α : Type} (M : Model) (A : Around) (t : Sem α) (Q : α → Shared → Prop) (E : Value → Shared → Prop) (s : Shared) : Prop :=
  ∀ Γ p, Γ.In A → Clean Γ → Sem.wp M Γ t (fun a _ s' => Q a s') (fun e _ s' => E e s') p s
def codeG (M : Model) (A : Around) (c : Code) (R : Result → Shared → Prop) (s : Shared) : Prop :=
  ∀ Γ p, Γ.code = c → Γ.Below A → Clean Γ → wpCode M Γ R p s
section
variable {α β : Type} {M : Model} {A : Around} {E : Value → Shared → Prop} {s : Shared}
theorem wpG_of {t : Sem α} {Q : α → Shared → Prop} (h : wpAny M A t Q E s) : wpG M A t Q E s := fun Γ p hΓ _ => h Γ p hΓ
theorem codeG_of {c : Code} {R : Result → Shared → Prop} (h : codeAny M A c R s) : codeG M A c R s := fun Γ p hc hΓ _ => h Γ p hc hΓ
theorem wpG_mono {t : Sem α} {Q Q' : α → Shared → Prop} {E' : Value → Shared → Prop} (h : wpG M A t Q E s)
    (hQ : ∀ a s, Q a s → Q' a s) (hE : ∀ e s, E e s → E' e s) : wpG M A t Q' E' s :=
  fun Γ p hΓ hC => Sem.wp_mono M Γ t (fun a _ s => hQ a s) (fun e _ s => hE e s) p s (h Γ p hΓ hC)
theorem codeG_mono {c : Code} {R R' : Result → Shared → Prop} (h : codeG M A c R s) (hR : ∀ r s, R r s → R' r s) : codeG M A c R' s :=
  fun Γ p hc hΓ hC => wpCode_mono hR (h Γ p hc hΓ hC)
theorem wpG_bind {m : Sem α} {f : α → Sem β} {Q : β → Shared → Prop} (h : wpG M A m (fun a s' => wpG M A (f a) Q E s') E s) : wpG M A (m >>= f) Q E s := fun Γ p hΓ hC => by
  rw [Sem.wp_bind']
  exact Sem.wp_mono M Γ m (fun a p' s' h' => h' Γ p' hΓ hC) (fun _ _ _ h' => h') p s (h Γ p hΓ hC)
/-- first what holds anywhere, then the rest -/
theorem wpG_then {m : Sem α} {f : α → Sem β} {Q : β → Shared → Prop} (h : wpAny M A m (fun a s' => wpG M A (f a) Q E s') E s) : wpG M A (m >>= f) Q E s := wpG_bind (wpG_of h)
theorem wpG_holding {vs : List Value} {m : Sem α} {Q : α → Shared → Prop} (h : wpG M A m Q E s) : wpG M A (holding vs m) Q E s :=
  fun Γ p hΓ hC => by rw [Sem.wp_holding]; exact h Γ p hΓ hC
theorem wpG_onRaise {m : Sem α} {k : Value → Sem Unit} {Q : α → Shared → Prop}
    (h : wpG M A m Q (fun e s' => wpAny M A (k e) (fun _ s'' => E e s'') E s') s) : wpG M A (m.onRaise k) Q E s := fun Γ p hΓ hC => by
  rw [Sem.wp_onRaise]
  exact Sem.wp_mono M Γ m (fun _ _ _ h' => h') (fun e p' s' h' => h' Γ p' hΓ) p s (h Γ p hΓ hC)
theorem wpG_pure {a : α} {Q : α → Shared → Prop} (h : Q a s) : wpG M A (pure a) Q E s := fun _ _ _ _ => h
theorem wpG_call {f : Value} {pos : List Value} {kw : List (Str × Value)} {Q : Value → Shared → Prop}
    (hc : codeG M A (.call f ⟨pos, kw⟩) (fun r s' => match r with | .ok (.ret v) => Q v s' | .ok _ => False | .error e => E e s') s) :
    wpG M A (call f pos kw) Q E s := fun Γ p hΓ hC => by
  show Sem.wp M Γ (runValue (.call f ⟨pos, kw⟩)) _ _ p s
  rw [Sem.wp_runValue]
  exact hc _ p rfl (hΓ.enter _ none p (by intro x; cases x)) (hC.enter rfl none p)
theorem codeG_of_tree {c : Code} {R : Result → Shared → Prop}
    (h : wpG M (A.under c) (M.den c) (fun fin s' => match fin with | .done f => R (.ok f) s' | .again c' => c'.quiet = true ∧ notDec c' = true ∧ codeG M A c' R s')
      (fun e s' => R (.error e) s') s) : codeG M A c R s := fun Γ p hc hΓ hC => by
  rw [wpCode_iff_wp, hc]
  refine Sem.wp_mono M Γ _ (fun fin p' s' h' => ?_) (fun _ _ _ h' => h') p s (h Γ p (hc ▸ hΓ.in) hC)
  cases fin with
  | done f => exact h'
  | again c' => exact ⟨h'.1, h'.2.2 (Γ.goto c') p' rfl (hΓ.goto c') (hC.goto h'.2.1)⟩
theorem wpG_execs_cons {env : Env} {st : Stmt} {rest : List Stmt} {Q : Flow → Shared → Prop}
    (h : wpG M A (exec st env) (fun f s' => match f with | .next => wpG M A (execs rest env) Q E s' | f => Q f s') E s) :
    wpG M A (execs (st :: rest) env) Q E s := fun Γ p hΓ hC => by
  rw [execs_cons, Sem.wp_bind']
  refine Sem.wp_mono M Γ _ (fun f p' s' h' => ?_) (fun _ _ _ h' => h') _ _ (h Γ p hΓ hC)
  cases f <;> first | exact h' Γ p' hΓ hC | exact h'
theorem wpG_cons {env : Env} {st : Stmt} {rest : List Stmt} {Q : Flow → Shared → Prop}
    (h : wpAny M A (exec st env) (fun f s' => match f with | .next => wpG M A (execs rest env) Q E s' | f => Q f s') E s) :
    wpG M A (execs (st :: rest) env) Q E s := wpG_execs_cons (wpG_of h)
theorem wpG_If {env : Env} {test body orelse pos} {Q : Flow → Shared → Prop}
    (h : wpG M A (isTrue test env (eval test env)) (fun b s₂ => if b then wpAny M A (execs body env) Q E s₂ else wpAny M A (execs orelse env) Q E s₂) E s) :
    wpG M A (exec (.If test body orelse pos) env) Q E s := fun Γ p hΓ hC => by
  simp only [exec_If, Sem.wp_bind', Sem.wp_cmd_standAt]
  refine Sem.wp_mono M Γ _ (fun b p₂ s₂ h₂ => ?_) (fun _ _ _ h' => h') _ _ (h Γ _ hΓ hC)
  cases b <;> exact h₂ Γ p₂ hΓ
theorem wpG_isTrue_Compare1 {env : Env} {l op r pos whole} {Q : Bool → Shared → Prop}
    (h : wpG M A (eval l env) (fun a s₁ => wpAny M A (eval r env) (fun b s₂ => wpAny M A (compareOp op a b)
      (fun c s₃ => wpAny M A (truthy c) Q E s₃) E s₂) E s₁) E s)
    (hm : behindInMarks op r = false := by with_unfolding_all rfl) : wpG M A (isTrue (.Compare l [op] [r] pos) env whole) Q E s := fun Γ p hΓ hC => by
  simp only [isTrue_Compare1, markedBehindIn_of_false hm, Sem.wp_bind', Sem.wp_holding, Sem.wp_cmd_standAt, Sem.wp_operate]
  exact Sem.wp_mono M Γ _ (fun a p₁ s₁ h₁ => Sem.wp_mono M Γ _ (fun b _ s₂ h₂ => Sem.wp_mono M Γ _ (fun c p₃ s₃ h₃ => h₃ Γ p₃ hΓ)
    (fun _ _ _ h' => h') _ _ (h₂ Γ _ hΓ)) (fun _ _ _ h' => h') _ _ (h₁ Γ p₁ hΓ)) (fun _ _ _ h' => h') _ _ (h Γ p hΓ hC)
theorem wpG_Assign_Name {env : Env} {x pos' value pos} {Q : Flow → Shared → Prop}
    (h : wpG M A (eval value env) (fun v s₁ => wpAny M A (storeName env x v) (fun _ => Q .next) E s₁) E s)
    (hs : swapsWith value (some (.Name x pos')) pos.line env = pure false := by rfl) :
    wpG M A (exec (.Assign [.Name x pos'] value pos) env) Q E s := fun Γ p hΓ hC => by
  simp only [exec_Assign_Name env x pos' value pos hs, Sem.wp_bind', Sem.wp_cmd_standAt, Sem.wp_bindName, Sem.wp_pure']
  exact Sem.wp_mono M Γ _ (fun v _ s₁ h₁ => h₁ Γ _ hΓ) (fun _ _ _ h' => h') _ _ (h Γ _ hΓ hC)
end
section
variable {prog : Program} {w : World} {A : Around} {E : Value → Shared → Prop} {s : Shared} {R : Result → Shared → Prop}
theorem codeG_call_function {a : Addr} {args : Args} {o : Obj} {fd : FuncData} {body : List Stmt} (hroom : A.depth < recursionLimit)
    (ho : s.heap.get? a = some o)
    (hd' : o.data = .func fd) (hco : fd.scope.isCoroutine = false) (hgen : fd.scope.isGenerator = false) (hbody : fd.body = .stmts body) (hcd : s.heap.CodeRec fd.code fd.qualname)
    (h : wpAny (model prog w) A.in1 (bindArgs fd args) (fun binds s₁ =>
      wpAny (model prog w) A.in1 (newFunctionEnv fd.scope fd.globals fd.closure binds (fd.qualname ++ ".<locals>.") (some a) fd.code none fd.builtins)
        (fun env s₂ => s₂.heap.NoLimit ∧ codeG (model prog w) A (.func body env) R s₂) (fun e s' => R (.error e) s') s₁) (fun e s' => R (.error e) s') s) :
    codeG (model prog w) A (.call (.ref a) args) R s := by
  refine codeG_of_tree ?_
  show wpG _ A.in1 (callAny (.ref a) args) _ _ s
  simp only [callAny]
  refine wpG_then (wpAny_load ho ?_)
  obtain ⟨c, oc, vs, tq, hc, hoc, hdc, hq⟩ := hcd
  simp only [hd', callFunction, hco, hgen, hbody, hc]
  rw [hc] at h
  refine wpG_then (m := field (.ref c) 1) (wpAny_field hoc hdc hq (wpG_then (wpAny_pure ?_)))
  exact wpG_then (wpAny_mono h (fun binds s₁ h₁ => wpG_then (wpAny_mono h₁ (fun env s₂ h₂ => wpG_then (wpAny_enterFrame h₂.1 hroom
    (wpG_pure ⟨rfl, rfl, h₂.2⟩))) fun _ _ h' => h')) fun _ _ h' => h')
theorem codeG_func {body env}
    (h : wpG (model prog w) (A.deeper env) (execs body env) (fun f s' => R (.ok (.ret (match f with | .ret v => v | _ => .none))) s')
      (fun e s' => wpAny (model prog w) (A.deeper env) (leaving env e) (fun _ s'' => R (.error e) s'') (fun e' s'' => R (.error e') s'') s') s) :
    codeG (model prog w) A (.func body env) R s := by
  refine codeG_of_tree ?_
  show wpG _ (A.deeper env) (do point; match ← (execs body env).onRaise (leaving env) with | .ret v => ret v | _ => ret .none) _ _ s
  refine wpG_then (wpAny_point (wpG_bind (wpG_onRaise (wpG_mono h (fun f s' h' => ?_) fun _ _ h' => h'))))
  cases f <;> exact wpG_pure h'
end
section
variable {α β : Type} {M : Model} {A : Around} {E : Value → Shared → Prop} {s : Shared} {env : Env} {f : Value}
theorem wpG_keep {vs : List Value} {m : Sem α} {Q : α → Shared → Prop} (h : wpG M A m Q E s) : wpG M A (m.keep vs) Q E s :=
  fun Γ p hΓ hC => by rw [Sem.wp_keep]; exact h Γ p hΓ hC
theorem wpG_Call {func : Expr} {args : List Expr} {pos : Pos} {Q : Value → Shared → Prop}
    (h : wpAny M A (eval func env) (fun f s₁ => wpG M A (callWith pos f [] (backTo pos (starEach args env)) []) Q E s₁) E s)
    (he : eval (.Call func args [] pos) env = (do callWith pos (← eval func env) [] (backTo pos (starEach args env)) (backToKw pos (keywordEach [] env))) := by rfl) :
    wpG M A (eval (.Call func args [] pos) env) Q E s := by
  rw [he]; exact wpG_then h
theorem wpG_spliced_cons {x : Sem Value} {rest : List (Bool × Sem Value)} {Q : List Value → Shared → Prop}
    (h : wpG M A x (fun v s₁ => wpAny M A (spliced rest) (fun vs s₂ => Q (v :: vs) s₂) E s₁) E s) : wpG M A (spliced ((false, x) :: rest)) Q E s := by
  rw [spliced]
  refine wpG_bind (wpG_mono h (fun v s₁ h₁ => ?_) fun _ _ x => x)
  simp only [Bool.false_eq_true, if_false]
  exact wpG_of (wpAny_bind (wpAny_pure (wpAny_bind (wpAny_holding (wpAny_mono h₁ (fun vs s₂ h₂ => wpAny_pure h₂) fun _ _ x => x)))))
theorem wpG_args_cons {e : Expr} {rest : List Expr} {pos : Pos} {Q : List Value → Shared → Prop}
    (h : wpG M A (eval e env) (fun v s₁ => wpAny M A (spliced (backTo pos (starEach rest env))) (fun vs s₂ => Q (v :: vs) s₂) E s₁) E s)
    (he : starEach (e :: rest) env = (false, eval e env) :: starEach rest env := by rfl) : wpG M A (spliced (backTo pos (starEach (e :: rest) env))) Q E s := by
  rw [he]; exact wpG_spliced_cons h
theorem wpG_evalArgs_plain {x : Sem Value} {rest : List (Bool × Sem Value)} {Q : Args → Shared → Prop}
    (h : wpG M A (spliced ((false, x) :: rest)) (fun vs s' => Q ⟨vs, []⟩ s') E s) : wpG M A (evalArgs f true ((false, x) :: rest) []) Q E s := by
  unfold evalArgs
  show wpG M A (spliced ((false, x) :: rest) >>= _) Q E s
  refine wpG_bind (wpG_mono h (fun vs s' h' => ?_) fun _ _ x => x)
  exact wpG_of (wpAny_holding (wpAny_bind (wpAny_pure (wpAny_bind (wpAny_pure (wpAny_pure h'))))))
theorem wpG_callWith {P : Heap → Prop} {pos : Pos} {first : List Value} {Q : Value → Shared → Prop} {args : List (Bool × Sem Value)} {keywords : List (Option Str × Sem Value)} (hplain : (args.any (·.1) || keywords.any (·.1.isNone)) = false)
    (hk : ∀ h, P h → ∃ k, (k = Keeper.frame ∨ k = Keeper.machine ∨ k = Keeper.boundFrame) ∧ Looks M h (keeperOf f) k)
    (h : wpG M A (evalArgs f true args keywords) (fun a s₁ => P s₁.heap ∧ wpG M A (call f (first ++ a.pos) a.kw) Q E s₁) E s) : wpG M A (callWith pos f first args keywords) Q E s := by
  unfold callWith
  refine wpG_bind (wpG_holding (wpG_mono h (fun a s₁ h₁ => wpG_then (wpAny_standAt ?_)) fun _ _ x => x))
  obtain ⟨k, hk', L⟩ := hk _ h₁.1
  simp only [hplain]
  refine wpG_then (L.here ?_)
  have tail : ∀ {t : Sem Value}, wpG M A t Q E s₁ → wpG M A (t >>= fun r => holding [r] point >>= fun _ => pure r) Q E s₁ :=
    fun ht => wpG_bind (wpG_mono ht (fun r s₂ hr => wpG_of (wpAny_bind (wpAny_holding (wpAny_point (wpAny_pure hr))))) fun _ _ x => x)
  have marked (mk : Value) : wpG M A (callMarked mk f (first ++ a.pos) a.kw) Q E s₁ := by unfold callMarked; exact wpG_keep h₁.2
  rcases hk' with rfl | rfl | rfl <;> dsimp only <;> first | exact tail h₁.2 | (split <;> first | exact tail h₁.2 | exact tail (marked _))
theorem wpG_callWith_K {K : Frag} {pos : Pos} {first : List Value} {Q : Value → Shared → Prop} {e : Expr} {rest : List Expr} (hk : keepIn K f = true) (h : wpG M A (spliced (backTo pos (starEach (e :: rest) env))) (fun vs s₁ => K.In s₁.heap ∧ wpG M A (call f (first ++ vs)) Q E s₁) E s)
    (he : starEach (e :: rest) env = (false, eval e env) :: starEach rest env := by rfl) (hplain : (backTo pos (starEach rest env)).any (·.1) = false := by rfl) :
    wpG M A (callWith pos f first (backTo pos (starEach (e :: rest) env)) []) Q E s := by
  rw [he] at h ⊢
  exact wpG_callWith (by show ((false || (backTo pos (starEach rest env)).any (·.1)) || false) = false; rw [hplain]; rfl) (keeps_K hk) (wpG_evalArgs_plain h)
theorem wpG_callWith_type {T : String} {pos : Pos} {first : List Value} {Q : Value → Shared → Prop} {e : Expr} {rest : List Expr} (h : wpG M A (spliced (backTo pos (starEach (e :: rest) env))) (fun vs s₁ => wpG M A (call (.type T) (first ++ vs)) Q E s₁) E s)
    (he : starEach (e :: rest) env = (false, eval e env) :: starEach rest env := by rfl) (hplain : (backTo pos (starEach rest env)).any (·.1) = false := by rfl) :
    wpG M A (callWith pos (.type T) first (backTo pos (starEach (e :: rest) env)) []) Q E s := by
  rw [he] at h ⊢
  exact wpG_callWith (P := fun _ => True) (by show ((false || (backTo pos (starEach rest env)).any (·.1)) || false) = false; rw [hplain]; rfl) (fun _ _ => ⟨.machine, .inr (.inl rfl), fun _ _ _ _ _ q => wpAny_pure q⟩)
    (wpG_evalArgs_plain (wpG_mono h (fun _ _ x => ⟨trivial, x⟩) fun _ _ x => x))
end
section
variable {prog : Program} {w : World} {A₀ A : Around} {s : Shared} {base h₀ : Heap} {outer : List Env} {L : Addr} {m : Str → Option Value} {env : Env} {news : List (Addr × Obj)}
  {R : Result → Shared → Prop} {name qual : Str} {params : Arguments} {body : List Stmt} {scope : Scope} {cl : List (Str × Addr)} {dV kV doc pm cdv ct : Value} {an : Option Addr} {fo : Obj} {f : Addr} {args : Args} {binds : List (Str × Value)}
theorem callG_plain (B : Below A₀ base outer h₀) (F : Fr h₀ L s.heap m) (N : News h₀ L s.heap news) (hlim : h₀.NoLimit) (hA : A.frames = some (env :: outer)) (hf : env.frame = some L) (hke : env.scope.kind = .function)
    (ho : s.heap.get? f = some fo) (hd : fo.data = .func (fnX name qual params body scope cl dV kV doc pm an cdv ct)) (hcd : s.heap.CodeRec cdv qual) (hroom : A.depth < recursionLimit)
    (hbind : BindsTo s (fnX name qual params body scope cl dV kV doc pm an cdv ct) args binds) (hloc : ∀ y ∈ binds, scope.names.lookup y.1 = some .local)
    (h : ∀ g L' h₁, Fr h₀ L g m → Fr g L' h₁ (fun y => binds.reverse.lookup y) → News g L' h₁ news → Below A base (env :: outer) g → h₀.StaysIn g → (∀ p ∈ news, p.1 < L') →
      wpG (model prog w) (A.deeper (envX qual scope L' f cdv cl)) (execs body (envX qual scope L' f cdv cl))
        (fun fl s' => LeaveK h₀ L m g R (match fl with | .ret v => v | _ => .none) s')
        (fun e s' => wpAny (model prog w) (A.deeper (envX qual scope L' f cdv cl)) (leaving (envX qual scope L' f cdv cl) e) (fun _ s'' => R (.error e) s'') (fun e' s'' => R (.error e') s'') s')
        { s with heap := h₁, toks := s.toks + binds.length })
    (hcell : ∀ x ∈ scope.names, x.2 ≠ .cell) (hco : scope.isCoroutine = false := by rfl) (hgen : scope.isGenerator = false := by rfl) (hk : scope.kind = .function := by rfl) : codeG (model prog w) A (.call (.ref f) args) R s := by
  obtain ⟨FG, BG, st, lv⟩ := groundX (R := R) B F N hA hf hke
  refine codeG_call_function hroom ho hd hco hgen rfl hcd (hbind _ _ _ _ ?_)
  refine wpAny_newFunctionEnv hcell hloc (fun h₁ hns hsb => ⟨(hlim.keeps F.keep).fresh _ hsb, codeG_func ?_⟩) hk
  have hk₁ : ∀ b o, s.heap.get? b = some o → h₁.get? b = some o := fun b o e => hsb.extBut b o (Nat.ne_of_lt (Heap.lt_size e)) (Heap.get?_push_of_some _ e)
  exact wpG_mono (h _ s.heap.objs.size h₁ FG ⟨hns, fun b o e => hk₁ b o (of_hideAll _ e), Nat.le_of_eq (hideAll_size _ _)⟩
    (fun p hp => ⟨hk₁ _ _ (N p hp).1, Nat.ne_of_lt (Heap.lt_size (N p hp).1), hideAll_none _ (List.mem_map_of_mem hp)⟩) BG st (fun p hp => Heap.lt_size (N p hp).1)) (fun fl s' hl => lv _ _ hl) fun _ _ y => y
end
theorem callG_cells {prog : Program} {w : World} {A : Around} {R : Result → Shared → Prop} {s : Shared} {name : Str} {params : Arguments} {body : List Stmt} {scope : Scope}
    {pm cd doc : Value} {a : Addr} {o : Obj} {args : List Value} {binds : List (Str × Value)}
    (hroom : A.depth < recursionLimit) (ho : s.heap.get? a = some o) (hdata : o.data = .func (Calls.docDef name params body scope pm cd doc)) (hlim : s.heap.NoLimit) (hcd : s.heap.CodeRec cd name)
    (hbind : bindArgs (Calls.docDef name params body scope pm cd doc) ⟨args, []⟩ = pure binds)
    (hkind : ∀ x ∈ binds, scope.names.lookup x.1 = some .local ∨ (scope.names.lookup x.1 = some .cell ∧ ((cellsFrom (s.heap.objs.size + 1) scope.names []).lookup x.1).isSome = true))
    (hnd : ((cellsFrom 0 scope.names []).map (·.1)).Nodup)
    (h : ∀ h₁ tk cells, Fr s.heap s.heap.objs.size h₁ (bindL (envOfC name scope s.heap.objs.size a cd).kindOf binds fun _ => none) → News s.heap s.heap.objs.size h₁ cells →
      CellsAre (bindC (envOfC name scope s.heap.objs.size a cd).kindOf binds fun _ => none) (cellsFrom (s.heap.objs.size + 1) scope.names []) cells →
      wpG (model prog w) (A.deeper (envOfC name scope s.heap.objs.size a cd)) (execs body (envOfC name scope s.heap.objs.size a cd))
        (fun f s' => R (.ok (.ret (match f with | .ret v => v | _ => .none))) s')
        (fun e s' => wpAny (model prog w) (A.deeper (envOfC name scope s.heap.objs.size a cd)) (leaving (envOfC name scope s.heap.objs.size a cd) e)
          (fun _ s'' => R (.error e) s'') (fun e' s'' => R (.error e') s'') s')
        { s with heap := h₁, toks := tk })
    (hco : scope.isCoroutine = false := by rfl) (hgen : scope.isGenerator = false := by rfl) (hk : scope.kind = .function := by rfl) :
    codeG (model prog w) A (.call (.ref a) ⟨args, []⟩) R s := by
  refine codeG_call_function hroom ho hdata hco hgen rfl hcd ?_
  rw [hbind]
  refine wpAny_pure (wpAny_newFunctionEnv_cells hk hkind fun env he s' x => ?_)
  subst he
  refine ⟨hlim.keeps x.toInCall.keep, codeG_func ?_⟩
  obtain ⟨h₁, tk, rfl, _⟩ := x.done
  obtain ⟨cells, N, Y⟩ := Cl.news (h₀ := s.heap) (Nat.le_refl _) fun n c hm => ⟨x.cell n c (lookup_of_mem_nodup (cellsFrom_names scope.names 0 (s.heap.objs.size + 1) [] [] rfl ▸ hnd) hm), x.above n c hm⟩
  exact h h₁ tk cells ⟨x.toInCall.ns, x.toInCall.keep, x.toInCall.fresh⟩ N Y
theorem enterG {M : Model} {A : Around} {s : Shared} {f : Value} {pos : List Value} {c : ClaimW} {cl : PySem.Str → Option Addr} {mean : ExcName → Option Value} {args : List WData} {s₁ : Shared}
    (h : codeG M A (.call f ⟨pos, []⟩) (GoodWG c cl mean args s₁) s) : wpG M A (PySem.call f pos) (fun v s' => GoodWG c cl mean args s₁ (.ok (.ret v)) s') (fun e s' => GoodWG c cl mean args s₁ (.error e) s') s :=
  wpG_call (codeG_mono h fun res s' g => by rcases g.1 with ⟨v, _, _, rfl, _⟩ | ⟨e, _, _, rfl, _⟩ <;> exact g)
theorem kn_postG {M : Model} {A : Around} {cd : Code} {s s₁ : Shared} {cw : ClaimW} {cl : Str → Option Addr} {mean : ExcName → Option Value} {args : List WData} {tabs : List (Addr × Addr)} (hT : TabsAt tabs s₁.heap) (hr : ∀ a x, cw.raises a x = false)
    (h : codeG M A cd (fun r s' => GoodW cw cl mean args { s₁ with heap := ghostOf s₁.heap tabs } r s' ∧ GrownAll tabs s'.heap) s) : codeG M A cd (GoodWG cw cl mean args s₁) s := by
  refine codeG_mono h fun r s' g => ?_
  have hb : (⟨.builtin "claim.caller" {}, none, none, [], none⟩ : Ctx).Below callerA :=
    ⟨rfl, Nat.zero_le _, fun l hl => by cases hl; rfl, fun g hg => by cases hg; rfl, Nat.zero_le _⟩
  cases r with
  | ok f =>
    have := kn_post (M := ⟨fun _ => .pure (.done f), M.prog, M.w⟩) (A := callerA) (cd := .builtin "claim.caller" {}) (s := s') hT hr (args := args) (cl := cl) (mean := mean)
      (fun Γ p _ _ => (wpCode_iff_wp _ _ _ _ _).mpr (by rw [Sem.wp_pure]; exact g)) _ default rfl hb
    rw [wpCode_iff_wp, Sem.wp_pure] at this
    exact this
  | error e =>
    have := kn_post (M := ⟨fun _ => .raise e, M.prog, M.w⟩) (A := callerA) (cd := .builtin "claim.caller" {}) (s := s') hT hr (args := args) (cl := cl) (mean := mean)
      (fun Γ p _ _ => (wpCode_iff_wp _ _ _ _ _).mpr g) _ default rfl hb
    exact (wpCode_iff_wp _ _ _ _ _).mp this
noncomputable def cleanSt (st : List (Code × Pos)) : Bool := st.all fun x => notDec x.1
/-- the call, where no builtin below may hold a bytearray's bytes; elsewhere True at once -/
noncomputable def runG (f : Value) (vs : List Value) : Sem Value := stack >>= fun st => if cleanSt st = true then PySem.call f vs else pure (.bool true)
noncomputable def treeG (name : Str) (vs : List Value) : Sem Fin := stack >>= fun st => if cleanSt st = true then (callStub name vs).cur else ret (.bool true)
theorem clean_iff {Γ : Ctx} {p : Pos} : cleanSt ((Γ.code, p) :: Γ.below) = true ↔ Clean Γ := by
  unfold cleanSt Clean
  rw [List.all_cons, Bool.and_eq_true]
section
variable {M : Model} {A : Around} {E : Value → Shared → Prop} {s : Shared} {f : Value} {vs : List Value} {Q : Value → Shared → Prop}
theorem wpAny_runG (h : wpG M A (PySem.call f vs) Q E s) (h2 : Q (.bool true) s) : wpAny M A (runG f vs) Q E s := fun Γ p hΓ => by
  unfold runG
  rw [Sem.wp_bind']
  show Sem.wp M Γ (.stack .pure) _ _ p s
  rw [Sem.wp_stack, Sem.wp_pure]
  (try dsimp only)
  split
  · exact h Γ p hΓ (clean_iff.mp ‹_›)
  · exact h2
theorem wpAny_treeG {name : Str} {mg : Str → Option Value} {Q' : Fin → Shared → Prop} (hg : s.heap.Ns mainGlobals mg) (hf : mg name = some f)
    (h : wpAny M A (runG f vs) (fun v s' => Q' (.done (.ret v)) s') E s) : wpAny M A (treeG name vs) Q' E s := by
  have hG : wpG M A (PySem.call f vs) (fun v s' => Q' (.done (.ret v)) s') E s := fun Γ p hΓ hC => by
    have := h Γ p hΓ
    unfold runG at this
    rw [Sem.wp_bind'] at this
    replace this : Sem.wp M Γ (.stack .pure) _ _ p s := this
    rw [Sem.wp_stack, Sem.wp_pure] at this
    dsimp only at this
    rw [if_pos (clean_iff.mpr hC)] at this
    exact this
  have hT : wpG M A (callStub name vs).cur Q' E s := by
    refine wpG_then (wpAny_nsGet hg ?_)
    rw [hf]
    exact wpG_bind (wpG_mono hG (fun v s' q => wpG_pure q) fun _ _ q => q)
  intro Γ p hΓ
  unfold treeG
  rw [Sem.wp_bind']
  show Sem.wp M Γ (.stack .pure) _ _ p s
  rw [Sem.wp_stack, Sem.wp_pure]
  (try dsimp only)
  split
  · exact hT Γ p hΓ (clean_iff.mp ‹_›)
  · rename_i hn
    have := h Γ p hΓ
    unfold runG at this
    rw [Sem.wp_bind'] at this
    replace this : Sem.wp M Γ (.stack .pure) _ _ p s := this
    rw [Sem.wp_stack, Sem.wp_pure] at this
    dsimp only at this
    rw [if_neg hn] at this
    exact this
end
theorem sched_treeG {p : Program} {w : World} {s s' : Shared} {name : Str} {vs : List Value} {o : Outcome} (hz : s.asleep) : ∀ n, schedN (denote table) p w n (.single s ⟨treeG name vs, .builtin "claim.caller" {}, default, []⟩) = .halted o s' →
    schedN (denote table) p w (n - 1) (.single s (callStub name vs)) = .halted o s'
  | 0, h => by cases h
  | n + 1, h => by
    have hs : step (denote table) p w s ⟨treeG name vs, .builtin "claim.caller" {}, default, []⟩ = .go s (callStub name vs) := rfl
    have e : sstep (denote table) p w (.single s ⟨treeG name vs, .builtin "claim.caller" {}, default, []⟩) = .go (.single s (callStub name vs)) := by
      rcases sstep_single (denote table) p w s ⟨treeG name vs, .builtin "claim.caller" {}, default, []⟩ rfl hz with e | e
      · rw [e, hs]; rfl
      · rw [hs] at e; cases e
    simp only [schedN, e] at h
    exact h
theorem holdsOpen_treeG {c : ClaimW} {name : Str} {defs keeps : List Str} {writes : Bool} (H : c.HoldsOpenBy (fun vs => ⟨treeG name vs, .builtin "claim.caller" {}, default, []⟩) defs keeps writes) : c.HoldsOpenBy (callStub name) defs keeps writes := by
  obtain ⟨h1, h2, h3⟩ := H
  refine ⟨h1, h2, fun w => ⟨(h3 w).1, fun s hs => ?_⟩⟩
  obtain ⟨s₀, hf, hg, s₁, hT, hp, hr1, hr2, hc⟩ := (h3 w).2 s hs
  refine ⟨s₀, hf, hg, s₁, hT, hp, hr1, hr2, fun args a b ord d => ?_⟩
  obtain ⟨vs, s2, hl, n, o, s', hs', rest⟩ := hc args a b ord d
  have hai : AfterImport (opening c.prog) w s := hs
  exact ⟨vs, s2, hl, n - 1, o, s', sched_treeG (Shared.asleep_of_life ((layAllW_rest _ _ _ hl).2.2.2.trans (hT.2.1.trans (fence_lifeW hf))) hai.life) n hs', rest⟩
end Mine
namespace Mine.PySem.W
theorem holds_open {r : OpenRow} {q : Program} {loose : List Str} {Xt : Shared → Bool} {XP : (Str → Option Value) → Heap → Prop} {α : Type} {Yf : Shared → α} {Ya : World → α} {YP : World → Heap → Prop} {d : DefRec} {kwd : List (Str × Expr)} {N : Nat}
    (left : LeftO r.prog q loose Xt Yf Ya N) (hY : ∀ w s, Yf s = Ya w → YP w s.heap) (hYk : ∀ w h h', YP w h → (∀ b o, h.get? b = some o → h'.get? b = some o) → YP w h')
    (hX : ∀ s, Xt s = true → XP (s.heap.nsMap mainGlobals) s.heap) (hXk : ∀ mg h h', XP mg h → (∀ b o, h.get? b = some o → h'.get? b = some o) → XP mg h')
    (hdef : defOf q r.name = some (d, kwd)) (hp : r.prog.theDef r.name = some (d.params, d.body, d.scope)) (hk : kwWritten? d.params.kwonlyargs d.params.kw_defaults = some kwd) (hRf : ∀ s, Xt s = true → RecFacts r.records s.heap) (hwr : (!r.writes || r.records.isEmpty) = true)
    (k1 : r.wellSaid = true) (ok : (chainsOk q && opensWell r.prog && (frees r.toRowW && r.within.isEmpty)) = true) (hb : r.prog.bare) (hw : r.toRowW.promised)
    (call : WalkO q loose XP YP r.toRowW d kwd runG) : r.Holds := by
  have all := open_anyG (r := r.toRowW) (run := runG) (tree := treeG r.name) (defs := if r.pinned then [r.name] else []) (kps := r.keeps) (writes := r.writes) left hY hYk hX hXk hRf hwr ok hb hw
    (fun vs w s mg f Q E => wpAny_treeG)
    (fun w s hg G n hn => by
      obtain rfl : n = r.name := by split at hn <;> simp_all
      exact pinned_of_view hg G hdef hp hk)
    (fun w s₀ s₁ mg mb G Y args vs as hpre hlay L low => by
      obtain ⟨a, o, pm, cd, doc, dV, kV, f1, f2, f3, f4, f5⟩ := G.fn hdef
      exact ⟨.ref a, f1, call w s₀ s₁ mg mb G Y a o pm cd doc dV kV f2 f3 f4 f5 (defOf_name hdef ▸ f1) L.gens args vs as hpre hlay L.reads L.well (L.low low)⟩)
  exact ⟨k1, hw, holdsOpen_treeG all⟩
end Mine.PySem.W
namespace Mine
open_top hd for PySem.Challenge.rw_we0013_01
theorem runs_toks {M : Model} {Γ : Ctx} {p : Pos} {t : Sem Fin} {fs : List Frame} {s : Shared} {e : End} {s' : Shared} (h : Runs M Γ p t fs s e s') : s.toks ≤ s'.toks := by
  induction h <;> (try simp only [Shared.setGen] at *) <;> first | exact Nat.le_refl _ | assumption | omega
theorem wakes_toks {M : Model} {Γ : Ctx} {p : Pos} {g : Nat} {r : Resume} {s : Shared} {res : GenResult} {s' : Shared} (h : Wakes M Γ p g r s res s') : s.toks ≤ s'.toks := by
  unfold Wakes at h
  split at h
  · exact h.elim
  · split at h
    · obtain ⟨_, _, h, _, _, rfl⟩ := h
      have q := runs_toks h
      exact q
    · rw [h.2]; exact Nat.le_refl _
    · rw [h.2]; exact Nat.le_refl _
  · obtain ⟨_, _, h, _, _, rfl⟩ := h
    have q := runs_toks h
    exact q
  · rw [h.2]; exact Nat.le_refl _
  · rw [h.2]; exact Nat.le_refl _
theorem wp_toks {α : Type} {M : Model} {Γ : Ctx} : ∀ (t : Sem α) (Q : α → Pos → Shared → Prop) (E : Value → Pos → Shared → Prop) (p : Pos) (s : Shared) (k : Nat), k ≤ s.toks →
    Sem.wp M Γ t (fun a p s' => k ≤ s'.toks → Q a p s') E p s → Sem.wp M Γ t Q E p s := by
  intro t
  induction t with
  | pure a => intro Q E p s k hk h; exact h hk
  | raise e => intro Q E p s k hk h; exact h
  | unsupported w => intro Q E p s k hk h; exact h
  | finish w => intro Q E p s k hk h; exact h
  | rule w k' ih => intro Q E p s k hk h; exact ih _ _ _ _ _ _ hk h
  | «at» w k' ih => intro Q E p s k hk h; exact ih _ _ _ _ _ _ hk h
  | load a x k' ih => intro Q E p s k hk h; obtain ⟨o, ho, h⟩ := h; exact ⟨o, ho, ih _ _ _ _ _ _ hk h⟩
  | update a x f k' ih => intro Q E p s k hk h; exact ⟨h.1, ih _ _ _ _ _ _ hk h.2⟩
  | loadIfAlive a k' ih => intro Q E p s k hk h; exact ih _ _ _ _ _ _ hk h
  | point l k' ih => intro Q E p s k hk h; exact ih _ _ _ _ _ _ hk h
  | register => intro Q E p s k hk h; exact h
  | alloc o k' ih => intro Q E p s k hk h; exact ih _ _ _ _ _ _ hk h
  | fresh k' ih => intro Q E p s k hk h; exact ih _ _ _ _ _ _ (Nat.le_succ_of_le hk) h
  | ask k' ih => intro Q E p s k hk h; exact ih _ _ _ _ _ _ hk h
  | choose src n k' ih => intro Q E p s k hk h; exact ⟨h.1, ih _ _ _ _ _ _ hk h.2⟩
  | os q l k' ih => intro Q E p s k hk h; exact ih _ _ _ _ _ _ hk h
  | call c hh g l k' ih =>
    intro Q E p s k hk h
    obtain ⟨r, s₁, hr, h⟩ := h
    exact ⟨r, s₁, hr, ih _ _ _ _ _ _ (Nat.le_trans hk (runs_toks hr)) h⟩
  | handled own k' ih => intro Q E p s k hk h; exact ih _ _ _ _ _ _ hk h
  | genState g k' ih => intro Q E p s k hk h; obtain ⟨o, ho, h⟩ := h; exact ⟨o, ho, ih _ _ _ _ _ _ hk h⟩
  | newGen c k' ih => intro Q E p s k hk h; exact ih _ _ _ _ _ _ hk h
  | resume g r l k' ih =>
    intro Q E p s k hk h
    obtain ⟨r, s₁, hr, h⟩ := h
    exact ⟨r, s₁, hr, ih _ _ _ _ _ _ (Nat.le_trans hk (wakes_toks hr)) h⟩
  | yield => intro Q E p s k hk h; exact h
  | stack k' ih => intro Q E p s k hk h; exact ih _ _ _ _ _ _ hk h
  | fork => intro Q E p s k hk h; exact h
  | thread k' ih => intro Q E p s k hk h; exact ih _ _ _ _ _ _ hk h
  | await => intro Q E p s k hk h; exact h
/-- while a tree runs, the counter of tokens does not fall -/
theorem toks_of {α : Type} {M : Model} {A : Around} {t : Sem α} {Q : α → Shared → Prop} {E : Value → Shared → Prop} {s : Shared}
    (h : wpAny M A t (fun a s' => s.toks ≤ s'.toks → Q a s') E s) : wpAny M A t Q E s :=
  fun Γ p hΓ => wp_toks t _ _ p s s.toks (Nat.le_refl _) (h Γ p hΓ)

def TurnEnd (J : Shared → Prop) (Q : Flow → Shared → Prop) (f : Flow) (s : Shared) : Prop := match f with
  | .next => J s
  | .cont => J s
  | .brk => Q .next s
  | .ret v => Q (.ret v) s
def LoopT (prog : Program) (w : World) (A : Around) (env : Env) (target : Expr) (body : List Stmt) (Q : Flow → Shared → Prop) (E : Value → Shared → Prop) (it : Value) (s₂ : Shared) : Prop :=
  ∃ (n : Nat) (J : Nat → Shared → Prop), J 0 s₂ ∧
    (∀ i s', i < n → J i s' → wpAny (model prog w) A (pyNext it) (fun r s₁ => ∃ v, r = some v ∧ wpAny (model prog w) A (assign target env v) (fun _ s₃ => wpAny (model prog w) A (execs body env) (TurnEnd (J (i + 1)) Q) E s₃) E s₁) E s') ∧
    (∀ s', J n s' → wpAny (model prog w) A (pyNext it) (fun r s₁ => r = none ∧ Q .next s₁) E s')
theorem For_T {prog : Program} {w : World} {A : Around} {env : Env} {E : Value → Shared → Prop} {s : Shared} {Q : Flow → Shared → Prop} {target iter : Expr} {body : List Stmt} {pos : Pos}
    (h : wpAny (model prog w) A (eval iter env) (fun xv s₁ => wpAny (model prog w) A (pyIter xv) (fun it s₂ => LoopT prog w A env target body Q E it s₂) E s₁) E s)
    (hs : ∀ x, foldedSetIterable iter env x = pure x := by intro _; rfl) (ht : ∀ it v, letOwnedTupleGo target it v = pure () := by intro _ _; rfl)
    (hE : PassesOwn (model prog w) A env E := by passes_own) :
    wpAny (model prog w) A (exec (.For target iter body [] pos) env) Q E s := by
  refine wpAny_For (wpAny_mono h (fun xv s₁ h₁ => wpAny_mono h₁ (fun it s₂ h₂ => ?_) fun _ _ e => e) fun _ _ e => e) hs
  obtain ⟨n, J, h0, turn, done⟩ := h₂
  refine codeAny_forLoop (fun k s' => ∃ i, i ≤ n ∧ k = n - i ∧ J i s') ?_ n ⟨0, Nat.zero_le _, rfl, h0⟩ (ht it)
  rintro k s' ⟨i, hi, rfl, hJ⟩
  by_cases hlt : i < n
  · refine wpAny_passesOwn hE (wpAny_mono (turn i s' hlt hJ) (fun r s₁ h₁ => ?_) fun _ _ e => e)
    obtain ⟨v, rfl, h₁⟩ := h₁
    refine wpAny_passesOwn hE (wpAny_mono h₁ (fun _ s₃ h₃ => ?_) fun _ _ e => e)
    refine wpAny_passesOwn hE (wpAny_mono h₃ (fun f s₄ h₄ => ?_) fun _ _ e => e)
    cases f with
    | next => exact ⟨n - (i + 1), by omega, i + 1, hlt, rfl, h₄⟩
    | cont => exact ⟨n - (i + 1), by omega, i + 1, hlt, rfl, h₄⟩
    | brk => exact h₄
    | ret v => exact h₄
  · have : i = n := by omega
    subst this
    refine wpAny_passesOwn hE (wpAny_mono (done s' hJ) (fun r s₁ h₁ => ?_) fun _ _ e => e)
    obtain ⟨rfl, h₁⟩ := h₁
    exact wpAny_execs_nil h₁
section
variable {prog : Program} {w : World} {A : Around} {E : Value → Shared → Prop} {s : Shared} {h₀ : Heap} {L : Addr} {m : Str → Option Value} {news : List (Addr × Obj)}
theorem fr_extBut {h h' : Heap} {d : Addr} (F : Fr h₀ L h m) (hs : Heap.ExtBut d h h') (hL : d ≠ L) (hn : h₀.get? d = none) : Fr h₀ L h' m := by
  obtain ⟨oL, a1, a2, hoL, a3⟩ := F.ns
  refine ⟨⟨oL, a1, a2, hs L oL hL.symm hoL, a3⟩, fun b x e => hs b x ?_ (F.keep b x e), F.above⟩
  rintro rfl
  rw [hn] at e
  cases e
theorem news_extBut {h h' : Heap} {d : Addr} (N : News h₀ L h news) (hs : Heap.ExtBut d h h') (hap : ∀ p ∈ news, p.1 ≠ d) : News h₀ L h' news :=
  fun p hp => ⟨hs _ _ (hap p hp) (N p hp).1, (N p hp).2⟩
theorem news_tail {h : Heap} {q : Addr × Obj} (N : News h₀ L h (q :: news)) : News h₀ L h news := fun p hp => N p (.tail _ hp)
noncomputable abbrev ritO (x left : Int) : Obj := { cls := .type "range_iterator", dict := none, data := .fields #[rawInt x, rawInt left, rawInt 1], slots := #[] }
theorem rangeIter_N {r : Addr} {a b : Int} {t u v : Tok} {Q : Value → Shared → Prop} (F : Fr h₀ L s.heap m) (N : News h₀ L s.heap news) (hr : IsRange s.heap r a b 1 t u v) (hsmall : Builtin.Range.small a b 1 = true)
    (h : ∀ I h', Fr h₀ L h' m → News h₀ L h' ((I, ritO a (Builtin.Range.rangeSize a b 1)) :: news) → (∀ p ∈ news, p.1 < I) → Q (.ref I) { s with heap := h' }) :
    wpAny (model prog w) A (pyIter (.ref r)) Q E s :=
  wpAny_pyIter_range hr hsmall (h _ _ (F.push _) (N.push F _) fun p hp => Heap.lt_size (N p hp).1)
theorem rangeNext_N {I : Addr} {x left : Int} {Q : Option Value → Shared → Prop} (F : Fr h₀ L s.heap m) (N : News h₀ L s.heap ((I, ritO x left) :: news)) (hap : ∀ p ∈ news, p.1 < I) (hleft : 0 < left)
    (h : ∀ h', Fr h₀ L h' m → News h₀ L h' ((I, ritO (x + 1) (left - 1)) :: news) → Q (some (.int x s.toks)) { s with heap := h', toks := s.toks + 1 }) :
    wpAny (model prog w) A (pyNext (.ref I)) Q E s := by
  have hm := N _ (.head _)
  exact wpAny_pyNext_range_item hm.1 hleft fun h' ho hs => h h' (F.change hs hm.2.1 hm.2.2) (N.setHead (fun p hp => Nat.ne_of_lt (hap p hp)) hs ho)
theorem rangeEnd_N {I : Addr} {x left : Int} {Q : Option Value → Shared → Prop} (hh : A.handled = none) (F : Fr h₀ L s.heap m) (N : News h₀ L s.heap ((I, ritO x left) :: news)) (hap : ∀ p ∈ news, p.1 < I) (hleft : left ≤ 0)
    (h : ∀ h', Fr h₀ L h' m → News h₀ L h' news → Q none { s with heap := h' }) :
    wpAny (model prog w) A (pyNext (.ref I)) Q E s := by
  have hm := N _ (.head _)
  exact wpAny_pyNext_range_end hh hm.1 hleft fun h' hs => h h' (fr_extBut F hs hm.2.1 hm.2.2) (news_extBut (news_tail N) hs fun p hp => Nat.ne_of_lt (hap p hp))
def LitO (o : Obj) (l : Addr) (i : Nat) : Prop := o.cls = .type "list_iterator" ∧ o.data = .fields #[.ref l, .int i 0]
theorem listIter_N {l : Addr} {items : Array Value} {Q : Value → Shared → Prop} (F : Fr h₀ L s.heap m) (N : News h₀ L s.heap news) (hl : s.heap.IsList l items)
    (h : ∀ I o h', Fr h₀ L h' m → News h₀ L h' ((I, o) :: news) → LitO o l 0 → (∀ p ∈ news, p.1 < I) → Q (.ref I) { s with heap := h' }) :
    wpAny (model prog w) A (pyIter (.ref l)) Q E s :=
  wpAny_pyIter_list hl (h _ _ _ (F.push _) (N.push F _) ⟨rfl, rfl⟩ fun p hp => Heap.lt_size (N p hp).1)
theorem listNext_N {I l : Addr} {o : Obj} {i : Nat} {items : Array Value} {v : Value} {Q : Option Value → Shared → Prop} (F : Fr h₀ L s.heap m) (N : News h₀ L s.heap ((I, o) :: news)) (hap : ∀ p ∈ news, p.1 < I) (ho : LitO o l i)
    (hl : s.heap.IsList l items) (hx : items[i]? = some v)
    (h : ∀ o' h', Fr h₀ L h' m → News h₀ L h' ((I, o') :: news) → LitO o' l (i + 1) → Q (some v) { s with heap := h' }) :
    wpAny (model prog w) A (pyNext (.ref I)) Q E s := by
  have hm := N _ (.head _)
  refine wpAny_pyNext_list_item (i := i) ⟨o, hm.1, ho.1, ho.2⟩ hl hx fun h' hit hs => ?_
  obtain ⟨o', ho', hc', hd'⟩ := hit
  exact h o' h' (F.change hs hm.2.1 hm.2.2) (N.setHead (fun p hp => Nat.ne_of_lt (hap p hp)) hs ho') ⟨hc', hd'⟩
theorem listEnd_N {I l : Addr} {o : Obj} {i : Nat} {items : Array Value} {Q : Option Value → Shared → Prop} (hh : A.handled = none) (F : Fr h₀ L s.heap m) (N : News h₀ L s.heap ((I, o) :: news)) (hap : ∀ p ∈ news, p.1 < I) (ho : LitO o l i)
    (hl : s.heap.IsList l items) (hx : items[i]? = none)
    (h : ∀ h', Fr h₀ L h' m → News h₀ L h' news → Q none { s with heap := h' }) :
    wpAny (model prog w) A (pyNext (.ref I)) Q E s := by
  have hm := N _ (.head _)
  exact wpAny_pyNext_list_end (i := i) hh ⟨o, hm.1, ho.1, ho.2⟩ hl hx fun h' hs => h h' (fr_extBut F hs hm.2.1 hm.2.2) (news_extBut (news_tail N) hs fun p hp => Nat.ne_of_lt (hap p hp))
theorem news_list {h : Heap} {l : Addr} {vs : List Value} {nn : Nat} (N : News h₀ L h news) (hm : (l, listOf vs.toArray nn) ∈ news) : h.IsList l vs.toArray := ⟨_, (N _ hm).1, rfl, nn, rfl⟩
theorem fr_eq {h : Heap} {m' : Str → Option Value} (F : Fr h₀ L h m) (e : ∀ y, m y = m' y) : Fr h₀ L h m' := (funext e : m = m') ▸ F
end
section
variable {M : Model} {A : Around} {E : Value → Shared → Prop} {s : Shared} {Q : Value → Shared → Prop} {p q : Int} {t u : Tok}
theorem is_int_eq (ht : t ≠ 0) (hu : u ≠ 0) (hs : smallInt p = true) (h : Q (.bool true) s) : wpAny M A (compareOp .Is (.int p t) (.int p u)) Q E s := by
  show wpAny M A (do return .bool (← isSame (.int p t) (.int p u))) Q E s
  refine wpAny_bind ?_
  show wpAny M A (if (p == p && smallInt p) = true then isSame.cachedInt t u else isSame.created (p == p) t u) _ E s
  rw [if_pos (by simp [hs])]
  unfold isSame.cachedInt
  rw [if_neg (by simp [ht, hu])]
  exact wpAny_bind (wpAny_rule (wpAny_pure (wpAny_pure h)))
theorem is_int_ne (ht : t ≠ 0) (hu : u ≠ 0) (hpq : p ≠ q) (htu : t ≠ u) (h : Q (.bool false) s) : wpAny M A (compareOp .Is (.int p t) (.int q u)) Q E s := by
  show wpAny M A (do return .bool (← isSame (.int p t) (.int q u))) Q E s
  refine wpAny_bind ?_
  show wpAny M A (if (p == q && smallInt p) = true then isSame.cachedInt t u else isSame.created (p == q) t u) _ E s
  have hb : (p == q) = false := by simpa using hpq
  rw [hb, if_neg (by simp)]
  unfold isSame.created
  simp only [beq_eq_false_iff_ne.mpr ht, beq_eq_false_iff_ne.mpr hu, beq_eq_false_iff_ne.mpr htu, Bool.or_false, Bool.false_eq_true, if_false, Bool.not_false, if_true]
  exact wpAny_pure (wpAny_pure h)
end
def Keeps (m₀ : Str → Option Value) (xs : List Str) (m₁ : Str → Option Value) : Prop := ∀ z, z ∉ xs → m₁ z = m₀ z
theorem Keeps.refl (m₀ : Str → Option Value) (xs : List Str) : Keeps m₀ xs m₀ := fun _ _ => rfl
section
variable {prog : Program} {w : World} {A : Around} {env : Env} {E : Value → Shared → Prop} {s : Shared} {h₀ : Heap} {L : Addr} {m₀ : Str → Option Value} {news : List (Addr × Obj)} {Q : Flow → Shared → Prop} {target : Expr} {body : List Stmt}
theorem adr_lt {I : Addr} {nx : List (Addr × Obj)} (e : nx.map (·.1) = news.map (·.1)) (h : ∀ p ∈ news, p.1 < I) : ∀ p ∈ nx, p.1 < I := by
  intro p hp
  have h1 : p.1 ∈ nx.map (·.1) := List.mem_map.mpr ⟨p, hp, rfl⟩
  rw [e] at h1
  obtain ⟨q, hq, hq2⟩ := List.mem_map.mp h1
  rw [← hq2]
  exact h q hq
theorem loopList_T {l : Addr} {vs : List Value} (J : (Str → Option Value) → Nat → (Str → Option Value) → List (Addr × Obj) → Nat → Prop)
    (hh : A.handled = none) (F : Fr h₀ L s.heap m₀) (N : News h₀ L s.heap news) (hl : ∀ i m nx tk, J m₀ i m nx tk → nx.map (·.1) = news.map (·.1) ∧ ∃ nn, (l, listOf vs.toArray nn) ∈ nx) (h0 : J m₀ 0 m₀ news s.toks)
    (turn : ∀ i v m nx h tk I o, vs[i]? = some v → J m₀ i m nx tk → Fr h₀ L h m → News h₀ L h ((I, o) :: nx) → (∀ p ∈ nx, p.1 < I) →
      wpAny (model prog w) A (assign target env v) (fun _ s₃ => wpAny (model prog w) A (execs body env) (TurnEnd (fun s' => ∃ h' tk' m' nx', s' = { s with heap := h', toks := tk' } ∧ Fr h₀ L h' m' ∧ News h₀ L h' ((I, o) :: nx') ∧ J m₀ (i + 1) m' nx' tk') Q) E s₃) E { s with heap := h, toks := tk })
    (done : ∀ m nx h tk, J m₀ vs.length m nx tk → Fr h₀ L h m → News h₀ L h nx → Q .next { s with heap := h, toks := tk }) :
    wpAny (model prog w) A (pyIter (.ref l)) (fun it s₂ => LoopT prog w A env target body Q E it s₂) E s := by
  obtain ⟨_, nn, hl0⟩ := hl _ _ _ _ h0
  refine listIter_N F N (news_list N hl0) fun I o h' F' N' ho hI => ?_
  refine ⟨vs.length, fun i s' => ∃ h tk m nx o, s' = { s with heap := h, toks := tk } ∧ Fr h₀ L h m ∧ News h₀ L h ((I, o) :: nx) ∧ LitO o l i ∧ J m₀ i m nx tk, ⟨h', s.toks, m₀, news, o, rfl, F', N', ho, h0⟩, ?_, ?_⟩
  · rintro i s' hi ⟨h, tk, m, nx, o, rfl, F₁, N₁, ho₁, hJ⟩
    obtain ⟨ha, nn, hm⟩ := hl _ _ _ _ hJ
    have hlt := adr_lt ha hI
    refine listNext_N (s := { s with heap := h, toks := tk }) (items := vs.toArray) (v := vs[i]) F₁ N₁ hlt ho₁ (news_list (news_tail N₁) hm) (by simp [hi]) fun o' h₂ F₂ N₂ ho₂ => ⟨_, rfl, ?_⟩
    refine wpAny_mono (turn i vs[i] m nx h₂ tk I o' (by simp [hi]) hJ F₂ N₂ hlt) (fun _ s₃ h₃ => wpAny_mono h₃ (fun f s₄ h₄ => ?_) fun _ _ e => e) fun _ _ e => e
    have fin : (∃ h' tk' m' nx', s₄ = { s with heap := h', toks := tk' } ∧ Fr h₀ L h' m' ∧ News h₀ L h' ((I, o') :: nx') ∧ J m₀ (i + 1) m' nx' tk') →
        ∃ h tk m nx o, s₄ = { s with heap := h, toks := tk } ∧ Fr h₀ L h m ∧ News h₀ L h ((I, o) :: nx) ∧ LitO o l (i + 1) ∧ J m₀ (i + 1) m nx tk := by
      rintro ⟨h', tk', m', nx', e, F', N', hJ'⟩
      exact ⟨h', tk', m', nx', o', e, F', N', ho₂, hJ'⟩
    cases f with
    | next => exact fin h₄
    | cont => exact fin h₄
    | brk => exact h₄
    | ret v => exact h₄
  · rintro s' ⟨h, tk, m, nx, o, rfl, F₁, N₁, ho₁, hJ⟩
    obtain ⟨ha, nn, hm⟩ := hl _ _ _ _ hJ
    exact listEnd_N (s := { s with heap := h, toks := tk }) (items := vs.toArray) hh F₁ N₁ (adr_lt ha hI) ho₁ (news_list (news_tail N₁) hm) (by simp) fun h₂ F₂ N₂ => ⟨rfl, done m nx h₂ tk hJ F₂ N₂⟩
theorem loopRange_T {r : Addr} {a b : Int} {n : Nat} {t u v : Tok} (J : (Str → Option Value) → Nat → (Str → Option Value) → List (Addr × Obj) → Nat → Prop)
    (hh : A.handled = none) (F : Fr h₀ L s.heap m₀) (N : News h₀ L s.heap news) (hr : IsRange s.heap r a b 1 t u v) (hsmall : Builtin.Range.small a b 1 = true) (hn : Builtin.Range.rangeSize a b 1 = (n : Int))
    (hl : ∀ i m nx tk, J m₀ i m nx tk → nx.map (·.1) = news.map (·.1)) (h0 : J m₀ 0 m₀ news s.toks)
    (turn : ∀ i m nx h tk I o, i < n → J m₀ i m nx tk → Fr h₀ L h m → News h₀ L h ((I, o) :: nx) → (∀ p ∈ nx, p.1 < I) →
      wpAny (model prog w) A (assign target env (.int (a + (i : Int)) tk)) (fun _ s₃ => wpAny (model prog w) A (execs body env) (TurnEnd (fun s' => tk ≤ s'.toks → ∃ h' tk' m' nx', s' = { s with heap := h', toks := tk' } ∧ Fr h₀ L h' m' ∧ News h₀ L h' ((I, o) :: nx') ∧ J m₀ (i + 1) m' nx' tk') Q) E s₃) E { s with heap := h, toks := tk + 1 })
    (done : ∀ m nx h tk, J m₀ n m nx tk → Fr h₀ L h m → News h₀ L h nx → Q .next { s with heap := h, toks := tk }) :
    wpAny (model prog w) A (pyIter (.ref r)) (fun it s₂ => LoopT prog w A env target body Q E it s₂) E s := by
  refine rangeIter_N F N hr hsmall fun I h' F' N' hI => ?_
  rw [hn] at N'
  refine ⟨n, fun i s' => ∃ h tk m nx, s' = { s with heap := h, toks := tk } ∧ Fr h₀ L h m ∧ News h₀ L h ((I, ritO (a + (i : Int)) ((n : Int) - (i : Int))) :: nx) ∧ J m₀ i m nx tk, ⟨h', s.toks, m₀, news, rfl, F', by simpa using N', h0⟩, ?_, ?_⟩
  · rintro i s' hi ⟨h, tk, m, nx, rfl, F₁, N₁, hJ⟩
    have hlt := adr_lt (hl _ _ _ _ hJ) hI
    refine rangeNext_N (s := { s with heap := h, toks := tk }) F₁ N₁ hlt (by omega) fun h₂ F₂ N₂ => ⟨_, rfl, ?_⟩
    refine toks_of (wpAny_mono (turn i m nx h₂ tk I _ hi hJ F₂ N₂ hlt) (fun _ s₃ h₃ (hle : tk + 1 ≤ s₃.toks) => toks_of (wpAny_mono h₃ (fun f s₄ h₄ (hle2 : s₃.toks ≤ s₄.toks) => ?_) fun _ _ e => e)) fun _ _ e => e)
    have hle3 : tk ≤ s₄.toks := by omega
    have fin : (∃ h' tk' m' nx', s₄ = { s with heap := h', toks := tk' } ∧ Fr h₀ L h' m' ∧ News h₀ L h' ((I, ritO (a + (i : Int) + 1) ((n : Int) - (i : Int) - 1)) :: nx') ∧ J m₀ (i + 1) m' nx' tk') →
        ∃ h tk m nx, s₄ = { s with heap := h, toks := tk } ∧ Fr h₀ L h m ∧ News h₀ L h ((I, ritO (a + ((i + 1 : Nat) : Int)) ((n : Int) - ((i + 1 : Nat) : Int))) :: nx) ∧ J m₀ (i + 1) m nx tk := by
      rintro ⟨h', tk', m', nx', e, F', N', hJ'⟩
      have e1 : a + ((i + 1 : Nat) : Int) = a + (i : Int) + 1 := by omega
      have e2 : (n : Int) - ((i + 1 : Nat) : Int) = (n : Int) - (i : Int) - 1 := by omega
      rw [e1, e2]
      exact ⟨h', tk', m', nx', e, F', N', hJ'⟩
    cases f with
    | next => exact fin (h₄ hle3)
    | cont => exact fin (h₄ hle3)
    | brk => exact h₄
    | ret v => exact h₄
  · rintro s' ⟨h, tk, m, nx, rfl, F₁, N₁, hJ⟩
    exact rangeEnd_N (s := { s with heap := h, toks := tk }) hh F₁ N₁ (adr_lt (hl _ _ _ _ hJ) hI) (by omega) fun h₂ F₂ N₂ => ⟨rfl, done m nx h₂ tk hJ F₂ N₂⟩
theorem fr_two {h : Heap} {m₁ : Str → Option Value} {x1 x2 : Str} {v2 : Value} (F : Fr h₀ L h m₁) (hk : Keeps m₀ [x1, x2] m₁) (h2 : m₁ x2 = some v2) :
    Fr h₀ L h (fun y => if y = x1 then m₁ x1 else if y = x2 then some v2 else m₀ y) := fr_eq F fun y => by
  by_cases e1 : y = x1
  · simp [e1]
  · by_cases e2 : y = x2
    · rw [if_neg e1, if_pos e2, e2]; exact h2
    · simp only [e1, e2, if_false]; exact hk y (by simp [e1, e2])
end
theorem ba_mro : mroOf (.type "bytearray") = pure [.type "bytearray", .type "object"] := by rw [mroOf_type]; kernel_rfl
theorem ba_lookup_new : typeLookup (.type "bytearray") "__new__" = pure (some (.builtin "bytearray.__new__")) := by rw [typeLookup_type, builtinLookup_eq_fast]; kernel_rfl
theorem ba_made : Bind.madeBy (.type "bytearray") = pure (some "bytearray.__new__") := madeBy_type ba_mro ba_lookup_new (by decide +kernel)
theorem ba_slot_init : Slot "bytearray" "__init__" "bytearray.__init__" :=
  .of (owner := "bytearray") (n := "__init__") (by rw [typeLookup_type, builtinLookup_eq_fast]; kernel_rfl) (by decide +kernel) (by decide +kernel) (by decide +kernel)
    (by first | exact .inl (by decide +kernel) | exact .inr (by decide +kernel)) (by rw [isSubtype_type]; kernel_rfl)
theorem ba_typeCall (a : Value) : checkTypeCall "bytearray" ⟨[a], []⟩ = pure () := by kernel_rfl
theorem ba_newCall (a : Value) : checkBuiltinCall "bytearray.__new__" ⟨[.type "bytearray", a], []⟩ = pure () := by kernel_rfl
theorem ba_entry_new : entryFor table "bytearray.__new__" = some Builtin.«list.__new__» := entryFor_alias (id' := "list.__new__") (by kernel_rfl) (by first | rfl | decide +kernel | (unfold String.splitOn; simp +decide [String.splitOnAux])) (by decide +kernel) (by kernel_rfl)
theorem ba_entry_init : entryFor table "bytearray.__init__" = some Builtin.«bytearray.__init__» := by first | exact entryFor_of_fast (by kernel_rfl) | exact entryFor_of_tree (by kernel_rfl)
theorem ba_args_init (a b : Value) : argsOk "bytearray.__init__" ⟨[a, b], []⟩ := by unfold argsOk; kernel_rfl
theorem ba_plain_new : plainId "bytearray.__new__" = true := by decide +kernel
theorem ba_plain_init : plainId "bytearray.__init__" = true := by decide +kernel
theorem ba_bind (v : Value) : Builtin.Bytes.bindOptional "bytearray.__init__" "bytearray" ["source", "encoding", "errors"] [v] [] = pure [some v, none, none] := by kernel_rfl
theorem ba_release : typeLookup (.type "bytearray") "__release_buffer__" = pure (some (.builtin "bytearray.__release_buffer__")) := by rw [typeLookup_type, builtinLookup_eq_fast]; kernel_rfl
theorem ba_int_index : typeLookup (.type "int") "__index__" = pure (some (.builtin "int.__index__")) := by rw [typeLookup_type, builtinLookup_eq_fast]; kernel_rfl
theorem ba_sub : isSubtype (.type "bytearray") (.type "bytearray") = pure true := by rw [isSubtype_type]; kernel_rfl
theorem ba_create : ((Manifest.find? "bytearray").bind (·.mro.findSome? fun t => (Manifest.find? t).bind fun b => if b.noNew then some true else if b.attrs.any (·.1 == "__new__") then some false else none)).getD false = false := by decide +kernel
set_option maxRecDepth 1000000 in
theorem ba_owner : ("bytearray.__new__".splitOn ".__new__").headD "" = "bytearray" := by simp +decide [String.splitOn, String.splitOnAux]
section
variable {prog : Program} {w : World} {A : Around} {E : Value → Shared → Prop} {s : Shared} {R : Result → Shared → Prop}
theorem nd_call (a : Args) : notDec (.builtin "type.__call__" a) = true := by
  show (!(Builtin.Bytes.decodersThatHold ++ ["bytearray.__contains__", "bytearray.__mod__", "bytearray.__rmod__", "_struct.pack_into.held", "bytearray.find.held"]).contains "type.__call__") = true
  decide +kernel
theorem nd_init (a : Args) : notDec (.builtin "bytearray.__init__" a) = true := by
  show (!(Builtin.Bytes.decodersThatHold ++ ["bytearray.__contains__", "bytearray.__mod__", "bytearray.__rmod__", "_struct.pack_into.held", "bytearray.find.held"]).contains "bytearray.__init__") = true
  decide +kernel
theorem codeG_builtin {id : String} {args : Args} {b : Builtin} (hb : entryFor table id = some b)
    (h : wpG (model prog w) (A.under (.builtin id args)) (b args)
      (fun fin s' => match fin with | .done f => R (.ok f) s' | .again c' => c'.quiet = true ∧ notDec c' = true ∧ codeG (model prog w) A c' R s') (fun e s' => R (.error e) s') s) :
    codeG (model prog w) A (.builtin id args) R s := by
  refine codeG_of_tree ?_
  show wpG _ _ (match entryFor table id with | some b => b args | none => unsupported ((withoutEnding? id "#data").getD id)) _ _ s
  rw [hb]; exact h
theorem wpG_exported {a : Addr} {Q : Bool → Shared → Prop} (h : Q false s) : wpG (model prog w) A (Builtin.Bytes.exported (.ref a)) Q E s := fun Γ p hΓ hC => by
  unfold Builtin.Bytes.exported
  rw [Sem.wp_bind']
  show Sem.wp _ Γ (.stack .pure) _ _ p s
  rw [Sem.wp_stack, Sem.wp_pure]
  have key : ∀ f : Code × Pos → Bool, (∀ x, notDec x.1 = true → f x = false) → ((Γ.code, p) :: Γ.below).any f = false := fun f hf => by
    rw [List.any_cons, hf _ hC.1, Bool.false_or, List.any_eq_false]
    intro x hx
    have := List.all_eq_true.mp hC.2 x hx
    rw [hf x this]; exact Bool.false_ne_true
  have e : ∀ b : Bool, b = false → Sem.wp (model prog w) Γ (pure b) (fun a _ s' => Q a s') (fun e _ s' => E e s') p s := by rintro _ rfl; exact h
  refine e _ (key _ fun x hx => ?_)
  obtain ⟨c, q⟩ := x
  cases c with
  | builtin id args =>
    replace hx : notDec (.builtin id args) = true := hx
    unfold notDec at hx
    simp only [Bool.not_eq_true', List.contains_eq_mem, decide_eq_false_iff_not, List.mem_append, not_or, List.mem_cons, List.not_mem_nil] at hx
    obtain ⟨h1, h2, h3, h4, h5, h6, _⟩ := hx
    delta Builtin.Bytes.exported.match_1 Builtin.Bytes.exported._sparseCasesOn_1 Builtin.Bytes.exported._sparseCasesOn_2
    dsimp only
    rw [dif_neg h2, dif_neg h3, dif_neg h4, dif_neg h5, dif_neg h6]
    rcases args with ⟨_ | ⟨v, rest⟩, kw⟩
    · rfl
    · dsimp only
      rw [List.contains_eq_mem, decide_eq_false h1, Bool.and_false]
  | _ => rfl
theorem wpG_if_false {α : Type} {M : Model} {c : Bool} {a b : Sem α} {Q : α → Shared → Prop} (hc : c = false) (h : wpG M A b Q E s) : wpG M A (if c = true then a else b) Q E s := by
  subst hc
  exact h
theorem wpG_callSpecial {self : Value} {T : String} {name : Str} {id : String} {args : List Value} {Q : Option Value → Shared → Prop} (hT : s.TypeIs self T) (h : Slot T name id)
    (hc : wpG (model prog w) A (call (.builtin id) (self :: args)) (fun v => Q (some v)) E s) : wpG (model prog w) A (callSpecial? self name args []) Q E s := by
  simp only [callSpecial?]
  refine wpG_then (wpAny_specialOf hT h.lookup ?_)
  simp only [h.bind]
  exact wpG_holding (wpG_then (wpAny_pure (wpG_bind (wpG_mono hc (fun v s' h' => wpG_pure h') fun _ _ h' => h'))))
theorem codeG_call_slot {id : String} {T : String} {name : Str} {self : Value} {rest : List Value} {b : Builtin} (h : Slot T name id) (hT : s.TypeIs self T) (hok : argsOk id ⟨self :: rest, []⟩) (hb : entryFor table id = some b) (hn : ∀ a, notDec (.builtin id a) = true)
    (hc : wpG (model prog w) A.in1 (b ⟨self :: rest, []⟩) (fun fin s' => match fin with | .done f => R (.ok f) s' | .again c' => c'.quiet = true ∧ notDec c' = true ∧ codeG (model prog w) A c' R s') (fun e s' => R (.error e) s') s) :
    codeG (model prog w) A (.call (.builtin id) ⟨self :: rest, []⟩) R s := by
  refine codeG_of_tree ?_
  show wpG _ A.in1 (do checkBuiltinCall id ⟨self :: rest, []⟩; again (.builtin id ⟨self :: rest, []⟩)) _ _ s
  refine wpG_then (h.check _ _ _ _ _ _ _ _ hT hok ?_)
  refine wpG_pure ⟨plainId_quiet h.plain _, hn _, codeG_builtin hb ?_⟩
  rw [Around.under_plainId h.plain _]
  exact hc
theorem ba_new (a : Value) {Q₁ : Value → Shared → Prop}
    (h : Q₁ (.ref s.heap.objs.size) { s with heap := s.heap.push { cls := .type "bytearray", data := .bytearray #[] } }) :
    codeAny (model prog w) A (.call (.builtin "bytearray.__new__") ⟨[.type "bytearray", a], []⟩) (wants Q₁ E) s := by
  refine codeAny_of_tree ?_
  show wpAny _ A.in1 (do checkBuiltinCall "bytearray.__new__" ⟨[.type "bytearray", a], []⟩; again (.builtin "bytearray.__new__" ⟨[.type "bytearray", a], []⟩)) _ _ s
  refine wpAny_bind (wpAny_of_eq (ba_newCall a) (wpAny_pure ⟨plainId_quiet ba_plain_new _, codeAny_builtin_stack ba_entry_new rfl fun p st => ?_⟩))
  rw [Around.under_plainId ba_plain_new _]
  have hsub := ba_sub
  have hown := ba_owner
  obtain ⟨hp, g, d, tk, os⟩ := s
  simp only [hown]
  wp_walk
  exact h
theorem ba_init {S : Addr} {t : Tok} (hS : s.heap.get? S = some { cls := .type "bytearray", data := .bytearray #[] })
    (h : ∀ h', (∀ b, b ≠ S → h'.get? b = s.heap.get? b) → h'.get? S = some { cls := .type "bytearray", data := .bytearray (Array.replicate 4 0) } → R (.ok (.ret .none)) { s with heap := h' }) :
    wpG (model prog w) A.in1 (Builtin.«bytearray.__init__» ⟨[.ref S, .int 4 t], []⟩)
      (fun fin s' => match fin with | .done f => R (.ok f) s' | .again c' => c'.quiet = true ∧ notDec c' = true ∧ codeG (model prog w) A c' R s') (fun e s' => R (.error e) s') s := by
  have hT : s.TypeIs (.ref S) "bytearray" := ⟨_, hS, rfl⟩
  unfold Builtin.«bytearray.__init__»
  refine wpG_then (m := Builtin.Bytes.ownRelease (.ref S)) ?_
  unfold Builtin.Bytes.ownRelease Builtin.Bytes.slotIsOwn
  refine wpAny_bind (wpAny_bind (wpAny_specialOf hT ba_release ?_))
  have e1 : (!("bytearray.__release_buffer__" : String).endsWith ("." ++ "__release_buffer__")) = false := by decide +kernel
  have e2 : ("bytearray.__release_buffer__" : String).dropRight (("__release_buffer__" : String).length + 1) = "bytearray" := by decide +kernel
  dsimp only
  rw [e1, if_neg Bool.false_ne_true, e2]
  refine wpAny_isInstance (T := "bytearray") (b := true) hT ba_sub ?_
  refine wpAny_pure ?_
  refine wpG_if_false rfl ?_
  refine wpG_then (wpAny_of_eq (ba_bind _) ?_)
  refine wpG_then (m := Builtin.Bytes.checkCodecArg _ _ _ _) (wpAny_of_eq (a := ()) rfl ?_)
  refine wpG_then (m := Builtin.Bytes.checkCodecArg _ _ _ _) (wpAny_of_eq (a := ()) rfl ?_)
  refine wpG_bind (wpG_bind (wpG_exported ?_))
  refine wpG_of ?_
  show wpAny _ _ (Builtin.Bytes.exportsOf (.ref S) >>= _) _ _ s
  refine wpAny_bind ?_
  unfold Builtin.Bytes.exportsOf
  refine wpAny_bind (wpAny_load hS (wpAny_pure (wpAny_pure ?_)))
  refine wpG_of ?_
  refine bm_if_false rfl ?_
  refine wpAny_bind (m := Builtin.Bytes.write _ _) ?_
  show wpAny _ _ (updateBytearray S (fun _ => #[])) _ _ _
  unfold updateBytearray
  refine wpAny_bind (wpAny_load hS ?_)
  show wpAny _ _ (update S (Obj.mapBytearray (fun _ => #[])) >>= fun _ => lookBehind S) _ _ _
  refine wpAny_bind (wpAny_update hS ?_)
  have hS₂ : (s.heap.update S (Obj.mapBytearray (fun _ => #[]))).get? S = some { cls := .type "bytearray", data := .bytearray #[] } := Heap.get?_update_self (Obj.mapBytearray (fun _ => #[])) hS rfl
  refine wpAny_lookBehind hS₂ rfl ?_
  dsimp only
  refine wpAny_bind (m := asStr? _) (wpAny_of_eq (a := none) rfl ?_)
  refine bm_if_false rfl ?_
  refine wpAny_bind (bm_if_false rfl (bm_if_false rfl (wpAny_pure ?_)))
  refine wpAny_bind (wpAny_specialOf (T := "int") (v := .int 4 t) rfl ba_int_index ?_)
  refine bm_if_true rfl ?_
  refine wpAny_bind (wpAny_attempt (wpAny_of_eq (a := (4 : Int)) rfl ?_))
  dsimp only
  refine bm_if_false (by decide +kernel) ?_
  rw [if_neg (by decide)]
  refine bm_if_false (by decide) ?_
  refine bm_if_false (by decide +kernel) ?_
  refine wpAny_bind (wpAny_rule ?_)
  rw [if_pos (by decide)]
  refine wpAny_bind (m := Builtin.Bytes.write _ _) ?_
  show wpAny _ _ (updateBytearray S (fun _ => Array.replicate 4 0)) _ _ _
  unfold updateBytearray
  refine wpAny_bind (wpAny_load hS₂ ?_)
  show wpAny _ _ (update S (Obj.mapBytearray (fun _ => Array.replicate 4 0)) >>= fun _ => lookBehind S) _ _ _
  refine wpAny_bind (wpAny_update hS₂ ?_)
  have hS₃ := Heap.get?_update_self (Obj.mapBytearray (fun _ => (Array.replicate 4 0 : Array UInt8))) hS₂ rfl
  refine wpAny_lookBehind hS₃ (by decide +kernel) ?_
  have hR := h _ (fun b hb => (Heap.get?_update_other _ _ (Ne.symm hb)).trans (Heap.get?_update_other _ _ (Ne.symm hb))) hS₃
  exact wpAny_pure hR
theorem ba_initG {S : Addr} {t : Tok} (hS : s.heap.get? S = some { cls := .type "bytearray", data := .bytearray #[] })
    (h : ∀ h', (∀ b, b ≠ S → h'.get? b = s.heap.get? b) → h'.get? S = some { cls := .type "bytearray", data := .bytearray (Array.replicate 4 0) } → R (.ok (.ret .none)) { s with heap := h' }) :
    codeG (model prog w) A (.call (.builtin "bytearray.__init__") ⟨[.ref S, .int 4 t], []⟩) R s :=
  codeG_call_slot ba_slot_init ⟨_, hS, rfl⟩ (ba_args_init _ _) ba_entry_init nd_init (ba_init hS h)
theorem ba_call {t : Tok} {Q : Value → Shared → Prop}
    (h : ∀ h', (∀ b o, s.heap.get? b = some o → h'.get? b = some o) → h'.get? s.heap.objs.size = some { cls := .type "bytearray", data := .bytearray (Array.replicate 4 0) } → Q (.ref s.heap.objs.size) { s with heap := h' }) :
    wpG (model prog w) A (call (.type "bytearray") [.int 4 t]) Q E s := by
  refine wpG_call (codeG_of_tree ?_)
  show wpG _ _ (callAny (.type "bytearray") _) _ _ _
  refine wpG_pure ⟨Code.quiet_builtin _ (by decide +kernel), nd_call _, codeG_builtin F.entry_type_call ?_⟩
  rw [Around.under_plain (weight_type_call_type "bytearray" [.int 4 t] []) rfl]
  unfold Builtin.«type.__call__»
  refine wpG_if_false (by decide) ?_
  refine wpG_if_false ba_create ?_
  refine wpG_then (wpAny_of_eq (ba_typeCall _) ?_)
  refine wpG_then (wpAny_of_eq ba_mro ?_)
  refine wpG_if_false rfl ?_
  refine wpG_then (wpAny_of_eq ba_made ?_)
  refine wpG_then (wpAny_pure ?_)
  have hS : (s.heap.push { cls := .type "bytearray", data := .bytearray #[] }).get? s.heap.objs.size = some { cls := .type "bytearray", data := .bytearray #[] } := Heap.get?_push_size _ rfl
  refine wpG_then (wpAny_holding (wpAny_call (ba_new (.int 4 t) (Q₁ := fun obj s₁ => wpG _ _ _ _ _ s₁) ?_)))
  have hT : ({ s with heap := s.heap.push { cls := .type "bytearray", data := .bytearray #[] } } : Shared).TypeIs (.ref s.heap.objs.size) "bytearray" := ⟨_, hS, rfl⟩
  refine wpG_then (wpAny_isInstance (T := "bytearray") (b := true) hT ba_sub ?_)
  refine wpG_if_false rfl ?_
  refine wpG_bind (wpG_holding (wpG_callSpecial hT ba_slot_init (wpG_call (ba_initG hS fun h' hb hS' => ?_))))
  dsimp only
  refine wpG_if_false rfl ?_
  exact wpG_pure (h h' (fun b o e => (hb b (Nat.ne_of_lt (Heap.lt_size e))).trans (Heap.get?_push_of_some _ e)) hS')
end
section
variable {prog : Program} {w : World} {A : Around} {E : Value → Shared → Prop} {s : Shared}
def ByteAt (b : Array UInt8) (i : Nat) (v : Value) : Prop := ∃ c u, b[i]? = some c ∧ v = .int (c.toNat : Int) u
theorem extend_bytes {R : Result → Shared → Prop} (hh : A.handled = none) (x : Array UInt8) (t : Tok) (S : Addr) (res : Value) (c₀ : Nat) (hS : s.heap.get? S = some { cls := .type "list", data := .seq #[] c₀ })
    (hR : ∀ h' tk acc' c', (∀ b o, b ≠ S → s.heap.get? b = some o → h'.get? b = some o) → h'.get? S = some { cls := .type "list", dict := none, data := .seq acc' c', slots := #[] } →
      ItemsOf (ByteAt x) acc' x.size → R (.ok (.ret res)) { s with heap := h', toks := tk }) (hn : x.size ≤ sizeLine) :
    wpAny (model prog w) A.in1 (Builtin.List.listExtendWith (.ref S) (.bytes x t) res)
      (fun fin s' => match fin with | .done f => R (.ok f) s' | .again c' => c'.quiet = true ∧ codeAny (model prog w) A c' R s') (fun e s' => R (.error e) s') s := by
  have hSI : S ≠ s.heap.objs.size := Nat.ne_of_lt (Heap.lt_size hS)
  have hSf : S ∉ [s.heap.objs.size] := fun hm => hSI (List.mem_singleton.mp hm)
  unfold Builtin.List.listExtendWith
  refine wpAny_bind (wpAny_typeOf (T := "bytes") (v := .bytes x t) rfl ?_)
  have h1 : Builtin.List.listSameRef (.ref S) (.bytes x t) = false := rfl
  have h2 : (Value.type "bytes" == Value.type "list") = false := by decide
  have h3 : (Value.type "bytes" == Value.type "tuple") = false := by decide
  simp only [h1, h2, h3, Bool.or_false, Bool.false_eq_true, if_false]
  refine wpAny_bind (KBw.pyIter_bytes ?_)
  have W := (KBw.walks (prog := prog) (w := w) (A := A.in1) hh s.heap.objs.size x t).toS
  refine wpAny_bind (wpAny_holding ?_)
  unfold Builtin.List.listLengthHint
  refine wpAny_bind (wpAny_specialOf (T := "bytes") (v := .bytes x t) rfl FB.slot_bytes_len.lookup ?_)
  wp_delta
  refine wpAny_bind (wpAny_isInstance (T := "bytes") (v := .bytes x t) (b := true) rfl (by rw [isSubtype_type]; kernel_rfl) ?_)
  show wpAny _ _ (typeOf (Value.bytes x t) >>= _) _ _ _
  refine wpAny_bind (wpAny_typeOf (T := "bytes") (v := .bytes x t) rfl ?_)
  refine wpAny_pure ?_
  rw [if_neg (by decide)]
  refine wpAny_pure ⟨plainId_quiet F.plain_extend_loop _, codeAny_extend_loopS W hn _ hSf _ x.size 0 _ _ _ rfl (Nat.zero_le _) ⟨_, Heap.get?_push_size _ rfl, rfl, rfl⟩ (Heap.get?_push_of_some _ hS) (ItemsOf.nil _) fun s' acc' c' hm hS' hacc => ?_⟩
  rw [Moved.eq_with hm]
  refine hR s'.heap s'.toks acc' c' (fun b ob hb e => hm.heap b ob (fun hmem => ?_) (Heap.get?_push_of_some _ e)) hS' hacc
  rcases List.mem_cons.mp hmem with e' | hmem
  · exact hb e'
  · exact absurd (Heap.lt_size e) (by rw [List.mem_singleton.mp hmem]; exact Nat.lt_irrefl _)
theorem init_bytes {R : Result → Shared → Prop} (hh : A.handled = none) (x : Array UInt8) (t : Tok) (S : Addr) (hS : s.heap.get? S = some { cls := .type "list", data := .seq #[] })
    (hR : ∀ h' tk acc' c', (∀ b o, b ≠ S → s.heap.get? b = some o → h'.get? b = some o) → h'.get? S = some { cls := .type "list", dict := none, data := .seq acc' c', slots := #[] } →
      ItemsOf (ByteAt x) acc' x.size → R (.ok (.ret .none)) { s with heap := h', toks := tk }) (hn : x.size ≤ sizeLine) :
    wpAny (model prog w) A.in1 (Builtin.«list.__init__» ⟨[.ref S, .bytes x t], []⟩)
      (fun fin s' => match fin with | .done f => R (.ok f) s' | .again c' => c'.quiet = true ∧ codeAny (model prog w) A c' R s') (fun e s' => R (.error e) s') s := by
  show wpAny _ _ (do let old ← Builtin.List.listItems (.ref S); Builtin.List.listUpdate (.ref S) (fun _ => #[]); letGo old.toList.reverse; Builtin.List.listExtendWith (.ref S) (.bytes x t) .none) _ _ s
  refine wpAny_bind ?_
  unfold Builtin.List.listItems
  refine wpAny_bind (wpAny_seqItems hS rfl (wpAny_pure ?_))
  show wpAny _ _ (updateSeq S (fun _ => #[]) >>= fun _ => letGo (#[] : Array Value).toList.reverse >>= fun _ => Builtin.List.listExtendWith (.ref S) (.bytes x t) .none) _ _ s
  refine wpAny_bind (wpAny_updateSeq hS rfl ?_)
  have hS₂ := Heap.get?_update_self (Obj.mapSeq (fun _ => (#[] : Array Value))) hS rfl
  refine wpAny_bind (wpAny_letGo ?_)
  exact extend_bytes hh x t S .none _ hS₂ (fun h' tk acc' c' hk => hR h' tk acc' c' fun b o hb e => hk b o hb ((Heap.get?_update_other _ _ (Ne.symm hb)).trans e)) hn
theorem ints_of_bytes {b : Array UInt8} {acc : Array Value} (h : ItemsOf (ByteAt b) acc b.size) : IntsAre acc.toList (KBw.bInts b) := by
  obtain ⟨h1, h2⟩ := h
  have key : ∀ (l : List Value) (k : List Int), l.length = k.length → (∀ (j : Nat) v, l[j]? = some v → ∃ c u, k[j]? = some c ∧ v = .int c u) → IntsAre l k := by
    intro l
    induction l with
    | nil => intro k hk _; cases k with
      | nil => exact .nil
      | cons _ _ => cases hk
    | cons v r ih =>
      intro k hk hj
      cases k with
      | nil => cases hk
      | cons n q =>
        obtain ⟨c, u, e, rfl⟩ := hj 0 v rfl
        cases e
        exact .cons _ _ (ih q (Nat.succ.inj hk) fun j v hv => hj (j + 1) v hv)
  refine key _ _ (by rw [KBw.ints_length, Array.length_toList, h1]) fun j v hv => ?_
  obtain ⟨c, u, hc, e⟩ := h2 j v (by simpa using hv)
  exact ⟨_, u, KBw.ints_get hc, e⟩
theorem list_bytesK {Q : Value → Shared → Prop} {h₀ : Heap} {L : Addr} {m : Str → Option Value} {news : List (Addr × Obj)} {ns : List Int} {b : Array UInt8} {t : Tok} (F9 : Fr h₀ L s.heap m) (N : News h₀ L s.heap news) (hh : A.handled = none) (hb : KBw.bInts b = ns) (hn : ns.length ≤ 1000)
    (h : ∀ D h' tk' vs nn, IntsAre vs ns → Fr h₀ L h' m → News h₀ L h' ((D, listOf vs.toArray nn) :: news) → (∀ p ∈ news, p.1 < D) → L < D → Q (.ref D) { s with heap := h', toks := tk' }) : wpAny (model prog w) A (call (.type "list") [.bytes b t]) Q E s := by
  have hsz : b.size ≤ sizeLine := by
    rw [← KBw.ints_length, hb, sizeLine_eq]; omega
  refine callType_codes (Q₁ := fun obj s₁ => obj = .ref s.heap.objs.size ∧ s₁ = { s with heap := s.heap.push { cls := .type "list", data := .seq #[] } }) F.called_list (F.typeCall_list_1 _) F.entry_list_init
    (code_list_new _ ⟨rfl, rfl⟩) fun obj s₁ h₁ => ?_
  obtain ⟨rfl, rfl⟩ := h₁
  have hS : (s.heap.push { cls := .type "list", data := .seq #[] }).get? s.heap.objs.size = some { cls := .type "list", data := .seq #[] } := Heap.get?_push_size _ rfl
  refine ⟨⟨_, hS, rfl⟩, F.args_list_init_2 _ _, init_bytes (A := A.in1) hh b t _ hS (fun h' tk acc' c' hk hS' hacc => ?_) hsz⟩
  have hkk : ∀ b o, s.heap.get? b = some o → h'.get? b = some o := fun b o e => hk b o (Nat.ne_of_lt (Heap.lt_size e)) (Heap.get?_push_of_some _ e)
  refine ⟨rfl, h s.heap.objs.size h' tk acc'.toList c' (hb ▸ ints_of_bytes hacc) (F9.keptAll hkk) ?_ (fun p hp => Heap.lt_size (N p hp).1) F9.ns.lt⟩
  have hS2 : h'.get? s.heap.objs.size = some (listOf acc'.toList.toArray c') := by rw [Array.toArray_toList]; exact hS'
  exact news_pushed F9 N hkk hS2 rfl
end
noncomputable abbrev baO (b : Array UInt8) : Obj := { cls := .type "bytearray", data := .bytearray b }
theorem ba_slot_setitem : Slot "bytearray" "__setitem__" "bytearray.__setitem__" :=
  .of (owner := "bytearray") (n := "__setitem__") (by rw [typeLookup_type, builtinLookup_eq_fast]; kernel_rfl) (by decide +kernel) (by decide +kernel) (by decide +kernel)
    (by first | exact .inl (by decide +kernel) | exact .inr (by decide +kernel)) (by rw [isSubtype_type]; kernel_rfl)
theorem ba_entry_setitem : entryFor table "bytearray.__setitem__" = some Builtin.«bytearray.__setitem__» := by first | exact entryFor_of_fast (by kernel_rfl) | exact entryFor_of_tree (by kernel_rfl)
theorem ba_args_setitem (a b c : Value) : argsOk "bytearray.__setitem__" ⟨[a, b, c], []⟩ := by unfold argsOk; kernel_rfl
theorem ba_no_bytes : typeLookup (.type "bytearray") "__bytes__" = pure none := by rw [typeLookup_type, builtinLookup_eq_fast]; kernel_rfl
theorem ba_no_index : typeLookup (.type "bytearray") "__index__" = pure none := by rw [typeLookup_type, builtinLookup_eq_fast]; kernel_rfl
theorem ba_buffer : typeLookup (.type "bytearray") "__buffer__" = pure (some (.builtin "bytearray.__buffer__")) := by rw [typeLookup_type, builtinLookup_eq_fast]; kernel_rfl
section
variable {prog : Program} {w : World} {A : Around} {E : Value → Shared → Prop} {s : Shared}
theorem ba_setItem {l : Addr} {b : Array UInt8} {k v : Int} {t u : Tok} {Q : Unit → Shared → Prop} (hl : s.heap.get? l = some (baO b)) (h0 : 0 ≤ k) (h1 : k < b.size) (hsz : b.size ≤ 1000) (hv0 : 0 ≤ v) (hv1 : v < 256)
    (hQ : ∀ h', h'.get? l = some (baO (b.setIfInBounds k.toNat v.toNat.toUInt8)) → Heap.SameBut l s.heap h' → Q () { s with heap := h' }) :
    wpAny (model prog w) A (setItem (.ref l) (.int k t) (.int v u)) Q E s := by
  have hT : s.TypeIs (.ref l) "bytearray" := ⟨_, hl, rfl⟩
  unfold setItem
  try with_reducible refine wpAny_holding ?_
  first | refine wpAny_bind (wpAny_pure ?_) | skip
  refine wpAny_bind (wpAny_sequenceKey hT (by decide) ?_)
  refine wpAny_bind (wpAny_callSpecial?_slot (name := Str.ofString "__setitem__") hT ba_slot_setitem
    (wpAny_call_entry ba_slot_setitem hT ba_entry_setitem ?_ (ba_args_setitem _ _ _)))
  unfold Builtin.«bytearray.__setitem__»
  refine bm_if_false rfl ?_
  refine wpAny_bind (m := Builtin.Bytes.subscript? _) ?_
  unfold Builtin.Bytes.subscript?
  refine wpAny_bind (wpAny_specialOf (T := "int") (v := .int k t) rfl ba_int_index ?_)
  refine bm_if_false rfl ?_
  refine wpAny_bind (wpAny_of_eq (a := k) rfl ?_)
  refine bm_if_false (by unfold Builtin.Bytes.fitsIndex; simp; omega) ?_
  refine wpAny_pure ?_
  dsimp only
  refine wpAny_bind (m := Builtin.Bytes.byteValue _) ?_
  unfold Builtin.Bytes.byteValue
  refine wpAny_bind (wpAny_of_eq (a := v) rfl ?_)
  refine bm_if_false (by simp; omega) ?_
  refine wpAny_pure ?_
  unfold Builtin.Bytes.payload Builtin.Bytes.payload?
  refine wpAny_bind (wpAny_bind (wpAny_bind (wpAny_load hl ?_)))
  refine wpAny_pure (wpAny_pure ?_)
  have e : seqIndex? k b.size = some k.toNat := by
    have hk : (if k < 0 then k + (b.size : Int) else k) = k := if_neg (by omega)
    simp only [seqIndex?, hk]
    rw [if_pos (by simp; omega)]
  rw [e]
  dsimp only
  refine wpAny_bind (m := Builtin.Bytes.write _ _) ?_
  show wpAny _ _ (updateBytearray l (fun x => x.setIfInBounds k.toNat v.toNat.toUInt8)) _ _ _
  unfold updateBytearray
  refine wpAny_bind (wpAny_load hl ?_)
  show wpAny _ _ (update l (Obj.mapBytearray (fun x => x.setIfInBounds k.toNat v.toNat.toUInt8)) >>= fun _ => lookBehind l) _ _ _
  refine wpAny_bind (wpAny_update hl ?_)
  have hS := Heap.get?_update_self (Obj.mapBytearray (fun x => x.setIfInBounds k.toNat v.toNat.toUInt8)) hl rfl
  refine wpAny_lookBehind hS ?_ ?_
  · show (if (b.setIfInBounds k.toNat v.toNat.toUInt8).size > sizeLine then some "bytearray:memory" else none) = none
    rw [if_neg]
    rw [Array.size_setIfInBounds, sizeLine_eq]; omega
  · exact wpAny_pure ⟨.none, rfl, wpAny_pure (hQ _ hS (Heap.SameBut.update ..))⟩
theorem ba_setK {D : Addr} {b : Array UInt8} {k v : Int} {t u : Tok} {Q : Unit → Shared → Prop} {h₀ : Heap} {L : Addr} {m : Str → Option Value} {pre post : List (Addr × Obj)} (F9 : Fr h₀ L s.heap m) (N : News h₀ L s.heap (pre ++ (D, baO b) :: post)) (hne : ∀ p ∈ pre ++ post, p.1 ≠ D)
    (h0 : 0 ≤ k) (h1 : k < b.size) (hsz : b.size ≤ 1000) (hv0 : 0 ≤ v) (hv1 : v < 256)
    (h : ∀ h', Fr h₀ L h' m → News h₀ L h' (pre ++ (D, baO (b.setIfInBounds k.toNat v.toNat.toUInt8)) :: post) → Q () { s with heap := h' }) :
    wpAny (model prog w) A (setItem (.ref D) (.int k t) (.int v u)) Q E s := by
  have z := N (D, baO b) (List.mem_append.mpr (.inr (.head _)))
  refine ba_setItem z.1 h0 h1 hsz hv0 hv1 fun h' hD hs => h h' (F9.change hs z.2.1 z.2.2) fun q hq => ?_
  have old : ∀ q ∈ pre ++ post, h'.get? q.1 = some q.2 ∧ q.1 ≠ L ∧ h₀.get? q.1 = none := fun q hq => by
    have y := N q (by rcases List.mem_append.mp hq with x | x; exact List.mem_append.mpr (.inl x); exact List.mem_append.mpr (.inr (.tail _ x)))
    exact ⟨(hs.2 _ (hne q hq)).trans y.1, y.2⟩
  rcases List.mem_append.mp hq with x | x
  · exact old q (List.mem_append.mpr (.inl x))
  · rcases List.mem_cons.mp x with rfl | x
    · exact ⟨hD, z.2⟩
    · exact old q (List.mem_append.mpr (.inr x))
theorem ba_own {l : Addr} {nm id : String} {Q : Bool → Shared → Prop} (hT : s.TypeIs (.ref l) "bytearray") (hl : typeLookup (.type "bytearray") (Str.ofString nm) = pure (some (.builtin id))) (e1 : (!id.endsWith ("." ++ nm)) = false) (e2 : id.dropRight (nm.length + 1) = "bytearray") (h : Q true s) :
    wpAny (model prog w) A (Builtin.Bytes.slotIsOwn (.ref l) nm) Q E s := by
  unfold Builtin.Bytes.slotIsOwn
  refine wpAny_bind (wpAny_specialOf hT hl ?_)
  dsimp only
  rw [e1, if_neg Bool.false_ne_true, e2]
  exact wpAny_isInstance (T := "bytearray") (b := true) hT ba_sub h
theorem bytes_of_ba {l : Addr} {b : Array UInt8} {Q : Value → Shared → Prop} (hl : s.heap.get? l = some (baO b)) (hsz : b.size ≤ 1000)
    (hQ : ∀ t k, Q (.bytes b t) { s with toks := k }) :
    codeAny (model prog w) A (.call (.builtin "bytes.__new__") ⟨[.type "bytes", .ref l], []⟩) (wants Q E) s := by
  refine codeAny_of_tree ?_
  show wpAny _ A.in1 (do checkBuiltinCall "bytes.__new__" ⟨[.type "bytes", .ref l], []⟩; again (.builtin "bytes.__new__" ⟨[.type "bytes", .ref l], []⟩)) _ _ s
  refine wpAny_bind (wpAny_of_eq (F.bm_newCall _) (wpAny_pure ⟨plainId_quiet F.bm_plain _, codeAny_builtin F.bm_entry ?_⟩))
  rw [Around.under_plainId F.bm_plain _]
  have hT : s.TypeIs (.ref l) "bytearray" := ⟨_, hl, rfl⟩
  unfold Builtin.«bytes.__new__»
  refine wpAny_bind (wpAny_of_eq (a := true) rfl ?_)
  refine bm_if_false rfl ?_
  refine wpAny_bind (wpAny_of_eq F.bm_sub ?_)
  refine bm_if_false rfl ?_
  refine wpAny_bind (wpAny_of_eq (F.bm_bind _) ?_)
  refine wpAny_bind (wpAny_of_eq (a := ()) rfl ?_)
  refine wpAny_bind (wpAny_of_eq (a := ()) rfl ?_)
  refine bm_if_false rfl ?_
  refine wpAny_bind (wpAny_specialOf hT ba_no_bytes ?_)
  refine wpAny_bind (wpAny_bind ?_)
  show wpAny _ _ (load l >>= _) _ _ _
  refine wpAny_bind (wpAny_load hl ?_)
  refine wpAny_pure (wpAny_pure ?_)
  refine bm_if_false rfl ?_
  refine wpAny_bind (wpAny_specialOf hT ba_no_index ?_)
  refine bm_if_true rfl ?_
  first
    | show wpAny _ _ (Builtin.Bytes.buffer? "bytes.__new__" (.ref l) true >>= _) _ _ _
    | (refine wpAny_bind ?_; show wpAny _ _ (Builtin.Bytes.buffer? "bytes.__new__" (.ref l) true >>= _) _ _ _)
  refine wpAny_bind ?_
  unfold Builtin.Bytes.buffer?
  refine wpAny_bind (wpAny_specialOf hT ba_buffer ?_)
  refine wpAny_bind (m := Builtin.Bytes.slotIsOwn _ _) (ba_own hT ba_buffer (by decide +kernel) (by decide +kernel) ?_)
  refine bm_if_false rfl ?_
  refine wpAny_bind (wpAny_specialOf hT ba_buffer ?_)
  refine wpAny_bind (m := Builtin.Bytes.ownRelease _) ?_
  unfold Builtin.Bytes.ownRelease
  refine wpAny_bind (ba_own hT ba_release (by decide +kernel) (by decide +kernel) (wpAny_pure ?_))
  refine bm_if_false rfl ?_
  unfold Builtin.Bytes.payload Builtin.Bytes.payload?
  refine wpAny_bind (wpAny_bind (wpAny_bind (wpAny_load hl ?_)))
  refine wpAny_pure (wpAny_pure (wpAny_pure ?_))
  dsimp only
  refine wpAny_bind (wpAny_rule ?_)
  refine wpAny_bind (wpAny_mkBytes ?_ (by rw [sizeLine_eq]; omega))
  show wpAny _ _ (if (Value.type "bytes" == Value.type "bytes") = true then _ else _) _ _ _
  refine bm_if_true (by decide) ?_
  first
    | exact wpAny_pure (hQ _ _)
    | exact wpAny_bind (wpAny_pure (wpAny_pure (hQ _ _)))
theorem call_bytes_ba {l : Addr} {b : Array UInt8} {Q : Value → Shared → Prop} (hl : s.heap.get? l = some (baO b)) (hsz : b.size ≤ 1000)
    (hQ : ∀ t k, Q (.bytes b t) { s with toks := k }) : wpAny (model prog w) A (call (.type "bytes") [.ref l]) Q E s := by
  refine callType_codes (Q₁ := fun obj s₁ => s₁.TypeIs obj "bytes" ∧ Q obj s₁) F.bm_called (F.bm_typeCall _) F.entry_object_init
    (bytes_of_ba hl hsz fun t k => ⟨PySem.W.typeIs_bytes _ _ _, hQ t k⟩) fun obj s₁ h₁ => ?_
  exact ⟨h₁.1, F.args_object_init_2 obj _, object_init_meets F.bm_called.init.lookup F.bm_called.made (by decide) prog w A.in1 _ s₁ ⟨h₁.1, rfl, h₁.2⟩⟩
end
/-- the code table of a def that holds a nested def: empty, or filled with the nested def's code -/
inductive TabS (a : Addr) (ln : Int) (nm : Str) : List (Addr × Obj) → Prop
  | none : TabS a ln nm [(a, tabObj #[])]
  | one {c : Addr} {oc : Obj} {vs : Array Value} {tc : Tok} : oc.data = .fields vs → vs[1]? = some (.str nm tc) → @LT.lt Nat instLTNat 40 c → TabS a ln nm [(a, tabObj #[rawInt ln, rawInt 4, .ref c]), (c, oc)]
theorem TabS.off {a b : Addr} {ln : Int} {nm : Str} {t : List (Addr × Obj)} (h : TabS a ln nm t) (hab : a ≠ b) (hb : @LT.lt Nat instLTNat b 41) : ∀ q ∈ t, q.1 ≠ b := by
  cases h with
  | none =>
    intro q hq
    cases hq with
    | head => exact hab
    | tail _ hq => cases hq
  | one _ _ hc =>
    intro q hq
    cases hq with
    | head => exact hab
    | tail _ hq => cases hq with
      | head => exact Nat.ne_of_gt (Nat.lt_of_lt_of_le hb hc)
      | tail _ hq => cases hq
noncomputable abbrev TabD := TabS 37 47 (Str.ofString "_digits2int.<locals>.inner")
noncomputable abbrev TabI := TabS 30 32 (Str.ofString "_int2digits.<locals>.inner")
theorem off_app {b : Addr} {t l : List (Addr × Obj)} (h1 : ∀ q ∈ t, q.1 ≠ b) (h2 : ∀ q ∈ l, q.1 ≠ b) : ∀ q ∈ t ++ l, q.1 ≠ b := fun q hq => (List.mem_append.mp hq).elim (h1 q) (h2 q)
theorem off_cons {b : Addr} {x : Addr × Obj} {l : List (Addr × Obj)} (h1 : x.1 ≠ b) (h2 : ∀ q ∈ l, q.1 ≠ b) : ∀ q ∈ x :: l, q.1 ≠ b := fun q hq => (List.mem_cons.mp hq).elim (fun e => e ▸ h1) (h2 q)
/-- an opaque name for a ledger -/
theorem led_abs {g h : Heap} {L : Addr} {l : List (Addr × Obj)} (N : News g L h l) : ∃ l', l' = l ∧ News g L h l' := ⟨l, rfl, N⟩
theorem led_abs1 {g h : Heap} {L : Addr} {x : Addr × Obj} {l : List (Addr × Obj)} (N : News g L h (x :: l)) : ∃ l', l' = l ∧ News g L h (x :: l') := ⟨l, rfl, N⟩
theorem fr_abs {g h : Heap} {L : Addr} {m : Str → Option Value} (F : Fr g L h m) : ∃ m', m' = m ∧ Fr g L h m' := ⟨m, rfl, F⟩
theorem updF_app {a : Addr} {o : Obj} {rest : List (Addr × Obj)} (hr : ∀ q ∈ rest, q.1 ≠ a) : ∀ {pre : List (Addr × Obj)}, (∀ q ∈ pre, q.1 ≠ a) → UpdF a o (pre ++ (a, o) :: rest) (fun o' => pre ++ (a, o') :: rest)
  | [], _ => .head hr
  | x :: _, h => .tail (h x (.head _)) (updF_app hr fun q hq => h q (.tail _ hq))
section
variable {M : Model} {A : Around} {E : Value → Shared → Prop} {s : Shared} {h₀ : Heap} {L a c P : Addr} {m mg mb : Str → Option Value} {cn : Str} {cs : Scope} {ccd : Value} {cl : List (Str × Addr)}
  {p : Program} {loose : List Str} {mean : ExcName → Option Value} {name qual : Str} {params : Arguments} {body : List Stmt} {scope : Scope} {pos : Pos} {firstLine : Nat} {clos : List (Str × Addr)} {pre tD rest : List (Addr × Obj)}
/-- the nested def, its maker's table empty or filled -/
theorem nestS_K {Q : Value → Shared → Prop} (F : Fr h₀ L s.heap m) (N : News h₀ L s.heap (pre ++ (tD ++ rest))) (T : Top p loose mean mg mb h₀) (C : CodeHd h₀ c P) (hcd : ccd = .ref c) {ln : Int} (hT : TabS P ln qual tD) (hl : (pos.line : Int) = ln) (hp : pos.col = 4)
    (h1 : ∀ q ∈ pre, q.1 ≠ P) (h2 : ∀ q ∈ rest, q.1 ≠ P) (h3 : ∃ q ∈ pre, @LT.lt Nat instLTNat 40 q.1) (h4 : ∀ q ∈ tD, ∀ y ∈ pre, q.1 < y.1) (hcl : closureFor scope (envX cn cs L a ccd cl) = pure clos)
    (h : ∀ f c' oc vs t ctv doc h' tk, Fr h₀ L h' m →
      News h₀ L h' ((f, fnMade name qual params body scope clos doc ((mg "__name__").getD .none) c' ctv) :: (pre ++ ((P, tabObj #[rawInt ln, rawInt 4, .ref c']) :: (c', oc) :: rest))) →
      oc.data = .fields vs → vs[1]? = some (.str qual t) → @LT.lt Nat instLTNat 40 c' → (∀ q ∈ pre, q.1 ≠ c') → (∀ q ∈ pre ++ rest, q.1 < f) → Q (.ref f) { s with heap := h', toks := tk }) :
    wpAny M A (makeFunction name qual params (.stmts body) scope (envX cn cs L a ccd cl) [] [] [] pos firstLine) Q E s := by
  obtain ⟨q3, m3, l3⟩ := h3
  subst hl
  have col : rawInt pos.col = rawInt 4 := by rw [hp]; rfl
  cases hT with
  | none =>
    refine nest_K (U := updF_app (a := P) (o := tabObj #[]) h2 h1) F N T C hcd trivial rfl hcl fun f c' oc vs t ctv doc h' tk F' N' d1 d2 l1 l2 => ?_
    have k40 : @LT.lt Nat instLTNat 40 c' := Nat.lt_trans l3 (l1 q3 (List.mem_append_left _ m3))
    refine h f c' oc vs t ctv doc h' tk F' (fun q hq => N' q ?_) d1 d2 k40 (fun q hq => Nat.ne_of_lt (l1 q (List.mem_append_left _ hq))) (fun q hq => Nat.lt_trans (l1 q ?_) l2)
    · simp only [List.mem_cons, List.mem_append, col] at hq ⊢
      rcases hq with e | e | e | e | e <;> simp [e]
    · simp only [List.mem_cons, List.mem_append] at hq ⊢
      rcases hq with e | e <;> simp [e]
  | one d1 d2 k40 =>
    rename_i c1 oc1 vs1 tc1
    refine nestHit_K (c' := c1) (ps := #[rawInt pos.line, rawInt 4, .ref c1]) F N T C hcd (List.mem_append_right _ (.head _)) trivial (by rw [← col]; simp [codeAmong, rawInt]) hcl fun f ctv doc h' tk F' N' l1 => ?_
    refine h f _ _ _ _ ctv doc h' tk F' N' d1 d2 k40 (fun y hy => Nat.ne_of_gt (h4 _ (.tail _ (.head _)) y hy)) fun q hq => l1 q ?_
    simp only [List.mem_cons, List.mem_append] at hq ⊢
    rcases hq with e | e <;> simp [e]
end
end Mine
namespace Mine
local macro_rules | `(tactic| walk_at $s:str) => `(tactic| k_extra $s)
local macro_rules | `(tactic| k_room) => `(tactic| ktr_room)
local macro_rules | `(tactic| k_all) => `(tactic| assumption)
section
local macro_rules | `(tactic| omega) => `(tactic| lia)
section
variable {prog : Program} {w : World} {A : Around} {E : Value → Shared → Prop} {s : Shared} {h₀ : Heap} {L : Addr} {m : Str → Option Value} {env : Env}
inductive EltEnd (h₀ : Heap) (L : Addr) (m : Str → Option Value) (s₁ : Shared) (x : Int) (led : List (Addr × Obj)) (y : Value) (s₂ : Shared) : Prop
  | mk (tq : Tok) (h' : Heap) (tk' : Tok)
    (e1 : y = .int x tq)
    (e2 : s₂ = { s₁ with heap := h', toks := tk' })
    (e3 : Fr h₀ L h' m)
    (e4 : News h₀ L h' led) : EltEnd h₀ L m s₁ x led y s₂
inductive CompT (prog : Program) (w : World) (A : Around) (h₀ : Heap) (L : Addr) (m : Str → Option Value) (env : Env) (elt : Expr) (x : Str) (scope : Scope) (cl : List (Str × Addr)) (Q : Value → Shared → Prop) (xv : Value) (s₁ : Shared) : Prop
  | mk (r : Addr) (a b : Int) (t u v : Tok) (n : Nat) (news : List (Addr × Obj)) (g : Nat → Int)
    (e1 : xv = .ref r)
    (e2 : A.handled = none)
    (e3 : Fr h₀ L s₁.heap m)
    (e4 : News h₀ L s₁.heap news)
    (e5 : IsRange s₁.heap r a b 1 t u v)
    (e6 : Builtin.Range.small a b 1 = true)
    (e7 : Builtin.Range.rangeSize a b 1 = ((n : Nat) : Int))
    (e8 : n ≤ sizeLine)
    (e9 : (∀ (i : Nat) (t : Tok) I oI C oC D oD m₂ h tk (E' : Value → Shared → Prop), i < n → s₁.toks ≤ t → LCg.NsObj oC m₂ → m₂ x = some (.int (a + (i : Int)) t) → Fr h₀ L h m → News h₀ L h ((I, oI) :: (C, oC) :: (D, oD) :: news) → (∀ p ∈ news, p.1 < I) → I < D → D < C →
      wpAny (model prog w) A (eval elt (compEnvC scope cl C env)) (EltEnd h₀ L m s₁ (g i) ((I, oI) :: (C, oC) :: (D, oD) :: news)) E' { s₁ with heap := h, toks := tk }))
    (e10 : (∀ D ys h tk, IntsAre ys ((List.range n).map g) → Fr h₀ L h m → News h₀ L h ((D, LCg.lst ys) :: news) → (∀ p ∈ news, p.1 < D) → Q (.ref D) { s₁ with heap := h, toks := tk })) : CompT prog w A h₀ L m env elt x scope cl Q xv s₁
theorem ListComp_T {elt iter : Expr} {x : Str} {px : Pos} {scope : Scope} {cl : List (Str × Addr)} {pos : Pos} {Q : Value → Shared → Prop} (F₀ : Fr h₀ L s.heap m)
    (hclos : closureFor scope env = pure cl) (hcell : ∀ y ∈ scope.names, y.2 ≠ .cell) (hkind : scope.kind = .function)
    (hnames : ∀ y ∈ scope.names, y.2 = .local → scope.names.lookup y.1 = some .local) (hx : scope.names.lookup x = some .local)
    (h : wpAny (model prog w) A (eval iter env) (fun xv s₁ => s.toks ≤ s₁.toks → CompT prog w A h₀ L m env elt x scope cl Q xv s₁) E s)
    (hs : ∀ x, foldedSetIterable iter env x = pure x := by intro _; rfl) :
    wpAny (model prog w) A (eval (.ListComp elt [⟨.Name x px, iter, [], 0⟩] scope pos) env) Q E s := by
  rw [eval_ListComp]
  refine wpAny_comprehension_free (use := none) rfl hs hclos hkind hnames (toks_of (wpAny_mono h (fun xv s₁ h₁ hle => ?_) fun _ _ e => e))
  replace h₁ := h₁ hle
  obtain ⟨r, a, b, t, u, v, n, news, g, rfl, hh, F, N, hr, hsm, hn, hsz, turn, fin⟩ := h₁
  refine rangeIter_N F N hr hsm fun I h2 F2 N2 hI => ?_
  rw [hn] at N2
  refine wpAny_newObj_type (wpAny_newFunctionEnv hcell (by intro y hy; simp at hy) (fun h₁ hns₁ hsb₁ => ?_) hkind)
  dsimp only at hns₁ hsb₁ ⊢
  have F3 := F2.push { cls := .type "list", dict := none, data := .seq ([] : List Value).toArray }
  have N3 := N2.push F2 { cls := .type "list", dict := none, data := .seq ([] : List Value).toArray }
  have hD : I < h2.objs.size := Heap.lt_size (N2 _ (.head _)).1
  generalize hH : h2.push { cls := .type "list", dict := none, data := .seq ([] : List Value).toArray } = H2 at hns₁ hsb₁ F3 N3 ⊢
  generalize h2.objs.size = D at hD N3 ⊢
  have hC : D < H2.objs.size := Heap.lt_size (N3 _ (.head _)).1
  have old : ∀ b o, H2.get? b = some o → h₁.get? b = some o := fun b o e => hsb₁.extBut b o (Nat.ne_of_lt (Heap.lt_size e)) (Heap.get?_push_of_some _ e)
  have F4 : Fr h₀ L h₁ m := F3.keeps old
  have N4 := N3.grown old
  have hC₀ : h₀.get? H2.objs.size = none := next_is_new F3
  have hCL : H2.objs.size ≠ L := Ne.symm (Nat.ne_of_lt F3.ns.lt)
  clear F F2 F3 N N2 N3 hsb₁ hr h hsm F₀
  generalize H2.objs.size = C at hns₁ hC hC₀ hCL ⊢
  have hDL : D ≠ L := (N4 _ (.head _)).2.1
  have hD₀ : h₀.get? D = none := (N4 _ (.head _)).2.2
  have hIL : I ≠ L := (N4 _ (.tail _ (.head _))).2.1
  have hI₀ : h₀.get? I = none := (N4 _ (.tail _ (.head _))).2.2
  have hnD : ∀ p ∈ news, p.1 ≠ D := fun p hp => Nat.ne_of_lt (Nat.lt_trans (hI p hp) hD)
  have hnC : ∀ p ∈ news, p.1 ≠ C := fun p hp => Nat.ne_of_lt (Nat.lt_trans (Nat.lt_trans (hI p hp) hD) hC)
  have hnI : ∀ p ∈ news, p.1 ≠ I := fun p hp => Nat.ne_of_lt (hI p hp)
  have eID : I ≠ D := Nat.ne_of_lt hD
  have eDC : D ≠ C := Nat.ne_of_lt hC
  have eIC : I ≠ C := Nat.ne_of_lt (Nat.lt_trans hD hC)
  have loop : ∀ s₃ : Shared, s₃ = { s₁ with heap := h₁, toks := s₁.toks + ([] : List (Str × Value)).length } →
      codeAny (model prog w) A (.compLoop (.ListComp elt [⟨.Name x px, iter, [], 0⟩] scope pos) 0 (.ref I) (.ref D) (compEnvC scope cl C env))
        (compPost (model prog w) A E none Q (.ref D) C) s₃ := by
    rintro s₃ rfl
    refine codeAny_compLoop_tests
      (fun k s' => ∃ h' tk i ys m', s' = { s₁ with heap := h', toks := tk } ∧ i ≤ n ∧ k = n + 1 - i ∧ ys.length = i ∧ s₁.toks ≤ tk ∧ IntsAre ys ((List.range i).map g) ∧ Fr h₀ L h' m ∧ h'.Ns C m' ∧
        News h₀ L h' ((D, LCg.lst ys) :: (I, ritO (a + (i : Int)) ((n : Int) - (i : Int))) :: news)) ?_ (n + 1)
      ⟨h₁, _, 0, [], _, rfl, Nat.zero_le _, rfl, rfl, Nat.le_refl _, .nil, F4, hns₁, by rw [show a + ((0 : Nat) : Int) = a by omega, show (n : Int) - ((0 : Nat) : Int) = n by omega]; exact N4⟩
    rintro k s' ⟨h', tk, i, ys, m', rfl, hi, rfl, hyl, htk, hys, F', hn', N'⟩
    have NI : News h₀ L h' ((I, ritO (a + (i : Int)) ((n : Int) - (i : Int))) :: news) := news_tail N'
    have ND := N' _ (.head _)
    by_cases hlt : i < n
    · refine wpAny_pyNext_range_item (s := { s₁ with heap := h', toks := tk }) (NI _ (.head _)).1 (by omega) fun h₂ ho₂ hs₂ => ?_
      have F₂ := F'.change hs₂ hIL hI₀
      have N₂ := NI.setHead hnI hs₂ ho₂
      have hD₂ : h₂.get? D = some (LCg.lst ys) := (hs₂.2 D (Ne.symm eID)).trans ND.1
      have hn₂ : h₂.Ns C m' := hn'.sameBut hs₂ (Ne.symm eIC)
      refine wpAny_assign_Name (wpAny_storeName_local (lookup_relabel_local hx) hn₂ (fun h₃ hn₃ hs₃ => ?_) (by simp [compEnvC, relabel, hkind]))
      refine wpAny_tests_nil ?_
      simp only [if_true]
      obtain ⟨oC, heC, hoC⟩ := LCg.ns_obj hn₃
      have hs₃ : Heap.SameBut C h₂ h₃ := hs₃
      have F₃ : Fr h₀ L h₃ m := F₂.change hs₃ hCL hC₀
      have N₃ : News h₀ L h₃ ((I, ritO (a + (i : Int) + 1) ((n : Int) - (i : Int) - 1)) :: (C, oC) :: (D, LCg.lst ys) :: news) := by
        intro p hp
        rcases List.mem_cons.mp hp with rfl | hp
        · exact ⟨(hs₃.2 _ eIC).trans ho₂, hIL, hI₀⟩
        · rcases List.mem_cons.mp hp with rfl | hp
          · exact ⟨heC, hCL, hC₀⟩
          · rcases List.mem_cons.mp hp with rfl | hp
            · exact ⟨(hs₃.2 _ eDC).trans hD₂, hDL, hD₀⟩
            · have z := N₂ p (.tail _ hp)
              exact ⟨(hs₃.2 _ (hnC p hp)).trans z.1, z.2⟩
      refine toks_of (wpAny_mono (turn i tk I _ C oC D _ _ h₃ _ _ hlt htk hoC (by simp) F₃ N₃ hI hD hC) (fun y s₄ h₄ => ?_) fun _ _ e => e)
      obtain ⟨tq, h₄, tk₄, rfl, rfl, F₄, N₄⟩ := h₄
      intro hle
      have hle : tk + 1 + 1 ≤ tk₄ := hle
      have zI := N₄ _ (.head _)
      have zC := N₄ _ (.tail _ (.head _))
      have zD := N₄ _ (.tail _ (.tail _ (.head _)))
      refine append_at (hsz := by show ys.toArray.size ≤ sizeLine; rw [List.size_toArray, hyl]; exact Nat.le_trans hi hsz) zD.1 fun h₅ hs₅ hD₅ => ?_
      have e1 : a + ((i + 1 : Nat) : Int) = a + (i : Int) + 1 := by omega
      have e2 : (n : Int) - ((i + 1 : Nat) : Int) = (n : Int) - (i : Int) - 1 := by omega
      refine ⟨n + 1 - (i + 1), by omega, h₅, tk₄, i + 1, ys ++ [.int (g i) tq], _, rfl, hlt, rfl, by rw [List.length_append, List.length_singleton, hyl], by omega, ?_, F₄.change hs₅ hDL hD₀,
        (hoC.ns zC.1).sameBut hs₅ (Ne.symm eDC), ?_⟩
      · rw [List.range_succ, List.map_append]
        exact hys.append (.cons _ _ .nil)
      · rw [e1, e2]
        intro p hp
        rcases List.mem_cons.mp hp with rfl | hp
        · exact ⟨hD₅.trans (congrArg some (LCg.lst_snoc ys _)), hDL, hD₀⟩
        · rcases List.mem_cons.mp hp with rfl | hp
          · exact ⟨(hs₅.2 _ eID).trans zI.1, zI.2⟩
          · have z := N₄ p (.tail _ (.tail _ (.tail _ hp)))
            exact ⟨(hs₅.2 _ (hnD p hp)).trans z.1, z.2⟩
    · obtain rfl : i = n := Nat.le_antisymm hi (Nat.not_lt.mp hlt)
      refine wpAny_pyNext_range_end (s := { s₁ with heap := h', toks := tk }) hh (NI _ (.head _)).1 (by omega) fun h₂ he₂ => ?_
      refine ⟨m', hn'.at' fun o e => he₂ C o (Ne.symm eIC) e, fun h₃ hs₃ => ?_⟩
      have hs₃ : Heap.SameBut C h₂ h₃ := hs₃
      refine fin D ys h₃ tk hys ((fr_extBut F' he₂ hIL hI₀).change hs₃ hCL hC₀) (fun p hp => ?_) fun p hp => Nat.lt_trans (hI p hp) hD
      rcases List.mem_cons.mp hp with rfl | hp
      · exact ⟨(hs₃.2 _ eDC).trans (he₂ _ _ (Ne.symm eID) ND.1), hDL, hD₀⟩
      · have z := NI p (.tail _ hp)
        exact ⟨(hs₃.2 _ (hnC p hp)).trans (he₂ _ _ (hnI p hp) z.1), z.2⟩
  exact codeAny_compStart_list (loop _ rfl) (wpAny_pyIter_rangeiter (N4 _ (.tail _ (.head _))).1 (loop _ rfl))
end
noncomputable def dsum (B : Int) : List Int → Int
  | [] => 0
  | x :: r => x + B * dsum B r
theorem dsum_app (B : Int) : ∀ (a b : List Int), dsum B (a ++ b) = dsum B a + B ^ a.length * dsum B b
  | [], b => by simp [dsum]
  | x :: r, b => by
    show x + B * dsum B (r ++ b) = x + B * dsum B r + B ^ (r.length + 1) * dsum B b
    rw [dsum_app B r b, Int.mul_add, Int.pow_succ, Int.mul_comm (B ^ r.length) B, Int.mul_assoc, Int.add_assoc]
theorem dsum_nonneg {B : Int} (hB : 0 < B) : ∀ (l : List Int), (∀ x ∈ l, 0 ≤ x ∧ x < B) → 0 ≤ dsum B l ∧ dsum B l < B ^ l.length
  | [], _ => by simp [dsum]
  | x :: r, h => by
    have h1 := h x (.head _)
    have h2 := dsum_nonneg hB r fun y hy => h y (.tail _ hy)
    have e : dsum B (x :: r) = x + B * dsum B r := rfl
    have e2 : B ^ (x :: r).length = B ^ r.length * B := by rw [List.length_cons, Int.pow_succ]
    rw [e, e2]
    refine ⟨Int.add_nonneg h1.1 (Int.mul_nonneg (Int.le_of_lt hB) h2.1), ?_⟩
    have h3 : B * (dsum B r + 1) ≤ B * B ^ r.length := Int.mul_le_mul_of_nonneg_left (by omega) (Int.le_of_lt hB)
    rw [Int.mul_add, Int.mul_one, Int.mul_comm B (B ^ r.length)] at h3
    omega
theorem shl_ok {x sh : Int} {k : Nat} (h0 : 0 ≤ x) (h1 : x < 2 ^ k) (hk : k ≤ 100000) (hs : sh ≤ 100000) : (Builtin.Int.intBits x : Int) + sh ≤ 2 ^ 27 := by
  have : Builtin.Int.intBits x ≤ k := intBits_le_iff.mpr (by
    have e : ((x.natAbs : Nat) : Int) < ((2 ^ k : Nat) : Int) := by rw [Int.natAbs_of_nonneg h0]; exact_mod_cast h1
    exact_mod_cast e)
  omega
theorem take_split (ns : List Int) (lo a b : Nat) : (ns.drop lo).take (a + b) = (ns.drop lo).take a ++ (ns.drop (lo + a)).take b := by
  rw [List.take_add, List.drop_drop]
theorem mid_is {iL iR : Int} {lo k : Nat} (h1 : iL = lo) (h2 : iR = (lo : Int) + k + 1) : (iL + iR).fdiv (2 ^ Int.toNat 1) = ((lo + (k + 1) / 2 : Nat) : Int) := by
  show (iL + iR).fdiv 2 = _
  rw [Int.fdiv_eq_ediv_of_nonneg _ (by decide)]
  omega
theorem leaf_val {ns : List Int} {B : Int} {lo : Nat} (h : lo < ns.length) : ns.getD (lo : Int).toNat 0 = dsum B ((ns.drop lo).take (0 + 1)) := by
  rw [List.drop_eq_getElem_cons h, Int.toNat_natCast]
  show _ = dsum B [ns[lo]]
  simp [dsum, List.getD, h]
theorem d2i_facts {ns : List Int} {n iL iR : Int} {lo k : Nat} (hdig : ∀ x ∈ ns, 0 ≤ x ∧ x < 2 ^ n.toNat) (hn0 : 0 ≤ n) (hn1 : n ≤ 256) (hk : 0 < k) (hlen : lo + k + 1 ≤ ns.length) (hl4 : ns.length ≤ 4) (hiL : iL = lo) (hiR : iR = (lo : Int) + k + 1) :
    0 ≤ ((iL + iR).fdiv (2 ^ Int.toNat 1) - iL) * n ∧
    (Builtin.Int.intBits (dsum (2 ^ n.toNat) ((ns.drop (lo + (k + 1) / 2)).take (k - (k + 1) / 2 + 1))) : Int) + ((iL + iR).fdiv (2 ^ Int.toNat 1) - iL) * n ≤ 2 ^ 27 ∧
    dsum (2 ^ n.toNat) ((ns.drop (lo + (k + 1) / 2)).take (k - (k + 1) / 2 + 1)) * 2 ^ (((iL + iR).fdiv (2 ^ Int.toNat 1) - iL) * n).toNat + dsum (2 ^ n.toNat) ((ns.drop lo).take ((k + 1) / 2 - 1 + 1)) = dsum (2 ^ n.toNat) ((ns.drop lo).take (k + 1)) := by
  have hmid := mid_is hiL hiR
  have hshe : ((iL + iR).fdiv (2 ^ Int.toNat 1) - iL) * n = ((k + 1) / 2 : Nat) * n := by rw [hmid, hiL]; congr 1; omega
  rw [hshe]
  have hsh1 : (((k + 1) / 2 : Nat) : Int) * n ≤ 100000 := by
    have h4 : (((k + 1) / 2 : Nat) : Int) ≤ 4 := by omega
    have := Int.mul_le_mul h4 hn1 hn0 (by decide)
    omega
  have hB : (0 : Int) < 2 ^ n.toNat := Int.pow_pos (by decide)
  have hup := dsum_nonneg hB ((ns.drop (lo + (k + 1) / 2)).take (k - (k + 1) / 2 + 1)) fun x hx => hdig x (List.mem_of_mem_drop (List.mem_of_mem_take hx))
  refine ⟨Int.mul_nonneg (by omega) hn0, ?_, ?_⟩
  · refine shl_ok hup.1 (k := n.toNat * ((ns.drop (lo + (k + 1) / 2)).take (k - (k + 1) / 2 + 1)).length) (by rw [Int.pow_mul]; exact hup.2) ?_ hsh1
    have h5 : ((ns.drop (lo + (k + 1) / 2)).take (k - (k + 1) / 2 + 1)).length ≤ 4 := by rw [List.length_take]; omega
    have := Nat.mul_le_mul (show n.toNat ≤ 256 by omega) h5
    omega
  · have e1 : (ns.drop lo).take (k + 1) = (ns.drop lo).take ((k + 1) / 2) ++ (ns.drop (lo + (k + 1) / 2)).take (k - (k + 1) / 2 + 1) := by
      rw [← take_split]; congr 1; omega
    have e2 : (k + 1) / 2 - 1 + 1 = (k + 1) / 2 := by omega
    have e3 : ((ns.drop lo).take ((k + 1) / 2)).length = (k + 1) / 2 := by rw [List.length_take, List.length_drop]; omega
    have e4 : ((((k + 1) / 2 : Nat) : Int) * n).toNat = n.toNat * ((k + 1) / 2) := by
      conv => lhs; rw [show n = ((n.toNat : Nat) : Int) by omega]
      rw [← Int.natCast_mul, Int.toNat_natCast, Nat.mul_comm]
    rw [e1, dsum_app, e2, e3, e4, Int.pow_mul, Int.add_comm, Int.mul_comm]
noncomputable def idig (B : Nat) : Nat → Nat → List Nat
  | 0, _ => []
  | 1, x => [x]
  | k + 2, x => (x % B) :: idig B (k + 1) (x / B)
theorem idig_len (B : Nat) : ∀ k x, (idig B k x).length = k
  | 0, _ => rfl
  | 1, _ => rfl
  | k + 2, x => by show (idig B (k + 1) (x / B)).length + 1 = k + 2; rw [idig_len B (k + 1)]
theorem idig_app {B : Nat} (b : Nat) : ∀ (a x : Nat), idig B (a + 1 + (b + 1)) x = idig B (a + 1) (x % B ^ (a + 1)) ++ idig B (b + 1) (x / B ^ (a + 1))
  | 0, x => by
    rw [show 0 + 1 + (b + 1) = b + 2 by omega]
    show (x % B) :: idig B (b + 1) (x / B) = [x % B ^ (0 + 1)] ++ idig B (b + 1) (x / B ^ (0 + 1))
    rw [Nat.zero_add, Nat.pow_one]; rfl
  | a + 1, x => by
    rw [show a + 1 + 1 + (b + 1) = (a + 1 + b) + 2 by omega]
    show (x % B) :: idig B (a + 1 + b + 1) (x / B) = ((x % B ^ (a + 1 + 1)) % B :: idig B (a + 1) ((x % B ^ (a + 1 + 1)) / B)) ++ _
    rw [show a + 1 + b + 1 = a + 1 + (b + 1) by omega, idig_app b a (x / B), Nat.pow_succ' (n := a + 1), Nat.mod_mul_right_mod, Nat.mod_mul_right_div_self, Nat.div_div_eq_div_mul, List.cons_append]
noncomputable def splice (ns : List Int) (lo : Nat) (D : List Int) : List Int := ns.take lo ++ D ++ ns.drop (lo + D.length)
theorem splice_len {ns D : List Int} {lo : Nat} (h : lo + D.length ≤ ns.length) : (splice ns lo D).length = ns.length := by
  simp only [splice, List.length_append, List.length_take, List.length_drop]; omega
theorem splice_one {ns : List Int} {lo : Nat} {x : Int} (h : lo < ns.length) : ns.set lo x = splice ns lo [x] := by
  rw [splice, List.set_eq_take_append_cons_drop, if_pos h]; simp
theorem splice_two {ns D E : List Int} {lo : Nat} (h : lo ≤ ns.length) : splice (splice ns lo D) (lo + D.length) E = splice ns lo (D ++ E) := by
  have h1 : (ns.take lo ++ D).length = lo + D.length := by simp [Nat.min_eq_left h]
  unfold splice
  rw [← h1, List.take_left, List.drop_length_add_append, List.drop_drop, h1]
  simp [List.append_assoc, Nat.add_assoc]
theorem splice_all {ns D : List Int} (h : D.length = ns.length) : splice ns 0 D = D := by
  simp [splice, h]
theorem and_high (x s : Nat) : x &&& (x / 2 ^ s * 2 ^ s) = x / 2 ^ s * 2 ^ s := by
  apply Nat.eq_of_testBit_eq
  intro i
  rw [Nat.testBit_and, ← Nat.shiftRight_eq_div_pow, ← Nat.shiftLeft_eq, Nat.testBit_shiftLeft, Nat.testBit_shiftRight]
  by_cases h : s ≤ i
  · simp [h]
  · simp [h]
theorem bitXor_low (x s : Nat) : Builtin.bitXor (x : Int) ((x / 2 ^ s * 2 ^ s : Nat) : Int) = ((x % 2 ^ s : Nat) : Int) := by
  rw [bitXor_and]
  have e : Builtin.bitAnd (x : Int) ((x / 2 ^ s * 2 ^ s : Nat) : Int) = ((x &&& (x / 2 ^ s * 2 ^ s) : Nat) : Int) := by
    unfold Builtin.bitAnd
    rw [decide_eq_true (Int.natCast_nonneg _), decide_eq_true (Int.natCast_nonneg _)]
    simp only [Int.toNat_natCast]
  rw [e, and_high]
  have := Nat.div_add_mod' x (2 ^ s)
  generalize x / 2 ^ s * 2 ^ s = y at *
  generalize x % 2 ^ s = z at *
  omega
theorem i2d_facts {n iL iR ix : Int} {lo k x : Nat} (hn0 : 0 ≤ n) (hn1 : n ≤ 256) (hk : 0 < k) (hk4 : k ≤ 4) (hiL : iL = lo) (hiR : iR = (lo : Int) + k + 1) (hx : ix = x) (hb : x < (2 ^ n.toNat) ^ (k + 1)) :
    0 ≤ ((iL + iR).fdiv (2 ^ Int.toNat 1) - iL) * n ∧
    (Builtin.Int.intBits (ix.fdiv (2 ^ (((iL + iR).fdiv (2 ^ Int.toNat 1) - iL) * n).toNat)) : Int) + ((iL + iR).fdiv (2 ^ Int.toNat 1) - iL) * n ≤ 2 ^ 27 ∧
    ix.fdiv (2 ^ (((iL + iR).fdiv (2 ^ Int.toNat 1) - iL) * n).toNat) = ((x / (2 ^ n.toNat) ^ ((k + 1) / 2) : Nat) : Int) ∧
    Builtin.bitXor ix (ix.fdiv (2 ^ (((iL + iR).fdiv (2 ^ Int.toNat 1) - iL) * n).toNat) * 2 ^ (((iL + iR).fdiv (2 ^ Int.toNat 1) - iL) * n).toNat) = ((x % (2 ^ n.toNat) ^ ((k + 1) / 2) : Nat) : Int) ∧
    x % (2 ^ n.toNat) ^ ((k + 1) / 2) < (2 ^ n.toNat) ^ ((k + 1) / 2 - 1 + 1) ∧ x / (2 ^ n.toNat) ^ ((k + 1) / 2) < (2 ^ n.toNat) ^ (k - (k + 1) / 2 + 1) := by
  have hmid := mid_is hiL hiR
  have hshe : ((iL + iR).fdiv (2 ^ Int.toNat 1) - iL) * n = ((k + 1) / 2 : Nat) * n := by rw [hmid, hiL]; congr 1; omega
  rw [hshe]
  have hsh1 : (((k + 1) / 2 : Nat) : Int) * n ≤ 100000 := by
    have h4 : (((k + 1) / 2 : Nat) : Int) ≤ 4 := by omega
    have := Int.mul_le_mul h4 hn1 hn0 (by decide)
    omega
  have e4 : ((((k + 1) / 2 : Nat) : Int) * n).toNat = n.toNat * ((k + 1) / 2) := by
    conv => lhs; rw [show n = ((n.toNat : Nat) : Int) by omega]
    rw [← Int.natCast_mul, Int.toNat_natCast, Nat.mul_comm]
  have hB : 0 < (2 ^ n.toNat) ^ ((k + 1) / 2) := Nat.pow_pos (Nat.pow_pos (by decide))
  have eup : ix.fdiv (2 ^ (n.toNat * ((k + 1) / 2))) = ((x / (2 ^ n.toNat) ^ ((k + 1) / 2) : Nat) : Int) := by
    rw [hx, Int.fdiv_eq_ediv_of_nonneg _ (Int.le_of_lt (Int.pow_pos (by decide))), Int.natCast_ediv, Int.natCast_pow, Int.natCast_pow, Int.pow_mul]
    rfl
  have hup : x / (2 ^ n.toNat) ^ ((k + 1) / 2) < (2 ^ n.toNat) ^ (k - (k + 1) / 2 + 1) := by
    rw [Nat.div_lt_iff_lt_mul hB, ← Nat.pow_add]
    rwa [show k - (k + 1) / 2 + 1 + (k + 1) / 2 = k + 1 by omega]
  rw [e4, eup]
  refine ⟨Int.mul_nonneg (by omega) hn0, ?_, rfl, ?_, ?_, hup⟩
  · refine shl_ok (k := n.toNat * (k - (k + 1) / 2 + 1)) (Int.natCast_nonneg _) ?_ ?_ hsh1
    · rw [Int.pow_mul]; exact_mod_cast hup
    · have := Nat.mul_le_mul (show n.toNat ≤ 256 by omega) (show k - (k + 1) / 2 + 1 ≤ 5 by omega)
      omega
  · have e : ((x / (2 ^ n.toNat) ^ ((k + 1) / 2) : Nat) : Int) * 2 ^ (n.toNat * ((k + 1) / 2)) = ((x / 2 ^ (n.toNat * ((k + 1) / 2)) * 2 ^ (n.toNat * ((k + 1) / 2)) : Nat) : Int) := by
      rw [← Nat.pow_mul]; push_cast; rfl
    rw [e, hx, bitXor_low, ← Nat.pow_mul]
  · rw [show (k + 1) / 2 - 1 + 1 = (k + 1) / 2 by omega]; exact Nat.mod_lt _ hB
theorem abs_vs {vs : List Value} {ns : List Int} (hi : IntsAre vs ns) : ∃ v, v = vs ∧ IntsAre v ns := ⟨_, rfl, hi⟩
theorem news_abs {g h : Heap} {L : Addr} {f : List Value → List (Addr × Obj)} (v : List Value) (N : News g L h (f v)) : ∃ F, F = f ∧ News g L h (F v) := ⟨_, rfl, N⟩
theorem bits_le {b n k : Int} (hn : 0 < n) (h : (b + n - 1).fdiv n = k) : b ≤ n * k := by
  rw [Int.fdiv_eq_ediv_of_nonneg _ (by omega)] at h
  have h1 : b + n - 1 < n * (k + 1) := by
    have := Int.lt_mul_ediv_self_add (x := b + n - 1) (k := n) hn
    rw [h] at this
    rw [Int.mul_add, Int.mul_one]; exact this
  rw [Int.mul_add, Int.mul_one] at h1; omega
theorem noPy {x y : Int} (h : (Builtin.Int.intBits y : Int) ≤ 256) : Builtin.divisionGoesByPylong x y = false := by
  unfold Builtin.divisionGoesByPylong
  have hb : y.natAbs < 2 ^ 256 := intBits_le_iff.mp (by omega)
  have h2 : ¬ ((if y == 0 then 0 else y.natAbs.log2 / 30 + 1) > 300) := by
    split
    · omega
    · have h0 : y.natAbs ≠ 0 := by rename_i h0; simp at h0; omega
      have := (Nat.log2_lt h0).mpr hb
      omega
  simp only [decide_eq_false h2, Bool.false_and]
theorem lt_bits {x : Int} {k : Nat} (hx : 0 ≤ x) : Builtin.Int.intBits x ≤ k ↔ x < 2 ^ k := by
  rw [intBits_le_iff]
  have e : ((x.natAbs : Nat) : Int) = x := Int.natAbs_of_nonneg hx
  constructor
  · intro h
    rw [← e]; exact_mod_cast h
  · intro h
    rw [← e] at h; exact_mod_cast h
theorem y_lt {y : Int} (hy : 0 < y) : y < 2 ^ (Builtin.Int.intBits y : Int).toNat := by
  rw [Int.toNat_natCast]
  exact (lt_bits (Int.le_of_lt hy)).mp (Nat.le_refl _)
/-- one digit -/
theorem dm_one {x y : Int} (hx : 0 < x) (hy : 0 < y) (hn0 : 8 ≤ (Builtin.Int.intBits y : Int)) (hxk : ((Builtin.Int.intBits x : Int) + (Builtin.Int.intBits y : Int) - 1).fdiv (Builtin.Int.intBits y : Int) = ((1 : Nat) : Int)) :
    (∀ z ∈ [x.fdiv y], 0 ≤ z ∧ z < 2 ^ (Builtin.Int.intBits y : Int).toNat) ∧ dsum (2 ^ (Builtin.Int.intBits y : Int).toNat) [x.fdiv y] = x / y ∧ x.fmod y = x % y := by
  have h1 := bits_le (by omega) hxk
  have h2 : x < 2 ^ (Builtin.Int.intBits y : Int).toNat := by
    rw [Int.toNat_natCast]
    exact (lt_bits (Int.le_of_lt hx)).mp (by omega)
  have e1 : x.fdiv y = x / y := Int.fdiv_eq_ediv_of_nonneg _ (by omega)
  have h3 : 0 ≤ x / y := Int.ediv_nonneg (by omega) (by omega)
  have h4 : x / y ≤ x := Int.ediv_le_self _ (by omega)
  refine ⟨fun z hz => ?_, ?_, Int.fmod_eq_emod_of_nonneg _ (by omega)⟩
  · rw [List.mem_singleton.mp hz, e1]; exact ⟨h3, by omega⟩
  · rw [e1]; simp [dsum]
theorem dm_two {y d0 d1 D : Int} (hy : 0 < y) (hD : y ≤ D) (h00 : 0 ≤ d0) (h01 : d0 < D) (h10 : 0 ≤ d1) (h11 : d1 < D) :
    0 ≤ d1.fmod y ∧ d1.fmod y < y ∧ 0 ≤ d1.fmod y * D + d0 ∧ d1.fmod y * D + d0 < y * D ∧
    (∀ z ∈ [(d1.fmod y * D + d0).fdiv y, d1.fdiv y], 0 ≤ z ∧ z < D) ∧ dsum D [(d1.fmod y * D + d0).fdiv y, d1.fdiv y] = (d0 + D * d1) / y ∧ (d1.fmod y * D + d0).fmod y = (d0 + D * d1) % y := by
  have em : d1.fmod y = d1 % y := Int.fmod_eq_emod_of_nonneg _ (by omega)
  have ed : d1.fdiv y = d1 / y := Int.fdiv_eq_ediv_of_nonneg _ (by omega)
  rw [em, ed, Int.fmod_eq_emod_of_nonneg _ (by omega), Int.fdiv_eq_ediv_of_nonneg _ (by omega)]
  have hm0 : 0 ≤ d1 % y := Int.emod_nonneg _ (by omega)
  have hm1 : d1 % y < y := Int.emod_lt_of_pos _ hy
  have hz0 : 0 ≤ d1 % y * D + d0 := Int.add_nonneg (Int.mul_nonneg hm0 (by omega)) h00
  have hz1 : d1 % y * D + d0 < y * D := by
    have h : (d1 % y + 1) * D ≤ y * D := Int.mul_le_mul_of_nonneg_right (by omega) (by omega)
    rw [Int.add_mul, Int.one_mul] at h
    omega
  have hdm : y * (d1 / y) + d1 % y = d1 := Int.mul_ediv_add_emod d1 y
  have key : d0 + D * d1 = (d1 % y * D + d0) + y * (D * (d1 / y)) := by
    conv => lhs; rw [← hdm]
    rw [Int.mul_add, Int.mul_comm (d1 % y) D, Int.mul_left_comm y D]
    omega
  refine ⟨hm0, hm1, hz0, hz1, fun z hz => ?_, ?_, ?_⟩
  · rcases List.mem_cons.mp hz with rfl | hz
    · exact ⟨Int.ediv_nonneg hz0 (by omega), Int.ediv_lt_of_lt_mul hy (by rw [Int.mul_comm D y]; exact hz1)⟩
    · rw [List.mem_singleton.mp hz]
      exact ⟨Int.ediv_nonneg h10 (by omega), Int.lt_of_le_of_lt (Int.ediv_le_self _ h10) h11⟩
  · rw [key, Int.add_mul_ediv_left _ _ (by omega)]
    simp [dsum]
  · rw [key, Int.add_mul_emod_self_left]
theorem two_facts {x y : Int} (hx : 0 < x) (hn0 : 8 ≤ (Builtin.Int.intBits y : Int)) (hxk : ((Builtin.Int.intBits x : Int) + (Builtin.Int.intBits y : Int) - 1).fdiv (Builtin.Int.intBits y : Int) = ((2 : Nat) : Int)) {vs : List Value}
    (h : IntsAre vs ((idig (2 ^ (Builtin.Int.intBits y : Int).toNat) 2 x.toNat).map Int.ofNat)) :
    ∃ d0 d1 t u, vs = [.int d0 t, .int d1 u] ∧ 0 ≤ d0 ∧ d0 < 2 ^ (Builtin.Int.intBits y : Int).toNat ∧ 0 ≤ d1 ∧ d1 < 2 ^ (Builtin.Int.intBits y : Int).toNat ∧ d0 + 2 ^ (Builtin.Int.intBits y : Int).toNat * d1 = x := by
  have h1 := bits_le (by omega) hxk
  have h2 : x.toNat < 2 ^ (Builtin.Int.intBits y : Int).toNat * 2 ^ (Builtin.Int.intBits y : Int).toNat := by
    rw [← Nat.pow_add, Int.toNat_natCast]
    have := (lt_bits (k := Builtin.Int.intBits y + Builtin.Int.intBits y) (Int.le_of_lt hx)).mp (by omega)
    have e : ((x.toNat : Nat) : Int) = x := by omega
    rw [← e] at this
    exact_mod_cast this
  cases h with
  | cons n t h => cases h with
    | cons n u h =>
      cases h
      generalize hD : 2 ^ (Builtin.Int.intBits y : Int).toNat = D at *
      have hDp : 0 < D := by rw [← hD]; exact Nat.pow_pos (by decide)
      have eD : (2 : Int) ^ (Builtin.Int.intBits y : Int).toNat = (D : Int) := by rw [← hD]; push_cast; rfl
      rw [eD]
      refine ⟨_, _, t, u, rfl, Int.natCast_nonneg _, ?_, Int.natCast_nonneg _, ?_, ?_⟩
      · exact Int.ofNat_lt.mpr (Nat.mod_lt _ hDp)
      · exact Int.ofNat_lt.mpr ((Nat.div_lt_iff_lt_mul hDp).mpr h2)
      · have := Nat.mod_add_div x.toNat D
        have e : ((x.toNat : Nat) : Int) = x := by omega
        rw [← e]
        show ((x.toNat % D : Nat) : Int) + (D : Int) * ((x.toNat / D : Nat) : Int) = _
        exact_mod_cast this
set_option rowWalk.seconds 0 in
theorem mod_says : ∀ {w : World} {p : Program} {loose : List Str} {mean : ExcName → Option Value} {mg mb : Str → Option Value}
   {x y : Int} {t1 t2 : Tok} {dp un : Nat} {gd : Option (List Code)} {cn : Str} {cs : Scope} {a : Addr} {ccd : Value} {cl : List (Str × Addr)} {outer : List Env} {A₀ : Around} {base h₀ : Heap} {L : Addr} {m : Str → Option Value} {news : List (Addr × Obj)} {s : Shared} {Q E : Value → Shared → Prop},
   Below A₀ base outer h₀ → Fr h₀ L s.heap m → (hd.heap_39 w.params).In h₀ → News h₀ L s.heap news → Top p loose mean mg mb h₀ → cs.kind = .function → dp + 1 < recursionLimit → un + 16 < cLine → 2 ≤ y → y ≤ 9 → 
   (∀ t h' tk', Fr h₀ L h' m → News h₀ L h' news → Q (.int (x.fmod y) t) { s with heap := h', toks := tk' }) →
   wpAny (model PySem.Challenge.rw_we0013_01.row.prog w) (ktrTop dp un gd cn cs L a ccd cl outer) (call (.ref 91) [.int x t1, .int y t2]) Q E s := by
  w_top off
  k_fill
  intro w p loose mean mg mb x y t1 t2
  intro dp un gd cn cs a ccd cl outer A₀ base h₀ L m news s Q E B F X N T hk hd0 hu hy0 hy1 hret
  k_with_none
  refine wpAny_call ?_
  k_dflt cell_enter
  k_steps
  all_goals exact hret _ _ _ (by k_asm) (by assumption)
set_option rowWalk.seconds 0 in
theorem le_says : ∀ {w : World} {p : Program} {loose : List Str} {mean : ExcName → Option Value} {mg mb : Str → Option Value}
   {x y : Int} {t1 t2 : Tok} {dp un : Nat} {gd : Option (List Code)} {cn : Str} {cs : Scope} {a : Addr} {ccd : Value} {cl : List (Str × Addr)} {outer : List Env} {A₀ : Around} {base h₀ : Heap} {L : Addr} {m : Str → Option Value} {news : List (Addr × Obj)} {s : Shared} {Q E : Value → Shared → Prop},
   Below A₀ base outer h₀ → Fr h₀ L s.heap m → (hd.heap_39 w.params).In h₀ → News h₀ L s.heap news → Top p loose mean mg mb h₀ → cs.kind = .function → dp + 1 < recursionLimit → un + 16 < cLine → 
   (∀ h' tk', Fr h₀ L h' m → News h₀ L h' news → Q (.bool (decide (x ≤ y))) { s with heap := h', toks := tk' }) →
   wpAny (model PySem.Challenge.rw_we0013_01.row.prog w) (ktrTop dp un gd cn cs L a ccd cl outer) (call (.ref 70) [.int x t1, .int y t2]) Q E s := by
  w_top off
  k_fill
  intro w p loose mean mg mb x y t1 t2
  intro dp un gd cn cs a ccd cl outer A₀ base h₀ L m news s Q E B F X N T hk hd0 hu hret
  k_with_none
  refine wpAny_call ?_
  k_dflt cell_enter
  k_steps
  all_goals exact hret _ _ (by k_asm) (by assumption)
set_option rowWalk.seconds 0 in
theorem lt_says : ∀ {w : World} {p : Program} {loose : List Str} {mean : ExcName → Option Value} {mg mb : Str → Option Value}
   {x y : Int} {t1 t2 : Tok} {dp un : Nat} {gd : Option (List Code)} {cn : Str} {cs : Scope} {a : Addr} {ccd : Value} {cl : List (Str × Addr)} {outer : List Env} {A₀ : Around} {base h₀ : Heap} {L : Addr} {m : Str → Option Value} {news : List (Addr × Obj)} {s : Shared} {Q E : Value → Shared → Prop},
   Below A₀ base outer h₀ → Fr h₀ L s.heap m → (hd.heap_39 w.params).In h₀ → News h₀ L s.heap news → Top p loose mean mg mb h₀ → cs.kind = .function → dp + 1 < recursionLimit → un + 16 < cLine → 
   (∀ h' tk', Fr h₀ L h' m → News h₀ L h' news → Q (.bool (decide (x < y))) { s with heap := h', toks := tk' }) →
   wpAny (model PySem.Challenge.rw_we0013_01.row.prog w) (ktrTop dp un gd cn cs L a ccd cl outer) (call (.ref 63) [.int x t1, .int y t2]) Q E s := by
  w_top off
  k_fill
  intro w p loose mean mg mb x y t1 t2
  intro dp un gd cn cs a ccd cl outer A₀ base h₀ L m news s Q E B F X N T hk hd0 hu hret
  k_with_none
  refine wpAny_call ?_
  k_dflt cell_enter
  k_steps
  all_goals exact hret _ _ (by k_asm) (by assumption)
noncomputable def cntI (p : Int → Bool) (l : List Int) : Int := (l.map fun k => if p k then (1 : Int) else 0).sum
noncomputable def sumI (f : Int → Int) (l : List Int) : Int := (l.map f).sum
theorem cntI_app (p : Int → Bool) (l : List Int) (k : Int) : cntI p (l ++ [k]) = cntI p l + (if p k then 1 else 0) := by simp [cntI]
theorem sumI_app (f : Int → Int) (l : List Int) (k : Int) : sumI f (l ++ [k]) = sumI f l + f k := by simp [sumI]
noncomputable def least (size t left right rise far near : Int) : Int := min rise (min (far * size - left) (min (near * size - right) (t * size - rise - (far * size - left) - (near * size - right))))
theorem least_eq {size t left right rise far near M : Int} (h1 : M ∈ [rise, far * size - left, near * size - right, t * size - rise - (far * size - left) - (near * size - right)])
   (h2 : ∀ x ∈ [rise, far * size - left, near * size - right, t * size - rise - (far * size - left) - (near * size - right)], M ≤ x) : M = least size t left right rise far near := by
  unfold least
  refine Int.le_antisymm (Int.le_min.mpr ⟨h2 _ (.head _), Int.le_min.mpr ⟨h2 _ (.tail _ (.head _)), Int.le_min.mpr ⟨h2 _ (.tail _ (.tail _ (.head _))), h2 _ (.tail _ (.tail _ (.tail _ (.head _))))⟩⟩⟩) ?_
  cases h1 with
  | head => exact Int.min_le_left ..
  | tail _ h1 => refine Int.le_trans (Int.min_le_right ..) ?_; cases h1 with
    | head => exact Int.min_le_left ..
    | tail _ h1 => refine Int.le_trans (Int.min_le_right ..) ?_; cases h1 with
      | head => exact Int.min_le_left ..
      | tail _ h1 => cases h1 with
        | head => exact Int.min_le_right ..
        | tail _ h1 => cases h1
section
variable {p q : Int → Bool} {w i w0 i0 w1 i1 k : Int} {pre : List Int} {f g : Int → Int}
theorem near_tt (h1 : w = w0 + cntI p pre) (h2 : i = i0 + cntI q pre) (a : p k = true) (b : q k = true) : w + 1 = w0 + cntI p (pre ++ [k]) ∧ i + 1 = i0 + cntI q (pre ++ [k]) := by
  rw [cntI_app, cntI_app, a, b, h1, h2]; constructor <;> simp <;> omega
theorem near_tf (h1 : w = w0 + cntI p pre) (h2 : i = i0 + cntI q pre) (a : p k = true) (b : q k = false) : w + 1 = w0 + cntI p (pre ++ [k]) ∧ i = i0 + cntI q (pre ++ [k]) := by
  rw [cntI_app, cntI_app, a, b, h1, h2]; constructor <;> simp <;> omega
theorem near_ff (h1 : w = w0 + cntI p pre) (h2 : i = i0 + cntI q pre) (a : p k = false) (b : q k = false) : w = w0 + cntI p (pre ++ [k]) ∧ i = i0 + cntI q (pre ++ [k]) := by
  rw [cntI_app, cntI_app, a, b, h1, h2]; constructor <;> simp
theorem far_end (h1 : w0 = w1 + sumI f pre) (h2 : i0 = i1 + sumI g pre) (a : w = w0 + f k) (b : i = i0 + g k) : w = w1 + sumI f (pre ++ [k]) ∧ i = i1 + sumI g (pre ++ [k]) := by
  rw [sumI_app, sumI_app, a, b, h1, h2]; constructor <;> omega
theorem rise_end (h1 : w0 = sumI f pre) (h2 : i0 = sumI g pre) (a : w = w0 + f k) (b : i = i0 + g k) : w = sumI f (pre ++ [k]) ∧ i = sumI g (pre ++ [k]) := by
  rw [sumI_app, sumI_app, a, b, h1, h2]; constructor <;> omega
end
noncomputable def wholeN (t q a b : Int) : Int := sumI (fun rise => sumI (fun far => cntI (fun near => decide (0 ≤ least q t ((a*rise).fmod q) ((b*rise).fmod q) rise far near)) (rangeKs 0 (t+1-0).toNat)) (rangeKs 0 (t+1-0).toNat)) (rangeKs 0 (t*q+1-0).toNat)
noncomputable def innerN (t q a b : Int) : Int := sumI (fun rise => sumI (fun far => cntI (fun near => decide (0 < least q t ((a*rise).fmod q) ((b*rise).fmod q) rise far near)) (rangeKs 0 (t+1-0).toNat)) (rangeKs 0 (t+1-0).toNat)) (rangeKs 0 (t*q+1-0).toNat)
theorem news_drop2 {h₀ h : Heap} {L : Addr} {a b : Addr × Obj} {news : List (Addr × Obj)} (N : News h₀ L h (a :: b :: news)) : News h₀ L h (a :: news) := fun p hp => N p ((List.mem_cons.mp hp).elim (fun e => e ▸ List.Mem.head _) fun h => .tail _ (.tail _ h))
set_option rowWalk.seconds 0 in
theorem counts_says (w : World) (p : Program) (loose : List Str) (mean : ExcName → Option Value) (mg mb : Str → Option Value)
   (t size across along : Int) (t1 t2 t3 t4 : Tok) : ∀ (dp un : Nat) (gd : Option (List Code)) (cn : Str) (cs : Scope) (a : Addr) (ccd : Value) (cl : List (Str × Addr)) (outer : List Env) (A₀ : Around) (base h₀ : Heap) (L : Addr) (m : Str → Option Value) (news : List (Addr × Obj)) (s : Shared) (Q E : Value → Shared → Prop),
   Below A₀ base outer h₀ → Fr h₀ L s.heap m → (hd.heap_39 w.params).In h₀ → News h₀ L s.heap news → Top p loose mean mg mb h₀ → cs.kind = .function → dp + 4 < recursionLimit → un + 32 < cLine → 0 ≤ t → t ≤ 3 → 2 ≤ size → size ≤ 9 → 0 ≤ across → across < size → 0 ≤ along → along < size →
   (∀ x t5 t6 h' tk', Fr h₀ L h' m → News h₀ L h' ((x, { cls := Value.type "tuple", data := Data.seq #[Value.int (wholeN t size across along) t5, Value.int (innerN t size across along) t6] }) :: news) → (∀ p ∈ news, p.1 < x) → Q (.ref x) { s with heap := h', toks := tk' }) →
   wpAny (model PySem.Challenge.rw_we0013_01.row.prog w) (ktrTop dp un gd cn cs L a ccd cl outer) (call (.ref 117) [.int t t1, .int size t2, .int across t3, .int along t4]) Q E s := by
  w_top off
  k_fill
  intro dp un gd cn cs a ccd cl outer A₀ base h₀ L m news s Q E B F X N T hk hd0 hu ht0 ht1 hs0 hs1 ha0 ha1 hb0 hb1 hret
  have hm0 : 0 ≤ t * size := Int.mul_nonneg ht0 (by omega)
  have hm1 : t * size ≤ 27 := Int.le_trans (Int.mul_le_mul ht1 hs1 (by omega) (by omega)) (by decide)
  k_with_none
  k_with "InvEndN" => k_dflt kst_close
  k_with "call builtin:min" => (k_here; (with_reducible show wpAny _ _ (call (Value.builtin _) [Value.ref _]) _ _ _); (with_unfolding_all refine' kso_min ?wkk1 ?wkk2 ?wkk3 ?wkk4 ?wkk5 ?wkk6 ?_; (case wkk1 => k_asm); (case wkk2 => k_asm); (case wkk3 => kso_list); (case wkk4 => l_ints); (case wkk5 => kso_len); (case wkk6 => with_unfolding_all rfl); k_whole); intro h' M' t' k' F' N' a' b'; (have e' := least_eq a' b'); subst e'; clear a' b'; (try k_sweep))
  k_with "call ref" => ((k_dflt ((first | refine' mod_says ?wkk1 ?wkk2 ?wkk3 ?wkk4 ?wkk5 ?wkk6 ?wkk7 ?wkk8 ?wke1 ?wke2 ?_ | refine' le_says ?wkk1 ?wkk2 ?wkk3 ?wkk4 ?wkk5 ?wkk6 ?wkk7 ?wkk8 ?_ | refine' lt_says ?wkk1 ?wkk2 ?wkk3 ?wkk4 ?wkk5 ?wkk6 ?wkk7 ?wkk8 ?_); (case wkk1 => k_asm); (case wkk2 => k_asm); (case wkk3 => k_asm); (case wkk4 => k_asm); (case wkk5 => k_asm); (case wkk6 => exact rfl); (case wkk7 => ktr_room); (case wkk8 => ktr_units); (try case wke1 => assumption); (try case wke2 => assumption))); intros; (try dsimp only); (try k_fold))
  k_with "pyIter ref" => (k_of "near" => k_state_given ["stretch", "size", "left", "right", "rise", "far", "whole!", "inner!"] (fun t q l r rise far w0 i0 pre w i => w = w0 + cntI (fun near => decide (0 ≤ least q t l r rise far near)) pre ∧ i = i0 + cntI (fun near => decide (0 < least q t l r rise far near)) pre) "whole" "inner")
  k_with "pyIter ref" => (k_of "far" => k_state_given ["stretch", "size", "left", "right", "rise", "whole!", "inner!"] (fun t q l r rise w0 i0 pre w i => w = w0 + sumI (fun far => cntI (fun near => decide (0 ≤ least q t l r rise far near)) (rangeKs 0 (t+1-0).toNat)) pre ∧ i = i0 + sumI (fun far => cntI (fun near => decide (0 < least q t l r rise far near)) (rangeKs 0 (t+1-0).toNat)) pre) "whole" "inner")
  k_with "pyIter ref" => (k_of "rise" => k_state_given ["stretch", "size", "across", "along"] (fun t q a b pre w i => w = sumI (fun rise => sumI (fun far => cntI (fun near => decide (0 ≤ least q t ((a*rise).fmod q) ((b*rise).fmod q) rise far near)) (rangeKs 0 (t+1-0).toNat)) (rangeKs 0 (t+1-0).toNat)) pre ∧ i = sumI (fun rise => sumI (fun far => cntI (fun near => decide (0 < least q t ((a*rise).fmod q) ((b*rise).fmod q) rise far near)) (rangeKs 0 (t+1-0).toNat)) (rangeKs 0 (t+1-0).toNat)) pre) "whole" "inner")
  k_with "state" => exact ⟨rfl, rfl⟩
  k_with "state" => exact ⟨(Int.add_zero _).symm, (Int.add_zero _).symm⟩
  k_with "state" => (refine' near_tt ?a1 ?a2 ?a3 ?a4; (case a1 => assumption); (case a2 => assumption); (case a3 => exact decide_eq_true (by assumption)); (case a4 => exact decide_eq_true (by assumption)))
  k_with "state" => (refine' near_tf ?a1 ?a2 ?a3 ?a4; (case a1 => assumption); (case a2 => assumption); (case a3 => exact decide_eq_true (by assumption)); (case a4 => exact decide_eq_false (by assumption)))
  k_with "state" => (refine' near_ff ?a1 ?a2 ?a3 ?a4; (case a1 => assumption); (case a2 => assumption); (case a3 => exact decide_eq_false (by assumption)); (case a4 => exact decide_eq_false (fun h => absurd (Int.le_of_lt h) (by assumption))))
  k_with "state" => (refine' far_end ?a1 ?a2 ?a3 ?a4; (case a1 => assumption); (case a2 => assumption); (case a3 => assumption); (case a4 => assumption))
  k_with "state" => (refine' rise_end ?a1 ?a2 ?a3 ?a4; (case a1 => assumption); (case a2 => assumption); (case a3 => assumption); (case a4 => assumption))
  refine wpAny_call ?_
  k_dflt cell_enter
  k_steps
  all_goals subst_vars
  all_goals exact hret _ _ _ _ _ (by k_asm) (news_drop2 (by assumption)) (ktn_ltOf (And.right (by assumption)))
end
theorem cnt_end1 {p : Int → Bool} {pre : List Int} {k c : Int} (h1 : c = cntI p pre) (a : p k = true) : c + 1 = cntI p (pre ++ [k]) := by rw [cntI_app, a, h1]; rfl
theorem cnt_end0 {p : Int → Bool} {pre : List Int} {k c : Int} (h1 : c = cntI p pre) (a : p k = false) : c = cntI p (pre ++ [k]) := by rw [cntI_app, a, h1]; simp
/-- the tokens of a list's ints: none is nought; one that is u stands by y -/
def TokOk (vs : List Value) (y : Int) (u : Tok) : Prop := u ≠ 0 ∧ ∀ i t, Value.int i t ∈ vs → t ≠ 0 ∧ (t = u → i = y)
set_option rowWalk.seconds 0 in
theorem countOf_says (w : World) (p : Program) (loose : List Str) (mean : ExcName → Option Value) (mg mb : Str → Option Value)
   (l : Addr) (vs : List Value) (ns : List Int) (nn : Nat) (y : Int) (t2 : Tok) : ∀ (dp un : Nat) (gd : Option (List Code)) (cn : Str) (cs : Scope) (a : Addr) (ccd : Value) (cl : List (Str × Addr)) (outer : List Env) (A₀ : Around) (base h₀ : Heap) (L : Addr) (m : Str → Option Value) (news : List (Addr × Obj)) (s : Shared) (Q E : Value → Shared → Prop),
   Below A₀ base outer h₀ → Fr h₀ L s.heap m → (hd.heap_39 w.params).In h₀ → News h₀ L s.heap news → Top p loose mean mg mb h₀ → cs.kind = .function → dp + 2 < recursionLimit → un + 16 < cLine → (l, listOf vs.toArray nn) ∈ news → IntsAre vs ns → TokOk vs y t2 → smallInt y = true →
   (∀ t h' tk', Fr h₀ L h' m → News h₀ L h' news → Q (.int (cntI (fun k => decide (k = y)) ns) t) { s with heap := h', toks := tk' }) →
   wpAny (model PySem.Challenge.rw_we0013_01.row.prog w) (ktrTop dp un gd cn cs L a ccd cl outer) (call (.ref 98) [.ref l, .int y t2]) Q E s := by
  w_top off
  k_fill
  intro dp un gd cn cs a ccd cl outer A₀ base h₀ L m news s Q E B F X N T hk hd0 hu hmem hints htok hsm hret
  k_with_none
  k_with "exec For Name Name cons nil" => (refine For_T ?_)
  k_with "compareOp Is int int" => first | (refine is_int_eq ?wkk1 ?wkk2 ?wkk3 ?_; (case wkk1 => assumption); (case wkk2 => assumption); (case wkk3 => assumption)) | (refine is_int_ne ?wkk1 ?wkk2 ?wkk3 ?wkk4 ?_; (case wkk1 => assumption); (case wkk2 => assumption); (case wkk3 => assumption); (case wkk4 => assumption))
  refine wpAny_call ?_
  k_dflt cell_enter
  k_steps
  refine loopList_T (vs := vs) (fun m₀ i m nx _ => nx = news ∧ Keeps m₀ [Str.ofString "i", Str.ofString "count"] m ∧ ∃ tc, m (Str.ofString "count") = some (.int (cntI (fun k => decide (k = y)) (ns.take i)) tc)) rfl (by assumption) (by assumption) ?k1 ?k2 ?k3 ?k4
  case k1 => rintro i m nx tk ⟨rfl, _⟩; exact ⟨rfl, _, hmem⟩
  case k2 => exact ⟨rfl, Keeps.refl _ _, _, rfl⟩
  case k3 =>
    rintro i v m nx h tk I o hv ⟨rfl, hkm, tc, hc⟩ F1 N1 hI
    have F2 := fr_two F1 hkm hc
    clear F1
    have hi : i < ns.length := by rw [← hints.length]; exact (List.getElem?_eq_some_iff.mp hv).1
    obtain ⟨t, ht⟩ := hints.get i ns[i] (by simp [hi])
    rw [ht] at hv
    cases hv
    have ⟨ht0, htu⟩ := htok.2 _ _ (List.mem_of_getElem? ht)
    have hu0 := htok.1
    have htake : ns.take (i + 1) = ns.take i ++ [ns[i]] := by rw [List.take_add_one]; simp [hi]
    by_cases hy : ns[i] = y
    · have hy2 := hy
      generalize ns[i] = x at *
      subst hy2
      k_steps
      have e := cnt_end1 (p := fun k => decide (k = x)) (pre := ns.take i) (k := x) rfl (decide_eq_true rfl)
      refine ⟨_, _, _, _, rfl, (by assumption), (by assumption), rfl, ?_, ?_⟩
      · (intro z hz; simp only [List.mem_cons, List.not_mem_nil, or_false, not_or] at hz; simp only [if_neg hz.1, if_neg hz.2])
      · rw [htake, ← e]; exact ⟨_, rfl⟩
    · have htu2 : t ≠ t2 := fun e => hy (htu e)
      generalize ns[i] = x at *
      k_steps
      · exact absurd (by assumption) hy
      have e := cnt_end0 (p := fun k => decide (k = y)) (pre := ns.take i) (k := x) rfl (decide_eq_false hy)
      refine ⟨_, _, _, _, rfl, (by assumption), (by assumption), rfl, ?_, ?_⟩
      · (intro z hz; simp only [List.mem_cons, List.not_mem_nil, or_false, not_or] at hz; simp only [if_neg hz.1, if_neg hz.2])
      · rw [htake, ← e]; exact ⟨_, rfl⟩
  case k4 =>
    rintro m nx h tk ⟨rfl, hkm, tc, hc⟩ F1 N1
    rw [hints.length, List.take_length] at hc
    have F2 := fr_two F1 hkm hc
    clear F1
    dsimp only
    k_steps
    exact hret _ _ _ (by k_asm) (by assumption)
section
local macro_rules | `(tactic| omega) => `(tactic| lia)
theorem ltS {news : List (Addr × Obj)} {d : Nat} (h : ∀ p ∈ news, p.1 < d) : ∀ p ∈ news, p.1 < d + 1 := fun p hp => Nat.lt_succ_of_lt (h p hp)


set_option rowWalk.seconds 0 in
theorem floordiv_says (w : World) (p : Program) (loose : List Str) (mean : ExcName → Option Value) (mg mb : Str → Option Value)
   (x y : Int) (t1 t2 : Tok) : ∀ (dp un : Nat) (gd : Option (List Code)) (cn : Str) (cs : Scope) (a : Addr) (ccd : Value) (cl : List (Str × Addr)) (outer : List Env) (A₀ : Around) (base h₀ : Heap) (L : Addr) (m : Str → Option Value) (news : List (Addr × Obj)) (s : Shared) (Q E : Value → Shared → Prop),
   Below A₀ base outer h₀ → Fr h₀ L s.heap m → (hd.heap_39 w.params).In h₀ → News h₀ L s.heap news → Top p loose mean mg mb h₀ → cs.kind = .function → dp + 1 < recursionLimit → un + 16 < cLine → 0 ≤ x → x ≤ 1000 → 0 < y → y ≤ 1000 →
   (∀ t h' tk', Fr h₀ L h' m → News h₀ L h' news → s.toks ≤ t → t < tk' → Q (.int (x.fdiv y) t) { s with heap := h', toks := tk' }) →
   wpAny (model PySem.Challenge.rw_we0013_01.row.prog w) (ktrTop dp un gd cn cs L a ccd cl outer) (call (.ref 77) [.int x t1, .int y t2]) Q E s := by
  w_top off
  k_fill
  intro dp un gd cn cs a ccd cl outer A₀ base h₀ L m news s Q E B F X N T hk hd0 hu hx0 hx1 hy0 hy1 hret
  k_with_none
  k_with "exec For Name Call cons nil" => (refine For_T ?_)
  k_with "execs cons" => (refine wpAny_execs_cons ?_)
  k_with "execs nil" => (refine wpAny_execs_nil ?_)
  refine wpAny_call ?_
  k_dflt cell_enter
  k_steps
  all_goals exact hret _ _ _ (by k_asm) (by assumption) (by show _ ≤ _; omega) (by show _ < _; omega)
noncomputable def rowF (size across along step : Int) : Int := (([1, -across, -along, across + along - 1].map fun k => (k * step).fmod size).sum).fdiv size
theorem fr_one {h₀ h : Heap} {L : Addr} {m₀ m₁ : Str → Option Value} {x1 : Str} (F : Fr h₀ L h m₁) (hk : Keeps m₀ [x1] m₁) :
    Fr h₀ L h (fun y => if y = x1 then m₁ x1 else m₀ y) := fr_eq F fun y => by
  by_cases e1 : y = x1
  · simp [e1]
  · simp only [e1, if_false]; exact hk y (by simp [e1])
noncomputable def rowG (size across along : Int) (k : Nat) : Int := cntI (fun x => decide (x = (k : Int))) ((List.range (size - 0).toNat).map fun (k : Nat) => rowF size across along (k : Int))
theorem cntI_bounds (p : Int → Bool) (l : List Int) : 0 ≤ cntI p l ∧ cntI p l ≤ l.length := by
  induction l with
  | nil => simp [cntI]
  | cons x r ih =>
    have e : cntI p (x :: r) = (if p x then 1 else 0) + cntI p r := rfl
    rw [e, List.length_cons]
    split <;> omega
theorem rowG_in {size across along : Int} (h : size ≤ 9) : KBa.In ((List.range 4).map (rowG size across along)) := by
  intro n hn
  obtain ⟨k, _, rfl⟩ := List.mem_map.mp hn
  have := cntI_bounds (fun x => decide (x = (k : Int))) ((List.range (size - 0).toNat).map fun (k : Nat) => rowF size across along (k : Int))
  rw [List.length_map, List.length_range] at this
  unfold rowG
  omega
theorem news_listK {h₀ h : Heap} {L D : Addr} {ys : List Value} {news : List (Addr × Obj)} (N : News h₀ L h ((D, LCg.lst ys) :: news)) : h.IsList D ys.toArray := ⟨_, (N _ (.head _)).1, rfl, _, rfl⟩
set_option rowWalk.seconds 0 in
theorem law_row_says (w : World) (p : Program) (loose : List Str) (mean : ExcName → Option Value) (mg mb : Str → Option Value) 
   (size across along : Int) (t1 t2 t3 : Tok) : ∀ (dp un : Nat) (gd : Option (List Code)) (cn : Str) (cs : Scope) (a : Addr) (ccd : Value) (cl : List (Str × Addr)) (outer : List Env) (A₀ : Around) (base h₀ : Heap) (L : Addr) (m : Str → Option Value) (news : List (Addr × Obj)) (s : Shared) (Q E : Value → Shared → Prop),
   Below A₀ base outer h₀ → Fr h₀ L s.heap m → (hd.heap_39 w.params).In h₀ → News h₀ L s.heap news → Top p loose mean mg mb h₀ → cs.kind = .function → dp + 4 < recursionLimit → un + 32 < cLine →  2 ≤ size → size ≤ 9 → 0 ≤ across → across < size → 0 ≤ along → along < size →
   (∀ t h' tk', Fr h₀ L h' m → News h₀ L h' news → Q (.bytes (byteArr ((List.range 4).map (rowG size across along))) t) { s with heap := h', toks := tk' }) →
   wpAny (model PySem.Challenge.rw_we0013_01.row.prog w) (ktrTop dp un gd cn cs L a ccd cl outer) (call (.ref 110) [.int size t1, .int across t2, .int along t3]) Q E s := by
  w_top off
  k_fill
  intro dp un gd cn cs a ccd cl outer A₀ base h₀ L m news s Q E B F X N T hk hd0 hu hs0 hs1 ha0 ha1 hb0 hb1 hret
  k_with_none
  k_with "exec For Name Call cons nil" => (refine For_T ?_)
  k_with "execs cons" => (refine wpAny_execs_cons ?_)
  k_with "execs nil" => (refine wpAny_execs_nil ?_)
  k_with "eval ListComp" => (k_dflt (refine ListComp_T (F₀ := by k_asm) (by with_unfolding_all rfl) (by decide) (by rfl) (by decide) (by rfl) ?_))
  k_with "call ref" => (k_here; (with_reducible show wpAny _ _ (call (Value.ref 98) _) _ _ _); k_dflt (refine' countOf_says _ _ _ _ _ _ _ _ _ _ _ _ _ _ _ _ _ _ _ _ _ _ _ _ _ _ _ _ _ _ ?wkk1 ?wkk2 ?wkk3 ?wkk4 ?wkk5 ?wkkK ?wkkd ?wkku ?wkkl ?wkki ?wkkt ?wkks ?_; (case wkk1 => k_asm); (case wkk2 => k_asm); (case wkk3 => k_asm); (case wkk4 => k_asm); (case wkk5 => k_asm); (case wkkK => first | exact rfl | assumption); (case wkkd => ktr_room); (case wkku => ktr_units); (case wkkl => k_mem); (case wkki => assumption); (case wkkt => assumption); (case wkks => assumption)); intro t9 h9 tk9 F9 N9; (try dsimp only); (try k_fold))
  have hMk := kstMark
  refine wpAny_call ?_
  k_dflt (refine' code_defC ?k1 ?k2 ?k3 ?k4 ?k5 ?kA ?kF ?kK ?k6 ?k7 ?k8 ?k9 ?kB ?kD ?_ ?c2 ?c3 ?c4; (case kA => exact rfl); (case kF => exact rfl); (case kK => assumption); (case k1 => k_asm); (case k2 => k_asm); (case k3 => k_asm); (case k4 => k_asm); (case k5 => k_asm); (case k6 => k_is); (case k7 => k_is); (case k8 => ktr_room); (case k9 => exact BindsTo.of_eq rfl); (case kB => exact rfl); (case kD => decide +kernel); (case c2 => exact rfl); (case c3 => exact rfl); (case c4 => exact rfl); k_whole; intro g' L' h' tk' cells' FG' F' N' Y' B' X' T' l1; (have l1a := ltS l1; have l1b := ltS l1a; have l1c := ltS l1b; have l1d := ltS l1c); (try k_lt l1); k_cells Y'; (try simp only [List.cons_append, List.nil_append] at N'); (try dsimp only); (try k_lift B'); (try k_fold))
  k_steps
  rename_i o1 o2 o3 d1 d2 d3 lH hL lt1 h3 o4 F3 N3 d4 h5 tk5 t5 u5 v5 hR F5 N5 hk5
  clear F3 N3
  refine loopRange_T (n := (size - 0).toNat) (fun m₀ i m nx tk => ∃ vs nn oS, nx = (lH, listOf vs.toArray nn) :: (L' + 1 + 1 + 1, oS) :: (L' + 1 + 1, o4) :: (L' + 1, o3) :: news ∧ (∃ cv, oS.data = .cell cv) ∧
     IntsAre vs ((List.range i).map fun (k : Nat) => rowF size across along (k : Int)) ∧ (∀ x t, Value.int x t ∈ vs → t ≠ 0 ∧ t < tk) ∧ Keeps m₀ [Str.ofString "rests"] m) rfl F5 N5 hR (small_one (by omega) (by omega) (by omega) (by omega)) (rangeSize_nat _ _) ?k1 ?k2 ?k3 ?k4
  case k1 => rintro i m nx tk ⟨vs, nn, oS, rfl, _⟩; rfl
  case k2 => exact ⟨[], 0, o1, rfl, ⟨_, d1⟩, .nil, (fun _ _ h => nomatch h), Keeps.refl _ _⟩
  case k3 =>
    rintro i m nx h tk I o hi ⟨vs, nn, oS, rfl, ⟨cv, hcv⟩, hints, htok, hkm⟩ F6 N6 hI
    clear F5 N5
    have hI2 := allLt_of hI
    simp only [AllLt, and_true] at hI2
    have F7 := fr_one F6 hkm
    clear F6
    have hvl : vs.length = i := by have := hints.length; simpa using this
    rw [Int.zero_add]
    k_steps
    intro hle
    dsimp only at hle
    rename News _ _ _ _ => N9
    rename Fr _ _ _ _ => F9
    simp only [List.push_toArray] at N9
    refine ⟨_, _, _, _, rfl, F9, news_tail (news_tail N9), _, _, _, rfl, ⟨_, by assumption⟩, ?i1, ?i2, ?i3⟩
    case i1 => rw [List.range_succ, List.map_append]; exact hints.append (.cons _ _ .nil)
    case i2 =>
      intro x t hx
      rcases List.mem_append.mp hx with hx | hx
      · have := htok x t hx
        exact ⟨this.1, Nat.lt_of_lt_of_le this.2 hle⟩
      · cases List.mem_singleton.mp hx
        exact ⟨Nat.succ_ne_zero (_ + 1), Nat.lt_succ_self _⟩
    case i3 => intro z hz; simp only [List.mem_cons, List.not_mem_nil, or_false] at hz; simp only [if_neg hz]
  case k4 =>
    rintro m nx h tk ⟨vs, nn, oS, rfl, ⟨cv, hcv⟩, hints, htok, hkm⟩ F6 N6
    clear F5 N5
    have F7 := fr_one F6 hkm
    clear F6
    dsimp only
    k_steps
    rename_i h6 tk6 t6 u6 v6 hR6 F8 N8 hk6 hle
    have hle2 : tk ≤ tk6 := hle
    refine ⟨_, 0, 4, _, _, _, 4, _, fun k => rowG size across along k, rfl, rfl, F8, N8, hR6, rfl, rfl, Nat.le_of_ble_eq_true rfl, ?_, ?_⟩
    · intro i t I oI C oC D oD m₂ h tk' E' hi ht hC hx F9 N9 hI hID hDC
      rw [Int.zero_add] at hx
      have ht2 : tk6 ≤ t := ht
      have htokI : TokOk vs (i : Int) t := by
        have hpos : 0 < vs.length := by have := hints.length; simp at this; omega
        obtain ⟨x0, t0, e0⟩ := hints.all _ (List.getElem_mem hpos)
        have h0 := htok x0 t0 (e0 ▸ List.getElem_mem hpos)
        refine ⟨Nat.ne_of_gt (Nat.lt_of_lt_of_le (Nat.lt_of_le_of_lt (Nat.zero_le _) h0.2) (Nat.le_trans hle2 ht2)), fun x t' hx' => ?_⟩
        have h1 := htok x t' hx'
        exact ⟨h1.1, fun e => absurd (Nat.lt_of_lt_of_le h1.2 (Nat.le_trans hle2 ht2)) (e ▸ Nat.lt_irrefl _)⟩
      have hsmI : smallInt (i : Int) = true := by
        have : i = 0 ∨ i = 1 ∨ i = 2 ∨ i = 3 := by omega
        rcases this with rfl | rfl | rfl | rfl <;> rfl
      k_steps
      exact ⟨_, _, _, rfl, rfl, by assumption, by assumption⟩
    · intro D ys h tk' hys F9 N9 hD
      k_steps
      refine KBa.make_K F9 N9 rfl (news_listK N9) hys (rowG_in (by omega)) (by simp) fun h7 t7 k7 F10 N10 _ => ?_
      clear F9 N9
      k_steps
      exact hret _ _ _ (by k_asm) (fun p hp => (by assumption : News h₀ L _ _) p (by kcj_m))
def NSub (a b : List (Addr × Obj)) : Prop := ∀ q ∈ a, q ∈ b
theorem mem_hit {q a1 a2 a3 a4 b1 b2 b3 : Addr × Obj} {news : List (Addr × Obj)} (h : q ∈ b1 :: b2 :: b3 :: news) : q ∈ a1 :: a2 :: a3 :: a4 :: b1 :: b2 :: b3 :: news := .tail _ (.tail _ (.tail _ (.tail _ h)))
theorem mem_miss {q a1 a2 a3 a4 b1 b2 b3 : Addr × Obj} {news : List (Addr × Obj)} (h : q ∈ b1 :: b2 :: b3 :: news) : q ∈ a1 :: b2 :: a2 :: a3 :: a4 :: b1 :: b3 :: news := by
  simp only [List.mem_cons] at h ⊢
  rcases h with h | h | h | h <;> simp [h]
theorem pos_of {vs : List Value} {ns : List Int} {k : Nat} (h : vs.isEmpty = false) (h1 : vs.toArray.size = k) (h2 : ns.length = k) : 0 < ns.length := by
  cases vs with
  | nil => cases h
  | cons _ _ => rw [h2, ← h1]; simp
def Stop (P : Prop) : Prop := P
theorem to_stop {P : Prop} (h : Stop P) : P := h
theorem news_abs2 {g h : Heap} {L : Addr} {f : Addr × Obj → List (Addr × Obj)} (v : Addr × Obj) (N : News g L h (f v)) : ∃ F, F = f ∧ News g L h (F v) := ⟨_, rfl, N⟩
theorem allLt_ne {d : Addr} {l : List (Addr × Obj)} (h : AllLt d l) : ∀ p ∈ l, p.1 ≠ d := by
  induction l with
  | nil => intro p hp; cases hp
  | cons q r ih =>
    intro p hp
    rcases List.mem_cons.mp hp with rfl | hp
    · exact Nat.ne_of_lt h.1
    · exact ih h.2 p hp
theorem i2d_zero {n : Int} {k : Nat} (hn : 8 ≤ n) (h : ((Builtin.Int.intBits 0 : Int) + n - 1).fdiv n = (k : Int)) : k = 0 := by
  have e0 : Builtin.Int.intBits 0 = 0 := by decide
  rw [e0, Int.fdiv_eq_ediv_of_nonneg _ (by omega), Int.ediv_eq_zero_of_lt (by omega) (by omega)] at h
  omega
theorem i2d_bound {n x : Int} {k : Nat} (hn : 8 ≤ n) (hx : 0 ≤ x) (h : ((Builtin.Int.intBits x : Int) + n - 1).fdiv n = (k : Int)) : x.toNat < (2 ^ n.toNat) ^ k ∧ (x ≠ 0 → 0 < k) := by
  rw [Int.fdiv_eq_ediv_of_nonneg _ (by omega)] at h
  have h1 : (Builtin.Int.intBits x : Int) + n - 1 < n * (k + 1) := by
    have := Int.lt_mul_ediv_self_add (x := (Builtin.Int.intBits x : Int) + n - 1) (k := n) (by omega)
    rw [h] at this
    rw [Int.mul_add, Int.mul_one]; exact this
  have h2 : (Builtin.Int.intBits x : Int) ≤ n * k := by rw [Int.mul_add, Int.mul_one] at h1; omega
  have h3 : Builtin.Int.intBits x ≤ n.toNat * k := by
    have : (n.toNat : Int) = n := by omega
    have h4 : ((n.toNat * k : Nat) : Int) = n * k := by rw [Int.natCast_mul, this]
    omega
  have h5 := intBits_le_iff.mp h3
  refine ⟨?_, fun hx0 => ?_⟩
  · rw [← Nat.pow_mul]; rwa [show x.natAbs = x.toNat by omega] at h5
  · rcases Nat.eq_zero_or_pos k with rfl | hk
    · rw [Nat.mul_zero, Nat.pow_zero] at h5; omega
    · exact hk
theorem i2d_join {B k lo x : Nat} {ns : List Int} (hk : 0 < k) (hlo : lo + k + 1 ≤ ns.length) :
    splice (splice ns lo ((idig B ((k + 1) / 2 - 1 + 1) (x % B ^ ((k + 1) / 2))).map Int.ofNat)) (lo + (k + 1) / 2) ((idig B (k - (k + 1) / 2 + 1) (x / B ^ ((k + 1) / 2))).map Int.ofNat) = splice ns lo ((idig B (k + 1) x).map Int.ofNat) := by
  have e1 : (k + 1) / 2 - 1 + 1 = (k + 1) / 2 := by omega
  have e2 : (k + 1) / 2 - 1 + 1 + (k - (k + 1) / 2 + 1) = k + 1 := by omega
  have h1 := idig_app (B := B) (k - (k + 1) / 2) ((k + 1) / 2 - 1) x
  rw [e2, e1] at h1
  have h2 := splice_two (ns := ns) (D := (idig B ((k + 1) / 2) (x % B ^ ((k + 1) / 2))).map Int.ofNat) (E := (idig B (k - (k + 1) / 2 + 1) (x / B ^ ((k + 1) / 2))).map Int.ofNat) (lo := lo) (by omega)
  rw [List.length_map, idig_len, ← List.map_append, ← h1] at h2
  rw [e1]; exact h2
theorem i2d_leaf {B lo x : Nat} {ns : List Int} {iL ix : Int} (hL : iL = (lo : Int)) (hx : ix = (x : Int)) (h : lo < ns.length) : ns.set iL.toNat ix = splice ns lo ((idig B (0 + 1) x).map Int.ofNat) := by
  subst hL hx
  rw [Int.toNat_natCast, splice_one h]; rfl
theorem lt_of_K {P : Params} {g h : Heap} {L : Addr} {m : Str → Option Value} (X : (hd.heap_39 P).In g) (F : Fr g L h m) : @LT.lt Nat instLTNat 40 L := by
  have h1 : g.get? 42 = some _ := X 42 _ rfl
  have h2 := Heap.lt_size h1
  have h3 := F.above
  exact Nat.lt_of_lt_of_le (Nat.lt_trans (by decide) h2) h3
theorem mem_imiss {q a1 a2 a3 a4 a5 b1 b2 b3 : Addr × Obj} {news : List (Addr × Obj)} (h : q ∈ b1 :: b2 :: b3 :: news) : q ∈ a1 :: b3 :: b1 :: a2 :: a3 :: a4 :: a5 :: b2 :: news := by
  simp only [List.mem_cons] at h ⊢
  rcases h with h | h | h | h <;> simp [h]
theorem mem_ihit {q a1 a2 a3 a4 a5 b1 b2 b3 : Addr × Obj} {news : List (Addr × Obj)} (h : q ∈ b1 :: b2 :: b3 :: news) : q ∈ a1 :: b1 :: a2 :: a3 :: a4 :: a5 :: b2 :: b3 :: news := by
  simp only [List.mem_cons] at h ⊢
  rcases h with h | h | h | h <;> simp [h]
set_option rowWalk.seconds 0 in
theorem digits2int_says (w : World) (p : Program) (loose : List Str) (mean : ExcName → Option Value) (mg mb : Str → Option Value)
   (l : Addr) (vs : List Value) (ns : List Int) (nn k : Nat) (n : Int) (t1 t2 : Tok) (tD : List (Addr × Obj)) : ∀ (dp un : Nat) (gd : Option (List Code)) (cn : Str) (cs : Scope) (a : Addr) (ccd : Value) (cl : List (Str × Addr)) (outer : List Env) (A₀ : Around) (base h₀ : Heap) (L : Addr) (m : Str → Option Value) (news : List (Addr × Obj)) (s : Shared) (Q E : Value → Shared → Prop),
   Below A₀ base outer h₀ → Fr h₀ L s.heap m → (hd.heap_39 w.params).In h₀ → News h₀ L s.heap (tD ++ (l, listOf vs.toArray nn) :: news) → Top p loose mean mg mb h₀ → cs.kind = .function → 
   CodeHd base 41 37 → TabD tD → dp + 8 < recursionLimit → un + 32 < cLine → IntsAre vs ns → (∀ x ∈ ns, 0 ≤ x ∧ x < 2 ^ n.toNat) → vs.toArray.size = k → ns.length = k → vs.isEmpty = false → k ≤ 4 → @LT.lt Nat instLTNat 40 l → (∀ q ∈ news, q.1 ≠ 37) → 0 ≤ n → n ≤ 256 →
   (∀ t h' tk' tD', TabD tD' → Fr h₀ L h' m → News h₀ L h' (tD' ++ (l, listOf vs.toArray nn) :: news) → Q (.int (dsum (2 ^ n.toNat) ns) t) { s with heap := h', toks := tk' }) →
   wpAny (model PySem.Challenge.rw_we0013_01.row.prog w) (ktrTop dp un gd cn cs L a ccd cl outer) (call (.ref 42) [.ref l, .int n t2]) Q E s := by
  w_top off
  k_fill
  intro dp un gd cn cs a ccd cl outer A₀ base h₀ L m news s Q E B F X N T hk hC1 hTD hd0 hu hints hdig hvz hnl hvne hk4 hl40 hg37 hn0 hn1 hret
  obtain ⟨nw, hnw, N⟩ := led_abs N
  k_with_none
  k_with "execs cons" => (refine wpAny_execs_cons ?_)
  k_with "execs nil" => (refine wpAny_execs_nil ?_)
  k_with "exec FunctionDef" => refine to_stop ?_
  k_with "call ref" => refine to_stop ?_
  k_with "binaryOp LShift int int" => ((with_reducible refine lshift_int ?wkkbn ?wkkbs ?_); (case wkkbn => assumption); (case wkkbs => assumption))
  have hMk := kstMark
  refine wpAny_call ?_
  k_dflt (refine' code_defC ?k1 ?k2 ?k3 ?k4 ?k5 ?kA ?kF ?kK ?k6 ?k7 ?k8 ?k9 ?kB ?kD ?_ ?c2 ?c3 ?c4; (case kA => exact rfl); (case kF => exact rfl); (case kK => assumption); (case k1 => k_asm); (case k2 => k_asm); (case k3 => k_asm); (case k4 => k_asm); (case k5 => k_asm); (case k6 => k_is); (case k7 => k_is); (case k8 => ktr_room); (case k9 => exact BindsTo.of_eq rfl); (case kB => exact rfl); (case kD => decide +kernel); (case c2 => exact rfl); (case c3 => exact rfl); (case c4 => exact rfl); k_whole; intro g' L' h' tk' cells' FG' F' N' Y' B' X' T' l1; (have l1a := ltS l1; have l1b := ltS l1a; have l1c := ltS l1b; have l1d := ltS l1c); (try k_lt l1); k_cells Y'; (try simp only [List.cons_append, List.nil_append] at N'); (try dsimp only); (try k_lift B'); (try k_fold))
  obtain ⟨m0, hm0, F'⟩ := fr_abs F'
  clear hm0
  k_steps
  unfold Stop
  rename News _ _ _ _ => N9
  have hL40 := lt_of_K (by assumption) F'
  rw [hnw] at N9 l1
  have h4 : ∀ q ∈ tD, q.1 < L' := fun q hq => l1 q (List.mem_append_left _ hq)
  k_dflt (refine' nestDef_K ?d0 ?k0 ?a0 ?_; (case d0 => exact rfl); (case k0 => exact rfl); (case a0 => exact rfl))
  k_dflt (refine' nestS_K (pre := [_, _, _]) (tD := tD) F' N9 T' ?C ?cd hTD ?ln ?col ?h1 ?h2 ?h3 ?h4 ?cl ?_; (case C => kn_code); (case cd => exact rfl); (case ln => rfl); (case col => rfl); (case cl => exact rfl))
  case h1 => exact List.forall_mem_cons.mpr ⟨Nat.ne_of_gt (by omega), List.forall_mem_cons.mpr ⟨Nat.ne_of_gt (by omega), List.forall_mem_cons.mpr ⟨Nat.ne_of_gt (by omega), List.forall_mem_nil _⟩⟩⟩
  case h2 => exact off_cons (Nat.ne_of_gt (by omega)) hg37
  case h3 => exact ⟨_, .head _, by omega⟩
  case h4 => exact fun q hq => List.forall_mem_cons.mpr ⟨Nat.lt_trans (h4 q hq) (by omega), List.forall_mem_cons.mpr ⟨Nat.lt_trans (h4 q hq) (by omega), List.forall_mem_cons.mpr ⟨Nat.lt_trans (h4 q hq) (by omega), List.forall_mem_nil _⟩⟩⟩
  intro f1 c1 oc1 vs1 tc1 ct1 dc1 h3 tk3 F1 N1 dk1 dk2 k40 hne hlt
  simp only [List.cons_append, List.nil_append] at N1 hlt
  have hne1 : @Ne Nat (L' + 1 + 1 + 1) c1 := hne _ (.head _)
  have hne2 : @Ne Nat (L' + 1 + 1) c1 := hne _ (.tail _ (.head _))
  have hne3 : @Ne Nat (L' + 1) c1 := hne _ (.tail _ (.tail _ (.head _)))
  have hf1 : @LT.lt Nat instLTNat (L' + 1 + 1 + 1) f1 := hlt _ (.head _)
  have hlL : @LT.lt Nat instLTNat l L' := l1 _ (List.mem_append_right _ (.head _))
  have hlf : @LT.lt Nat instLTNat l f1 := hlt _ (.tail _ (.tail _ (.tail _ (.head _))))
  have hnn : ∀ q ∈ news, q.1 < L' := fun q hq => l1 q (List.mem_append_right _ (.tail _ hq))
  have hn3 : ∀ q ∈ news, q.1 ≠ L' + 1 + 1 + 1 := fun q hq => Nat.ne_of_lt (Nat.lt_trans (hnn q hq) (by omega))
  k_steps
  all_goals (try (exfalso; rename ¬ 0 < ns.length => hbad; exact hbad (pos_of hvne hvz hnl)))
  rename News _ _ _ _ => N9
  rename Fr _ _ _ _ => F9
  obtain ⟨nx0, e0, hN⟩ : ∃ n0, n0 = _ ∧ News _ _ _ n0 := ⟨_, rfl, N9⟩
  clear hne hlt hnn hn3 l1 l1a l1b l1c l1d h4
  have inner : ∀ (k lo : Nat) (iL iR : Int) (tL tR : Tok), iL = (lo : Int) → iR = (lo : Int) + k + 1 → ∀ (dp un : Nat) (gd : Option (List Code)) (cn : Str) (cs : Scope) (a : Addr) (ccd : Value) (cl : List (Str × Addr)) (outer : List Env) (A₀ : Around) (h₀ : Heap) (L : Addr) (m : Str → Option Value) (nx : List (Addr × Obj)) (s : Shared) (Q E : Value → Shared → Prop),
   Below A₀ base outer h₀ → Fr h₀ L s.heap m → (hd.heap_39 w.params).In h₀ → News h₀ L s.heap nx → Top p loose mean mg mb h₀ → cs.kind = .function → NSub nx0 nx →  dp + k + 1 < recursionLimit → un + 4 * k + 12 < cLine → lo + k + 1 ≤ ns.length → (∀ t h' tk', Fr h₀ L h' m → News h₀ L h' nx → Q (.int (dsum (2 ^ n.toNat) ((ns.drop lo).take (k + 1))) t) { s with heap := h', toks := tk' }) →
     wpAny (model PySem.Challenge.rw_we0013_01.row.prog w) (ktrTop dp un gd cn cs L a ccd cl outer) (call (.ref f1) [.int iL tL, .int iR tR]) Q E s := by
    clear hret
    intro k
    induction k using Nat.strongRecOn with
    | _ k ih =>
    intro lo iL iR tL tR hiL hiR dp un gd cn cs a ccd cl outer A₀ h₀ L m nx s Q E B F X N T hk hsub hd0 hu hlen hret
    have hsub2 := hsub
    unfold NSub at hsub
    rw [e0] at hsub
    simp only [List.forall_mem_cons] at hsub
    obtain ⟨m1, m2, m3, m4, m5, m6, m8, m9⟩ := hsub
    have hl4 : ns.length ≤ 4 := by omega
    by_cases hk0 : k = 0
    · subst hk0
      have hir1 : iL + 1 = iR := by omega
      have e : ns.getD iL.toNat 0 = dsum (2 ^ n.toNat) ((ns.drop lo).take (0 + 1)) := by subst hiL; exact leaf_val (by omega)
      refine wpAny_call ?_
      (refine' code_nest ?k1 ?k2 ?k3 ?k4 ?k5 ?kA ?kF ?kK ?k6 ?k7 ?k8 ?k9 ?kB ?_ ?c2 ?c3 ?c4 ?c5; (case kA => exact rfl); (case kF => exact rfl); (case kK => assumption); (case k1 => k_asm); (case k2 => k_asm); (case k3 => k_asm); (case k4 => k_asm); (case k5 => k_asm); (case k6 => k_mem); (case k7 => exact codeRec_news (by k_asm) (by k_mem) (by assumption) (by assumption)); (case k8 => ktr_room); (case k9 => exact BindsTo.of_eq rfl); (case c5 => decide); (case kB => exact locs rfl); (case c2 => exact rfl); (case c3 => exact rfl); (case c4 => exact rfl); k_whole; intro g' L' h' FG' F' N' B' X' T'; (try dsimp only); (try k_lift B'); (try k_fold))
      k_steps
      all_goals first | (exact absurd hir1 (by assumption)) | skip
      rw [e]
      exact hret _ _ _ (by k_asm) (by assumption)
    have hkn : 0 < k := by omega
    obtain ⟨hsh0, hsz, hval⟩ := d2i_facts hdig hn0 hn1 hkn hlen hl4 hiL hiR
    have hm1 := mid_is hiL hiR
    have hir1 : iL + 1 ≠ iR := by omega
    have hq1 : iR = ((lo + (k + 1) / 2 : Nat) : Int) + ((k - (k + 1) / 2 : Nat) : Int) + 1 := by omega
    have hq2 : (iL + iR).fdiv (2 ^ Int.toNat 1) = (lo : Int) + (((k + 1) / 2 - 1 : Nat) : Int) + 1 := by rw [hm1]; omega
    refine wpAny_call ?_
    (refine' code_nest ?k1 ?k2 ?k3 ?k4 ?k5 ?kA ?kF ?kK ?k6 ?k7 ?k8 ?k9 ?kB ?_ ?c2 ?c3 ?c4 ?c5; (case kA => exact rfl); (case kF => exact rfl); (case kK => assumption); (case k1 => k_asm); (case k2 => k_asm); (case k3 => k_asm); (case k4 => k_asm); (case k5 => k_asm); (case k6 => k_mem); (case k7 => exact codeRec_news (by k_asm) (by k_mem) (by assumption) (by assumption)); (case k8 => ktr_room); (case k9 => exact BindsTo.of_eq rfl); (case c5 => decide); (case kB => exact locs rfl); (case c2 => exact rfl); (case c3 => exact rfl); (case c4 => exact rfl); k_whole; intro g' L' h' FG' F' N' B' X' T'; (try dsimp only); (try k_lift B'); (try k_fold))
    k_steps
    all_goals first | (exact absurd (by assumption) hir1) | skip
    unfold Stop
    k_dflt (refine' ih (k - (k + 1) / 2) (by omega) (lo + (k + 1) / 2) _ _ _ _ ?e1 ?e2 _ _ _ _ _ _ _ _ _ _ _ _ _ _ _ _ _ ?k1 ?k2 ?k3 ?k4 ?k5 ?kK ?ks ?kd ?ku ?kl ?_; (case k1 => k_asm); (case k2 => k_asm); (case k3 => k_asm); (case k4 => k_asm); (case k5 => k_asm); (case kK => first | exact rfl | assumption))
    case e1 => assumption
    case e2 => assumption
    case ks => assumption
    case kd => ktr_room
    case ku => ktr_units
    case kl => omega
    intro t9 h9 tk9 F9 N9
    (try dsimp only); (try k_fold)
    k_steps
    unfold Stop
    k_dflt (refine' ih ((k + 1) / 2 - 1) (by omega) lo _ _ _ _ ?e1 ?e2 _ _ _ _ _ _ _ _ _ _ _ _ _ _ _ _ _ ?k1 ?k2 ?k3 ?k4 ?k5 ?kK ?ks ?kd ?ku ?kl ?_; (case k1 => k_asm); (case k2 => k_asm); (case k3 => k_asm); (case k4 => k_asm); (case k5 => k_asm); (case kK => first | exact rfl | assumption))
    case e1 => assumption
    case e2 => assumption
    case ks => assumption
    case kd => ktr_room
    case ku => ktr_units
    case kl => omega
    intro t8 h8 tk8 F8 N8
    (try dsimp only); (try k_fold)
    k_steps
    rw [hval]
    exact hret _ _ _ (by k_asm) (by assumption)
  unfold Stop
  have hk1 : 0 < k := by cases vs with | nil => cases hvne | cons _ _ => (subst hvz; simp)
  have hfull : (ns.drop 0).take (k - 1 + 1) = ns := by rw [List.drop_zero]; exact List.take_of_length_le (by omega)
  k_dflt (refine' inner (k - 1) 0 _ _ _ _ ?e1 ?e2 _ _ _ _ _ _ _ _ _ _ _ _ _ _ _ _ _ ?k1 ?k2 ?k3 ?k4 ?k5 ?kK ?ks ?kd ?ku ?kl ?_; (case k1 => k_asm); (case k2 => k_asm); (case k3 => k_asm); (case k4 => k_asm); (case k5 => k_asm); (case kK => first | exact rfl | assumption))
  case e1 => rfl
  case e2 => omega
  case ks => subst e0; exact fun q hq => hq
  case kd => ktr_room
  case ku => ktr_units
  case kl => omega
  intro t7 h7 tk7 F7 N7
  (try dsimp only); (try k_fold)
  rw [hfull]
  k_steps
  rename News _ _ _ _ => kN'
  rename Fr _ _ _ _ => kF'
  rw [e0] at kN'
  exact hret _ _ _ _ (.one dk1 dk2 k40) kF' fun q hq => kN' q (.tail _ (.tail _ (.tail _ (.tail _ hq))))
theorem mem_i {q a1 a2 a3 a4 a5 b1 : Addr × Obj} {news : List (Addr × Obj)} (h : q ∈ b1 :: news) : q ∈ a1 :: b1 :: a2 :: a3 :: a4 :: a5 :: news := by
  rcases List.mem_cons.mp h with h | h <;> simp [h]
set_option rowWalk.seconds 0 in
theorem int2digits_says (w : World) (p : Program) (loose : List Str) (mean : ExcName → Option Value) (mg mb : Str → Option Value)
   (k : Nat) (x n : Int) (t1 t2 : Tok) (tI : List (Addr × Obj)) : ∀ (dp un : Nat) (gd : Option (List Code)) (cn : Str) (cs : Scope) (a : Addr) (ccd : Value) (cl : List (Str × Addr)) (outer : List Env) (A₀ : Around) (base h₀ : Heap) (L : Addr) (m : Str → Option Value) (news : List (Addr × Obj)) (s : Shared) (Q E : Value → Shared → Prop),
   Below A₀ base outer h₀ → Fr h₀ L s.heap m → (hd.heap_39 w.params).In h₀ → News h₀ L s.heap (tI ++ news) → Top p loose mean mg mb h₀ → cs.kind = .function → 
   CodeHd base 34 30 → TabI tI → dp + 8 < recursionLimit → un + 40 < cLine → 0 ≤ x → ((Builtin.Int.intBits x : Int) + n - 1).fdiv n = (k : Int) → k ≤ 4 → (∀ q ∈ news, q.1 ≠ 30) → 8 ≤ n → n ≤ 256 →
   (∀ D h' tk' vs' tI', TabI tI' → @LT.lt Nat instLTNat 40 D → IntsAre vs' ((idig (2 ^ n.toNat) k x.toNat).map Int.ofNat) → Fr h₀ L h' m → News h₀ L h' ((D, listOf vs'.toArray 0) :: (tI' ++ news)) → Q (.ref D) { s with heap := h', toks := tk' }) →
   wpAny (model PySem.Challenge.rw_we0013_01.row.prog w) (ktrTop dp un gd cn cs L a ccd cl outer) (call (.ref 35) [.int x t1, .int n t2]) Q E s := by
  w_top off
  k_fill
  intro dp un gd cn cs a ccd cl outer A₀ base h₀ L m news s Q E B F X N T hk hC1 hTI hd0 hu hx0 hxk hk4 hg30 hn0 hn1 hret
  obtain ⟨nw, hnw, N⟩ := led_abs N
  k_with_none
  k_with "exec If" => refine wpAny_If ?_
  k_with "execs cons" => first | (exfalso; rename ¬ ((_ : Int) + 1 = _) => hbad; exact absurd (by assumption) hbad) | (refine wpAny_execs_cons ?_)
  k_with "execs nil" => first | (exfalso; rename ¬ ((_ : Int) + 1 = _) => hbad; exact absurd (by assumption) hbad) | (refine wpAny_execs_nil ?_)
  k_with "exec FunctionDef" => refine to_stop ?_
  k_with "call ref" => refine to_stop ?_
  k_with "binaryOp LShift int int" => ((with_reducible refine lshift_int ?wkkbn ?wkkbs ?_); (case wkkbn => assumption); (case wkkbs => assumption))
  k_with "binaryOp RShift int int" => ((with_reducible refine rshift_int ?wkkbn ?_); (case wkkbn => first | assumption | decide))
  have hMk := kstMark
  refine wpAny_call ?_
  k_dflt (refine' code_defC ?k1 ?k2 ?k3 ?k4 ?k5 ?kA ?kF ?kK ?k6 ?k7 ?k8 ?k9 ?kB ?kD ?_ ?c2 ?c3 ?c4; (case kA => exact rfl); (case kF => exact rfl); (case kK => assumption); (case k1 => k_asm); (case k2 => k_asm); (case k3 => k_asm); (case k4 => k_asm); (case k5 => k_asm); (case k6 => k_is); (case k7 => k_is); (case k8 => ktr_room); (case k9 => exact BindsTo.of_eq rfl); (case kB => exact rfl); (case kD => decide +kernel); (case c2 => exact rfl); (case c3 => exact rfl); (case c4 => exact rfl); k_whole; intro g' L' h' tk' cells' FG' F' N' Y' B' X' T' l1; (have l1a := ltS l1; have l1b := ltS l1a; have l1c := ltS l1b; have l1d := ltS l1c); (try k_lt l1); k_cells Y'; (try simp only [List.cons_append, List.nil_append] at N'); (try dsimp only); (try k_lift B'); (try k_fold))
  k_steps
  unfold Stop
  rename_i lA hA lA1 D1 hB i1 n1 s1 e1 e2 e3 lB1 hC oC F5 N9 dC
  have hL40 := lt_of_K (by assumption) F5
  subst hnw
  have h4 : ∀ q ∈ tI, q.1 < L' := fun q hq => l1 q (List.mem_append_left _ hq)
  have hg9 : ∀ q ∈ news, q.1 ≠ D1 := fun q hq => allLt_ne lB1.2.2.2.2 q (List.mem_append_right _ hq)
  have hn3 : ∀ q ∈ news, q.1 ≠ L' + 1 + 1 + 1 := fun q hq => Nat.ne_of_lt (Nat.lt_trans (l1 q (List.mem_append_right _ hq)) (by omega))
  clear l1 l1a l1b l1c l1d
  have lA1 := lA1.1
  have lB1 := lB1.1
  obtain ⟨vs0', hv0, hi0⟩ := abs_vs i1
  rw [← hv0] at N9
  k_dflt (refine' nestDef_K ?d0 ?k0 ?a0 ?_; (case d0 => exact rfl); (case k0 => exact rfl); (case a0 => exact rfl))
  k_dflt (refine' nestS_K (pre := [_, _, _, _, _]) (tD := tI) F5 N9 T' ?C ?cd hTI ?ln ?col ?h1 ?h2 ?h3 ?h4 ?cl ?_; (case C => kn_code); (case cd => exact rfl); (case ln => rfl); (case col => rfl); (case cl => exact rfl))
  case h1 => exact List.forall_mem_cons.mpr ⟨Nat.ne_of_gt (by omega), List.forall_mem_cons.mpr ⟨Nat.ne_of_gt (by omega), List.forall_mem_cons.mpr ⟨Nat.ne_of_gt (by omega), List.forall_mem_cons.mpr ⟨Nat.ne_of_gt (by omega), List.forall_mem_cons.mpr ⟨Nat.ne_of_gt (by omega), List.forall_mem_nil _⟩⟩⟩⟩⟩
  case h2 => exact hg30
  case h3 => exact ⟨_, .head _, by omega⟩
  case h4 => exact fun q hq => List.forall_mem_cons.mpr ⟨Nat.lt_trans (h4 q hq) (by omega), List.forall_mem_cons.mpr ⟨Nat.lt_trans (h4 q hq) (by omega), List.forall_mem_cons.mpr ⟨Nat.lt_trans (h4 q hq) (by omega), List.forall_mem_cons.mpr ⟨Nat.lt_trans (h4 q hq) (by omega), List.forall_mem_cons.mpr ⟨Nat.lt_trans (h4 q hq) (by omega), List.forall_mem_nil _⟩⟩⟩⟩⟩
  intro f1 c1 oc1 vs1 tc1 ct1 dc1 h3 tk3 F1 N1 dk1 dk2 k40 hne hlt
  simp only [List.cons_append, List.nil_append] at N1 hlt
  have hne0 : @Ne Nat D1 c1 := hne _ (.head _)
  have hne1 : @Ne Nat (L' + 1 + 1 + 1) c1 := hne _ (.tail _ (.tail _ (.head _)))
  have hf0 : @LT.lt Nat instLTNat D1 f1 := hlt _ (.head _)
  clear hne hlt h4 N9 F5
  k_steps
  rename News _ _ _ _ => N9
  obtain ⟨pre, post, ep, eq, hN⟩ : ∃ pre post, pre = [_] ∧ post = _ ∧ News _ _ _ (pre ++ (D1, listOf vs0'.toArray 0) :: post) := ⟨[_], _, rfl, rfl, N9⟩
  clear lA1 lB1
  rename x ≠ 0 => hx5
  have inner : ∀ (k lo x : Nat) (ix iL iR : Int) (tx tL tR : Tok), iL = (lo : Int) → iR = (lo : Int) + k + 1 → ix = (x : Int) → x < (2 ^ n.toNat) ^ (k + 1) → ∀ (dp un : Nat) (gd : Option (List Code)) (cn : Str) (cs : Scope) (a : Addr) (ccd : Value) (cl : List (Str × Addr)) (outer : List Env) (A₀ : Around) (h₀ : Heap) (L : Addr) (m : Str → Option Value) (vs : List Value) (ns : List Int) (s : Shared) (Q E : Value → Shared → Prop),
   Below A₀ base outer h₀ → Fr h₀ L s.heap m → (hd.heap_39 w.params).In h₀ → News h₀ L s.heap (pre ++ (D1, listOf vs.toArray 0) :: post) → Top p loose mean mg mb h₀ → cs.kind = .function → IntsAre vs ns →  dp + k + 1 < recursionLimit → un + 4 * k + 12 < cLine → lo + k + 1 ≤ ns.length ∧ ns.length ≤ 4 → (∀ h' tk' vs', IntsAre vs' (splice ns lo ((idig (2 ^ n.toNat) (k + 1) x).map Int.ofNat)) → Fr h₀ L h' m → News h₀ L h' (pre ++ (D1, listOf vs'.toArray 0) :: post) → Q .none { s with heap := h', toks := tk' }) →
     wpAny (model PySem.Challenge.rw_we0013_01.row.prog w) (ktrTop dp un gd cn cs L a ccd cl outer) (call (.ref f1) [.int ix tx, .int iL tL, .int iR tR]) Q E s := by
    subst ep eq
    clear hret N9 hN hi0 hv0 i1 s1 e1 e2 e3 hxk hx5
    simp only [List.cons_append, List.nil_append]
    intro k
    induction k using Nat.strongRecOn with
    | _ k ih =>
    intro lo x ix iL iR tx tL tR hiL hiR hix hxb dp un gd cn cs a ccd cl outer A₀ h₀ L m vs ns s Q E B F X N T hk hints hd0 hu hlen hret
    obtain ⟨hlen, hl4⟩ := hlen
    by_cases hk0 : k = 0
    · subst hk0
      have hir1 : iL + 1 = iR := by omega
      have e := i2d_leaf (B := 2 ^ n.toNat) (ns := ns) hiL hix (by omega)
      refine wpAny_call ?_
      (refine' code_nest ?k1 ?k2 ?k3 ?k4 ?k5 ?kA ?kF ?kK ?k6 ?k7 ?k8 ?k9 ?kB ?_ ?c2 ?c3 ?c4 ?c5; (case kA => exact rfl); (case kF => exact rfl); (case kK => assumption); (case k1 => k_asm); (case k2 => k_asm); (case k3 => k_asm); (case k4 => k_asm); (case k5 => k_asm); (case k6 => k_mem); (case k7 => exact codeRec_news (by k_asm) (by k_mem) (by assumption) (by assumption)); (case k8 => ktr_room); (case k9 => exact BindsTo.of_eq rfl); (case c5 => decide); (case kB => exact locs rfl); (case c2 => exact rfl); (case c3 => exact rfl); (case c4 => exact rfl); k_whole; intro g' L' h' FG' F' N' B' X' T'; (try dsimp only); (try k_lift B'); (try k_fold))
      k_steps
      rename IntsAre (List.set _ _ _) _ => hi5
      rw [e] at hi5
      exact hret _ _ _ hi5 (by k_asm) (by assumption)
    have hkn : 0 < k := by omega
    have hlen2 : ns.length ≤ 4 ∧ k ≤ 4 := by omega
    obtain ⟨hsh0, hsz, eup, exor, hblo, hbup⟩ := i2d_facts (by omega : 0 ≤ n) hn1 hkn hlen2.2 hiL hiR hix hxb
    have hm1 := mid_is hiL hiR
    have hir1 : iL + 1 ≠ iR := by omega
    have hq1 : iR = ((lo + (k + 1) / 2 : Nat) : Int) + ((k - (k + 1) / 2 : Nat) : Int) + 1 := by omega
    have hq2 : (iL + iR).fdiv (2 ^ Int.toNat 1) = (lo : Int) + (((k + 1) / 2 - 1 : Nat) : Int) + 1 := by rw [hm1]; omega
    have hsl : ∀ D : List Nat, D.length = (k + 1) / 2 - 1 + 1 → (splice ns lo (D.map Int.ofNat)).length = ns.length := fun D hD => splice_len (by rw [List.length_map, hD]; omega)
    refine wpAny_call ?_
    (refine' code_nest ?k1 ?k2 ?k3 ?k4 ?k5 ?kA ?kF ?kK ?k6 ?k7 ?k8 ?k9 ?kB ?_ ?c2 ?c3 ?c4 ?c5; (case kA => exact rfl); (case kF => exact rfl); (case kK => assumption); (case k1 => k_asm); (case k2 => k_asm); (case k3 => k_asm); (case k4 => k_asm); (case k5 => k_asm); (case k6 => k_mem); (case k7 => exact codeRec_news (by k_asm) (by k_mem) (by assumption) (by assumption)); (case k8 => ktr_room); (case k9 => exact BindsTo.of_eq rfl); (case c5 => decide); (case kB => exact locs rfl); (case c2 => exact rfl); (case c3 => exact rfl); (case c4 => exact rfl); k_whole; intro g' L' h' FG' F' N' B' X' T'; (try dsimp only); (try k_lift B'); (try k_fold))
    k_steps
    unfold Stop
    k_dflt (refine' ih ((k + 1) / 2 - 1) (by omega) lo (x % (2 ^ n.toNat) ^ ((k + 1) / 2)) _ _ _ _ _ _ ?e1 ?e2 ?e3 ?e4 _ _ _ _ _ _ _ _ _ _ _ _ _ _ _ _ _ _ ?k1 ?k2 ?k3 ?k4 ?k5 ?kK ?ki ?kd ?ku ?kl ?_; (case k1 => k_asm); (case k2 => k_asm); (case k3 => k_asm); (case k4 => k_asm); (case k5 => k_asm); (case kK => first | exact rfl | assumption); (case ki => assumption))
    case e1 => assumption
    case e2 => assumption
    case e3 => assumption
    case e4 => assumption
    case kd => ktr_room
    case ku => ktr_units
    case kl => omega
    intro h9 tk9 vs9 hi9 F9 N9
    (try dsimp only); (try k_fold)
    k_steps
    unfold Stop
    k_dflt (refine' ih (k - (k + 1) / 2) (by omega) (lo + (k + 1) / 2) (x / (2 ^ n.toNat) ^ ((k + 1) / 2)) _ _ _ _ _ _ ?e1 ?e2 ?e3 ?e4 _ _ _ _ _ _ _ _ _ _ _ _ _ _ _ _ _ _ ?k1 ?k2 ?k3 ?k4 ?k5 ?kK ?ki ?kd ?ku ?kl ?_; (case k1 => k_asm); (case k2 => k_asm); (case k3 => k_asm); (case k4 => k_asm); (case k5 => k_asm); (case kK => first | exact rfl | assumption); (case ki => assumption))
    case e1 => assumption
    case e2 => assumption
    case e3 => assumption
    case e4 => assumption
    case kd => ktr_room
    case ku => ktr_units
    case kl => rw [hsl _ (idig_len _ _ _)]; omega
    intro h8 tk8 vs8 hi8 F8 N8
    (try dsimp only); (try k_fold)
    k_steps
    rw [i2d_join hkn hlen] at hi8
    exact hret _ _ _ hi8 (by k_asm) (by assumption)
  unfold Stop
  obtain ⟨hb1, hb2⟩ := i2d_bound hn0 hx0 hxk
  have hk1 : 0 < k := hb2 (by assumption)
  have hkk : k - 1 + 1 = k := by omega
  have hn1k : n1 = k := by rw [hxk] at e3; have := e3 (by omega); omega
  have hD40 : @LT.lt Nat instLTNat 40 D1 := by clear hret; omega
  k_dflt (refine' inner (k - 1) 0 x.toNat _ _ _ _ _ _ ?e1 ?e2 ?e3 ?e4 _ _ _ _ _ _ _ _ _ _ _ _ _ _ _ _ _ _ ?k1 ?k2 ?k3 ?k4 ?k5 ?kK ?ki ?kd ?ku ?kl ?_; (case k1 => k_asm); (case k2 => k_asm); (case k3 => k_asm); (case k4 => k_asm); (case k5 => k_asm); (case kK => first | exact rfl | assumption); (case ki => assumption))
  case e1 => rfl
  case e2 => clear hret; omega
  case e3 => clear hret; omega
  case e4 => rw [hkk]; exact hb1
  case kd => ktr_room
  case ku => ktr_units
  case kl => clear hret; omega
  intro h7 tk7 vs7 hi7 F7 N7
  rw [hkk, splice_all (by rw [List.length_map, idig_len]; clear hret; omega)] at hi7
  rw [ep, eq] at N7
  simp only [List.cons_append, List.nil_append] at N7
  (try dsimp only); (try k_fold)
  clear N9 hN inner
  k_steps
  rename News _ _ _ _ => kN'
  rename Fr _ _ _ _ => kF'
  exact hret _ _ _ vs7 _ (.one dk1 dk2 k40) hD40 hi7 kF' fun q hq => kN' q (mem_i hq)
  rename News _ _ _ _ => N9
  rename Fr _ _ _ _ => kF'
  have hk0 : k = 0 := i2d_zero hn0 (by rename x = 0 => hx5; rw [hx5] at hxk; exact hxk)
  have hD40 : @LT.lt Nat instLTNat 40 D1 := by clear hret; omega
  rw [hv0, hxk, hk0] at N9
  subst hk0
  exact hret _ _ _ [] _ (.one dk1 dk2 k40) hD40 .nil kF' fun q hq => N9 q (mem_i hq)
noncomputable abbrev tup2 (a b : Value) : Obj := { cls := .type "tuple", data := .seq #[a, b] }
theorem divmodK {prog : Program} {w : World} {A : Around} {E : Value → Shared → Prop} {s : Shared} {a b : Int} {t u : Tok} {Q : Value → Shared → Prop} {h₀ : Heap} {L : Addr} {m : Str → Option Value} {news : List (Addr × Obj)} (F : Fr h₀ L s.heap m) (N : News h₀ L s.heap news) (hb : b ≠ 0) (hp : Builtin.divisionGoesByPylong a b = false)
    (h : ∀ D h', Fr h₀ L h' m → News h₀ L h' ((D, tup2 (.int (a.fdiv b) s.toks) (.int (a.fmod b) (s.toks + 1))) :: news) → (∀ p ∈ news, p.1 < D) → Q (.ref D) { s with toks := s.toks + 1 + 1, heap := h' }) :
    wpAny (model prog w) A (call (.builtin "divmod") [.int a t, .int b u]) Q E s :=
  divmod_N F N hb (fun h' F' N' => h _ h' F' N' fun p hp => Heap.lt_size (N p hp).1) (.inl hp)

set_option rowWalk.seconds 0 in
theorem div2n1n_says (w : World) (p : Program) (loose : List Str) (mean : ExcName → Option Value) (mg mb : Str → Option Value)
   (x y n : Int) (t1 t2 t3 : Tok) : ∀ (dp un : Nat) (gd : Option (List Code)) (cn : Str) (cs : Scope) (a : Addr) (ccd : Value) (cl : List (Str × Addr)) (outer : List Env) (A₀ : Around) (base h₀ : Heap) (L : Addr) (m : Str → Option Value) (news : List (Addr × Obj)) (s : Shared) (Q E : Value → Shared → Prop),
   Below A₀ base outer h₀ → Fr h₀ L s.heap m → (hd.heap_39 w.params).In h₀ → News h₀ L s.heap news → Top p loose mean mg mb h₀ → cs.kind = .function → dp + 3 < recursionLimit → un + 24 < cLine → y ≠ 0 → Builtin.divisionGoesByPylong x y = false → (Builtin.Int.intBits x : Int) - n ≤ 4000 → 
   (∀ T h' tk' t t', Fr h₀ L h' m → News h₀ L h' ((T, tup2 (.int (x.fdiv y) t) (.int (x.fmod y) t')) :: news) → (∀ p ∈ news, p.1 < T) → Q (.ref T) { s with heap := h', toks := tk' }) →
   wpAny (model PySem.Challenge.rw_we0013_01.row.prog w) (ktrTop dp un gd cn cs L a ccd cl outer) (call (.ref 21) [.int x t1, .int y t2, .int n t3]) Q E s := by
  w_top off
  k_fill
  intro dp un gd cn cs a ccd cl outer A₀ base h₀ L m news s Q E B F X N T hk hd0 hu hy0 hpy hbits hret
  k_with_none
  k_with "exec For Name Call cons nil" => (refine For_T ?_)
  k_with "execs cons" => (refine wpAny_execs_cons ?_)
  k_with "execs nil" => (refine wpAny_execs_nil ?_)
  k_with "call builtin:divmod" => (k_dflt (refine' divmodK ?wkkF ?wkkN ?wkkb ?wkkp ?_; (case wkkF => k_asm); (case wkkN => k_asm); (case wkkb => assumption); (case wkkp => assumption)); intro D9 h9 F9 N9 l9; (try dsimp only))
  refine wpAny_call ?_
  k_dflt cell_enter
  k_steps
  all_goals exact hret _ _ _ _ _ (by k_asm) (by assumption) (by assumption)
theorem hg_of {c0 : Addr} {o1 o2 : Obj} {news : List (Addr × Obj)} (hg : ∀ q ∈ news, q.1 ≠ 30 ∧ q.1 ≠ 37) (hc : @LT.lt Nat instLTNat 40 c0) : ∀ q ∈ (37, o1) :: (c0, o2) :: news, q.1 ≠ 30 := by
  intro q hq
  rcases List.mem_cons.mp hq with rfl | hq
  · exact (by decide : ¬ (37 : Nat) = 30)
  rcases List.mem_cons.mp hq with rfl | hq
  · exact Nat.ne_of_gt (Nat.lt_trans (by decide) hc)
  exact (hg q hq).1
theorem offI_of {I : Addr} {it : Obj} {l : List (Addr × Obj)} (h : ∀ p ∈ l, p.1 ≠ I) : OffI I it l := by
  induction l with
  | nil => exact trivial
  | cons q r ih => exact ⟨.inl (h q (.head _)), ih fun p hp => h p (.tail _ hp)⟩
theorem mem_v1 {q a1 b1 b2 b3 b4 b5 : Addr × Obj} {news : List (Addr × Obj)} (h : q ∈ b1 :: b2 :: b3 :: b4 :: b5 :: news) : q ∈ b3 :: a1 :: b4 :: b5 :: b1 :: b2 :: news := by
  simp only [List.mem_cons] at h ⊢
  rcases h with h | h | h | h | h | h <;> simp [h]
theorem mem_v2 {q a1 b1 b2 b3 b4 b5 : Addr × Obj} {news : List (Addr × Obj)} (h : q ∈ b1 :: b2 :: b3 :: b4 :: b5 :: news) : q ∈ b1 :: b4 :: b5 :: a1 :: b2 :: b3 :: news := by
  simp only [List.mem_cons] at h ⊢
  rcases h with h | h | h | h | h | h <;> simp [h]
theorem news_v1 {g h : Heap} {L : Addr} {a1 b1 b2 b3 b4 b5 : Addr × Obj} {news : List (Addr × Obj)} (N : News g L h (b3 :: a1 :: b4 :: b5 :: b1 :: b2 :: news)) : News g L h (b1 :: b2 :: b3 :: b4 :: b5 :: news) := fun q hq => N q (mem_v1 hq)
theorem hg_of2 {c0 : Addr} {o1 o2 : Obj} {news : List (Addr × Obj)} (hg : ∀ q ∈ news, q.1 ≠ 30 ∧ q.1 ≠ 37) (hc : @LT.lt Nat instLTNat 40 c0) : ∀ q ∈ (30, o1) :: (c0, o2) :: news, q.1 ≠ 37 := by
  intro q hq
  rcases List.mem_cons.mp hq with rfl | hq
  · exact (by decide : ¬ (30 : Nat) = 37)
  rcases List.mem_cons.mp hq with rfl | hq
  · exact Nat.ne_of_gt (Nat.lt_trans (by decide) hc)
  exact (hg q hq).2
theorem ints_one {B x : Nat} {vs : List Value} (h : IntsAre vs ((idig B 1 x).map Int.ofNat)) : ∃ t, vs = [.int (x : Int) t] := by
  cases h with
  | cons n t h => cases h; exact ⟨t, rfl⟩
theorem ints_two {B x : Nat} {vs : List Value} (h : IntsAre vs ((idig B 2 x).map Int.ofNat)) : ∃ t u, vs = [.int ((x % B : Nat) : Int) t, .int ((x / B : Nat) : Int) u] := by
  cases h with
  | cons n t h => cases h with
    | cons n u h => cases h; exact ⟨t, u, rfl⟩
theorem mem_w1 {x1 x2 q : Addr × Obj} {tI tD news : List (Addr × Obj)} (h : q ∈ tD ++ x1 :: (tI ++ news)) : q ∈ x1 :: x2 :: (tI ++ (tD ++ news)) := by
  simp only [List.mem_append, List.mem_cons] at h ⊢
  rcases h with h | h | h | h <;> simp [h]
theorem mem_w2 {x1 x2 q : Addr × Obj} {tI tD news : List (Addr × Obj)} (h : q ∈ x1 :: (tI ++ (tD ++ news))) : q ∈ x1 :: (tD ++ x2 :: (tI ++ news)) := by
  simp only [List.mem_append, List.mem_cons] at h ⊢
  rcases h with h | h | h | h <;> simp [h]


set_option rowWalk.seconds 0 in
theorem divmod_pos_says (w : World) (p : Program) (loose : List Str) (mean : ExcName → Option Value) (mg mb : Str → Option Value)
   (x y n : Int) (k : Nat) (t1 t2 : Tok) (tI tD : List (Addr × Obj)) : ∀ (dp un : Nat) (gd : Option (List Code)) (cn : Str) (cs : Scope) (a : Addr) (ccd : Value) (cl : List (Str × Addr)) (outer : List Env) (A₀ : Around) (base h₀ : Heap) (L : Addr) (m : Str → Option Value) (news : List (Addr × Obj)) (s : Shared) (Q E : Value → Shared → Prop),
   Below A₀ base outer h₀ → Fr h₀ L s.heap m → (hd.heap_39 w.params).In h₀ → News h₀ L s.heap (tI ++ (tD ++ news)) → Top p loose mean mg mb h₀ → cs.kind = .function →
   CodeHd base 34 30 → CodeHd base 41 37 → TabI tI → TabD tD →
   dp + 16 < recursionLimit → un + 64 < cLine → (∀ q ∈ news, q.1 ≠ 30 ∧ q.1 ≠ 37) → 0 < x → 0 < y → (Builtin.Int.intBits y : Int) = n → 8 ≤ n → n ≤ 256 → ((Builtin.Int.intBits x : Int) + n - 1).fdiv n = (k : Int) → k = 1 ∨ k = 2 →
   (∀ T h' tk' t t' tI' tD', TabI tI' → TabD tD' → Fr h₀ L h' m → News h₀ L h' ((T, tup2 (.int (x / y) t) (.int (x % y) t')) :: (tI' ++ (tD' ++ news))) → Q (.ref T) { s with heap := h', toks := tk' }) →
   wpAny (model PySem.Challenge.rw_we0013_01.row.prog w) (ktrTop dp un gd cn cs L a ccd cl outer) (call (.ref 49) [.int x t1, .int y t2]) Q E s := by
  w_top off
  k_fill
  intro dp un gd cn cs a ccd cl outer A₀ base h₀ L m news s Q E B F X N T hk hC1 hC2 hI hD hd0 hu hg hx0 hy0 hyn hn0 hn1 hxk hk12 hret
  subst hyn
  have hnn : (0 : Int) ≤ (Builtin.Int.intBits y : Int) := Int.le_trans (by decide) hn0
  have hb0 : (Builtin.Int.intBits 0 : Int) + (Builtin.Int.intBits y : Int) ≤ 2 ^ 27 := by rw [show Builtin.Int.intBits 0 = 0 by decide]; omega
  obtain ⟨nw, hnw, N⟩ := led_abs N
  k_with_none
  k_with "call ref" => refine to_stop ?_
  k_with "pyIter ref" => refine to_stop ?_
  k_with "UnrEnd" => refine to_stop ?_
  k_with "binaryOp LShift int int" => ((with_reducible refine lshift_int ?wkkbn ?wkkbs ?_); (case wkkbn => assumption); (case wkkbs => assumption))
  refine wpAny_call ?_
  k_dflt cell_enter
  k_steps
  unfold Stop
  subst hnw
  k_dflt (refine' int2digits_says w p loose mean mg mb k x _ _ _ tI _ _ _ _ _ _ _ _ _ _ _ _ _ _ _ _ _ _ ?k1 ?k2 ?k3 ?k4 ?k5 ?kK ?e0 ?eT ?kd ?ku ?e1 ?e2 ?e3 ?e4 ?e5 ?e6 ?_; (case k1 => k_asm); (case k2 => k_asm); (case k3 => k_asm); (case k4 => k_asm); (case k5 => k_asm); (case kK => first | exact rfl | assumption))
  case e0 => assumption
  case eT => exact hI
  case kd => ktr_room
  case ku => ktr_units
  case e1 => exact Int.le_of_lt hx0
  case e2 => assumption
  case e3 => omega
  case e4 => exact off_app (hD.off (by decide) (by decide)) (fun q hq => (hg q hq).1)
  case e5 => assumption
  case e6 => assumption
  intro D9 h9 tk9 vs9 tI2 hI2 hD9 hi9 F9 N0
  obtain ⟨nw, hnw, N9⟩ := led_abs1 N0
  clear N0
  (try dsimp only); (try k_fold)
  rcases hk12 with rfl | rfl
  · obtain ⟨ta, rfl⟩ := ints_one hi9
    k_steps
    unfold Stop
    rename News _ _ _ _ => N5
    rename Fr _ _ _ _ => F5
    rename_i l5
    refine iter_revUnr (lo := listOf _ 0) (vs := [.int _ ta]) rfl F5 N5 (offI_of (allLt_ne (by exact l5))) (by k_mem) rfl rfl ?_
    k_steps
    unfold Stop
    have ex : (0 : Int) * 2 ^ (Builtin.Int.intBits y : Int).toNat + (x.toNat : Int) = x := by rw [Int.zero_mul]; omega
    rw [ex]
    k_dflt (refine' div2n1n_says w p loose mean mg mb (x) y _ _ _ _ _ _ _ _ _ _ _ _ _ _ _ _ _ _ _ _ _ _ ?k1 ?k2 ?k3 ?k4 ?k5 ?kK ?kd ?ku ?e1 ?e2 ?e3 ?_; (case k1 => k_asm); (case k2 => k_asm); (case k3 => k_asm); (case k4 => k_asm); (case k5 => k_asm); (case kK => first | exact rfl | assumption))
    case kd => ktr_room
    case ku => ktr_units
    case e1 => exact Int.ne_of_gt hy0
    case e2 => exact noPy hn1
    case e3 => exact (by have := bits_le (Int.lt_of_lt_of_le (by decide) hn0) hxk; omega)
    intro T1 h1 tk1 tq1 tr1 F1 N1 l1
    (try dsimp only); (try k_fold)
    (try k_lt l1)
    k_steps
    unfold Stop
    rename News _ _ _ _ => N6
    rename Fr _ _ _ _ => F6
    refine ⟨_, _, _, _, rfl, F6, news_tail N6, allLt_ne (by exact l5), .tail _ (.head _), ?_⟩
    k_steps
    unfold Stop
    rename News _ _ _ _ => N7
    subst hnw
    have N7 : News _ _ _ (tD ++ _ :: (tI2 ++ news)) := fun q hq => N7 q (mem_w1 hq)
    rename D9 < _ ∧ _ => lD
    obtain ⟨hdig, hds, hrem⟩ := dm_one hx0 hy0 hn0 hxk
    k_dflt (refine' digits2int_says w p loose mean mg mb _ _ [x.fdiv y] _ 1 _ t1 _ tD _ _ _ _ _ _ _ _ _ _ _ _ _ _ _ _ _ _ ?k1 ?k2 ?k3 ?k4 ?k5 ?kK ?e0 ?eT ?kd ?ku ?e4 ?e5 ?e6 ?e7 ?e8 ?e9 ?f1 ?f2 ?f3 ?f4 ?_; (case k1 => k_asm); (case k2 => k_asm); (case k3 => k_asm); (case k4 => k_asm); (case k5 => k_asm); (case kK => first | exact rfl | assumption))
    case e0 => assumption
    case eT => exact hD
    case kd => ktr_room
    case ku => ktr_units
    case e4 => exact (.cons _ _ .nil)
    case e5 => exact hdig
    case e6 => rfl
    case e7 => rfl
    case e8 => rfl
    case e9 => decide
    case f1 => exact Nat.lt_trans hD9 lD.1
    case f2 => exact off_app (hI2.off (by decide) (by decide)) (fun q hq => (hg q hq).2)
    case f3 => assumption
    case f4 => assumption
    intro tv hv tkv tD2 hD2 F8 N0
    obtain ⟨nw, hnw, N8⟩ := led_abs N0
    clear N0
    rw [hds]
    (try dsimp only); (try k_fold)
    k_steps
    rename News _ _ _ _ => kN
    rename Fr _ _ _ _ => kF
    rw [hrem] at kN
    subst hnw
    exact hret _ _ _ _ _ tI2 tD2 hI2 hD2 kF (fun q hq => kN q (mem_w2 hq))
  · obtain ⟨d0, d1, ta, tb, rfl, h00, h01, h10, h11, hxe⟩ := two_facts hx0 hn0 hxk hi9
    clear hi9
    have hyl := y_lt hy0
    obtain ⟨hr0, hr1, hz0, hz1, hdig, hds, hrem⟩ := dm_two hy0 (Int.le_of_lt hyl) h00 h01 h10 h11
    rw [hxe] at hds hrem
    have hb1' : (Builtin.Int.intBits d1 : Int) - (Builtin.Int.intBits y : Int) ≤ 4000 := by
      have := (lt_bits h10).mpr h11
      omega
    have hsh : (Builtin.Int.intBits (d1.fmod y) : Int) + (Builtin.Int.intBits y : Int) ≤ 2 ^ 27 := by
      have := (lt_bits (k := Builtin.Int.intBits y) hr0).mpr (Int.lt_trans hr1 (by rw [Int.toNat_natCast] at hyl; exact hyl))
      omega
    have hb2' : (Builtin.Int.intBits (d1.fmod y * 2 ^ (Builtin.Int.intBits y : Int).toNat + d0) : Int) - (Builtin.Int.intBits y : Int) ≤ 4000 := by
      have h5 : d1.fmod y * 2 ^ (Builtin.Int.intBits y : Int).toNat + d0 < 2 ^ (Builtin.Int.intBits y + Builtin.Int.intBits y) := by
        rw [Int.toNat_natCast] at hyl hz1 ⊢
        rw [Int.pow_add]
        exact Int.lt_of_lt_of_le hz1 (Int.mul_le_mul_of_nonneg_right (Int.le_of_lt hyl) (Int.le_of_lt (Int.pow_pos (by decide))))
      have := (lt_bits hz0).mpr h5
      omega
    k_steps
    unfold Stop
    rename News _ _ _ _ => N5
    rename Fr _ _ _ _ => F5
    rename_i l5
    refine iter_revUnr (lo := listOf _ 0) (vs := [.int d0 ta, .int d1 tb]) rfl F5 N5 (offI_of (allLt_ne (by exact l5))) (by k_mem) rfl rfl ?_
    k_steps
    unfold Stop
    rw [Int.zero_mul, Int.zero_add]
    k_dflt (refine' div2n1n_says w p loose mean mg mb (d1) y _ _ _ _ _ _ _ _ _ _ _ _ _ _ _ _ _ _ _ _ _ _ ?k1 ?k2 ?k3 ?k4 ?k5 ?kK ?kd ?ku ?e1 ?e2 ?e3 ?_; (case k1 => k_asm); (case k2 => k_asm); (case k3 => k_asm); (case k4 => k_asm); (case k5 => k_asm); (case kK => first | exact rfl | assumption))
    case kd => ktr_room
    case ku => ktr_units
    case e1 => exact Int.ne_of_gt hy0
    case e2 => exact noPy hn1
    case e3 => exact hb1'
    intro T1 h1 tk1 tq1 tr1 F1 N1 l1
    (try dsimp only); (try k_fold)
    (try k_lt l1)
    k_steps
    unfold Stop
    rename News _ _ _ _ => N6
    rename Fr _ _ _ _ => F6
    refine ⟨_, _, _, _, rfl, F6, news_tail N6, allLt_ne (by exact l5), .tail _ (.head _), ?_⟩
    k_steps
    unfold Stop
    k_dflt (refine' div2n1n_says w p loose mean mg mb (d1.fmod y * 2 ^ (Builtin.Int.intBits y : Int).toNat + d0) y _ _ _ _ _ _ _ _ _ _ _ _ _ _ _ _ _ _ _ _ _ _ ?k1 ?k2 ?k3 ?k4 ?k5 ?kK ?kd ?ku ?e1 ?e2 ?e3 ?_; (case k1 => k_asm); (case k2 => k_asm); (case k3 => k_asm); (case k4 => k_asm); (case k5 => k_asm); (case kK => first | exact rfl | assumption))
    case kd => ktr_room
    case ku => ktr_units
    case e1 => exact Int.ne_of_gt hy0
    case e2 => exact noPy hn1
    case e3 => exact hb2'
    intro T2 h2 tk2 tq2 tr2 F2 N2 l2
    (try dsimp only); (try k_fold)
    (try k_lt l2)
    k_steps
    unfold Stop
    rename News _ _ _ _ => N6
    rename Fr _ _ _ _ => F6
    refine ⟨_, _, _, _, rfl, F6, news_tail N6, allLt_ne (by exact l5), .tail _ (.head _), ?_⟩
    k_steps
    unfold Stop
    rename News _ _ _ _ => N7
    subst hnw
    have N7 : News _ _ _ (tD ++ _ :: (tI2 ++ news)) := fun q hq => N7 q (mem_w1 hq)
    rename D9 < _ ∧ _ => lD
    k_dflt (refine' digits2int_says w p loose mean mg mb _ _ [(d1.fmod y * 2 ^ (Builtin.Int.intBits y : Int).toNat + d0).fdiv y, d1.fdiv y] _ 2 _ t1 _ tD _ _ _ _ _ _ _ _ _ _ _ _ _ _ _ _ _ _ ?k1 ?k2 ?k3 ?k4 ?k5 ?kK ?e0 ?eT ?kd ?ku ?e4 ?e5 ?e6 ?e7 ?e8 ?e9 ?f1 ?f2 ?f3 ?f4 ?_; (case k1 => k_asm); (case k2 => k_asm); (case k3 => k_asm); (case k4 => k_asm); (case k5 => k_asm); (case kK => first | exact rfl | assumption))
    case e0 => assumption
    case eT => exact hD
    case kd => ktr_room
    case ku => ktr_units
    case e4 => exact (.cons _ _ (.cons _ _ .nil))
    case e5 => exact hdig
    case e6 => rfl
    case e7 => rfl
    case e8 => rfl
    case e9 => decide
    case f1 => exact Nat.lt_trans hD9 lD.1
    case f2 => exact off_app (hI2.off (by decide) (by decide)) (fun q hq => (hg q hq).2)
    case f3 => assumption
    case f4 => assumption
    intro tv hv tkv tD2 hD2 F8 N0
    obtain ⟨nw, hnw, N8⟩ := led_abs N0
    clear N0
    rw [hds]
    (try dsimp only); (try k_fold)
    k_steps
    rename News _ _ _ _ => kN
    rename Fr _ _ _ _ => kF
    rw [hrem] at kN
    subst hnw
    exact hret _ _ _ _ _ tI2 tD2 hI2 hD2 kF (fun q hq => kN q (mem_w2 hq))
set_option rowWalk.seconds 0 in
theorem int_divmod_says (w : World) (p : Program) (loose : List Str) (mean : ExcName → Option Value) (mg mb : Str → Option Value)
   (x y n : Int) (k : Nat) (t1 t2 : Tok) (tI tD : List (Addr × Obj)) : ∀ (dp un : Nat) (gd : Option (List Code)) (cn : Str) (cs : Scope) (a : Addr) (ccd : Value) (cl : List (Str × Addr)) (outer : List Env) (A₀ : Around) (base h₀ : Heap) (L : Addr) (m : Str → Option Value) (news : List (Addr × Obj)) (s : Shared) (Q E : Value → Shared → Prop),
   Below A₀ base outer h₀ → Fr h₀ L s.heap m → (hd.heap_39 w.params).In h₀ → News h₀ L s.heap (tI ++ (tD ++ news)) → Top p loose mean mg mb h₀ → cs.kind = .function →
   CodeHd base 34 30 → CodeHd base 41 37 → TabI tI → TabD tD →
   dp + 20 < recursionLimit → un + 80 < cLine → (∀ q ∈ news, q.1 ≠ 30 ∧ q.1 ≠ 37) → 0 < x → 0 < y → (Builtin.Int.intBits y : Int) = n → 8 ≤ n → n ≤ 256 → ((Builtin.Int.intBits x : Int) + n - 1).fdiv n = (k : Int) → k = 1 ∨ k = 2 →
   (∀ T h' tk' t t' tI' tD', TabI tI' → TabD tD' → Fr h₀ L h' m → News h₀ L h' ((T, tup2 (.int (x / y) t) (.int (x % y) t')) :: (tI' ++ (tD' ++ news))) → Q (.ref T) { s with heap := h', toks := tk' }) →
   wpAny (model PySem.Challenge.rw_we0013_01.row.prog w) (ktrTop dp un gd cn cs L a ccd cl outer) (call (.ref 56) [.int x t1, .int y t2]) Q E s := by
  w_top off
  k_fill
  intro dp un gd cn cs a ccd cl outer A₀ base h₀ L m news s Q E B F X N T hk hC1 hC2 hI hD hd0 hu hg hx0 hy0 hyn hn0 hn1 hxk hk12 hret
  obtain ⟨nw, hnw, N⟩ := led_abs N
  k_with_none
  k_with "call ref" => refine to_stop ?_
  refine wpAny_call ?_
  k_dflt cell_enter
  k_steps
  all_goals try (exfalso; rename y = 0 => hbad; omega)
  unfold Stop
  subst hnw
  k_dflt (refine' divmod_pos_says w p loose mean mg mb x y n k _ _ tI tD _ _ _ _ _ _ _ _ _ _ _ _ _ _ _ _ _ _ ?k1 ?k2 ?k3 ?k4 ?k5 ?kK ?e0 ?e00 ?g1 ?g2 ?kd ?ku ?e1 ?e2 ?e3 ?e4 ?e5 ?e6 ?e7 ?e8 ?_; (case k1 => k_asm); (case k2 => k_asm); (case k3 => k_asm); (case k4 => k_asm); (case k5 => k_asm); (case kK => first | exact rfl | assumption))
  case e0 => assumption
  case e00 => assumption
  case g1 => assumption
  case g2 => assumption
  case kd => ktr_room
  case ku => ktr_units
  case e1 => assumption
  case e2 => assumption
  case e3 => assumption
  case e4 => assumption
  case e5 => assumption
  case e6 => assumption
  case e7 => assumption
  case e8 => assumption
  intro T h9 tk9 t9 t9' tI2 tD2 hI2 hD2 F9 N0
  obtain ⟨nw, hnw, N9⟩ := led_abs1 N0
  clear N0
  (try dsimp only); (try k_fold)
  k_steps
  subst hnw
  exact hret _ _ _ _ _ tI2 tD2 hI2 hD2 (by k_asm) (by assumption)
theorem flat_zero (n : Nat) : (List.replicate n [(0 : Int)]).flatten = List.replicate n 0 := by
  induction n with
  | zero => rfl
  | succ n ih => rw [List.replicate_succ, List.flatten_cons, ih]; rfl
theorem news_f5 {g h : Heap} {L : Addr} {a1 a2 a3 b1 : Addr × Obj} {news : List (Addr × Obj)} (N : News g L h (b1 :: a1 :: a2 :: a3 :: news)) : News g L h (b1 :: news) := fun q hq => N q (by simp only [List.mem_cons] at hq ⊢; rcases hq with h | h <;> simp [h])
theorem lf_mul {wd q d : Int} {kq : Nat} (hw0 : 8 ≤ wd) (hw1 : wd ≤ 64) (hq : ((Builtin.Int.intBits q : Int) + wd - 1).fdiv wd = (kq : Int)) (hk : kq ≤ 4) (hd : (Builtin.Int.intBits d : Int) = 4 * wd) : IntMulOk q d := by
  have h1 := bits_le (by omega) hq
  have h2 : wd * (kq : Int) ≤ 64 * 4 := Int.mul_le_mul hw1 (by omega) (by omega) (by decide)
  exact IntMulOk.of_bits (by omega) (by omega)
theorem ediv_back (a b : Int) : a / b * b + a % b = a := Int.ediv_mul_add_emod a b
theorem lf_pow {wd : Int} (hw0 : 8 ≤ wd) (hw1 : wd ≤ 64) : 0 ≤ wd ∧ (Builtin.Int.intBits 2 : Int) * wd ≤ 2 ^ 27 ∧ (Builtin.Int.intBits (2 ^ wd.toNat - 1) : Int) * 4 ≤ 2 ^ 27 := by
  have e2 : Builtin.Int.intBits 2 = 2 := by decide
  have h0 : (0 : Int) < 2 ^ wd.toNat := Int.pow_pos (by decide)
  have h1 := (lt_bits (x := 2 ^ wd.toNat - 1) (k := wd.toNat) (by omega)).mpr (by omega)
  refine ⟨by omega, ?_, ?_⟩
  · rw [e2]; omega
  · omega
theorem lf_shift {ns : List Int} {wd st : Int} (hnl : ns.length = 4) (hdg : ∀ x ∈ ns, 0 ≤ x ∧ x < 2 ^ wd.toNat) (hw0 : 8 ≤ wd) (hw1 : wd ≤ 64) (hs0 : 0 ≤ st) (hs1 : st ≤ 4) :
    0 ≤ wd * st ∧ (Builtin.Int.intBits (dsum (2 ^ wd.toNat) ns) : Int) + wd * st ≤ 2 ^ 27 := by
  have h1 : wd * st ≤ 64 * 4 := Int.mul_le_mul hw1 hs1 hs0 (by decide)
  refine ⟨Int.mul_nonneg (by omega) hs0, ?_⟩
  have h2 := dsum_nonneg (B := 2 ^ wd.toNat) (Int.pow_pos (by decide)) ns hdg
  refine shl_ok h2.1 (k := wd.toNat * 4) (by rw [Int.pow_mul, ← hnl]; exact h2.2) (by omega) (by omega)
theorem isEmpty_of {vs : List Value} {ns : List Int} (h : IntsAre vs ns) (hn : ns.length = 4) : vs.isEmpty = false := by
  cases h with
  | nil => cases hn
  | cons => rfl
theorem news_f1 {g h : Heap} {L : Addr} {b1 b2 : Addr × Obj} {news : List (Addr × Obj)} (N : News g L h (b2 :: b1 :: news)) : News g L h (b1 :: b2 :: news) := fun q hq => N q (by simp only [List.mem_cons] at hq ⊢; rcases hq with h | h | h <;> simp [h])
theorem news_f2 {g h : Heap} {L : Addr} {b1 b2 b3 b4 b5 : Addr × Obj} {news : List (Addr × Obj)} (N : News g L h (b3 :: b4 :: b5 :: b1 :: b2 :: news)) : News g L h (b1 :: b2 :: b3 :: b4 :: b5 :: news) := fun q hq => N q (by simp only [List.mem_cons] at hq ⊢; rcases hq with h | h | h | h | h | h <;> simp [h])
theorem news_f3 {g h : Heap} {L : Addr} {a1 b1 b2 b3 : Addr × Obj} {news : List (Addr × Obj)} (N : News g L h (b2 :: b3 :: a1 :: b1 :: news)) : News g L h (b1 :: b2 :: b3 :: news) := fun q hq => N q (by simp only [List.mem_cons] at hq ⊢; rcases hq with h | h | h | h <;> simp [h])
theorem news_f4 {g h : Heap} {L : Addr} {a1 b1 b2 b3 b4 : Addr × Obj} {news : List (Addr × Obj)} (N : News g L h (b3 :: b4 :: a1 :: b1 :: b2 :: news)) : News g L h (b1 :: b2 :: b3 :: b4 :: news) := fun q hq => N q (by simp only [List.mem_cons] at hq ⊢; rcases hq with h | h | h | h | h <;> simp [h])
theorem hg_of3 {o1 : Obj} {news : List (Addr × Obj)} (hg : ∀ q ∈ news, q.1 ≠ 30 ∧ q.1 ≠ 37) : ∀ q ∈ (30, o1) :: news, q.1 ≠ 37 := by
  intro q hq
  rcases List.mem_cons.mp hq with rfl | hq
  · exact (by decide : ¬ (30 : Nat) = 37)
  exact (hg q hq).2

set_option rowWalk.seconds 0 in
theorem lshift_says (w : World) (p : Program) (loose : List Str) (mean : ExcName → Option Value) (mg mb : Str → Option Value)
   (x n : Int) (t1 t2 : Tok) : ∀ (dp un : Nat) (gd : Option (List Code)) (cn : Str) (cs : Scope) (a : Addr) (ccd : Value) (cl : List (Str × Addr)) (outer : List Env) (A₀ : Around) (base h₀ : Heap) (L : Addr) (m : Str → Option Value) (news : List (Addr × Obj)) (s : Shared) (Q E : Value → Shared → Prop),
   Below A₀ base outer h₀ → Fr h₀ L s.heap m → (hd.heap_39 w.params).In h₀ → News h₀ L s.heap news → Top p loose mean mg mb h₀ → cs.kind = .function → dp + 1 < recursionLimit → un + 16 < cLine → 0 ≤ n → (Builtin.Int.intBits x : Int) + n ≤ 2 ^ 27 →
   (∀ t h' tk', Fr h₀ L h' m → News h₀ L h' news → Q (.int (x * 2 ^ n.toNat) t) { s with heap := h', toks := tk' }) →
   wpAny (model PySem.Challenge.rw_we0013_01.row.prog w) (ktrTop dp un gd cn cs L a ccd cl outer) (call (.ref 84) [.int x t1, .int n t2]) Q E s := by
  w_top off
  k_fill
  intro dp un gd cn cs a ccd cl outer A₀ base h₀ L m news s Q E B F X N T hk hd0 hu hn0 hbs hret
  k_with_none
  k_with "exec For Name Call cons nil" => (refine For_T ?_)
  k_with "execs cons" => (refine wpAny_execs_cons ?_)
  k_with "execs nil" => (refine wpAny_execs_nil ?_)
  k_with "binaryOp LShift int int" => ((with_reducible refine lshift_int ?wkkbn ?wkkbs ?_); (case wkkbn => assumption); (case wkkbs => assumption))
  refine wpAny_call ?_
  k_dflt cell_enter
  k_steps
  exact hret _ _ _ (by k_asm) (by assumption)
theorem mem_g1 {x1 q : Addr × Obj} {tI tD news : List (Addr × Obj)} (h : q ∈ tD ++ x1 :: (tI ++ news)) : q ∈ x1 :: (tI ++ (tD ++ news)) := by
  simp only [List.mem_append, List.mem_cons] at h ⊢
  rcases h with h | h | h | h <;> simp [h]
theorem mem_g3 {x0 x1 x2 x3 q : Addr × Obj} {l : List (Addr × Obj)} (h : q ∈ x0 :: l) : q ∈ x0 :: x1 :: x2 :: x3 :: l := by
  rcases List.mem_cons.mp h with h | h <;> simp [h]
theorem mem_g2 {x1 q : Addr × Obj} {tI tD news : List (Addr × Obj)} (h : q ∈ tI ++ (tD ++ news)) : q ∈ tD ++ x1 :: (tI ++ news) := by
  simp only [List.mem_append, List.mem_cons] at h ⊢
  rcases h with h | h | h <;> simp [h]


set_option rowWalk.seconds 0 in
theorem law_figures_says (w : World) (p : Program) (loose : List Str) (mean : ExcName → Option Value) (mg mb : Str → Option Value)
   (ns : List Int) (wd st ct : Int) (kd kq : Nat) (t0 t1 t2 t3 : Tok) (tI tD : List (Addr × Obj)) : ∀ (dp un : Nat) (gd : Option (List Code)) (cn : Str) (cs : Scope) (a : Addr) (ccd : Value) (cl : List (Str × Addr)) (outer : List Env) (A₀ : Around) (base h₀ : Heap) (L : Addr) (m : Str → Option Value) (news : List (Addr × Obj)) (s : Shared) (Q E : Value → Shared → Prop),
   Below A₀ base outer h₀ → Fr h₀ L s.heap m → (hd.heap_39 w.params).In h₀ → News h₀ L s.heap (tI ++ (tD ++ news)) → Top p loose mean mg mb h₀ → cs.kind = .function →
   CodeHd base 34 30 → CodeHd base 41 37 → TabI tI → TabD tD → 
   dp + 24 < recursionLimit → un + 96 < cLine → (∀ q ∈ news, q.1 ≠ 30 ∧ q.1 ≠ 37) → KBa.In ns → ns.length = 4 → (∀ x ∈ ns, 0 ≤ x ∧ x < 2 ^ wd.toNat) → 8 ≤ wd → wd ≤ 64 → 0 ≤ st → st ≤ 4 → 0 < dsum (2 ^ wd.toNat) ns →
   0 < (2 ^ wd.toNat - 1 : Int) ^ (4 : Int).toNat → (Builtin.Int.intBits ((2 ^ wd.toNat - 1 : Int) ^ (4 : Int).toNat) : Int) = 4 * wd →
   ((Builtin.Int.intBits (dsum (2 ^ wd.toNat) ns * 2 ^ (wd * st).toNat) : Int) + 4 * wd - 1).fdiv (4 * wd) = (kd : Int) → kd = 1 ∨ kd = 2 →
   ((Builtin.Int.intBits (dsum (2 ^ wd.toNat) ns * 2 ^ (wd * st).toNat / (2 ^ wd.toNat - 1 : Int) ^ (4 : Int).toNat) : Int) + wd - 1).fdiv wd = (kq : Int) → kq ≤ 4 → (kq : Int) ≤ ct → ct ≤ 4 →
   (∀ D h' tk' vs' nn tI' tD', TabI tI' → TabD tD' →
     IntsAre vs' ((idig (2 ^ wd.toNat) kq (dsum (2 ^ wd.toNat) ns * 2 ^ (wd * st).toNat / (2 ^ wd.toNat - 1 : Int) ^ (4 : Int).toNat).toNat).map Int.ofNat ++ List.replicate (ct - kq).toNat 0) → Fr h₀ L h' m →
     News h₀ L h' ((D, listOf vs'.toArray nn) :: (tI' ++ (tD' ++ news))) → Q (.ref D) { s with heap := h', toks := tk' }) →
   wpAny (model PySem.Challenge.rw_we0013_01.row.prog w) (ktrTop dp un gd cn cs L a ccd cl outer) (call (.ref 124) [.bytes (byteArr ns) t0, .int wd t1, .int st t2, .int ct t3]) Q E s := by
  w_top off
  k_fill
  intro dp un gd cn cs a ccd cl outer A₀ base h₀ L m news s Q E B F X N T hk hC1 hC2 hI hD hd0 hu hg hin hnl hdg hw0 hw1 hs0 hs1 hH hD0 hD1 hkd hkd2 hkq hkq4 hqc hc4 hret
  have hbi := KBa.ints_make hin
  obtain ⟨hpw0, hpw1, hpw2⟩ := lf_pow hw0 hw1
  have hmul := lf_mul hw0 hw1 hkq hkq4 hD1
  have hnl2 : ns.length ≤ 1000 := by omega
  obtain ⟨nw, hnw, N⟩ := led_abs N
  k_with_none
  k_with "call ref" => refine to_stop ?_
  k_with "binaryOp Pow int int" => ((with_reducible refine pow_int ?wkkbn ?wkkbs ?_); (case wkkbn => first | assumption | decide); (case wkkbs => assumption))
  k_with "binaryOp Mult int int" => first | (with_reducible refine mul_int ?_ (by assumption)) | (with_reducible refine mul_int ?_)
  k_with "call type:list" => (k_dflt (refine' list_bytesK ?wkkF ?wkkN ?wkkh ?wkkb ?wkkn ?_; (case wkkF => k_asm); (case wkkN => k_asm); (case wkkh => rfl); (case wkkb => assumption); (case wkkn => assumption)); intro D5 h5 tk5 vs5 nn5 hi5 F5 N5 l5 lD5; (try dsimp only))
  refine wpAny_call ?_
  k_dflt cell_enter
  k_steps
  unfold Stop
  have hi5l := hi5.length
  have hD5 : @LT.lt Nat instLTNat 40 D5 := Nat.lt_trans (lt_of_K (by assumption) F5) lD5
  subst hnw
  have N5 : News _ _ _ (tD ++ _ :: (tI ++ news)) := fun q hq => N5 q (mem_g1 hq)
  k_dflt (refine' digits2int_says w p loose mean mg mb _ _ ns _ 4 _ t1 _ tD _ _ _ _ _ _ _ _ _ _ _ _ _ _ _ _ _ _ ?k1 ?k2 ?k3 ?k4 ?k5 ?kK ?e0 ?eT ?kd ?ku ?e4 ?e5 ?e6 ?e7 ?e8 ?e9 ?f1 ?f2 ?f3 ?f4 ?_; (case k1 => k_asm); (case k2 => k_asm); (case k3 => k_asm); (case k4 => k_asm); (case k5 => k_asm); (case kK => first | exact rfl | assumption))
  case e0 => assumption
  case eT => exact hD
  case kd => ktr_room
  case ku => ktr_units
  case e4 => exact hi5
  case e5 => exact hdg
  case e6 => (rw [List.size_toArray]; omega)
  case e7 => exact hnl
  case e8 => exact isEmpty_of hi5 hnl
  case e9 => decide
  case f1 => exact hD5
  case f2 => exact off_app (hI.off (by decide) (by decide)) (fun q hq => (hg q hq).2)
  case f3 => omega
  case f4 => omega
  intro tv hv tkv tD2 hD2 F8 N0
  obtain ⟨nw, hnw, N8⟩ := led_abs N0
  clear N0
  (try dsimp only); (try k_fold)
  k_steps
  unfold Stop
  obtain ⟨hsh0, hsh1⟩ := lf_shift hnl hdg hw0 hw1 hs0 hs1
  k_dflt (refine' lshift_says w p loose mean mg mb _ _ _ _ _ _ _ _ _ _ _ _ _ _ _ _ _ _ _ _ _ _ ?k1 ?k2 ?k3 ?k4 ?k5 ?kK ?kd ?ku ?e4 ?e5 ?_; (case k1 => k_asm); (case k2 => k_asm); (case k3 => k_asm); (case k4 => k_asm); (case k5 => k_asm); (case kK => first | exact rfl | assumption))
  case kd => ktr_room
  case ku => ktr_units
  case e4 => exact hsh0
  case e5 => exact hsh1
  intro ts hs9 tks F9 N9
  (try dsimp only); (try k_fold)
  k_steps
  unfold Stop
  rename News _ _ _ _ => N6
  subst hnw
  have N6 : News _ _ _ (tI ++ (tD2 ++ news)) := fun q hq => N6 q (mem_g2 hq)
  k_dflt (refine' int_divmod_says w p loose mean mg mb _ _ (4 * wd) kd _ _ tI tD2 _ _ _ _ _ _ _ _ _ _ _ _ _ _ _ _ _ _ ?k1 ?k2 ?k3 ?k4 ?k5 ?kK ?e0 ?e00 ?g1 ?g2 ?kd ?ku ?e4 ?e5 ?e6 ?e7 ?e8 ?e9 ?f1 ?f2 ?_; (case k1 => k_asm); (case k2 => k_asm); (case k3 => k_asm); (case k4 => k_asm); (case k5 => k_asm); (case kK => first | exact rfl | assumption))
  case e0 => assumption
  case e00 => assumption
  case g1 => assumption
  case g2 => assumption
  case kd => ktr_room
  case ku => ktr_units
  case e4 => exact hg
  case e5 => exact Int.mul_pos hH (Int.pow_pos (by decide))
  case e6 => exact hD0
  case e7 => exact hD1
  case e8 => omega
  case e9 => omega
  case f1 => exact hkd
  case f2 => exact hkd2
  intro T1 h1 tk1 tq1 tr1 tI3 tD3 hI3 hD3 F1 N0
  obtain ⟨nw, hnw, N1⟩ := led_abs1 N0
  clear N0
  (try dsimp only); (try k_fold)
  k_steps
  all_goals first | (exfalso; rename ¬ _ = _ => hbad; exact hbad (ediv_back _ _)) | skip
  unfold Stop
  rename News _ _ _ _ => N7
  have N7 := news_tail N7
  subst hnw
  k_dflt (refine' int2digits_says w p loose mean mg mb kq _ _ _ _ tI3 _ _ _ _ _ _ _ _ _ _ _ _ _ _ _ _ _ _ ?k1 ?k2 ?k3 ?k4 ?k5 ?kK ?e0 ?eT ?kd ?ku ?e4 ?e5 ?e6 ?e7 ?e8 ?e9 ?_; (case k1 => k_asm); (case k2 => k_asm); (case k3 => k_asm); (case k4 => k_asm); (case k5 => k_asm); (case kK => first | exact rfl | assumption))
  case e0 => assumption
  case eT => exact hI3
  case kd => ktr_room
  case ku => ktr_units
  case e4 => exact Int.ediv_nonneg (Int.le_of_lt (Int.mul_pos hH (Int.pow_pos (by decide)))) (Int.le_of_lt hD0)
  case e5 => exact hkq
  case e6 => exact hkq4
  case e7 => exact off_app (hD3.off (by decide) (by decide)) (fun q hq => (hg q hq).1)
  case e8 => exact hw0
  case e9 => omega
  intro D6 h6 tk6 vs6 tI4 hI4 p4 hi6 F6 N0
  obtain ⟨nw, hnw, N6⟩ := led_abs1 N0
  clear N0
  obtain ⟨fs, hfs⟩ : ∃ fs, fs = (idig (2 ^ wd.toNat) kq (dsum (2 ^ wd.toNat) ns * 2 ^ (wd * st).toNat / (2 ^ wd.toNat - 1 : Int) ^ (4 : Int).toNat).toNat).map Int.ofNat := ⟨_, rfl⟩
  rw [← hfs] at hi6
  have hl6 : fs.length = kq := by rw [hfs, List.length_map, idig_len]
  have hs6 : vs6.toArray.size = kq := by rw [List.size_toArray, hi6.length, hl6]
  (try dsimp only); (try k_fold)
  k_steps
  rename News _ _ _ _ => kN
  rename Fr _ _ _ _ => kF
  rename IntsAre _ (_ ++ _) => hI
  rw [flat_zero, hfs] at hI
  subst hnw
  exact hret _ _ _ _ _ tI4 tD3 hI4 hD3 hI kF (fun q hq => kN q (mem_g3 hq))
theorem code_defG {prog : Program} {w : World} {A₀ A : Around} {s : Shared} {base h₀ : Heap} {L : Addr} {m : Str → Option Value} {news : List (Addr × Obj)} {K : Frag} {p : Program} {loose : List Str} {mean : ExcName → Option Value} {mg mb : Str → Option Value}
    {env : Env} {outer : List Env} {R : Result → Shared → Prop} {name qual : Str} {params : Arguments} {body : List Stmt} {scope : Scope} {dV kV doc pm cdv ct oc : Value} {an od : Option Addr} {osl : Array (Option Value)} {f : Addr} {args : Args} {binds : List (Str × Value)}
    (B : Below A₀ base outer h₀) (F : Fr h₀ L s.heap m) (X₀ : K.In h₀) (N : News h₀ L s.heap news) (T : Top p loose mean mg mb h₀) (hA : A.frames = some (env :: outer)) (hf : env.frame = some L) (hke : env.scope.kind = .function)
    (ho : K.lookup f = some ⟨oc, od, .func (fnOf name qual params body scope dV kV doc pm an cdv ct), osl⟩) (hcd : codeIn K cdv qual = true) (hroom : A.depth < recursionLimit)
    (hbind : BindsTo s (fnOf name qual params body scope dV kV doc pm an cdv ct) args binds) (hloc : ∀ y ∈ binds, scope.names.lookup y.1 = some .local)
    (h : ∀ g L' h₁, Fr h₀ L g m → Fr g L' h₁ (fun y => binds.reverse.lookup y) → News g L' h₁ news → Below A base (env :: outer) g → K.In g → Top p loose mean mg mb g →
      wpG (model prog w) (A.deeper (envOf qual scope L' f cdv)) (execs body (envOf qual scope L' f cdv))
        (fun fl s' => LeaveK h₀ L m g R (match fl with | .ret v => v | _ => .none) s')
        (fun e s' => wpAny (model prog w) (A.deeper (envOf qual scope L' f cdv)) (leaving (envOf qual scope L' f cdv) e) (fun _ s'' => R (.error e) s'') (fun e' s'' => R (.error e') s'') s')
        { s with heap := h₁, toks := s.toks + binds.length })
    (hco : scope.isCoroutine = false) (hgen : scope.isGenerator = false) (hk : scope.kind = .function)
    (hcell : ∀ x ∈ scope.names, x.2 ≠ .cell) : codeG (model prog w) A (.call (.ref f) args) R s :=
  callG_plain (cl := []) B F N T.nolimit hA hf hke ((X₀.keeps F.keep) _ _ ho) rfl (codeRec_of (X₀.keeps F.keep) hcd) hroom hbind hloc (fun g L' h₁ FG F' N' B' st _ => h g L' h₁ FG F' N' B' (X₀.keeps st) (T.keeps st)) hcell hco hgen hk
theorem ba_callK {prog : Program} {w : World} {A : Around} {E : Value → Shared → Prop} {s : Shared} {h₀ : Heap} {L : Addr} {m : Str → Option Value} {news : List (Addr × Obj)} {t : Tok} {Q : Value → Shared → Prop} (F9 : Fr h₀ L s.heap m) (N : News h₀ L s.heap news)
    (h : ∀ D h', Fr h₀ L h' m → News h₀ L h' ((D, baO (Array.replicate 4 0)) :: news) → (∀ p ∈ news, p.1 < D) → Q (.ref D) { s with heap := h' }) : wpG (model prog w) A (call (.type "bytearray") [.int 4 t]) Q E s :=
  ba_call fun h' hk hD => h _ h' (F9.keptAll hk) (news_pushed F9 N hk hD rfl) fun p hp => Heap.lt_size (N p hp).1
noncomputable abbrev ritC (x left c : Int) : Obj := { cls := .type "range_iterator", dict := none, data := .fields #[rawInt x, rawInt left, rawInt c], slots := #[] }
/-- a for over a range that holds one number -/
theorem loopOnce_T {prog : Program} {w : World} {A : Around} {E : Value → Shared → Prop} {s : Shared} {h₀ : Heap} {L : Addr} {m₀ : Str → Option Value} {news : List (Addr × Obj)} {env : Env} {target : Expr} {body : List Stmt} {Q : Flow → Shared → Prop}
    {r : Addr} {a b c : Int} {t u v : Tok} (J : (Str → Option Value) → (Str → Option Value) → List (Addr × Obj) → Prop)
    (hh : A.handled = none) (F : Fr h₀ L s.heap m₀) (N : News h₀ L s.heap news) (hr : IsRange s.heap r a b c t u v) (hsmall : Builtin.Range.small a b c = true) (hn : Builtin.Range.rangeSize a b c = 1)
    (turn : ∀ h I o, Fr h₀ L h m₀ → News h₀ L h ((I, o) :: news) → (∀ p ∈ news, p.1 < I) →
      wpAny (model prog w) A (assign target env (.int a s.toks)) (fun _ s₃ => wpAny (model prog w) A (execs body env) (TurnEnd (fun s' => ∃ h' tk' m' nx', s' = { s with heap := h', toks := tk' } ∧ Fr h₀ L h' m' ∧ News h₀ L h' ((I, o) :: nx') ∧ (∀ p ∈ nx', p.1 < I) ∧ J m₀ m' nx') Q) E s₃) E { s with heap := h, toks := s.toks + 1 })
    (done : ∀ m nx h tk, J m₀ m nx → Fr h₀ L h m → News h₀ L h nx → Q .next { s with heap := h, toks := tk }) :
    wpAny (model prog w) A (pyIter (.ref r)) (fun it s₂ => LoopT prog w A env target body Q E it s₂) E s := by
  refine wpAny_pyIter_range hr hsmall ?_
  rw [hn]
  have hI : ∀ p ∈ news, p.1 < s.heap.objs.size := fun p hp => Heap.lt_size (N p hp).1
  refine ⟨1, fun i s' => ∃ h tk m nx, s' = { s with heap := h, toks := tk } ∧ Fr h₀ L h m ∧ News h₀ L h ((s.heap.objs.size, ritC (a + (i : Int) * c) (1 - (i : Int)) c) :: nx) ∧ (∀ p ∈ nx, p.1 < s.heap.objs.size) ∧ (i = 0 → m = m₀ ∧ nx = news ∧ tk = s.toks) ∧ (i = 1 → J m₀ m nx),
    ⟨_, s.toks, m₀, news, rfl, F.push _, by simpa using N.push F _, hI, fun _ => ⟨rfl, rfl, rfl⟩, fun h => nomatch h⟩, ?_, ?_⟩
  · rintro i s' hi ⟨h, tk, m, nx, rfl, F₁, N₁, hlt, hz, _⟩
    obtain rfl : i = 0 := by omega
    obtain ⟨z1, z2, z3⟩ := hz rfl
    have z1 := z1.symm
    have z2 := z2.symm
    subst z1 z2 z3
    have hm := N₁ _ (.head _)
    refine wpAny_pyNext_range_item (s := { s with heap := h, toks := s.toks }) hm.1 (by decide) fun h₂ ho hs => ⟨_, rfl, ?_⟩
    have e0 : a + ((0 : Nat) : Int) * c = a := by simp
    have e1 : a + ((0 + 1 : Nat) : Int) * c = a + ((0 : Nat) : Int) * c + c := by simp
    rw [e0] at ho e1 ⊢
    refine wpAny_mono (turn h₂ s.heap.objs.size _ (F₁.change hs hm.2.1 hm.2.2) (N₁.setHead (fun p hp => Nat.ne_of_lt (hlt p hp)) hs ho) hlt) (fun _ s₃ h₃ => wpAny_mono h₃ (fun f s₄ h₄ => ?_) fun _ _ e => e) fun _ _ e => e
    have fin : (∃ h' tk' m' nx', s₄ = { s with heap := h', toks := tk' } ∧ Fr h₀ L h' m' ∧ News h₀ L h' ((s.heap.objs.size, ritC (a + c) (1 - ((0 : Nat) : Int) - 1) c) :: nx') ∧ (∀ p ∈ nx', p.1 < s.heap.objs.size) ∧ J m₀ m' nx') →
        ∃ h tk m nx, s₄ = { s with heap := h, toks := tk } ∧ Fr h₀ L h m ∧ News h₀ L h ((s.heap.objs.size, ritC (a + ((0 + 1 : Nat) : Int) * c) (1 - ((0 + 1 : Nat) : Int)) c) :: nx) ∧ (∀ p ∈ nx, p.1 < s.heap.objs.size) ∧ (0 + 1 = 0 → m = m₀ ∧ nx = news ∧ tk = s.toks) ∧ (0 + 1 = 1 → J m₀ m nx) := by
      rintro ⟨h', tk', m', nx', e, F', N', hl', hJ'⟩
      rw [e1]
      exact ⟨h', tk', m', nx', e, F', N', hl', (fun h => nomatch h), fun _ => hJ'⟩
    cases f with
    | next => exact fin h₄
    | cont => exact fin h₄
    | brk => exact h₄
    | ret v => exact h₄
  · rintro s' ⟨h, tk, m, nx, rfl, F₁, N₁, hlt, _, hJ⟩
    have hm := N₁ _ (.head _)
    exact wpAny_pyNext_range_end (s := { s with heap := h, toks := tk }) hh hm.1 (by decide) fun h₂ he => ⟨rfl, done m nx h₂ tk (hJ rfl) (fr_extBut F₁ he (fun e => hm.2.1 e) hm.2.2) (news_extBut (news_tail N₁) he fun p hp => Nat.ne_of_lt (hlt p hp))⟩
/-- the bytearray behind i turns -/
noncomputable def swp (ns : List Int) : Nat → Array UInt8
  | 0 => Array.replicate 4 0
  | i + 1 => (swp ns i).setIfInBounds (3 - i) (ns.getD i 0).toNat.toUInt8
theorem swp_size (ns : List Int) : ∀ i, (swp ns i).size = 4
  | 0 => rfl
  | i + 1 => by show ((swp ns i).setIfInBounds _ _).size = 4; rw [Array.size_setIfInBounds, swp_size ns i]
theorem swp_four (a b c d : Int) : swp [a, b, c, d] 4 = byteArr [d, c, b, a] := rfl
theorem swp_next (ns : List Int) (i : Nat) : (swp ns i).setIfInBounds (0 + 4 - 1 - (0 + (i : Int))).toNat (ns.getD (0 + (0 + (i : Int))).toNat 0).toNat.toUInt8 = swp ns (i + 1) := by
  rw [show (0 + 4 - 1 - (0 + (i : Int))).toNat = 3 - i by omega, show (0 + (0 + (i : Int))).toNat = i by omega]; rfl
theorem hne_of {D I J : Addr} {o1 o2 : Obj} {news : List (Addr × Obj)} (h1 : D < I) (h2 : D < J) (h3 : ∀ p ∈ news, p.1 < D) : ∀ p ∈ [(I, o1), (J, o2)] ++ news, p.1 ≠ D := by
  intro p hp
  rcases List.mem_append.mp hp with hp | hp
  · rcases List.mem_cons.mp hp with rfl | hp
    · exact Nat.ne_of_gt h1
    · rw [List.mem_singleton.mp hp]; exact Nat.ne_of_gt h2
  · exact Nat.ne_of_lt (h3 p hp)
theorem keeps_step {m₀ : Str → Option Value} {x : Str} {a b : Option Value} : Keeps m₀ [x] (fun y => if y = x then a else if y = x then b else m₀ y) := by
  intro z hz
  have : z ≠ x := by simpa using hz
  simp [this]
theorem keeps_out {m₀ m : Str → Option Value} {x y : Str} {a : Option Value} (h : Keeps (fun z => if z = x then a else m₀ z) [y] m) : Keeps m₀ [x, y] m := by
  intro z hz
  simp only [List.mem_cons, List.not_mem_nil, or_false, not_or] at hz
  rw [h z (by simp [hz.2])]
  simp [hz.1]
theorem fr_keep2 {h₀ h : Heap} {L : Addr} {m₀ m₁ : Str → Option Value} {x1 x2 : Str} (F : Fr h₀ L h m₁) (hk : Keeps m₀ [x1, x2] m₁) : Fr h₀ L h (fun y => if y = x1 then m₁ x1 else if y = x2 then m₁ x2 else m₀ y) := fr_eq F fun y => by
  by_cases e1 : y = x1
  · simp [e1]
  · by_cases e2 : y = x2
    · subst e2
      rw [if_neg e1, if_pos rfl]
    · rw [if_neg e1, if_neg e2]
      exact hk y (by simp [e1, e2])
def StopB (P : Prop) : Prop := P
theorem to_stopB {P : Prop} (h : StopB P) : P := h
set_option rowWalk.seconds 0 in
theorem byteswap_says (w : World) (p : Program) (loose : List Str) (mean : ExcName → Option Value) (mg mb : Str → Option Value)
   (n0 n1 n2 n3 : Int) (t1 t2 : Tok) : ∀ (dp un : Nat) (gd : Option (List Code)) (cn : Str) (cs : Scope) (a : Addr) (ccd : Value) (cl : List (Str × Addr)) (outer : List Env) (A₀ : Around) (base h₀ : Heap) (L : Addr) (m : Str → Option Value) (news : List (Addr × Obj)) (s : Shared) (Q E : Value → Shared → Prop),
   Below A₀ base outer h₀ → Fr h₀ L s.heap m → (hd.heap_39 w.params).In h₀ → News h₀ L s.heap news → Top p loose mean mg mb h₀ → cs.kind = .function → dp + 4 < recursionLimit → un + 32 < cLine → KBa.In [n0, n1, n2, n3] →
   (∀ t h' tk', Fr h₀ L h' m → News h₀ L h' news → Q (.bytes (byteArr [n3, n2, n1, n0]) t) { s with heap := h', toks := tk' }) →
   wpG (model PySem.Challenge.rw_we0013_01.row.prog w) (ktrTop dp un gd cn cs L a ccd cl outer) (call (.ref 105) [.bytes (byteArr [n0, n1, n2, n3]) t1, .int 4 t2]) Q E s := by
  w_top off
  k_fill
  intro dp un gd cn cs a ccd cl outer A₀ base h₀ L m news s Q E B F X N T hk hd0 hu hin hret
  have hbi := KBa.ints_make hin
  k_with_none
  k_with "exec For Name Call cons nil" => refine to_stopB ?_
  k_with "execs cons" => (refine wpAny_execs_cons ?_)
  k_with "execs nil" => (refine wpAny_execs_nil ?_)
  k_with "pyIter ref" => refine to_stopB ?_
  k_with "setItem ref int" => refine to_stopB ?_
  k_with "subscriptTail" => (refine KBw.item_K (by assumption) (by simp only [List.length_cons, List.length_nil]; omega) (by omega) (by simp only [List.length_cons, List.length_nil]; omega) ?_; intro tI kI hIlo hIhi)
  k_with "call type:bytes" => refine to_stopB ?_
  refine wpG_call ?_
  k_dflt (refine' code_defG ?k1 ?k2 ?k3 ?k4 ?k5 ?kA ?kF ?kK ?k6 ?k7 ?k8 ?k9 ?kB ?_ ?c2 ?c3 ?c4 ?c5; (case kA => exact rfl); (case kF => exact rfl); (case kK => assumption); (case k1 => k_asm); (case k2 => k_asm); (case k3 => k_asm); (case k4 => k_asm); (case k5 => k_asm); (case k6 => k_is); (case k7 => k_is); (case k8 => ktr_room); (case k9 => exact BindsTo.of_eq rfl); (case c5 => decide); (case kB => exact locs rfl); (case c2 => exact rfl); (case c3 => exact rfl); (case c4 => exact rfl); k_whole; intro g' L' h' FG' F' N' B' X' T'; (try dsimp only); (try k_lift B'); (try k_fold))
  refine wpG_execs_cons (wpG_Assign_Name (wpG_Call ?_))
  k_steps
  refine wpG_callWith_type (wpG_of ?_)
  k_steps
  refine ba_callK (by k_asm) (by k_asm) ?_
  intro D9 h9 F9 N9 l9
  (try dsimp only)
  k_steps
  refine wpG_of (wpAny_execs_cons (For_T ?_))
  k_steps
  unfold StopB
  rename IsRange _ _ _ _ _ _ _ _ => hR
  rename Fr _ _ _ _ => F5
  rename News _ _ _ _ => N5
  refine loopOnce_T (fun m₀ m nx => nx = (D9, baO (swp [n0, n1, n2, n3] 4)) :: news ∧ Keeps m₀ [Str.ofString "i", Str.ofString "j"] m) rfl F5 N5 hR (by show Builtin.Range.small 0 4 4 = true; decide) (by show Builtin.Range.rangeSize 0 4 4 = 1; decide) ?turn ?done
  case turn =>
    intro h6 I6 o6 F6 N6 hI6
    k_steps
    unfold StopB
    refine For_T ?_
    k_steps
    unfold StopB
    rename IsRange _ _ _ _ _ _ _ _ => hR2
    rename Fr _ _ _ _ => F7
    rename News _ _ _ _ => N7
    refine loopRange_T (n := 4) (fun m₀ i m nx tk => nx = (I6, o6) :: (D9, baO (swp [n0, n1, n2, n3] i)) :: news ∧ Keeps m₀ [Str.ofString "j"] m) rfl F7 N7 hR2 (by decide) (by decide) ?a ?b ?c ?d
    case a => rintro i m nx tk ⟨rfl, _⟩; rfl
    case b => exact ⟨rfl, Keeps.refl _ _⟩
    case c =>
      rintro i m nx h tk I o hi ⟨rfl, hkm⟩ F8 N8 hI8
      have F10 := fr_one F8 hkm
      clear F8
      k_steps
      unfold StopB
      rename News _ _ _ _ => N11
      rename Fr _ _ _ _ => F11
      refine ba_setK (pre := [(I, o), (I6, o6)]) (post := news) F11 N11 (hne_of (hI8 (D9, _) (.tail _ (.head _))) (hI6 (D9, _) (.head _)) l9) (by omega) (by rw [swp_size]; omega) (by rw [swp_size]; decide) (by assumption) (by assumption) ?_
      intro h12 F12 N12
      rw [swp_next] at N12
      simp only [List.cons_append, List.nil_append] at N12
      (try dsimp only)
      k_steps
      intro hle
      rename Fr _ _ _ _ => F13
      exact ⟨_, _, _, _, rfl, F13, N12, rfl, keeps_step⟩
    case d =>
      rintro m nx h tk ⟨rfl, hkm⟩ F8 N8
      k_steps
      exact ⟨_, _, _, _, rfl, F8, N8, (adr_lt (nx := (D9, baO (swp [n0, n1, n2, n3] 4)) :: news) (news := (D9, baO (Array.replicate 4 0)) :: news) rfl hI6), rfl, keeps_out hkm⟩
  case done =>
    rintro m nx h tk ⟨rfl, hkm⟩ F8 N8
    have F10 := fr_keep2 F8 hkm
    clear F8 F5 N5 hR
    k_steps
    unfold StopB
    rename News _ _ _ _ => N11
    refine call_bytes_ba (N11 _ (.head _)).1 (by rw [swp_size]; decide) ?_
    intro tb kb
    (try dsimp only)
    k_steps
    rename News _ _ _ _ => N12
    exact hret _ _ _ (by k_asm) (fun q hq => N12 q (.tail _ hq))
section
variable {prog : Program} {w : World} {A : Around} {E : Value → Shared → Prop} {s : Shared} {h₀ : Heap} {L : Addr} {m : Str → Option Value} {env : Env}
inductive EltR (h₀ : Heap) (L : Addr) (m : Str → Option Value) (s₁ : Shared) (I C D : Addr) (top news : List (Addr × Obj)) (J : Value → List (Addr × Obj) → Prop) (y : Value) (s₂ : Shared) : Prop
  | mk (h' : Heap) (tk' : Tok) (made' : List (Addr × Obj))
    (e1 : s₂ = { s₁ with heap := h', toks := tk' })
    (e2 : Fr h₀ L h' m)
    (e3 : News h₀ L h' (top ++ (news ++ made')))
    (e4 : (∀ p ∈ made', p.1 ≠ I ∧ p.1 ≠ C ∧ p.1 ≠ D))
    (e5 : J y made') : EltR h₀ L m s₁ I C D top news J y s₂
theorem rangeIterC_N {news : List (Addr × Obj)} {r : Addr} {a b c : Int} {t u v : Tok} {Q : Value → Shared → Prop} (F : Fr h₀ L s.heap m) (N : News h₀ L s.heap news) (hr : IsRange s.heap r a b c t u v) (hsmall : Builtin.Range.small a b c = true)
    (h : ∀ I h', Fr h₀ L h' m → News h₀ L h' ((I, ritC a (Builtin.Range.rangeSize a b c) c) :: news) → (∀ p ∈ news, p.1 < I) → Q (.ref I) { s with heap := h' }) :
    wpAny (model prog w) A (pyIter (.ref r)) Q E s :=
  wpAny_pyIter_range hr hsmall (h _ _ (F.push _) (N.push F _) fun p hp => Heap.lt_size (N p hp).1)
end
section
variable {prog : Program} {w : World} {A : Around} {E : Value → Shared → Prop} {s : Shared} {h₀ : Heap} {L : Addr} {m : Str → Option Value} {env : Env}
inductive CompRA (prog : Program) (w : World) (A : Around) (h₀ : Heap) (L : Addr) (m : Str → Option Value) (env : Env) (elt : Expr) (x y : Str) (scope : Scope) (cl : List (Str × Addr)) (Q : Flow → Shared → Prop) (xv : Value) (s₁ : Shared) : Prop
  | mk (r : Addr) (a b c : Int) (t u v : Tok) (n : Nat) (news : List (Addr × Obj)) (J : Nat → List Value → List (Addr × Obj) → Prop)
    (e1 : xv = .ref r)
    (e2 : A.handled = none)
    (e3 : Fr h₀ L s₁.heap m)
    (e4 : News h₀ L s₁.heap news)
    (e5 : IsRange s₁.heap r a b c t u v)
    (e6 : Builtin.Range.small a b c = true)
    (e7 : Builtin.Range.rangeSize a b c = ((n : Nat) : Int))
    (e8 : n ≤ sizeLine)
    (e9 : J 0 [] [])
    (e10 : (∀ (i : Nat) (t : Tok) I oI C oC D oD m₂ h tk ys made (E' : Value → Shared → Prop), i < n → J i ys made → LCg.NsObj oC m₂ → m₂ x = some (.int (a + (i : Int) * c) t) → Fr h₀ L h m → News h₀ L h ((I, oI) :: (C, oC) :: (D, oD) :: (news ++ made)) → (∀ p ∈ news, p.1 < I) → I < D → D < C → (∀ p ∈ made, p.1 ≠ I ∧ p.1 ≠ C ∧ p.1 ≠ D) →
      wpAny (model prog w) A (eval elt (compEnvC scope cl C env)) (EltR h₀ L m s₁ I C D [(I, oI), (C, oC), (D, oD)] news (fun y made' => J (i + 1) (ys ++ [y]) made')) E' { s₁ with heap := h, toks := tk }))
    (e11 : (∀ D ys made h tk, J n ys made → Fr h₀ L h (fun z => if z = y then some (.ref D) else m z) → News h₀ L h ((D, LCg.lst ys) :: (news ++ made)) → (∀ p ∈ news, p.1 < D) → Q .next { s₁ with heap := h, toks := tk })) : CompRA prog w A h₀ L m env elt x y scope cl Q xv s₁
theorem Assign_ListComp_R {elt iter : Expr} {x y : Str} {px py : Pos} {scope : Scope} {cl : List (Str × Addr)} {pos spos : Pos} {Q : Flow → Shared → Prop} (F₀ : Fr h₀ L s.heap m) (hLe : env.locals = L)
    (hsw : swapsWith (.ListComp elt [⟨.Name x px, iter, [], 0⟩] scope pos) (some (.Name y py)) spos.line env = pure true)
    (hclos : closureFor scope env = pure cl) (hcell : ∀ z ∈ scope.names, z.2 ≠ .cell) (hkind : scope.kind = .function)
    (hnames : ∀ z ∈ scope.names, z.2 = .local → scope.names.lookup z.1 = some .local) (hx : scope.names.lookup x = some .local)
    (hy : env.kindOf y = some .local) (hp : (env.scope.kind == .class || (env.scope.kind == .module && env.locals != env.globals)) = false)
    (h : wpAny (model prog w) A (eval iter env) (fun xv s₁ => CompRA prog w A h₀ L m env elt x y scope cl Q xv s₁) E s)
    (hs : ∀ x, foldedSetIterable iter env x = pure x := by intro _; rfl) :
    wpAny (model prog w) A (exec (.Assign [.Name y py] (.ListComp elt [⟨.Name x px, iter, [], 0⟩] scope pos) spos) env) Q E s := by
  subst hLe
  clear F₀
  rw [exec_Assign_Name_used _ _ _ _ hsw]
  refine wpAny_bind (wpAny_standAt (wpAny_bind ?_))
  show wpAny _ A (do let _ ← comprehension (.ListComp elt [⟨.Name x px, iter, [], 0⟩] scope pos) scope env _ (newList []) false (eval iter env) (some (assign (.Name y py) env))) _ _ s
  refine wpAny_bind (wpAny_mono (wpAny_comprehension_free (use := some (assign (.Name y py) env)) (Q := fun _ s' => Q .next s') rfl hs hclos hkind hnames
    (wpAny_mono h (fun xv s₁ h₁ => ?_) fun _ _ e => e)) (fun _ s' hq => wpAny_pure (wpAny_pure hq)) fun _ _ e => e)
  obtain ⟨r, a, b, c, t, u, v, n, news, J, rfl, hh, F, N, hr, hsm, hn, hsz, hJ0, turn, fin⟩ := h₁
  refine rangeIterC_N F N hr hsm fun I h2 F2 N2 hI => ?_
  rw [hn] at N2
  refine wpAny_newObj_type (wpAny_newFunctionEnv hcell (by intro y hy; simp at hy) (fun h₁ hns₁ hsb₁ => ?_) hkind)
  dsimp only at hns₁ hsb₁ ⊢
  have F3 := F2.push { cls := .type "list", dict := none, data := .seq ([] : List Value).toArray }
  have N3 := N2.push F2 { cls := .type "list", dict := none, data := .seq ([] : List Value).toArray }
  have hD : I < h2.objs.size := Heap.lt_size (N2 _ (.head _)).1
  generalize hH : h2.push { cls := .type "list", dict := none, data := .seq ([] : List Value).toArray } = H2 at hns₁ hsb₁ F3 N3 ⊢
  generalize h2.objs.size = D at hD N3 ⊢
  have hC : D < H2.objs.size := Heap.lt_size (N3 _ (.head _)).1
  have old : ∀ b o, H2.get? b = some o → h₁.get? b = some o := fun b o e => hsb₁.extBut b o (Nat.ne_of_lt (Heap.lt_size e)) (Heap.get?_push_of_some _ e)
  have F4 : Fr h₀ env.locals h₁ m := F3.keeps old
  have N4 := N3.grown old
  have hC₀ : h₀.get? H2.objs.size = none := next_is_new F3
  have hCL : H2.objs.size ≠ env.locals := Ne.symm (Nat.ne_of_lt F3.ns.lt)
  clear F F2 F3 N N2 N3 hsb₁ hr h hsm
  generalize H2.objs.size = C at hns₁ hC hC₀ hCL ⊢
  have hDL : D ≠ env.locals := (N4 _ (.head _)).2.1
  have hD₀ : h₀.get? D = none := (N4 _ (.head _)).2.2
  have hIL : I ≠ env.locals := (N4 _ (.tail _ (.head _))).2.1
  have hI₀ : h₀.get? I = none := (N4 _ (.tail _ (.head _))).2.2
  have hnD : ∀ p ∈ news, p.1 ≠ D := fun p hp => Nat.ne_of_lt (Nat.lt_trans (hI p hp) hD)
  have hnC : ∀ p ∈ news, p.1 ≠ C := fun p hp => Nat.ne_of_lt (Nat.lt_trans (Nat.lt_trans (hI p hp) hD) hC)
  have hnI : ∀ p ∈ news, p.1 ≠ I := fun p hp => Nat.ne_of_lt (hI p hp)
  have eID : I ≠ D := Nat.ne_of_lt hD
  have eDC : D ≠ C := Nat.ne_of_lt hC
  have eIC : I ≠ C := Nat.ne_of_lt (Nat.lt_trans hD hC)
  have loop : ∀ s₃ : Shared, s₃ = { s₁ with heap := h₁, toks := s₁.toks + ([] : List (Str × Value)).length } →
      codeAny (model prog w) A (.compLoop (.ListComp elt [⟨.Name x px, iter, [], 0⟩] scope pos) 0 (.ref I) (.ref D) (compEnvC scope cl C env))
        (compPost (model prog w) A E (some (assign (.Name y py) env)) (fun _ s' => Q .next s') (.ref D) C) s₃ := by
    rintro s₃ rfl
    refine codeAny_compLoop_tests
      (fun k s' => ∃ h' tk i ys made m', s' = { s₁ with heap := h', toks := tk } ∧ i ≤ n ∧ k = n + 1 - i ∧ ys.length = i ∧ (∀ p ∈ made, p.1 ≠ I ∧ p.1 ≠ C ∧ p.1 ≠ D) ∧ J i ys made ∧ Fr h₀ env.locals h' m ∧ h'.Ns C m' ∧
        News h₀ env.locals h' ((D, LCg.lst ys) :: (I, ritC (a + (i : Int) * c) ((n : Int) - (i : Int)) c) :: (news ++ made))) ?_ (n + 1)
      ⟨h₁, _, 0, [], [], _, rfl, Nat.zero_le _, rfl, rfl, (fun _ h => nomatch h), hJ0, F4, hns₁, by rw [show a + ((0 : Nat) : Int) * c = a by simp, show (n : Int) - ((0 : Nat) : Int) = n by omega, List.append_nil]; exact N4⟩
    rintro k s' ⟨h', tk, i, ys, made, m', rfl, hi, rfl, hyl, hmade, hJ, F', hn', N'⟩
    have hall : ∀ p ∈ news ++ made, p.1 ≠ I ∧ p.1 ≠ C ∧ p.1 ≠ D := fun p hp => (List.mem_append.mp hp).elim (fun x => ⟨hnI p x, hnC p x, hnD p x⟩) (hmade p)
    have NI : News h₀ env.locals h' ((I, ritC (a + (i : Int) * c) ((n : Int) - (i : Int)) c) :: (news ++ made)) := news_tail N'
    have ND := N' _ (.head _)
    by_cases hlt : i < n
    · refine wpAny_pyNext_range_item (s := { s₁ with heap := h', toks := tk }) (NI _ (.head _)).1 (by omega) fun h₂ ho₂ hs₂ => ?_
      have F₂ := F'.change hs₂ hIL hI₀
      have N₂ := NI.setHead (fun p hp => (hall p hp).1) hs₂ ho₂
      have hD₂ : h₂.get? D = some (LCg.lst ys) := (hs₂.2 D (Ne.symm eID)).trans ND.1
      have hn₂ : h₂.Ns C m' := hn'.sameBut hs₂ (Ne.symm eIC)
      refine wpAny_assign_Name (wpAny_storeName_local (lookup_relabel_local hx) hn₂ (fun h₃ hn₃ hs₃ => ?_) (by simp [compEnvC, relabel, hkind]))
      refine wpAny_tests_nil ?_
      simp only [if_true]
      obtain ⟨oC, heC, hoC⟩ := LCg.ns_obj hn₃
      have hs₃ : Heap.SameBut C h₂ h₃ := hs₃
      have F₃ : Fr h₀ env.locals h₃ m := F₂.change hs₃ hCL hC₀
      have N₃ : News h₀ env.locals h₃ ((I, ritC (a + (i : Int) * c + c) ((n : Int) - (i : Int) - 1) c) :: (C, oC) :: (D, LCg.lst ys) :: (news ++ made)) := by
        intro p hp
        rcases List.mem_cons.mp hp with rfl | hp
        · exact ⟨(hs₃.2 _ eIC).trans ho₂, hIL, hI₀⟩
        · rcases List.mem_cons.mp hp with rfl | hp
          · exact ⟨heC, hCL, hC₀⟩
          · rcases List.mem_cons.mp hp with rfl | hp
            · exact ⟨(hs₃.2 _ eDC).trans hD₂, hDL, hD₀⟩
            · have z := N₂ p (.tail _ hp)
              exact ⟨(hs₃.2 _ (hall p hp).2.1).trans z.1, z.2⟩
      refine wpAny_mono (turn i tk I _ C oC D _ _ h₃ _ ys made _ hlt hJ hoC (by simp) F₃ N₃ hI hD hC hmade) (fun yv s₄ h₄ => ?_) fun _ _ e => e
      obtain ⟨h₄, tk₄, made', rfl, F₄, N₄, hmade', hJ'⟩ := h₄
      have hall' : ∀ p ∈ news ++ made', p.1 ≠ I ∧ p.1 ≠ C ∧ p.1 ≠ D := fun p hp => (List.mem_append.mp hp).elim (fun x => ⟨hnI p x, hnC p x, hnD p x⟩) (hmade' p)
      have zI := N₄ _ (.head _)
      have zC := N₄ _ (.tail _ (.head _))
      have zD := N₄ _ (.tail _ (.tail _ (.head _)))
      refine append_at (hsz := by show ys.toArray.size ≤ sizeLine; rw [List.size_toArray, hyl]; exact Nat.le_trans hi hsz) zD.1 fun h₅ hs₅ hD₅ => ?_
      have e1 : a + ((i + 1 : Nat) : Int) * c = a + (i : Int) * c + c := by rw [Int.natCast_add, Int.add_mul]; simp; omega
      have e2 : (n : Int) - ((i + 1 : Nat) : Int) = (n : Int) - (i : Int) - 1 := by omega
      refine ⟨n + 1 - (i + 1), by omega, h₅, tk₄, i + 1, ys ++ [yv], made', _, rfl, hlt, rfl, by rw [List.length_append, List.length_singleton, hyl], hmade', hJ', F₄.change hs₅ hDL hD₀,
        (hoC.ns zC.1).sameBut hs₅ (Ne.symm eDC), ?_⟩
      · rw [e1, e2]
        intro p hp
        rcases List.mem_cons.mp hp with rfl | hp
        · exact ⟨hD₅.trans (congrArg some (LCg.lst_snoc ys _)), hDL, hD₀⟩
        · rcases List.mem_cons.mp hp with rfl | hp
          · exact ⟨(hs₅.2 _ eID).trans zI.1, zI.2⟩
          · have z := N₄ p (.tail _ (.tail _ (.tail _ hp)))
            exact ⟨(hs₅.2 _ (hall' p hp).2.2).trans z.1, z.2⟩
    · obtain rfl : i = n := Nat.le_antisymm hi (Nat.not_lt.mp hlt)
      refine wpAny_pyNext_range_end (s := { s₁ with heap := h', toks := tk }) hh (NI _ (.head _)).1 (by omega) fun h₂ he₂ => ?_
      have F₂ := fr_extBut F' he₂ hIL hI₀
      refine wpAny_assign_Name (wpAny_storeName_local hy F₂.ns (fun h₄ hn₄ hs₄ => ?_) hp)
      have hs₄ : Heap.SameBut env.locals h₂ h₄ := hs₄
      have hnC₂ : h₂.Ns C m' := hn'.at' fun o e => he₂ C o (Ne.symm eIC) e
      refine ⟨m', hnC₂.sameBut hs₄ hCL, fun h₃ hs₃ => ?_⟩
      have hs₃ : Heap.SameBut C h₄ h₃ := hs₃
      refine fin D ys made h₃ _ hJ ((F₂.set hn₄ hs₄).change hs₃ hCL hC₀) (fun p hp => ?_) fun p hp => Nat.lt_trans (hI p hp) hD
      rcases List.mem_cons.mp hp with rfl | hp
      · exact ⟨(hs₃.2 _ eDC).trans ((hs₄.2 _ hDL).trans (he₂ _ _ (Ne.symm eID) ND.1)), hDL, hD₀⟩
      · have z := NI p (.tail _ hp)
        exact ⟨(hs₃.2 _ (hall p hp).2.1).trans ((hs₄.2 _ z.2.1).trans (he₂ _ _ (hall p hp).1 z.1)), z.2⟩
  exact codeAny_compStart_list (loop _ rfl) (wpAny_pyIter_rangeiter (N4 _ (.tail _ (.head _))).1 (loop _ rfl))
end
section
variable {prog : Program} {w : World} {A : Around} {E : Value → Shared → Prop} {s : Shared} {h₀ : Heap} {L : Addr} {m : Str → Option Value} {env : Env}
inductive CompL (prog : Program) (w : World) (A : Around) (h₀ : Heap) (L : Addr) (m : Str → Option Value) (env : Env) (elt : Expr) (x : Str) (scope : Scope) (cl : List (Str × Addr)) (Q : Value → Shared → Prop) (xv : Value) (s₁ : Shared) : Prop
  | mk (l : Addr) (vs : List Value) (nn : Nat) (news : List (Addr × Obj)) (g : Nat → Int)
    (e1 : xv = .ref l)
    (e2 : A.handled = none)
    (e3 : Fr h₀ L s₁.heap m)
    (e4 : News h₀ L s₁.heap news)
    (e5 : (l, listOf vs.toArray nn) ∈ news)
    (e6 : vs.length ≤ sizeLine)
    (e7 : (∀ (i : Nat) (v : Value) I oI C oC D oD m₂ h tk (E' : Value → Shared → Prop), vs[i]? = some v → LCg.NsObj oC m₂ → m₂ x = some v → Fr h₀ L h m → News h₀ L h ((I, oI) :: (C, oC) :: (D, oD) :: news) → (∀ p ∈ news, p.1 < I) → I < D → D < C →
      wpAny (model prog w) A (eval elt (compEnvC scope cl C env)) (EltEnd h₀ L m s₁ (g i) ((I, oI) :: (C, oC) :: (D, oD) :: news)) E' { s₁ with heap := h, toks := tk }))
    (e8 : (∀ D ys h tk, IntsAre ys ((List.range vs.length).map g) → Fr h₀ L h m → News h₀ L h ((D, LCg.lst ys) :: news) → (∀ p ∈ news, p.1 < D) → Q (.ref D) { s₁ with heap := h, toks := tk })) : CompL prog w A h₀ L m env elt x scope cl Q xv s₁
theorem ListComp_L {elt iter : Expr} {x : Str} {px : Pos} {scope : Scope} {cl : List (Str × Addr)} {pos : Pos} {Q : Value → Shared → Prop} (F₀ : Fr h₀ L s.heap m)
    (hclos : closureFor scope env = pure cl) (hcell : ∀ y ∈ scope.names, y.2 ≠ .cell) (hkind : scope.kind = .function)
    (hnames : ∀ y ∈ scope.names, y.2 = .local → scope.names.lookup y.1 = some .local) (hx : scope.names.lookup x = some .local)
    (h : wpAny (model prog w) A (eval iter env) (fun xv s₁ => CompL prog w A h₀ L m env elt x scope cl Q xv s₁) E s)
    (hs : ∀ x, foldedSetIterable iter env x = pure x := by intro _; rfl) :
    wpAny (model prog w) A (eval (.ListComp elt [⟨.Name x px, iter, [], 0⟩] scope pos) env) Q E s := by
  rw [eval_ListComp]
  refine wpAny_comprehension_free (use := none) rfl hs hclos hkind hnames (wpAny_mono h (fun xv s₁ h₁ => ?_) fun _ _ e => e)
  obtain ⟨l, vs, nn, news, g, rfl, hh, F, N, hml, hsz, turn, fin⟩ := h₁
  refine listIter_N F N (news_list N hml) fun I o0 h2 F2 N2 ho0 hI => ?_
  generalize hvn : vs.length = n at *
  refine wpAny_newObj_type (wpAny_newFunctionEnv hcell (by intro y hy; simp at hy) (fun h₁ hns₁ hsb₁ => ?_) hkind)
  dsimp only at hns₁ hsb₁ ⊢
  have F3 := F2.push { cls := .type "list", dict := none, data := .seq ([] : List Value).toArray }
  have N3 := N2.push F2 { cls := .type "list", dict := none, data := .seq ([] : List Value).toArray }
  have hD : I < h2.objs.size := Heap.lt_size (N2 _ (.head _)).1
  generalize hH : h2.push { cls := .type "list", dict := none, data := .seq ([] : List Value).toArray } = H2 at hns₁ hsb₁ F3 N3 ⊢
  generalize h2.objs.size = D at hD N3 ⊢
  have hC : D < H2.objs.size := Heap.lt_size (N3 _ (.head _)).1
  have old : ∀ b o, H2.get? b = some o → h₁.get? b = some o := fun b o e => hsb₁.extBut b o (Nat.ne_of_lt (Heap.lt_size e)) (Heap.get?_push_of_some _ e)
  have F4 : Fr h₀ L h₁ m := F3.keeps old
  have N4 := N3.grown old
  have hC₀ : h₀.get? H2.objs.size = none := next_is_new F3
  have hCL : H2.objs.size ≠ L := Ne.symm (Nat.ne_of_lt F3.ns.lt)
  clear F F2 F3 N N2 N3 hsb₁ h F₀
  generalize H2.objs.size = C at hns₁ hC hC₀ hCL ⊢
  have hDL : D ≠ L := (N4 _ (.head _)).2.1
  have hD₀ : h₀.get? D = none := (N4 _ (.head _)).2.2
  have hIL : I ≠ L := (N4 _ (.tail _ (.head _))).2.1
  have hI₀ : h₀.get? I = none := (N4 _ (.tail _ (.head _))).2.2
  have hnD : ∀ p ∈ news, p.1 ≠ D := fun p hp => Nat.ne_of_lt (Nat.lt_trans (hI p hp) hD)
  have hnC : ∀ p ∈ news, p.1 ≠ C := fun p hp => Nat.ne_of_lt (Nat.lt_trans (Nat.lt_trans (hI p hp) hD) hC)
  have hnI : ∀ p ∈ news, p.1 ≠ I := fun p hp => Nat.ne_of_lt (hI p hp)
  have eID : I ≠ D := Nat.ne_of_lt hD
  have eDC : D ≠ C := Nat.ne_of_lt hC
  have eIC : I ≠ C := Nat.ne_of_lt (Nat.lt_trans hD hC)
  have loop : ∀ s₃ : Shared, s₃ = { s₁ with heap := h₁, toks := s₁.toks + ([] : List (Str × Value)).length } →
      codeAny (model prog w) A (.compLoop (.ListComp elt [⟨.Name x px, iter, [], 0⟩] scope pos) 0 (.ref I) (.ref D) (compEnvC scope cl C env))
        (compPost (model prog w) A E none Q (.ref D) C) s₃ := by
    rintro s₃ rfl
    refine codeAny_compLoop_tests
      (fun k s' => ∃ h' tk i ys m' oI, s' = { s₁ with heap := h', toks := tk } ∧ i ≤ n ∧ k = n + 1 - i ∧ ys.length = i ∧ LitO oI l i ∧ IntsAre ys ((List.range i).map g) ∧ Fr h₀ L h' m ∧ h'.Ns C m' ∧
        News h₀ L h' ((D, LCg.lst ys) :: (I, oI) :: news)) ?_ (n + 1)
      ⟨h₁, _, 0, [], _, o0, rfl, Nat.zero_le _, rfl, rfl, ho0, .nil, F4, hns₁, N4⟩
    rintro k s' ⟨h', tk, i, ys, m', oI, rfl, hi, rfl, hyl, hoI, hys, F', hn', N'⟩
    have NI : News h₀ L h' ((I, oI) :: news) := news_tail N'
    have ND := N' _ (.head _)
    by_cases hlt : i < n
    · have hxi : vs.toArray[i]? = some (vs[i]'(by omega)) := by simp
      refine wpAny_pyNext_list_item (s := { s₁ with heap := h', toks := tk }) (i := i) ⟨oI, (NI _ (.head _)).1, hoI.1, hoI.2⟩ (news_list (news_tail NI) hml) hxi fun h₂ hit₂ hs₂ => ?_
      obtain ⟨oJ, ho₂, hc₂, hd₂⟩ := hit₂
      have F₂ := F'.change hs₂ hIL hI₀
      have N₂ := NI.setHead hnI hs₂ ho₂
      have hD₂ : h₂.get? D = some (LCg.lst ys) := (hs₂.2 D (Ne.symm eID)).trans ND.1
      have hn₂ : h₂.Ns C m' := hn'.sameBut hs₂ (Ne.symm eIC)
      refine wpAny_assign_Name (wpAny_storeName_local (lookup_relabel_local hx) hn₂ (fun h₃ hn₃ hs₃ => ?_) (by simp [compEnvC, relabel, hkind]))
      refine wpAny_tests_nil ?_
      simp only [if_true]
      obtain ⟨oC, heC, hoC⟩ := LCg.ns_obj hn₃
      have hs₃ : Heap.SameBut C h₂ h₃ := hs₃
      have F₃ : Fr h₀ L h₃ m := F₂.change hs₃ hCL hC₀
      have N₃ : News h₀ L h₃ ((I, oJ) :: (C, oC) :: (D, LCg.lst ys) :: news) := by
        intro p hp
        rcases List.mem_cons.mp hp with rfl | hp
        · exact ⟨(hs₃.2 _ eIC).trans ho₂, hIL, hI₀⟩
        · rcases List.mem_cons.mp hp with rfl | hp
          · exact ⟨heC, hCL, hC₀⟩
          · rcases List.mem_cons.mp hp with rfl | hp
            · exact ⟨(hs₃.2 _ eDC).trans hD₂, hDL, hD₀⟩
            · have z := N₂ p (.tail _ hp)
              exact ⟨(hs₃.2 _ (hnC p hp)).trans z.1, z.2⟩
      refine wpAny_mono (turn i _ I _ C oC D _ _ h₃ _ _ (by rw [List.getElem?_eq_getElem (by omega)]) hoC (by simp) F₃ N₃ hI hD hC) (fun y s₄ h₄ => ?_) fun _ _ e => e
      obtain ⟨tq, h₄, tk₄, rfl, rfl, F₄, N₄⟩ := h₄
      have zI := N₄ _ (.head _)
      have zC := N₄ _ (.tail _ (.head _))
      have zD := N₄ _ (.tail _ (.tail _ (.head _)))
      refine append_at (hsz := by show ys.toArray.size ≤ sizeLine; rw [List.size_toArray, hyl]; exact Nat.le_trans hi hsz) zD.1 fun h₅ hs₅ hD₅ => ?_
      refine ⟨n + 1 - (i + 1), by omega, h₅, tk₄, i + 1, ys ++ [.int (g i) tq], _, oJ, rfl, hlt, rfl, by rw [List.length_append, List.length_singleton, hyl], ⟨hc₂, hd₂⟩, ?_, F₄.change hs₅ hDL hD₀,
        (hoC.ns zC.1).sameBut hs₅ (Ne.symm eDC), ?_⟩
      · rw [List.range_succ, List.map_append]
        exact hys.append (.cons _ _ .nil)
      · intro p hp
        rcases List.mem_cons.mp hp with rfl | hp
        · exact ⟨hD₅.trans (congrArg some (LCg.lst_snoc ys _)), hDL, hD₀⟩
        · rcases List.mem_cons.mp hp with rfl | hp
          · exact ⟨(hs₅.2 _ eID).trans zI.1, zI.2⟩
          · have z := N₄ p (.tail _ (.tail _ (.tail _ hp)))
            exact ⟨(hs₅.2 _ (hnD p hp)).trans z.1, z.2⟩
    · obtain rfl : i = n := Nat.le_antisymm hi (Nat.not_lt.mp hlt)
      refine wpAny_pyNext_list_end (s := { s₁ with heap := h', toks := tk }) (i := i) hh ⟨oI, (NI _ (.head _)).1, hoI.1, hoI.2⟩ (news_list (news_tail NI) hml) (by simp; omega) fun h₂ he₂ => ?_
      refine ⟨m', hn'.at' fun o e => he₂ C o (Ne.symm eIC) e, fun h₃ hs₃ => ?_⟩
      have hs₃ : Heap.SameBut C h₂ h₃ := hs₃
      refine fin D ys h₃ tk hys ((fr_extBut F' he₂ hIL hI₀).change hs₃ hCL hC₀) (fun p hp => ?_) fun p hp => Nat.lt_trans (hI p hp) hD
      rcases List.mem_cons.mp hp with rfl | hp
      · exact ⟨(hs₃.2 _ eDC).trans (he₂ _ _ (Ne.symm eID) ND.1), hDL, hD₀⟩
      · have z := NI p (.tail _ hp)
        exact ⟨(hs₃.2 _ (hnC p hp)).trans (he₂ _ _ (hnI p hp) z.1), z.2⟩
  exact codeAny_compStart_list (loop _ rfl) (wpAny_pyIter_listiter (i := 0) ⟨o0, (N4 _ (.tail _ (.head _))).1, ho0.1, ho0.2⟩ (loop _ rfl))
end
/-- what the two divisions need and give -/
def FigOk (ns : List Int) (wd st ct : Int) (res : List Int) : Prop :=
  KBa.In ns ∧ ns.length = 4 ∧ (∀ x ∈ ns, 0 ≤ x ∧ x < 2 ^ wd.toNat) ∧ 0 < dsum (2 ^ wd.toNat) ns ∧ 0 < (2 ^ wd.toNat - 1 : Int) ^ (4 : Int).toNat ∧ (Builtin.Int.intBits ((2 ^ wd.toNat - 1 : Int) ^ (4 : Int).toNat) : Int) = 4 * wd ∧
  ∃ kd kq : Nat, ((Builtin.Int.intBits (dsum (2 ^ wd.toNat) ns * 2 ^ (wd * st).toNat) : Int) + 4 * wd - 1).fdiv (4 * wd) = (kd : Int) ∧ (kd = 1 ∨ kd = 2) ∧
   ((Builtin.Int.intBits (dsum (2 ^ wd.toNat) ns * 2 ^ (wd * st).toNat / (2 ^ wd.toNat - 1 : Int) ^ (4 : Int).toNat) : Int) + wd - 1).fdiv wd = (kq : Int) ∧ kq ≤ 4 ∧ (kq : Int) ≤ ct ∧
   res = (idig (2 ^ wd.toNat) kq (dsum (2 ^ wd.toNat) ns * 2 ^ (wd * st).toNat / (2 ^ wd.toNat - 1 : Int) ^ (4 : Int).toNat).toNat).map Int.ofNat ++ List.replicate (ct - kq).toNat 0
theorem alg_w3 (B h1 h2 h3 : Int) : dsum B [h3, h2, h1, 1] * B ^ 4 = dsum B [20 + 10 * h1 + 4 * h2 + h3, 10 + 4 * h1 + h2, 4 + h1, 1] * (B - 1) ^ 4 + ((35 + 20 * h1 + 10 * h2 + 4 * h3) * (B * B * B) - (84 + 45 * h1 + 20 * h2 + 6 * h3) * (B * B) + (70 + 36 * h1 + 15 * h2 + 4 * h3) * B - (20 + 10 * h1 + 4 * h2 + h3)) := by
  simp only [dsum]; grind
theorem alg_w2 (B h1 h2 h3 : Int) : dsum B [h3, h2, h1, 1] * B ^ 3 = dsum B [10 + 4 * h1 + h2, 4 + h1, 1] * (B - 1) ^ 4 + ((20 + 10 * h1 + 4 * h2 + h3) * (B * B * B) - (45 + 20 * h1 + 6 * h2) * (B * B) + (36 + 15 * h1 + 4 * h2) * B - (10 + 4 * h1 + h2)) := by
  simp only [dsum]; grind
theorem alg_i3 (B h1 h2 h3 : Int) : dsum B [1, h1, h2, h3] * B ^ 3 = dsum B [h1 + 4 * h2 + 10 * h3, h2 + 4 * h3, h3, 0] * (B - 1) ^ 4 + ((1 + 4 * h1 + 10 * h2 + 20 * h3) * (B * B * B) - (6 * h1 + 20 * h2 + 45 * h3) * (B * B) + (4 * h1 + 15 * h2 + 36 * h3) * B - (h1 + 4 * h2 + 10 * h3)) := by
  simp only [dsum]; grind
theorem alg_i2 (B h1 h2 h3 : Int) : dsum B [1, h1, h2, h3] * B ^ 2 = dsum B [h2 + 4 * h3, h3, 0] * (B - 1) ^ 4 + ((h1 + 4 * h2 + 10 * h3) * (B * B * B) - (6 * h2 + 20 * h3 - 1) * (B * B) + (4 * h2 + 15 * h3) * B - (h2 + 4 * h3)) := by
  simp only [dsum]; grind
theorem rest_ok {B c3 c2 c1 c0 : Int} (hB : 256 ≤ B) (h30 : 0 ≤ c3) (h31 : c3 ≤ 200) (h20 : -1 ≤ c2) (h21 : c2 ≤ 256 * c3) (h10 : 0 ≤ c1) (h11 : c1 ≤ 60000) (h00 : 0 ≤ c0) (h01 : c0 ≤ 256 * c1) :
    0 ≤ c3 * (B * B * B) - c2 * (B * B) + c1 * B - c0 ∧ c3 * (B * B * B) - c2 * (B * B) + c1 * B - c0 < (B - 1) ^ 4 := by
  have e : (B - 1) ^ 4 = B * (B * B * B) - 4 * (B * B * B) + 6 * (B * B) - 4 * B + 1 := by grind
  have hP2 : 256 * B ≤ B * B := Int.mul_le_mul_of_nonneg_right hB (by omega)
  have hP3 : 256 * (B * B) ≤ B * B * B := by rw [Int.mul_comm (B * B) B]; exact Int.mul_le_mul_of_nonneg_right hB (by omega)
  have hP4 : 256 * (B * B * B) ≤ B * (B * B * B) := Int.mul_le_mul_of_nonneg_right hB (by omega)
  rw [e]
  generalize B * (B * B * B) = P4 at *
  generalize B * B * B = P3 at *
  generalize B * B = P2 at *
  have a1 : c3 * (256 * P2) ≤ c3 * P3 := Int.mul_le_mul_of_nonneg_left hP3 h30
  have a2 : c2 * P2 ≤ (256 * c3) * P2 := Int.mul_le_mul_of_nonneg_right h21 (by omega)
  have a3 : c1 * 256 ≤ c1 * B := Int.mul_le_mul_of_nonneg_left hB h10
  have a4 : c3 * P3 ≤ 200 * P3 := Int.mul_le_mul_of_nonneg_right h31 (by omega)
  have a5 : c1 * B ≤ 60000 * B := Int.mul_le_mul_of_nonneg_right h11 (by omega)
  have a6 : -1 * P2 ≤ c2 * P2 := Int.mul_le_mul_of_nonneg_right h20 (by omega)
  have e1 : c3 * (256 * P2) = 256 * c3 * P2 := by rw [← Int.mul_assoc, Int.mul_comm c3 256]
  rw [e1] at a1
  generalize c3 * P3 = x1 at *
  generalize c2 * P2 = x2 at *
  generalize c1 * B = x3 at *
  generalize 256 * c3 * P2 = x4 at *
  omega
theorem div_is {N q d r : Int} (h : N = q * d + r) (h0 : 0 ≤ r) (h1 : r < d) : N / d = q := by
  rw [h, Int.add_comm, Int.add_mul_ediv_right _ _ (by omega), Int.ediv_eq_zero_of_lt h0 h1, Int.zero_add]
noncomputable def dgs (B : Nat) : Nat → Nat → List Nat
  | 0, _ => []
  | n + 1, x => x % B :: dgs B n (x / B)
theorem dgs_zero (B : Nat) : ∀ n, dgs B n 0 = List.replicate n 0
  | 0 => rfl
  | n + 1 => by show 0 % B :: dgs B n (0 / B) = _; rw [Nat.zero_mod, Nat.zero_div, dgs_zero B n, List.replicate_succ]
theorem idig_dgs {B : Nat} (hB : 0 < B) : ∀ (k n x : Nat), x < B ^ k → k ≤ n → idig B k x ++ List.replicate (n - k) 0 = dgs B n x
  | 0, n, x, hx, _ => by
    obtain rfl : x = 0 := by rw [Nat.pow_zero] at hx; omega
    rw [dgs_zero]; rfl
  | 1, 0, x, _, h => absurd h (by decide)
  | 1, n + 1, x, hx, _ => by
    rw [Nat.pow_one] at hx
    show x :: List.replicate (n + 1 - 1) 0 = x % B :: dgs B n (x / B)
    rw [Nat.mod_eq_of_lt hx, Nat.div_eq_of_lt hx, dgs_zero, Nat.add_sub_cancel]
  | k + 2, 0, x, _, h => absurd h (by omega)
  | k + 2, n + 1, x, hx, h => by
    show x % B :: (idig B (k + 1) (x / B) ++ List.replicate (n + 1 - (k + 2)) 0) = x % B :: dgs B n (x / B)
    rw [show n + 1 - (k + 2) = n - (k + 1) by omega, idig_dgs hB (k + 1) n (x / B) ((Nat.div_lt_iff_lt_mul hB).mpr (by rw [← Nat.pow_succ]; exact hx)) (by omega)]
theorem dgs_dsum {B : Nat} (hB : 0 < B) : ∀ ds : List Int, (∀ x ∈ ds, 0 ≤ x ∧ x < (B : Int)) → (dgs B ds.length (dsum (B : Int) ds).toNat).map Int.ofNat = ds
  | [], _ => rfl
  | d :: r, h => by
    obtain ⟨h0, h1⟩ := h d (.head _)
    have hr := fun y hy => h y (.tail _ hy)
    have hn := (dsum_nonneg (B := (B : Int)) (by omega) r hr).1
    obtain ⟨a, rfl⟩ := Int.eq_ofNat_of_zero_le h0
    obtain ⟨b, hb⟩ := Int.eq_ofNat_of_zero_le hn
    have ha : a < B := by omega
    have e : (dsum (B : Int) ((a : Int) :: r)).toNat = a + B * b := by
      show ((a : Int) + (B : Int) * dsum (B : Int) r).toNat = _
      rw [hb]
      have : (a : Int) + (B : Int) * (b : Int) = ((a + B * b : Nat) : Int) := by push_cast; rfl
      rw [this, Int.toNat_natCast]
    have ih := dgs_dsum hB r hr
    rw [hb, Int.toNat_natCast] at ih
    show (dgs B (r.length + 1) (dsum (B : Int) ((a : Int) :: r)).toNat).map Int.ofNat = _
    rw [e]
    show Int.ofNat ((a + B * b) % B) :: (dgs B r.length ((a + B * b) / B)).map Int.ofNat = _
    rw [Nat.add_mul_mod_self_left, Nat.mod_eq_of_lt ha, Nat.add_mul_div_left _ _ hB, Nat.div_eq_of_lt ha, Nat.zero_add, ih]
    rfl
theorem bits_of {x : Int} {k : Nat} (h0 : 0 ≤ x) (h1 : x < 2 ^ (k + 1)) (h2 : 2 ^ k ≤ x) : Builtin.Int.intBits x = k + 1 := by
  have a := (lt_bits h0).mpr h1
  have b : ¬ Builtin.Int.intBits x ≤ k := fun h => by have := (lt_bits h0).mp h; omega
  omega
theorem ceil_facts {b w : Int} (hw : 0 < w) (hb : 0 ≤ b) : ∃ k : Nat, (b + w - 1).fdiv w = (k : Int) ∧ b ≤ w * k ∧ (0 < b → 1 ≤ k) ∧ ∀ m : Nat, b ≤ w * m → k ≤ m := by
  have h0 : 0 ≤ (b + w - 1).fdiv w := by rw [Int.fdiv_eq_ediv_of_nonneg _ (by omega)]; exact Int.ediv_nonneg (by omega) (by omega)
  obtain ⟨k, hk⟩ := Int.eq_ofNat_of_zero_le h0
  refine ⟨k, hk, bits_le hw hk, fun hb => ?_, fun m hm => ?_⟩
  · have : (1 : Int) ≤ (b + w - 1).fdiv w := by
      rw [Int.fdiv_eq_ediv_of_nonneg _ (by omega)]
      exact Int.le_ediv_of_mul_le hw (by omega)
    omega
  · have : (b + w - 1).fdiv w < (m : Int) + 1 := by
      rw [Int.fdiv_eq_ediv_of_nonneg _ (by omega)]
      refine Int.ediv_lt_of_lt_mul hw ?_
      rw [Int.add_mul, Int.one_mul, Int.mul_comm (m : Int) w]; omega
    omega
theorem bits_pos {x : Int} (h : 0 < x) : 0 < Builtin.Int.intBits x := by
  rcases Nat.eq_zero_or_pos (Builtin.Int.intBits x) with e | e
  · have := (lt_bits (k := 0) (Int.le_of_lt h)).mp (by omega)
    rw [Int.pow_zero] at this; omega
  · exact e
theorem two_pow_le {a b : Nat} (h : a ≤ b) : (2 : Int) ^ a ≤ 2 ^ b := by
  have : 2 ^ a ≤ 2 ^ b := Nat.pow_le_pow_right (by decide) h
  exact_mod_cast this
theorem fig_ok {ns ds : List Int} {wd st ct R : Int} (hw0 : 8 ≤ wd) (hw1 : wd ≤ 64) (hin : KBa.In ns) (hlen : ns.length = 4) (hdig : ∀ x ∈ ns, 0 ≤ x ∧ x < 2 ^ wd.toNat) (hpos : 0 < dsum (2 ^ wd.toNat) ns) (hs0 : 0 ≤ st) (hs1 : st ≤ 4)
    (hds : ∀ x ∈ ds, 0 ≤ x ∧ x < 2 ^ wd.toNat) (hdl : (ds.length : Int) = ct) (hct : ct ≤ 4)
    (hN : dsum (2 ^ wd.toNat) ns * 2 ^ (wd * st).toNat = dsum (2 ^ wd.toNat) ds * (2 ^ wd.toNat - 1) ^ 4 + R) (h0 : 0 ≤ R) (h1 : R < (2 ^ wd.toNat - 1) ^ 4) : FigOk ns wd st ct ds := by
  have hk8 : 8 ≤ wd.toNat := by omega
  have hkw : ((wd.toNat : Nat) : Int) = wd := by omega
  have hB : (256 : Int) ≤ 2 ^ wd.toNat := by
    have h : (2 : Int) ^ 8 ≤ 2 ^ wd.toNat := two_pow_le hk8
    exact h
  have hd0 : (0 : Int) < (2 ^ wd.toNat - 1) ^ 4 := by omega
  have hq := div_is hN h0 h1
  have e4 : (4 : Int).toNat = 4 := rfl
  have hbits : (Builtin.Int.intBits ((2 ^ wd.toNat - 1 : Int) ^ 4) : Int) = 4 * wd := by
    have hP : (2 : Int) ^ (wd.toNat * 4 - 1 + 1) = 2 ^ wd.toNat * (2 ^ wd.toNat * 2 ^ wd.toNat * 2 ^ wd.toNat) := by
      rw [show wd.toNat * 4 - 1 + 1 = wd.toNat * 4 by omega, Int.pow_mul]
      generalize (2 : Int) ^ wd.toNat = B
      grind
    have hh : (2 : Int) ^ (wd.toNat * 4 - 1 + 1) = 2 ^ (wd.toNat * 4 - 1) * 2 := Int.pow_succ ..
    have := bits_of (x := (2 ^ wd.toNat - 1 : Int) ^ 4) (k := wd.toNat * 4 - 1) (by omega) ?_ ?_
    · rw [this]; omega
    · rw [hP]
      generalize (2 : Int) ^ wd.toNat = B at *
      have e : (B - 1) ^ 4 = B * (B * B * B) - 4 * (B * B * B) + 6 * (B * B) - 4 * B + 1 := by grind
      have hP2 : 256 * B ≤ B * B := Int.mul_le_mul_of_nonneg_right hB (by omega)
      have hP3 : 256 * (B * B) ≤ B * B * B := by rw [Int.mul_comm (B * B) B]; exact Int.mul_le_mul_of_nonneg_right hB (by omega)
      rw [e]; omega
    · rw [hP] at hh
      generalize (2 : Int) ^ (wd.toNat * 4 - 1) = H at *
      generalize (2 : Int) ^ wd.toNat = B at *
      have e : (B - 1) ^ 4 = B * (B * B * B) - 4 * (B * B * B) + 6 * (B * B) - 4 * B + 1 := by grind
      have hP2 : 256 * B ≤ B * B := Int.mul_le_mul_of_nonneg_right hB (by omega)
      have hP3 : 256 * (B * B) ≤ B * B * B := by rw [Int.mul_comm (B * B) B]; exact Int.mul_le_mul_of_nonneg_right hB (by omega)
      have hP4 : 256 * (B * B * B) ≤ B * (B * B * B) := Int.mul_le_mul_of_nonneg_right hB (by omega)
      rw [e]; omega
  have hqp : 0 ≤ dsum (2 ^ wd.toNat) ds := (dsum_nonneg (B := 2 ^ wd.toNat) (by omega) ds hds).1
  have hwst : 0 ≤ wd * st := Int.mul_nonneg (by omega) hs0
  have hNpos : 0 < dsum (2 ^ wd.toNat) ns * 2 ^ (wd * st).toNat := Int.mul_pos hpos (Int.pow_pos (by decide))
  have hNlt : dsum (2 ^ wd.toNat) ns * 2 ^ (wd * st).toNat < 2 ^ (wd.toNat * 8) := by
    have a1 := (dsum_nonneg (B := 2 ^ wd.toNat) (by omega) ns hdig).2
    rw [hlen, ← Int.pow_mul] at a1
    have a2 : wd * st ≤ wd * 4 := Int.mul_le_mul_of_nonneg_left hs1 (by omega)
    have a3 : (2 : Int) ^ (wd * st).toNat ≤ 2 ^ (wd.toNat * 4) := two_pow_le (by omega)
    have a4 : (2 : Int) ^ (wd.toNat * 8) = 2 ^ (wd.toNat * 4) * 2 ^ (wd.toNat * 4) := by rw [← Int.pow_add]; congr 1; omega
    rw [a4]
    have hp : (0 : Int) < 2 ^ (wd * st).toNat := Int.pow_pos (by decide)
    exact Int.lt_of_lt_of_le (Int.mul_lt_mul_of_pos_right a1 hp) (Int.mul_le_mul_of_nonneg_left a3 (Int.le_of_lt (Int.pow_pos (by decide))))
  obtain ⟨kd, k1, _, k2, k3⟩ := ceil_facts (b := (Builtin.Int.intBits (dsum (2 ^ wd.toNat) ns * 2 ^ (wd * st).toNat) : Int)) (w := 4 * wd) (by omega) (by omega)
  obtain ⟨kq, j1, j4, j2, j3⟩ := ceil_facts (b := (Builtin.Int.intBits (dsum (2 ^ wd.toNat) ds) : Int)) (w := wd) (by omega) (by omega)
  have k2 := k2 (by have := bits_pos hNpos; omega)
  have hkd := k3 2 (by have := (lt_bits (Int.le_of_lt hNpos)).mpr hNlt; omega)
  have hqlt := (dsum_nonneg (B := 2 ^ wd.toNat) (by omega) ds hds).2
  have hkq := j3 ds.length (by
    rw [← Int.pow_mul] at hqlt
    have := (lt_bits (hqp)).mpr hqlt
    have e : ((wd.toNat * ds.length : Nat) : Int) = wd * (ds.length : Int) := by rw [Int.natCast_mul, hkw]
    omega)
  refine ⟨hin, hlen, hdig, hpos, by rw [e4]; exact hd0, by rw [e4]; exact hbits, kd, kq, k1, by omega, by rw [e4, hq]; exact j1, by omega, by omega, ?_⟩
  rw [e4, hq]
  have hBN : ((2 ^ wd.toNat : Nat) : Int) = (2 : Int) ^ wd.toNat := by push_cast; rfl
  have hx : (dsum (2 ^ wd.toNat) ds).toNat < (2 ^ wd.toNat) ^ kq := by
    have e : ((wd.toNat * kq : Nat) : Int) = wd * (kq : Int) := by rw [Int.natCast_mul, hkw]
    have a := (lt_bits (k := wd.toNat * kq) (hqp)).mp (by omega)
    rw [← Nat.pow_mul]
    have b : (((dsum (2 ^ wd.toNat) ds).toNat : Nat) : Int) < ((2 ^ (wd.toNat * kq) : Nat) : Int) := by rw [Int.toNat_of_nonneg (hqp)]; push_cast; exact a
    exact Int.ofNat_lt.mp b
  have key := idig_dgs (B := 2 ^ wd.toNat) (Nat.pow_pos (by decide)) kq ds.length _ hx hkq
  have key2 := dgs_dsum (B := 2 ^ wd.toNat) (Nat.pow_pos (by decide)) ds (by rw [hBN]; exact hds)
  rw [hBN, ← key, List.map_append, List.map_replicate] at key2
  rw [show (ct - (kq : Int)).toNat = ds.length - kq by omega]
  exact key2.symm
/-- sums over 0 .. n - 1, in natural numbers -/
noncomputable def sumN (f : Nat → Nat) : Nat → Nat
  | 0 => 0
  | n + 1 => sumN f n + f n
theorem sumI_sumN {f : Int → Int} {g : Nat → Nat} : ∀ {n : Nat}, (∀ k < n, f (k : Int) = (g k : Int)) → sumI f (rangeKs 0 n) = (sumN g n : Int)
  | 0, _ => rfl
  | n + 1, h => by
    have ih := sumI_sumN (f := f) (g := g) (n := n) fun k hk => h k (by omega)
    have e : rangeKs 0 (n + 1) = rangeKs 0 n ++ [(n : Int)] := by simp [rangeKs, List.range_succ]
    rw [e, sumI_app, ih, h n (by omega)]
    simp [sumN]
theorem cntI_sumI (p : Int → Bool) (l : List Int) : cntI p l = sumI (fun k => if p k then (1 : Int) else 0) l := rfl
theorem sumI_map (f : Int → Int) (g : Nat → Int) (n : Nat) : sumI f ((List.range n).map g) = sumI (fun k => f (g k.toNat)) (rangeKs 0 n) := by
  induction n with
  | zero => rfl
  | succ n ih =>
    have e : rangeKs 0 (n + 1) = rangeKs 0 n ++ [(n : Int)] := by simp [rangeKs, List.range_succ]
    rw [e, sumI_app, ← ih, List.range_succ, List.map_append]
    simp [sumI]
noncomputable def wOk (T q l r s far near : Nat) : Bool := Nat.ble l (far * q) && Nat.ble r (near * q) && Nat.ble (s + far * q + near * q) (T + l + r)
noncomputable def iOk (T q l r s far near : Nat) : Bool := Nat.blt 0 s && Nat.blt l (far * q) && Nat.blt r (near * q) && Nat.blt (s + far * q + near * q) (T + l + r)
noncomputable def wN (t q a b : Nat) : Nat := sumN (fun s => sumN (fun far => sumN (fun near => cond (wOk (t * q) q (a * s % q) (b * s % q) s far near) 1 0) (t + 1)) (t + 1)) (t * q + 1)
noncomputable def iN (t q a b : Nat) : Nat := sumN (fun s => sumN (fun far => sumN (fun near => cond (iOk (t * q) q (a * s % q) (b * s % q) s far near) 1 0) (t + 1)) (t + 1)) (t * q + 1)
theorem one_if {p : Bool} {c : Bool} (h : p = c) : (if p then (1 : Int) else 0) = ((cond c 1 0 : Nat) : Int) := by subst h; cases p <;> rfl
theorem mod_nat (a s q : Nat) : ((a : Int) * (s : Int)).fmod (q : Int) = ((a * s % q : Nat) : Int) := by
  rw [Int.fmod_eq_emod_of_nonneg _ (Int.natCast_nonneg _)]; push_cast; rfl
theorem wOk_eq (t q l r s far near : Nat) : decide (0 ≤ least q t l r s far near) = wOk (t * q) q l r s far near := by
  rw [Bool.eq_iff_iff, decide_eq_true_iff]
  unfold wOk
  simp only [Bool.and_eq_true, Nat.ble_eq]
  unfold least
  rw [← Int.natCast_mul, ← Int.natCast_mul, ← Int.natCast_mul, Int.le_min, Int.le_min, Int.le_min]
  generalize far * q = x, near * q = y, t * q = z
  exact ⟨fun ⟨_, h2, h3, h4⟩ => ⟨⟨by clear h3 h4; omega, by clear h2 h4; omega⟩, by clear h2 h3; omega⟩, fun ⟨⟨h2, h3⟩, h4⟩ => ⟨Int.natCast_nonneg _, by clear h3 h4; omega, by clear h2 h4; omega, by clear h2 h3; omega⟩⟩
theorem iOk_eq (t q l r s far near : Nat) : decide (0 < least q t l r s far near) = iOk (t * q) q l r s far near := by
  rw [Bool.eq_iff_iff, decide_eq_true_iff]
  unfold iOk
  simp only [Bool.and_eq_true, Nat.blt_eq]
  unfold least
  rw [← Int.natCast_mul, ← Int.natCast_mul, ← Int.natCast_mul, Int.lt_min, Int.lt_min, Int.lt_min]
  generalize far * q = x, near * q = y, t * q = z
  exact ⟨fun ⟨h1, h2, h3, h4⟩ => ⟨⟨⟨Int.ofNat_lt.mp h1, by clear h3 h4; omega⟩, by clear h2 h4; omega⟩, by clear h2 h3; omega⟩, fun ⟨⟨⟨h1, h2⟩, h3⟩, h4⟩ => ⟨Int.ofNat_lt.mpr h1, by clear h3 h4; omega, by clear h2 h4; omega, by clear h2 h3; omega⟩⟩
theorem whole_nat (t q a b : Nat) : wholeN t q a b = (wN t q a b : Int) := by
  have e1 : ((t : Int) * (q : Int) + 1 - 0).toNat = t * q + 1 := by
    rw [show (t : Int) * (q : Int) + 1 - 0 = ((t * q + 1 : Nat) : Int) by push_cast; omega]; rfl
  have e2 : ((t : Int) + 1 - 0).toNat = t + 1 := by omega
  unfold wholeN wN
  rw [e1, e2]
  refine sumI_sumN fun s _ => sumI_sumN fun far _ => ?_
  rw [cntI_sumI]
  refine sumI_sumN fun near _ => one_if ?_
  rw [mod_nat, mod_nat]; exact wOk_eq ..
theorem inner_nat (t q a b : Nat) : innerN t q a b = (iN t q a b : Int) := by
  have e1 : ((t : Int) * (q : Int) + 1 - 0).toNat = t * q + 1 := by
    rw [show (t : Int) * (q : Int) + 1 - 0 = ((t * q + 1 : Nat) : Int) by push_cast; omega]; rfl
  have e2 : ((t : Int) + 1 - 0).toNat = t + 1 := by omega
  unfold innerN iN
  rw [e1, e2]
  refine sumI_sumN fun s _ => sumI_sumN fun far _ => ?_
  rw [cntI_sumI]
  refine sumI_sumN fun near _ => one_if ?_
  rw [mod_nat, mod_nat]; exact iOk_eq ..
/-- a height, in natural numbers -/
noncomputable def hN (q a b s : Nat) : Nat := (s % q + (q - a) * s % q + (q - b) * s % q + (a + b + q - 1) * s % q) / q
noncomputable def rN (q a b k : Nat) : Nat := sumN (fun s => cond (Nat.beq (hN q a b s) k) 1 0) q
theorem mod_minus {a s q : Nat} (h : a ≤ q) : (-(a : Int) * (s : Int)).fmod (q : Int) = (((q - a) * s % q : Nat) : Int) := by
  rw [Int.fmod_eq_emod_of_nonneg _ (Int.natCast_nonneg _), Int.natCast_emod, Int.natCast_mul, Int.natCast_sub h, Int.sub_mul, Int.sub_eq_add_neg, Int.add_comm, Int.add_mul_emod_self_left, Int.neg_mul]
theorem mod_last {a b s q : Nat} (h : 1 ≤ q) : (((a : Int) + (b : Int) - 1) * (s : Int)).fmod (q : Int) = (((a + b + q - 1) * s % q : Nat) : Int) := by
  rw [Int.fmod_eq_emod_of_nonneg _ (Int.natCast_nonneg _), Int.natCast_emod, Int.natCast_mul]
  have e : ((a + b + q - 1 : Nat) : Int) = ((a : Int) + b - 1) + q := by omega
  rw [e, Int.add_mul, Int.add_mul_emod_self_left]
theorem height_nat {q a b s : Nat} (hq : 1 ≤ q) (ha : a ≤ q) (hb : b ≤ q) : rowF q a b s = (hN q a b s : Int) := by
  unfold rowF hN
  have e1 : ((1 : Int) * (s : Int)).fmod (q : Int) = ((s % q : Nat) : Int) := by
    rw [Int.one_mul, Int.fmod_eq_emod_of_nonneg _ (Int.natCast_nonneg _)]; push_cast; rfl
  simp only [List.map_cons, List.map_nil, List.sum_cons, List.sum_nil, e1, mod_minus ha, mod_minus hb, mod_last hq]
  rw [Int.fdiv_eq_ediv_of_nonneg _ (Int.natCast_nonneg _)]
  push_cast
  congr 1
  omega
theorem row_nat {q a b : Nat} (k : Nat) (hq : 1 ≤ q) (ha : a ≤ q) (hb : b ≤ q) : rowG q a b k = (rN q a b k : Int) := by
  unfold rowG rN
  rw [cntI_sumI, sumI_map]
  have e : ((q : Int) - 0).toNat = q := by omega
  rw [e]
  refine sumI_sumN fun s _ => one_if ?_
  rw [Int.toNat_natCast, height_nat hq ha hb, Bool.eq_iff_iff, decide_eq_true_eq, Nat.beq_eq]
  omega
/-- the counts against the heights, at one place -/
noncomputable def chk (q a b : Nat) (three : Bool) : Bool :=
  Nat.beq (rN q a b 0) 1 && Nat.beq (rN q a b 0 + rN q a b 1 + rN q a b 2 + rN q a b 3) q &&
  Nat.beq (wN 0 q a b) 1 && Nat.beq (wN 1 q a b) (4 + rN q a b 1) && Nat.beq (wN 2 q a b) (10 + 4 * rN q a b 1 + rN q a b 2) &&
  Nat.beq (iN 0 q a b) 0 && Nat.beq (iN 1 q a b) (rN q a b 3) && Nat.beq (iN 2 q a b) (rN q a b 2 + 4 * rN q a b 3) &&
  (!three || (Nat.beq (wN 3 q a b) (20 + 10 * rN q a b 1 + 4 * rN q a b 2 + rN q a b 3) && Nat.beq (iN 3 q a b) (rN q a b 1 + 4 * rN q a b 2 + 10 * rN q a b 3)))
noncomputable def chkB (q a : Nat) (three : Bool) : Nat → Bool
  | 0 => true
  | n + 1 => chk q a n three && chkB q a three n
theorem chkB_at {q a b : Nat} {three : Bool} : ∀ {n : Nat}, chkB q a three n = true → b < n → chk q a b three = true
  | 0, _, h => absurd h (Nat.not_lt_zero _)
  | n + 1, h, hb => by
    have h := Bool.and_eq_true_iff.mp h
    rcases Nat.lt_succ_iff_lt_or_eq.mp hb with hb | rfl
    · exact chkB_at h.2 hb
    · exact h.1
theorem chk_2_0 : chkB 2 0 true 2 = true := by decide +kernel
theorem chk_2_1 : chkB 2 1 true 2 = true := by decide +kernel
theorem chk_3_0 : chkB 3 0 true 3 = true := by decide +kernel
theorem chk_3_1 : chkB 3 1 true 3 = true := by decide +kernel
theorem chk_3_2 : chkB 3 2 true 3 = true := by decide +kernel
theorem chk_4_0 : chkB 4 0 true 4 = true := by decide +kernel
theorem chk_4_1 : chkB 4 1 true 4 = true := by decide +kernel
theorem chk_4_2 : chkB 4 2 true 4 = true := by decide +kernel
theorem chk_4_3 : chkB 4 3 true 4 = true := by decide +kernel
theorem chk_5_0 : chkB 5 0 true 5 = true := by decide +kernel
theorem chk_5_1 : chkB 5 1 true 5 = true := by decide +kernel
theorem chk_5_2 : chkB 5 2 true 5 = true := by decide +kernel
theorem chk_5_3 : chkB 5 3 true 5 = true := by decide +kernel
theorem chk_5_4 : chkB 5 4 true 5 = true := by decide +kernel
theorem chk_6_0 : chkB 6 0 false 6 = true := by decide +kernel
theorem chk_6_1 : chkB 6 1 false 6 = true := by decide +kernel
theorem chk_6_2 : chkB 6 2 false 6 = true := by decide +kernel
theorem chk_6_3 : chkB 6 3 false 6 = true := by decide +kernel
theorem chk_6_4 : chkB 6 4 false 6 = true := by decide +kernel
theorem chk_6_5 : chkB 6 5 false 6 = true := by decide +kernel
theorem chk_7_0 : chkB 7 0 false 7 = true := by decide +kernel
theorem chk_7_1 : chkB 7 1 false 7 = true := by decide +kernel
theorem chk_7_2 : chkB 7 2 false 7 = true := by decide +kernel
theorem chk_7_3 : chkB 7 3 false 7 = true := by decide +kernel
theorem chk_7_4 : chkB 7 4 false 7 = true := by decide +kernel
theorem chk_7_5 : chkB 7 5 false 7 = true := by decide +kernel
theorem chk_7_6 : chkB 7 6 false 7 = true := by decide +kernel
theorem chk_8_0 : chkB 8 0 false 8 = true := by decide +kernel
theorem chk_8_1 : chkB 8 1 false 8 = true := by decide +kernel
theorem chk_8_2 : chkB 8 2 false 8 = true := by decide +kernel
theorem chk_8_3 : chkB 8 3 false 8 = true := by decide +kernel
theorem chk_8_4 : chkB 8 4 false 8 = true := by decide +kernel
theorem chk_8_5 : chkB 8 5 false 8 = true := by decide +kernel
theorem chk_8_6 : chkB 8 6 false 8 = true := by decide +kernel
theorem chk_8_7 : chkB 8 7 false 8 = true := by decide +kernel
theorem chk_9_0 : chkB 9 0 false 9 = true := by decide +kernel
theorem chk_9_1 : chkB 9 1 false 9 = true := by decide +kernel
theorem chk_9_2 : chkB 9 2 false 9 = true := by decide +kernel
theorem chk_9_3 : chkB 9 3 false 9 = true := by decide +kernel
theorem chk_9_4 : chkB 9 4 false 9 = true := by decide +kernel
theorem chk_9_5 : chkB 9 5 false 9 = true := by decide +kernel
theorem chk_9_6 : chkB 9 6 false 9 = true := by decide +kernel
theorem chk_9_7 : chkB 9 7 false 9 = true := by decide +kernel
theorem chk_9_8 : chkB 9 8 false 9 = true := by decide +kernel
theorem chk_q (q a : Nat) (h2 : 2 ≤ q) (h9 : q ≤ 9) (ha : a < q) : chkB q a (decide (q < 6)) q = true := by
  rcases (show q = 2 ∨ q = 3 ∨ q = 4 ∨ q = 5 ∨ q = 6 ∨ q = 7 ∨ q = 8 ∨ q = 9 by omega) with rfl | rfl | rfl | rfl | rfl | rfl | rfl | rfl
  · rcases (show a = 0 ∨ a = 1 by omega) with rfl | rfl
    · exact chk_2_0
    · exact chk_2_1
  · rcases (show a = 0 ∨ a = 1 ∨ a = 2 by omega) with rfl | rfl | rfl
    · exact chk_3_0
    · exact chk_3_1
    · exact chk_3_2
  · rcases (show a = 0 ∨ a = 1 ∨ a = 2 ∨ a = 3 by omega) with rfl | rfl | rfl | rfl
    · exact chk_4_0
    · exact chk_4_1
    · exact chk_4_2
    · exact chk_4_3
  · rcases (show a = 0 ∨ a = 1 ∨ a = 2 ∨ a = 3 ∨ a = 4 by omega) with rfl | rfl | rfl | rfl | rfl
    · exact chk_5_0
    · exact chk_5_1
    · exact chk_5_2
    · exact chk_5_3
    · exact chk_5_4
  · rcases (show a = 0 ∨ a = 1 ∨ a = 2 ∨ a = 3 ∨ a = 4 ∨ a = 5 by omega) with rfl | rfl | rfl | rfl | rfl | rfl
    · exact chk_6_0
    · exact chk_6_1
    · exact chk_6_2
    · exact chk_6_3
    · exact chk_6_4
    · exact chk_6_5
  · rcases (show a = 0 ∨ a = 1 ∨ a = 2 ∨ a = 3 ∨ a = 4 ∨ a = 5 ∨ a = 6 by omega) with rfl | rfl | rfl | rfl | rfl | rfl | rfl
    · exact chk_7_0
    · exact chk_7_1
    · exact chk_7_2
    · exact chk_7_3
    · exact chk_7_4
    · exact chk_7_5
    · exact chk_7_6
  · rcases (show a = 0 ∨ a = 1 ∨ a = 2 ∨ a = 3 ∨ a = 4 ∨ a = 5 ∨ a = 6 ∨ a = 7 by omega) with rfl | rfl | rfl | rfl | rfl | rfl | rfl | rfl
    · exact chk_8_0
    · exact chk_8_1
    · exact chk_8_2
    · exact chk_8_3
    · exact chk_8_4
    · exact chk_8_5
    · exact chk_8_6
    · exact chk_8_7
  · rcases (show a = 0 ∨ a = 1 ∨ a = 2 ∨ a = 3 ∨ a = 4 ∨ a = 5 ∨ a = 6 ∨ a = 7 ∨ a = 8 by omega) with rfl | rfl | rfl | rfl | rfl | rfl | rfl | rfl | rfl
    · exact chk_9_0
    · exact chk_9_1
    · exact chk_9_2
    · exact chk_9_3
    · exact chk_9_4
    · exact chk_9_5
    · exact chk_9_6
    · exact chk_9_7
    · exact chk_9_8
/-- the counts by the heights -/
theorem coef {q a b : Int} (h2 : 2 ≤ q) (h9 : q ≤ 9) (ha0 : 0 ≤ a) (ha1 : a < q) (hb0 : 0 ≤ b) (hb1 : b < q) : rowG q a b 0 = 1 ∧ rowG q a b 0 + rowG q a b 1 + rowG q a b 2 + rowG q a b 3 = q ∧
    wholeN 0 q a b = 1 ∧ wholeN 1 q a b = 4 + rowG q a b 1 ∧ wholeN 2 q a b = 10 + 4 * rowG q a b 1 + rowG q a b 2 ∧ innerN 0 q a b = 0 ∧ innerN 1 q a b = rowG q a b 3 ∧ innerN 2 q a b = rowG q a b 2 + 4 * rowG q a b 3 ∧
    (q < 6 → wholeN 3 q a b = 20 + 10 * rowG q a b 1 + 4 * rowG q a b 2 + rowG q a b 3 ∧ innerN 3 q a b = rowG q a b 1 + 4 * rowG q a b 2 + 10 * rowG q a b 3) := by
  obtain ⟨qn, rfl⟩ := Int.eq_ofNat_of_zero_le (show 0 ≤ q by omega)
  obtain ⟨an, rfl⟩ := Int.eq_ofNat_of_zero_le ha0
  obtain ⟨bn, rfl⟩ := Int.eq_ofNat_of_zero_le hb0
  have h := chkB_at (b := bn) (chk_q qn an (by omega) (by omega) (by omega)) (by omega)
  unfold chk at h
  simp only [Bool.and_eq_true, Nat.beq_eq, Bool.or_eq_true, Bool.not_eq_true', decide_eq_false_iff_not] at h
  obtain ⟨⟨⟨⟨⟨⟨⟨⟨e1, e2⟩, e3⟩, e4⟩, e5⟩, e6⟩, e7⟩, e8⟩, e9⟩ := h
  have R := fun k => row_nat (q := qn) (a := an) (b := bn) k (by omega) (by omega) (by omega)
  have W := fun t : Nat => whole_nat t qn an bn
  have I := fun t : Nat => inner_nat t qn an bn
  rw [R 0, R 1, R 2, R 3]
  refine ⟨by omega, by omega, ?_, ?_, ?_, ?_, ?_, ?_, fun hq => ?_⟩
  · rw [show ((0 : Int)) = ((0 : Nat) : Int) from rfl, W]; omega
  · rw [show wholeN 1 qn an bn = wN 1 qn an bn from W 1]; omega
  · rw [show wholeN 2 qn an bn = wN 2 qn an bn from W 2]; omega
  · rw [show innerN 0 qn an bn = iN 0 qn an bn from I 0]; omega
  · rw [show innerN 1 qn an bn = iN 1 qn an bn from I 1]; omega
  · rw [show innerN 2 qn an bn = iN 2 qn an bn from I 2]; omega
  · rw [show wholeN 3 qn an bn = wN 3 qn an bn from W 3, show innerN 3 qn an bn = iN 3 qn an bn from I 3]
    have e9 := e9.elim (fun n => absurd (by omega) n) fun y => y
    omega
theorem shl_pow {wd : Int} {m : Nat} (h : 0 ≤ wd) : (2 : Int) ^ (wd * (m : Int)).toNat = (2 ^ wd.toNat) ^ m := by
  obtain ⟨k, rfl⟩ := Int.eq_ofNat_of_zero_le h
  rw [← Int.pow_mul, ← Int.natCast_mul, Int.toNat_natCast, Int.toNat_natCast]
theorem big {wd : Int} (hw0 : 8 ≤ wd) : (256 : Int) ≤ 2 ^ wd.toNat := by
  have h : (2 : Int) ^ 8 ≤ 2 ^ wd.toNat := two_pow_le (by omega)
  exact h
theorem rowG_nonneg (q a b : Int) (k : Nat) : 0 ≤ rowG q a b k := (cntI_bounds _ _).1
theorem small_in {h0 h1 h2 h3 : Int} (p0 : 0 ≤ h0) (p1 : 0 ≤ h1) (p2 : 0 ≤ h2) (p3 : 0 ≤ h3) (hs : h0 + h1 + h2 + h3 ≤ 9) : KBa.In [h0, h1, h2, h3] := by
  intro n hn
  simp only [List.mem_cons, List.not_mem_nil, or_false] at hn
  omega
theorem dig_all {B : Int} (hB : 256 ≤ B) {l : List Int} (h : ∀ x ∈ l, 0 ≤ x ∧ x < 256) : ∀ x ∈ l, 0 ≤ x ∧ x < B := fun x hx => ⟨(h x hx).1, by have := (h x hx).2; omega⟩
theorem dsum_pos {B : Int} {l : List Int} (hB : 0 < B) (h : ∀ x ∈ l, 0 ≤ x ∧ x < B) (hp : 0 < l.sum) : 0 < dsum B l := by
  induction l with
  | nil => simp at hp
  | cons x r ih =>
    have hx := h x (.head _)
    have hr := fun y hy => h y (.tail _ hy)
    have hn := (dsum_nonneg hB r hr).1
    show 0 < x + B * dsum B r
    by_cases h0 : 0 < x
    · have := Int.mul_nonneg (Int.le_of_lt hB) hn; omega
    · have hx0 : x = 0 := by omega
      have := ih hr (by rw [List.sum_cons, hx0] at hp; omega)
      have := Int.mul_pos hB this
      omega
theorem plain_whole {T sz ac al wd : Int} (hs0 : 2 ≤ sz) (hs1 : sz ≤ 9) (hT : sz < 6 ∧ T = 3 ∨ 6 ≤ sz ∧ T = 2) (ha0 : 0 ≤ ac) (ha1 : ac < sz) (hb0 : 0 ≤ al) (hb1 : al < sz) (hw0 : 8 ≤ wd) (hw1 : wd ≤ 64) :
    FigOk [rowG sz ac al 3, rowG sz ac al 2, rowG sz ac al 1, rowG sz ac al 0] wd (T + 1) (T + 1) ((List.range (T + 1).toNat).map fun k : Nat => wholeN (T + (k : Int) * -1) sz ac al) := by
  obtain ⟨r0, rs, w0, w1, w2, i0, i1, i2, r3⟩ := coef hs0 hs1 ha0 ha1 hb0 hb1
  have p1 := rowG_nonneg sz ac al 1
  have p2 := rowG_nonneg sz ac al 2
  have p3 := rowG_nonneg sz ac al 3
  have hB := big hw0
  rw [r0] at rs ⊢
  generalize rowG sz ac al 1 = h1 at *
  generalize rowG sz ac al 2 = h2 at *
  generalize rowG sz ac al 3 = h3 at *
  have hin : KBa.In [h3, h2, h1, 1] := small_in p3 p2 p1 (by decide) (by omega)
  have hpos : 0 < dsum (2 ^ wd.toNat) [h3, h2, h1, 1] := dsum_pos (by omega) (dig_all hB hin) (by simp; omega)
  rcases hT with ⟨hq, rfl⟩ | ⟨hq, rfl⟩
  · obtain ⟨w3, i3⟩ := r3 hq
    have e : (List.range ((3 : Int) + 1).toNat).map (fun k : Nat => wholeN (3 + (k : Int) * -1) sz ac al) = [wholeN 3 sz ac al, wholeN 2 sz ac al, wholeN 1 sz ac al, wholeN 0 sz ac al] := rfl
    rw [e, w0, w1, w2, w3]
    have hd : ∀ x ∈ [20 + 10 * h1 + 4 * h2 + h3, 10 + 4 * h1 + h2, 4 + h1, 1], 0 ≤ x ∧ x < 256 := by
      intro x hx; simp only [List.mem_cons, List.not_mem_nil, or_false] at hx; omega
    obtain ⟨q1, q2⟩ := rest_ok (c3 := 35 + 20 * h1 + 10 * h2 + 4 * h3) (c2 := 84 + 45 * h1 + 20 * h2 + 6 * h3) (c1 := 70 + 36 * h1 + 15 * h2 + 4 * h3) (c0 := 20 + 10 * h1 + 4 * h2 + h3) hB (by omega) (by omega) (by omega) (by omega) (by omega) (by omega) (by omega) (by omega)
    refine fig_ok (R := _) hw0 hw1 hin rfl (dig_all hB hin) hpos (by decide) (by decide) (dig_all hB hd) rfl (by decide) ?_ q1 q2
    rw [show ((3 : Int) + 1) = ((4 : Nat) : Int) from rfl, shl_pow (by omega)]
    exact alg_w3 _ h1 h2 h3
  · have e : (List.range ((2 : Int) + 1).toNat).map (fun k : Nat => wholeN (2 + (k : Int) * -1) sz ac al) = [wholeN 2 sz ac al, wholeN 1 sz ac al, wholeN 0 sz ac al] := rfl
    rw [e, w0, w1, w2]
    have hd : ∀ x ∈ [10 + 4 * h1 + h2, 4 + h1, 1], 0 ≤ x ∧ x < 256 := by
      intro x hx; simp only [List.mem_cons, List.not_mem_nil, or_false] at hx; omega
    obtain ⟨q1, q2⟩ := rest_ok (c3 := 20 + 10 * h1 + 4 * h2 + h3) (c2 := 45 + 20 * h1 + 6 * h2) (c1 := 36 + 15 * h1 + 4 * h2) (c0 := 10 + 4 * h1 + h2) hB (by omega) (by omega) (by omega) (by omega) (by omega) (by omega) (by omega) (by omega)
    refine fig_ok (R := _) hw0 hw1 hin rfl (dig_all hB hin) hpos (by decide) (by decide) (dig_all hB hd) rfl (by decide) ?_ q1 q2
    rw [show ((2 : Int) + 1) = ((3 : Nat) : Int) from rfl, shl_pow (by omega)]
    exact alg_w2 _ h1 h2 h3
theorem plain_inner {T sz ac al wd : Int} (hs0 : 2 ≤ sz) (hs1 : sz ≤ 9) (hT : sz < 6 ∧ T = 3 ∨ 6 ≤ sz ∧ T = 2) (ha0 : 0 ≤ ac) (ha1 : ac < sz) (hb0 : 0 ≤ al) (hb1 : al < sz) (hw0 : 8 ≤ wd) (hw1 : wd ≤ 64) :
    FigOk [rowG sz ac al 0, rowG sz ac al 1, rowG sz ac al 2, rowG sz ac al 3] wd T (T + 1) ((List.range (T + 1).toNat).map fun k : Nat => innerN (T + (k : Int) * -1) sz ac al) := by
  obtain ⟨r0, rs, w0, w1, w2, i0, i1, i2, r3⟩ := coef hs0 hs1 ha0 ha1 hb0 hb1
  have p1 := rowG_nonneg sz ac al 1
  have p2 := rowG_nonneg sz ac al 2
  have p3 := rowG_nonneg sz ac al 3
  have hB := big hw0
  rw [r0] at rs ⊢
  generalize rowG sz ac al 1 = h1 at *
  generalize rowG sz ac al 2 = h2 at *
  generalize rowG sz ac al 3 = h3 at *
  have hin : KBa.In [1, h1, h2, h3] := small_in (by decide) p1 p2 p3 (by omega)
  have hpos : 0 < dsum (2 ^ wd.toNat) [1, h1, h2, h3] := dsum_pos (by omega) (dig_all hB hin) (by simp; omega)
  rcases hT with ⟨hq, rfl⟩ | ⟨hq, rfl⟩
  · obtain ⟨w3, i3⟩ := r3 hq
    have e : (List.range ((3 : Int) + 1).toNat).map (fun k : Nat => innerN (3 + (k : Int) * -1) sz ac al) = [innerN 3 sz ac al, innerN 2 sz ac al, innerN 1 sz ac al, innerN 0 sz ac al] := rfl
    rw [e, i0, i1, i2, i3]
    have hd : ∀ x ∈ [h1 + 4 * h2 + 10 * h3, h2 + 4 * h3, h3, 0], 0 ≤ x ∧ x < 256 := by
      intro x hx; simp only [List.mem_cons, List.not_mem_nil, or_false] at hx; omega
    obtain ⟨q1, q2⟩ := rest_ok (c3 := 1 + 4 * h1 + 10 * h2 + 20 * h3) (c2 := 6 * h1 + 20 * h2 + 45 * h3) (c1 := 4 * h1 + 15 * h2 + 36 * h3) (c0 := h1 + 4 * h2 + 10 * h3) hB (by omega) (by omega) (by omega) (by omega) (by omega) (by omega) (by omega) (by omega)
    refine fig_ok (R := _) hw0 hw1 hin rfl (dig_all hB hin) hpos (by decide) (by decide) (dig_all hB hd) rfl (by decide) ?_ q1 q2
    rw [show (3 : Int) = ((3 : Nat) : Int) from rfl, shl_pow (by omega)]
    exact alg_i3 _ h1 h2 h3
  · have e : (List.range ((2 : Int) + 1).toNat).map (fun k : Nat => innerN (2 + (k : Int) * -1) sz ac al) = [innerN 2 sz ac al, innerN 1 sz ac al, innerN 0 sz ac al] := rfl
    rw [e, i0, i1, i2]
    have hd : ∀ x ∈ [h2 + 4 * h3, h3, 0], 0 ≤ x ∧ x < 256 := by
      intro x hx; simp only [List.mem_cons, List.not_mem_nil, or_false] at hx; omega
    obtain ⟨q1, q2⟩ := rest_ok (c3 := h1 + 4 * h2 + 10 * h3) (c2 := 6 * h2 + 20 * h3 - 1) (c1 := 4 * h2 + 15 * h3) (c0 := h2 + 4 * h3) hB (by omega) (by omega) (by omega) (by omega) (by omega) (by omega) (by omega) (by omega)
    refine fig_ok (R := _) hw0 hw1 hin rfl (dig_all hB hin) hpos (by decide) (by decide) (dig_all hB hd) rfl (by decide) ?_ q1 q2
    have ee : (2 : Int) ^ (wd * 2).toNat = (2 ^ wd.toNat) ^ 2 := shl_pow (m := 2) (by omega)
    rw [ee]
    exact alg_i2 _ h1 h2 h3
end
def Then (I : Shared → Prop) (f : Flow) (s' : Shared) : Prop := f = .next ∧ I s'
theorem seqG {M : Model} {A : Around} {env : Env} {s1 : Stmt} {rest : List Stmt} {Q : Flow → Shared → Prop} {E : Value → Shared → Prop} {s : Shared} (I : Shared → Prop) (h1 : wpAny M A (exec s1 env) (Then I) E s) (h2 : ∀ s', I s' → wpG M A (execs rest env) Q E s') : wpG M A (execs (s1 :: rest) env) Q E s :=
  wpG_cons (wpAny_mono h1 (fun f s' x => by obtain ⟨rfl, x⟩ := x; exact h2 s' x) fun _ _ x => x)
theorem news_c {g h : Heap} {L : Addr} {x : Addr × Obj} {xs : List (Addr × Obj)} (hx : h.get? x.1 = some x.2 ∧ x.1 ≠ L ∧ g.get? x.1 = none) (r : News g L h xs) : News g L h (x :: xs) := fun q hq => by
  rcases List.mem_cons.mp hq with rfl | hq
  · exact hx
  · exact r q hq
theorem ne_list {g h : Heap} {L D a : Addr} {o : Obj} {vs : Array Value} {nn : Nat} {l : List (Addr × Obj)} (N : News g L h ((D, listOf vs nn) :: l)) (ha : (a, o) ∈ l) (hd : ∀ its n, o.data ≠ .seq its n) : a ≠ D := by
  rintro rfl
  have h1 := (N _ (.head _)).1
  have h2 := (N _ (.tail _ ha)).1
  rw [h1] at h2
  injection h2 with e
  subst e
  exact hd vs nn rfl
theorem size_facts (x : Int) : 2 ≤ 2 + x.fmod 8 ∧ 2 + x.fmod 8 ≤ 9 := by
  have h1 := Int.fmod_nonneg_of_pos x (b := 8) (by decide)
  have h2 := Int.fmod_lt_of_pos x (b := 8) (by decide)
  omega
theorem width_facts (x : Int) : 8 ≤ 8 + x.fmod 57 ∧ 8 + x.fmod 57 ≤ 64 := by
  have h1 := Int.fmod_nonneg_of_pos x (b := 57) (by decide)
  have h2 := Int.fmod_lt_of_pos x (b := 57) (by decide)
  omega
theorem mod_nonneg (x : Int) {y : Int} (h : 0 < y) : 0 ≤ x.fmod y := Int.fmod_nonneg_of_pos x h
theorem mod_lt (x : Int) {y : Int} (h : 0 < y) : x.fmod y < y := Int.fmod_lt_of_pos x h
structure CompMark : Prop where
theorem compMark : CompMark := ⟨⟩
theorem asgN {M : Model} {A : Around} {E : Value → Shared → Prop} {s : Shared} {env : Env} {x pos' value pos} {Q : Flow → Shared → Prop}
    (h : wpAny M A (eval value env) (fun v s₁ => wpAny M A (storeName env x v) (fun _ => Q .next) E s₁) E s)
    (hs : swapsWith value (some (.Name x pos')) pos.line env = pure false := by rfl) :
    wpAny M A (exec (.Assign [.Name x pos'] value pos) env) Q E s := fun Γ p hΓ => by
  simp only [exec_Assign_Name env x pos' value pos hs, Sem.wp_bind', Sem.wp_cmd_standAt, Sem.wp_bindName, Sem.wp_pure']
  exact Sem.wp_mono M Γ _ (fun v _ s₁ h₁ => h₁ Γ _ hΓ) (fun _ _ _ h' => h') _ _ (h Γ _ hΓ)
inductive CJ (T sz ac al : Int) (i : Nat) (ys : List Value) (made : List (Addr × Obj)) : Prop
  | mk (len : ys.length = i) (at_ : ∀ (k : Nat) v, ys[k]? = some v → ∃ x t5 t6, v = .ref x ∧ (x, tup2 (.int (wholeN (T + (k : Int) * -1) sz ac al) t5) (.int (innerN (T + (k : Int) * -1) sz ac al) t6)) ∈ made)
     (all : ∀ p ∈ made, ∃ a b, p.2 = tup2 a b) : CJ T sz ac al i ys made
theorem CJ.zero {T sz ac al : Int} : CJ T sz ac al 0 [] [] := ⟨rfl, (fun k v h => nomatch h), fun _ h => nomatch h⟩
theorem CJ.step {T sz ac al : Int} {i : Nat} {ys : List Value} {made : List (Addr × Obj)} {x : Addr} {t5 t6 : Tok} (h : CJ T sz ac al i ys made) :
    CJ T sz ac al (i + 1) (ys ++ [.ref x]) ((x, tup2 (.int (wholeN (T + (i : Int) * -1) sz ac al) t5) (.int (innerN (T + (i : Int) * -1) sz ac al) t6)) :: made) := by
  obtain ⟨rfl, h2, h3⟩ := h
  refine ⟨by rw [List.length_append]; rfl, fun k v hv => ?_, fun p hp => (List.mem_cons.mp hp).elim (fun e => by subst e; exact ⟨_, _, rfl⟩) (h3 p)⟩
  by_cases hk : k < ys.length
  · rw [List.getElem?_append_left hk] at hv
    obtain ⟨y, a, b, e, hm⟩ := h2 k v hv
    exact ⟨y, a, b, e, .tail _ hm⟩
  · by_cases hk2 : k = ys.length
    · subst hk2
      rw [List.getElem?_append_right (Nat.le_refl _), Nat.sub_self] at hv
      cases hv
      exact ⟨x, t5, t6, rfl, .head _⟩
    · rw [List.getElem?_eq_none (by rw [List.length_append]; simp; omega)] at hv
      cases hv
theorem news_made {g h : Heap} {L : Addr} {a b c q : Addr × Obj} {news made : List (Addr × Obj)} (N : News g L h (q :: a :: b :: c :: (news ++ made))) : News g L h ([a, b, c] ++ (news ++ q :: made)) := fun p hp => N p (by
  simp only [List.mem_append, List.mem_cons, List.not_mem_nil, or_false] at hp ⊢
  rcases hp with (h | h | h) | h | h | h <;> simp [h])
theorem hg_law {g h : Heap} {L : Addr} {news : List (Addr × Obj)} (N : News g L h ((30, tabObj #[]) :: (37, tabObj #[]) :: news)) (hd : ∀ q ∈ news, ∀ ps, q.2.data ≠ .fields ps) : ∀ q ∈ news, q.1 ≠ 30 ∧ q.1 ≠ 37 := by
  intro q hq
  have z := (N q (.tail _ (.tail _ hq))).1
  refine ⟨fun e => ?_, fun e => ?_⟩
  · have y := (N _ (.head _)).1
    rw [e, y] at z
    injection z with z
    exact hd q hq #[] (by rw [← z])
  · have y := (N _ (.tail _ (.head _))).1
    rw [e, y] at z
    injection z with z
    exact hd q hq #[] (by rw [← z])
theorem no_fields {D a b c : Addr} {oa ob oc : Obj} {ys : List Value} {x y z : Option Value} {made : List (Addr × Obj)} (ha : oa.data = .cell x) (hb : ob.data = .cell y) (hc : oc.data = .cell z)
    (hm : ∀ p ∈ made, ∃ a b, p.2 = tup2 a b) : ∀ q ∈ (D, LCg.lst ys) :: (a, oa) :: (b, ob) :: (c, oc) :: made, ∀ ps, q.2.data ≠ .fields ps := by
  intro q hq ps e
  cases hq with
  | head => cases e
  | tail _ hq => cases hq with
    | head => rw [ha] at e; cases e
    | tail _ hq => cases hq with
      | head => rw [hb] at e; cases e
      | tail _ hq => cases hq with
        | head => rw [hc] at e; cases e
        | tail _ hq => obtain ⟨u, v, e2⟩ := hm q hq; rw [e2] at e; cases e
theorem led_ten {g h : Heap} {L : Addr} {x0 x1 x2 x3 x4 x5 : Addr × Obj} {made : List (Addr × Obj)} (N : News g L h (x0 :: x1 :: x2 :: x3 :: x4 :: x5 :: made)) : News g L h (x5 :: x4 :: x0 :: x1 :: x2 :: x3 :: made) := fun q hq => N q (by
  simp only [List.mem_cons] at hq ⊢
  rcases hq with h | h | h | h | h | h | h <;> simp [h])
/-- what holds behind the law's statements -/
inductive Inv1 (s₁ : Shared) (G : Heap) (Z : Addr) (co ci cs : Obj) (m₀ : Str → Option Value) (s' : Shared) : Prop
  | mk (c0 c1 c2 : Int) (t0 t1 t2 : Tok) (D : Addr) (dv : Option Value) (h : Heap) (tk : Tok) (nn : Nat) (h0 : 0 ≤ c0) (h1 : 0 ≤ c1) (h2 : 0 ≤ c2) (e : s' = { s₁ with heap := h, toks := tk })
     (F : Fr G Z h (fun z => if z = Str.ofString "cells" then some (.ref D) else if z = Str.ofString "drawn" then dv else m₀ z))
     (N : News G Z h ((D, listOf #[.int c0 t0, .int c1 t1, .int c2 t2] nn) :: [(Z + 1 + 1 + 1, co), (Z + 1 + 1, ci), (Z + 1, cs), (37, tabObj #[]), (30, tabObj #[])])) : Inv1 s₁ G Z co ci cs m₀ s'
inductive Inv2 (s₁ : Shared) (G : Heap) (Z : Addr) (co ci : Obj) (s' : Shared) : Prop
  | mk (sz wd c0 c1 c2 : Int) (t0 t1 t2 : Tok) (D : Addr) (mm : Str → Option Value) (nn : Nat) (tS tw : Tok) (oS : Obj) (h : Heap) (tk : Tok) (b : 2 ≤ sz ∧ sz ≤ 9 ∧ 8 ≤ wd ∧ wd ≤ 64) (d : oS.data = .cell (some (.int sz tS))) (e : s' = { s₁ with heap := h, toks := tk })
     (F : Fr G Z h (fun z => if z = Str.ofString "width" then some (.int wd tw) else if z = Str.ofString "cells" then some (.ref D) else mm z))
     (N : News G Z h ((D, listOf #[.int c0 t0, .int c1 t1, .int c2 t2] nn) :: [(Z + 1 + 1 + 1, co), (Z + 1 + 1, ci), (Z + 1, oS), (37, tabObj #[]), (30, tabObj #[])])) : Inv2 s₁ G Z co ci s'
def Small (sz wd ac al : Int) : Prop := 2 ≤ sz ∧ sz ≤ 9 ∧ 8 ≤ wd ∧ wd ≤ 64 ∧ 0 ≤ ac ∧ ac < sz ∧ 0 ≤ al ∧ al < sz
inductive Inv3 (s₁ : Shared) (G : Heap) (Z : Addr) (s' : Shared) : Prop
  | mk (sz wd ac al : Int) (mm : Str → Option Value) (tS tA tL tw : Tok) (oS oA oL : Obj) (h : Heap) (tk : Tok) (b : Small sz wd ac al) (d : oS.data = .cell (some (.int sz tS)) ∧ oA.data = .cell (some (.int ac tA)) ∧ oL.data = .cell (some (.int al tL))) (e : s' = { s₁ with heap := h, toks := tk })
     (F : Fr G Z h (fun z => if z = Str.ofString "width" then some (.int wd tw) else mm z))
     (N : News G Z h [(Z + 1 + 1 + 1, oL), (Z + 1 + 1, oA), (Z + 1, oS), (37, tabObj #[]), (30, tabObj #[])]) : Inv3 s₁ G Z s'
inductive Inv4 (s₁ : Shared) (G : Heap) (Z : Addr) (s' : Shared) : Prop
  | mk (sz wd ac al T : Int) (mm : Str → Option Value) (tS tA tL tw tt : Tok) (oS oA oL : Obj) (h : Heap) (tk : Tok) (b : Small sz wd ac al) (b2 : sz < 6 ∧ T = 3 ∨ 6 ≤ sz ∧ T = 2) (d : oS.data = .cell (some (.int sz tS)) ∧ oA.data = .cell (some (.int ac tA)) ∧ oL.data = .cell (some (.int al tL))) (e : s' = { s₁ with heap := h, toks := tk })
     (F : Fr G Z h (fun z => if z = Str.ofString "top" then some (.int T tt) else if z = Str.ofString "width" then some (.int wd tw) else mm z))
     (N : News G Z h [(Z + 1 + 1 + 1, oL), (Z + 1 + 1, oA), (Z + 1, oS), (37, tabObj #[]), (30, tabObj #[])]) : Inv4 s₁ G Z s'
theorem in_rev {a b c d : Int} (h : KBa.In [a, b, c, d]) : KBa.In [d, c, b, a] := fun n hn => h n (by simp only [List.mem_cons, List.not_mem_nil, or_false] at hn ⊢; rcases hn with h | h | h | h <;> simp [h])
theorem fr_split {g h : Heap} {L : Addr} {x : Str} {v : Option Value} {m₀ : Str → Option Value} (F : Fr g L h (fun z => if z = x then v else m₀ z)) : ∃ m, m = m₀ ∧ Fr g L h (fun z => if z = x then v else m z) := ⟨_, rfl, F⟩
theorem grown_law {g h : Heap} {L : Addr} {l nw tI tD rest : List (Addr × Obj)} (N : News g L h l) (hs : ∀ q ∈ nw, q ∈ l) (hnw : nw = tI ++ (tD ++ rest)) (hI : TabI tI) (hD : TabD tD) : GrownAll [(41, 37), (34, 30)] h := by
  have a : GrownAt 30 h := by
    cases hI with
    | none => exact ⟨_, (N _ (hs _ (by rw [hnw]; exact .head _))).1⟩
    | one _ _ _ => exact ⟨_, (N _ (hs _ (by rw [hnw]; exact .head _))).1⟩
  have b : GrownAt 37 h := by
    cases hD with
    | none => exact ⟨_, (N _ (hs _ (by rw [hnw]; exact List.mem_append_right _ (.head _)))).1⟩
    | one _ _ _ => exact ⟨_, (N _ (hs _ (by rw [hnw]; exact List.mem_append_right _ (.head _)))).1⟩
  exact ⟨b, a, trivial⟩
theorem t_small {sz T : Int} (h : sz < 6 ∧ T = 3 ∨ 6 ≤ sz ∧ T = 2) : Builtin.Range.small T (-1) (-1) = true := by rcases h with ⟨_, rfl⟩ | ⟨_, rfl⟩ <;> decide
theorem t_size {sz T : Int} (h : sz < 6 ∧ T = 3 ∨ 6 ≤ sz ∧ T = 2) : Builtin.Range.rangeSize T (-1) (-1) = (((T + 1).toNat : Nat) : Int) := by rcases h with ⟨_, rfl⟩ | ⟨_, rfl⟩ <;> decide
theorem t_line {sz T : Int} (h : sz < 6 ∧ T = 3 ∨ 6 ≤ sz ∧ T = 2) : (T + 1).toNat ≤ sizeLine := by rw [sizeLine_eq]; rcases h with ⟨_, rfl⟩ | ⟨_, rfl⟩ <;> decide
theorem t_len {sz T : Int} {ys : List Value} (h : sz < 6 ∧ T = 3 ∨ 6 ≤ sz ∧ T = 2) (hy : ys.length = (T + 1).toNat) : ys.length ≤ sizeLine := hy ▸ t_line h
theorem t_at {sz T : Int} {i : Nat} (h : sz < 6 ∧ T = 3 ∨ 6 ≤ sz ∧ T = 2) (hi : i < (T + 1).toNat) : 0 ≤ T + (i : Int) * -1 ∧ T + (i : Int) * -1 ≤ 3 := by omega
theorem t_st {sz T : Int} (h : sz < 6 ∧ T = 3 ∨ 6 ≤ sz ∧ T = 2) : 0 ≤ T + 1 ∧ T + 1 ≤ 4 ∧ 0 ≤ T ∧ T ≤ 4 := by omega
theorem drawn_abs {ys : List Value} {ns : List Int} (h : IntsAre ys ((ns.take 3).map fun k => k.fmod (10 ^ Int.toNat 6))) : ∃ zs : List Int, zs.length ≤ 3 ∧ (∀ z ∈ zs, 0 ≤ z) ∧ IntsAre ys zs := by
  refine ⟨_, by rw [List.length_map, List.length_take]; omega, fun z hz => ?_, h⟩
  obtain ⟨k, _, rfl⟩ := List.mem_map.mp hz
  exact Int.fmod_nonneg_of_pos _ (by decide)
set_option rowWalk.seconds 0 in
theorem lawWalk : PySem.Challenge.rw_we0013_01.Holds := by
  w_top off
  refine hd ?_
  k_fill
  intro w s₀ s₁ mg mb G Y fa o pm cd doc dV kV ho hd hcd hD hmg hg args vals as hpre hlay hrd hwl hlo
  have KX := km_in_of Y
  km_tabs Y
  have X := (Ground.X G).1
  have V := (Ground.X G).2
  refine Ground.open G ?_
  intro T B D TE TW
  try (refine guard_noD D (by decide +kernel) ?_; clear D)
  km_lay T hmg ho hd cd
  clear hmg
  wrow_args hpre hlay hrd hwl hlo
  refine wpAny_runG ?_ ?_
  · refine enterG ?_
    w_top on
    refine kn_postG hT9 (fun _ _ => rfl) ?_
    have he := Dflts.none hD rfl
    subst he
    have he := Dflts.noKw hD
    subst he
    refine callG_cells (by decide) ho (fd_plain hd) (Top.nolimit T) hcd rfl (kinds_of (by kinds_ok)) (by decide) fun h₁ tk₁ cells F N0 X0 => ?_
    cells_open X0
    rename_i co ci cs hco hci hcs
    clear hd
    kn_ghosts F T
    k_drop
    (all_goals try k_fold)
    k_with_none
    k_with "call ref" => refine to_stop ?_
    k_with "GrownAll" => refine to_stop ?_
    k_with "exec Assign cons ListComp" => ((rename CompMark => cm9); refine to_stop ?_)
    rename IntsAre _ _ => hI
    refine wpG_cons ?_
    k_steps
    rename News _ _ _ _ => N5
    rename Fr _ _ _ _ => F5
    rename IntsAre _ (List.map _ _) => hI8
    obtain ⟨m₀, hm₀, F5⟩ := fr_split F5
    clear hm₀
    obtain ⟨zs, hz3, hz0, hI8⟩ := drawn_abs hI8
    refine seqG (Inv1 s₁ (ghostOf s₁.heap [(41, 37), (34, 30)]) s₁.heap.objs.size co ci cs m₀) ?h1 ?h2
    case h1 =>
      rcases zs with _ | ⟨z0, zs⟩
      · cases hI8
        k_steps
        rename News _ _ _ _ => N6
        rename Fr _ _ _ _ => F6
        refine ⟨rfl, _, _, _, _, _, _, _, _, _, _, _, ?_, ?_, ?_, rfl, F6, news_c (N6 _ (.head _)) (news_c (N6 _ (by k_mem)) (news_c (N6 _ (by k_mem)) (news_c (N6 _ (by k_mem)) (news_c (N6 _ (by k_mem)) (news_c (N6 _ (by k_mem)) .nil)))))⟩
        all_goals first | decide | exact hz0 _ (.head _) | exact hz0 _ (.tail _ (.head _)) | exact hz0 _ (.tail _ (.tail _ (.head _)))
      · rcases zs with _ | ⟨z1, zs⟩
        · cases hI8 with
          | cons n u0 hI8 =>
            cases hI8
            k_steps
            rename News _ _ _ _ => N6
            rename Fr _ _ _ _ => F6
            refine ⟨rfl, _, _, _, _, _, _, _, _, _, _, _, ?_, ?_, ?_, rfl, F6, news_c (N6 _ (.head _)) (news_c (N6 _ (by k_mem)) (news_c (N6 _ (by k_mem)) (news_c (N6 _ (by k_mem)) (news_c (N6 _ (by k_mem)) (news_c (N6 _ (by k_mem)) .nil)))))⟩
            all_goals first | decide | exact hz0 _ (.head _) | exact hz0 _ (.tail _ (.head _)) | exact hz0 _ (.tail _ (.tail _ (.head _)))
        · rcases zs with _ | ⟨z2, zs⟩
          · cases hI8 with
            | cons n u0 hI8 =>
              cases hI8 with
              | cons n u1 hI8 =>
                cases hI8
                k_steps
                rename News _ _ _ _ => N6
                rename Fr _ _ _ _ => F6
                refine ⟨rfl, _, _, _, _, _, _, _, _, _, _, _, ?_, ?_, ?_, rfl, F6, news_c (N6 _ (.head _)) (news_c (N6 _ (by k_mem)) (news_c (N6 _ (by k_mem)) (news_c (N6 _ (by k_mem)) (news_c (N6 _ (by k_mem)) (news_c (N6 _ (by k_mem)) .nil)))))⟩
                all_goals first | decide | exact hz0 _ (.head _) | exact hz0 _ (.tail _ (.head _)) | exact hz0 _ (.tail _ (.tail _ (.head _)))
          · rcases zs with _ | ⟨z3, zs⟩
            · cases hI8 with
              | cons n u0 hI8 =>
                cases hI8 with
                | cons n u1 hI8 =>
                  cases hI8 with
                  | cons n u2 hI8 =>
                    cases hI8
                    k_steps
                    rename News _ _ _ _ => N6
                    rename Fr _ _ _ _ => F6
                    refine ⟨rfl, _, _, _, _, _, _, _, _, _, _, _, ?_, ?_, ?_, rfl, F6, news_c (N6 _ (.head _)) (news_c (N6 _ (by k_mem)) (news_c (N6 _ (by k_mem)) (news_c (N6 _ (by k_mem)) (news_c (N6 _ (by k_mem)) (news_c (N6 _ (by k_mem)) .nil)))))⟩
                    all_goals first | decide | exact hz0 _ (.head _) | exact hz0 _ (.tail _ (.head _)) | exact hz0 _ (.tail _ (.tail _ (.head _)))
            · simp at hz3
    case h2 =>
      rintro s' ⟨c0, c1, c2, t0, t1, t2, D, dv, h, tk, nn, hc0, hc1, hc2, rfl, F6, N6⟩
      clear F5 N5
      have o1 : s₁.heap.objs.size + 1 + 1 + 1 ≠ D ∧ s₁.heap.objs.size + 1 + 1 ≠ D ∧ s₁.heap.objs.size + 1 ≠ D ∧ 37 ≠ D ∧ 30 ≠ D :=
        ⟨ne_list N6 (by k_mem) (by rw [hco]; exact fun _ _ e => nomatch e), ne_list N6 (by k_mem) (by rw [hci]; exact fun _ _ e => nomatch e), ne_list N6 (by k_mem) (by rw [hcs]; exact fun _ _ e => nomatch e), ne_list (o := tabObj #[]) N6 (by k_mem) (fun _ _ e => nomatch e), ne_list (o := tabObj #[]) N6 (by k_mem) (fun _ _ e => nomatch e)⟩
      refine seqG (Inv2 s₁ (ghostOf s₁.heap [(41, 37), (34, 30)]) s₁.heap.objs.size co ci) ?p3 ?q3
      case p3 =>
        k_steps
        rename News _ _ _ _ => N7
        rename Fr _ _ _ _ => F7
        refine ⟨rfl, _, _, _, _, _, _, _, _, _, _, _, _, _, _, _, _, ⟨(size_facts _).1, (size_facts _).2, (width_facts _).1, (width_facts _).2⟩, by assumption, rfl, F7, news_tail N7⟩
      rintro s' ⟨sz, wd, c0, c1, c2, t0, t1, t2, D, mm, nn, tS, tw, oS, h, tk, ⟨hs0, hs1, hw0, hw1⟩, hcS, rfl, F6, N6⟩
      have o1 : s₁.heap.objs.size + 1 + 1 + 1 ≠ D ∧ s₁.heap.objs.size + 1 + 1 ≠ D ∧ s₁.heap.objs.size + 1 ≠ D ∧ 37 ≠ D ∧ 30 ≠ D :=
        ⟨ne_list N6 (by k_mem) (by rw [hco]; exact fun _ _ e => nomatch e), ne_list N6 (by k_mem) (by rw [hci]; exact fun _ _ e => nomatch e), ne_list N6 (by k_mem) (by rw [hcS]; exact fun _ _ e => nomatch e), ne_list (o := tabObj #[]) N6 (by k_mem) (fun _ _ e => nomatch e), ne_list (o := tabObj #[]) N6 (by k_mem) (fun _ _ e => nomatch e)⟩
      refine seqG (Inv3 s₁ (ghostOf s₁.heap [(41, 37), (34, 30)]) s₁.heap.objs.size) ?p4 ?q4
      case p4 =>
        k_steps
        rename News _ _ _ _ => N7
        rename Fr _ _ _ _ => F7
        rename Obj.data _ = Data.cell _ => hdL
        refine ⟨rfl, sz, wd, _, _, _, tS, _, _, tw, oS, _, _, _, _, ⟨hs0, hs1, hw0, hw1, mod_nonneg _ (by omega), mod_lt _ (by omega), mod_nonneg _ (by omega), mod_lt _ (by omega)⟩, ⟨hcS, by assumption, hdL⟩, rfl, F7, news_tail (news_tail N7)⟩
      rintro s' ⟨sz, wd, ac, al, mm, tS, tA, tL, tw, oS, oA, oL, h, tk, ⟨hs0, hs1, hw0, hw1, ha0, ha1, hb0, hb1⟩, ⟨hcS, hcA, hcL⟩, rfl, F6, N6⟩
      refine seqG (Inv4 s₁ (ghostOf s₁.heap [(41, 37), (34, 30)]) s₁.heap.objs.size) ?p5 ?q5
      case p5 =>
        k_steps
        all_goals (
          rename News _ _ _ _ => N7
          rename Fr _ _ _ _ => F7
          refine ⟨rfl, sz, wd, ac, al, _, _, tS, tA, tL, tw, _, oS, oA, oL, _, _, ⟨hs0, hs1, hw0, hw1, ha0, ha1, hb0, hb1⟩, (by omega), ⟨hcS, hcA, hcL⟩, rfl, F7, N7⟩)
      rintro s' ⟨sz, wd, ac, al, T, mm, tS, tA, tL, tw, tt, oS, oA, oL, h, tk, ⟨hs0, hs1, hw0, hw1, ha0, ha1, hb0, hb1⟩, hT, ⟨hcS, hcA, hcL⟩, rfl, F6, N6⟩
      refine wpG_cons ?_
      k_steps
      unfold Stop
      k_dflt (refine' law_row_says _ _ _ _ _ _ _ _ _ _ _ _ _ _ _ _ _ _ _ _ _ _ _ _ _ _ _ _ _ _ ?k1 ?k2 ?k3 ?k4 ?k5 ?kK ?kd ?ku ?e1 ?e2 ?e3 ?e4 ?e5 ?e6 ?_; (case k1 => k_asm); (case k2 => k_asm); (case k3 => k_asm); (case k4 => k_asm); (case k5 => k_asm); (case kK => first | exact rfl | assumption))
      case kd => ktr_room
      case ku => ktr_units
      case e1 => assumption
      case e2 => assumption
      case e3 => assumption
      case e4 => assumption
      case e5 => assumption
      case e6 => assumption
      intro tr h7 tk7 F7 N7
      (try dsimp only); (try k_fold)
      k_steps
      refine wpG_cons ?_
      have hcm := compMark
      k_steps
      unfold Stop
      rename CompMark => hcm
      clear hcm
      k_dflt (refine Assign_ListComp_R (F₀ := by k_asm) (by rfl) (by with_unfolding_all rfl) (by with_unfolding_all rfl) (by decide) (by rfl) (by decide) (by rfl) (by rfl) (by rfl) ?_)
      k_steps
      rename IsRange _ _ _ _ _ _ _ _ => hR
      rename Fr _ _ _ _ => F8
      rename News _ _ _ _ => N8
      refine ⟨_, T, -1, -1, _, _, _, (T + 1).toNat, _, CJ T sz ac al, rfl, rfl, F8, N8, hR, t_small hT, t_size hT, t_line hT, CJ.zero, ?turn, ?fin⟩
      case turn =>
        rintro i t I oI C oC D oD m₂ h tk ys made E' hi hcj hoC hm₂ F9 N9 hI hID hDC hmade
        simp only [List.cons_append, List.nil_append] at N9
        k_steps
        unfold Stop
        k_dflt (refine' counts_says _ _ _ _ _ _ _ _ _ _ _ _ _ _ _ _ _ _ _ _ _ _ _ _ _ _ _ _ _ _ _ _ ?k1 ?k2 ?k3 ?k4 ?k5 ?kK ?kd ?ku ?e1 ?e2 ?e3 ?e4 ?e5 ?e6 ?e7 ?e8 ?_; (case k1 => k_asm); (case k2 => k_asm); (case k3 => k_asm); (case k4 => k_asm); (case k5 => k_asm); (case kK => first | exact rfl | assumption))
        case kd => ktr_room
        case ku => ktr_units
        case e1 => exact (t_at hT hi).1
        case e2 => exact (t_at hT hi).2
        case e3 => assumption
        case e4 => assumption
        case e5 => assumption
        case e6 => assumption
        case e7 => assumption
        case e8 => assumption
        intro x5 t5 t6 h5 tk5 F5 N5 l5
        exact ⟨h5, tk5, _, rfl, F5, news_made N5, fun p hp => (List.mem_cons.mp hp).elim (fun e => by subst e; exact ⟨Nat.ne_of_gt (l5 (I, oI) (.head _)), Nat.ne_of_gt (l5 (C, oC) (.tail _ (.head _))), Nat.ne_of_gt (l5 (D, oD) (.tail _ (.tail _ (.head _))))⟩) (hmade p), hcj.step⟩
      case fin =>
        rintro D ys made h tk ⟨hyl, hys, hmd⟩ F9 N9 hD
        simp only [List.cons_append, List.nil_append] at N9
        have N10 := led_ten N9
        clear N9 N8 F8
        have hg8 := hg_law N10 (no_fields hcL hcA hcS hmd)
        obtain ⟨u1, u2, u3, u4, u5, u6, kd, kq, u7, u8, u9, u10, u11, u12⟩ := plain_whole hs0 hs1 hT ha0 ha1 hb0 hb1 hw0 hw1
        dsimp only
        refine wpG_execs_cons (wpG_If (wpG_isTrue_Compare1 (wpG_Call ?_)))
        k_steps
        refine wpG_callWith_K (K := hd.heap_39 w.params) (by rfl) ?_
        refine wpG_args_cons (wpG_Call ?_)
        k_steps
        refine wpG_callWith_K (K := hd.heap_39 w.params) (by rfl) (wpG_of ?_)
        k_steps
        k_dflt (refine' byteswap_says _ _ _ _ _ _ (rowG sz ac al 0) (rowG sz ac al 1) (rowG sz ac al 2) (rowG sz ac al 3) _ _ _ _ _ _ _ _ _ _ _ _ _ _ _ _ _ _ _ _ ?k1 ?k2 ?k3 ?k4 ?k5 ?kK ?kd ?ku ?e1 ?_; (case k1 => k_asm); (case k2 => k_asm); (case k3 => k_asm); (case k4 => k_asm); (case k5 => k_asm); (case kK => first | exact rfl | assumption))
        case kd => ktr_room
        case ku => ktr_units
        case e1 => exact in_rev u1
        intro tb hb tkb Fb Nb
        (try dsimp only); (try k_fold)
        k_steps
        refine wpG_of ?_
        rename News _ _ _ _ => Nb
        k_dflt (refine' law_figures_says _ _ _ _ _ _ [rowG sz ac al 3, rowG sz ac al 2, rowG sz ac al 1, rowG sz ac al 0] wd _ _ kd kq _ _ _ _ [(30, tabObj #[])] [(37, tabObj #[])] _ _ _ _ _ _ _ _ _ _ _ _ _ _ ((D, LCg.lst ys) :: _) _ _ _ ?k1 ?k2 ?k3 ?k4 ?k5 ?kK ?e01 ?e02 ?eI ?eD ?kd ?ku ?e1 ?e2 ?e3 ?e4 ?e5 ?e6 ?e7 ?e8 ?e9 ?f1 ?f2 ?f3 ?f4 ?f5 ?f6 ?f7 ?f8 ?_; (case k1 => k_asm); (case k2 => k_asm); (case k3 => k_asm); (case k4 => exact Nb); (case k5 => k_asm); (case kK => first | exact rfl | assumption))
        case e01 => assumption
        case e02 => assumption
        case eI => exact .none
        case eD => exact .none
        case kd => ktr_room
        case ku => ktr_units
        case e1 => exact hg8
        case e2 => exact u1
        case e3 => exact u2
        case e4 => exact u3
        case e5 => exact hw0
        case e6 => exact hw1
        case e7 => exact (t_st hT).1
        case e8 => exact (t_st hT).2.1
        case e9 => exact u4
        case f1 => exact u5
        case f2 => exact u6
        case f3 => exact u7
        case f4 => exact u8
        case f5 => exact u9
        case f6 => exact u10
        case f7 => exact u11
        case f8 => exact (t_st hT).2.1
        intro D1 h1 tk1 vs1 nn1 tI2 tD2 hI2 hD2 hi1 F1 N0
        (try dsimp only); (try k_fold)
        rw [← u12] at hi1
        obtain ⟨nw, hnw, N1⟩ := led_abs1 N0
        clear N0 Fb Nb N10 F9
        clear u1 u2 u3 u4 u5 u6 u7 u8 u9 u10 u11 u12
        have hmD : (D, LCg.lst ys) ∈ nw := by rw [hnw]; exact List.mem_append_right _ (List.mem_append_right _ (.head _))
        have hmM : ∀ q ∈ made, q ∈ nw := fun q hq => by rw [hnw]; exact List.mem_append_right _ (List.mem_append_right _ (.tail _ (.tail _ (.tail _ (.tail _ hq)))))
        k_dflt (refine ListComp_L (F₀ := by k_asm) (by with_unfolding_all rfl) (by decide) (by rfl) (by decide) (by rfl) ?_)
        k_steps
        refine ⟨D, ys, ys.length, _, fun i => wholeN (T + (i : Int) * -1) sz ac al, rfl, rfl, F1, N1, .tail _ hmD, t_len hT hyl, ?turn1, ?fin1⟩
        case turn1 =>
          rintro i v I oI C oC D' oD m₂ h tk E' hv hoC hm₂ F9 N9 hI hID hDC
          obtain ⟨x, a5, b5, rfl, hx⟩ := hys i v hv
          have N11 := news_c (N9 _ (.tail _ (.tail _ (.tail _ (.tail _ (hmM _ hx)))))) N9
          k_steps
          exact ⟨_, _, _, rfl, rfl, by k_asm, by exact N9⟩
        case fin1 =>
          rintro D2 ys2 h tk hys2 F9 N9 hD2'
          rw [hyl] at hys2
          k_steps
          dsimp only
          refine wpG_of ?_
          clear F1 N1 hi1 hys2
          rename News _ _ _ _ => N9
          k_steps
          unfold Stop
          rename News _ _ _ _ => N9
          have N9 := news_tail (news_tail N9)
          obtain ⟨v1, v2, v3, v4, v5, v6, kd', kq', v7, v8, v9, v10, v11, v12⟩ := plain_inner hs0 hs1 hT ha0 ha1 hb0 hb1 hw0 hw1
          subst hnw
          k_dflt (refine' law_figures_says _ _ _ _ _ _ [rowG sz ac al 0, rowG sz ac al 1, rowG sz ac al 2, rowG sz ac al 3] wd _ _ kd' kq' _ _ _ _ tI2 tD2 _ _ _ _ _ _ _ _ _ _ _ _ _ _ ((D, LCg.lst ys) :: _) _ _ _ ?k1 ?k2 ?k3 ?k4 ?k5 ?kK ?e01 ?e02 ?eI ?eD ?kd ?ku ?e1 ?e2 ?e3 ?e4 ?e5 ?e6 ?e7 ?e8 ?e9 ?f1 ?f2 ?f3 ?f4 ?f5 ?f6 ?f7 ?f8 ?_; (case k1 => k_asm); (case k2 => k_asm); (case k3 => k_asm); (case k4 => exact N9); (case k5 => k_asm); (case kK => first | exact rfl | assumption))
          case e01 => assumption
          case e02 => assumption
          case eI => exact hI2
          case eD => exact hD2
          case kd => ktr_room
          case ku => ktr_units
          case e1 => exact hg8
          case e2 => exact v1
          case e3 => exact v2
          case e4 => exact v3
          case e5 => exact hw0
          case e6 => exact hw1
          case e7 => exact (t_st hT).2.2.1
          case e8 => exact (t_st hT).2.2.2
          case e9 => exact v4
          case f1 => exact v5
          case f2 => exact v6
          case f3 => exact v7
          case f4 => exact v8
          case f5 => exact v9
          case f6 => exact v10
          case f7 => exact v11
          case f8 => exact (t_st hT).2.1
          intro D1 h1 tk1 vs1 nn1 tI3 tD3 hI3 hD3 hi1 F1 N0
          (try dsimp only); (try k_fold)
          rw [← v12] at hi1
          obtain ⟨nw, hnw, N1⟩ := led_abs1 N0
          clear N0 N9
          clear v1 v2 v3 v4 v5 v6 v7 v8 v9 v10 v11 v12
          have hmD : (D, LCg.lst ys) ∈ nw := by rw [hnw]; exact List.mem_append_right _ (List.mem_append_right _ (.head _))
          have hmM : ∀ q ∈ made, q ∈ nw := fun q hq => by rw [hnw]; exact List.mem_append_right _ (List.mem_append_right _ (.tail _ (.tail _ (.tail _ (.tail _ hq)))))
          k_dflt (refine ListComp_L (F₀ := by k_asm) (by with_unfolding_all rfl) (by decide) (by rfl) (by decide) (by rfl) ?_)
          k_steps
          refine ⟨D, ys, ys.length, _, fun i => innerN (T + (i : Int) * -1) sz ac al, rfl, rfl, F1, N1, .tail _ hmD, t_len hT hyl, ?turn2, ?fin2⟩
          case turn2 =>
            rintro i v I oI C oC D' oD m₂ h tk E' hv hoC hm₂ F9 N9 hI hID hDC
            obtain ⟨x, a5, b5, rfl, hx⟩ := hys i v hv
            have N11 := news_c (N9 _ (.tail _ (.tail _ (.tail _ (.tail _ (hmM _ hx)))))) N9
            k_steps
            exact ⟨_, _, _, rfl, rfl, by k_asm, by exact N9⟩
          case fin2 =>
            rintro D3 ys3 h tk hys3 F9 N9 hD3'
            rw [hyl] at hys3
            k_steps
            unfold Stop
            exact grown_law N9 (fun q hq => .tail _ (.tail _ hq)) hnw hI3 hD3
  · refine GoodW.toG ⟨.inl ⟨_, .bool true, [], rfl, fun _ => rfl, .bool true, ?_, unshared_nil⟩, fun _ _ e => e, rfl, hg⟩
    exact postW_of (by wrow_shape) (by wtm_val) (by str_meet; first | done | w_fin)
end Mine
theorem PySem.Challenge.cw_we0013_01_holds : PySem.Challenge.rw_we0013_01.Holds := by
  exact Mine.lawWalk
