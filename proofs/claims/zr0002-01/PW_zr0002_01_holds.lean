import PyProof.Rows.All
import Wide.All
import OpenK.AllK
import Wide.FinOn
import PySem.Challenge.RW_zr0002_01
section

open PySem PySem.W PyProof.Rows PySem.Calls
set_option Elab.async false
set_option maxRecDepth 100000
set_option maxHeartbeats 8000000
namespace Mine

def tidy : Code → Bool
  | .builtin id _ => id == "claim.caller" || id == "type.__call__" || id == "bytearray.__init__"
  | _ => true
def Clean (Γ : PySem.Ctx) : Prop := tidy Γ.code = true ∧ ∀ x ∈ Γ.below, tidy x.1 = true
abbrev NoE : Value → Shared → Prop := fun _ _ => False
def wpC {α : Type} (M : Model) (A : Around) (t : Sem α) (Q : α → Shared → Prop) (s : Shared) : Prop :=
  ∀ Γ p, Γ.In A → Clean Γ → Sem.wp M Γ t (fun a _ s' => Q a s') (fun _ _ _ => False) p s
def okR (R : Flow → Shared → Prop) : Result → Shared → Prop := fun r s' => match r with | .ok f => R f s' | .error _ => False
def codeC (M : Model) (A : Around) (c : Code) (R : Flow → Shared → Prop) (s : Shared) : Prop :=
  ∀ Γ p, Γ.code = c → Γ.Below A → (∀ x ∈ Γ.below, tidy x.1 = true) → wpCode M Γ (okR R) p s
def finC (M : Model) (A : Around) (R : Flow → Shared → Prop) : Fin → Shared → Prop := fun fin s' => match fin with
  | .done f => R f s'
  | .again c' => c'.quiet = true ∧ codeC M A c' R s'

section
variable {α β : Type} {M : Model} {A : Around} {s : Shared}
theorem c_any {t : Sem α} {Q : α → Shared → Prop} (h : wpAny M A t Q NoE s) : wpC M A t Q s := fun Γ p hΓ _ => h Γ p hΓ
theorem c_mono {t : Sem α} {Q Q' : α → Shared → Prop} (h : wpC M A t Q s) (hQ : ∀ a s, Q a s → Q' a s) : wpC M A t Q' s :=
  fun Γ p hΓ hc => Sem.wp_mono M Γ t (fun a _ s => hQ a s) (fun _ _ _ h => h) p s (h Γ p hΓ hc)
theorem c_bind {m : Sem α} {f : α → Sem β} {Q : β → Shared → Prop} (h : wpC M A m (fun a s' => wpC M A (f a) Q s') s) : wpC M A (m >>= f) Q s := fun Γ p hΓ hc => by
  rw [Sem.wp_bind']
  exact Sem.wp_mono M Γ m (fun a p' s' h' => h' Γ p' hΓ hc) (fun _ _ _ h' => h') p s (h Γ p hΓ hc)
theorem c_then {m : Sem α} {f : α → Sem β} {Q : β → Shared → Prop} (h : wpAny M A m (fun a s' => wpC M A (f a) Q s') NoE s) : wpC M A (m >>= f) Q s := c_bind (c_any h)
theorem c_pure {a : α} {Q : α → Shared → Prop} (h : Q a s) : wpC M A (pure a) Q s := c_any (wpAny_pure h)
theorem c_eq {t : Sem α} {a : α} {Q : α → Shared → Prop} (e : t = pure a) (h : Q a s) : wpC M A t Q s := e ▸ c_pure h
theorem c_holding {vs : List Value} {m : Sem α} {Q : α → Shared → Prop} (h : wpC M A m Q s) : wpC M A (holding vs m) Q s := fun Γ p hΓ hc => by
  rw [Sem.wp_holding]; exact h Γ p hΓ hc
theorem c_keep {vs : List Value} {m : Sem α} {Q : α → Shared → Prop} (h : wpC M A m Q s) : wpC M A (m.keep vs) Q s := fun Γ p hΓ hc => by
  rw [Sem.wp_keep]; exact h Γ p hΓ hc
theorem c_onRaise {m : Sem α} {k : Value → Sem Unit} {Q : α → Shared → Prop} (h : wpC M A m Q s) : wpC M A (m.onRaise k) Q s := fun Γ p hΓ hc => by
  rw [Sem.wp_onRaise]
  exact Sem.wp_mono M Γ m (fun _ _ _ h' => h') (fun e p' s' h' => h'.elim) p s (h Γ p hΓ hc)
theorem c_standAt {pos : Pos} {Q : Unit → Shared → Prop} (h : Q () s) : wpC M A (standAt pos) Q s := c_any (wpAny_standAt h)
theorem clean_enter {Γ : PySem.Ctx} {c : Code} {h : Option Value} {p : Pos} (hc : Clean Γ) : ∀ x ∈ (Γ.enter c h p).below, tidy x.1 = true := by
  intro x hx
  rcases List.mem_cons.mp hx with rfl | hx
  · exact hc.1
  · exact hc.2 x hx
theorem c_run {c : Code} {h : Option Value} {Q : Flow → Shared → Prop} (hc : codeC M (A.mark h) c Q s) (hnb : h ≠ some byPass := by intro x; cases x) : wpC M A (run c h) Q s := fun Γ p hΓ hcl => by
  rw [Sem.wp_run]
  refine wpCode_mono (fun r s' hr => ?_) (hc _ p rfl (hΓ.enter c h p hnb) (clean_enter hcl))
  cases r with
  | ok f => exact hr
  | error e => exact hr
theorem c_runOwn {c : Code} {env : Env} {h : Option Value} {Q : Flow → Shared → Prop} (hc : codeC M (A.mark h) c Q s) (hnb : h ≠ some byPass := by intro x; cases x) : wpC M A (runOwn c env h) Q s := by
  unfold runOwn
  exact c_onRaise (c_run hc hnb)
def retR (Q : Value → Shared → Prop) : Flow → Shared → Prop := fun f s' => match f with | .ret v => Q v s' | _ => False
theorem c_call {f : Value} {pos : List Value} {kw : List (Str × Value)} {Q : Value → Shared → Prop} (hc : codeC M A (.call f ⟨pos, kw⟩) (retR Q) s) : wpC M A (call f pos kw) Q s := fun Γ p hΓ hcl => by
  unfold call
  rw [Sem.wp_runValue]
  refine wpCode_mono (fun r s' hr => ?_) (hc _ p rfl (hΓ.enter _ none p (by intro x; cases x)) (clean_enter hcl))
  cases r with
  | ok f => cases f <;> first | exact hr | exact hr.elim
  | error e => exact hr.elim
theorem codeC_any {c : Code} {R : Flow → Shared → Prop} (h : codeAny M A c (okR R) s) : codeC M A c R s := fun Γ p hc hΓ _ => h Γ p hc hΓ
theorem codeC_mono {c : Code} {R R' : Flow → Shared → Prop} (h : codeC M A c R s) (hR : ∀ r s, R r s → R' r s) : codeC M A c R' s := fun Γ p hc hΓ hb => wpCode_mono (fun r s' hr => by
  cases r with
  | ok f => exact hR f s' hr
  | error e => exact hr) (h Γ p hc hΓ hb)
theorem codeC_tree {c : Code} {R : Flow → Shared → Prop} (h : wpC M (A.under c) (M.den c) (finC M A R) s) (ht : tidy c = true := by rfl) : codeC M A c R s := fun Γ p hc hΓ hb => by
  rw [wpCode_iff_wp, hc]
  refine Sem.wp_mono M Γ _ (fun fin p' s' h' => ?_) (fun _ _ _ h' => h') p s (h Γ p (hc ▸ hΓ.in) ⟨hc ▸ ht, hb⟩)
  cases fin with
  | done f => exact h'
  | again c' => exact ⟨h'.1, h'.2 (Γ.goto c') p' rfl (hΓ.goto c') hb⟩
end

section
variable {M : Model} {A : Around} {s : Shared} {env : Env}
theorem c_execs_cons {st : Stmt} {rest : List Stmt} {Q : Flow → Shared → Prop}
    (h : wpC M A (exec st env) (fun f s' => match f with | .next => wpC M A (execs rest env) Q s' | f => Q f s') s) : wpC M A (execs (st :: rest) env) Q s := by
  rw [execs_cons]
  refine c_bind (c_mono h fun f s' hf => ?_)
  cases f <;> first | exact hf | exact c_pure hf
theorem c_execs_nil {Q : Flow → Shared → Prop} (h : Q .next s) : wpC M A (execs [] env) Q s := c_pure h
theorem c_If {test : Expr} {body orelse : List Stmt} {pos : Pos} {Q : Flow → Shared → Prop}
    (h : wpC M A (isTrue test env (eval test env)) (fun b s' => if b then wpC M A (execs body env) Q s' else wpC M A (execs orelse env) Q s') s) : wpC M A (exec (.If test body orelse pos) env) Q s := by
  rw [exec_If]
  refine c_bind (c_standAt (c_bind (c_mono h fun b s' hb => ?_)))
  cases b <;> exact hb
theorem c_Or {x y : Expr} {pos : Pos} {whole : Sem Value} {Q : Bool → Shared → Prop}
    (h : wpC M A (isTrue x env (eval x env)) (fun b s' => if b then Q true s' else wpC M A (isTrue y env (eval y env)) Q s') s) : wpC M A (isTrue (.BoolOp .Or [x, y] pos) env whole) Q s := by
  rw [arm_isTrue_BoolOp]
  show wpC M A (do match BoolOp.Or, ← isTrue x env (eval x env) with | .And, false => pure false | .Or, true => pure true | _, _ => allTrue .Or [y] env) Q s
  refine c_bind (c_mono h fun b s' hb => ?_)
  cases b with
  | true => exact c_pure hb
  | false =>
    rw [if_neg Bool.false_ne_true] at hb
    show wpC M A (do match BoolOp.Or, ← isTrue y env (eval y env) with | .And, false => pure false | .Or, true => pure true | _, _ => allTrue .Or [] env) Q s'
    refine c_bind (c_mono hb fun b s' hb => ?_)
    cases b <;> exact c_pure hb
theorem c_isTrue_Compare1 {l r : Expr} {op : CmpOp} {pos : Pos} {whole : Sem Value} {Q : Bool → Shared → Prop} (hm : behindInMarks op r = false)
    (h : wpC M A (eval l env) (fun a s₁ => wpAny M A (eval r env) (fun b s₂ => wpAny M A (compareOp op a b) (fun c s₃ => wpAny M A (truthy c) Q NoE s₃) NoE s₂) NoE s₁) s) :
    wpC M A (isTrue (.Compare l [op] [r] pos) env whole) Q s := by
  rw [isTrue_Compare1]
  refine c_bind (c_mono h fun a s₁ h₁ => ?_)
  rw [markedBehindIn_of_false hm]
  refine c_any (wpAny_bind (wpAny_holding (wpAny_mono h₁ (fun b s₂ h₂ => ?_) fun _ _ x => x)))
  refine wpAny_bind (wpAny_standAt (wpAny_bind ?_))
  refine fun Γ p hΓ => ?_
  rw [Sem.wp_operate]
  exact wpAny_mono h₂ (fun c s₃ h₃ => wpAny_holding h₃) (fun _ _ x => x) Γ p hΓ
theorem c_Assign_Name {x : Str} {pos' pos : Pos} {value : Expr} {Q : Flow → Shared → Prop} (hs : swapsWith value (some (.Name x pos')) pos.line env = pure false)
    (h : wpC M A (eval value env) (fun v s₁ => wpAny M A (storeName env x v) (fun _ s₂ => Q .next s₂) NoE s₁) s) : wpC M A (exec (.Assign [.Name x pos'] value pos) env) Q s := by
  rw [exec_Assign_Name env _ _ _ _ hs]
  refine c_bind (c_standAt (c_bind (c_mono h fun v s₁ h₁ => c_bind (c_standAt (c_bind (c_any (wpAny_bindName (wpAny_mono h₁ (fun _ s₂ h₂ => c_pure h₂) fun _ _ x => x))))))))
theorem c_callWith_function {pos : Pos} {a : Addr} {args : List (Bool × Sem Value)} {Q : Value → Shared → Prop}
    (h : wpAny M A (evalArgs (.ref a) true args []) (fun x s₁ => (∃ o fd, s₁.heap.get? a = some o ∧ o.data = .func fd) ∧ wpC M A (call (.ref a) x.pos x.kw) Q s₁) NoE s) :
    wpC M A (callWith pos (.ref a) [] args []) Q s := by
  unfold callWith
  refine c_bind (c_holding (c_any (wpAny_mono h (fun x s₁ h₁ => c_bind (c_standAt ?_)) fun _ _ x => x)))
  obtain ⟨⟨o, fd, ho, hd⟩, h₂⟩ := h₁
  have tail : ∀ {t : Sem Value}, wpC M A t Q s₁ → wpC M A (t >>= fun r => holding [r] point >>= fun _ => pure r) Q s₁ :=
    fun ht => c_bind (c_mono ht fun r s₂ hr => c_bind (c_holding (c_any (wpAny_point (c_pure hr)))))
  have hk : ∀ {β : Type} {f : Keeper → Sem β} {Q : β → Shared → Prop}, wpC M A (f .frame) Q s₁ → wpC M A (keeperOf (.ref a) >>= f) Q s₁ := fun hf => by
    refine c_bind (c_any ?_)
    unfold keeperOf
    refine wpAny_bind (wpAny_load ho ?_)
    rw [hd]
    exact wpAny_pure hf
  cases hs : args.any (·.1)
  · simp only [List.any_nil, Bool.or_false, List.nil_append]
    refine hk ?_
    dsimp only
    split
    · exact tail h₂
    · exact tail (by unfold callMarked; exact c_keep h₂)
  · simp only [List.any_nil, Bool.or_false, List.nil_append]
    refine hk ?_
    exact tail (by unfold callMarked; exact c_keep h₂)
theorem c_callWith_type {pos : Pos} {T : String} {args : List (Bool × Sem Value)} {Q : Value → Shared → Prop} (hplain : args.any (·.1) = false)
    (h : wpAny M A (evalArgs (.type T) true args []) (fun x s₁ => wpC M A (call (.type T) x.pos x.kw) Q s₁) NoE s) : wpC M A (callWith pos (.type T) [] args []) Q s := by
  unfold callWith
  refine c_bind (c_holding (c_any (wpAny_mono h (fun x s₁ h₁ => c_bind (c_standAt ?_)) fun _ _ x => x)))
  simp only [hplain, List.any_nil, Bool.or_false, List.nil_append]
  refine c_bind (c_pure ?_)
  exact c_bind (c_mono h₁ fun r s₂ hr => c_bind (c_holding (c_any (wpAny_point (c_pure hr)))))
theorem c_Call_Name {id : Str} {p pos : Pos} {args : List Expr} {Q : Value → Shared → Prop}
    (h : wpAny M A (eval (.Name id p) env) (fun f s₁ => wpC M A (callWith pos f [] (backTo pos (starEach args env)) []) Q s₁) NoE s) : wpC M A (eval (.Call (.Name id p) args [] pos) env) Q s := by
  rw [arm_eval_Call_Name']
  exact c_then h
theorem c_For {target iter : Expr} {body orelse : List Stmt} {pos : Pos} {Q : Flow → Shared → Prop}
    (h : wpAny M A (eval iter env) (fun x s₁ => wpAny M A (pyIter x) (fun it s₂ => codeC M A (.forLoop target it body orelse env) Q s₂) NoE s₁) NoE s)
    (hs : ∀ x, foldedSetIterable iter env x = pure x := by intro _; rfl) : wpC M A (exec (.For target iter body orelse pos) env) Q s := by
  rw [exec_For]
  exact c_bind (c_standAt (c_then (wpAny_mono h (fun x s₁ h₁ => c_bind (c_eq (hs x) (c_bind (c_standAt (c_bind (c_holding
    (c_any (wpAny_mono h₁ (fun it s₂ h₂ => c_runOwn h₂) fun _ _ h' => h')))))))) fun _ _ h' => h')))
end

section
variable {prog : Program} {w : World} {A : Around} {s : Shared}
theorem codeC_forLoop {target : Expr} {it : Value} {body : List Stmt} {env : Env} {Q : Flow → Shared → Prop}
    (h : wpAny (model prog w) A (pyNext it) (fun r s₁ => match r with
      | none => Q .next s₁
      | some v => wpAny (model prog w) A (assign target env v) (fun _ s₂ => wpC (model prog w) A (execs body env) (fun f s₃ => match f with
          | .next | .cont => codeC (model prog w) A (.forLoop target it body [] env) Q s₃
          | .brk => Q .next s₃
          | .ret v => Q (.ret v) s₃) s₂) NoE s₁) NoE s)
    (ht : ∀ v, letOwnedTupleGo target it v = pure () := by intro _; rfl) : codeC (model prog w) A (.forLoop target it body [] env) Q s := by
  refine codeC_tree ?_
  show wpC _ A ((forTurn target it body [] env).onRaise (fun x => do noteFrame x env; theTreesLotGoes x)) _ s
  refine c_onRaise ?_
  simp only [forTurn]
  refine c_bind (c_standAt (c_bind (c_onRaise (c_any (wpAny_mono h (fun r s₁ h₁ => ?_) fun _ _ h' => h')))))
  cases r with
  | none => exact c_pure ⟨rfl, codeC_any (codeAny_block (wpAny_execs_nil h₁))⟩
  | some v =>
    refine c_bind (c_eq (ht v) ?_)
    refine c_then (wpAny_mono h₁ (fun _ s₂ h₂ => c_bind (c_mono h₂ fun f s₃ h₃ => ?_)) fun _ _ h' => h')
    cases f with
    | next => exact c_pure ⟨rfl, h₃⟩
    | cont => exact c_pure ⟨rfl, h₃⟩
    | brk => exact c_pure h₃
    | ret v => exact c_pure h₃
theorem codeC_func {body : List Stmt} {env : Env} {R : Flow → Shared → Prop} (h : wpC (model prog w) (A.deeper env) (execs body env) (fun f s' => R (.ret (match f with | .ret v => v | _ => .none)) s') s) :
    codeC (model prog w) A (.func body env) R s := by
  refine codeC_tree ?_
  show wpC _ (A.deeper env) (do point; match ← (execs body env).onRaise (leaving env) with | .ret v => ret v | _ => ret .none) _ s
  refine c_then (wpAny_point (c_bind (c_onRaise (c_mono h fun f s' h' => ?_))))
  cases f <;> exact c_pure h'
theorem codeC_call_function {a : Addr} {args : Args} {o : Obj} {fd : FuncData} {body : List Stmt} {R : Flow → Shared → Prop} (hroom : A.depth < recursionLimit) (ho : s.heap.get? a = some o)
    (hd' : o.data = .func fd) (hco : fd.scope.isCoroutine = false) (hgen : fd.scope.isGenerator = false) (hbody : fd.body = .stmts body) (hcd : s.heap.CodeRec fd.code fd.qualname)
    (h : wpAny (model prog w) A.in1 (bindArgs fd args) (fun binds s₁ =>
      wpAny (model prog w) A.in1 (newFunctionEnv fd.scope fd.globals fd.closure binds (fd.qualname ++ ".<locals>.") (some a) fd.code none fd.builtins)
        (fun env s₂ => s₂.heap.NoLimit ∧ codeC (model prog w) A (.func body env) R s₂) NoE s₁) NoE s) :
    codeC (model prog w) A (.call (.ref a) args) R s := by
  refine codeC_tree (c_any ?_)
  show wpAny _ A.in1 (callAny (.ref a) args) _ _ s
  simp only [callAny]
  refine wpAny_bind (wpAny_load ho ?_)
  obtain ⟨c, oc, vs, tq, hc, hoc, hdc, hq⟩ := hcd
  simp only [hd', callFunction, hco, hgen, hbody, hc]
  rw [hc] at h
  refine wpAny_bind (m := field (.ref c) 1) (wpAny_field hoc hdc hq (wpAny_bind (wpAny_pure ?_)))
  exact wpAny_bind (wpAny_mono h (fun binds s₁ h₁ => wpAny_bind (wpAny_mono h₁ (fun env s₂ h₂ => wpAny_bind (wpAny_enterFrame h₂.1 hroom
    (wpAny_pure (And.intro rfl h₂.2)))) fun _ _ h' => h')) fun _ _ h' => h')
end
end Mine
end
section
open PySem PySem.W PyProof.Rows PySem.Calls
set_option Elab.async false
set_option maxRecDepth 100000
set_option maxHeartbeats 8000000
namespace Mine
section
variable {prog : Program} {w : World} {A₀ A : Around} {s : Shared} {base h₀ : Heap} {outer : List Env} {L : Addr} {m mg mb : Str → Option Value} {env : Env} {news : List (Addr × Obj)} {K : Frag} {p : Program} {loose : List Str} {mean : ExcName → Option Value}
  {R : Flow → Shared → Prop} {name qual : Str} {params : Arguments} {body : List Stmt} {scope : Scope} {dV kV doc pm cdv ct oc : Value} {an od : Option Addr} {osl : Array (Option Value)} {f : Addr} {args : Args} {binds : List (Str × Value)}
theorem codeC_def
    (B : Below A₀ base outer h₀) (F : Fr h₀ L s.heap m) (X₀ : K.In h₀) (N : News h₀ L s.heap news) (T : Top p loose mean mg mb h₀) (hA : A.frames = some (env :: outer)) (hf : env.frame = some L) (hke : env.scope.kind = .function)
    (ho : K.lookup f = some ⟨oc, od, .func (fnOf name qual params body scope dV kV doc pm an cdv ct), osl⟩) (hcd : codeIn K cdv qual = true) (hroom : A.depth < recursionLimit)
    (hbind : BindsTo s (fnOf name qual params body scope dV kV doc pm an cdv ct) args binds) (hloc : ∀ y ∈ binds, scope.names.lookup y.1 = some .local)
    (h : ∀ g L' h₁, Fr h₀ L g m → Fr g L' h₁ (fun y => binds.reverse.lookup y) → News g L' h₁ news → Below A base (env :: outer) g → K.In g → Top p loose mean mg mb g →
      wpC (model prog w) (A.deeper (envOf qual scope L' f cdv)) (execs body (envOf qual scope L' f cdv))
        (fun fl s' => LeaveK h₀ L m g (okR R) (match fl with | .ret v => v | _ => .none) s')
        { s with heap := h₁, toks := s.toks + binds.length })
    (hco : scope.isCoroutine = false) (hgen : scope.isGenerator = false) (hk : scope.kind = .function)
    (hcell : ∀ x ∈ scope.names, x.2 ≠ .cell) : codeC (model prog w) A (.call (.ref f) args) R s := by
  obtain ⟨FG, BG, st, lv⟩ := groundX (R := okR R) B F N hA hf hke
  have hlim : s.heap.NoLimit := T.nolimit.keeps F.keep
  refine codeC_call_function (fd := fnOf name qual params body scope dV kV doc pm an cdv ct) (body := body) hroom ((X₀.keeps F.keep) _ _ ho) rfl hco hgen rfl (codeRec_of (X₀.keeps F.keep) hcd) (hbind _ _ _ _ ?_)
  refine wpAny_newFunctionEnv hcell hloc (fun h₁ hns₁ hsb₁ => ⟨hlim.fresh _ hsb₁, codeC_func ?_⟩) hk
  have hk₁ : ∀ b o, s.heap.get? b = some o → h₁.get? b = some o := fun b o e => hsb₁.extBut b o (Nat.ne_of_lt (Heap.lt_size e)) (Heap.get?_push_of_some _ e)
  exact c_mono (h _ s.heap.objs.size h₁ FG ⟨hns₁, fun b o e => hk₁ b o (of_hideAll _ e), Nat.le_of_eq (hideAll_size _ _)⟩
    (fun p hp => ⟨hk₁ _ _ (N p hp).1, Nat.ne_of_lt (Heap.lt_size (N p hp).1), hideAll_none _ (List.mem_map_of_mem hp)⟩) BG (X₀.keeps st) (T.keeps st)) (fun fl s' hl => lv _ _ hl)
theorem codeC_defC
    (B : Below A₀ base outer h₀) (F : Fr h₀ L s.heap m) (X₀ : K.In h₀) (N : News h₀ L s.heap news) (T : Top p loose mean mg mb h₀) (hA : A.frames = some (env :: outer)) (hf : env.frame = some L) (hke : env.scope.kind = .function)
    (ho : K.lookup f = some ⟨oc, od, .func (fnOf name qual params body scope dV kV doc pm an cdv ct), osl⟩) (hcd : codeIn K cdv qual = true) (hroom : A.depth < recursionLimit)
    (hbind : BindsTo s (fnOf name qual params body scope dV kV doc pm an cdv ct) args binds) (hkind : (binds.all fun y => scope.names.lookup y.1 == some .local || scope.names.lookup y.1 == some .cell) = true)
    (hnd : ((cellsFrom 0 scope.names []).map (·.1)).Nodup)
    (h : ∀ g L' h₁ tk cells, Fr h₀ L g m → Fr g L' h₁ (bindL (envOfC qual scope L' f cdv).kindOf binds fun _ => none) → News g L' h₁ (cells ++ news) →
      CellsAre (bindC (envOfC qual scope L' f cdv).kindOf binds fun _ => none) (cellsFrom (L' + 1) scope.names []) cells → Below A base (env :: outer) g → K.In g → Top p loose mean mg mb g → (∀ p ∈ news, p.1 < L') →
      wpC (model prog w) (A.deeper (envOfC qual scope L' f cdv)) (execs body (envOfC qual scope L' f cdv))
        (fun fl s' => LeaveK h₀ L m g (okR R) (match fl with | .ret v => v | _ => .none) s')
        { s with heap := h₁, toks := tk })
    (hco : scope.isCoroutine = false) (hgen : scope.isGenerator = false) (hk : scope.kind = .function) : codeC (model prog w) A (.call (.ref f) args) R s := by
  obtain ⟨FG, BG, st, lv⟩ := groundX (R := okR R) B F N hA hf hke
  have hlim : s.heap.NoLimit := T.nolimit.keeps F.keep
  refine codeC_call_function (fd := fnOf name qual params body scope dV kV doc pm an cdv ct) (body := body) hroom ((X₀.keeps F.keep) _ _ ho) rfl hco hgen rfl (codeRec_of (X₀.keeps F.keep) hcd) (hbind _ _ _ _ ?_)
  refine wpAny_newFunctionEnv_cells hk (kindsX hkind _) fun env' he s' x => ?_
  subst he
  refine ⟨hlim.keeps x.toInCall.keep, codeC_func ?_⟩
  obtain ⟨h₁, tk, rfl, _⟩ := x.done
  have hk₁ := x.toInCall.keep
  obtain ⟨cells, NC, Y⟩ := Cl.news (h₀ := s.heap) (Nat.le_refl _) fun n c hm => ⟨x.cell n c (lookup_of_mem_nodup (cellsFrom_names scope.names 0 (s.heap.objs.size + 1) [] [] rfl ▸ hnd) hm), x.above n c hm⟩
  refine c_mono (h _ s.heap.objs.size h₁ tk cells FG ⟨x.toInCall.ns, fun b o e => hk₁ b o (of_hideAll _ e), Nat.le_of_eq (hideAll_size _ _)⟩ (fun p hp => ?_) Y BG (X₀.keeps st) (T.keeps st) (fun p hp => Heap.lt_size (N p hp).1)) (fun fl s' hl => lv _ _ hl)
  rcases List.mem_append.mp hp with hp | hp
  · refine ⟨(NC p hp).1, (NC p hp).2.1, ?_⟩
    cases q : (hideAll s.heap (news.map (·.1))).get? p.1 with
    | none => rfl
    | some o => have := of_hideAll _ q; rw [(NC p hp).2.2] at this; cases this
  · exact ⟨hk₁ _ _ (N p hp).1, Nat.ne_of_lt (Heap.lt_size (N p hp).1), hideAll_none _ (List.mem_map_of_mem hp)⟩
end
section
variable {prog : Program} {w : World} {A : Around} {s : Shared}
theorem codeC_builtin {id : String} {args : Args} {b : Builtin} {R : Flow → Shared → Prop} (hb : entryFor table id = some b) (ht : tidy (.builtin id args) = true)
    (h : wpC (model prog w) (A.under (.builtin id args)) (b args) (finC (model prog w) A R) s) : codeC (model prog w) A (.builtin id args) R s := by
  refine codeC_tree ?_ ht
  show wpC _ _ (match entryFor table id with | some b => b args | none => unsupported ((withoutEnding? id "#data").getD id)) _ s
  rw [hb]; exact h
theorem codeC_call_builtin {id : String} {args : Args} {b : Builtin} {R : Flow → Shared → Prop} (hq : plainId id = true) (hb : entryFor table id = some b) (ht : tidy (.builtin id args) = true)
    (h : wpAny (model prog w) A.in1 (checkBuiltinCall id args) (fun _ s₁ => wpC (model prog w) A.in1 (b args) (finC (model prog w) A R) s₁) NoE s) : codeC (model prog w) A (.call (.builtin id) args) R s := by
  refine codeC_tree ?_
  show wpC _ A.in1 (do checkBuiltinCall id args; again (.builtin id args)) _ s
  refine c_then (wpAny_mono h (fun _ s₁ h₁ => c_pure ⟨plainId_quiet hq _, codeC_builtin hb ht ?_⟩) fun _ _ x => x)
  rw [Around.under_plainId hq _]
  exact h₁
end
section
variable {M : Model} {A : Around} {s : Shared} {env : Env}
theorem c_type1 {pos : Pos} {T : String} {e : Expr} {rest : List Expr} {Q : Value → Shared → Prop}
    (h : wpAny M A (spliced (backTo pos (starEach (e :: rest) env))) (fun vs s₁ => wpC M A (call (.type T) vs) Q s₁) NoE s)
    (he : starEach (e :: rest) env = (false, eval e env) :: starEach rest env := by rfl) (hp : (backTo pos (starEach (e :: rest) env)).any (·.1) = false := by rfl) :
    wpC M A (callWith pos (.type T) [] (backTo pos (starEach (e :: rest) env)) []) Q s := by
  refine c_callWith_type hp ?_
  rw [he] at h ⊢
  exact evalArgs_plain h
theorem c_function1 {pos : Pos} {a : Addr} {e : Expr} {rest : List Expr} {Q : Value → Shared → Prop}
    (h : wpAny M A (spliced (backTo pos (starEach (e :: rest) env))) (fun vs s₁ => (∃ o fd, s₁.heap.get? a = some o ∧ o.data = .func fd) ∧ wpC M A (call (.ref a) vs) Q s₁) NoE s)
    (he : starEach (e :: rest) env = (false, eval e env) :: starEach rest env := by rfl) :
    wpC M A (callWith pos (.ref a) [] (backTo pos (starEach (e :: rest) env)) []) Q s := by
  refine c_callWith_function ?_
  rw [he] at h ⊢
  exact evalArgs_plain h
end
end Mine
end
section
open PySem PySem.W PyProof.Rows PySem.Calls
set_option Elab.async false
set_option maxRecDepth 100000
set_option maxHeartbeats 8000000
namespace Mine

def tidyAll (l : List (Code × Pos)) : Bool := l.all fun x => tidy x.1
/-- the tree, where the stack is tidy; else True at once -/
def guardV (t : Sem Value) : Sem Value := .stack fun st => if tidyAll st then t else pure (.bool true)
def guardT (t : Sem Fin) : Sem Fin := .stack fun st => if tidyAll st then t else ret (.bool true)
abbrev stubOf (t : Sem Fin) : Thread := ⟨t, .builtin "claim.caller" {}, default, []⟩
theorem guard_step {p : Program} {w : World} {s : Shared} {t : Sem Fin} : step (denote table) p w s (stubOf (guardT t)) = .go s (stubOf t) := rfl
theorem guard_runs {p : Program} {w : World} {s s' : Shared} {t : Sem Fin} {n : Nat} {o : Outcome} (z : s.asleep) (h : schedN (denote table) p w n (.single s (stubOf (guardT t))) = .halted o s') :
    ∃ n, schedN (denote table) p w n (.single s (stubOf t)) = .halted o s' := by
  cases n with
  | zero => cases h
  | succ n =>
    refine ⟨n, ?_⟩
    have e : sstep (denote table) p w (.single s (stubOf (guardT t))) = .go (.single s (stubOf t)) := by
      rcases sstep_single (den := denote table) (prog := p) (w := w) s (stubOf (guardT t)) rfl z with e | e
      · rw [e, guard_step]; rfl
      · rw [guard_step] at e; cases e
    simp only [schedN, e] at h
    exact h
theorem from_guard {c : ClaimW} {tree : List Value → Sem Fin} {w : World} {free : Addr → Prop} {gens : Prop} {kept : Heap → Prop} {s : Shared} (z : s.asleep) (h : c.CallFrom (fun vs => stubOf (guardT (tree vs))) w free gens kept s) :
    c.CallFrom (fun vs => stubOf (tree vs)) w free gens kept s := by
  intro args hpre hlay ord hord
  obtain ⟨vs, s₁, hl, n, o, s', hr, rest⟩ := h args hpre hlay ord hord
  obtain ⟨n', hr'⟩ := guard_runs (Shared.asleep_of_life (layAllW_rest _ _ _ hl).2.2.2 z) hr
  exact ⟨vs, s₁, hl, n', o, s', hr', rest⟩
theorem open_guard {c : ClaimW} {tree : List Value → Sem Fin} {defs keeps : List Str} {writes : Bool} (h : c.HoldsOpenBy (fun vs => stubOf (guardT (tree vs))) defs keeps writes) : c.HoldsOpenBy (fun vs => stubOf (tree vs)) defs keeps writes := by
  obtain ⟨h1, h2, h3⟩ := h
  refine ⟨h1, h2, fun w => ⟨(h3 w).1, fun s hs => ?_⟩⟩
  obtain ⟨s₀, hf, hg, s₁, hT, hd, hr, hr2, hc⟩ := (h3 w).2 s hs
  have z₀ : s₀.asleep := Shared.asleep_of_life (fence_lifeW hf) (AfterImport.life hs)
  exact ⟨s₀, hf, hg, s₁, hT, hd, hr, hr2, from_guard (Shared.asleep_of_life hT.2.1 z₀) hc⟩

abbrev WalkC (q : Program) (loose : List Str) (XP : (Str → Option Value) → Heap → Prop) (YP : World → Heap → Prop) (r : RowW) (d : DefRec) (kwd : List (Str × Expr)) : Prop :=
  ∀ (w : World) (s₀ s₁ : Shared) (mg mb : Str → Option Value), Ground q loose r.records XP w s₀ mg mb s₁.heap → YP w s₁.heap → ∀ (a : Addr) (o : Obj) (pm cd doc dV kV : Value), s₁.heap.get? a = some o →
    o.data = .func { docDef d.name d.params d.body d.scope pm cd doc with defaults := dV, kwdefaults := kV } → s₁.heap.CodeRec cd d.name → Dflts mg s₁.heap d.params kwd dV kV → mg d.name = some (.ref a) → s₁.gens = #[] →
    ∀ (args : List WData) (vals : List Value) (as : List Addr), r.claim.pre args = true → WData.layableAll args = true → ReadsAllW r.records (classAt s₀.heap) s₁.heap vals args as → WellAll w.params s₁.heap vals args → (∀ a ∈ as, (a == sysModules) = false) →
      GoodWG r.claim (classAt s₀.heap) (ExcName.means s₀.heap) args s₁ (.ok (.ret (.bool true))) s₁ ∧
      codeC (model r.prog w) callerA (.call (.ref a) ⟨vals, []⟩) (fun f s' => GoodWG r.claim (classAt s₀.heap) (ExcName.means s₀.heap) args s₁ (.ok f) s') s₁

theorem PySem.W.holds_open {r : OpenRow} {q : Program} {loose : List Str} {Xt : Shared → Bool} {XP : (Str → Option Value) → Heap → Prop} {α : Type} {Yf : Shared → α} {Ya : World → α} {YP : World → Heap → Prop} {d : DefRec} {kwd : List (Str × Expr)} {N : Nat}
    (left : LeftO r.prog q loose Xt Yf Ya N) (hY : ∀ w s, Yf s = Ya w → YP w s.heap) (hYk : ∀ w h h', YP w h → (∀ b o, h.get? b = some o → h'.get? b = some o) → YP w h')
    (hX : ∀ s, Xt s = true → XP (s.heap.nsMap mainGlobals) s.heap) (hXk : ∀ mg h h', XP mg h → (∀ b o, h.get? b = some o → h'.get? b = some o) → XP mg h')
    (hdef : defOf q r.name = some (d, kwd)) (hp : r.prog.theDef r.name = some (d.params, d.body, d.scope)) (hk : kwWritten? d.params.kwonlyargs d.params.kw_defaults = some kwd) (hRf : ∀ s, Xt s = true → RecFacts r.records s.heap) (hwr : (!r.writes || r.records.isEmpty) = true)
    (k1 : r.wellSaid = true) (ok : (chainsOk q && opensWell r.prog && (frees r.toRowW && r.within.isEmpty)) = true) (hb : r.prog.bare) (hw : r.toRowW.promised)
    (call : WalkC q loose XP YP r.toRowW d kwd) : r.Holds := by
  refine ⟨k1, hw, open_guard (tree := fun vs => do match ← nsGet mainNs r.name with
      | some f => do ret (← PySem.call f vs)
      | none => unsupported "claim.caller:no-such-global") (open_anyG (r := r.toRowW) (run := fun f vs => guardV (PySem.call f vs)) (tree := fun vs => guardT (do match ← nsGet mainNs r.name with
      | some f => do ret (← PySem.call f vs)
      | none => unsupported "claim.caller:no-such-global")) left hY hYk hX hXk hRf hwr ok hb hw (fun vs w s mg f Q E hg hf h Γ p hΓ => ?_) (fun w s hg G n hn => ?_) fun w s₀ s₁ mg mb G Y args vs as hpre hlay L low => ?_)⟩
  · have h' := h Γ p hΓ
    unfold guardV at h'
    unfold guardT
    rw [Sem.wp_stack] at h' ⊢
    by_cases hc : tidyAll ((Γ.code, p) :: Γ.below) = true
    · rw [if_pos hc] at h' ⊢
      show Sem.wp _ Γ (nsGet mainNs r.name >>= _) _ _ p s
      rw [Sem.wp_bind']
      refine (Sem.wp_nsGet _ Γ _ p s hg r.name _).mpr ?_
      rw [hf]
      show Sem.wp _ Γ (PySem.call f vs >>= fun v => ret v) _ _ p s
      rw [Sem.wp_bind']
      exact h'
    · rw [if_neg hc] at h' ⊢
      exact h'
  · obtain rfl : n = r.name := by split at hn <;> simp_all
    exact pinned_of_view hg G hdef hp hk
  · obtain ⟨a, o, pm, cd, doc, dV, kV, h1, h2, h3, h4, h5⟩ := G.fn hdef
    refine ⟨.ref a, h1, fun Γ p hΓ => ?_⟩
    obtain ⟨g1, g2⟩ := call w s₀ s₁ mg mb G Y a o pm cd doc dV kV h2 h3 h4 h5 (defOf_name hdef ▸ h1) L.gens args vs as hpre hlay L.reads L.well (L.low low)
    unfold guardV
    rw [Sem.wp_stack]
    by_cases hc : tidyAll ((Γ.code, p) :: Γ.below) = true
    · rw [if_pos hc]
      have hcl : Clean Γ := ⟨List.all_eq_true.mp hc _ List.mem_cons_self, fun x hx => List.all_eq_true.mp hc x (List.mem_cons_of_mem _ hx)⟩
      refine Sem.wp_mono _ Γ _ (fun _ _ _ x => x) (fun _ _ _ x => x.elim) p _ (c_call (codeC_mono g2 fun f s' g => ?_) Γ p hΓ hcl)
      cases f with
      | ret v => exact g
      | _ => rcases g.1 with ⟨_, _, _, e, _⟩ | ⟨_, _, _, e, _⟩ <;> cases e
    · rw [if_neg hc]
      exact g1
end Mine
end
section
open PySem PySem.W PyProof.Rows
set_option Elab.async false
set_option maxRecDepth 100000
set_option maxHeartbeats 8000000
namespace Mine
open_top hd for PySem.Challenge.rw_zr0002_01
theorem topOff : True := by
  w_top off
  trivial
end Mine
end
section
open PySem PySem.W PyProof.Rows PySem.Calls
set_option Elab.async false
set_option maxRecDepth 100000
set_option maxHeartbeats 8000000
namespace Mine

theorem fr_see {h₀ h : Heap} {L : Addr} {m : Str → Option Value} {x : Str} {v : Value} (F : Fr h₀ L h m) (e : m x = some v) : Fr h₀ L h (fun y => if y = x then some v else m y) := by
  have em : (fun y => if y = x then some v else m y) = m := by
    funext y
    by_cases hy : y = x
    · rw [if_pos hy, hy, e]
    · rw [if_neg hy]
  rw [em]
  exact F
theorem name_obj {h₀ h : Heap} {L f : Addr} {o : Obj} {rest : List (Addr × Obj)} (N : News h₀ L h ((f, o) :: rest)) : ∃ fo, fo = o ∧ News h₀ L h ((f, fo) :: rest) := ⟨o, rfl, N⟩
theorem bits_of_lt {a : Int} {k : Nat} (h0 : 0 ≤ a) (h : a < 2 ^ k) : Builtin.Int.intBits a ≤ k := by
  unfold Builtin.Int.intBits
  split
  · exact Nat.zero_le _
  · rename_i hne
    have hne' : a ≠ 0 := fun q => hne (by rw [q]; rfl)
    have h1 : a.natAbs ≠ 0 := by omega
    have h2 : a.natAbs < 2 ^ k := by
      have : ((a.natAbs : Nat) : Int) < ((2 ^ k : Nat) : Int) := by rw [Int.natAbs_of_nonneg h0]; simpa using h
      exact Int.ofNat_lt.mp this
    exact (Nat.log2_lt h1).mpr h2
theorem fr_map {h₀ h : Heap} {L : Addr} {m m' : Str → Option Value} (F : Fr h₀ L h m) (e : m = m') : Fr h₀ L h m' := e ▸ F
theorem fr_see2 {h₀ h : Heap} {L : Addr} {m : Str → Option Value} {x1 x2 : Str} {v1 v2 : Value} (F : Fr h₀ L h m) (e1 : m x1 = some v1) (e2 : m x2 = some v2) : Fr h₀ L h (fun y => if y = x1 then some v1 else if y = x2 then some v2 else m y) := by
  refine fr_map F (funext fun y => ?_)
  by_cases h1 : y = x1
  · rw [if_pos h1, h1, e1]
  · rw [if_neg h1]
    by_cases h2 : y = x2
    · rw [if_pos h2, h2, e2]
    · rw [if_neg h2]
theorem fr_see3 {h₀ h : Heap} {L : Addr} {m : Str → Option Value} {x1 x2 x3 : Str} {v1 v2 v3 : Value} (F : Fr h₀ L h m) (e1 : m x1 = some v1) (e2 : m x2 = some v2) (e3 : m x3 = some v3) : Fr h₀ L h (fun y => if y = x1 then some v1 else if y = x2 then some v2 else if y = x3 then some v3 else m y) := by
  refine fr_map F (funext fun y => ?_)
  by_cases h1 : y = x1
  · rw [if_pos h1, h1, e1]
  · rw [if_neg h1]
    by_cases h2 : y = x2
    · rw [if_pos h2, h2, e2]
    · rw [if_neg h2]
      by_cases h3 : y = x3
      · rw [if_pos h3, h3, e3]
      · rw [if_neg h3]
theorem fr_see4 {h₀ h : Heap} {L : Addr} {m : Str → Option Value} {x1 x2 x3 x4 : Str} {v1 v2 v3 v4 : Value} (F : Fr h₀ L h m) (e1 : m x1 = some v1) (e2 : m x2 = some v2) (e3 : m x3 = some v3) (e4 : m x4 = some v4) : Fr h₀ L h (fun y => if y = x1 then some v1 else if y = x2 then some v2 else if y = x3 then some v3 else if y = x4 then some v4 else m y) := by
  refine fr_map F (funext fun y => ?_)
  by_cases h1 : y = x1
  · rw [if_pos h1, h1, e1]
  · rw [if_neg h1]
    by_cases h2 : y = x2
    · rw [if_pos h2, h2, e2]
    · rw [if_neg h2]
      by_cases h3 : y = x3
      · rw [if_pos h3, h3, e3]
      · rw [if_neg h3]
        by_cases h4 : y = x4
        · rw [if_pos h4, h4, e4]
        · rw [if_neg h4]
end Mine
end
section
set_option autoImplicit false
namespace Mine

/-- what a list of digits tells, lowest first -/
def val (b : Int) : List Int → Int
  | [] => 0
  | d :: r => d + b * val b r
theorem val_append (b : Int) : ∀ xs ys : List Int, val b (xs ++ ys) = val b xs + b ^ xs.length * val b ys
  | [], ys => by simp [val]
  | x :: xs, ys => by
    rw [List.cons_append, val, val_append b xs ys, val, List.length_cons, Int.pow_succ, Int.mul_add, Int.mul_comm (b ^ xs.length) b, Int.mul_assoc]
    omega
theorem val_bound {b : Int} (hb : 1 ≤ b) : ∀ {xs : List Int}, (∀ d ∈ xs, 0 ≤ d ∧ d < b) → 0 ≤ val b xs ∧ val b xs < b ^ xs.length
  | [], _ => by simp [val]
  | x :: xs, h => by
    have h1 := h x List.mem_cons_self
    have h2 := val_bound hb (xs := xs) fun d hd => h d (List.mem_cons_of_mem _ hd)
    rw [val, List.length_cons, Int.pow_succ, Int.mul_comm]
    have h3 : 0 ≤ b * val b xs := Int.mul_nonneg (by omega) h2.1
    have h4 : b * val b xs + b ≤ b * b ^ xs.length := by
      have : b * (val b xs + 1) ≤ b * b ^ xs.length := Int.mul_le_mul_of_nonneg_left (by omega) (by omega)
      rw [Int.mul_add, Int.mul_one] at this
      exact this
    rw [Int.mul_comm (b ^ xs.length) b, Int.mul_comm (val b xs) b]
    omega
/-- the digits from lo up to hi -/
def cut (ds : List Int) (lo hi : Nat) : List Int := (ds.drop lo).take (hi - lo)
theorem cut_length {ds : List Int} {lo hi : Nat} (h : hi ≤ ds.length) : (cut ds lo hi).length = hi - lo := by
  simp only [cut, List.length_take, List.length_drop]; omega
theorem cut_in {ds : List Int} {lo hi : Nat} {d : Int} (h : d ∈ cut ds lo hi) : d ∈ ds := List.mem_of_mem_drop (List.mem_of_mem_take h)
theorem cut_cut {ds : List Int} {lo mid hi : Nat} (h1 : lo ≤ mid) (h2 : mid ≤ hi) : cut ds lo hi = cut ds lo mid ++ cut ds mid hi := by
  simp only [cut]
  rw [show hi - lo = (mid - lo) + (hi - mid) by omega, List.take_add, List.drop_drop, show lo + (mid - lo) = mid by omega]
theorem cut_one {ds : List Int} {lo : Nat} (h : lo < ds.length) : cut ds lo (lo + 1) = [ds.getD lo 0] := by
  simp only [cut]
  rw [show lo + 1 - lo = 1 by omega, List.getD_eq_getElem?_getD, List.getElem?_eq_getElem h, List.drop_eq_getElem_cons h]
  rfl
theorem cut_all (ds : List Int) : cut ds 0 ds.length = ds := by simp [cut]
theorem val_cut {b : Int} {ds : List Int} {lo mid hi : Nat} (h1 : lo ≤ mid) (h2 : mid ≤ hi) (h3 : hi ≤ ds.length) :
    val b (cut ds lo hi) = val b (cut ds lo mid) + b ^ (mid - lo) * val b (cut ds mid hi) := by
  rw [cut_cut h1 h2, val_append, cut_length (by omega)]
theorem two_pos (k : Nat) : (1 : Int) ≤ 2 ^ k := by
  have : (0 : Int) < 2 ^ k := Int.pow_pos (by decide)
  omega
theorem val_lt {nn : Nat} {ds : List Int} (h : ∀ d ∈ ds, 0 ≤ d ∧ d < 2 ^ nn) {lo hi : Nat} (hle : hi ≤ ds.length) : 0 ≤ val (2 ^ nn) (cut ds lo hi) ∧ val (2 ^ nn) (cut ds lo hi) < 2 ^ (nn * (hi - lo)) := by
  have h1 := val_bound (two_pos nn) (xs := cut ds lo hi) fun d hd => h d (cut_in hd)
  rw [cut_length hle, ← Int.pow_mul] at h1
  exact h1
/-- the k lowest digits, lowest first -/
def dig (b : Nat) : Nat → Nat → List Int
  | 0, _ => []
  | k + 1, x => ((x % b : Nat) : Int) :: dig b k (x / b)
theorem dig_length (b : Nat) : ∀ k x, (dig b k x).length = k
  | 0, _ => rfl
  | k + 1, x => by rw [dig, List.length_cons, dig_length b k]
theorem dig_add (b : Nat) : ∀ j k x, dig b (j + k) x = dig b j x ++ dig b k (x / b ^ j)
  | 0, k, x => by simp [dig]
  | j + 1, k, x => by
    rw [show j + 1 + k = (j + k) + 1 by omega, dig, dig, dig_add b j k, List.cons_append, Nat.div_div_eq_div_mul, Nat.pow_succ, Nat.mul_comm b]
theorem dig_mod (b : Nat) : ∀ j x, dig b j (x % b ^ j) = dig b j x
  | 0, _ => rfl
  | j + 1, x => by
    rw [dig, dig]
    have h1 : x % b ^ (j + 1) % b = x % b := Nat.mod_mod_of_dvd x ⟨b ^ j, by rw [Nat.pow_succ, Nat.mul_comm]⟩
    have h2 : x % b ^ (j + 1) / b = x / b % b ^ j := by
      rw [Nat.pow_succ, Nat.mul_comm, Nat.mod_mul_right_div_self]
    rw [h1, h2, dig_mod b j]
theorem dig_in {b : Nat} (hb : 0 < b) : ∀ k x, ∀ d ∈ dig b k x, 0 ≤ d ∧ d < (b : Int)
  | 0, _, d, h => by simp [dig] at h
  | k + 1, x, d, h => by
    rw [dig] at h
    rcases List.mem_cons.mp h with rfl | h
    · have := Nat.mod_lt x hb
      omega
    · exact dig_in hb k _ d h
theorem val_dig (b : Nat) : ∀ k x, x < b ^ k → val (b : Int) (dig b k x) = (x : Int)
  | 0, x, h => by
    have : x = 0 := by simpa using h
    rw [this]; rfl
  | k + 1, x, h => by
    have hx : x / b < b ^ k := by
      rw [Nat.pow_succ, Nat.mul_comm] at h
      exact Nat.div_lt_of_lt_mul h
    rw [dig, val, val_dig b k _ hx, ← Int.natCast_mul, ← Int.natCast_add, Nat.mod_add_div]
/-- xs laid over ns from lo on -/
def put (ns : List Int) (lo : Nat) (xs : List Int) : List Int := ns.take lo ++ xs ++ ns.drop (lo + xs.length)
theorem put_length {ns xs : List Int} {lo : Nat} (h : lo + xs.length ≤ ns.length) : (put ns lo xs).length = ns.length := by
  simp only [put, List.length_append, List.length_take, List.length_drop]; omega
theorem put_put {ns xs ys : List Int} {lo : Nat} (h : lo + xs.length + ys.length ≤ ns.length) : put (put ns lo xs) (lo + xs.length) ys = put ns lo (xs ++ ys) := by
  have e1 : (ns.take lo ++ xs).length = lo + xs.length := by simp only [List.length_append, List.length_take]; omega
  simp only [put]
  rw [List.take_append_of_le_length (by omega), List.take_of_length_le (by omega), List.drop_append, List.drop_of_length_le (by omega), List.nil_append, List.drop_drop, e1, List.length_append, ← List.append_assoc,
    show lo + xs.length + (lo + xs.length + ys.length - (lo + xs.length)) = lo + (xs.length + ys.length) by omega]
theorem put_one {ns : List Int} {lo : Nat} {x : Int} (h : lo < ns.length) : ns.set lo x = put ns lo [x] := by
  rw [put, List.set_eq_take_append_cons_drop, if_pos h, List.append_assoc]; rfl
theorem put_all {ns xs : List Int} (h : xs.length = ns.length) : put ns 0 xs = xs := by
  simp [put, h]
theorem xor_low (x s : Nat) : (x &&& (x / 2 ^ s * 2 ^ s)) = x / 2 ^ s * 2 ^ s := by
  refine Nat.eq_of_testBit_eq fun i => ?_
  rw [Nat.testBit_and, Nat.testBit_mul_two_pow, Nat.testBit_div_two_pow]
  by_cases h : s ≤ i
  · rw [show i - s + s = i by omega]; simp [h]
  · simp [h]
theorem dig_one {b x : Nat} (h : x < b) : dig b 1 x = [(x : Int)] := by
  rw [dig, dig, Nat.mod_eq_of_lt h]
theorem fdiv_two (x s : Nat) : (x : Int).fdiv (2 ^ s) = ((x / 2 ^ s : Nat) : Int) := by
  rw [Int.fdiv_eq_ediv_of_nonneg _ (Int.le_of_lt (Int.pow_pos (by decide))), Int.natCast_ediv, Int.natCast_pow]; rfl
theorem dig_split {nn lo mid hi x : Nat} {ns : List Int} (h1 : lo ≤ mid) (h2 : mid ≤ hi) (h3 : hi ≤ ns.length) :
    put (put ns lo (dig (2 ^ nn) (mid - lo) (x % 2 ^ ((mid - lo) * nn)))) mid (dig (2 ^ nn) (hi - mid) (x / 2 ^ ((mid - lo) * nn))) = put ns lo (dig (2 ^ nn) (hi - lo) x) := by
  have e : 2 ^ ((mid - lo) * nn) = (2 ^ nn) ^ (mid - lo) := by rw [Nat.mul_comm, Nat.pow_mul]
  have e2 := put_put (ns := ns) (xs := dig (2 ^ nn) (mid - lo) x) (ys := dig (2 ^ nn) (hi - mid) (x / (2 ^ nn) ^ (mid - lo))) (lo := lo) (by rw [dig_length, dig_length]; omega)
  rw [dig_length, show lo + (mid - lo) = mid by omega, ← dig_add, show mid - lo + (hi - mid) = hi - lo by omega] at e2
  rw [e, dig_mod]
  exact e2
end Mine
end
section
open PySem PySem.W PyProof.Rows PySem.Calls
set_option Elab.async false
set_option maxRecDepth 100000
set_option maxHeartbeats 8000000
namespace Mine
theorem fill : hd.heap_39 = hd.heap_39 ∧ PySem.Challenge.rw_zr0002_01 = PySem.Challenge.rw_zr0002_01 := by
  k_fill
  exact ⟨rfl, rfl⟩
local macro_rules | `(tactic| walk_at "my enter") => `(tactic| (refine' code_def (binds := _) ?k1 ?k2 ?k3 ?k4 ?k5 ?kA ?kF ?kK ?k6 ?k7 ?k8 ?k9 ?kB ?_ ?c2 ?c3 ?c4 ?c5; (case kA => exact rfl); (case kF => exact rfl); (case kK => assumption); (case k1 => k_asm); (case k2 => k_asm); (case k3 => k_asm); (case k4 => k_asm); (case k5 => k_asm); (case k6 => k_is); (case k7 => k_is); (case k8 => ktr_room); (case k9 => exact BindsTo.of_eq rfl); (case c5 => decide); (case kB => exact locs rfl); (case c2 => exact rfl); (case c3 => exact rfl); (case c4 => exact rfl); k_whole; intro g' L' h' FG' F' N' B' X' T'))

def lets (x : Nat) : List Int :=
  if x = 0 then [] else lets (x / 16) ++ [((65 + x % 16 : Nat) : Int)]
termination_by x
decreasing_by omega
theorem lets_zero : lets 0 = [] := by rw [lets]; simp
theorem lets_pos {x : Nat} (h : x ≠ 0) : lets x = lets (x / 16) ++ [((65 + x % 16 : Nat) : Int)] := by rw [lets]; simp [h]
abbrev apArr : Array UInt8 := #[65, 66, 67, 68, 69, 70, 71, 72, 73, 74, 75, 76, 77, 78, 79, 80]
abbrev apInts : List Int := [65, 66, 67, 68, 69, 70, 71, 72, 73, 74, 75, 76, 77, 78, 79, 80]
theorem ap_cut (x : Nat) : ((apInts.drop (clipAt apInts.length (Int.fmod (x : Int) 16))).take (clipAt apInts.length (Int.fmod (x : Int) 16 + 1) - clipAt apInts.length (Int.fmod (x : Int) 16))) = [((65 + x % 16 : Nat) : Int)] := by
  have e : Int.fmod (x : Int) 16 = ((x % 16 : Nat) : Int) := by
    rw [Int.fmod_eq_emod_of_nonneg _ (by decide)]; rfl
  rw [e]
  have h : ∀ r : Nat, r < 16 → ((apInts.drop (clipAt apInts.length ((r : Nat) : Int))).take (clipAt apInts.length (((r : Nat) : Int) + 1) - clipAt apInts.length ((r : Nat) : Int))) = [((65 + r : Nat) : Int)] := by decide
  exact h _ (Nat.mod_lt _ (by decide))

theorem int2ap {prog : Program} {w : World} {dp un : Nat} {gd : Option (List Code)} {cn : Str} {cs : Scope} {a : Addr} {ccd : Value} {cl : List (Str × Addr)} {outer : List Env} {A₀ : Around} {base h₀ : Heap} {L : Addr} {m mg mb : Str → Option Value}
    {news : List (Addr × Obj)} {s : Shared} {Q E : Value → Shared → Prop} {p : Program} {loose : List Str} {mean : ExcName → Option Value} {n : Nat} {t : Tok}
    (B : Below A₀ base outer h₀) (F : Fr h₀ L s.heap m) (X : (hd.heap_39 w.params).In h₀) (N : News h₀ L s.heap news) (T : Top p loose mean mg mb h₀) (hk : cs.kind = .function)
    (hn1 : n < 10 ^ 40) (hdp : dp + 5 < recursionLimit) (hun : un + 40 < cLine)
    (hret : ∀ b t' h' tk', Fr h₀ L h' m → News h₀ L h' news → KBw.bInts b = lets n → (lets n).length ≤ 34 → Q (.bytes b t') { s with heap := h', toks := tk' }) :
    wpAny (model prog w) (ktrTop dp un gd cn cs L a ccd cl outer) (call (.ref 21) [.int (n : Int) t]) Q E s := by
  refine wpAny_call ?_
  k_dflt (refine' code_def (binds := [(PySem.Str.ofString "num", .int (n : Int) t)]) ?k1 ?k2 ?k3 ?k4 ?k5 ?kA ?kF ?kK ?k6 ?k7 ?k8 ?k9 ?kB ?_ ?c2 ?c3 ?c4 ?c5; (case kA => exact rfl); (case kF => exact rfl); (case kK => assumption); (case k1 => k_asm); (case k2 => k_asm); (case k3 => k_asm); (case k4 => k_asm); (case k5 => k_asm); (case k6 => k_is); (case k7 => k_is); (case k8 => ktr_room); (case k9 => exact BindsTo.of_eq rfl); (case c5 => decide); (case kB => exact locs rfl); (case c2 => exact rfl); (case c3 => exact rfl); (case c4 => exact rfl); k_whole; intro g' L' h' FG' F' N' B' X' T'; (try dsimp only); (try k_lift B'); (try k_fold))
  repeat' ((fail_if_success (with_reducible show wpAny _ _ (exec (Stmt.While _ _ _ _) _) _ _ _)); walk1)
  rename Fr g' L' _ _ => F1
  rename News g' L' _ _ => N1
  rw [if_neg (by omega : ¬ ((n : Int) < 0))] at F1
  refine While_inv (fun k m₁ nx => nx = news ∧ ∃ (x : Nat) (b : Array UInt8) (acc : List Int) (j : Nat) (u1 u2 u3 : Tok), x = k ∧ m₁ (PySem.Str.ofString "num") = some (.int (x : Int) u1) ∧ m₁ (PySem.Str.ofString "val") = some (.bytes b u2) ∧ m₁ (PySem.Str.ofString "AP") = some (.bytes apArr u3) ∧ KBw.bInts b = acc ∧ lets x ++ acc = lets n ∧ x < 16 ^ j ∧ acc.length + j = 34) (n₀ := n) F1 N1 ⟨rfl, n, #[], [], 34, _, _, _, rfl, rfl, rfl, rfl, rfl, ?_, ?_, ?_⟩ ?_
  · exact List.append_nil _
  · exact Nat.lt_trans hn1 (by decide)
  · rfl
  · rintro k m₁ nx h₁ tk₁ F₁ N₁ ⟨rfl, x, b, acc, j, u1, u2, u3, rfl, e1, e2, e3, e4, e5, e6, e7⟩
    replace F₁ := fr_see3 F₁ e1 e2 e3
    have hap : KBw.bInts apArr = apInts := rfl
    clear F1 N1
    k_steps
    · rename ((x : Int) ≠ 0) => hx0
      rename Fr g' L' _ _ => F2
      rename News g' L' _ _ => N2
      rename (KBw.bInts (KBy.picked apArr _ _ ++ b) = _) => hap2
      have hx : x ≠ 0 := fun q => hx0 (by rw [q]; rfl)
      rw [ap_cut] at hap2
      have hdiv : Int.fdiv (x : Int) 16 = ((x / 16 : Nat) : Int) := by rw [Int.fdiv_eq_ediv_of_nonneg _ (by decide)]; rfl
      obtain ⟨j, rfl⟩ : ∃ i, j = i + 1 := ⟨j - 1, by
        have : j ≠ 0 := fun q => by rw [q] at e6; omega
        omega⟩
      refine WhileStep.intro (n' := x / 16) F2 (fun p hp => N2 p (List.mem_cons_of_mem _ hp)) (by omega) ⟨rfl, x / 16, _, _, j, _, _, _, rfl, congrArg (fun z => some (Value.int z _)) hdiv, rfl, rfl, hap2, ?_, ?_, ?_⟩
      · rw [← e5, lets_pos hx, List.append_assoc]
      · rw [Nat.pow_succ] at e6; exact Nat.div_lt_of_lt_mul (by omega)
      · simp only [List.length_append, List.length_cons, List.length_nil]; omega
    · rename ((x : Int) = 0) => hx0
      have hx : x = 0 := by omega
      subst hx
      exact hret b u2 _ _ (by assumption) (by assumption) (by rw [e4, ← e5, lets_zero, List.nil_append]) (by rw [← e5, lets_zero, List.nil_append]; omega)
end Mine
end
section
open PySem PySem.W PyProof.Rows PySem.Calls
set_option Elab.async false
set_option maxRecDepth 100000
set_option maxHeartbeats 8000000
namespace Mine
open PyProof.Rows.LCg

theorem ints_snoc {ys : List Value} {ns : List Int} {n : Int} {t : Tok} (h : IntsAre ys ns) : IntsAre (ys ++ [.int n t]) (ns ++ [n]) := by
  induction h with
  | nil => exact .cons n t .nil
  | cons m u _ ih => exact .cons m u ih

def EltIs (prog : Program) (w : World) (A : Around) (elt : Expr) (x : Str) (scope : Scope) (cl : List (Str × Addr)) (env : Env) (f : Int → Int) : Prop :=
  ∀ (k : Int) (t : Tok) (C : Addr) (m₂ : Str → Option Value) (s' : Shared) (Q E : Value → Shared → Prop), s'.heap.Ns C m₂ → m₂ x = some (.int k t) → (∀ t' tk', Q (.int (f k) t') { s' with toks := tk' }) → wpAny (model prog w) A (eval elt (compEnvC scope cl C env)) Q E s'

section
variable {prog : Program} {w : World} {A : Around} {E : Value → Shared → Prop} {s : Shared} {h₀ : Heap} {L : Addr} {m : Str → Option Value} {env : Env} {elt iter : Expr} {x : Str} {px pos : Pos} {scope : Scope} {cl : List (Str × Addr)} {f : Int → Int}

theorem comp_rest {b : Array UInt8} {ks : List Int} {news : List (Addr × Obj)} {Fin : List Value → List (Addr × Obj) → Prop} (he : EltIs prog w A elt x scope cl env f) (hk : KBw.bInts b = ks) (hfin : ∀ ys, IntsAre ys (ks.map f) → Fin ys news) :
    ∀ k i ys, i + k = b.size → IntsAre ys ((ks.take i).map f) → CompRest prog w A h₀ L m env elt x scope cl s (fun nw => nw = news) (fun i v => ∃ c u, b[i]? = some c ∧ v = .int (c.toNat : Int) u) Fin k i ys news := by
  intro k
  induction k with
  | zero =>
    intro i ys hi hy
    refine CompRest.zero (hfin ys ?_)
    rw [← KBw.ints_length, hk] at hi
    rw [List.take_of_length_le (by omega)] at hy
    exact hy
  | succ k ih =>
    intro i ys hi hy
    refine CompRest.succ fun v I oI C oC D m₂ h tk E' hP hoC hx F N off ne => ?_
    obtain ⟨c, u, hc, rfl⟩ := hP
    refine he _ u C m₂ _ _ _ (hoC.ns (N (C, oC) (List.mem_cons_of_mem _ List.mem_cons_self)).1) hx fun t' tk' => ?_
    refine CompEnd.intro F N news (fun p hp => hp) off rfl (ih (i + 1) _ (by omega) ?_)
    have e := KBw.ints_get hc
    rw [hk] at e
    rw [List.take_add_one, e, List.map_append]
    exact ints_snoc hy

def BytesSrc (A : Around) (h₀ : Heap) (L : Addr) (m : Str → Option Value) (f : Int → Int) (Q : Value → Shared → Prop) (xv : Value) (s₁ : Shared) : Prop :=
  ∃ b t ks news, xv = .bytes b t ∧ KBw.bInts b = ks ∧ ks.length ≤ sizeLine ∧ A.handled = none ∧ Fr h₀ L s₁.heap m ∧ News h₀ L s₁.heap news ∧
    ∀ D ys n h' tk', IntsAre ys (ks.map f) → Fr h₀ L h' m → News h₀ L h' ((D, listOf ys.toArray n) :: news) → Off1 D news → Q (.ref D) { s₁ with heap := h', toks := tk' }
theorem BytesSrc.intro {b : Array UInt8} {t : Tok} {ks : List Int} {news : List (Addr × Obj)} {Q : Value → Shared → Prop} {s₁ : Shared} (hk : KBw.bInts b = ks) (hz : ks.length ≤ sizeLine) (hh : A.handled = none) (F : Fr h₀ L s₁.heap m) (N : News h₀ L s₁.heap news)
    (h : ∀ D ys n h' tk', IntsAre ys (ks.map f) → Fr h₀ L h' m → News h₀ L h' ((D, listOf ys.toArray n) :: news) → Off1 D news → Q (.ref D) { s₁ with heap := h', toks := tk' }) : BytesSrc A h₀ L m f Q (.bytes b t) s₁ :=
  ⟨b, t, ks, news, rfl, hk, hz, hh, F, N, h⟩

theorem bytes_st {I : Addr} {b : Array UInt8} {t : Tok} {news : List (Addr × Obj)} : ∀ i (h h' : Heap) (o : Obj) (nw : List (Addr × Obj)), KBw.IsBytesIter h I b t i → h.get? I = some o → h'.get? I = some o → (∀ b o, h₀.get? b = some o → h'.get? b = some o) → News h₀ L h' nw → nw = news → KBw.IsBytesIter h' I b t i :=
  fun i h h' o nw st e e' _ _ _ => by
    obtain ⟨o', q, r⟩ := st
    rw [e] at q; cases q
    exact ⟨o, e', r⟩

theorem comp_bytes {Q : Value → Shared → Prop} (_F₀ : Fr h₀ L s.heap m) (hclos : closureFor scope env = pure cl) (hcell : ∀ y ∈ scope.names, y.2 ≠ .cell) (hkind : scope.kind = .function)
    (hnames : ∀ y ∈ scope.names, y.2 = .local → scope.names.lookup y.1 = some .local) (hx : scope.names.lookup x = some .local) (he : EltIs prog w A elt x scope cl env f)
    (h : wpAny (model prog w) A (eval iter env) (BytesSrc A h₀ L m f Q) E s)
    (hs : ∀ x, foldedSetIterable iter env x = pure x := by intro _; rfl) :
    wpAny (model prog w) A (eval (.ListComp elt [⟨.Name x px, iter, [], 0⟩] scope pos) env) Q E s := by
  rw [eval_ListComp]
  refine wpAny_comprehension_free (use := none) rfl hs hclos hkind hnames (wpAny_mono h (fun xv s₁ h₁ => ?_) fun _ _ e => e)
  obtain ⟨b, t, ks, news, rfl, hk, hz, hh, F, N, R⟩ := h₁
  refine KBw.pyIter_bytes ?_
  refine block_U (S := fun nw => nw = news) (Fin := fun ys nw => nw = news ∧ IntsAre ys (ks.map f)) (KBw.walks hh s₁.heap.objs.size b t) (by rw [← KBw.ints_length, hk]; exact hz) (fun i h st => by obtain ⟨o, e, _⟩ := st; exact ⟨o, e⟩) bytes_st hcell hkind hx ⟨_, Heap.get?_push_size _ rfl, rfl, rfl⟩ (fun b hb => ?_)
      (F.keeps fun _ _ e => Heap.get?_push_of_some _ e) (N.grown fun _ _ e => Heap.get?_push_of_some _ e) (Nat.ne_of_lt F.ns.lt) (next_is_new F) (fun p hp => Nat.ne_of_lt (Heap.lt_size (N p hp).1)) rfl (comp_rest he hk (fun ys hy => ⟨rfl, hy⟩) b.size 0 [] (by omega) .nil) ?_
  · rw [List.mem_singleton.mp hb]
    show s₁.heap.objs.size < (s₁.heap.push _).objs.size
    rw [Heap.size_push]; exact Nat.lt_succ_self _
  · intro D C h tk m' ys news' F' N' o1 hn hC₀ hD₀ hCL hDL hCD offC fin
    obtain ⟨rfl, hys⟩ := fin
    refine ⟨m', hn, fun h'' hs'' => R D ys ys.length h'' tk hys (F'.change hs'' hCL hC₀) (fun p hp => ?_) o1⟩
    refine ⟨hs''.extBut _ _ ?_ (N' p hp).1, (N' p hp).2⟩
    rcases List.mem_cons.mp hp with rfl | hp
    · exact Ne.symm hCD
    · exact offC p hp

def BytesSrcA (A : Around) (h₀ : Heap) (L : Addr) (m : Str → Option Value) (f : Int → Int) (y : Str) (Q : Flow → Shared → Prop) (xv : Value) (s₁ : Shared) : Prop :=
  ∃ b t ks news, xv = .bytes b t ∧ KBw.bInts b = ks ∧ ks.length ≤ sizeLine ∧ A.handled = none ∧ Fr h₀ L s₁.heap m ∧ News h₀ L s₁.heap news ∧
    ∀ D ys n h' tk', IntsAre ys (ks.map f) → Fr h₀ L h' (fun z => if z = y then some (.ref D) else m z) → News h₀ L h' ((D, listOf ys.toArray n) :: news) → Off1 D news → Q .next { s₁ with heap := h', toks := tk' }
theorem BytesSrcA.intro {b : Array UInt8} {t : Tok} {ks : List Int} {news : List (Addr × Obj)} {y : Str} {Q : Flow → Shared → Prop} {s₁ : Shared} (hk : KBw.bInts b = ks) (hz : ks.length ≤ sizeLine) (hh : A.handled = none) (F : Fr h₀ L s₁.heap m) (N : News h₀ L s₁.heap news)
    (h : ∀ D ys n h' tk', IntsAre ys (ks.map f) → Fr h₀ L h' (fun z => if z = y then some (.ref D) else m z) → News h₀ L h' ((D, listOf ys.toArray n) :: news) → Off1 D news → Q .next { s₁ with heap := h', toks := tk' }) : BytesSrcA A h₀ L m f y Q (.bytes b t) s₁ :=
  ⟨b, t, ks, news, rfl, hk, hz, hh, F, N, h⟩

theorem assign_comp_bytes {y : Str} {py spos : Pos} {Q : Flow → Shared → Prop} (_F₀ : Fr h₀ L s.heap m) (hLe : env.locals = L)
    (hsw : swapsWith (.ListComp elt [⟨.Name x px, iter, [], 0⟩] scope pos) (some (.Name y py)) spos.line env = pure true)
    (hclos : closureFor scope env = pure cl) (hcell : ∀ y ∈ scope.names, y.2 ≠ .cell) (hkind : scope.kind = .function)
    (hnames : ∀ y ∈ scope.names, y.2 = .local → scope.names.lookup y.1 = some .local) (hx : scope.names.lookup x = some .local)
    (hy : env.kindOf y = some .local) (hp : (env.scope.kind == .class || (env.scope.kind == .module && env.locals != env.globals)) = false) (he : EltIs prog w A elt x scope cl env f)
    (h : wpAny (model prog w) A (eval iter env) (BytesSrcA A h₀ L m f y Q) E s)
    (hs : ∀ x, foldedSetIterable iter env x = pure x := by intro _; rfl) :
    wpAny (model prog w) A (exec (.Assign [.Name y py] (.ListComp elt [⟨.Name x px, iter, [], 0⟩] scope pos) spos) env) Q E s := by
  subst hLe
  rw [exec_Assign_Name_used _ _ _ _ hsw]
  refine wpAny_bind (wpAny_standAt (wpAny_bind ?_))
  show wpAny _ A (do let _ ← comprehension (.ListComp elt [⟨.Name x px, iter, [], 0⟩] scope pos) scope env _ (newList []) false (eval iter env) (some (assign (.Name y py) env))) _ _ s
  refine wpAny_bind (wpAny_mono (wpAny_comprehension_free (use := some (assign (.Name y py) env)) (Q := fun _ s' => Q .next s') rfl hs hclos hkind hnames
    (wpAny_mono h (fun xv s₁ h₁ => ?_) fun _ _ e => e)) (fun _ s' hq => wpAny_pure (wpAny_pure hq)) fun _ _ e => e)
  obtain ⟨b, t, ks, news, rfl, hk, hz, hh, F, N, R⟩ := h₁
  refine KBw.pyIter_bytes ?_
  refine block_U (S := fun nw => nw = news) (Fin := fun ys nw => nw = news ∧ IntsAre ys (ks.map f)) (KBw.walks hh s₁.heap.objs.size b t) (by rw [← KBw.ints_length, hk]; exact hz) (fun i h st => by obtain ⟨o, e, _⟩ := st; exact ⟨o, e⟩) bytes_st hcell hkind hx ⟨_, Heap.get?_push_size _ rfl, rfl, rfl⟩ (fun b hb => ?_)
      (F.keeps fun _ _ e => Heap.get?_push_of_some _ e) (N.grown fun _ _ e => Heap.get?_push_of_some _ e) (Nat.ne_of_lt F.ns.lt) (next_is_new F) (fun p hp => Nat.ne_of_lt (Heap.lt_size (N p hp).1)) rfl (comp_rest he hk (fun ys hy => ⟨rfl, hy⟩) b.size 0 [] (by omega) .nil) ?_
  · rw [List.mem_singleton.mp hb]
    show s₁.heap.objs.size < (s₁.heap.push _).objs.size
    rw [Heap.size_push]; exact Nat.lt_succ_self _
  · intro D C h' tk m' ys news' F' N' o1 hn hC₀ hD₀ hCL hDL hCD offC fin
    obtain ⟨rfl, hys⟩ := fin
    show wpAny _ A (assign (.Name y py) env (.ref D)) _ _ _
    refine wpAny_assign_Name (wpAny_storeName_local hy F'.ns (fun h₂ hn₂ hs₂ => ?_) hp)
    have hL₀ : h₀.get? env.locals = none := Heap.get?_none_of_le F'.above
    have F₂ : Fr h₀ env.locals h₂ (fun z => if z = y then some (.ref D) else m z) := ⟨hn₂, fun b o e => hs₂.extBut b o (fun q => by rw [q, hL₀] at e; cases e) (F'.keep b o e), F'.above⟩
    refine ⟨m', hn.sameBut hs₂ hCL, fun h'' hs'' => R D ys ys.length h'' _ hys (F₂.change hs'' hCL hC₀) (fun p hp => ?_) o1⟩
    have z : h₂.get? p.1 = some p.2 := hs₂.extBut _ _ (N' p hp).2.1 (N' p hp).1
    refine ⟨hs''.extBut _ _ ?_ z, (N' p hp).2⟩
    rcases List.mem_cons.mp hp with rfl | hp
    · exact Ne.symm hCD
    · exact offC p hp
end
section
variable {prog : Program} {w : World} {A : Around} {x : Str} {scope : Scope} {cl : List (Str × Addr)} {env : Env}
theorem elt_name {px : Pos} (hk : scope.kind = .function) (hl : ∀ C, (compEnvC scope cl C env).kindOf x = some .local) (hd : (x == ("__debug__" : Str)) = false) :
    EltIs prog w A (.Name x px) x scope cl env (fun k => k) := by
  intro k t C m₂ s' Q E hn hx h
  exact ldVarK hn hx (h t _) hk (hl C) hd
theorem elt_sub {px p1 p2 : Pos} {c : Int} (hk : scope.kind = .function) (hl : ∀ C, (compEnvC scope cl C env).kindOf x = some .local) (hd : (x == ("__debug__" : Str)) = false) :
    EltIs prog w A (.BinOp (.Name x px) .Sub (.Constant (.int c) 0 p1) p2) x scope cl env (fun k => k - c) := by
  intro k t C m₂ s' Q E hn hx h
  refine wpAny_BinOp (ldVarK hn hx ?_ hk (hl C) hd)
  refine wpAny_Constant_int ?_
  exact sub_int (h _ _)
end
end Mine
end
section
open PySem PySem.W PyProof.Rows PySem.Calls
set_option Elab.async false
set_option maxRecDepth 100000
set_option maxHeartbeats 8000000
namespace Mine
theorem fill2 : hd.heap_39 = hd.heap_39 ∧ PySem.Challenge.rw_zr0002_01 = PySem.Challenge.rw_zr0002_01 := by
  k_fill
  exact ⟨rfl, rfl⟩

local macro_rules | `(tactic| walk_at "call ref") => `(tactic| (k_here; k_dflt (refine' int2ap ?k1 ?k2 ?k3 ?k4 ?k5 ?kK ?b1 ?b2 ?b3 ?_; (case k1 => k_asm); (case k2 => k_asm); (case k3 => k_asm); (case k4 => k_asm); (case k5 => k_asm); (case kK => first | exact rfl | assumption); (case b1 => assumption); (case b2 => ktr_room); (case b3 => ktr_units); intro b9 t9 h9 tk9 F9 N9 hb9 hz9; (try dsimp only))))
local macro_rules | `(tactic| walk_at "BytesSrc") => `(tactic| (k_dflt (refine' BytesSrc.intro ?k ?z ?hh ?F ?N ?_; (case k => kba_ints); (case z => (rw [sizeLine_eq]; kba_size)); (case hh => rfl); (case F => k_asm); (case N => k_asm); k_whole; intro D' ys' n' h' tk' hI' F' N' o1'; (try simp only [LCg.Off1, and_true] at o1'); (try dsimp only))))
theorem law_letters {prog : Program} {w : World} {dp un : Nat} {gd : Option (List Code)} {cn : Str} {cs : Scope} {a : Addr} {ccd : Value} {cl : List (Str × Addr)} {outer : List Env} {A₀ : Around} {base h₀ : Heap} {L : Addr} {m mg mb : Str → Option Value}
    {news : List (Addr × Obj)} {s : Shared} {Q E : Value → Shared → Prop} {p : Program} {loose : List Str} {mean : ExcName → Option Value} {n : Nat} {t : Tok}
    (B : Below A₀ base outer h₀) (F : Fr h₀ L s.heap m) (X : (hd.heap_39 w.params).In h₀) (N : News h₀ L s.heap news) (T : Top p loose mean mg mb h₀) (hk : cs.kind = .function)
    (hn1 : n < 10 ^ 40) (hdp : dp + 10 < recursionLimit) (hun : un + 80 < cLine)
    (hret : ∀ D ys e h' tk', Fr h₀ L h' m → News h₀ L h' ((D, listOf ys.toArray e) :: news) → LCg.Off1 D news → IntsAre ys ((lets n).map (fun k => k - 65)) → Q (.ref D) { s with heap := h', toks := tk' }) :
    wpAny (model prog w) (ktrTop dp un gd cn cs L a ccd cl outer) (call (.ref 47) [.int (n : Int) t]) Q E s := by
  refine wpAny_call ?_
  k_dflt (refine' code_def (binds := [(PySem.Str.ofString "number", .int (n : Int) t)]) ?k1 ?k2 ?k3 ?k4 ?k5 ?kA ?kF ?kK ?k6 ?k7 ?k8 ?k9 ?kB ?_ ?c2 ?c3 ?c4 ?c5; (case kA => exact rfl); (case kF => exact rfl); (case kK => assumption); (case k1 => k_asm); (case k2 => k_asm); (case k3 => k_asm); (case k4 => k_asm); (case k5 => k_asm); (case k6 => k_is); (case k7 => k_is); (case k8 => ktr_room); (case k9 => exact BindsTo.of_eq rfl); (case c5 => decide); (case kB => exact locs rfl); (case c2 => exact rfl); (case c3 => exact rfl); (case c4 => exact rfl); k_whole; intro g' L' h' FG' F' N' B' X' T'; (try dsimp only); (try k_lift B'); (try k_fold))
  repeat' ((fail_if_success (with_reducible show wpAny _ _ (eval (Expr.ListComp _ _ _ _) _) _ _ _)); walk1)
  k_dflt (refine' comp_bytes (cl := []) ?hF ?h1 ?h2 ?h3 ?h4 ?h5 (elt_sub rfl (fun C => rfl) (by decide)) ?_; (case hF => k_asm); (case h1 => rfl); (case h2 => decide); (case h3 => rfl); (case h4 => decide); (case h5 => rfl))
  k_steps
  exact hret _ _ _ _ _ (by k_asm) (by k_asm) (by assumption) (by assumption)
end Mine
end
section
open PySem PySem.W PyProof.Rows PySem.Calls PySem.Spec
set_option Elab.async false
set_option maxRecDepth 100000
set_option maxHeartbeats 8000000
namespace Mine

theorem updF_of {d : Addr} {o : Obj} {post : List (Addr × Obj)} (h2 : ∀ p ∈ post, p.1 ≠ d) : ∀ {pre : List (Addr × Obj)}, (∀ p ∈ pre, p.1 ≠ d) → UpdF d o (pre ++ (d, o) :: post) (fun o' => pre ++ (d, o') :: post)
  | [], _ => .head h2
  | _ :: _, h1 => .tail (h1 _ List.mem_cons_self) (updF_of h2 fun p hp => h1 p (List.mem_cons_of_mem _ hp))

/-- what a nested def's table holds: nothing yet, or the one code object -/
def TabSt (line col : Int) (qual : Str) (ps : Array Value) (codes : List (Addr × Obj)) : Prop :=
  ps = #[] ∨ ∃ c' oc vs t, ps = #[rawInt line, rawInt col, .ref c'] ∧ (c', oc) ∈ codes ∧ oc.data = .fields vs ∧ vs[1]? = some (.str qual t)
theorem TabSt.mono {line col : Int} {qual : Str} {ps : Array Value} {codes codes' : List (Addr × Obj)} (h : TabSt line col qual ps codes) (k : ∀ p ∈ codes, p ∈ codes') : TabSt line col qual ps codes' := by
  rcases h with h | ⟨c', oc, vs, t, h1, h2, h3, h4⟩
  · exact .inl h
  · exact .inr ⟨c', oc, vs, t, h1, k _ h2, h3, h4⟩

section
variable {M : Model} {A : Around} {E : Value → Shared → Prop} {s : Shared} {h₀ : Heap} {L a c P : Addr} {m mg mb : Str → Option Value} {cn : Str} {cs : Scope} {ccd : Value} {cl : List (Str × Addr)}
  {p : Program} {loose : List Str} {mean : ExcName → Option Value} {name qual : Str} {params : Arguments} {body : List Stmt} {scope : Scope} {ps : Array Value} {pos : Pos} {firstLine : Nat} {clos : List (Str × Addr)} {pre post : List (Addr × Obj)}
theorem nest_any {Q : Value → Shared → Prop} (F : Fr h₀ L s.heap m) (T : Top p loose mean mg mb h₀) (C : CodeHd h₀ c P) (hcd : ccd = .ref c)
    (N : News h₀ L s.heap (pre ++ (P, tabObj ps) :: post)) (h1 : ∀ q ∈ pre, q.1 ≠ P) (h2 : ∀ q ∈ post, q.1 ≠ P) (G : TabSt pos.line pos.col qual ps post)
    (hcl : closureFor scope (envX cn cs L a ccd cl) = pure clos)
    (h : ∀ f c' oc vs t ctv doc h' tk ps' extra, Fr h₀ L h' m →
      News h₀ L h' ((f, fnMade name qual params body scope clos doc ((mg "__name__").getD .none) c' ctv) :: (pre ++ (P, tabObj ps') :: (post ++ extra))) →
      (c', oc) ∈ post ++ extra → oc.data = .fields vs → vs[1]? = some (.str qual t) → TabSt pos.line pos.col qual ps' (post ++ extra) →
      (∀ q ∈ pre ++ (P, tabObj ps) :: post, q.1 < f) → (∀ r ∈ extra, ∀ q ∈ pre ++ (P, tabObj ps) :: post, q.1 < r.1) → Q (.ref f) { s with heap := h', toks := tk }) :
    wpAny M A (makeFunction name qual params (.stmts body) scope (envX cn cs L a ccd cl) [] [] [] pos firstLine) Q E s := by
  rcases G with rfl | ⟨c', oc, vs, t, rfl, hm, hd, hv⟩
  · refine nest_K F N T C hcd (updF_of h2 h1) True.intro rfl hcl fun f c' oc vs t ctv doc h' tk F' N' hd hv l1 l2 => ?_
    refine h f c' oc vs t ctv doc h' tk (#[] ++ #[rawInt pos.line, rawInt pos.col, .ref c']) [(c', oc)] F' (fun q hq => N' q ?_) (List.mem_append_right _ List.mem_cons_self) hd hv ?_ (fun q hq => Nat.lt_trans (l1 q hq) l2) ?_
    · simp only [List.mem_cons, List.mem_append, List.not_mem_nil, or_false] at hq ⊢
      rcases hq with hq | hq | hq | hq | hq
      · exact .inl hq
      · exact .inr (.inr (.inl hq))
      · exact .inr (.inr (.inr (.inl hq)))
      · exact .inr (.inr (.inr (.inr hq)))
      · exact .inr (.inl hq)
    · exact .inr ⟨c', oc, vs, t, rfl, List.mem_append_right _ List.mem_cons_self, hd, hv⟩
    · intro r hr q hq
      rw [List.mem_singleton.mp hr]
      exact l1 q hq
  · refine nestHit_K (c' := c') F N T C hcd (List.mem_append_right _ List.mem_cons_self) (by simp [TriplesOk, rawInt]) (by simp [codeAmong, rawInt]) hcl fun f ctv doc h' tk F' N' l1 => ?_
    refine h f c' oc vs t ctv doc h' tk #[rawInt pos.line, rawInt pos.col, .ref c'] [] F' (by rw [List.append_nil]; exact N') (by rw [List.append_nil]; exact hm) hd hv ?_ l1 (fun _ h => nomatch h)
    rw [List.append_nil]
    exact .inr ⟨c', oc, vs, t, rfl, hm, hd, hv⟩
end
end Mine
end
section
open PySem PySem.W PyProof.Rows PySem.Calls
set_option Elab.async false
set_option maxRecDepth 100000
set_option maxHeartbeats 8000000
namespace Mine
theorem fill3 : hd.heap_39 = hd.heap_39 ∧ PySem.Challenge.rw_zr0002_01 = PySem.Challenge.rw_zr0002_01 := by
  k_fill
  exact ⟨rfl, rfl⟩
local macro_rules | `(tactic| k_mem) => `(tactic| assumption)
local macro_rules | `(tactic| is_list) => `(tactic| exact News.isList (by k_asm) (by k_mem))
theorem d2i {prog : Program} {w : World} {dp un : Nat} {gd : Option (List Code)} {cn : Str} {cs : Scope} {a : Addr} {ccd : Value} {cl : List (Str × Addr)} {outer : List Env} {A₀ : Around} {base h₀ : Heap} {L : Addr} {m mg mb : Str → Option Value}
    {pre post : List (Addr × Obj)} {ps : Array Value} {s : Shared} {Q E : Value → Shared → Prop} {p : Program} {loose : List Str} {mean : ExcName → Option Value} {nn : Nat} {t : Tok} {l : Addr} {vs : List Value} {ds : List Int} {e : Nat}
    (B : Below A₀ base outer h₀) (F : Fr h₀ L s.heap m) (X : (hd.heap_39 w.params).In h₀) (N : News h₀ L s.heap (pre ++ (30, tabObj ps) :: post)) (T : Top p loose mean mg mb h₀) (hk : cs.kind = .function) (C : CodeHd h₀ 34 30)
    (h1 : ∀ q ∈ pre, q.1 ≠ 30) (h2 : ∀ q ∈ post, q.1 ≠ 30) (G : TabSt 29 4 (PySem.Str.ofString "_digits2int.<locals>.inner") ps post)
    (hl : (l, listOf vs.toArray e) ∈ pre ++ (30, tabObj ps) :: post) (hi : IntsAre vs ds) (hds : ∀ d ∈ ds, 0 ≤ d ∧ d < 2 ^ nn) (hnn : 0 < nn ∧ nn ≤ 32) (hlen : ds.length ≤ 200)
    (hdp : dp + 300 < recursionLimit) (hun : un + 3000 < cLine)
    (hret : ∀ t' h' tk' ps' extra, Fr h₀ L h' m → News h₀ L h' (pre ++ (30, tabObj ps') :: (post ++ extra)) → TabSt 29 4 (PySem.Str.ofString "_digits2int.<locals>.inner") ps' (post ++ extra) →
      (∀ r ∈ extra, ∀ q ∈ pre ++ (30, tabObj ps) :: post, q.1 < r.1) → Q (.int (val (2 ^ nn) ds) t') { s with heap := h', toks := tk' }) :
    wpAny (model prog w) (ktrTop dp un gd cn cs L a ccd cl outer) (call (.ref 35) [.ref l, .int (nn : Int) t]) Q E s := by
  refine wpAny_call ?_
  obtain ⟨news, hnews⟩ : ∃ news, news = pre ++ (30, tabObj ps) :: post := ⟨_, rfl⟩
  rw [← hnews] at N hl
  k_dflt (refine' code_defC (binds := [(PySem.Str.ofString "digits", .ref l), (PySem.Str.ofString "n", .int (nn : Int) t)]) ?k1 ?k2 ?k3 ?k4 ?k5 ?kA ?kF ?kK ?k6 ?k7 ?k8 ?k9 ?kB ?kD ?_ ?c2 ?c3 ?c4; (case kA => exact rfl); (case kF => exact rfl); (case kK => assumption); (case k1 => k_asm); (case k2 => k_asm); (case k3 => k_asm); (case k4 => k_asm); (case k5 => k_asm); (case k6 => k_is); (case k7 => k_is); (case k8 => ktr_room); (case k9 => exact BindsTo.of_eq rfl); (case kB => exact rfl); (case kD => decide +kernel); (case c2 => exact rfl); (case c3 => exact rfl); (case c4 => exact rfl); k_whole; intro g' L' h' tk' cells' FG' F' N' Y' B' X' T' l1; (obtain ⟨oI, oN, oD, hE, dI, dN, dD⟩ := CellsAre.three Y'; subst hE; clear Y'); (try simp only [List.cons_append, List.nil_append] at N'); (try dsimp only); (try k_lift B'); (try k_fold))
  replace dI : oI.data = .cell none := dI
  replace dN : oN.data = .cell (some (.int (nn : Int) t)) := dN
  replace dD : oD.data = .cell (some (.ref l)) := dD
  walk1
  k_dflt (refine' nestDef_K ?d0 ?k0 ?a0 ?_; (case d0 => exact rfl); (case k0 => exact rfl); (case a0 => exact rfl))
  subst hnews
  have l30 : @LT.lt Nat _ 30 L' := l1 _ (List.mem_append_right _ List.mem_cons_self)
  k_dflt (refine' nest_any (pre := (L' + 1 + 1 + 1, oI) :: (L' + 1 + 1, oN) :: (L' + 1, oD) :: pre) ?F ?T ?C ?cd ?N ?h1 h2 G ?cl ?_; (case F => k_asm); (case T => k_asm); (case cd => exact rfl); (case C => exact C.keeps (Fr.keep (by assumption))); (case N => exact N'); (case cl => exact rfl); (case h1 => (intro q hq; simp only [List.mem_cons] at hq; rcases hq with rfl | rfl | rfl | hq; k_ne; k_ne; k_ne; exact h1 q hq)); k_whole)
  intro f' c' oc' vs' t' ct' dc' h'' tk'' ps' extra F1 N1 hc' hd' hv' G' lf lx
  obtain ⟨fo, hfo, N1⟩ := name_obj N1
  have hl' : (l, listOf vs.toArray e) ∈ pre ++ (30, tabObj ps') :: (post ++ extra) := by
    rcases List.mem_append.mp hl with hl | hl
    · exact List.mem_append_left _ hl
    · rcases List.mem_cons.mp hl with hl | hl
      · cases hl
      · exact List.mem_append_right _ (List.mem_cons_of_mem _ (List.mem_append_left _ hl))
  have hc2 : (c', oc') ∈ pre ++ (30, tabObj ps') :: (post ++ extra) := List.mem_append_right _ (List.mem_cons_of_mem _ hc')
  have hap : ∀ q ∈ pre ++ (30, tabObj ps') :: (post ++ extra), q.1 ≠ L' + 1 + 1 + 1 := by
    intro q hq
    rcases List.mem_append.mp hq with hq | hq
    · have := ltN (l1 q (List.mem_append_left _ hq)); k_ne
    · rcases List.mem_cons.mp hq with rfl | hq
      · k_ne
      · rcases List.mem_append.mp hq with hq | hq
        · have := ltN (l1 q (List.mem_append_right _ (List.mem_cons_of_mem _ hq))); k_ne
        · exact Nat.ne_of_gt (lx q hq (L' + 1 + 1 + 1, oI) List.mem_cons_self)
  have lf3 : L' + 1 + 1 + 1 < f' := lf (L' + 1 + 1 + 1, oI) List.mem_cons_self
  k_dflt (refine' storeX_C ?F ?N ?c (UpdF.tail ?u1 (UpdF.head ?u2)) dI ?_ ?a ?b; (case a => rfl); (case b => rfl); (case F => k_asm); (case N => exact N1); (case c => rfl); (case u1 => exact Nat.ne_of_gt lf3); (case u2 => (intro q hq; rcases List.mem_cons.mp hq with rfl | hq; k_ne; rcases List.mem_cons.mp hq with rfl | hq; k_ne; exact hap q hq)); k_whole)
  intro h3 oI' F3 N3 dI'
  clear N1 F1 dI lf3 hap N' N
  have spec : ∀ (k lo hi : Nat), hi - lo ≤ k → lo < hi → hi ≤ ds.length → ∀ (dp un : Nat) (gd : Option (List Code)) (cn : Str) (cs : Scope) (a : Addr) (ccd : Value) (cl : List (Str × Addr)) (outer : List Env) (A₀ : Around) (base h₀ : Heap) (L : Addr) (m : Str → Option Value) (news : List (Addr × Obj)) (s : Shared) (x y : Int) (t1 t2 : Tok) (Q E : Value → Shared → Prop), x = (lo : Int) → y = (hi : Int) →
      Below A₀ base outer h₀ → Fr h₀ L s.heap m → (hd.heap_39 w.params).In h₀ → News h₀ L s.heap news → Top p loose mean mg mb h₀ → cs.kind = .function → CodeHd h₀ 34 30 →
      (f', fo) ∈ news → (c', oc') ∈ news → (L' + 1 + 1 + 1, oI') ∈ news → (L' + 1 + 1, oN) ∈ news → (L' + 1, oD) ∈ news → (l, listOf vs.toArray e) ∈ news → dp + k < recursionLimit → un + 12 * k < cLine →
      (∀ t h' tk', Fr h₀ L h' m → News h₀ L h' news → Q (.int (val (2 ^ nn) (cut ds lo hi)) t) { s with heap := h', toks := tk' }) →
      wpAny (model prog w) (ktrTop dp un gd cn cs L a ccd cl outer) (call (.ref f') [.int x t1, .int y t2]) Q E s := by
    clear hret B F X T hk C h1 h2 G hl hdp hun FG' F' B' X' T' l1 l30 G' lf lx hl' hc2 F3 N3 hc'
    intro k
    induction k with
    | zero => intro lo hi h1 h2; omega
    | succ k ih =>
      intro lo hi hhl hlt hle dp un gd cn cs a ccd cl outer A₀ base h₀ L m news s x y t1 t2 Q E hx hy B F X N T hk C hf hc hI hN hD hL hdp hun hret
      rw [hfo] at hf
      subst hx hy
      refine wpAny_call ?_
      k_dflt (refine' code_nest (binds := [(PySem.Str.ofString "L", .int (lo : Int) t1), (PySem.Str.ofString "R", .int (hi : Int) t2)]) ?k1 ?k2 ?k3 ?k4 ?k5 ?kA ?kF ?kK hf ?k7 ?k8 ?k9 ?kB ?_ ?c2 ?c3 ?c4 ?c5; (case kA => exact rfl); (case kF => exact rfl); (case kK => assumption); (case k1 => k_asm); (case k2 => k_asm); (case k3 => k_asm); (case k4 => k_asm); (case k5 => k_asm); (case k7 => exact codeRec_news N hc hd' hv'); (case k8 => ktr_room); (case k9 => exact BindsTo.of_eq rfl); (case c5 => decide); (case kB => exact locs rfl); (case c2 => exact rfl); (case c3 => exact rfl); (case c4 => exact rfl); k_whole; intro g' L' h' FG' F' N' B' X' T'; (try dsimp only); (try k_lift B'); (try k_fold))
      replace C := C.keeps (Fr.keep FG')
      have hmid : ((lo : Int) + (hi : Int)).fdiv (2 ^ Int.toNat 1) = (((lo + hi) / 2 : Nat) : Int) := by
        rw [Int.fdiv_eq_ediv_of_nonneg _ (by decide)]; simp
      have hshift : (((lo : Int) + (hi : Int)).fdiv (2 ^ Int.toNat 1) - (lo : Int)) * (nn : Int) = ((((lo + hi) / 2 - lo) * nn : Nat) : Int) := by
        rw [hmid, show (((lo + hi) / 2 : Nat) : Int) - (lo : Int) = (((lo + hi) / 2 - lo : Nat) : Int) by omega, ← Int.natCast_mul]
      repeat' ((fail_if_success (with_reducible show wpAny _ _ (call (Value.ref f') _) _ _ _)); first | walk1 | (dsimp only; walk1))
      · refine cell_ret hret ?_ (by k_asm) (by k_asm)
        rename ((lo : Int) + 1 = (hi : Int)) => hh
        have : hi = lo + 1 := by omega
        subst this
        rw [cut_one (by omega)]
        simp [val]
      · rename ¬ ((lo : Int) + 1 = (hi : Int)) => hh
        have hlt2 : lo < (lo + hi) / 2 := by omega
        have hlt3 : (lo + hi) / 2 < hi := by omega
        refine ih ((lo + hi) / 2) hi (by omega) hlt3 hle _ _ _ _ _ _ _ _ _ _ _ _ _ _ _ _ _ _ _ _ _ _ hmid rfl (by k_asm) (by k_asm) (by k_asm) (by k_asm) (by k_asm) rfl C (hfo ▸ hf) hc hI hN hD hL (by show dp + 1 + k < recursionLimit; omega) (by show un + 3 + 12 * k < cLine; omega) ?_
        intro t9 h9 tk9 F9 N9
        dsimp only
        repeat' ((fail_if_success (with_reducible show wpAny _ _ (binaryOp Operator.LShift _ _) _ _ _)); first | walk1 | (dsimp only; walk1))
        have hv1 := val_lt hds (lo := (lo + hi) / 2) (hi := hi) hle
        refine lshift_int (by rw [hshift]; exact Int.natCast_nonneg _) ?_ ?_
        · have hb := bits_of_lt hv1.1 hv1.2
          have hx1 : nn * (hi - (lo + hi) / 2) ≤ 32 * 200 := Nat.mul_le_mul hnn.2 (by omega)
          have hx2 : ((lo + hi) / 2 - lo) * nn ≤ 200 * 32 := Nat.mul_le_mul (by omega) hnn.2
          rw [hshift]
          omega
        repeat' ((fail_if_success (with_reducible show wpAny _ _ (call (Value.ref f') _) _ _ _)); first | walk1 | (dsimp only; walk1))
        refine ih lo ((lo + hi) / 2) (by omega) hlt2 (by omega) _ _ _ _ _ _ _ _ _ _ _ _ _ _ _ _ _ _ _ _ _ _ rfl hmid (by k_asm) (by k_asm) (by k_asm) (by k_asm) (by k_asm) rfl C (hfo ▸ hf) hc hI hN hD hL (by show dp + 1 + k < recursionLimit; omega) (by show un + 3 + 12 * k < cLine; omega) ?_
        intro t9 h9 tk9 F9 N9
        dsimp only
        k_steps
        refine cell_ret hret ?_ (by k_asm) (by k_asm)
        rw [hshift, Int.toNat_natCast, val_cut (Nat.le_of_lt hlt2) (Nat.le_of_lt hlt3) hle, Nat.mul_comm, Int.pow_mul, Int.mul_comm, Int.add_comm]
  obtain ⟨rest, hrest⟩ : ∃ rest, rest = pre ++ (30, tabObj ps') :: (post ++ extra) := ⟨_, rfl⟩
  rw [← hrest] at hl' hc2
  replace N3 : News g' L' h3 ((f', fo) :: (L' + 1 + 1 + 1, oI') :: (L' + 1 + 1, oN) :: (L' + 1, oD) :: rest) := by subst hrest; exact N3
  replace C := C.keeps (Fr.keep FG')
  clear l1
  subst hfo
  dsimp only
  have hlenI := hi.length
  repeat' ((fail_if_success (with_reducible show wpAny _ _ (call (Value.ref f') _) _ _ _)); first | walk1 | (dsimp only; walk1))
  · have hpos : 0 < ds.length := by omega
    refine spec ds.length 0 ds.length (by omega) hpos (Nat.le_refl _) _ _ _ _ _ _ _ _ _ _ _ _ _ _ _ _ _ _ _ _ _ _ rfl rfl (by k_asm) (by k_asm) (by k_asm) (by k_asm) (by k_asm) rfl C (List.Mem.head _) (by k_mem) (by k_mem) (by k_mem) (by k_mem) (by k_mem) (by show dp + 1 + ds.length < recursionLimit; omega) (by show un + 3 + 12 * ds.length < cLine; omega) ?_
    intro t9 h9 tk9 F9 N9
    dsimp only
    k_steps
    rw [cut_all]
    with_reducible rename News h₀ L _ _ => kN
    exact hret _ _ _ ps' extra (by k_asm) (fun q hq => kN q (List.Mem.tail _ (List.Mem.tail _ (List.Mem.tail _ (List.Mem.tail _ (hrest ▸ hq)))))) G' (fun r hr q hq => lx r hr q (List.Mem.tail _ (List.Mem.tail _ (List.Mem.tail _ hq))))
  · have hnil : ds = [] := List.eq_nil_of_length_eq_zero (by omega)
    with_reducible rename News h₀ L _ _ => kN
    rw [show (0 : Int) = val (2 ^ nn) ds by rw [hnil]; rfl]
    exact hret _ _ _ ps' extra (by k_asm) (fun q hq => kN q (List.Mem.tail _ (List.Mem.tail _ (List.Mem.tail _ (List.Mem.tail _ (hrest ▸ hq)))))) G' (fun r hr q hq => lx r hr q (List.Mem.tail _ (List.Mem.tail _ (List.Mem.tail _ hq))))
end Mine
end
section
open PySem PySem.W PyProof.Rows PySem.Calls PySem.Spec
set_option Elab.async false
set_option maxRecDepth 100000
set_option maxHeartbeats 8000000
namespace Mine

/-- the ledger with another object at one address -/
def setL (D : Addr) (o' : Obj) (news : List (Addr × Obj)) : List (Addr × Obj) := news.map fun q => if q.1 = D then (D, o') else q
theorem mem_setL_ne {D : Addr} {o' : Obj} {news : List (Addr × Obj)} {q : Addr × Obj} (h : q ∈ news) (hn : q.1 ≠ D) : q ∈ setL D o' news :=
  List.mem_map.mpr ⟨q, h, if_neg hn⟩
theorem mem_setL_eq {D : Addr} {o o' : Obj} {news : List (Addr × Obj)} (h : (D, o) ∈ news) : (D, o') ∈ setL D o' news :=
  List.mem_map.mpr ⟨(D, o), h, if_pos rfl⟩
theorem setL_setL {D : Addr} {o' o'' : Obj} (news : List (Addr × Obj)) : setL D o'' (setL D o' news) = setL D o'' news := by
  simp only [setL, List.map_map]
  refine List.map_congr_left fun q _ => ?_
  simp only [Function.comp]
  by_cases h : q.1 = D
  · simp [h]
  · simp [h]
theorem news_setL {h₀ h h' : Heap} {L D : Addr} {o o' : Obj} {news : List (Addr × Obj)} (N : News h₀ L h news) (hm : (D, o) ∈ news) (hs : Heap.SameBut D h h') (ho : h'.get? D = some o') : News h₀ L h' (setL D o' news) := by
  intro p hp
  obtain ⟨q, hq, rfl⟩ := List.mem_map.mp hp
  by_cases e : q.1 = D
  · rw [if_pos e]
    exact ⟨ho, (N _ hm).2⟩
  · rw [if_neg e]
    exact ⟨(hs.2 q.1 e).trans (N q hq).1, (N q hq).2⟩
section
variable {prog : Program} {w : World} {A : Around} {E : Value → Shared → Prop} {s : Shared} {h₀ : Heap} {L D : Addr} {m : Str → Option Value} {news : List (Addr × Obj)} {vs : List Value} {ns : List Int} {n : Nat} {k x : Int} {t u : Tok}
theorem set_any {Q : Unit → Shared → Prop} (F : Fr h₀ L s.heap m) (N : News h₀ L s.heap news) (hm : (D, listOf vs.toArray n) ∈ news) (hi : IntsAre vs ns) (h0 : 0 ≤ k) (h1 : k < ns.length) (hfit : k < 2 ^ 63)
    (h : ∀ h', Fr h₀ L h' m → News h₀ L h' (setL D (listOf (vs.set k.toNat (.int x u)).toArray n) news) → Q () { s with heap := h' }) :
    wpAny (model prog w) A (setItem (.ref D) (.int k t) (.int x u)) Q E s := by
  have z := N _ hm
  have hl : vs.length = ns.length := hi.length
  have hs : vs.toArray.size = ns.length := by rw [List.size_toArray]; exact hl
  refine ki_setAt z.1 h0 hfit (by omega) (h _ (F.change (Heap.SameBut.update ..) z.2.1 z.2.2) (news_setL N hm (Heap.SameBut.update ..) ?_))
  have q := PySem.IsL.update z.1 (fun a : Array Value => a.setIfInBounds k.toNat (.int x u))
  rw [q]
  have e : vs.toArray.setIfInBounds k.toNat (.int x u) = (vs.set k.toNat (.int x u)).toArray := by
    apply Array.toList_inj.mp
    simp
  rw [e]
  simp
end
theorem xor_part (x s : Nat) : Builtin.bitXor (x : Int) ((x : Int).fdiv (2 ^ s) * 2 ^ s) = ((x % 2 ^ s : Nat) : Int) := by
  rw [fdiv_two, bitXor_and]
  have e : (((x / 2 ^ s : Nat) : Int) * 2 ^ s) = ((x / 2 ^ s * 2 ^ s : Nat) : Int) := by
    rw [Int.natCast_mul, Int.natCast_pow]; rfl
  rw [e, bitAnd_pp (Int.natCast_nonneg _) (Int.natCast_nonneg _), Int.toNat_natCast, Int.toNat_natCast, xor_low]
  have := Nat.div_add_mod x (2 ^ s)
  rw [Nat.mul_comm] at this
  omega
end Mine
end
section
open PySem PySem.W PyProof.Rows PySem.Calls
set_option Elab.async false
set_option maxRecDepth 100000
set_option maxHeartbeats 800000
namespace Mine
theorem fill4 : hd.heap_39 = hd.heap_39 ∧ PySem.Challenge.rw_zr0002_01 = PySem.Challenge.rw_zr0002_01 := by
  k_fill
  exact ⟨rfl, rfl⟩
local macro_rules | `(tactic| k_mem) => `(tactic| assumption)
local macro_rules | `(tactic| is_list) => `(tactic| exact News.isList (by k_asm) (by k_mem))
def cnt (nn x : Nat) : Nat := (Builtin.Int.intBits (x : Int) + nn - 1) / nn
theorem cnt_enough {nn : Nat} (hnn : 0 < nn) (x : Nat) : x < 2 ^ (nn * cnt nn x) := by
  have h1 : x < 2 ^ Builtin.Int.intBits (x : Int) := by
    unfold Builtin.Int.intBits
    split
    · rename_i h
      have : (x : Int) = 0 := by simpa using h
      have : x = 0 := by omega
      rw [this]; decide
    · rename_i h
      exact Nat.lt_log2_self
  refine Nat.lt_of_lt_of_le h1 (Nat.pow_le_pow_right (by decide) ?_)
  have h2 := Nat.div_add_mod (Builtin.Int.intBits (x : Int) + nn - 1) nn
  have h3 := Nat.mod_lt (Builtin.Int.intBits (x : Int) + nn - 1) hnn
  unfold cnt
  omega
theorem i2d {prog : Program} {w : World} {dp un : Nat} {gd : Option (List Code)} {cn : Str} {cs : Scope} {a : Addr} {ccd : Value} {cl : List (Str × Addr)} {outer : List Env} {A₀ : Around} {base h₀ : Heap} {L : Addr} {m mg mb : Str → Option Value}
    {pre post : List (Addr × Obj)} {ps : Array Value} {s : Shared} {Q E : Value → Shared → Prop} {p : Program} {loose : List Str} {mean : ExcName → Option Value} {nn x₀ : Nat} {t t2 : Tok}
    (B : Below A₀ base outer h₀) (F : Fr h₀ L s.heap m) (X : (hd.heap_39 w.params).In h₀) (N : News h₀ L s.heap (pre ++ (23, tabObj ps) :: post)) (T : Top p loose mean mg mb h₀) (hk : cs.kind = .function) (C : CodeHd h₀ 27 23)
    (h1 : ∀ q ∈ pre, q.1 ≠ 23) (h2 : ∀ q ∈ post, q.1 ≠ 23) (G : TabSt 14 4 (PySem.Str.ofString "_int2digits.<locals>.inner") ps post)
    (hx : x₀ < 10 ^ 40) (hnn : 0 < nn ∧ nn ≤ 32)
    (hdp : dp + 300 < recursionLimit) (hun : un + 3000 < cLine)
    (hret : ∀ D ys e h' tk' ps' extra, Fr h₀ L h' m → News h₀ L h' ((D, listOf ys.toArray e) :: (pre ++ (23, tabObj ps') :: (post ++ extra))) → IntsAre ys (dig (2 ^ nn) (cnt nn x₀) x₀) → TabSt 14 4 (PySem.Str.ofString "_int2digits.<locals>.inner") ps' (post ++ extra) →
      (∀ r ∈ extra, ∀ q ∈ pre ++ (23, tabObj ps) :: post, q.1 < r.1) → (∀ q ∈ pre ++ (23, tabObj ps) :: post, q.1 < D) → Q (.ref D) { s with heap := h', toks := tk' }) :
    wpAny (model prog w) (ktrTop dp un gd cn cs L a ccd cl outer) (call (.ref 28) [.int (x₀ : Int) t, .int (nn : Int) t2]) Q E s := by
  refine wpAny_call ?_
  obtain ⟨news, hnews⟩ : ∃ news, news = pre ++ (23, tabObj ps) :: post := ⟨_, rfl⟩
  rw [← hnews] at N
  k_dflt (refine' code_defC (binds := [(PySem.Str.ofString "a", .int (x₀ : Int) t), (PySem.Str.ofString "n", .int (nn : Int) t2)]) ?k1 ?k2 ?k3 ?k4 ?k5 ?kA ?kF ?kK ?k6 ?k7 ?k8 ?k9 ?kB ?kD ?_ ?c2 ?c3 ?c4; (case kA => exact rfl); (case kF => exact rfl); (case kK => assumption); (case k1 => k_asm); (case k2 => k_asm); (case k3 => k_asm); (case k4 => k_asm); (case k5 => k_asm); (case k6 => k_is); (case k7 => k_is); (case k8 => ktr_room); (case k9 => exact BindsTo.of_eq rfl); (case kB => exact rfl); (case kD => decide +kernel); (case c2 => exact rfl); (case c3 => exact rfl); (case c4 => exact rfl); k_whole; intro g' L' h' tk' cells' FG' F' N' Y' B' X' T' l1; (obtain ⟨oI, oD, oN, hE, dI, dD, dN⟩ := CellsAre.three Y'; subst hE; clear Y'); (try simp only [List.cons_append, List.nil_append] at N'); (try dsimp only); (try k_lift B'); (try k_fold))
  replace dI : oI.data = .cell none := dI
  replace dN : oN.data = .cell (some (.int (nn : Int) t2)) := dN
  replace dD : oD.data = .cell none := dD
  have hbits : Builtin.Int.intBits (x₀ : Int) ≤ 133 := bits_of_lt (Int.natCast_nonneg x₀) (Int.ofNat_lt.mpr (Nat.lt_trans hx (by decide)))
  have hcnt : ((Builtin.Int.intBits (x₀ : Int) : Int) + (nn : Int) - 1).fdiv (nn : Int) = ((cnt nn x₀ : Nat) : Int) := by
    rw [Int.fdiv_eq_ediv_of_nonneg _ (Int.natCast_nonneg nn), show ((Builtin.Int.intBits (x₀ : Int) : Int) + (nn : Int) - 1) = ((Builtin.Int.intBits (x₀ : Int) + nn - 1 : Nat) : Int) by omega]
    rfl
  have hcle : cnt nn x₀ ≤ 200 := Nat.le_trans (Nat.div_le_self _ _) (by omega)
  repeat' ((fail_if_success (with_reducible show wpAny _ _ (binaryOp Operator.Mult _ _) _ _ _)); first | walk1 | (dsimp only; walk1))
  rw [hcnt]
  k_dflt (refine' KM.mul (vs := [.int 0 _]) (ns := [0]) ?F ?N ?hl ?hi ?lo ?hi2 ?sz ?_; (case F => k_asm); (case N => k_asm); (case hl => is_list); (case hi => exact .cons _ _ .nil); (case lo => omega); (case hi2 => omega); (case sz => (simp only [List.length_cons, List.length_nil, Int.toNat_natCast]; omega)))
  intro D h4 F4 N4 l4 i4 n4 _ _ _ _
  rw [Int.toNat_natCast] at N4 i4
  obtain ⟨vs0, hvs0⟩ : ∃ vs0, vs0 = (List.replicate (cnt nn x₀) [Value.int 0 tk']).flatten := ⟨_, rfl⟩
  have hrep : (List.replicate (cnt nn x₀) [(0 : Int)]).flatten = List.replicate (cnt nn x₀) 0 := by simp
  rw [← hvs0] at N4 i4
  rw [hrep] at i4
  have lD : ∀ q ∈ (L' + 1 + 1 + 1, oI) :: (L' + 1 + 1, oD) :: (L' + 1, oN) :: news, q.1 < D := fun q hq => l4 q (List.Mem.tail _ hq)
  replace N4 : News g' L' h4 ((D, listOf vs0.toArray 0) :: (L' + 1 + 1 + 1, oI) :: (L' + 1 + 1, oD) :: (L' + 1, oN) :: news) := by
    intro q hq
    rcases List.mem_cons.mp hq with rfl | hq
    · exact N4 _ (List.Mem.head _)
    · exact N4 _ (List.Mem.tail _ (List.Mem.tail _ hq))
  clear l4 hvs0 hrep
  have lD3 : @LT.lt Nat _ (L' + 1 + 1 + 1) D := lD _ (List.Mem.head _)
  subst hnews
  have l23 : @LT.lt Nat _ 23 L' := l1 _ (List.mem_append_right _ List.mem_cons_self)
  k_dflt (refine' storeX_C ?F ?N ?c (UpdF.tail ?u1 (UpdF.tail ?u2 (UpdF.head ?u3))) dD ?_ ?a ?b; (case a => rfl); (case b => rfl); (case F => k_asm); (case N => exact N4); (case c => rfl); (case u1 => k_ne); (case u2 => k_ne); (case u3 => (intro q hq; rcases List.mem_cons.mp hq with rfl | hq; k_ne; (have := ltN (l1 q hq)); k_ne)); k_whole)
  intro h5 oD' F5 N5 dD'
  clear N4 F4 dD
  repeat' ((fail_if_success (with_reducible show wpAny _ _ (exec (Stmt.FunctionDef _ _ _ _ _ _ _ _ _ _) _) _ _ _)); first | walk1 | (dsimp only; walk1))
  k_dflt (refine' nestDef_K ?d0 ?k0 ?a0 ?_; (case d0 => exact rfl); (case k0 => exact rfl); (case a0 => exact rfl))
  k_dflt (refine' nest_any (pre := (D, listOf vs0.toArray 0) :: (L' + 1 + 1 + 1, oI) :: (L' + 1 + 1, oD') :: (L' + 1, oN) :: pre) ?F ?T ?C ?cd ?N ?h1 h2 G ?cl ?_; (case F => k_asm); (case T => k_asm); (case cd => exact rfl); (case C => exact C.keeps (Fr.keep (by assumption))); (case N => exact N5); (case cl => exact rfl); (case h1 => (intro q hq; simp only [List.mem_cons] at hq; rcases hq with rfl | rfl | rfl | rfl | hq; k_ne; k_ne; k_ne; k_ne; exact h1 q hq)); k_whole)
  intro f' c' oc' vs' t' ct' dc' h'' tk'' ps' extra F1 N1 hc' hd' hv' G' lf lx
  obtain ⟨fo, hfo, N1⟩ := name_obj N1
  have hc2 : (c', oc') ∈ pre ++ (23, tabObj ps') :: (post ++ extra) := List.mem_append_right _ (List.mem_cons_of_mem _ hc')
  have hap : ∀ q ∈ pre ++ (23, tabObj ps') :: (post ++ extra), q.1 ≠ L' + 1 + 1 + 1 ∧ q.1 ≠ D := by
    intro q hq
    rcases List.mem_append.mp hq with hq | hq
    · have := ltN (l1 q (List.mem_append_left _ hq)); exact ⟨by k_ne, by k_ne⟩
    · rcases List.mem_cons.mp hq with rfl | hq
      · exact ⟨by k_ne, by k_ne⟩
      · rcases List.mem_append.mp hq with hq | hq
        · have := ltN (l1 q (List.mem_append_right _ (List.mem_cons_of_mem _ hq))); exact ⟨by k_ne, by k_ne⟩
        · exact ⟨Nat.ne_of_gt (lx q hq (L' + 1 + 1 + 1, oI) (List.Mem.tail _ (List.Mem.head _))), Nat.ne_of_gt (lx q hq (D, listOf vs0.toArray 0) (List.Mem.head _))⟩
  have lfD : D < f' := lf (D, listOf vs0.toArray 0) (List.Mem.head _)
  have lf3 : L' + 1 + 1 + 1 < f' := lf (L' + 1 + 1 + 1, oI) (List.Mem.tail _ (List.Mem.head _))
  k_dflt (refine' storeX_C ?F ?N ?c (UpdF.tail ?u1 (UpdF.tail ?u0 (UpdF.head ?u2))) dI ?_ ?a ?b; (case a => rfl); (case b => rfl); (case F => k_asm); (case N => exact N1); (case c => rfl); (case u1 => exact Nat.ne_of_gt lf3); (case u0 => k_ne); (case u2 => (intro q hq; rcases List.mem_cons.mp hq with rfl | hq; k_ne; rcases List.mem_cons.mp hq with rfl | hq; k_ne; exact (hap q hq).1)); k_whole)
  intro h3 oI' F3 N3 dI'
  clear N1 F1 dI N N5
  have hcD : c' ≠ D := (hap _ hc2).2
  have hfD : f' ≠ D := Nat.ne_of_gt lfD
  have hID : L' + 1 + 1 + 1 ≠ D := by k_ne
  have hND : L' + 1 ≠ D := by k_ne
  have hAD : L' + 1 + 1 ≠ D := by k_ne
  have spec : ∀ (k lo hi x : Nat), hi - lo ≤ k → lo < hi → hi ≤ cnt nn x₀ → x < 2 ^ (nn * (hi - lo)) → ∀ (dp un : Nat) (gd : Option (List Code)) (cn : Str) (cs : Scope) (a : Addr) (ccd : Value) (cl : List (Str × Addr)) (outer : List Env) (A₀ : Around) (base h₀ : Heap) (L : Addr) (m : Str → Option Value) (news : List (Addr × Obj)) (s : Shared) (z0 z1 z2 : Int) (t0 t1 t2 : Tok) (vs : List Value) (ns : List Int) (Q E : Value → Shared → Prop), z0 = (x : Int) → z1 = (lo : Int) → z2 = (hi : Int) →
      Below A₀ base outer h₀ → Fr h₀ L s.heap m → (hd.heap_39 w.params).In h₀ → News h₀ L s.heap news → Top p loose mean mg mb h₀ → cs.kind = .function → CodeHd h₀ 27 23 →
      (f', fo) ∈ news → (c', oc') ∈ news → (L' + 1 + 1 + 1, oI') ∈ news → (L' + 1, oN) ∈ news → (L' + 1 + 1, oD') ∈ news → (D, listOf vs.toArray 0) ∈ news → IntsAre vs ns → ns.length = cnt nn x₀ → dp + k < recursionLimit → un + 12 * k < cLine →
      (∀ h' tk' vs', Fr h₀ L h' m → News h₀ L h' (setL D (listOf vs'.toArray 0) news) → IntsAre vs' (put ns lo (dig (2 ^ nn) (hi - lo) x)) → Q .none { s with heap := h', toks := tk' }) →
      wpAny (model prog w) (ktrTop dp un gd cn cs L a ccd cl outer) (call (.ref f') [.int z0 t0, .int z1 t1, .int z2 t2]) Q E s := by
    clear hret B F X T hk C h1 h2 G hdp hun FG' B' X' T' l1 l23 G' lf lx hc2 F3 N3 hc' lD F5
    intro k
    induction k with
    | zero => intro lo hi x h1 h2; omega
    | succ k ih =>
      intro lo hi x hhl hlt hle hxb dp un gd cn cs a ccd cl outer A₀ base h₀ L m news s z0 z1 z2 t0 t1 t2 vs ns Q E hz0 hz1 hz2 B F X N T hk C hf hc hI hN hA hD hvn hnl hdp hun hret
      have hf0 := hf
      rw [hfo] at hf
      subst hz0 hz1 hz2
      refine wpAny_call ?_
      k_dflt (refine' code_nest (binds := [(PySem.Str.ofString "x", .int (x : Int) t0), (PySem.Str.ofString "L", .int (lo : Int) t1), (PySem.Str.ofString "R", .int (hi : Int) t2)]) ?k1 ?k2 ?k3 ?k4 ?k5 ?kA ?kF ?kK hf ?k7 ?k8 ?k9 ?kB ?_ ?c2 ?c3 ?c4 ?c5; (case kA => exact rfl); (case kF => exact rfl); (case kK => assumption); (case k1 => k_asm); (case k2 => k_asm); (case k3 => k_asm); (case k4 => k_asm); (case k5 => k_asm); (case k7 => exact codeRec_news N hc hd' hv'); (case k8 => ktr_room); (case k9 => exact BindsTo.of_eq rfl); (case c5 => decide); (case kB => exact locs rfl); (case c2 => exact rfl); (case c3 => exact rfl); (case c4 => exact rfl); k_whole; intro g' L' h' FG' F' N' B' X' T'; (try dsimp only); (try k_lift B'); (try k_fold))
      replace C := C.keeps (Fr.keep FG')
      have hmid : ((lo : Int) + (hi : Int)).fdiv (2 ^ Int.toNat 1) = (((lo + hi) / 2 : Nat) : Int) := by
        rw [Int.fdiv_eq_ediv_of_nonneg _ (by decide)]; simp
      have hshift : (((lo : Int) + (hi : Int)).fdiv (2 ^ Int.toNat 1) - (lo : Int)) * (nn : Int) = ((((lo + hi) / 2 - lo) * nn : Nat) : Int) := by
        rw [hmid, show (((lo + hi) / 2 : Nat) : Int) - (lo : Int) = (((lo + hi) / 2 - lo : Nat) : Int) by omega, ← Int.natCast_mul]
      repeat' ((fail_if_success (with_reducible show wpAny _ _ (call (Value.ref f') _) _ _ _)); (fail_if_success (with_reducible show wpAny _ _ (setItem _ _ _) _ _ _)); (fail_if_success (with_reducible show wpAny _ _ (binaryOp Operator.LShift _ _) _ _ _)); first | walk1 | (dsimp only; walk1))
      · rename ((lo : Int) + 1 = (hi : Int)) => hh
        have : hi = lo + 1 := by omega
        subst this
        refine set_any (n := 0) (by k_asm) (by k_asm) hD hvn (Int.natCast_nonneg lo) (by omega) (by omega) ?_
        intro h6 F6 N6
        dsimp only
        k_steps
        refine hret _ _ _ (by k_asm) (by k_asm) ?_
        rw [show lo + 1 - lo = 1 by omega, Nat.mul_one] at hxb
        rw [show lo + 1 - lo = 1 by omega, dig_one hxb, ← put_one (by omega)]
        exact ints_set hvn lo
      · rename ¬ ((lo : Int) + 1 = (hi : Int)) => hh
        have hlt2 : lo < (lo + hi) / 2 := by omega
        have hlt3 : (lo + hi) / 2 < hi := by omega
        have hup : x / 2 ^ (((lo + hi) / 2 - lo) * nn) < 2 ^ (nn * (hi - (lo + hi) / 2)) := by
          refine Nat.div_lt_of_lt_mul ?_
          rw [← Nat.pow_add, show ((lo + hi) / 2 - lo) * nn + nn * (hi - (lo + hi) / 2) = nn * (hi - lo) by rw [Nat.mul_comm, ← Nat.mul_add]; congr 1; omega]
          exact hxb
        refine lshift_int (by rw [hshift]; exact Int.natCast_nonneg _) ?_ ?_
        · rw [hshift, Int.toNat_natCast, fdiv_two]
          have hb := bits_of_lt (k := nn * (hi - (lo + hi) / 2)) (Int.natCast_nonneg (x / 2 ^ (((lo + hi) / 2 - lo) * nn))) (by exact_mod_cast hup)
          have hx1 : nn * (hi - (lo + hi) / 2) ≤ 32 * 200 := Nat.mul_le_mul hnn.2 (by omega)
          have hx2 : ((lo + hi) / 2 - lo) * nn ≤ 200 * 32 := Nat.mul_le_mul (by omega) hnn.2
          omega
        repeat' ((fail_if_success (with_reducible show wpAny _ _ (call (Value.ref f') _) _ _ _)); first | walk1 | (dsimp only; walk1))
        refine ih lo ((lo + hi) / 2) (x % 2 ^ (((lo + hi) / 2 - lo) * nn)) (by omega) hlt2 (by omega) (by rw [Nat.mul_comm nn]; exact Nat.mod_lt _ (Nat.two_pow_pos _)) _ _ _ _ _ _ _ _ _ _ _ _ _ _ _ _ _ _ _ _ _ _ _ _ _ _ (by rw [hshift, Int.toNat_natCast]; exact xor_part _ _) rfl hmid (by k_asm) (by k_asm) (by k_asm) (by k_asm) (by k_asm) rfl C hf0 hc hI hN hA hD hvn hnl (by show dp + 1 + k < recursionLimit; omega) (by show un + 3 + 12 * k < cLine; omega) ?_
        intro h7 tk7 vs7 F7 N7 i7
        have qf := mem_setL_ne (o' := listOf vs7.toArray 0) hf hfD
        have qf0 := mem_setL_ne (o' := listOf vs7.toArray 0) hf0 hfD
        have qc := mem_setL_ne (o' := listOf vs7.toArray 0) hc hcD
        have qI := mem_setL_ne (o' := listOf vs7.toArray 0) hI hID
        have qN := mem_setL_ne (o' := listOf vs7.toArray 0) hN hND
        have qA := mem_setL_ne (o' := listOf vs7.toArray 0) hA hAD
        have qD := mem_setL_eq (o' := listOf vs7.toArray 0) hD
        have hss := fun o'' => setL_setL (D := D) (o' := listOf vs7.toArray 0) (o'' := o'') news
        generalize setL D (listOf vs7.toArray 0) news = news7 at N7 qf qf0 qc qI qN qA qD hss
        clear hf hf0 hc hI hN hA hD
        dsimp only
        repeat' ((fail_if_success (with_reducible show wpAny _ _ (call (Value.ref f') _) _ _ _)); first | walk1 | (dsimp only; walk1))
        refine ih ((lo + hi) / 2) hi (x / 2 ^ (((lo + hi) / 2 - lo) * nn)) (by omega) hlt3 hle hup _ _ _ _ _ _ _ _ _ _ _ _ _ _ _ _ _ _ _ _ _ _ _ _ _ _ (by rw [hshift, Int.toNat_natCast]; exact fdiv_two _ _) hmid rfl (by k_asm) (by k_asm) (by k_asm) (by k_asm) (by k_asm) rfl C qf0 qc qI qN qA qD i7 (by rw [put_length (by rw [dig_length]; omega)]; exact hnl) (by show dp + 1 + k < recursionLimit; omega) (by show un + 3 + 12 * k < cLine; omega) ?_
        intro h8 tk8 vs8 F8 N8 i8
        rw [hss] at N8
        rw [dig_split (Nat.le_of_lt hlt2) (Nat.le_of_lt hlt3) (by omega)] at i8
        dsimp only
        k_steps
        exact hret _ _ _ (by k_asm) (by k_asm) i8
  obtain ⟨rest, hrest⟩ : ∃ rest, rest = pre ++ (23, tabObj ps') :: (post ++ extra) := ⟨_, rfl⟩
  rw [← hrest] at hc2
  replace N3 : News g' L' h3 ((f', fo) :: (D, listOf vs0.toArray 0) :: (L' + 1 + 1 + 1, oI') :: (L' + 1 + 1, oD') :: (L' + 1, oN) :: rest) := by subst hrest; exact N3
  replace C := C.keeps (Fr.keep FG')
  subst hfo
  dsimp only
  have hlenI := i4.length
  rw [List.length_replicate] at hlenI
  repeat' ((fail_if_success (with_reducible show wpAny _ _ (call (Value.builtin _) _) _ _ _)); first | walk1 | (dsimp only; walk1))
  · refine len_ints_fit (News.isList (by k_asm) (by k_mem)) i4 (by rw [List.length_replicate]; omega) ?_
    rw [List.length_replicate]
    repeat' ((fail_if_success (with_reducible show wpAny _ _ (call (Value.ref f') _) _ _ _)); first | walk1 | (dsimp only; walk1))
    have hx0 : x₀ ≠ 0 := by omega
    have hcb : x₀ < 2 ^ (nn * cnt nn x₀) := cnt_enough hnn.1 x₀
    have hcp : 0 < cnt nn x₀ := by
      rcases Nat.eq_zero_or_pos (cnt nn x₀) with q | q
      · rw [q] at hcb; simp at hcb; omega
      · exact q
    refine spec (cnt nn x₀) 0 (cnt nn x₀) x₀ (by omega) hcp (Nat.le_refl _) hcb _ _ _ _ _ _ _ _ _ _ _ _ _ _ _ _ _ _ _ _ _ _ vs0 (List.replicate (cnt nn x₀) 0) _ _ rfl rfl rfl (by k_asm) (by k_asm) (by k_asm) (by k_asm) (by k_asm) rfl C (by k_mem) (by k_mem) (by k_mem) (by k_mem) (by k_mem) (by k_mem) i4 (List.length_replicate ..) (by show dp + 1 + cnt nn x₀ < recursionLimit; omega) (by show un + 3 + 12 * cnt nn x₀ < cLine; omega) ?_
    intro h9 tk9 vs9 F9 N9 i9
    rw [put_all (by rw [dig_length, List.length_replicate]; rfl)] at i9
    rw [Nat.sub_zero] at i9
    replace N9 : News g' L' h9 ((D, listOf vs9.toArray 0) :: (L' + 1 + 1, oD') :: rest) := by
      intro q hq
      rcases List.mem_cons.mp hq with rfl | hq
      · exact N9 _ (mem_setL_eq (List.Mem.tail _ (List.Mem.head _)))
      · rcases List.mem_cons.mp hq with rfl | hq
        · exact N9 _ (mem_setL_ne (List.Mem.tail _ (List.Mem.tail _ (List.Mem.tail _ (List.Mem.head _)))) hAD)
        · exact N9 _ (mem_setL_ne (List.Mem.tail _ (List.Mem.tail _ (List.Mem.tail _ (List.Mem.tail _ (List.Mem.tail _ hq))))) (hap q (hrest ▸ hq)).2)
    clear spec N3
    dsimp only
    k_steps
    with_reducible rename News h₀ L _ _ => kN
    refine hret D vs9 0 _ _ ps' extra (by k_asm) ?_ i9 G' (fun r hr q hq => lx r hr q (List.Mem.tail _ (List.Mem.tail _ (List.Mem.tail _ (List.Mem.tail _ hq))))) (fun q hq => Nat.lt_trans (l1 q hq) (by omega))
    intro q hq
    rcases List.mem_cons.mp hq with rfl | hq
    · exact kN _ (List.Mem.head _)
    · exact kN _ (List.Mem.tail _ (List.Mem.tail _ (hrest ▸ hq)))
  · have hx0 : x₀ = 0 := by omega
    have hc0 : cnt nn x₀ = 0 := by
      rw [hx0]
      show (0 + nn - 1) / nn = 0
      exact Nat.div_eq_of_lt (by omega)
    rw [hc0] at i4
    with_reducible rename News h₀ L _ _ => kN
    refine hret D vs0 0 _ _ ps' extra (by k_asm) ?_ (by rw [hc0]; exact i4) G' (fun r hr q hq => lx r hr q (List.Mem.tail _ (List.Mem.tail _ (List.Mem.tail _ (List.Mem.tail _ hq))))) (fun q hq => Nat.lt_trans (l1 q hq) (by omega))
    intro q hq
    rcases List.mem_cons.mp hq with rfl | hq
    · exact kN _ (List.Mem.tail _ (List.Mem.head _))
    · exact kN _ (List.Mem.tail _ (List.Mem.tail _ (List.Mem.tail _ (List.Mem.tail _ (List.Mem.tail _ (hrest ▸ hq))))))
end Mine
end
section
open PySem PySem.W PyProof.Rows PySem.Calls
set_option Elab.async false
set_option maxRecDepth 1000000
set_option maxHeartbeats 8000000
namespace Mine
theorem ba_mro : mroOf (.type "bytearray") = pure [.type "bytearray", .type "object"] := by rw [mroOf_type]; kernel_rfl
theorem ba_lookup_new : typeLookup (.type "bytearray") "__new__" = pure (some (.builtin "bytearray.__new__")) := by rw [typeLookup_type, builtinLookup_eq_fast]; kernel_rfl
theorem ba_slot_init : Slot "bytearray" "__init__" "bytearray.__init__" :=
  .of (owner := "bytearray") (n := "__init__") (by rw [typeLookup_type, builtinLookup_eq_fast]; kernel_rfl) (by decide +kernel) (by decide +kernel) (by decide +kernel)
    (by first | exact .inl (by decide +kernel) | exact .inr (by decide +kernel)) (by rw [isSubtype_type]; kernel_rfl)
theorem ba_called : TypeCalled "bytearray" "bytearray.__new__" "bytearray.__init__" :=
  ⟨by decide +kernel, by decide +kernel, ⟨_, _, ba_mro⟩, madeBy_type ba_mro ba_lookup_new (by decide +kernel), by decide +kernel, by rw [isSubtype_type]; kernel_rfl, ba_slot_init⟩
theorem ba_typeCall (a : Value) : checkTypeCall "bytearray" ⟨[a], []⟩ = pure () := by kernel_rfl
theorem ba_newCall (a : Value) : checkBuiltinCall "bytearray.__new__" ⟨[.type "bytearray", a], []⟩ = pure () := by kernel_rfl
theorem ba_entry_new : entryFor table "bytearray.__new__" = some Builtin.«list.__new__» := entryFor_alias (id' := "list.__new__") (by kernel_rfl) (by decide +kernel) (by decide +kernel) (by kernel_rfl)
theorem ba_plain_new : plainId "bytearray.__new__" = true := by decide +kernel
theorem ba_entry_init : entryFor table "bytearray.__init__" = some Builtin.«bytearray.__init__» := by first | exact entryFor_of_fast (by kernel_rfl) | exact entryFor_of_tree (by kernel_rfl)
theorem ba_plain_init : plainId "bytearray.__init__" = true := by decide +kernel
theorem ba_sub : isSubtype (.type "bytearray") (.type "bytearray") = pure true := by rw [isSubtype_type]; kernel_rfl
theorem ba_owner : ("bytearray.__new__".splitOn ".__new__").headD "" = "bytearray" := by simp +decide [String.splitOn, String.splitOnAux]
theorem ba_bind (v : Value) : Builtin.Bytes.bindOptional "bytearray.__init__" "bytearray" ["source", "encoding", "errors"] [v] [] = pure [some v, none, none] := by kernel_rfl

theorem tidy_free {c : Code} {p : Pos} {a : Addr} (h : tidy c = true) : (match (c, p) with
    | (.builtin "bytearray.__contains__" ⟨v :: _, _⟩, _) | (.builtin "bytearray.__mod__" ⟨v :: _, _⟩, _)
    | (.builtin "bytearray.__rmod__" ⟨_ :: v :: _, _⟩, _) | (.builtin "_struct.pack_into.held" ⟨v :: _, _⟩, _) => Builtin.Bytes.sameRef v (.ref a)
    | (.builtin "bytearray.find.held" ⟨_ :: _ :: held, _⟩, _) => held.any (Builtin.Bytes.sameRef (.ref a))
    | (.builtin id ⟨v :: _, _⟩, _) => Builtin.Bytes.sameRef v (.ref a) && Builtin.Bytes.decodersThatHold.contains id
    | _ => false) = false := by
  cases c with
  | builtin id args =>
    obtain ⟨pos, kw⟩ := args
    simp only [tidy, Bool.or_eq_true, beq_iff_eq] at h
    rcases h with (rfl | rfl) | rfl <;> (cases pos with
      | nil => rfl
      | cons v r =>
        show (Builtin.Bytes.sameRef v (.ref a) && Builtin.Bytes.decodersThatHold.contains _) = false
        rw [show Builtin.Bytes.decodersThatHold.contains _ = false by decide +kernel, Bool.and_false])
  | _ => rfl
theorem c_exported {M : Model} {A : Around} {s : Shared} {a : Addr} {Q : Bool → Shared → Prop} (h : Q false s) : wpC M A (Builtin.Bytes.exported (.ref a)) Q s := fun Γ p hΓ hc => by
  unfold Builtin.Bytes.exported
  show Q (((Γ.code, p) :: Γ.below).any _) s
  rw [show List.any ((Γ.code, p) :: Γ.below) _ = false from ?_]
  · exact h
  · rw [List.any_eq_false]
    intro x hx
    have ht : tidy x.1 = true := by
      rcases List.mem_cons.mp hx with rfl | hx
      · exact hc.1
      · exact hc.2 x hx
    obtain ⟨c, q⟩ := x
    rw [Bool.not_eq_true]
    exact tidy_free ht

section
variable {prog : Program} {w : World} {A : Around} {s : Shared}
theorem code_ba_new (a : Value) {R : Flow → Shared → Prop} (h : R (.ret (.ref s.heap.objs.size)) { s with heap := s.heap.push { cls := .type "bytearray", data := .bytearray #[] } }) :
    codeAny (model prog w) A (.call (.builtin "bytearray.__new__") ⟨[.type "bytearray", a], []⟩) (okR R) s := by
  refine codeAny_of_tree ?_
  show wpAny _ A.in1 (do checkBuiltinCall "bytearray.__new__" ⟨[.type "bytearray", a], []⟩; again (.builtin "bytearray.__new__" ⟨[.type "bytearray", a], []⟩)) _ _ s
  refine wpAny_bind (wpAny_of_eq (ba_newCall a) (wpAny_pure ⟨plainId_quiet ba_plain_new _, codeAny_builtin_stack ba_entry_new rfl fun p st => ?_⟩))
  rw [Around.under_plainId ba_plain_new _]
  have hsub := ba_sub
  have hown := ba_owner
  obtain ⟨hp, g, d, tk, os⟩ := s
  simp only [hown]
  wp_walk
  exact h
end
end Mine
end
section
open PySem PySem.W PyProof.Rows PySem.Calls
set_option Elab.async false
set_option maxRecDepth 1000000
set_option maxHeartbeats 8000000
namespace Mine
section
variable {prog : Program} {w : World} {A : Around} {s : Shared}
theorem code_ba_init {a : Addr} {n : Int} {t : Tok} {R : Flow → Shared → Prop} (ho : s.heap.get? a = some { cls := .type "bytearray", data := .bytearray #[] }) (h0 : 0 ≤ n) (hz : n ≤ 10000)
    (h : ∀ h', h'.get? a = some { cls := .type "bytearray", data := .bytearray (Array.replicate n.toNat 0) } → (∀ b o, b ≠ a → s.heap.get? b = some o → h'.get? b = some o) → R (.ret .none) { s with heap := h' }) :
    codeC (model prog w) A (.call (.builtin "bytearray.__init__") ⟨[.ref a, .int n t], []⟩) R s := by
  have hT : s.TypeIs (.ref a) "bytearray" := ⟨_, ho, rfl⟩
  refine codeC_call_builtin ba_plain_init ba_entry_init (by rfl) (ba_slot_init.check _ _ _ _ _ _ _ _ hT ?_ ?_)
  · unfold argsOk; kernel_rfl
  · unfold Builtin.«bytearray.__init__»
    dsimp only
    refine c_then (wpAny_bind ?_)
    have hrel : typeLookup (.type "bytearray") "__release_buffer__" = pure (some (.builtin "bytearray.__release_buffer__")) := by rw [typeLookup_type, builtinLookup_eq_fast]; kernel_rfl
    unfold Builtin.Bytes.slotIsOwn
    refine wpAny_bind (wpAny_specialOf hT hrel ?_)
    dsimp only
    refine bm_if_false (by decide +kernel) ?_
    set_option linter.deprecated false in
    rw [show "bytearray.__release_buffer__".dropRight ("__release_buffer__".length + 1) = "bytearray" by decide +kernel]
    refine wpAny_isInstance hT ba_sub ?_
    refine wpAny_pure ?_
    rw [if_neg (by decide)]
    refine c_bind (c_eq (ba_bind _) ?_)
    refine c_bind (c_eq (a := ()) rfl ?_)
    refine c_bind (c_eq (a := ()) rfl ?_)
    refine c_bind (c_bind (c_exported ?_))
    show wpC _ _ (Builtin.Bytes.exportsOf (.ref a) >>= fun k => pure (decide (k > 0))) _ _
    refine c_any (wpAny_bind ?_)
    unfold Builtin.Bytes.exportsOf
    dsimp only
    refine wpAny_bind (wpAny_load ho ?_)
    dsimp only
    refine wpAny_pure (wpAny_pure ?_)
    rw [if_neg (by decide)]
    refine c_any ?_
    refine wpAny_bind ?_
    unfold Builtin.Bytes.write
    dsimp only
    unfold updateBytearray
    refine wpAny_bind (wpAny_load ho ?_)
    dsimp only
    refine wpAny_bind (wpAny_update ho ?_)
    have ho1 := Heap.get?_update_self (Obj.mapBytearray (fun _ => (#[] : Array UInt8))) ho rfl
    refine wpAny_lookBehind ho1 rfl ?_
    refine wpAny_bind (wpAny_of_eq (a := none) rfl ?_)
    rw [if_neg (by exact Bool.false_ne_true)]
    rw [if_neg (by exact Bool.false_ne_true)]
    rw [if_neg (by exact Bool.false_ne_true)]
    refine wpAny_bind (wpAny_pure ?_)
    have hidx : typeLookup (.type "int") "__index__" = pure (some (.builtin "int.__index__")) := by rw [typeLookup_type, builtinLookup_eq_fast]; kernel_rfl
    refine wpAny_bind (wpAny_specialOf (typeIs_int _ _ _) hidx ?_)
    refine bm_if_true rfl ?_
    refine wpAny_bind (wpAny_attempt (wpAny_of_eq (rfl : asIndex (.int n t) = pure n) ?_))
    dsimp only
    refine bm_if_false ?_ ?_
    · simp only [Builtin.Bytes.fitsIndex, Bool.not_eq_false', Bool.and_eq_true, decide_eq_true_eq]
      omega
    rw [if_neg (by omega)]
    refine bm_if_false ?_ ?_
    · rw [beq_eq_false_iff_ne]
      omega
    refine bm_if_false ?_ ?_
    · simp only [Builtin.Bytes.tooLong, decide_eq_false_iff_not, sizeLine_eq]
      omega
    refine wpAny_bind (wpAny_rule ?_)
    by_cases hn : n > 0
    · rw [if_pos hn]
      refine wpAny_bind ?_
      refine wpAny_bind (wpAny_load ho1 ?_)
      refine wpAny_bind (wpAny_update ho1 ?_)
      have ho2 := Heap.get?_update_self (Obj.mapBytearray (fun _ => Array.replicate n.toNat (0 : UInt8))) ho1 rfl
      refine wpAny_lookBehind ho2 ?_ (wpAny_pure (h _ ho2 fun b o hb e => (Heap.get?_update_other _ _ (Ne.symm hb)).trans ((Heap.get?_update_other _ _ (Ne.symm hb)).trans e)))
      show (if (Array.replicate n.toNat (0 : UInt8)).size > sizeLine then some "bytearray:memory" else none) = none
      rw [if_neg]
      rw [Array.size_replicate, sizeLine_eq]
      omega
    · rw [if_neg hn]
      have : n = 0 := by omega
      subst this
      exact wpAny_pure (h _ ho1 fun b o hb e => (Heap.get?_update_other _ _ (Ne.symm hb)).trans e)
theorem c_bytearray {n : Int} {t : Tok} {Q : Value → Shared → Prop} (h0 : 0 ≤ n) (hz : n ≤ 10000)
    (h : ∀ h', h'.get? s.heap.objs.size = some { cls := .type "bytearray", data := .bytearray (Array.replicate n.toNat 0) } → (∀ b o, s.heap.get? b = some o → h'.get? b = some o) → Q (.ref s.heap.objs.size) { s with heap := h' }) :
    wpC (model prog w) A (call (.type "bytearray") [.int n t]) Q s := by
  have ft := ba_called
  obtain ⟨c, tl, hmro⟩ := ft.mro
  refine c_call (codeC_tree ?_)
  show wpC _ A.in1 (callAny (.type "bytearray") _) _ _
  refine c_pure ⟨Code.quiet_builtin _ (by decide +kernel), codeC_builtin F.entry_type_call (by rfl) ?_⟩
  rw [Around.under_plain (weight_type_call_type "bytearray" _ []) rfl]
  unfold Builtin.«type.__call__»
  dsimp only
  rw [if_neg (by rw [ft.notType]; exact Bool.false_ne_true)]
  rw [if_neg (by rw [ft.canCreate]; exact Bool.false_ne_true)]
  refine c_bind (c_eq (ba_typeCall _) ?_)
  refine c_bind (c_eq hmro ?_)
  rw [if_neg (by exact Bool.false_ne_true)]
  refine c_bind (c_eq ft.made ?_)
  dsimp only
  refine c_bind (c_pure ?_)
  refine c_bind (c_holding (c_any ?_))
  refine wpAny_call (codeAny_mono (code_ba_new (R := retR fun v s' => v = .ref s.heap.objs.size ∧ s' = { s with heap := s.heap.push { cls := .type "bytearray", data := .bytearray #[] } }) (.int n t) ⟨rfl, rfl⟩) fun r s₁ hr => ?_)
  cases r with
  | error e => exact hr
  | ok fl =>
    cases fl with
    | ret obj =>
      obtain ⟨rfl, rfl⟩ := hr
      have ho : (s.heap.push { cls := .type "bytearray", data := .bytearray #[] }).get? s.heap.objs.size = some { cls := .type "bytearray", data := .bytearray #[] } := Heap.get?_push_size _ rfl
      have hT : ({ s with heap := s.heap.push { cls := .type "bytearray", data := .bytearray #[] } } : Shared).TypeIs (.ref s.heap.objs.size) "bytearray" := ⟨_, ho, rfl⟩
      dsimp only
      refine c_then (wpAny_isInstance hT ft.sub ?_)
      rw [if_neg (by decide)]
      refine c_bind (c_holding ?_)
      unfold callSpecial?
      refine c_then (wpAny_specialOf hT ft.init.lookup ?_)
      dsimp only
      refine c_holding (c_bind (c_eq (ft.init.bind _) ?_))
      dsimp only
      refine c_bind (c_call (code_ba_init ho h0 hz fun h' e k => ?_))
      refine c_pure ?_
      dsimp only
      rw [if_neg (by decide)]
      exact c_pure (h h' e fun b o eb => k b o (Nat.ne_of_lt (Heap.lt_size eb)) (Heap.get?_push_of_some _ eb))
    | _ => exact hr.elim
end
end Mine
end
section
open PySem PySem.W PyProof.Rows PySem.Calls
set_option Elab.async false
set_option maxRecDepth 1000000
set_option maxHeartbeats 8000000
namespace Mine
theorem ba_slot_setitem : Slot "bytearray" "__setitem__" "bytearray.__setitem__" :=
  .of (owner := "bytearray") (n := "__setitem__") (by rw [typeLookup_type, builtinLookup_eq_fast]; kernel_rfl) (by decide +kernel) (by decide +kernel) (by decide +kernel)
    (by first | exact .inl (by decide +kernel) | exact .inr (by decide +kernel)) (by rw [isSubtype_type]; kernel_rfl)
theorem ba_entry_setitem : entryFor table "bytearray.__setitem__" = some Builtin.«bytearray.__setitem__» := entryFor_of_tree (by kernel_rfl)
theorem ba_args_setitem (a b c : Value) : argsOk "bytearray.__setitem__" ⟨[a, b, c], []⟩ := by unfold argsOk; kernel_rfl
theorem int_index : typeLookup (.type "int") "__index__" = pure (some (.builtin "int.__index__")) := by rw [typeLookup_type, builtinLookup_eq_fast]; kernel_rfl
theorem ba_no_bytes : typeLookup (.type "bytearray") "__bytes__" = pure none := by rw [typeLookup_type, builtinLookup_eq_fast]; kernel_rfl
theorem ba_no_index : typeLookup (.type "bytearray") "__index__" = pure none := by rw [typeLookup_type, builtinLookup_eq_fast]; kernel_rfl
theorem ba_buffer : typeLookup (.type "bytearray") "__buffer__" = pure (some (.builtin "bytearray.__buffer__")) := by rw [typeLookup_type, builtinLookup_eq_fast]; kernel_rfl
theorem ba_release : typeLookup (.type "bytearray") "__release_buffer__" = pure (some (.builtin "bytearray.__release_buffer__")) := by rw [typeLookup_type, builtinLookup_eq_fast]; kernel_rfl

def baObj (b : Array UInt8) : Obj := { cls := .type "bytearray", data := .bytearray b }
section
variable {prog : Program} {w : World} {A : Around} {E : Value → Shared → Prop} {s : Shared}
theorem ba_set {D : Addr} {b : Array UInt8} {k x : Int} {t u : Tok} {Q : Unit → Shared → Prop} (ho : s.heap.get? D = some (baObj b)) (h0 : 0 ≤ k) (h1 : k < b.size) (hz : b.size ≤ 10000) (hx0 : 0 ≤ x) (hx1 : x < 256)
    (h : ∀ h', h'.get? D = some (baObj (b.setIfInBounds k.toNat x.toNat.toUInt8)) → Heap.SameBut D s.heap h' → Q () { s with heap := h' }) :
    wpAny (model prog w) A (setItem (.ref D) (.int k t) (.int x u)) Q E s := by
  have hT : s.TypeIs (.ref D) "bytearray" := ⟨_, ho, rfl⟩
  unfold setItem
  refine wpAny_holding ?_
  refine wpAny_bind (wpAny_sequenceKey hT (by decide) ?_)
  refine wpAny_bind (wpAny_callSpecial?_slot (name := Str.ofString "__setitem__") hT ba_slot_setitem (wpAny_call_entry ba_slot_setitem hT ba_entry_setitem ?_ (ba_args_setitem _ _ _)))
  unfold Builtin.«bytearray.__setitem__»
  dsimp only
  rw [if_neg (by decide)]
  refine wpAny_bind ?_
  unfold Builtin.Bytes.subscript?
  refine wpAny_bind (wpAny_specialOf (typeIs_int _ _ _) int_index ?_)
  refine bm_if_false rfl ?_
  refine wpAny_bind (wpAny_of_eq (rfl : asIndex (.int k t) = pure k) ?_)
  refine bm_if_false ?_ ?_
  · simp only [Builtin.Bytes.fitsIndex, Bool.not_eq_false', Bool.and_eq_true, decide_eq_true_eq]
    omega
  refine wpAny_pure ?_
  dsimp only
  unfold Builtin.Bytes.byteValue
  refine wpAny_bind (wpAny_bind (wpAny_of_eq (rfl : asIndex (.int x u) = pure x) ?_))
  refine bm_if_false (by simp only [Bool.or_eq_false_iff, decide_eq_false_iff_not]; omega) ?_
  refine wpAny_pure ?_
  unfold Builtin.Bytes.payload Builtin.Bytes.payload?
  refine wpAny_bind (wpAny_bind (wpAny_bind (wpAny_load ho ?_)))
  refine wpAny_pure (wpAny_pure ?_)
  have hk : seqIndex? k b.size = some k.toNat := by
    unfold seqIndex?
    simp only [if_neg (show ¬ (k < 0) by omega)]
    rw [if_pos]
    simp only [Bool.and_eq_true, decide_eq_true_eq]
    omega
  rw [hk]
  unfold Builtin.Bytes.write updateBytearray
  dsimp only
  refine wpAny_bind (wpAny_bind (wpAny_load ho ?_))
  refine wpAny_bind (wpAny_update ho ?_)
  have ho1 := Heap.get?_update_self (Obj.mapBytearray (·.setIfInBounds k.toNat x.toNat.toUInt8)) ho rfl
  refine wpAny_lookBehind ho1 ?_ ?_
  · show (if (b.setIfInBounds k.toNat x.toNat.toUInt8).size > sizeLine then some "bytearray:memory" else none) = none
    rw [if_neg]
    rw [Array.size_setIfInBounds, sizeLine_eq]
    omega
  first
    | exact wpAny_bind (wpAny_pure (wpAny_pure ⟨.none, rfl, wpAny_pure (h _ ho1 (Heap.SameBut.update ..))⟩))
    | exact wpAny_pure ⟨.none, rfl, wpAny_pure (h _ ho1 (Heap.SameBut.update ..))⟩
theorem own_release {D : Addr} {Q : Bool → Shared → Prop} (hT : s.TypeIs (.ref D) "bytearray") (h : Q false s) : wpAny (model prog w) A (Builtin.Bytes.ownRelease (.ref D)) Q E s := by
  unfold Builtin.Bytes.ownRelease Builtin.Bytes.slotIsOwn
  refine wpAny_bind (wpAny_bind (wpAny_specialOf hT ba_release ?_))
  dsimp only
  refine bm_if_false (by decide +kernel) ?_
  set_option linter.deprecated false in
  rw [show "bytearray.__release_buffer__".dropRight ("__release_buffer__".length + 1) = "bytearray" by decide +kernel]
  exact wpAny_isInstance hT ba_sub (wpAny_pure h)
theorem own_buffer {D : Addr} {Q : Bool → Shared → Prop} (hT : s.TypeIs (.ref D) "bytearray") (h : Q true s) : wpAny (model prog w) A (Builtin.Bytes.slotIsOwn (.ref D) "__buffer__") Q E s := by
  unfold Builtin.Bytes.slotIsOwn
  refine wpAny_bind (wpAny_specialOf hT ba_buffer ?_)
  dsimp only
  refine bm_if_false (by decide +kernel) ?_
  set_option linter.deprecated false in
  rw [show "bytearray.__buffer__".dropRight ("__buffer__".length + 1) = "bytearray" by decide +kernel]
  exact wpAny_isInstance hT ba_sub h
theorem bytes_ba_new {D : Addr} {b : Array UInt8} {Q : Value → Shared → Prop} (ho : s.heap.get? D = some (baObj b)) (hz : b.size ≤ 10000)
    (h : ∀ t tk, Q (.bytes b t) { s with toks := tk }) : codeAny (model prog w) A (.call (.builtin "bytes.__new__") ⟨[.type "bytes", .ref D], []⟩) (wants Q E) s := by
  have hT : s.TypeIs (.ref D) "bytearray" := ⟨_, ho, rfl⟩
  refine codeAny_of_tree ?_
  show wpAny _ A.in1 (do checkBuiltinCall "bytes.__new__" ⟨[.type "bytes", .ref D], []⟩; again (.builtin "bytes.__new__" ⟨[.type "bytes", .ref D], []⟩)) _ _ s
  refine wpAny_bind (wpAny_of_eq (F.bm_newCall _) (wpAny_pure ⟨plainId_quiet F.bm_plain _, codeAny_builtin F.bm_entry ?_⟩))
  rw [Around.under_plainId F.bm_plain _]
  unfold Builtin.«bytes.__new__»
  refine wpAny_bind (wpAny_of_eq (a := true) rfl ?_)
  refine bm_if_false rfl ?_
  refine wpAny_bind (wpAny_of_eq F.bm_sub ?_)
  refine bm_if_false rfl ?_
  refine wpAny_bind (wpAny_of_eq (F.bm_bind _) ?_)
  refine wpAny_bind (wpAny_of_eq (a := ()) rfl ?_)
  refine wpAny_bind (wpAny_of_eq (a := ()) rfl ?_)
  refine bm_if_false rfl ?_
  refine wpAny_bind (wpAny_specialOf hT ba_no_bytes ?_)
  refine wpAny_bind (wpAny_bind ?_)
  show wpAny _ _ (load D >>= _) _ _ _
  refine wpAny_bind (wpAny_load ho ?_)
  refine wpAny_pure (wpAny_pure ?_)
  refine bm_if_false rfl ?_
  refine wpAny_bind (wpAny_specialOf hT ba_no_index ?_)
  refine bm_if_true rfl ?_
  first
    | show wpAny _ _ (Builtin.Bytes.buffer? "bytes.__new__" (.ref D) true >>= _) _ _ _
    | (refine wpAny_bind ?_; show wpAny _ _ (Builtin.Bytes.buffer? "bytes.__new__" (.ref D) true >>= _) _ _ _)
  refine wpAny_bind ?_
  unfold Builtin.Bytes.buffer?
  refine wpAny_bind (wpAny_specialOf hT ba_buffer ?_)
  dsimp only
  refine wpAny_bind (own_buffer hT ?_)
  refine bm_if_false rfl ?_
  refine wpAny_bind (wpAny_specialOf hT ba_buffer ?_)
  refine wpAny_bind (own_release hT ?_)
  refine bm_if_false rfl ?_
  refine wpAny_bind ?_
  unfold Builtin.Bytes.payload Builtin.Bytes.payload?
  refine wpAny_bind (wpAny_bind (wpAny_load ho ?_))
  refine wpAny_pure (wpAny_pure (wpAny_pure ?_))
  refine wpAny_bind (wpAny_rule ?_)
  refine wpAny_bind (wpAny_mkBytes ?_ (by rw [sizeLine_eq]; omega))
  show wpAny _ _ (if (Value.type "bytes" == Value.type "bytes") = true then _ else _) _ _ _
  refine bm_if_true (by decide) ?_
  exact wpAny_pure (h _ _)
theorem call_bytes_ba {D : Addr} {b : Array UInt8} {Q : Value → Shared → Prop} (ho : s.heap.get? D = some (baObj b)) (hz : b.size ≤ 10000)
    (h : ∀ t tk, Q (.bytes b t) { s with toks := tk }) : wpAny (model prog w) A (call (.type "bytes") [.ref D]) Q E s := by
  refine callType_codes (Q₁ := fun obj s₁ => s₁.TypeIs obj "bytes" ∧ Q obj s₁) F.bm_called (F.bm_typeCall _) F.entry_object_init
    (bytes_ba_new ho hz fun t tk => ⟨PySem.W.typeIs_bytes _ _ _, h t tk⟩) fun obj s₁ h₁ => ?_
  exact ⟨h₁.1, F.args_object_init_2 obj _, object_init_meets F.bm_called.init.lookup F.bm_called.made (by decide) prog w A.in1 _ s₁ ⟨h₁.1, rfl, h₁.2⟩⟩
end
section
variable {prog : Program} {w : World} {A : Around} {s : Shared} {h₀ : Heap} {L : Addr} {m : Str → Option Value} {news : List (Addr × Obj)}
theorem ba_make {n : Int} {t : Tok} {Q : Value → Shared → Prop} (F : Fr h₀ L s.heap m) (N : News h₀ L s.heap news) (h0 : 0 ≤ n) (hz : n ≤ 10000)
    (h : ∀ D h', Fr h₀ L h' m → News h₀ L h' ((D, baObj (Array.replicate n.toNat 0)) :: news) → (∀ p ∈ news, p.1 < D) → Q (.ref D) { s with heap := h' }) :
    wpC (model prog w) A (call (.type "bytearray") [.int n t]) Q s := by
  refine c_bytearray h0 hz fun h' e k => h _ h' (F.keeps k) (fun p hp => ?_) (fun p hp => Heap.lt_size (N p hp).1)
  rcases List.mem_cons.mp hp with rfl | hp
  · exact ⟨e, Nat.ne_of_gt F.ns.lt, next_is_new F⟩
  · exact ⟨k _ _ (N p hp).1, (N p hp).2⟩
end
section
variable {prog : Program} {w : World} {A : Around} {E : Value → Shared → Prop} {s : Shared} {h₀ : Heap} {L : Addr} {m : Str → Option Value} {rest : List (Addr × Obj)}
theorem ba_store {D : Addr} {b : Array UInt8} {k x : Int} {t u : Tok} {Q : Unit → Shared → Prop} (F : Fr h₀ L s.heap m) (N : News h₀ L s.heap ((D, baObj b) :: rest)) (hne : ∀ p ∈ rest, p.1 ≠ D) (h0 : 0 ≤ k) (h1 : k < b.size) (hz : b.size ≤ 10000) (hx0 : 0 ≤ x) (hx1 : x < 256)
    (h : ∀ h', Fr h₀ L h' m → News h₀ L h' ((D, baObj (b.setIfInBounds k.toNat x.toNat.toUInt8)) :: rest) → Q () { s with heap := h' }) :
    wpAny (model prog w) A (setItem (.ref D) (.int k t) (.int x u)) Q E s := by
  have hD := N _ List.mem_cons_self
  refine ba_set hD.1 h0 h1 hz hx0 hx1 fun h' e hs => h h' (F.change hs hD.2.1 hD.2.2) fun p hp => ?_
  rcases List.mem_cons.mp hp with rfl | hp
  · exact ⟨e, hD.2⟩
  · have z := N p (List.mem_cons_of_mem _ hp)
    exact ⟨(hs.2 p.1 (hne p hp)).trans z.1, z.2⟩
end
end Mine
end
section
open PySem PySem.W PyProof.Rows PySem.Calls
set_option Elab.async false
set_option maxRecDepth 100000
set_option maxHeartbeats 8000000
namespace Mine
/-- the place that k is filled from -/
def src (wd k : Nat) : Nat := k / wd * wd + (wd - 1 - k % wd)
theorem src_lt {wd k n : Nat} (hw : 0 < wd) (hd : wd ∣ n) (hk : k < n) : src wd k < n := by
  obtain ⟨q, rfl⟩ := hd
  have h1 : k / wd < q := by rw [Nat.div_lt_iff_lt_mul hw, Nat.mul_comm]; exact hk
  have h2 : (k / wd + 1) * wd ≤ q * wd := Nat.mul_le_mul_right _ h1
  rw [Nat.add_mul, Nat.one_mul, Nat.mul_comm q] at h2
  unfold src
  have := Nat.mod_lt k hw
  omega
def turn (wd : Nat) (ks : List Int) : List Int := (List.range ks.length).map fun k => ks.getD (src wd k) 0
theorem turn_length (wd : Nat) (ks : List Int) : (turn wd ks).length = ks.length := by simp [turn]
theorem turn_get {wd k : Nat} {ks : List Int} (hw : 0 < wd) (hd : wd ∣ ks.length) (hk : k < ks.length) : (turn wd ks)[k]? = ks[src wd k]? := by
  have h := src_lt hw hd hk
  simp [turn, hk, List.getElem?_eq_getElem h]
theorem turn_all {ks : List Int} (h : ks ≠ []) : turn ks.length ks = ks.reverse := by
  have hw : 0 < ks.length := List.length_pos_iff.mpr h
  refine List.ext_getElem? fun k => ?_
  by_cases hk : k < ks.length
  · rw [turn_get hw (Nat.dvd_refl _) hk, List.getElem?_reverse hk]
    have h1 : src ks.length k = ks.length - 1 - k := by
      unfold src
      rw [Nat.div_eq_of_lt hk, Nat.mod_eq_of_lt hk]
      omega
    rw [h1]
  · rw [List.getElem?_eq_none (by rw [turn_length]; omega), List.getElem?_eq_none (by rw [List.length_reverse]; omega)]
theorem turn_part {wd k : Nat} {ks : List Int} (hw : 0 < wd) (hd : wd ∣ ks.length) (hk : (k + 1) * wd ≤ ks.length) : (((turn wd ks).drop (k * wd)).take wd).reverse = (ks.drop (k * wd)).take wd := by
  have hk' : k * wd + wd ≤ ks.length := by rw [Nat.add_mul, Nat.one_mul] at hk; exact hk
  have hl : (((turn wd ks).drop (k * wd)).take wd).length = wd := by
    rw [List.length_take, List.length_drop, turn_length]
    omega
  refine List.ext_getElem? fun j => ?_
  by_cases hj : j < wd
  · rw [List.getElem?_reverse (by rw [hl]; exact hj), hl]
    have h1 : wd - 1 - j < wd := by omega
    rw [List.getElem?_take_of_lt h1, List.getElem?_take_of_lt hj, List.getElem?_drop, List.getElem?_drop, turn_get hw hd (by omega)]
    have h2 : src wd (k * wd + (wd - 1 - j)) = k * wd + j := by
      unfold src
      have a1 : (k * wd + (wd - 1 - j)) / wd = k := by
        rw [Nat.mul_comm, Nat.mul_add_div hw, Nat.div_eq_of_lt h1, Nat.add_zero]
      have a2 : (k * wd + (wd - 1 - j)) % wd = wd - 1 - j := by
        rw [Nat.mul_comm, Nat.mul_add_mod, Nat.mod_eq_of_lt h1]
      rw [a1, a2]
      omega
    rw [h2]
  · rw [List.getElem?_eq_none (by rw [List.length_reverse, hl]; omega), List.getElem?_eq_none (by rw [List.length_take]; omega)]

/-- how far the two loops have come -/
def Done (b c : Array UInt8) (wd I J : Nat) : Prop := c.size = b.size ∧ ∀ k, k < b.size → (k / wd < I ∨ (k / wd = I ∧ wd - 1 - k % wd < J)) → c[k]? = b[src wd k]?
theorem Done.zero (b : Array UInt8) (wd : Nat) : Done b (Array.replicate b.size 0) wd 0 0 := ⟨Array.size_replicate .., fun k _ h => by
  rcases h with h | h
  · exact absurd h (Nat.not_lt_zero _)
  · exact absurd h.2 (Nat.not_lt_zero _)⟩
theorem Done.step {b c : Array UInt8} {wd I J : Nat} {x : UInt8} (h : Done b c wd I J) (hJ : J < wd) (hx : b[I * wd + J]? = some x) : Done b (c.setIfInBounds (I * wd + wd - 1 - J) x) wd I (J + 1) := by
  obtain ⟨h1, h2⟩ := h
  refine ⟨by rw [Array.size_setIfInBounds, h1], fun k hk hd => ?_⟩
  have hw : 0 < wd := by omega
  by_cases e : k = I * wd + wd - 1 - J
  · have e' : k = I * wd + (wd - 1 - J) := by omega
    have h3 : wd - 1 - J < wd := by omega
    have a1 : k / wd = I := by rw [e', Nat.mul_comm, Nat.mul_add_div hw, Nat.div_eq_of_lt h3, Nat.add_zero]
    have a2 : k % wd = wd - 1 - J := by rw [e', Nat.mul_comm, Nat.mul_add_mod, Nat.mod_eq_of_lt h3]
    rw [e, Array.getElem?_setIfInBounds_self_of_lt (by omega), ← e]
    unfold src
    rw [a1, a2, show wd - 1 - (wd - 1 - J) = J by omega, hx]
  · rw [Array.getElem?_setIfInBounds_ne (fun q => e q.symm)]
    refine h2 k hk ?_
    rcases hd with hd | ⟨hd1, hd2⟩
    · exact .inl hd
    · refine .inr ⟨hd1, ?_⟩
      have := Nat.div_add_mod k wd
      rw [hd1, Nat.mul_comm] at this
      have := Nat.mod_lt k hw
      omega
theorem Done.next {b c : Array UInt8} {wd I : Nat} (hw : 0 < wd) (h : Done b c wd I wd) : Done b c wd (I + 1) 0 := by
  refine ⟨h.1, fun k hk hd => h.2 k hk ?_⟩
  have := Nat.mod_lt k hw
  omega
theorem Done.fin {b c : Array UInt8} {wd : Nat} (hw : 0 < wd) (hd : wd ∣ b.size) (h : Done b c wd (b.size / wd) 0) : KBw.bInts c = turn wd (KBw.bInts b) := by
  have hl : (KBw.bInts b).length = b.size := KBw.ints_length ..
  have hlc : (KBw.bInts c).length = c.size := KBw.ints_length ..
  refine List.ext_getElem? fun k => ?_
  by_cases hk : k < b.size
  · rw [turn_get hw (by rw [hl]; exact hd) (by rw [hl]; exact hk)]
    have h1 := h.2 k hk (.inl (Nat.div_lt_div_of_lt_of_dvd hd hk))
    have h2 := src_lt hw hd hk
    have h3 : b[src wd k]? = some b[src wd k] := Array.getElem?_eq_getElem h2
    rw [h3] at h1
    rw [KBw.ints_get h1, KBw.ints_get h3]
  · rw [List.getElem?_eq_none (by rw [hlc, h.1]; omega), List.getElem?_eq_none (by rw [turn_length, hl]; omega)]
end Mine
end
section
open PySem PySem.W PyProof.Rows PySem.Calls PyProof.V
set_option Elab.async false
set_option maxRecDepth 100000
set_option maxHeartbeats 8000000
namespace Mine
section
variable {prog : Program} {w : World} {A : Around} {E : Value → Shared → Prop} {s : Shared} {env : Env} {h₀ : Heap} {x : Str} {body : List Stmt} {Q : Flow → Shared → Prop}
theorem iter_range {r : Addr} {a₀ b₀ c : Int} {t₀ u₀ v₀ : Tok} {n : Nat} {m₀ : Str → Option Value} {news : List (Addr × Obj)}
    (J : Nat → (Str → Option Value) → List (Addr × Obj) → Prop)
    (hh : A.handled = none) (hr : IsRange s.heap r a₀ b₀ c t₀ u₀ v₀) (hsmall : Builtin.Range.small a₀ b₀ c = true) (hn : Builtin.Range.rangeSize a₀ b₀ c = (n : Int)) (F : Fr h₀ env.locals s.heap m₀) (N : News h₀ env.locals s.heap news) (hJ : J 0 m₀ news)
    (turn : ∀ i t m₁ nx h tk own, i < n → nx.map (·.1) = news.map (·.1) → OwnOff own (news.map (·.1)) → J i m₁ nx → Fr h₀ env.locals h (fun y => if y = x then some (.int (a₀ + (i : Int) * c) t) else m₁ y) → News h₀ env.locals h (nx ++ own) →
      wpAny (model prog w) A (execs body env) (InvPostN h₀ env.locals (J (i + 1)) own (news.map (·.1)) { s with heap := h, toks := tk } Q) E { s with heap := h, toks := tk })
    (done : ∀ m₁ nx h tk, J n m₁ nx → Fr h₀ env.locals h m₁ → News h₀ env.locals h nx → Q .next { s with heap := h, toks := tk }) :
    wpAny (model prog w) A (pyIter (.ref r)) (fun it s₂ => LoopAtV prog w A h₀ env x body Q E it s₂) E s := by
  refine wpAny_pyIter_range hr hsmall ?_
  have W : Walks prog w A s.heap.objs.size [s.heap.objs.size] [s.heap.objs.size] n (fun i v => i < n ∧ ∃ t, v = .int (a₀ + i * c) t)
      (fun i h => IsRangeIter h s.heap.objs.size (a₀ + (i : Nat) * c) ((n : Int) - (i : Nat)) c) := (Walks.range hh _ a₀ c n).bound
  refine loop_invN J W ?_ ?_ ?_ ?_ (by show IsRangeIter _ _ _ _ _; rw [hn]; simpa using Heap.get?_push_size _ rfl) (F.push _) (fun p hp => ⟨Heap.get?_push_of_some _ (N p hp).1, (N p hp).2⟩) hJ ?_ ?_
  · intro hm
    exact absurd F.ns.lt ((List.mem_singleton.mp hm) ▸ Nat.lt_irrefl _)
  · intro b hb
    rw [List.mem_singleton.mp hb]
    exact next_is_new F
  · intro p hp hI
    exact absurd (Heap.lt_size (N p hp).1) ((List.mem_singleton.mp hI) ▸ Nat.lt_irrefl _)
  · intro p hp hI
    exact absurd (Heap.lt_size (N p hp).1) ((List.mem_singleton.mp hI) ▸ Nat.lt_irrefl _)
  · rintro i v m₁ nx h tk own hi ⟨_, t, rfl⟩ ha ho hj F' N'
    exact turn i t m₁ nx h tk own hi ha ho hj F' N'
  · exact done
theorem range_steps {wd q : Nat} (hw : 0 < wd) : Builtin.Range.rangeSize 0 ((q * wd : Nat) : Int) (wd : Int) = (q : Int) := by
  unfold Builtin.Range.rangeSize
  rw [if_pos (by omega)]
  by_cases hq : q = 0
  · subst hq; simp
  · have h1 : 0 < q * wd := Nat.mul_pos (by omega) hw
    rw [if_pos (by omega)]
    have h2 : ((q * wd : Nat) : Int) - 0 - 1 = ((q * wd - 1 : Nat) : Int) := by omega
    rw [h2, ← Int.natCast_ediv]
    have h3 : (q * wd - 1) / wd = q - 1 := by
      obtain ⟨k, rfl⟩ : ∃ k, q = k + 1 := ⟨q - 1, by omega⟩
      have h4 : (k + 1) * wd - 1 = wd * k + (wd - 1) := by rw [Nat.add_mul, Nat.mul_comm k]; omega
      rw [h4, Nat.mul_add_div hw, Nat.div_eq_of_lt (by omega)]
      omega
    rw [h3]
    omega
theorem range_small {a b c : Int} {n : Nat} (hc : 0 < c) (h1 : Builtin.Range.rangeSize a b c = (n : Int)) (ha : 0 ≤ a ∧ a ≤ 10000) (hb : 0 ≤ b ∧ b ≤ 10000) (hc2 : c ≤ 10000) (hn : n ≤ 10000) : Builtin.Range.small a b c = true := by
  unfold Builtin.Range.small
  rw [h1]
  simp only [Builtin.Range.rangeFitsLong, Bool.and_eq_true, Bool.or_eq_true, decide_eq_true_eq, if_pos (show c > 0 from hc)]
  omega
end
theorem fr_see5 {h₀ h : Heap} {L : Addr} {m : Str → Option Value} {x0 x1 x2 x3 x4 : Str} {v0 v1 v2 v3 v4 : Value} (F : Fr h₀ L h m) (e0 : m x0 = some v0) (e1 : m x1 = some v1) (e2 : m x2 = some v2) (e3 : m x3 = some v3) (e4 : m x4 = some v4) : Fr h₀ L h (fun y => if y = x0 then some v0 else if y = x1 then some v1 else if y = x2 then some v2 else if y = x3 then some v3 else if y = x4 then some v4 else m y) := by
  refine fr_map (fr_see4 F e1 e2 e3 e4) (funext fun y => ?_)
  by_cases h0 : y = x0
  · subst h0
    rw [if_pos rfl]
    by_cases h1 : y = x1
    · subst h1; rw [if_pos rfl, ← e0, e1]
    · rw [if_neg h1]
      by_cases h2 : y = x2
      · subst h2; rw [if_pos rfl, ← e0, e2]
      · rw [if_neg h2]
        by_cases h3 : y = x3
        · subst h3; rw [if_pos rfl, ← e0, e3]
        · rw [if_neg h3]
          by_cases h4 : y = x4
          · subst h4; rw [if_pos rfl, ← e0, e4]
          · rw [if_neg h4, e0]
  · rw [if_neg h0]
end Mine
end
section
open PySem PySem.W PyProof.Rows PySem.Calls
set_option Elab.async false
set_option maxRecDepth 100000
set_option maxHeartbeats 800000
namespace Mine
theorem fill6 : hd.heap_39 = hd.heap_39 ∧ PySem.Challenge.rw_zr0002_01 = PySem.Challenge.rw_zr0002_01 := by
  k_fill
  exact ⟨rfl, rfl⟩
local macro_rules | `(tactic| k_mem) => `(tactic| assumption)
theorem byteswap {prog : Program} {w : World} {dp un : Nat} {gd : Option (List Code)} {cn : Str} {cs : Scope} {a : Addr} {ccd : Value} {cl : List (Str × Addr)} {outer : List Env} {A₀ : Around} {base h₀ : Heap} {L : Addr} {m mg mb : Str → Option Value}
    {news : List (Addr × Obj)} {s : Shared} {Q : Value → Shared → Prop} {p : Program} {loose : List Str} {mean : ExcName → Option Value} {b : Array UInt8} {wd : Nat} {t u : Tok}
    (B : Below A₀ base outer h₀) (F : Fr h₀ L s.heap m) (X : (hd.heap_39 w.params).In h₀) (N : News h₀ L s.heap news) (T : Top p loose mean mg mb h₀) (hk : cs.kind = .function)
    (hw0 : 0 < wd) (hdv : wd ∣ b.size) (hz : b.size ≤ 1000) (hwz : wd ≤ 1000) (hdp : dp + 5 < recursionLimit) (hun : un + 40 < cLine)
    (hret : ∀ b' t' h' tk', Fr h₀ L h' m → News h₀ L h' news → KBw.bInts b' = turn wd (KBw.bInts b) → Q (.bytes b' t') { s with heap := h', toks := tk' }) :
    wpC (model prog w) (ktrTop dp un gd cn cs L a ccd cl outer) (call (.ref 42) [.bytes b t, .int (wd : Int) u]) Q s := by
  refine c_call ?_
  k_dflt (refine' codeC_def (binds := [(PySem.Str.ofString "data", .bytes b t), (PySem.Str.ofString "width", .int (wd : Int) u)]) ?k1 ?k2 ?k3 ?k4 ?k5 ?kA ?kF ?kK ?k6 ?k7 ?k8 ?k9 ?kB ?_ ?c2 ?c3 ?c4 ?c5; (case kA => exact rfl); (case kF => exact rfl); (case kK => assumption); (case k1 => k_asm); (case k2 => k_asm); (case k3 => k_asm); (case k4 => k_asm); (case k5 => k_asm); (case k6 => k_is); (case k7 => k_is); (case k8 => ktr_room); (case k9 => exact BindsTo.of_eq rfl); (case c5 => decide); (case kB => exact locs rfl); (case c2 => exact rfl); (case c3 => exact rfl); (case c4 => exact rfl); intro g' L' h' FG' F' N' B' X' T'; (try dsimp only); (try k_lift B'); (try k_fold))
  refine c_execs_cons (c_Assign_Name rfl (c_Call_Name ?_))
  walk1
  refine c_type1 ?_
  repeat' ((fail_if_success (with_reducible show wpC _ _ _ _ _)); first | walk1 | (dsimp only; walk1))
  rename Fr g' L' _ _ => F1
  rename News g' L' _ _ => N1
  refine ba_make F1 N1 (Int.natCast_nonneg _) (by omega) ?_
  clear F1 N1
  intro D h1 F1 N1 l1
  repeat' ((fail_if_success (with_reducible show wpC _ _ _ _ _)); first | walk1 | (dsimp only; walk1))
  rename Fr g' L' _ _ => F1
  rename News g' L' _ _ => N1
  replace F1 := fr_see3 F1 (x1 := PySem.Str.ofString "data") (x2 := PySem.Str.ofString "width") (x3 := PySem.Str.ofString "swapped_data") rfl rfl rfl
  refine c_any ?_
  dsimp only
  repeat' ((fail_if_success (with_reducible show wpAny _ _ (pyIter _) _ _ _)); first | walk1 | (dsimp only; walk1))
  obtain ⟨q, hq⟩ := hdv
  rw [Nat.mul_comm] at hq
  have hq' : b.size / wd = q := by rw [hq]; exact Nat.mul_div_cancel _ hw0
  have hql : q ≤ b.size := by rw [hq]; exact Nat.le_mul_of_pos_right _ hw0
  rename Fr g' L' _ _ => F2
  rename News g' L' _ _ => N2
  rename IsRange _ _ _ _ _ _ _ _ => hr
  dsimp only
  have hn : Builtin.Range.rangeSize 0 (b.size : Int) (wd : Int) = (q : Int) := by rw [hq]; exact range_steps hw0
  refine iter_range (fun i m₁ nx => (∃ c, nx = (D, baObj c) :: news ∧ Done b c wd i 0) ∧ m₁ (PySem.Str.ofString "data") = some (.bytes b t) ∧ m₁ (PySem.Str.ofString "width") = some (.int (wd : Int) u) ∧ m₁ (PySem.Str.ofString "swapped_data") = some (.ref D)) rfl hr (range_small (by omega) hn (by omega) (by omega) (by omega) (by omega)) hn F2 N2 ⟨⟨_, rfl, Done.zero b wd⟩, rfl, rfl, rfl⟩ ?_ ?_
  · clear hr F2 N2
    rintro i t3 m₁ nx h3 tk3 own hi ha ho ⟨⟨c, rfl, hD⟩, e1, e2, e3⟩ F3 N3
    replace F3 := fr_see4 F3 (x1 := PySem.Str.ofString "i") (x2 := PySem.Str.ofString "data") (x3 := PySem.Str.ofString "width") (x4 := PySem.Str.ofString "swapped_data") rfl e1 e2 e3
    rw [List.cons_append] at N3
    replace F3 : Fr g' L' h3 _ := F3
    replace N3 : News g' L' h3 _ := N3
    repeat' ((fail_if_success (with_reducible show wpAny _ _ (pyIter _) _ _ _)); first | walk1 | (dsimp only; walk1))
    rename Fr g' L' _ _ => F4
    rename News g' L' _ _ => N4
    rename IsRange _ _ _ _ _ _ _ _ => hr
    have hl1 : (i + 1) * wd ≤ b.size := by rw [hq]; exact Nat.mul_le_mul_right _ hi
    rw [Nat.add_mul, Nat.one_mul] at hl1
    have hn1 : Builtin.Range.rangeSize 0 (wd : Int) 1 = (wd : Int) := by
      have := range_steps (wd := 1) (q := wd) (by omega)
      rw [Nat.mul_one] at this
      exact this
    refine iter_range (fun j m₁ nx => (∃ c, nx = (D, baObj c) :: (news ++ own) ∧ Done b c wd i j) ∧ m₁ (PySem.Str.ofString "i") = some (.int (0 + (i : Int) * (wd : Int)) t3) ∧ m₁ (PySem.Str.ofString "data") = some (.bytes b t) ∧ m₁ (PySem.Str.ofString "width") = some (.int (wd : Int) u) ∧ m₁ (PySem.Str.ofString "swapped_data") = some (.ref D)) rfl hr (range_small (by omega) hn1 (by omega) (by omega) (by omega) (by omega)) hn1 F4 N4 ⟨⟨_, rfl, hD⟩, rfl, rfl, rfl, rfl⟩ ?_ ?_
    · clear hr F4 N4 e1 e2 e3
      rintro j t4 m₂ nx h4 tk4 own2 hj ha2 ho2 ⟨⟨c, rfl, hD⟩, e0, e1, e2, e3⟩ F3 N3
      rw [List.cons_append] at N3
      replace F3 : Fr g' L' h4 _ := F3
      replace N3 : News g' L' h4 _ := N3
      replace F3 := fr_see5 F3 (x0 := PySem.Str.ofString "j") (x1 := PySem.Str.ofString "i") (x2 := PySem.Str.ofString "data") (x3 := PySem.Str.ofString "width") (x4 := PySem.Str.ofString "swapped_data") rfl e0 e1 e2 e3
      repeat' ((fail_if_success (with_reducible show wpAny _ _ (subscriptTail _ _ _ _) _ _ _)); first | walk1 | (dsimp only; walk1))
      have hlen : (KBw.bInts b).length = b.size := KBw.ints_length b
      have hij : 0 + (i : Int) * (wd : Int) + (0 + (j : Int) * 1) = ((i * wd + j : Nat) : Int) := by push_cast; omega
      have hpl : i * wd + j < b.size := by omega
      refine KBw.item_K rfl (by omega) (by rw [hij]; omega) (by rw [hij]; omega) ?_
      intro t5 tk5 x0 x1
      have hx := KBw.ints_get (Array.getElem?_eq_getElem hpl)
      have hval : (KBw.bInts b).getD (0 + (i : Int) * (wd : Int) + (0 + (j : Int) * 1)).toNat 0 = (b[i * wd + j].toNat : Int) := by
        rw [hij, Int.toNat_natCast, List.getD_eq_getElem?_getD, hx]
        rfl
      rw [hval] at x0 x1
      rw [hval]
      repeat' ((fail_if_success (with_reducible show wpAny _ _ (setItem _ _ _) _ _ _)); first | walk1 | (dsimp only; walk1))
      have hpos : (0 + (i : Int) * (wd : Int) + (wd : Int) - 1 - (0 + (j : Int) * 1)) = ((i * wd + wd - 1 - j : Nat) : Int) := by push_cast; omega
      rw [hpos]
      refine ba_store F3 N3 ?_ (by omega) (by rw [hD.1]; omega) (by rw [hD.1]; omega) x0 x1 ?_
      · intro r hr
        rcases List.mem_append.mp hr with hr | hr
        · rcases List.mem_append.mp hr with hr | hr
          · exact Nat.ne_of_lt (l1 r hr)
          · exact OwnOff.ne ho (List.mem_map_of_mem List.mem_cons_self) r hr
        · exact OwnOff.ne ho2 (List.mem_map_of_mem List.mem_cons_self) r hr
      intro h5 F5 N5
      rw [Int.toNat_natCast, Int.toNat_natCast] at N5
      dsimp only
      repeat' ((fail_if_success (with_reducible show InvPostN _ _ _ _ _ _ _ _ _)); first | walk1 | (dsimp only; walk1))
      refine InvEndN.intro F5 N5 (nx := (D, baObj (c.setIfInBounds (i * wd + wd - 1 - j) b[i * wd + j].toNat.toUInt8)) :: (news ++ own)) ⟨⟨_, rfl, Done.step hD hj ?_⟩, rfl, rfl, rfl, rfl⟩ ha2 ?_ ?_
      · rw [Array.getElem?_eq_getElem hpl]
        simp
      · intro r hr
        rcases List.mem_cons.mp hr with rfl | hr
        · exact List.mem_cons_self
        · exact List.mem_cons_of_mem _ (List.mem_append_left _ hr)
      · intro r hr
        exact List.mem_cons_of_mem _ (List.mem_append_right _ hr)
    · rintro m₂ nx h4 tk4 ⟨⟨c, rfl, hD⟩, e0, e1, e2, e3⟩ F3 N3
      replace F3 : Fr g' L' h4 _ := F3
      replace N3 : News g' L' h4 _ := N3
      clear hr F4 N4
      dsimp only
      repeat' ((fail_if_success (with_reducible show InvPostN _ _ _ _ _ _ _ _ _)); first | walk1 | (dsimp only; walk1))
      refine InvEndN.intro F3 N3 (nx := (D, baObj c) :: news) ⟨⟨c, rfl, Done.next hw0 hD⟩, e1, e2, e3⟩ ha ?_ ?_
      · intro r hr
        rcases List.mem_cons.mp hr with rfl | hr
        · exact List.mem_cons_self
        · exact List.mem_cons_of_mem _ (List.mem_append_left _ hr)
      · intro r hr
        exact List.mem_cons_of_mem _ (List.mem_append_right _ hr)
  · intro m₁ nx h3 tk3 ⟨⟨c, e, hD⟩, e1, e2, e3⟩ F3 N3
    subst e
    replace F3 : Fr g' L' h3 _ := fr_see3 F3 e1 e2 e3
    replace N3 : News g' L' h3 _ := N3
    clear hr F2 N2
    dsimp only
    repeat' ((fail_if_success (with_reducible show wpAny _ _ (call (Value.type "bytes") _) _ _ _)); first | walk1 | (dsimp only; walk1))
    refine call_bytes_ba (N3 _ List.mem_cons_self).1 (by rw [hD.1]; omega) ?_
    intro t9 tk9
    have hfin := Done.fin hw0 (by rw [hq]; exact Nat.dvd_mul_left _ _) (by rw [hq']; exact hD)
    k_steps
    with_reducible rename News h₀ L _ _ => kN
    exact hret _ _ _ _ (by k_asm) (fun q hq => kN q (List.Mem.tail _ hq)) hfin
end Mine
end
section
open PySem PySem.W PyProof.Rows PySem.Calls
set_option Elab.async false
set_option maxRecDepth 100000
set_option maxHeartbeats 8000000
namespace Mine
theorem codeC_cells {prog : Program} {w : World} {A : Around} {R : Flow → Shared → Prop} {s : Shared} {name : Str} {params : Arguments} {body : List Stmt} {scope : Scope}
    {pm cd doc : Value} {a : Addr} {o : Obj} {args : List Value} {binds : List (Str × Value)}
    (hroom : A.depth < recursionLimit) (ho : s.heap.get? a = some o) (hdata : o.data = .func (Calls.docDef name params body scope pm cd doc)) (hlim : s.heap.NoLimit) (hcd : s.heap.CodeRec cd name)
    (hbind : bindArgs (Calls.docDef name params body scope pm cd doc) ⟨args, []⟩ = pure binds)
    (hkind : ∀ x ∈ binds, scope.names.lookup x.1 = some .local ∨ (scope.names.lookup x.1 = some .cell ∧ ((cellsFrom (s.heap.objs.size + 1) scope.names []).lookup x.1).isSome = true))
    (hnd : ((cellsFrom 0 scope.names []).map (·.1)).Nodup)
    (h : ∀ h₁ tk cells, Fr s.heap s.heap.objs.size h₁ (bindL (envOfC name scope s.heap.objs.size a cd).kindOf binds fun _ => none) → News s.heap s.heap.objs.size h₁ cells →
      CellsAre (bindC (envOfC name scope s.heap.objs.size a cd).kindOf binds fun _ => none) (cellsFrom (s.heap.objs.size + 1) scope.names []) cells →
      wpC (model prog w) (A.deeper (envOfC name scope s.heap.objs.size a cd)) (execs body (envOfC name scope s.heap.objs.size a cd))
        (fun f s' => R (.ret (match f with | .ret v => v | _ => .none)) s') { s with heap := h₁, toks := tk })
    (hco : scope.isCoroutine = false := by rfl) (hgen : scope.isGenerator = false := by rfl) (hk : scope.kind = .function := by rfl) :
    codeC (model prog w) A (.call (.ref a) ⟨args, []⟩) R s := by
  refine codeC_call_function (fd := Calls.docDef name params body scope pm cd doc) hroom ho hdata hco hgen rfl hcd (BindsTo.of_eq hbind _ _ _ _ ?_)
  refine wpAny_newFunctionEnv_cells hk hkind fun env' he s' x => ?_
  subst he
  refine ⟨hlim.keeps x.toInCall.keep, codeC_func ?_⟩
  obtain ⟨h₁, tk, rfl, _⟩ := x.done
  obtain ⟨cells, NC, Y⟩ := Cl.news (h₀ := s.heap) (Nat.le_refl _) fun n c hm => ⟨x.cell n c (lookup_of_mem_nodup (cellsFrom_names scope.names 0 (s.heap.objs.size + 1) [] [] rfl ▸ hnd) hm), x.above n c hm⟩
  exact h h₁ tk cells ⟨x.toInCall.ns, x.toInCall.keep, x.toInCall.fresh⟩ NC Y
/-- what holds of every end of a code that ends at once with f -/
theorem of_const {m : Model} {R : Result → Shared → Prop} {f : Flow} {s : Shared} (h : codeAny { m with den := fun _ => pure (.done f) } { handled := none, depth := 100, units := 100 } (.call .none ⟨[], []⟩) R s) : R (.ok f) s := by
  have g := h ⟨.call .none ⟨[], []⟩, none, none, [], none⟩ default rfl ⟨rfl, Nat.zero_le _, (fun l hl => by cases hl), (fun l hl => by cases hl), Nat.zero_le _⟩
  rw [wpCode_iff_wp] at g
  exact g
theorem const_of {m : Model} {A : Around} {c : Code} {R : Result → Shared → Prop} {f : Flow} {s : Shared} (h : R (.ok f) s) : codeAny { m with den := fun _ => pure (.done f) } A c R s :=
  codeAny_of_tree (wpAny_pure h)
theorem post_kn {m : Model} {s' s₁ : Shared} {cw : ClaimW} {cl : Str → Option Addr} {mean : ExcName → Option Value} {args : List WData} {tabs : List (Addr × Addr)} {f : Flow} (hT : TabsAt tabs s₁.heap) (hr : ∀ a x, cw.raises a x = false)
    (h : GoodW cw cl mean args { s₁ with heap := ghostOf s₁.heap tabs } (.ok f) s' ∧ GrownAll tabs s'.heap) : GoodWG cw cl mean args s₁ (.ok f) s' :=
  of_const (m := m) (kn_post hT hr (const_of (R := fun r s' => GoodW cw cl mean args { s₁ with heap := ghostOf s₁.heap tabs } r s' ∧ GrownAll tabs s'.heap) h))
end Mine
end
section
open PySem PySem.W PyProof.Rows PySem.Calls
set_option Elab.async false
set_option maxRecDepth 100000
set_option maxHeartbeats 8000000
namespace Mine
/-- the law's ledger: its own things, the two code tables, the code objects in them -/
def Split (news own : List (Addr × Obj)) (p q : Array Value) (codes : List (Addr × Obj)) : Prop := news = own ++ (30, tabObj p) :: (23, tabObj q) :: codes
theorem Split.nil {p q : Array Value} {codes : List (Addr × Obj)} : Split ((30, tabObj p) :: (23, tabObj q) :: codes) [] p q codes := rfl
theorem Split.cons {x : Addr × Obj} {news own : List (Addr × Obj)} {p q : Array Value} {codes : List (Addr × Obj)} (h : Split news own p q codes) : Split (x :: news) (x :: own) p q codes := congrArg (x :: ·) h
structure Tab (p q : Array Value) (codes : List (Addr × Obj)) : Prop where
  d : TabSt 29 4 (PySem.Str.ofString "_digits2int.<locals>.inner") p codes
  i : TabSt 14 4 (PySem.Str.ofString "_int2digits.<locals>.inner") q codes
  ne : ∀ r ∈ codes, r.1 ≠ 30 ∧ r.1 ≠ 23
def NoTab (own : List (Addr × Obj)) : Prop := ∀ r ∈ own, ∀ p, r.2 ≠ tabObj p
theorem NoTab.nil : NoTab [] := fun _ h => nomatch h
theorem NoTab.cons {a : Addr} {o : Obj} {own : List (Addr × Obj)} (h : NoTab own) (ho : ∀ p, o ≠ tabObj p) : NoTab ((a, o) :: own) := fun r hr => by
  rcases List.mem_cons.mp hr with rfl | hr
  · exact ho
  · exact h r hr
theorem NoTab.list {a : Addr} {v : Array Value} {e : Nat} {own : List (Addr × Obj)} (h : NoTab own) : NoTab ((a, listOf v e) :: own) := h.cons fun p q => by cases q
section
variable {h₀ h : Heap} {L : Addr} {news own codes : List (Addr × Obj)} {p q : Array Value}
theorem own_ne (N : News h₀ L h news) (sp : Split news own p q codes) (hne : NoTab own) : ∀ r ∈ own, r.1 ≠ 30 ∧ r.1 ≠ 23 := fun r hr => by
  have n1 := N r (by rw [sp]; exact List.mem_append_left _ hr)
  have n2 := N (30, tabObj p) (by rw [sp]; exact List.mem_append_right _ List.mem_cons_self)
  have n3 := N (23, tabObj q) (by rw [sp]; exact List.mem_append_right _ (List.mem_cons_of_mem _ List.mem_cons_self))
  refine ⟨fun e => ?_, fun e => ?_⟩
  · rw [e, n2.1] at n1
    exact hne r hr p (Option.some.inj n1.1).symm
  · rw [e, n3.1] at n1
    exact hne r hr q (Option.some.inj n1.1).symm
end
section
variable {prog : Program} {w : World} {dp un : Nat} {gd : Option (List Code)} {cn : Str} {cs : Scope} {a : Addr} {ccd : Value} {cl : List (Str × Addr)} {outer : List Env} {A₀ : Around} {base h₀ : Heap} {L : Addr} {m mg mb : Str → Option Value}
    {news own codes : List (Addr × Obj)} {p q : Array Value} {s : Shared} {Q E : Value → Shared → Prop} {pr : Program} {loose : List Str} {mean : ExcName → Option Value}
theorem w_i2d {nn x₀ : Nat} {t t2 : Tok} {k : Int}
    (B : Below A₀ base outer h₀) (F : Fr h₀ L s.heap m) (X : (hd.heap_39 w.params).In h₀) (N : News h₀ L s.heap news) (T : Top pr loose mean mg mb h₀) (hk : cs.kind = .function) (C : CodeHd h₀ 27 23)
    (sp : Split news own p q codes) (tb : Tab p q codes) (hne : NoTab own) (hx : x₀ < 10 ^ 40) (hkn : k = (nn : Int)) (hnn : 0 < nn ∧ nn ≤ 32)
    (hdp : dp + 300 < recursionLimit) (hun : un + 3000 < cLine)
    (hret : ∀ D ys e h' tk' q' codes', Fr h₀ L h' m → News h₀ L h' ((D, listOf ys.toArray e) :: (own ++ (30, tabObj p) :: (23, tabObj q') :: codes')) → Split ((D, listOf ys.toArray e) :: (own ++ (30, tabObj p) :: (23, tabObj q') :: codes')) ((D, listOf ys.toArray e) :: own) p q' codes' →
      IntsAre ys (dig (2 ^ nn) (cnt nn x₀) x₀) → Tab p q' codes' → NoTab ((D, listOf ys.toArray e) :: own) → (∀ a o, (a, o) ∈ own → (∀ r ∈ codes, r.1 ≠ a) → ∀ r ∈ codes', r.1 ≠ a) → (∀ r ∈ own, r.1 ≠ D) → Q (.ref D) { s with heap := h', toks := tk' }) :
    wpAny (model prog w) (ktrTop dp un gd cn cs L a ccd cl outer) (call (.ref 28) [.int (x₀ : Int) t, .int k t2]) Q E s := by
  subst hkn
  have on := own_ne N sp hne
  have N' : News h₀ L s.heap ((own ++ [(30, tabObj p)]) ++ (23, tabObj q) :: codes) := by
    rw [List.append_assoc, List.singleton_append, ← sp]; exact N
  refine i2d B F X N' T hk C (fun r hr => ?_) (fun r hr => (tb.ne r hr).2) tb.i hx hnn hdp hun fun D ys e h' tk' q' extra F1 N1 hi G' lx lD => ?_
  · rcases List.mem_append.mp hr with hr | hr
    · exact (on r hr).2
    · rw [List.mem_singleton.mp hr]
      show (30 : Nat) ≠ 23
      decide
  · refine hret D ys e h' tk' q' (codes ++ extra) F1 ?_ rfl hi ⟨tb.d.mono fun r hr => List.mem_append_left _ hr, G', fun r hr => ?_⟩ hne.list (fun a o ha hc r hr => ?_) (fun r hr => Nat.ne_of_lt (lD r (List.mem_append_left _ (List.mem_append_left _ hr))))
    · rw [List.append_assoc, List.singleton_append] at N1
      exact N1
    · rcases List.mem_append.mp hr with hr | hr
      · exact tb.ne r hr
      · exact ⟨Nat.ne_of_gt (lx r hr (30, tabObj p) (List.mem_append_left _ (List.mem_append_right _ List.mem_cons_self))), Nat.ne_of_gt (lx r hr (23, tabObj q) (List.mem_append_right _ List.mem_cons_self))⟩
    · rcases List.mem_append.mp hr with hr | hr
      · exact hc r hr
      · exact Nat.ne_of_gt (lx r hr (a, o) (List.mem_append_left _ (List.mem_append_left _ ha)))
theorem w_d2i {nn : Nat} {t : Tok} {l : Addr} {vs : List Value} {ds : List Int} {e : Nat} {k : Int}
    (B : Below A₀ base outer h₀) (F : Fr h₀ L s.heap m) (X : (hd.heap_39 w.params).In h₀) (N : News h₀ L s.heap news) (T : Top pr loose mean mg mb h₀) (hk : cs.kind = .function) (C : CodeHd h₀ 34 30)
    (sp : Split news own p q codes) (tb : Tab p q codes) (hne : NoTab own) (hl : (l, listOf vs.toArray e) ∈ own) (hi : IntsAre vs ds) (hds : ∀ d ∈ ds, 0 ≤ d ∧ d < 2 ^ nn) (hkn : k = (nn : Int)) (hnn : 0 < nn ∧ nn ≤ 32) (hlen : ds.length ≤ 200)
    (hdp : dp + 300 < recursionLimit) (hun : un + 3000 < cLine)
    (hret : ∀ t' h' tk' p' codes', Fr h₀ L h' m → News h₀ L h' (own ++ (30, tabObj p') :: (23, tabObj q) :: codes') → Split (own ++ (30, tabObj p') :: (23, tabObj q) :: codes') own p' q codes' → Tab p' q codes' → (∀ a o, (a, o) ∈ own → (∀ r ∈ codes, r.1 ≠ a) → ∀ r ∈ codes', r.1 ≠ a) → Q (.int (val (2 ^ nn) ds) t') { s with heap := h', toks := tk' }) :
    wpAny (model prog w) (ktrTop dp un gd cn cs L a ccd cl outer) (call (.ref 35) [.ref l, .int k t]) Q E s := by
  subst hkn
  have on := own_ne N sp hne
  rw [sp] at N
  refine d2i B F X N T hk C (fun r hr => (on r hr).1) (fun r hr => ?_) (tb.d.mono fun r hr => List.mem_cons_of_mem _ hr) (List.mem_append_left _ hl) hi hds hnn hlen hdp hun fun t' h' tk' p' extra F1 N1 G' lx => ?_
  · rcases List.mem_cons.mp hr with rfl | hr
    · show (23 : Nat) ≠ 30
      decide
    · exact (tb.ne r hr).1
  · have hx : ∀ r ∈ extra, r.1 ≠ 30 ∧ r.1 ≠ 23 := fun r hr =>
      ⟨Nat.ne_of_gt (lx r hr (30, tabObj p) (List.mem_append_right _ List.mem_cons_self)), Nat.ne_of_gt (lx r hr (23, tabObj q) (List.mem_append_right _ (List.mem_cons_of_mem _ List.mem_cons_self)))⟩
    refine hret t' h' tk' p' (codes ++ extra) F1 N1 rfl ⟨?_, tb.i.mono fun r hr => List.mem_append_left _ hr, fun r hr => ?_⟩ fun a o ha hc r hr => ?_
    · rcases G' with G' | ⟨c', oc, vs, t, h1, h2, h3, h4⟩
      · exact .inl G'
      · refine .inr ⟨c', oc, vs, t, h1, ?_, h3, h4⟩
        rw [List.cons_append] at h2
        rcases List.mem_cons.mp h2 with h2 | h2
        · obtain ⟨rfl, rfl⟩ := Prod.mk.inj h2
          cases h3
          rcases tb.i with h5 | ⟨_, _, _, _, h5, _⟩
          · rw [h5] at h4; cases h4
          · rw [h5] at h4; cases h4
        · exact h2
    · rcases List.mem_append.mp hr with hr | hr
      · exact tb.ne r hr
      · exact hx r hr
    · rcases List.mem_append.mp hr with hr | hr
      · exact hc r hr
      · exact Nat.ne_of_gt (lx r hr (a, o) (List.mem_append_left _ ha))
end
section
variable {prog : Program} {w : World} {A : Around} {E : Value → Shared → Prop} {s : Shared}
theorem ints_get {vs : List Value} {ns : List Int} (hi : IntsAre vs ns) {j : Nat} (hj : j < ns.length) : ∃ t, vs[j]? = some (.int (ns.getD j 0) t) := by
  have hl := hi.length
  obtain ⟨x, hx⟩ : ∃ x, vs[j]? = some x := ⟨vs[j]'(by omega), List.getElem?_eq_getElem (by omega)⟩
  obtain ⟨n, t, rfl, hn⟩ := IntsAre.at hi j x hx
  refine ⟨t, ?_⟩
  rw [hx, List.getD_eq_getElem?_getD, hn]
  rfl
theorem item_last {value slice : Expr} {l : Addr} {vs : List Value} {ns : List Int} {u : Tok} {Q : Value → Shared → Prop} (hl : s.heap.IsList l vs.toArray) (hi : IntsAre vs ns) (hne : 0 < ns.length) (hz : ns.length ≤ 10000)
    (h : ∀ t, Q (.int (ns.getD (ns.length - 1) 0) t) s)
    (hs : subscripted slice false (.ref l) (.int (-1) u) = operate [.ref l, .int (-1) u] (getItem (.ref l) (.int (-1) u)) := by with_unfolding_all rfl) (hg : ∀ r, letTemporaryGo value (.ref l) r = pure () := by intro _; with_unfolding_all rfl) :
    wpAny (model prog w) A (subscriptTail value slice (.ref l) (.int (-1) u)) Q E s := by
  have hlen := hi.length
  have hsz : vs.toArray.size = ns.length := by rw [List.size_toArray]; exact hlen
  obtain ⟨t, ht⟩ := ints_get hi (j := ns.length - 1) (by omega)
  refine subscriptTail_builtin hl.typeIs slot_list_getitem.lookup (wpAny_getItem_list_neg hl (by decide) (by omega) (by decide) (x := .int (ns.getD (ns.length - 1) 0) t) ?_ (h t)) hs hg
  rw [hsz, show (-1 + (ns.length : Int)).toNat = ns.length - 1 by omega]
  simpa using ht
theorem item_nat {value slice : Expr} {l : Addr} {vs : List Value} {ns : List Int} {u : Tok} {k : Nat} {Q : Value → Shared → Prop} (hl : s.heap.IsList l vs.toArray) (hi : IntsAre vs ns) (hk : k < ns.length) (hz : ns.length ≤ 10000)
    (h : ∀ t, Q (.int (ns.getD k 0) t) s)
    (hs : subscripted slice false (.ref l) (.int (k : Int) u) = operate [.ref l, .int (k : Int) u] (getItem (.ref l) (.int (k : Int) u)) := by with_unfolding_all rfl) (hg : ∀ r, letTemporaryGo value (.ref l) r = pure () := by intro _; with_unfolding_all rfl) :
    wpAny (model prog w) A (subscriptTail value slice (.ref l) (.int (k : Int) u)) Q E s := by
  obtain ⟨t, ht⟩ := ints_get hi hk
  refine subscriptTail_builtin hl.typeIs slot_list_getitem.lookup (wpAny_getItem_list hl (by omega) (by omega) (x := .int (ns.getD k 0) t) ?_ (h t)) hs hg
  simpa using ht
end
section
variable {prog : Program} {w : World} {A : Around} {E : Value → Shared → Prop} {s : Shared} {h₀ : Heap} {L : Addr} {m : Str → Option Value} {news : List (Addr × Obj)}
theorem slice_K {value slice : Expr} {l : Addr} {its : Array Value} {e : Nat} {vl vu vk : Value} {lo hi st : Option Int} {ops : List Value} {Q : Value → Shared → Prop} (F : Fr h₀ L s.heap m) (N : News h₀ L s.heap news) (hm : (l, listOf its e) ∈ news)
    (pl : IsPart vl lo) (pu : IsPart vu hi) (pk : IsPart vk st) (h0 : st ≠ some 0) (hz : its.size ≤ sizeLine)
    (h : ∀ D h', Fr h₀ L h' m → News h₀ L h' ((D, listOf (slicePick its lo hi st) 0) :: news) → Q (.ref D) { s with heap := h' })
    (hs : subscripted slice false (.ref l) (.ref s.heap.objs.size) = operate ops (getItem (.ref l) (.ref s.heap.objs.size))) (ht : ∀ r, letTemporaryGo value (.ref l) r = pure ()) :
    wpAny (model prog w) A (subscriptTail value slice (.ref l) (.ref s.heap.objs.size)) Q E { s with heap := s.heap.push { cls := .type "slice", data := .fields #[vl, vu, vk] } } :=
  slice_list3 F N ⟨_, (N _ hm).1, rfl, e, rfl⟩ pl pu pk h0 (fun h' F' N' => h _ h' F' N') hs ht hz
end
end Mine
end
section
open PySem PySem.W PyProof.Rows PySem.Calls
set_option Elab.async false
set_option maxRecDepth 100000
set_option maxHeartbeats 8000000
namespace Mine
open PyProof.Rows.LCg
section
variable {prog : Program} {w : World} {A : Around} {E : Value → Shared → Prop} {s : Shared} {h₀ : Heap} {L : Addr} {m : Str → Option Value} {env : Env} {elt iter : Expr} {x : Str} {px pos : Pos} {scope : Scope} {cl : List (Str × Addr)}
theorem compr_rest {n : Nat} {news : List (Addr × Obj)} {P : Int → Prop} (turn : ∀ (k : Int) (t : Tok) (I : Addr) (oI : Obj) (C : Addr) (oC : Obj) (D : Addr) (ys : List Value) (m₂ : Str → Option Value) (h : Heap) (tk : Nat) (E' : Value → Shared → Prop), 0 ≤ k → k < n → NsObj oC m₂ → m₂ x = some (.int k t) → Fr h₀ L h m →
      News h₀ L h ((I, oI) :: (C, oC) :: (D, lst ys) :: news) → Off3 I C D news → ((@Ne Nat I C) ∧ (@Ne Nat I D) ∧ (@Ne Nat C D)) →
      wpAny (model prog w) A (eval elt (compEnvC scope cl C env)) (fun y s₂ => ∃ z t h' tk', y = .int z t ∧ P z ∧ s₂ = { s with heap := h', toks := tk' } ∧ Fr h₀ L h' m ∧ News h₀ L h' ((I, oI) :: (C, oC) :: (D, lst ys) :: news)) E' { s with heap := h, toks := tk }) :
    ∀ k i ys zs, i + k = n → IntsAre ys zs → zs.length = i → (∀ z ∈ zs, P z) → CompRest prog w A h₀ L m env elt x scope cl s (fun nw => nw = news) (fun i v => i < n ∧ ∃ t, v = .int (0 + (i : Int) * 1) t) (fun ys nw => nw = news ∧ ∃ zs, IntsAre ys zs ∧ zs.length = n ∧ ∀ z ∈ zs, P z) k i ys news := by
  intro k
  induction k with
  | zero =>
    intro i ys zs hi hy hl hP
    exact CompRest.zero ⟨rfl, zs, hy, by omega, hP⟩
  | succ k ih =>
    intro i ys zs hi hy hl hP
    refine CompRest.succ fun v I oI C oC D m₂ h tk E' hv hoC hx F N off ne => ?_
    obtain ⟨hin, t, rfl⟩ := hv
    refine wpAny_mono (turn _ t I oI C oC D ys m₂ h tk E' (by omega) (by omega) hoC hx F N off ne) (fun y s₂ hy2 => ?_) fun _ _ e => e
    obtain ⟨z, t', h', tk', rfl, hz, rfl, F', N'⟩ := hy2
    refine CompEnd.intro F' N' news (fun p hp => hp) off rfl (ih (i + 1) _ (zs ++ [z]) (by omega) (ints_snoc hy) (by simp [hl]) fun z' hz' => ?_)
    rcases List.mem_append.mp hz' with hz' | hz'
    · exact hP z' hz'
    · rw [List.mem_singleton.mp hz']; exact hz

def RangeSrcA (prog : Program) (w : World) (A : Around) (h₀ : Heap) (L : Addr) (m : Str → Option Value) (env : Env) (elt : Expr) (x : Str) (scope : Scope) (cl : List (Str × Addr)) (y : Str) (Q : Flow → Shared → Prop) (xv : Value) (s₁ : Shared) : Prop :=
  ∃ (r : Addr) (n : Nat) (t u v : Tok) (news : List (Addr × Obj)) (P : Int → Prop), xv = .ref r ∧ IsRange s₁.heap r 0 ((n : Nat) : Int) 1 t u v ∧ n ≤ 1000 ∧ A.handled = none ∧ Fr h₀ L s₁.heap m ∧ News h₀ L s₁.heap news ∧
    (∀ (k : Int) (t : Tok) (I : Addr) (oI : Obj) (C : Addr) (oC : Obj) (D : Addr) (ys : List Value) (m₂ : Str → Option Value) (h : Heap) (tk : Nat) (E' : Value → Shared → Prop), 0 ≤ k → k < n → NsObj oC m₂ → m₂ x = some (.int k t) → Fr h₀ L h m →
      News h₀ L h ((I, oI) :: (C, oC) :: (D, lst ys) :: news) → Off3 I C D news → ((@Ne Nat I C) ∧ (@Ne Nat I D) ∧ (@Ne Nat C D)) →
      wpAny (model prog w) A (eval elt (compEnvC scope cl C env)) (fun y s₂ => ∃ z t h' tk', y = .int z t ∧ P z ∧ s₂ = { s₁ with heap := h', toks := tk' } ∧ Fr h₀ L h' m ∧ News h₀ L h' ((I, oI) :: (C, oC) :: (D, lst ys) :: news)) E' { s₁ with heap := h, toks := tk }) ∧
    ∀ D ys zs e h' tk', IntsAre ys zs → zs.length = n → (∀ z ∈ zs, P z) → Fr h₀ L h' (fun z => if z = y then some (.ref D) else m z) → News h₀ L h' ((D, listOf ys.toArray e) :: news) → Off1 D news → Q .next { s₁ with heap := h', toks := tk' }

theorem assign_comp_range {y : Str} {py spos : Pos} {Q : Flow → Shared → Prop} (_F₀ : Fr h₀ L s.heap m) (hLe : env.locals = L)
    (hsw : swapsWith (.ListComp elt [⟨.Name x px, iter, [], 0⟩] scope pos) (some (.Name y py)) spos.line env = pure true)
    (hclos : closureFor scope env = pure cl) (hcell : ∀ y ∈ scope.names, y.2 ≠ .cell) (hkind : scope.kind = .function)
    (hnames : ∀ y ∈ scope.names, y.2 = .local → scope.names.lookup y.1 = some .local) (hx : scope.names.lookup x = some .local)
    (hy : env.kindOf y = some .local) (hp : (env.scope.kind == .class || (env.scope.kind == .module && env.locals != env.globals)) = false)
    (h : wpAny (model prog w) A (eval iter env) (RangeSrcA prog w A h₀ L m env elt x scope cl y Q) E s)
    (hs : ∀ x, foldedSetIterable iter env x = pure x := by intro _; rfl) :
    wpAny (model prog w) A (exec (.Assign [.Name y py] (.ListComp elt [⟨.Name x px, iter, [], 0⟩] scope pos) spos) env) Q E s := by
  subst hLe
  rw [exec_Assign_Name_used _ _ _ _ hsw]
  refine wpAny_bind (wpAny_standAt (wpAny_bind ?_))
  show wpAny _ A (do let _ ← comprehension (.ListComp elt [⟨.Name x px, iter, [], 0⟩] scope pos) scope env _ (newList []) false (eval iter env) (some (assign (.Name y py) env))) _ _ s
  refine wpAny_bind (wpAny_mono (wpAny_comprehension_free (use := some (assign (.Name y py) env)) (Q := fun _ s' => Q .next s') rfl hs hclos hkind hnames
    (wpAny_mono h (fun xv s₁ h₁ => ?_) fun _ _ e => e)) (fun _ s' hq => wpAny_pure (wpAny_pure hq)) fun _ _ e => e)
  obtain ⟨r, n, t, u, v, news, P, rfl, hr, hn, hh, F, N, turn, R⟩ := h₁
  have hsz : Builtin.Range.rangeSize 0 (n : Int) 1 = (n : Int) := by
    rw [rangeSize_one]
    split <;> omega
  have hsmall : Builtin.Range.small 0 (n : Int) 1 = true := range_small (by decide) hsz (by omega) (by omega) (by decide) (by omega)
  refine wpAny_pyIter_range hr hsmall ?_
  refine block_U (S := fun nw => nw = news) (Fin := fun ys nw => nw = news ∧ ∃ zs, IntsAre ys zs ∧ zs.length = n ∧ ∀ z ∈ zs, P z) (P := fun i v => i < n ∧ ∃ t, v = .int (0 + (i : Int) * 1) t) (Walks.range hh s₁.heap.objs.size 0 1 n).bound (by rw [sizeLine_eq]; omega) (fun i h st => ⟨_, st⟩)
      (fun i h h' o nw st e e' _ _ _ => by
        show IsRangeIter _ _ _ _ _
        have q : h.get? s₁.heap.objs.size = some _ := st
        rw [e] at q; cases q
        exact e')
      hcell hkind hx (by show IsRangeIter _ _ _ _ _; rw [hsz]; simpa using Heap.get?_push_size _ rfl) (fun b hb => ?_)
      (F.keeps fun _ _ e => Heap.get?_push_of_some _ e) (N.grown fun _ _ e => Heap.get?_push_of_some _ e) (Nat.ne_of_lt F.ns.lt) (next_is_new F) (fun p hp => Nat.ne_of_lt (Heap.lt_size (N p hp).1)) rfl (compr_rest (s := { s₁ with heap := s₁.heap.push { cls := .type "range_iterator", data := .fields #[rawInt 0, rawInt (Builtin.Range.rangeSize 0 (n : Int) 1), rawInt 1] } }) turn n 0 [] [] (by omega) .nil rfl (fun z hz => nomatch hz)) ?_
  · rw [List.mem_singleton.mp hb]
    show s₁.heap.objs.size < (s₁.heap.push _).objs.size
    rw [Heap.size_push]; exact Nat.lt_succ_self _
  · intro D C h' tk m' ys news' F' N' o1 hn hC₀ hD₀ hCL hDL hCD offC fin
    obtain ⟨rfl, zs, hys, hzl, hzP⟩ := fin
    show wpAny _ A (assign (.Name y py) env (.ref D)) _ _ _
    refine wpAny_assign_Name (wpAny_storeName_local hy F'.ns (fun h₂ hn₂ hs₂ => ?_) hp)
    have hL₀ : h₀.get? env.locals = none := Heap.get?_none_of_le F'.above
    have F₂ : Fr h₀ env.locals h₂ (fun z => if z = y then some (.ref D) else m z) := ⟨hn₂, fun b o e => hs₂.extBut b o (fun q => by rw [q, hL₀] at e; cases e) (F'.keep b o e), F'.above⟩
    refine ⟨m', hn.sameBut hs₂ hCL, fun h'' hs'' => R D ys zs ys.length h'' _ hys hzl hzP (F₂.change hs'' hCL hC₀) (fun p hp => ?_) o1⟩
    have z : h₂.get? p.1 = some p.2 := hs₂.extBut _ _ (N' p hp).2.1 (N' p hp).1
    refine ⟨hs''.extBut _ _ ?_ z, (N' p hp).2⟩
    rcases List.mem_cons.mp hp with rfl | hp
    · exact Ne.symm hCD
    · exact offC p hp
end
section
variable {prog : Program} {w : World} {A : Around} {E : Value → Shared → Prop} {s : Shared} {h₀ : Heap} {L : Addr} {m : Str → Option Value} {news : List (Addr × Obj)}
theorem sum_K {its : Array Value} {ns : List Int} {t : Addr} {e : Nat} {Q : Value → Shared → Prop} (hh : A.handled = none) (F : Fr h₀ L s.heap m) (N : News h₀ L s.heap news) (hm : (t, listOf its e) ∈ news) (hi : IntsAre its.toList ns)
    (h : ∀ h' tk t', Fr h₀ L h' m → News h₀ L h' news → Q (.int ns.sum t') { s with heap := h', toks := tk }) :
    wpAny (model prog w) A (call (.builtin "sum") [.ref t]) Q E s := by
  have hl : s.heap.IsList t its := ⟨_, (N _ hm).1, rfl, e, rfl⟩
  obtain ⟨xs, hx⟩ := hi.allInts.items
  have hn : numsOf its.toList = ns := hi.numsOf
  have hx' : its = _ := hx
  rw [hx'] at hl hn
  rw [nums_intItems] at hn
  refine sum_intListG hh hl fun h' tk t' hk => ?_
  have := h h' tk t' (F.keeps hk) (N.grown hk)
  rw [preSum_eq, List.take_of_length_le (by simp), hn]
  exact this
end
end Mine
end
section
open PySem PySem.W PyProof.Rows PySem.Calls
set_option Elab.async false
set_option maxRecDepth 100000
set_option maxHeartbeats 8000000
namespace Mine
/-- how a turn of a loop must end -/
def TurnEnd (g : Heap) (L : Addr) (s : Shared) (I : Addr) (oI : Obj) (J : (Str → Option Value) → List (Addr × Obj) → Prop) (f : Flow) (s' : Shared) : Prop :=
  (f = .next ∨ f = .cont) ∧ ∃ h' tk' m₂ nx', s' = { s with heap := h', toks := tk' } ∧ J m₂ nx' ∧ Fr g L h' m₂ ∧ News g L h' ((I, oI) :: nx') ∧ ∀ q ∈ nx', q.1 ≠ I
section
variable {prog : Program} {w : World} {A : Around} {s : Shared} {g : Heap} {L : Addr} {env : Env} {x : Str} {px : Pos} {body : List Stmt} {Q : Flow → Shared → Prop}
theorem codeC_forList {P I : Addr} {vs : List Value} {e : Nat} (J : Nat → (Str → Option Value) → List (Addr × Obj) → Prop) (hh : A.handled = none) (hLe : env.locals = L) (hy : env.kindOf x = some .local)
    (hp : (env.scope.kind == .class || (env.scope.kind == .module && env.locals != env.globals)) = false)
    (hJP : ∀ i m nx, J i m nx → (P, listOf vs.toArray e) ∈ nx)
    (turn : ∀ i v oI m₁ nx h tk, vs[i]? = some v → J i m₁ nx → (∀ p, oI ≠ tabObj p) → (∀ q ∈ nx, q.1 ≠ I) → Fr g L h (fun y => if y = x then some v else m₁ y) → News g L h ((I, oI) :: nx) →
      wpC (model prog w) A (execs body env) (TurnEnd g L s I oI (J (i + 1))) { s with heap := h, toks := tk })
    (done : ∀ m₁ nx h tk, J vs.length m₁ nx → Fr g L h m₁ → News g L h nx → Q .next { s with heap := h, toks := tk }) :
    ∀ k i m₁ nx oI h tk, i + k = vs.length → J i m₁ nx → h.IsListIter I P i → Fr g L h m₁ → News g L h ((I, oI) :: nx) → (∀ q ∈ nx, q.1 ≠ I) →
      codeC (model prog w) A (.forLoop (.Name x px) (.ref I) body [] env) Q { s with heap := h, toks := tk } := by
  subst hLe
  intro k
  induction k with
  | zero =>
    intro i m₁ nx oI h tk hi hJ hit F N hne
    have hPm := hJP i m₁ nx hJ
    have hl : h.IsList P vs.toArray := ⟨_, (N _ (List.mem_cons_of_mem _ hPm)).1, rfl, e, rfl⟩
    refine codeC_forLoop (wpAny_pyNext_list_end (s := { s with heap := h, toks := tk }) hh hit hl (by simp; omega) fun h' he => ?_)
    have hI := N _ List.mem_cons_self
    refine done m₁ nx h' tk (by rw [← hi]; exact hJ) ?_ fun q hq => ?_
    · obtain ⟨oL, es, ep, a1, a2, a3, a4⟩ := F.ns
      refine ⟨⟨oL, es, ep, he _ _ (Ne.symm hI.2.1) a1, a2, a3, a4⟩, fun b o eb => he _ _ (fun q => ?_) (F.keep b o eb), F.above⟩
      rw [q, hI.2.2] at eb; cases eb
    · have z := N q (List.mem_cons_of_mem _ hq)
      exact ⟨he _ _ (hne q hq) z.1, z.2⟩
  | succ k ih =>
    intro i m₁ nx oI h tk hi hJ hit F N hne
    have hPm := hJP i m₁ nx hJ
    have hl : h.IsList P vs.toArray := ⟨_, (N _ (List.mem_cons_of_mem _ hPm)).1, rfl, e, rfl⟩
    have hlt : i < vs.length := by omega
    have hv : vs[i]? = some vs[i] := List.getElem?_eq_getElem hlt
    refine codeC_forLoop (wpAny_pyNext_list_item (s := { s with heap := h, toks := tk }) (x := vs[i]) hit hl (by simp [hlt]) fun h' hit' hs => ?_)
    have hI := N _ List.mem_cons_self
    have F1 : Fr g env.locals h' m₁ := F.change hs hI.2.1 hI.2.2
    obtain ⟨o', ho', hc', hd'⟩ := hit'
    have hnt : ∀ p, o' ≠ tabObj p := fun p q => by rw [q] at hc'; cases hc'
    have N1 : News g env.locals h' ((I, o') :: nx) := fun q hq => by
      rcases List.mem_cons.mp hq with rfl | hq
      · exact ⟨ho', hI.2⟩
      · have z := N q (List.mem_cons_of_mem _ hq)
        exact ⟨(hs.2 q.1 (hne q hq)).trans z.1, z.2⟩
    dsimp only
    refine wpAny_assign_Name (wpAny_storeName_local hy F1.ns (fun h2 hn2 hs2 => ?_) hp)
    have F2 : Fr g env.locals h2 (fun y => if y = x then some vs[i] else m₁ y) := F1.set hn2 hs2
    have N2 : News g env.locals h2 ((I, o') :: nx) := N1.set hs2
    refine c_mono (turn i vs[i] o' m₁ nx h2 _ hv hJ hnt hne F2 N2) fun f s' hf => ?_
    obtain ⟨hf1, h3, tk3, m₂, nx', rfl, hJ', F3, N3, hne'⟩ := hf
    have hit3 : h3.IsListIter I P (i + 1) := ⟨o', (N3 _ List.mem_cons_self).1, hc', hd'⟩
    have go := ih (i + 1) m₂ nx' o' h3 tk3 (by omega) hJ' hit3 F3 N3 hne'
    rcases hf1 with rfl | rfl
    · exact go
    · exact go
theorem c_forList {P : Addr} {vs : List Value} {e : Nat} {iter : Expr} {pos : Pos} {m : Str → Option Value} {news : List (Addr × Obj)} (J : Nat → (Str → Option Value) → List (Addr × Obj) → Prop) (hh : A.handled = none) (hLe : env.locals = L) (hy : env.kindOf x = some .local)
    (hp : (env.scope.kind == .class || (env.scope.kind == .module && env.locals != env.globals)) = false)
    (hJP : ∀ i m nx, J i m nx → (P, listOf vs.toArray e) ∈ nx)
    (h : wpAny (model prog w) A (eval iter env) (fun v s₁ => v = .ref P ∧ ∃ h tk, s₁ = { s with heap := h, toks := tk } ∧ Fr g L h m ∧ News g L h news ∧ J 0 m news) NoE s)
    (turn : ∀ I i v oI m₁ nx h tk, vs[i]? = some v → J i m₁ nx → (∀ p, oI ≠ tabObj p) → (∀ q ∈ nx, q.1 ≠ I) → Fr g L h (fun y => if y = x then some v else m₁ y) → News g L h ((I, oI) :: nx) →
      wpC (model prog w) A (execs body env) (TurnEnd g L s I oI (J (i + 1))) { s with heap := h, toks := tk })
    (done : ∀ m₁ nx h tk, J vs.length m₁ nx → Fr g L h m₁ → News g L h nx → Q .next { s with heap := h, toks := tk })
    (hs : ∀ x, foldedSetIterable iter env x = pure x := by intro _; rfl) : wpC (model prog w) A (exec (.For (.Name x px) iter body [] pos) env) Q s := by
  refine c_For (wpAny_mono h (fun v s₁ h₁ => ?_) fun _ _ e => e) hs
  obtain ⟨rfl, h1, tk1, rfl, F, N, hJ⟩ := h₁
  have hPm := hJP 0 m news hJ
  have hl : h1.IsList P vs.toArray := ⟨_, (N _ hPm).1, rfl, e, rfl⟩
  refine wpAny_pyIter_list hl ?_
  refine codeC_forList (oI := { cls := .type "list_iterator", data := .fields #[.ref P, .int 0 0] }) (I := h1.objs.size) J hh hLe hy hp hJP (turn h1.objs.size) done vs.length 0 m news _ _ (by omega) hJ ⟨_, Heap.get?_push_size _ rfl, rfl, rfl⟩ (F.push _) (fun q hq => ?_) fun q hq => Nat.ne_of_lt (Heap.lt_size (N q hq).1)
  rcases List.mem_cons.mp hq with rfl | hq
  · exact ⟨Heap.get?_push_size _ rfl, Nat.ne_of_gt F.ns.lt, next_is_new F⟩
  · exact ⟨Heap.get?_push_of_some _ (N q hq).1, (N q hq).2⟩
end
section
variable {prog : Program} {w : World} {A : Around} {s : Shared} {g : Heap} {L : Addr} {env : Env} {x : Str} {px : Pos} {body : List Stmt} {Q : Flow → Shared → Prop}
theorem codeC_forRange {I : Addr} {n : Nat} (J : Nat → (Str → Option Value) → List (Addr × Obj) → Prop) (hh : A.handled = none) (hLe : env.locals = L) (hy : env.kindOf x = some .local)
    (hp : (env.scope.kind == .class || (env.scope.kind == .module && env.locals != env.globals)) = false)
    (turn : ∀ i t oI m₁ nx h tk, i < n → J i m₁ nx → (∀ p, oI ≠ tabObj p) → (∀ q ∈ nx, q.1 ≠ I) → Fr g L h (fun y => if y = x then some (.int (i : Int) t) else m₁ y) → News g L h ((I, oI) :: nx) →
      wpC (model prog w) A (execs body env) (TurnEnd g L s I oI (J (i + 1))) { s with heap := h, toks := tk })
    (done : ∀ m₁ nx h tk, J n m₁ nx → Fr g L h m₁ → News g L h nx → Q .next { s with heap := h, toks := tk }) :
    ∀ k i m₁ nx oI h tk, i + k = n → J i m₁ nx → IsRangeIter h I (i : Int) ((n : Int) - (i : Int)) 1 → Fr g L h m₁ → News g L h ((I, oI) :: nx) → (∀ q ∈ nx, q.1 ≠ I) →
      codeC (model prog w) A (.forLoop (.Name x px) (.ref I) body [] env) Q { s with heap := h, toks := tk } := by
  subst hLe
  intro k
  induction k with
  | zero =>
    intro i m₁ nx oI h tk hi hJ hit F N hne
    refine codeC_forLoop (wpAny_pyNext_range_end (s := { s with heap := h, toks := tk }) hh hit (by omega) fun h' he => ?_)
    have hI := N _ List.mem_cons_self
    refine done m₁ nx h' tk (by have : i = n := by omega
                                rw [← this]; exact hJ) ?_ fun q hq => ?_
    · obtain ⟨oL, es, ep, a1, a2, a3, a4⟩ := F.ns
      refine ⟨⟨oL, es, ep, he _ _ (Ne.symm hI.2.1) a1, a2, a3, a4⟩, fun b o eb => he _ _ (fun q => ?_) (F.keep b o eb), F.above⟩
      rw [q, hI.2.2] at eb; cases eb
    · have z := N q (List.mem_cons_of_mem _ hq)
      exact ⟨he _ _ (hne q hq) z.1, z.2⟩
  | succ k ih =>
    intro i m₁ nx oI h tk hi hJ hit F N hne
    have hlt : i < n := by omega
    refine codeC_forLoop (wpAny_pyNext_range_item (s := { s with heap := h, toks := tk }) hit (by omega) fun h' hit' hs => ?_)
    have hI := N _ List.mem_cons_self
    have F1 : Fr g env.locals h' m₁ := F.change hs hI.2.1 hI.2.2
    have ho' : h'.get? I = some { cls := .type "range_iterator", dict := none, data := .fields #[rawInt ((i : Int) + 1), rawInt ((n : Int) - (i : Int) - 1), rawInt 1], slots := #[] } := hit'
    have N1 : News g env.locals h' ((I, { cls := .type "range_iterator", dict := none, data := .fields #[rawInt ((i : Int) + 1), rawInt ((n : Int) - (i : Int) - 1), rawInt 1], slots := #[] }) :: nx) := fun q hq => by
      rcases List.mem_cons.mp hq with rfl | hq
      · exact ⟨ho', hI.2⟩
      · have z := N q (List.mem_cons_of_mem _ hq)
        exact ⟨(hs.2 q.1 (hne q hq)).trans z.1, z.2⟩
    dsimp only
    refine wpAny_assign_Name (wpAny_storeName_local hy F1.ns (fun h2 hn2 hs2 => ?_) hp)
    have F2 : Fr g env.locals h2 (fun y => if y = x then some (.int (i : Int) _) else m₁ y) := F1.set hn2 hs2
    have N2 := N1.set hs2
    refine c_mono (turn i _ _ m₁ nx h2 _ hlt hJ (fun p q => by cases q) hne F2 N2) fun f s' hf => ?_
    obtain ⟨hf1, h3, tk3, m₂, nx', rfl, hJ', F3, N3, hne'⟩ := hf
    have hit3 : IsRangeIter h3 I ((i + 1 : Nat) : Int) ((n : Int) - ((i + 1 : Nat) : Int)) 1 := by
      have z := (N3 _ List.mem_cons_self).1
      have e1 : ((i + 1 : Nat) : Int) = (i : Int) + 1 := by omega
      have e2 : (n : Int) - ((i + 1 : Nat) : Int) = (n : Int) - (i : Int) - 1 := by omega
      rw [e2, e1]
      exact z
    have go := ih (i + 1) m₂ nx' _ h3 tk3 (by omega) hJ' hit3 F3 N3 hne'
    rcases hf1 with rfl | rfl
    · exact go
    · exact go
theorem c_forRange {n : Nat} {iter : Expr} {pos : Pos} {m : Str → Option Value} {news : List (Addr × Obj)} (J : Nat → (Str → Option Value) → List (Addr × Obj) → Prop) (hh : A.handled = none) (hLe : env.locals = L) (hy : env.kindOf x = some .local)
    (hp : (env.scope.kind == .class || (env.scope.kind == .module && env.locals != env.globals)) = false) (hn : n ≤ 10000)
    (h : wpAny (model prog w) A (eval iter env) (fun v s₁ => ∃ r t u q h tk, v = .ref r ∧ s₁ = { s with heap := h, toks := tk } ∧ IsRange h r 0 (n : Int) 1 t u q ∧ Fr g L h m ∧ News g L h news ∧ J 0 m news) NoE s)
    (turn : ∀ I i t oI m₁ nx h tk, i < n → J i m₁ nx → (∀ p, oI ≠ tabObj p) → (∀ q ∈ nx, q.1 ≠ I) → Fr g L h (fun y => if y = x then some (.int (i : Int) t) else m₁ y) → News g L h ((I, oI) :: nx) →
      wpC (model prog w) A (execs body env) (TurnEnd g L s I oI (J (i + 1))) { s with heap := h, toks := tk })
    (done : ∀ m₁ nx h tk, J n m₁ nx → Fr g L h m₁ → News g L h nx → Q .next { s with heap := h, toks := tk })
    (hs : ∀ x, foldedSetIterable iter env x = pure x := by intro _; rfl) : wpC (model prog w) A (exec (.For (.Name x px) iter body [] pos) env) Q s := by
  refine c_For (wpAny_mono h (fun v s₁ h₁ => ?_) fun _ _ e => e) hs
  obtain ⟨r, t, u, q, h1, tk1, rfl, rfl, hr, F, N, hJ⟩ := h₁
  have hsz : Builtin.Range.rangeSize 0 (n : Int) 1 = (n : Int) := by
    rw [rangeSize_one]
    split <;> omega
  have hsmall : Builtin.Range.small 0 (n : Int) 1 = true := range_small (by decide) hsz (by omega) (by omega) (by decide) hn
  refine wpAny_pyIter_range hr hsmall ?_
  refine codeC_forRange (oI := { cls := .type "range_iterator", data := .fields #[rawInt 0, rawInt (Builtin.Range.rangeSize 0 (n : Int) 1), rawInt 1] }) (I := h1.objs.size) J hh hLe hy hp (turn h1.objs.size) done n 0 m news _ _ (by omega) hJ (by rw [hsz]; show IsRangeIter _ _ 0 ((n : Int) - ((0 : Nat) : Int)) 1; rw [show ((n : Int) - ((0 : Nat) : Int)) = (n : Int) by omega]; exact Heap.get?_push_size _ rfl) (F.push _) (fun q hq => ?_) fun q hq => Nat.ne_of_lt (Heap.lt_size (N q hq).1)
  rcases List.mem_cons.mp hq with rfl | hq
  · exact ⟨Heap.get?_push_size _ rfl, Nat.ne_of_gt F.ns.lt, next_is_new F⟩
  · exact ⟨Heap.get?_push_of_some _ (N q hq).1, (N q hq).2⟩
end
end Mine
end
section
open PySem PySem.W PyProof.Rows PySem.Calls
set_option Elab.async false
set_option maxRecDepth 100000
set_option maxHeartbeats 8000000
namespace Mine
/-- the law's state between its loops' turns -/
def J2 (P : Addr) (a b : Value) (e : Nat) (L : Addr) (oc : Obj) (m : Str → Option Value) (nx : List (Addr × Obj)) : Prop :=
  m (PySem.Str.ofString "pair") = some (.ref P) ∧ ∃ p q codes, nx = (P, listOf [a, b].toArray e) :: (L + 1, oc) :: (30, tabObj p) :: (23, tabObj q) :: codes ∧ Tab p q codes
def LawEnd (g : Heap) (L : Addr) (s : Shared) (f : Flow) (s' : Shared) : Prop :=
  f = .ret (.bool true) ∧ ∃ h' tk m' news own p q codes, s' = { s with heap := h', toks := tk } ∧ Fr g L h' m' ∧ News g L h' news ∧ Split news own p q codes
theorem pair_val (z : Int) : ∃ x : Nat, (if z < 0 then -z else z).fmod (10 ^ Int.toNat 40) = (x : Int) ∧ x < 10 ^ 40 := by
  refine ⟨z.natAbs % 10 ^ 40, ?_, Nat.mod_lt _ (Nat.pow_pos (by decide))⟩
  have h1 : (if z < 0 then -z else z) = (z.natAbs : Int) := by split <;> omega
  have h2 : ((10 : Int) ^ Int.toNat 40) = ((10 ^ 40 : Nat) : Int) := by rw [Int.natCast_pow]; rfl
  rw [h1, h2, Int.fmod_eq_emod_of_nonneg _ (Int.natCast_nonneg _), Int.natCast_emod]
theorem two_of {zs : List Int} (h : zs.length = 2) : ∃ a b, zs = [a, b] := by
  match zs, h with
  | [a, b], _ => exact ⟨a, b, rfl⟩
theorem good_true {c : ClaimW} {cl : Str → Option Addr} {mean : ExcName → Option Value} {args : List WData} {s s' : Shared} (hr : ∀ x, c.raises args x = false) (hp : c.post args (.bool true) args = true)
    (hk : ∀ b o, s.heap.get? b = some o → s'.heap.get? b = some o) (ho : s'.os = s.os) (hg : s'.gens = #[]) : GoodW c cl mean args s (.ok (.ret (.bool true))) s' :=
  ⟨.inl ⟨_, .bool true, [], rfl, hr, .bool true, hp, fun _ => ⟨List.nodup_nil, fun _ ha => nomatch ha⟩⟩, hk, ho, hg⟩
def stmtsOf (fd : FuncData) : List Stmt := match fd.body with | .stmts b => b | _ => []
def loopOf (ss : List Stmt) (k : Nat) : List Stmt := match ss[k]? with | some (.For _ _ b _ _) => b | _ => []
abbrev LawIs (w : World) (fd : FuncData) : Prop := ∃ a b c, (hd.heap_39 w.params).lookup 52 = some ⟨a, b, .func fd, c⟩
theorem cnt_le {nn x : Nat} (hn : 0 < nn) (hx : x < 10 ^ 40) : cnt nn x ≤ 200 := by
  have hbits : Builtin.Int.intBits (x : Int) ≤ 133 := bits_of_lt (Int.natCast_nonneg x) (Int.ofNat_lt.mpr (Nat.lt_trans hx (by decide)))
  refine Nat.le_trans (Nat.div_le_of_le_mul (k := nn) (n := 133) ?_) (by decide)
  have : nn * 133 ≥ 133 + nn - 1 := by
    obtain ⟨k, rfl⟩ : ∃ k, nn = k + 1 := ⟨nn - 1, by omega⟩
    omega
  omega
end Mine
end
section
open PySem PySem.W PyProof.Rows PySem.Calls
set_option Elab.async false
set_option maxRecDepth 100000
set_option maxHeartbeats 8000000
namespace Mine
theorem bits_nat {x : Nat} (h : x ≠ 0) : Builtin.Int.intBits (x : Int) = x.log2 + 1 := by
  unfold Builtin.Int.intBits
  split
  · rename_i q
    exact absurd (by simpa using q : x = 0) h
  · simp
theorem bits_zero : Builtin.Int.intBits ((0 : Nat) : Int) = 0 := rfl
theorem cnt_zero {nn : Nat} (hn : 0 < nn) : cnt nn 0 = 0 := by
  unfold cnt
  rw [bits_zero]
  exact Nat.div_eq_of_lt (by omega)
theorem cnt_of {nn k x : Nat} (hn : 0 < nn) (h1 : 2 ^ (nn * k) ≤ x) (h2 : x < 2 ^ (nn * (k + 1))) : cnt nn x = k + 1 := by
  have hx : x ≠ 0 := by
    have : 0 < 2 ^ (nn * k) := Nat.pow_pos (by decide)
    omega
  unfold cnt
  rw [bits_nat hx]
  have a1 : nn * k ≤ x.log2 := (Nat.le_log2 hx).mpr h1
  have a2 : x.log2 < nn * (k + 1) := (Nat.log2_lt hx).mpr h2
  rw [Nat.mul_add, Nat.mul_one] at a2
  have e : x.log2 + 1 + nn - 1 = nn * (k + 1) + (x.log2 - nn * k) := by rw [Nat.mul_add, Nat.mul_one]; omega
  rw [e, Nat.mul_add_div hn, Nat.div_eq_of_lt (by omega), Nat.add_zero]
theorem cnt_pos {nn x : Nat} (hn : 0 < nn) (hx : x ≠ 0) : ∃ k, cnt nn x = k + 1 ∧ 2 ^ (nn * k) ≤ x ∧ x < 2 ^ (nn * (k + 1)) := by
  refine ⟨x.log2 / nn, ?_⟩
  have h1 := Nat.div_add_mod x.log2 nn
  have h2 := Nat.mod_lt x.log2 hn
  have a1 : 2 ^ (nn * (x.log2 / nn)) ≤ x := (Nat.le_log2 hx).mp (by omega)
  have a2 : x < 2 ^ (nn * (x.log2 / nn + 1)) := (Nat.log2_lt hx).mp (by rw [Nat.mul_add, Nat.mul_one]; omega)
  exact ⟨cnt_of hn a1 a2, a1, a2⟩
theorem cnt_succ {nn x : Nat} (hn : 0 < nn) (hx : x ≠ 0) : cnt nn x = cnt nn (x / 2 ^ nn) + 1 := by
  obtain ⟨k, e, a1, a2⟩ := cnt_pos hn hx
  rw [e]
  cases k with
  | zero =>
    have : x / 2 ^ nn = 0 := Nat.div_eq_of_lt (by simpa using a2)
    rw [this, cnt_zero hn]
  | succ k =>
    congr 1
    symm
    refine cnt_of hn ?_ ?_
    · rw [Nat.le_div_iff_mul_le (Nat.pow_pos (by decide)), ← Nat.pow_add]
      rw [Nat.mul_add, Nat.mul_one] at a1
      exact a1
    · rw [Nat.div_lt_iff_lt_mul (Nat.pow_pos (by decide)), ← Nat.pow_add]
      rw [show nn * (k + 1) + nn = nn * (k + 1 + 1) by rw [Nat.mul_add nn (k + 1), Nat.mul_one]]
      exact a2
theorem cnt_min {nn x k : Nat} (hn : 0 < nn) (h : x < 2 ^ (nn * k)) : cnt nn x ≤ k := by
  by_cases hx : x = 0
  · rw [hx, cnt_zero hn]; exact Nat.zero_le _
  · obtain ⟨j, e, a1, _⟩ := cnt_pos hn hx
    rw [e]
    have : 2 ^ (nn * j) < 2 ^ (nn * k) := Nat.lt_of_le_of_lt a1 h
    have := (Nat.pow_lt_pow_iff_right (by decide : 1 < 2)).mp this
    exact Nat.lt_of_mul_lt_mul_left this
/-- the letters tell the digits, highest first -/
theorem letters_dig (x : Nat) : (lets x).map (fun k => k - 65) = (dig (2 ^ 4) (cnt 4 x) x).reverse := by
  induction x using Nat.strongRecOn with
  | ind x ih =>
    by_cases hx : x = 0
    · subst hx
      rw [lets_zero, cnt_zero (by decide)]
      rfl
    · rw [lets_pos hx, cnt_succ (by decide) hx, dig, List.map_append, List.reverse_cons, ih (x / 16) (by omega)]
      congr 1
      simp only [List.map_cons, List.map_nil]
      congr 1
      omega
theorem lets_length (x : Nat) : (lets x).length = cnt 4 x := by
  have h := congrArg List.length (letters_dig x)
  rw [List.length_map, List.length_reverse, dig_length] at h
  exact h
theorem val_all {nn x : Nat} (hn : 0 < nn) : val (2 ^ nn) (dig (2 ^ nn) (cnt nn x) x) = (x : Int) := by
  have h := val_dig (2 ^ nn) (cnt nn x) x (by rw [← Nat.pow_mul]; exact cnt_enough hn x)
  rw [Int.natCast_pow] at h
  exact h
theorem dig_all_in {nn k x : Nat} : ∀ d ∈ dig (2 ^ nn) k x, 0 ≤ d ∧ d < (2 : Int) ^ nn := by
  intro d hd
  have h := dig_in (b := 2 ^ nn) (Nat.pow_pos (by decide)) k x d hd
  rw [Int.natCast_pow] at h
  exact h
theorem dig_get {b k j x : Nat} (h : j < k) : (dig b k x)[j]? = some ((x / b ^ j % b : Nat) : Int) := by
  induction k generalizing j x with
  | zero => omega
  | succ k ih =>
    rw [dig]
    cases j with
    | zero => simp
    | succ j => rw [List.getElem?_cons_succ, ih (by omega), Nat.div_div_eq_div_mul, Nat.pow_succ, Nat.mul_comm b]
theorem top_dig {nn x k : Nat} (hn : 0 < nn) (e : cnt nn x = k + 1) : (dig (2 ^ nn) (cnt nn x) x).getD k 0 ≠ 0 := by
  have hx : x ≠ 0 := fun q => by rw [q, cnt_zero hn] at e; cases e
  obtain ⟨j, e', a1, a2⟩ := cnt_pos hn hx
  have : k = j := by omega
  subst this
  rw [List.getD_eq_getElem?_getD, dig_get (by omega)]
  rw [Nat.pow_mul] at a1
  have h1 : x / (2 ^ nn) ^ k < 2 ^ nn := by
    rw [Nat.div_lt_iff_lt_mul (Nat.pow_pos (Nat.pow_pos (by decide))), Nat.mul_comm, ← Nat.pow_succ, ← Nat.pow_mul]
    exact a2
  have h2 : 1 ≤ x / (2 ^ nn) ^ k := (Nat.le_div_iff_mul_le (Nat.pow_pos (Nat.pow_pos (by decide)))).mpr (by omega)
  rw [Nat.mod_eq_of_lt h1]
  show ((x / (2 ^ nn) ^ k : Nat) : Int) ≠ 0
  omega
theorem val_sum (b : Int) : ∀ ds : List Int, ∃ c, val b ds = ds.sum + (b - 1) * c
  | [] => ⟨0, by simp [val]⟩
  | d :: r => by
    obtain ⟨c, h⟩ := val_sum b r
    refine ⟨r.sum + b * c, ?_⟩
    rw [val, h, List.sum_cons, Int.mul_add b, Int.mul_add (b - 1), Int.sub_mul b 1 c, Int.mul_sub, Int.sub_mul b 1 r.sum, Int.sub_mul b 1 (b * c), Int.one_mul, Int.one_mul, Int.one_mul]
    omega
def evens : List Int → List Int
  | [] => []
  | [a] => [a]
  | a :: _ :: r => a :: evens r
theorem evens_cons (a : Int) : ∀ r : List Int, evens (a :: r) = a :: evens r.tail
  | [] => rfl
  | _ :: _ => rfl
theorem pick_two : ∀ ns : List Int, ((List.range ((ns.length + 1) / 2)).map (fun k => 2 * k)).filterMap (ns[·]?) = evens ns
  | [] => rfl
  | [a] => by
    have e : ([a].length + 1) / 2 = 1 := by simp only [List.length_cons, List.length_nil]
    rw [e]
    simp [evens]
  | a :: b :: r => by
    have e : ((a :: b :: r).length + 1) / 2 = (r.length + 1) / 2 + 1 := by simp only [List.length_cons]; omega
    rw [e, List.range_succ_eq_map, List.map_cons, List.map_map, List.filterMap_cons, evens, ← pick_two r, List.filterMap_map, List.filterMap_map]
    show a :: _ = a :: _
    congr 1
theorem pick_even (ns : List Int) : pickNums ns none none (some 2) = evens ns := by
  rw [← pick_two ns]
  unfold pickNums
  have e : sliceRange (sliceBounds none none (some 2) ns.length).1 (sliceBounds none none (some 2) ns.length).2.1 (sliceBounds none none (some 2) ns.length).2.2 = (List.range ((ns.length + 1) / 2)).map (fun k => 2 * k) := by
    show sliceRange 0 (ns.length : Int) 2 = _
    unfold sliceRange
    simp only [show (2 : Int) > 0 from by decide, if_true]
    have h : (if (0 : Int) < (ns.length : Int) then ((ns.length : Int) - 0 + 2 - 1) / 2 else 0).toNat = (ns.length + 1) / 2 := by
      split <;> omega
    rw [h]
    refine List.map_congr_left fun k _ => ?_
    omega
  rw [e]
theorem pick_odd (ns : List Int) : pickNums ns (some 1) none (some 2) = evens ns.tail := by
  rw [← pick_two ns.tail]
  unfold pickNums
  have e : sliceRange (sliceBounds (some 1) none (some 2) ns.length).1 (sliceBounds (some 1) none (some 2) ns.length).2.1 (sliceBounds (some 1) none (some 2) ns.length).2.2 = (List.range ((ns.tail.length + 1) / 2)).map (fun k => 1 + 2 * k) := by
    show sliceRange (max 0 (min 1 (ns.length : Int))) (ns.length : Int) 2 = _
    unfold sliceRange
    simp only [show (2 : Int) > 0 from by decide, if_true]
    have h : (if max 0 (min 1 (ns.length : Int)) < (ns.length : Int) then ((ns.length : Int) - max 0 (min 1 (ns.length : Int)) + 2 - 1) / 2 else 0).toNat = (ns.tail.length + 1) / 2 := by
      rw [List.length_tail]
      split <;> omega
    rw [h]
    refine List.map_congr_left fun k hk => ?_
    have := List.mem_range.mp hk
    rw [List.length_tail] at this
    omega
  rw [e, List.filterMap_map, List.filterMap_map]
  congr 1
  funext k
  show ns[1 + 2 * k]? = ns.tail[2 * k]?
  rw [List.getElem?_tail, Nat.add_comm]
theorem val_alt : ∀ ds : List Int, ∃ c, val 16 ds = (evens ds).sum - (evens ds.tail).sum + 17 * c
  | [] => ⟨0, by simp [val, evens]⟩
  | d :: r => by
    obtain ⟨c, h⟩ := val_alt r
    refine ⟨val 16 r - c, ?_⟩
    rw [val, evens_cons, List.sum_cons, List.tail_cons]
    omega
theorem fmod_none {a b c k : Int} (h : a = b + k * c) : Int.fmod (b - a) k = 0 := by
  have e : b - a = k * (-c) := by rw [h, Int.mul_neg]; omega
  rw [e]
  exact Int.mul_fmod_right ..
theorem law15 (x : Nat) : Int.fmod ((dig (2 ^ 4) (cnt 4 x) x).reverse.sum - (x : Int)) 15 = 0 := by
  rw [List.sum_reverse]
  obtain ⟨c, h⟩ := val_sum (2 ^ 4) (dig (2 ^ 4) (cnt 4 x) x)
  rw [val_all (by decide)] at h
  exact fmod_none h
theorem law17 (x : Nat) : Int.fmod ((pickNums (dig (2 ^ 4) (cnt 4 x) x) none none (some 2)).sum - (pickNums (dig (2 ^ 4) (cnt 4 x) x) (some 1) none (some 2)).sum - (x : Int)) 17 = 0 := by
  rw [pick_even, pick_odd]
  obtain ⟨c, h⟩ := val_alt (dig (2 ^ 4) (cnt 4 x) x)
  have h2 : val 16 (dig (2 ^ 4) (cnt 4 x) x) = (x : Int) := val_all (nn := 4) (by decide)
  rw [h2] at h
  exact fmod_none h
/-- the letters of both numbers, five letters A between -/
abbrev both (x0 x1 : Nat) : List Int := (lets x0).map (fun k => k - 65) ++ ([65, 65, 65, 65, 65] ++ lets x1).map (fun k => k - 65)
theorem both_rev (x0 x1 : Nat) : (both x0 x1).reverse = dig (2 ^ 4) (cnt 4 x1) x1 ++ ([0, 0, 0, 0, 0] ++ dig (2 ^ 4) (cnt 4 x0) x0) := by
  rw [List.reverse_append, List.map_append, List.reverse_append, letters_dig, letters_dig, List.reverse_reverse, List.reverse_reverse, List.append_assoc]
  rfl
theorem both_val (x0 x1 : Nat) : val (2 ^ 4) (both x0 x1).reverse = (x0 : Int) * 16 ^ (5 + (lets x1).length) + (x1 : Int) := by
  rw [both_rev, val_append, val_all (by decide), val_append, val_all (by decide), dig_length, lets_length]
  show (x1 : Int) + 16 ^ cnt 4 x1 * (0 + 16 ^ 5 * (x0 : Int)) = _
  rw [Int.pow_add, Int.zero_add]
  have e : (16 : Int) ^ cnt 4 x1 * ((16 : Int) ^ 5 * (x0 : Int)) = (x0 : Int) * ((16 : Int) ^ 5 * (16 : Int) ^ cnt 4 x1) := by
    generalize (16 : Int) ^ cnt 4 x1 = u
    generalize (16 : Int) ^ 5 = v
    ac_rfl
  rw [e, Int.add_comm]
theorem both_in (x0 x1 : Nat) : ∀ d ∈ (both x0 x1).reverse, 0 ≤ d ∧ d < (2 : Int) ^ 4 := by
  rw [both_rev]
  intro d hd
  rcases List.mem_append.mp hd with hd | hd
  · exact dig_all_in d hd
  · rcases List.mem_append.mp hd with hd | hd
    · have : d = 0 := by simpa using hd
      rw [this]; decide
    · exact dig_all_in d hd
theorem both_len {x0 x1 : Nat} (h0 : (lets x0).length ≤ 34) (h1 : (lets x1).length ≤ 34) : (both x0 x1).length ≤ 100 := by
  simp only [both, List.length_append, List.length_map, List.length_cons, List.length_nil]
  omega
theorem lets_small {x : Nat} (h : x < 10 ^ 40) : (lets x).length ≤ 34 := by
  rw [lets_length]
  exact cnt_min (by decide) (Nat.lt_trans h (by decide))
theorem mulOk {x k : Nat} (h : x < 10 ^ 40) (hk : k ≤ 34) : IntMulOk (x : Int) (16 ^ (5 + k)) := by
  refine IntMulOk.of_bits (Nat.le_trans (bits_of_lt (k := 133) (Int.natCast_nonneg x) (Int.ofNat_lt.mpr (Nat.lt_trans h (by decide)))) (by decide)) (Nat.le_trans (bits_of_lt (k := 160) (Int.le_of_lt (Int.pow_pos (by decide))) ?_) (by decide))
  have h1 : (16 : Nat) ^ (5 + k) ≤ 16 ^ 39 := Nat.pow_le_pow_right (by decide) (by omega)
  have h2 : (16 : Nat) ^ (5 + k) < 2 ^ 160 := Nat.lt_of_le_of_lt h1 (by decide)
  have h3 := Int.ofNat_lt.mpr h2
  rw [Int.natCast_pow, Int.natCast_pow] at h3
  exact h3
end Mine
end
section
open PySem PySem.W PyProof.Rows PySem.Calls
set_option Elab.async false
set_option maxRecDepth 100000
set_option maxHeartbeats 8000000
namespace Mine
theorem fill7 : hd.heap_39 = hd.heap_39 ∧ PySem.Challenge.rw_zr0002_01 = PySem.Challenge.rw_zr0002_01 := by
  k_fill
  exact ⟨rfl, rfl⟩
local macro_rules | `(tactic| k_mem) => `(tactic| assumption)
local macro_rules | `(tactic| is_list) => `(tactic| exact News.isList (by k_asm) (by k_mem))
/-- within the first loop's turn: the two lists are made -/
def St2 (g : Heap) (L : Addr) (s : Shared) (x : Nat) (t : Tok) (D1 D2 P I : Addr) (rest : List (Addr × Obj)) (q2 : Array Value) (f : Flow) (s' : Shared) : Prop :=
  f = .next ∧ ∃ h' tk' m' p' codes', s' = { s with heap := h', toks := tk' } ∧ Fr g L h' m' ∧ m' (PySem.Str.ofString "letters") = some (.ref D1) ∧ m' (PySem.Str.ofString "digits") = some (.ref D2) ∧ m' (PySem.Str.ofString "number") = some (.int (x : Int) t) ∧ m' (PySem.Str.ofString "pair") = some (.ref P) ∧
    News g L h' (rest ++ (30, tabObj p') :: (23, tabObj q2) :: codes') ∧ Tab p' q2 codes' ∧ ∀ r ∈ codes', r.1 ≠ I
theorem turn2 {prog : Program} {w : World} {g : Heap} {L fa : Addr} {cdv : Value} {fd : FuncData} {mg mb : Str → Option Value} {pr : Program} {loose : List Str} {mean : ExcName → Option Value} {oc oI : Obj} {P I : Addr} {va vb : Value} {e : Nat}
    {m₁ : Str → Option Value} {nx : List (Addr × Obj)} {h : Heap} {tk : Nat} {s : Shared} {x : Nat} {t : Tok}
    (hfd : LawIs w fd) (B : Below callerA g [] g) (X : (hd.heap_39 w.params).In g) (T : Top pr loose mean mg mb g) (C30 : CodeHd g 34 30) (C23 : CodeHd g 27 23) (hoc : ∀ p, oc ≠ tabObj p) (hx : x < 10 ^ 40)
    (hJ : J2 P va vb e L oc m₁ nx) (hoI : ∀ p, oI ≠ tabObj p) (hne : ∀ q ∈ nx, q.1 ≠ I) (F : Fr g L h (fun y => if y = PySem.Str.ofString "number" then some (.int (x : Int) t) else m₁ y)) (N : News g L h ((I, oI) :: nx)) :
    wpC (model prog w) (ktrTop 302 7 (some []) (PySem.Str.ofString "law") fd.scope L fa cdv [(PySem.Str.ofString "script", L + 1)] []) (execs (loopOf (stmtsOf fd) 1) (envX (PySem.Str.ofString "law") fd.scope L fa cdv [(PySem.Str.ofString "script", L + 1)]))
      (TurnEnd g L s I oI (J2 P va vb e L oc)) { s with heap := h, toks := tk } := by
  obtain ⟨c1, c2, c3, hfd⟩ := hfd
  obtain ⟨sc, hsc⟩ : ∃ sc, sc = fd.scope := ⟨_, rfl⟩
  obtain ⟨ss, hss⟩ : ∃ ss, ss = loopOf (stmtsOf fd) 1 := ⟨_, rfl⟩
  rw [← hsc, ← hss]
  have key := Option.some.inj (hfd.symm.trans (rfl : (hd.heap_39 w.params).lookup 52 = some _))
  cases key
  clear hfd
  replace hss : ss = _ :: _ :: _ :: _ :: [] := hss
  subst hss
  replace hsc : sc = ⟨_, _, _, _, _⟩ := hsc
  subst hsc
  obtain ⟨hmP, p, q, codes, rfl, tb⟩ := hJ
  replace F := fr_see2 F (x1 := PySem.Str.ofString "number") (x2 := PySem.Str.ofString "pair") rfl hmP
  refine c_execs_cons (c_any ?_)
  k_fold
  repeat' ((fail_if_success (with_reducible show wpAny _ _ (call (Value.ref _) _) _ _ _)); first | walk1 | (dsimp only; walk1))
  rename Fr g L _ _ => F1
  rename News g L _ _ => N1
  refine law_letters B F1 X N1 T rfl hx (by decide) (by decide) ?_
  clear F1 N1
  intro D1 ys1 e1 h1 tk1 F1 N1 o1 hi1
  dsimp only
  repeat' ((fail_if_success (with_reducible show wpAny _ _ (call (Value.ref _) _) _ _ _)); first | walk1 | (dsimp only; walk1))
  rename Fr g L _ _ => F2
  rename News g L _ _ => N2
  refine' w_i2d (nn := 4) B F2 X N2 T rfl C23 ?sp tb ?nt hx rfl (by decide) (by decide) (by decide) ?_
  case sp => repeat (first | exact Split.nil | apply Split.cons)
  case nt => repeat (first | exact NoTab.nil | apply NoTab.list | refine NoTab.cons ?_ (by assumption))
  clear F2 N2
  intro D2 ys2 e2 h2 tk2 q2 codes2 F2 N2 _ hi2 tb2 _ kc2 ne2
  simp only [List.cons_append, List.nil_append] at N2
  dsimp only
  repeat' ((fail_if_success (with_reducible show wpAny _ _ (call (Value.ref _) _) _ _ _)); first | walk1 | (dsimp only; walk1))
  rename Fr g L _ _ => F3
  rename News g L _ _ => N3
  replace N3 := fun r hr => N3 r (List.mem_cons_of_mem _ hr)
  show wpC _ _ (execs _ _) _ _
  replace N3 : News g L _ ((D2, listOf ys2.toArray e2) :: (D1, listOf ys1.toArray e1) :: (I, oI) :: (P, listOf #[va, vb] e) :: (L + 1, oc) :: (30, tabObj p) :: (23, tabObj q2) :: codes2) := N3
  rw [letters_dig] at hi1
  have hl2 : (dig (2 ^ 4) (cnt 4 x) x).length ≤ 200 := by rw [dig_length]; exact cnt_le (by decide) hx
  have hz2 : ys2.toArray.size ≤ sizeLine := by rw [List.size_toArray, hi2.length, sizeLine_eq]; omega
  have hoc2 : ∀ r ∈ codes2, r.1 ≠ I := kc2 I oI (.tail _ (.head _)) fun r hr => hne r (.tail _ (.tail _ (.tail _ (.tail _ hr))))
  replace F3 := fr_see4 F3 (x1 := PySem.Str.ofString "letters") (x2 := PySem.Str.ofString "digits") (x3 := PySem.Str.ofString "number") (x4 := PySem.Str.ofString "pair") rfl rfl rfl rfl
  refine c_execs_cons (c_mono (Q := St2 g L s x t D1 D2 P I [(D2, listOf ys2.toArray e2), (D1, listOf ys1.toArray e1), (I, oI), (P, listOf #[va, vb] e), (L + 1, oc)] q2) ?_ ?_)
  · refine c_any ?_
    k_fold
    dsimp only
    repeat' ((fail_if_success (with_reducible show wpAny _ _ (call (Value.ref _) _) _ _ _)); (fail_if_success (with_reducible show wpAny _ _ (subscriptTail _ _ _ _) _ _ _)); first | walk1 | (dsimp only; walk1))
    rename Fr g L _ _ => F4
    rename News g L _ _ => N4
    k_dflt (refine' krv_ints (vs := ys2) F4 N4 ?mya ?myb hi2 ?_ ?myc ?myd hz2; (case mya => exact News.isList N4 List.mem_cons_self); (case myb => exact IsPart.int _ _); (case myc => with_unfolding_all rfl); (case myd => (intro _; with_unfolding_all rfl)))
    clear F4 N4
    intro D3 ws3 h3 F4 N4 l3 hi3 _
    repeat' ((fail_if_success (with_reducible show wpAny _ _ (call (Value.ref _) _) _ _ _)); (fail_if_success (with_reducible show wpAny _ _ (subscriptTail _ _ _ _) _ _ _)); first | walk1 | (dsimp only; walk1))
    rename Fr g L _ _ => F5
    rename News g L _ _ => N5
    refine' w_d2i (nn := 4) B F5 X N5 T rfl C30 ?sp2 tb2 ?nt2 ?hl2 hi2 dig_all_in rfl (by decide) hl2 (by decide) (by decide) ?_
    case sp2 => repeat (first | exact Split.nil | apply Split.cons)
    case nt2 => repeat (first | exact NoTab.nil | apply NoTab.list | refine NoTab.cons ?_ (by assumption))
    case hl2 => exact .tail _ (.head _)
    clear F5 N5
    intro t5 h5 tk5 p5 codes5 F5 N5 _ tb5 kc5
    simp only [List.cons_append, List.nil_append] at N5
    have hoc5 : ∀ r ∈ codes5, r.1 ≠ I := kc5 I oI (.tail _ (.tail _ (.tail _ (.head _)))) hoc2
    rw [val_all (by decide)]
    dsimp only
    repeat' ((fail_if_success (with_reducible show wpAny _ _ (call (Value.ref _) _) _ _ _)); (fail_if_success (with_reducible show wpAny _ _ (subscriptTail _ _ _ _) _ _ _)); first | (exact absurd rfl (by with_reducible assumption)) | walk1 | (dsimp only; walk1))
    · rename Fr g L _ _ => F6
      rename News g L _ _ => N6
      exact ⟨rfl, _, _, _, p5, codes5, rfl, F6, rfl, rfl, rfl, rfl, fun r hr => N6 r (.tail _ (.tail _ hr)), tb5, hoc5⟩
    · rename Fr g L _ _ => F6
      rename News g L _ _ => N6
      rename (_ : Prop) => hnil
      have hpos : 0 < (dig (2 ^ 4) (cnt 4 x) x).length := by
        refine List.length_pos_iff.mpr fun q => ?_
        rw [q] at hnil
        simp at hnil
      have hcp : cnt 4 x = (cnt 4 x - 1) + 1 := by rw [dig_length] at hpos; omega
      refine item_last (News.isList N6 (.tail _ (.tail _ (.head _)))) hi2 hpos (by omega) ?_
      intro t7
      have htop := top_dig (nn := 4) (by decide) hcp
      have hlen : (dig (2 ^ 4) (cnt 4 x) x).length - 1 = cnt 4 x - 1 := by rw [dig_length]
      rw [hlen]
      generalize (dig (2 ^ 4) (cnt 4 x) x).getD (cnt 4 x - 1) 0 = z at htop ⊢
      repeat' ((fail_if_success (with_reducible show St2 _ _ _ _ _ _ _ _ _ _ _ _ _)); first | (exact absurd (by with_reducible assumption) htop) | walk1 | (dsimp only; walk1))
      exact ⟨rfl, _, _, _, p5, codes5, rfl, F6, rfl, rfl, rfl, rfl, fun r hr => N6 r (.tail _ (.tail _ hr)), tb5, hoc5⟩
  · clear F3 N3 tb2 kc2 hoc2
    rintro f s' ⟨rfl, h6, tk6, m6, p6, codes6, rfl, F6, g1, g2, g3, g4, N6, tb6, ho6⟩
    simp only [List.cons_append, List.nil_append] at N6
    dsimp only
    replace F6 := fr_see4 F6 g1 g2 g3 g4
    clear g1 g2 g3 g4
    refine c_execs_cons (c_mono (Q := St2 g L s x t D1 D2 P I [(D2, listOf ys2.toArray e2), (D1, listOf ys1.toArray e1), (I, oI), (P, listOf #[va, vb] e), (L + 1, oc)] q2) ?_ ?_)
    · refine c_any ?_
      k_fold
      repeat' ((fail_if_success (with_reducible show wpAny _ _ (call (Value.builtin "sum") _) _ _ _)); first | walk1 | (dsimp only; walk1))
      rename Fr g L _ _ => F7
      rename News g L _ _ => N7
      refine sum_K rfl F7 N7 (.tail _ (.head _)) hi1 ?_
      clear F7 N7
      intro h7 tk7 t7 F7 N7
      have hlaw := law15 x
      generalize (dig (2 ^ 4) (cnt 4 x) x).reverse.sum = z at hlaw ⊢
      repeat' ((fail_if_success (with_reducible show St2 _ _ _ _ _ _ _ _ _ _ _ _ _)); first | (exact absurd hlaw (by with_reducible assumption)) | walk1 | (dsimp only; walk1))
      rename Fr g L _ _ => F8
      rename News g L _ _ => N8
      exact ⟨rfl, _, _, _, p6, codes6, rfl, F8, rfl, rfl, rfl, rfl, N8, tb6, ho6⟩
    · clear F6 N6 tb6 ho6
      rintro f s' ⟨rfl, h6, tk6, m6, p6, codes6, rfl, F6, g1, g2, g3, g4, N6, tb6, ho6⟩
      simp only [List.cons_append, List.nil_append] at N6
      dsimp only
      replace F6 := fr_see4 F6 g1 g2 g3 g4
      clear g1 g2 g3 g4
      refine c_execs_cons (c_mono (Q := St2 g L s x t D1 D2 P I [(D2, listOf ys2.toArray e2), (D1, listOf ys1.toArray e1), (I, oI), (P, listOf #[va, vb] e), (L + 1, oc)] q2) ?_ ?_)
      · refine c_any ?_
        k_fold
        repeat' ((fail_if_success (with_reducible show wpAny _ _ (call (Value.builtin "sum") _) _ _ _)); (fail_if_success (with_reducible show wpAny _ _ (subscriptTail _ _ _ _) _ _ _)); first | walk1 | (dsimp only; walk1))
        rename Fr g L _ _ => F7
        rename News g L _ _ => N7
        k_dflt (refine' slice_K F7 N7 (.head _) ?mye ?myf ?myg ?myh hz2 ?_ ?myi ?myj; (case mye => exact IsPart.none); (case myf => exact IsPart.none); (case myg => exact IsPart.int _ _); (case myh => decide); (case myi => with_unfolding_all rfl); (case myj => (intro _; with_unfolding_all rfl)))
        clear F7 N7
        intro D4 h7 F7 N7
        repeat' ((fail_if_success (with_reducible show wpAny _ _ (call (Value.builtin "sum") _) _ _ _)); (fail_if_success (with_reducible show wpAny _ _ (subscriptTail _ _ _ _) _ _ _)); first | walk1 | (dsimp only; walk1))
        rename Fr g L _ _ => F8
        rename News g L _ _ => N8
        refine sum_K rfl F8 N8 (.head _) (IntsAre.pick hi2 none none (some 2)) ?_
        clear F8 N8
        intro h8 tk8 t8 F8 N8
        repeat' ((fail_if_success (with_reducible show wpAny _ _ (call (Value.builtin "sum") _) _ _ _)); (fail_if_success (with_reducible show wpAny _ _ (subscriptTail _ _ _ _) _ _ _)); first | walk1 | (dsimp only; walk1))
        rename Fr g L _ _ => F9
        rename News g L _ _ => N9
        k_dflt (refine' slice_K F9 N9 (.tail _ (.head _)) ?myk ?myl ?mym ?myn hz2 ?_ ?myo ?myp; (case myk => exact IsPart.int _ _); (case myl => exact IsPart.none); (case mym => exact IsPart.int _ _); (case myn => decide); (case myo => with_unfolding_all rfl); (case myp => (intro _; with_unfolding_all rfl)))
        clear F9 N9
        intro D5 h9 F9 N9
        repeat' ((fail_if_success (with_reducible show wpAny _ _ (call (Value.builtin "sum") _) _ _ _)); (fail_if_success (with_reducible show wpAny _ _ (subscriptTail _ _ _ _) _ _ _)); first | walk1 | (dsimp only; walk1))
        rename Fr g L _ _ => Fa
        rename News g L _ _ => Na
        refine sum_K rfl Fa Na (.head _) (IntsAre.pick hi2 (some 1) none (some 2)) ?_
        clear Fa Na
        intro ha tka ta Fa Na
        have hlaw := law17 x
        generalize (pickNums (dig (2 ^ 4) (cnt 4 x) x) none none (some 2)).sum = z1 at hlaw ⊢
        generalize (pickNums (dig (2 ^ 4) (cnt 4 x) x) (some 1) none (some 2)).sum = z2 at hlaw ⊢
        repeat' ((fail_if_success (with_reducible show St2 _ _ _ _ _ _ _ _ _ _ _ _ _)); first | (exact absurd hlaw (by with_reducible assumption)) | walk1 | (dsimp only; walk1))
        rename Fr g L _ _ => Fb
        rename News g L _ _ => Nb
        exact ⟨rfl, _, _, _, p6, codes6, rfl, Fb, rfl, rfl, rfl, rfl, fun r hr => Nb r (.tail _ (.tail _ hr)), tb6, ho6⟩
      · clear F6 N6 tb6 ho6
        rintro f s' ⟨rfl, h6, tk6, m6, p6, codes6, rfl, F6, g1, g2, g3, g4, N6, tb6, ho6⟩
        dsimp only
        refine c_execs_nil ⟨.inl rfl, h6, tk6, m6, (P, listOf #[va, vb] e) :: (L + 1, oc) :: (30, tabObj p6) :: (23, tabObj q2) :: codes6, rfl, ⟨g4, p6, q2, codes6, rfl, tb6⟩, F6, fun r hr => N6 r (.tail _ (.tail _ hr)), fun r hr => ?_⟩
        cases hr with
        | head => exact hne (P, _) (.head _)
        | tail _ hr => cases hr with
          | head => exact hne (L + 1, oc) (.tail _ (.head _))
          | tail _ hr => cases hr with
            | head => exact hne (30, tabObj p) (.tail _ (.tail _ (.head _)))
            | tail _ hr => cases hr with
              | head => exact hne (23, tabObj q) (.tail _ (.tail _ (.tail _ (.head _))))
              | tail _ hr => exact ho6 r hr
end Mine
end
section
open PySem PySem.W PyProof.Rows PySem.Calls
set_option Elab.async false
set_option maxRecDepth 100000
set_option maxHeartbeats 8000000
namespace Mine
open PyProof.Rows.LCg
section
variable {prog : Program} {w : World} {A : Around} {E : Value → Shared → Prop} {s : Shared} {h₀ : Heap} {L : Addr} {m : Str → Option Value} {env : Env} {elt iter : Expr} {x : Str} {px pos : Pos} {scope : Scope} {cl : List (Str × Addr)} {f : Int → Int}
theorem comp_use_bytes {y : Str} {py cpos : Pos} {Q : Flow → Shared → Prop} {xv : Value} (hLe : env.locals = L)
    (hclos : closureFor scope env = pure cl) (hcell : ∀ y ∈ scope.names, y.2 ≠ .cell) (hkind : scope.kind = .function)
    (hnames : ∀ y ∈ scope.names, y.2 = .local → scope.names.lookup y.1 = some .local) (hx : scope.names.lookup x = some .local)
    (hy : env.kindOf y = some .local) (hp : (env.scope.kind == .class || (env.scope.kind == .module && env.locals != env.globals)) = false) (he : EltIs prog w A elt x scope cl env f)
    (hs : ∀ x, foldedSetIterable iter env x = pure x) (h : BytesSrcA A h₀ L m f y Q xv s) :
    wpAny (model prog w) A (comprehension (.ListComp elt [⟨.Name x px, iter, [], 0⟩] scope pos) scope env cpos (newList []) false (pure xv) (some (assign (.Name y py) env))) (fun _ s' => Q .next s') E s := by
  subst hLe
  refine wpAny_comprehension_free (use := some (assign (.Name y py) env)) (Q := fun _ s' => Q .next s') rfl hs hclos hkind hnames (wpAny_pure ?_)
  obtain ⟨b, t, ks, news, rfl, hk, hz, hh, F, N, R⟩ := h
  refine KBw.pyIter_bytes ?_
  refine block_U (S := fun nw => nw = news) (Fin := fun ys nw => nw = news ∧ IntsAre ys (ks.map f)) (KBw.walks hh s.heap.objs.size b t) (by rw [← KBw.ints_length, hk]; exact hz) (fun i h st => by obtain ⟨o, e, _⟩ := st; exact ⟨o, e⟩) bytes_st hcell hkind hx ⟨_, Heap.get?_push_size _ rfl, rfl, rfl⟩ (fun b hb => ?_)
      (F.keeps fun _ _ e => Heap.get?_push_of_some _ e) (N.grown fun _ _ e => Heap.get?_push_of_some _ e) (Nat.ne_of_lt F.ns.lt) (next_is_new F) (fun p hp => Nat.ne_of_lt (Heap.lt_size (N p hp).1)) rfl (comp_rest he hk (fun ys hy => ⟨rfl, hy⟩) b.size 0 [] (by omega) .nil) ?_
  · rw [List.mem_singleton.mp hb]
    show s.heap.objs.size < (s.heap.push _).objs.size
    rw [Heap.size_push]; exact Nat.lt_succ_self _
  · intro D C h' tk m' ys news' F' N' o1 hn hC₀ hD₀ hCL hDL hCD offC fin
    obtain ⟨rfl, hys⟩ := fin
    show wpAny _ A (assign (.Name y py) env (.ref D)) _ _ _
    refine wpAny_assign_Name (wpAny_storeName_local hy F'.ns (fun h₂ hn₂ hs₂ => ?_) hp)
    have hL₀ : h₀.get? env.locals = none := Heap.get?_none_of_le F'.above
    have F₂ : Fr h₀ env.locals h₂ (fun z => if z = y then some (.ref D) else m z) := ⟨hn₂, fun b o e => hs₂.extBut b o (fun q => by rw [q, hL₀] at e; cases e) (F'.keep b o e), F'.above⟩
    refine ⟨m', hn.sameBut hs₂ hCL, fun h'' hs'' => R D ys ys.length h'' _ hys (F₂.change hs'' hCL hC₀) (fun p hp => ?_) o1⟩
    have z : h₂.get? p.1 = some p.2 := hs₂.extBut _ _ (N' p hp).2.1 (N' p hp).1
    refine ⟨hs''.extBut _ _ ?_ z, (N' p hp).2⟩
    rcases List.mem_cons.mp hp with rfl | hp
    · exact Ne.symm hCD
    · exact offC p hp
end
end Mine
end
section
open PySem PySem.W PyProof.Rows PySem.Calls
set_option Elab.async false
set_option maxRecDepth 100000
set_option maxHeartbeats 8000000
namespace Mine
section
variable {prog : Program} {w : World} {A : Around} {s : Shared} {h₀ : Heap} {L : Addr} {m : Str → Option Value} {env : Env} {elt iter : Expr} {x : Str} {px pos : Pos} {scope : Scope} {cl : List (Str × Addr)} {f : Int → Int}
theorem c_assign_comp_bytes {y : Str} {py spos : Pos} {Q : Flow → Shared → Prop} (_F₀ : Fr h₀ L s.heap m) (hLe : env.locals = L)
    (hsw : swapsWith (.ListComp elt [⟨.Name x px, iter, [], 0⟩] scope pos) (some (.Name y py)) spos.line env = pure true)
    (hclos : closureFor scope env = pure cl) (hcell : ∀ y ∈ scope.names, y.2 ≠ .cell) (hkind : scope.kind = .function)
    (hnames : ∀ y ∈ scope.names, y.2 = .local → scope.names.lookup y.1 = some .local) (hx : scope.names.lookup x = some .local)
    (hy : env.kindOf y = some .local) (hp : (env.scope.kind == .class || (env.scope.kind == .module && env.locals != env.globals)) = false) (he : EltIs prog w A elt x scope cl env f)
    (h : wpC (model prog w) A (eval iter env) (BytesSrcA A h₀ L m f y Q) s)
    (hs : ∀ x, foldedSetIterable iter env x = pure x := by intro _; rfl) :
    wpC (model prog w) A (exec (.Assign [.Name y py] (.ListComp elt [⟨.Name x px, iter, [], 0⟩] scope pos) spos) env) Q s := by
  rw [exec_Assign_Name_used _ _ _ _ hsw]
  refine c_bind (c_standAt (c_bind ?_))
  show wpC _ A (do let _ ← comprehension (.ListComp elt [⟨.Name x px, iter, [], 0⟩] scope pos) scope env _ (newList []) false (eval iter env) (some (assign (.Name y py) env))) _ s
  refine c_bind ?_
  show wpC _ A (eval iter env >>= fun xv => comprehension (.ListComp elt [⟨.Name x px, iter, [], 0⟩] scope pos) scope env _ (newList []) false (pure xv) (some (assign (.Name y py) env))) _ s
  refine c_bind (c_mono h fun xv s₁ h₁ => c_any (wpAny_mono (comp_use_bytes (Q := Q) hLe hclos hcell hkind hnames hx hy hp he hs h₁) (fun _ s' hq => ?_) fun _ _ e => e))
  exact c_pure (c_pure hq)
end
end Mine
end
section
open PySem PySem.W PyProof.Rows PySem.Calls
set_option Elab.async false
set_option maxRecDepth 100000
set_option maxHeartbeats 8000000
namespace Mine
theorem dig_zero (b : Nat) : ∀ j, dig b j 0 = List.replicate j 0
  | 0 => rfl
  | j + 1 => by
    rw [dig, Nat.zero_div, dig_zero b j, Nat.zero_mod]
    rfl
theorem dig_pad {b c k x : Nat} (h : x < b ^ c) (hk : c ≤ k) : dig b c x ++ List.replicate (k - c) 0 = dig b k x := by
  have e := dig_add b c (k - c) x
  rw [show c + (k - c) = k by omega, Nat.div_eq_of_lt h, dig_zero] at e
  exact e.symm
theorem dig_cut {b n j w x : Nat} (h : j + w ≤ n) : ((dig b n x).drop j).take w = dig b w (x / b ^ j) := by
  have e1 := dig_add b j (n - j) x
  have e2 := dig_add b w (n - j - w) (x / b ^ j)
  rw [show j + (n - j) = n by omega] at e1
  rw [show w + (n - j - w) = n - j by omega] at e2
  rw [e1, e2, List.drop_append_of_le_length (by rw [dig_length]; exact Nat.le_refl _), List.drop_of_length_le (by rw [dig_length]; exact Nat.le_refl _), List.nil_append,
    List.take_append_of_le_length (by rw [dig_length]; exact Nat.le_refl _), List.take_of_length_le (by rw [dig_length]; exact Nat.le_refl _)]
theorem val_dig_mod {b : Nat} (hb : 0 < b) (w y : Nat) : val (b : Int) (dig b w y) = ((y % b ^ w : Nat) : Int) := by
  rw [← dig_mod, val_dig b w _ (Nat.mod_lt _ (Nat.pow_pos hb))]
theorem val_chunk {wd k ln x : Nat} (h : (k + 1) * wd ≤ ln) (hk : k < ln / wd) : val (2 ^ 8) (((dig (2 ^ 8) ln x).drop (k * wd)).take wd) = (dig (2 ^ (8 * wd)) (ln / wd) x).getD k 0 := by
  rw [Nat.add_mul, Nat.one_mul] at h
  rw [dig_cut h, List.getD_eq_getElem?_getD, dig_get hk]
  have e := val_dig_mod (b := 2 ^ 8) (by decide) wd (x / (2 ^ 8) ^ (k * wd))
  rw [Int.natCast_pow] at e
  show val (2 ^ 8) _ = ((x / (2 ^ (8 * wd)) ^ k % 2 ^ (8 * wd) : Nat) : Int)
  have e2 : (2 ^ (8 * wd)) ^ k = (2 ^ 8) ^ (k * wd) := by rw [Nat.pow_mul 2 8 wd, ← Nat.pow_mul (2 ^ 8) wd k, Nat.mul_comm]
  have e3 : 2 ^ (8 * wd) = (2 ^ 8) ^ wd := Nat.pow_mul 2 8 wd
  rw [e2, e3]
  exact e
/-- how many octets: noughts behind them till four goes into their count -/
def octs (x : Nat) : Nat := cnt 8 x + (4 - cnt 8 x % 4) % 4
theorem octs_four (x : Nat) : 4 ∣ octs x := by
  unfold octs
  omega
theorem octs_le {x : Nat} (h : x < 10 ^ 40) : octs x ≤ 60 := by
  have : cnt 8 x ≤ 17 := cnt_min (by decide) (Nat.lt_trans h (by decide))
  unfold octs
  omega
theorem octs_more (x : Nat) : cnt 8 x ≤ octs x := Nat.le_add_right _ _
theorem octs_lt (x : Nat) : x < (2 ^ 8) ^ octs x := by
  refine Nat.lt_of_lt_of_le (cnt_enough (nn := 8) (by decide) x) ?_
  rw [Nat.pow_mul]
  exact Nat.pow_le_pow_right (by decide) (octs_more x)
theorem octs_pad (x : Nat) : dig (2 ^ 8) (cnt 8 x) x ++ List.replicate ((4 - cnt 8 x % 4) % 4) 0 = dig (2 ^ 8) (octs x) x := by
  have h : x < (2 ^ 8) ^ cnt 8 x := by
    rw [← Nat.pow_mul]
    exact cnt_enough (by decide) x
  rw [← dig_pad h (octs_more x)]
  congr 2
  unfold octs
  omega
theorem octs_val (x : Nat) : val (2 ^ 8) (dig (2 ^ 8) (octs x) x) = (x : Int) := by
  have e := val_dig (2 ^ 8) (octs x) x (octs_lt x)
  rw [Int.natCast_pow] at e
  exact e
theorem octs_rev (x : Nat) : Int.fmod (val (2 ^ 8) (dig (2 ^ 8) (octs x) x).reverse - (x : Int)) 255 = 0 := by
  obtain ⟨c, h⟩ := val_sum (2 ^ 8) (dig (2 ^ 8) (octs x) x)
  obtain ⟨d, h2⟩ := val_sum (2 ^ 8) (dig (2 ^ 8) (octs x) x).reverse
  rw [octs_val] at h
  rw [List.sum_reverse] at h2
  have h' : (x : Int) = (dig (2 ^ 8) (octs x) x).sum + 255 * c := h
  have h2' : val (2 ^ 8) (dig (2 ^ 8) (octs x) x).reverse = (dig (2 ^ 8) (octs x) x).sum + 255 * d := h2
  have e : val (2 ^ 8) (dig (2 ^ 8) (octs x) x).reverse - (x : Int) = 255 * (d - c) := by
    rw [h2', h', Int.mul_sub]; omega
  rw [e]
  exact Int.mul_fmod_right ..
theorem due_cnt {wd x : Nat} (hw : wd = 2 ∨ wd = 4) : cnt (8 * wd) x ≤ octs x / wd := by
  refine cnt_min (by omega) ?_
  have h := octs_lt x
  rw [← Nat.pow_mul] at h
  have hd : wd ∣ octs x := Nat.dvd_trans (by rcases hw with rfl | rfl <;> decide) (octs_four x)
  rw [Nat.mul_assoc, Nat.mul_div_cancel' hd]
  exact h
theorem due_pad {wd x : Nat} (hw : wd = 2 ∨ wd = 4) : dig (2 ^ (8 * wd)) (cnt (8 * wd) x) x ++ List.replicate (octs x / wd - cnt (8 * wd) x) 0 = dig (2 ^ (8 * wd)) (octs x / wd) x := by
  refine dig_pad ?_ (due_cnt hw)
  rw [← Nat.pow_mul]
  exact cnt_enough (by omega) x
theorem wide_dvd {wd : Nat} (x : Nat) (hw : wd = 2 ∨ wd = 4) : wd ∣ octs x := Nat.dvd_trans (by rcases hw with rfl | rfl <;> decide) (octs_four x)
/-- a turned word's octets, turned back, are the digit's -/
theorem word_val {wd k x : Nat} (hw : wd = 2 ∨ wd = 4) (hk : k < octs x / wd) :
    val (2 ^ 8) (((turn wd (dig (2 ^ 8) (octs x) x)).drop (k * wd)).take wd).reverse = (dig (2 ^ (8 * wd)) (octs x / wd) x).getD k 0 := by
  have hw0 : 0 < wd := by omega
  have h1 : (k + 1) * wd ≤ octs x := by
    have := Nat.mul_le_mul_right wd hk
    rw [Nat.div_mul_cancel (wide_dvd x hw)] at this
    exact this
  rw [turn_part hw0 (by rw [dig_length]; exact wide_dvd x hw) (by rw [dig_length]; exact h1), val_chunk h1 hk]
theorem turn_in {wd : Nat} {ks : List Int} {b : Int} (hb : 0 < b) (h : ∀ d ∈ ks, 0 ≤ d ∧ d < b) : ∀ d ∈ turn wd ks, 0 ≤ d ∧ d < b := by
  intro d hd
  obtain ⟨k, _, rfl⟩ := List.mem_map.mp hd
  rw [List.getD_eq_getElem?_getD]
  cases e : ks[src wd k]? with
  | none => exact ⟨Int.le_refl _, hb⟩
  | some v => exact h v (List.mem_of_getElem? e)
end Mine
end
section
open PySem PySem.W PyProof.Rows PySem.Calls
set_option Elab.async false
set_option maxRecDepth 100000
set_option maxHeartbeats 8000000
namespace Mine
theorem mem_of_look {x : Str} {v : Value} : ∀ {l : List (Str × Value)}, l.lookup x = some v → (x, v) ∈ l
  | [], h => by cases h
  | (y, u) :: l, h => by
    rw [List.lookup_cons] at h
    cases hb : x == y with
    | true =>
      rw [hb] at h
      cases h
      rw [eq_of_beq hb]
      exact .head _
    | false =>
      rw [hb] at h
      exact .tail _ (mem_of_look h)
theorem fr_names {g h : Heap} {L : Addr} {m : Str → Option Value} {names : List (Str × Value)} (F : Fr g L h m) (hn : ∀ z ∈ names, m z.1 = some z.2) : Fr g L h (fun y => (names.lookup y).or (m y)) := by
  refine fr_map F (funext fun y => ?_)
  cases e : names.lookup y with
  | none => rfl
  | some v => exact hn _ (mem_of_look e)
/-- a state of the law: what its names hold, its things, the tables -/
def StC (g : Heap) (L : Addr) (s : Shared) (names : List (Str × Value)) (own : List (Addr × Obj)) (offs : List Addr) (s' : Shared) : Prop :=
  ∃ h' tk' m' p q codes, s' = { s with heap := h', toks := tk' } ∧ Fr g L h' m' ∧ (∀ z ∈ names, m' z.1 = some z.2) ∧ News g L h' (own ++ (30, tabObj p) :: (23, tabObj q) :: codes) ∧ Tab p q codes ∧ ∀ a ∈ offs, ∀ r ∈ codes, r.1 ≠ a
theorem StC.intro {g : Heap} {L : Addr} {s : Shared} {names : List (Str × Value)} {own news : List (Addr × Obj)} {offs : List Addr} {h' : Heap} {tk' : Nat} {m' : Str → Option Value} {p q : Array Value} {codes : List (Addr × Obj)}
    (F : Fr g L h' m') (N : News g L h' news) (hn : ∀ z ∈ names, m' z.1 = some z.2) (sub : ∀ r ∈ own ++ (30, tabObj p) :: (23, tabObj q) :: codes, r ∈ news) (tb : Tab p q codes) (off : ∀ a ∈ offs, ∀ r ∈ codes, r.1 ≠ a) :
    StC g L s names own offs { s with heap := h', toks := tk' } := ⟨h', tk', m', p, q, codes, rfl, F, hn, fun r hr => N r (sub r hr), tb, off⟩
/-- one list made -/
def StW (g : Heap) (L : Addr) (s : Shared) (nm : Str) (ls : List Int) (names : List (Str × Value)) (own : List (Addr × Obj)) (offs : List Addr) (f : Flow) (s' : Shared) : Prop :=
  f = .next ∧ ∃ W ws e, IntsAre ws ls ∧ StC g L s ((nm, .ref W) :: names) ((W, listOf ws.toArray e) :: own) offs s'
/-- as it was -/
def StE (g : Heap) (L : Addr) (s : Shared) (names : List (Str × Value)) (own : List (Addr × Obj)) (offs : List Addr) (f : Flow) (s' : Shared) : Prop := f = .next ∧ StC g L s names own offs s'
/-- bytes made -/
def StB (g : Heap) (L : Addr) (s : Shared) (nm : Str) (ls : List Int) (names : List (Str × Value)) (own : List (Addr × Obj)) (offs : List Addr) (f : Flow) (s' : Shared) : Prop :=
  f = .next ∧ ∃ b u, KBw.bInts b = ls ∧ StC g L s ((nm, .bytes b u) :: names) own offs s'
/-- a test gone by -/
def StF (g : Heap) (L : Addr) (s : Shared) (names : List (Str × Value)) (own : List (Addr × Obj)) (offs : List Addr) (c : Bool) (s' : Shared) : Prop := c = false ∧ StC g L s names own offs s'
/-- within the second loop, between the turns of its inner loop -/
def J7 (names : List (Str × Value)) (own : List (Addr × Obj)) (I : Addr) (m : Str → Option Value) (nx : List (Addr × Obj)) : Prop :=
  (∀ z ∈ names, m z.1 = some z.2) ∧ ∃ p q codes, nx = own ++ (30, tabObj p) :: (23, tabObj q) :: codes ∧ Tab p q codes ∧ ∀ r ∈ codes, r.1 ≠ I
end Mine
end
section
open PySem PySem.W PyProof.Rows PySem.Calls
set_option Elab.async false
set_option maxRecDepth 100000
set_option maxHeartbeats 8000000
namespace Mine
theorem fill9 : hd.heap_39 = hd.heap_39 ∧ PySem.Challenge.rw_zr0002_01 = PySem.Challenge.rw_zr0002_01 := by
  k_fill
  exact ⟨rfl, rfl⟩
local macro_rules | `(tactic| k_mem) => `(tactic| assumption)
local macro_rules | `(tactic| is_list) => `(tactic| exact News.isList (by k_asm) (by k_mem))
def J8 (names : List (Str × Value)) (own : List (Addr × Obj)) (offs : List Addr) (m : Str → Option Value) (nx : List (Addr × Obj)) : Prop :=
  (∀ z ∈ names, m z.1 = some z.2) ∧ ∃ p q codes, nx = own ++ (30, tabObj p) :: (23, tabObj q) :: codes ∧ Tab p q codes ∧ ∀ a ∈ offs, ∀ r ∈ codes, r.1 ≠ a
theorem part_ints {ws : List Value} {ks : List Int} {wd i : Nat} (h : IntsAre ws ks) (hl : (i + 1) * wd ≤ ks.length) : IntsAre (slicePick ws.toArray (some ((i : Int) * (wd : Int))) (some (((i : Int) + 1) * (wd : Int))) none).toList ((ks.drop (i * wd)).take wd) := by
  have e1 : (i : Int) * (wd : Int) = ((i * wd : Nat) : Int) := by push_cast; rfl
  have e2 : ((i : Int) + 1) * (wd : Int) = (((i + 1) * wd : Nat) : Int) := by push_cast; rfl
  have z := kmk_run (x := ((i * wd : Nat) : Int)) (y := (((i + 1) * wd : Nat) : Int)) h (Int.natCast_nonneg _) (Int.natCast_nonneg _)
  rw [e1, e2]
  rw [Int.toNat_natCast, Int.toNat_natCast, Nat.min_eq_left hl, show (i + 1) * wd - i * wd = wd by rw [Nat.add_mul]; omega] at z
  exact z
theorem turn7 {prog : Program} {w : World} {g : Heap} {L fa : Addr} {cdv : Value} {fd : FuncData} {mg mb : Str → Option Value} {pr : Program} {loose : List Str} {mean : ExcName → Option Value} {oc oI oI2 : Obj} {P Pw I I2 : Addr} {vp vw : Array Value} {e ew : Nat}
    {m₁ : Str → Option Value} {nx : List (Addr × Obj)} {h : Heap} {tk : Nat} {s : Shared} {x wd : Nat} {t tw u : Tok} {b : Array UInt8}
    (hfd : LawIs w fd) (B : Below callerA g [] g) (X : (hd.heap_39 w.params).In g) (T : Top pr loose mean mg mb g) (C30 : CodeHd g 34 30) (C23 : CodeHd g 27 23) (hoc : ∀ p, oc ≠ tabObj p) (hx : x < 10 ^ 40) (hw : wd = 2 ∨ wd = 4)
    (hb : KBw.bInts b = dig (2 ^ 8) (octs x) x)
    (hJ : J7 [(PySem.Str.ofString "row", .bytes b u), (PySem.Str.ofString "number", .int (x : Int) t), (PySem.Str.ofString "pair", .ref P)] [(Pw, listOf vw ew), (I, oI), (P, listOf vp e), (L + 1, oc)] I m₁ nx)
    (hoI : ∀ p, oI ≠ tabObj p) (hoI2 : ∀ p, oI2 ≠ tabObj p) (hne : ∀ q ∈ nx, q.1 ≠ I2) (F : Fr g L h (fun y => if y = PySem.Str.ofString "wide" then some (.int (wd : Int) tw) else m₁ y)) (N : News g L h ((I2, oI2) :: nx)) :
    wpC (model prog w) (ktrTop 302 7 (some []) (PySem.Str.ofString "law") fd.scope L fa cdv [(PySem.Str.ofString "script", L + 1)] []) (execs (loopOf (loopOf (stmtsOf fd) 5) 7) (envX (PySem.Str.ofString "law") fd.scope L fa cdv [(PySem.Str.ofString "script", L + 1)]))
      (TurnEnd g L s I2 oI2 (J7 [(PySem.Str.ofString "row", .bytes b u), (PySem.Str.ofString "number", .int (x : Int) t), (PySem.Str.ofString "pair", .ref P)] [(Pw, listOf vw ew), (I, oI), (P, listOf vp e), (L + 1, oc)] I)) { s with heap := h, toks := tk } := by
  obtain ⟨c1, c2, c3, hfd⟩ := hfd
  obtain ⟨sc, hsc⟩ : ∃ sc, sc = fd.scope := ⟨_, rfl⟩
  obtain ⟨ss, hss⟩ : ∃ ss, ss = loopOf (loopOf (stmtsOf fd) 5) 7 := ⟨_, rfl⟩
  rw [← hsc, ← hss]
  have key := Option.some.inj (hfd.symm.trans (rfl : (hd.heap_39 w.params).lookup 52 = some _))
  cases key
  clear hfd
  replace hss : ss = _ :: _ :: _ :: _ :: [] := hss
  subst hss
  replace hsc : sc = ⟨_, _, _, _, _⟩ := hsc
  subst hsc
  obtain ⟨hnm, p, q, codes, rfl, tb, hoff⟩ := hJ
  have F1 : Fr g L h (fun y => if y = PySem.Str.ofString "wide" then some (.int (wd : Int) tw) else if y = PySem.Str.ofString "row" then some (.bytes b u) else if y = PySem.Str.ofString "number" then some (.int (x : Int) t) else if y = PySem.Str.ofString "pair" then some (.ref P) else _) :=
    fr_see4 F (x1 := PySem.Str.ofString "wide") (x2 := PySem.Str.ofString "row") (x3 := PySem.Str.ofString "number") (x4 := PySem.Str.ofString "pair") rfl (hnm _ (.head _)) (hnm _ (.tail _ (.head _))) (hnm _ (.tail _ (.tail _ (.head _))))
  simp only [List.cons_append, List.nil_append] at N
  have h30 := hne _ (List.mem_append_right _ (.head _))
  have h23 := hne _ (List.mem_append_right _ (.tail _ (.head _)))
  clear F
  have hbs : b.size = octs x := by rw [← KBw.ints_length, hb, dig_length]
  have hol := octs_le hx
  refine c_execs_cons (c_mono (Q := StW g L s (PySem.Str.ofString "words") (turn wd (dig (2 ^ 8) (octs x) x)) [(PySem.Str.ofString "wide", .int (wd : Int) tw), (PySem.Str.ofString "row", .bytes b u), (PySem.Str.ofString "number", .int (x : Int) t), (PySem.Str.ofString "pair", .ref P)] [(I2, oI2), (Pw, listOf vw ew), (I, oI), (P, listOf vp e), (L + 1, oc)] [I, I2]) ?_ ?_)
  · refine c_assign_comp_bytes (cl := []) F1 rfl rfl rfl (by decide) rfl (by decide) rfl rfl rfl (elt_name rfl (fun C => rfl) (by decide)) (c_Call_Name ?_)
    walk1
    refine c_function1 ?_
    repeat' ((fail_if_success (with_reducible show And _ _)); first | walk1 | (dsimp only; walk1))
    rename Fr g L _ _ => F2
    rename News g L _ _ => N2
    refine ⟨⟨_, _, (X.keeps F2.keep) 42 _ rfl, rfl⟩, ?_⟩
    refine byteswap B F2 X N2 T rfl (by omega) (by rw [hbs]; exact wide_dvd x hw) (by omega) (by omega) (by decide) (by decide) ?_
    clear F2 N2
    intro b2 u2 h2 tk2 F2 N2 hb2
    rw [hb] at hb2
    k_dflt (refine' ⟨_, _, _, _, rfl, hb2, ?u1, rfl, F2, N2, ?_⟩; (case u1 => (rw [sizeLine_eq, turn_length, dig_length]; omega)))
    clear F2 N2
    intro W ws e3 h3 tk3 hi3 F3 N3 _
    rw [List.map_id'] at hi3
    refine ⟨rfl, W, ws, e3, hi3, StC.intro F3 N3 ?_ (fun r hr => hr) tb ?_⟩
    · repeat (first | exact List.forall_mem_nil _ | refine List.forall_mem_cons.mpr ⟨rfl, ?_⟩)
    · intro a ha r hr
      simp only [List.mem_cons, List.not_mem_nil, or_false] at ha
      rcases ha with rfl | rfl
      · exact hoff r hr
      · exact hne r (.tail _ (.tail _ (.tail _ (.tail _ (.tail _ (.tail _ hr))))))
  · clear F1 N tb hoff
    rintro f s' ⟨rfl, W, ws, e3, hi3, h1, tk1, m1, p, q, codes, rfl, F1, hn1, N1, tb, hoff⟩
    simp only [List.cons_append, List.nil_append] at N1
    dsimp only
    replace F1 := fr_names F1 hn1
    clear hn1
    refine c_execs_cons (c_mono (Q := StW g L s (PySem.Str.ofString "due") (dig (2 ^ (8 * wd)) (cnt (8 * wd) x) x) [(PySem.Str.ofString "words", .ref W), (PySem.Str.ofString "wide", .int (wd : Int) tw), (PySem.Str.ofString "row", .bytes b u), (PySem.Str.ofString "number", .int (x : Int) t), (PySem.Str.ofString "pair", .ref P)] [(W, listOf ws.toArray e3), (I2, oI2), (Pw, listOf vw ew), (I, oI), (P, listOf vp e), (L + 1, oc)] [I, I2]) ?_ ?_)
    · refine c_any ?_
      k_fold
      repeat' ((fail_if_success (with_reducible show wpAny _ _ (call (Value.ref _) _) _ _ _)); first | walk1 | (dsimp only; walk1))
      rename Fr g L _ _ => F2
      rename News g L _ _ => N2
      refine' w_i2d (nn := 8 * wd) B F2 X N2 T rfl C23 ?sp tb ?nt hx (by omega) (by omega) (by decide) (by decide) ?_
      case sp => repeat (first | exact Split.nil | apply Split.cons)
      case nt => repeat (first | exact NoTab.nil | apply NoTab.list | refine NoTab.cons ?_ (by assumption))
      clear F2 N2
      intro D2 ys2 e2 h2 tk2 q2 codes2 F2 N2 _ hi2 tb2 _ kc2 ne2
      simp only [List.cons_append, List.nil_append] at N2
      dsimp only
      repeat' (first | walk1 | (dsimp only; walk1))
      rename Fr g L _ _ => F3
      rename News g L _ _ => N3
      refine ⟨rfl, D2, ys2, e2, hi2, StC.intro F3 N3 ?_ (fun r hr => hr) tb2 ?_⟩
      · repeat (first | exact List.forall_mem_nil _ | refine List.forall_mem_cons.mpr ⟨rfl, ?_⟩)
      · intro a ha
        simp only [List.mem_cons, List.not_mem_nil, or_false] at ha
        rcases ha with rfl | rfl
        · exact kc2 _ oI (.tail _ (.tail _ (.tail _ (.head _)))) (hoff _ (.head _))
        · exact kc2 _ oI2 (.tail _ (.head _)) (hoff _ (.tail _ (.head _)))
    · clear F1 N1 tb hoff
      rintro f s' ⟨rfl, D2, ys2, e2, hi2, h1, tk1, m1, p, q, codes, rfl, F1, hn1, N1, tb, hoff⟩
      simp only [List.cons_append, List.nil_append] at N1
      dsimp only
      replace F1 := fr_names F1 hn1
      clear hn1
      have hl2 : (dig (2 ^ (8 * wd)) (cnt (8 * wd) x) x).length = cnt (8 * wd) x := dig_length ..
      have hlr : (dig (2 ^ 8) (octs x) x).length = octs x := dig_length ..
      have hdc := due_cnt (x := x) hw
      have hc2 : cnt (8 * wd) x ≤ 200 := cnt_le (by omega) hx
      have hdl : octs x / wd ≤ 60 := Nat.le_trans (Nat.div_le_self _ _) hol
      refine c_execs_cons (c_mono (Q := StW g L s (PySem.Str.ofString "due") (dig (2 ^ (8 * wd)) (octs x / wd) x) [(PySem.Str.ofString "words", .ref W), (PySem.Str.ofString "wide", .int (wd : Int) tw), (PySem.Str.ofString "row", .bytes b u), (PySem.Str.ofString "number", .int (x : Int) t), (PySem.Str.ofString "pair", .ref P)] [(W, listOf ws.toArray e3), (I2, oI2), (Pw, listOf vw ew), (I, oI), (P, listOf vp e), (L + 1, oc)] [I, I2]) ?_ ?_)
      · refine c_any ?_
        k_fold
        repeat' ((fail_if_success (with_reducible show wpAny _ _ (binaryOp Operator.Mult _ _) _ _ _)); first | walk1 | (dsimp only; walk1))
        rename Fr g L _ _ => F2
        rename News g L _ _ => N2
        have hcnt : ((dig (2 ^ 8) (octs x) x).length : Int).fdiv (wd : Int) - ((dig (2 ^ (8 * wd)) (cnt (8 * wd) x) x).length : Int) = ((octs x / wd - cnt (8 * wd) x : Nat) : Int) := by
          rw [hlr, hl2, Int.fdiv_eq_ediv_of_nonneg _ (Int.natCast_nonneg wd)]
          omega
        rw [hcnt]
        have hL0 := News.isList N2 (.head _)
        k_dflt (refine' KM.mul (vs := [.int 0 tk1]) (ns := [0]) ?mya ?myb ?myc ?myd ?mye ?myf ?myg ?_; (case mya => exact F2); (case myb => exact N2); (case myc => exact hL0); (case myd => exact .cons _ _ .nil); (case mye => omega); (case myf => omega); (case myg => (simp only [List.length_cons, List.length_nil, Int.toNat_natCast]; omega)))
        clear F2 N2 hL0
        intro D h4 F4 N4 l4 i4 n4 _ _ _ _
        rw [Int.toNat_natCast] at N4 i4
        rw [show (List.replicate (octs x / wd - cnt (8 * wd) x) [(0 : Int)]).flatten = List.replicate (octs x / wd - cnt (8 * wd) x) 0 by simp] at i4
        generalize (List.replicate (octs x / wd - cnt (8 * wd) x) [Value.int 0 tk1]).flatten = vs0 at N4 i4
        repeat' ((fail_if_success (with_reducible show StW _ _ _ _ _ _ _ _ _ _)); first | walk1 | (dsimp only; walk1))
        rename Fr g L _ _ => F5
        rename News g L _ _ => N5
        rename IntsAre _ (_ ++ _) => hi5
        rw [due_pad hw] at hi5
        rename Addr => D5
        refine ⟨rfl, D5, _, 0, hi5, StC.intro (p := p) (q := q) (codes := codes) F5 N5 ?_ ?_ tb hoff⟩
        · repeat (first | exact List.forall_mem_nil _ | refine List.forall_mem_cons.mpr ⟨rfl, ?_⟩)
        · intro r hr
          cases hr with
          | head => exact .head _
          | tail _ hr => exact .tail _ (.tail _ (.tail _ (.tail _ hr)))
      · clear F1 N1 tb hoff
        rintro f s' ⟨rfl, D3, ys3, e4, hi4, h1, tk1, m1, p, q, codes, rfl, F1, hn1, N1, tb, hoff⟩
        simp only [List.cons_append, List.nil_append] at N1
        dsimp only
        replace F1 := fr_names F1 hn1
        clear hn1
        have hl4 : (dig (2 ^ (8 * wd)) (octs x / wd) x).length = octs x / wd := dig_length ..
        refine c_execs_cons (c_mono (Q := StE g L s [(PySem.Str.ofString "row", .bytes b u), (PySem.Str.ofString "number", .int (x : Int) t), (PySem.Str.ofString "pair", .ref P)] [(I2, oI2), (Pw, listOf vw ew), (I, oI), (P, listOf vp e), (L + 1, oc)] [I, I2]) ?_ ?_)
        · refine c_forRange (g := g) (m := fun y => (List.lookup y [(PySem.Str.ofString "due", .ref D3), (PySem.Str.ofString "words", .ref W), (PySem.Str.ofString "wide", .int (wd : Int) tw), (PySem.Str.ofString "row", .bytes b u), (PySem.Str.ofString "number", .int (x : Int) t), (PySem.Str.ofString "pair", .ref P)]).or (m1 y)) (news := [(D3, listOf ys3.toArray e4), (W, listOf ws.toArray e3), (I2, oI2), (Pw, listOf vw ew), (I, oI), (P, listOf vp e), (L + 1, oc)] ++ (30, tabObj p) :: (23, tabObj q) :: codes) (n := octs x / wd) (fun _ => J8 [(PySem.Str.ofString "due", .ref D3), (PySem.Str.ofString "words", .ref W), (PySem.Str.ofString "wide", .int (wd : Int) tw), (PySem.Str.ofString "row", .bytes b u), (PySem.Str.ofString "number", .int (x : Int) t), (PySem.Str.ofString "pair", .ref P)] [(D3, listOf ys3.toArray e4), (W, listOf ws.toArray e3), (I2, oI2), (Pw, listOf vw ew), (I, oI), (P, listOf vp e), (L + 1, oc)] [I, I2]) rfl rfl rfl rfl (by omega) ?_ ?_ ?_
          · k_fold
            repeat' ((fail_if_success (with_reducible show Exists _)); first | walk1 | (dsimp only; walk1))
            rename Fr g L _ _ => F2
            rename News g L _ _ => N2
            rename IsRange _ _ _ _ _ _ _ _ => hr
            rw [hl4] at hr
            refine ⟨_, _, _, _, _, _, rfl, rfl, hr, F2, N2, ?_, p, q, codes, rfl, tb, hoff⟩
            repeat (first | exact List.forall_mem_nil _ | refine List.forall_mem_cons.mpr ⟨rfl, ?_⟩)
          · clear F1 N1 tb hoff
            rintro I3 i t3 oI3 m2 nx h2 tk2 hi ⟨hn2, p2, q2, codes2, rfl, tb2, ho2⟩ hoI3 hne3 F N
            simp only [List.cons_append, List.nil_append] at N
            have F1 : Fr g L h2 (fun y => if y = PySem.Str.ofString "k" then some (.int (i : Int) t3) else if y = PySem.Str.ofString "wide" then some (.int (wd : Int) tw) else if y = PySem.Str.ofString "due" then some (.ref D3) else if y = PySem.Str.ofString "words" then some (.ref W) else _) :=
              fr_see4 F (x1 := PySem.Str.ofString "k") (x2 := PySem.Str.ofString "wide") (x3 := PySem.Str.ofString "due") (x4 := PySem.Str.ofString "words") rfl (hn2 _ (.tail _ (.tail _ (.head _)))) (hn2 _ (.head _)) (hn2 _ (.tail _ (.head _)))
            clear F
            refine c_execs_cons (c_mono (Q := StE g L s [(PySem.Str.ofString "due", .ref D3), (PySem.Str.ofString "words", .ref W), (PySem.Str.ofString "wide", .int (wd : Int) tw), (PySem.Str.ofString "row", .bytes b u), (PySem.Str.ofString "number", .int (x : Int) t), (PySem.Str.ofString "pair", .ref P)] [(I3, oI3), (D3, listOf ys3.toArray e4), (W, listOf ws.toArray e3), (I2, oI2), (Pw, listOf vw ew), (I, oI), (P, listOf vp e), (L + 1, oc)] [I, I2, I3]) ?_ ?_)
            · refine c_any ?_
              k_fold
              repeat' ((fail_if_success (with_reducible show wpAny _ _ (subscriptTail _ _ _ _) _ _ _)); first | walk1 | (dsimp only; walk1))
              rename Fr g L _ _ => F2
              rename News g L _ _ => N2
              have hle : (i + 1) * wd ≤ octs x := by
                have := Nat.mul_le_mul_right wd hi
                rw [Nat.div_mul_cancel (wide_dvd x hw)] at this
                exact this
              have hlt : (turn wd (dig (2 ^ 8) (octs x) x)).length = octs x := by rw [turn_length, dig_length]
              have hi6 := part_ints hi3 (by rw [hlt]; exact hle)
              have hz3 : ws.toArray.size ≤ sizeLine := by rw [List.size_toArray, hi3.length, sizeLine_eq]; omega
              have hl6 : (((turn wd (dig (2 ^ 8) (octs x) x)).drop (i * wd)).take wd).length ≤ 60 := by
                rw [List.length_take]
                omega
              have hwv := word_val hw hi
              have hti : ∀ d ∈ (((turn wd (dig (2 ^ 8) (octs x) x)).drop (i * wd)).take wd).reverse, 0 ≤ d ∧ d < 2 ^ 8 := by
                intro d hd
                exact turn_in (by decide) dig_all_in d (List.mem_of_mem_drop (List.mem_of_mem_take (List.mem_reverse.mp hd)))
              generalize ((turn wd (dig (2 ^ 8) (octs x) x)).drop (i * wd)).take wd = rs at hi6 hwv hti hl6
              k_dflt (refine' slice_K F2 N2 (.tail _ (.tail _ (.head _))) ?myk ?myl ?mym ?myn hz3 ?_ ?myo ?myp; (case myk => exact IsPart.int _ _); (case myl => exact IsPart.int _ _); (case mym => exact IsPart.none); (case myn => decide); (case myo => with_unfolding_all rfl); (case myp => (intro _; with_unfolding_all rfl)))
              clear F2 N2
              intro D4 h4 F4 N4
              obtain ⟨pl, hpl⟩ : ∃ pl : List Value, pl = (slicePick ws.toArray (some ((i : Int) * (wd : Int))) (some (((i : Int) + 1) * (wd : Int))) none).toList := ⟨_, rfl⟩
              rw [← hpl] at hi6
              have hpa : slicePick ws.toArray (some ((i : Int) * (wd : Int))) (some (((i : Int) + 1) * (wd : Int))) none = pl.toArray := by rw [hpl, Array.toArray_toList]
              rw [hpa] at N4
              clear hpl hpa
              have hz6 : pl.toArray.size ≤ sizeLine := by rw [List.size_toArray, hi6.length, sizeLine_eq]; omega
              repeat' ((fail_if_success (with_reducible show wpAny _ _ (subscriptTail _ _ _ _) _ _ _)); first | walk1 | (dsimp only; walk1))
              rename Fr g L _ _ => F5
              rename News g L _ _ => N5
              refine kba_turn (value' := PySem.Expr.Name (PySem.Str.ofString "_") ⟨0, 0, 0, 0⟩) (fun _ => rfl) ?_
              k_dflt (refine' krv_ints (vs := pl) F5 N5 ?mya ?myb hi6 ?_ ?myc ?myd hz6; (case mya => exact News.isList N5 List.mem_cons_self); (case myb => exact IsPart.int _ _); (case myc => with_unfolding_all rfl); (case myd => (intro _; with_unfolding_all rfl)))
              clear F5 N5
              intro D5 vs5 h5 F5 N5 l5 hi5 _
              repeat' ((fail_if_success (with_reducible show wpAny _ _ (call (Value.ref _) _) _ _ _)); first | walk1 | (dsimp only; walk1))
              rename Fr g L _ _ => F6
              rename News g L _ _ => N6
              refine' w_d2i (nn := 8) B F6 X N6 T rfl C30 ?sp tb2 ?nt ?hl hi5 hti rfl (by decide) (by rw [List.length_reverse]; omega) (by decide) (by decide) ?_
              case sp => repeat (first | exact Split.nil | apply Split.cons)
              case nt => repeat (first | exact NoTab.nil | apply NoTab.list | refine NoTab.cons ?_ (by assumption))
              case hl => exact .head _
              clear F6 N6
              intro t7 h7 tk7 p7 codes7 F7 N7 _ tb7 kc7
              simp only [List.cons_append, List.nil_append] at N7
              rw [hwv]
              have ho7 : ∀ a ∈ [I, I2, I3], ∀ r ∈ codes7, r.1 ≠ a := by
                refine List.forall_mem_cons.mpr ⟨?_, List.forall_mem_cons.mpr ⟨?_, List.forall_mem_cons.mpr ⟨?_, List.forall_mem_nil _⟩⟩⟩
                · exact kc7 I oI (.tail _ (.tail _ (.tail _ (.tail _ (.tail _ (.tail _ (.tail _ (.head _)))))))) (ho2 _ (.head _))
                · exact kc7 I2 oI2 (.tail _ (.tail _ (.tail _ (.tail _ (.tail _ (.head _)))))) (ho2 _ (.tail _ (.head _)))
                · exact kc7 I3 oI3 (.tail _ (.tail _ (.head _))) fun r hr => hne3 r (List.mem_append_right _ (.tail _ (.tail _ hr)))
              dsimp only
              repeat' ((fail_if_success (with_reducible show wpAny _ _ (subscriptTail _ _ _ _) _ _ _)); first | walk1 | (dsimp only; walk1))
              rename Fr g L _ _ => F8
              rename News g L _ _ => N8
              refine item_nat (News.isList N8 (.tail _ (.tail _ (.tail _ (.head _))))) hi4 (by rw [hl4]; exact hi) (by rw [hl4]; omega) ?_
              intro t8
              generalize (dig (2 ^ (8 * wd)) (octs x / wd) x).getD i 0 = z
              repeat' (first | (exact absurd rfl (by assumption)) | walk1 | (dsimp only; walk1))
              rename Fr g L _ _ => F9
              rename News g L _ _ => N9
              refine ⟨rfl, StC.intro F9 N9 ?_ (fun r hr => .tail _ (.tail _ hr)) tb7 ho7⟩
              refine List.forall_mem_cons.mpr ⟨rfl, List.forall_mem_cons.mpr ⟨rfl, List.forall_mem_cons.mpr ⟨rfl, List.forall_mem_cons.mpr ⟨hn2 _ (.tail _ (.tail _ (.tail _ (.head _)))), List.forall_mem_cons.mpr ⟨hn2 _ (.tail _ (.tail _ (.tail _ (.tail _ (.head _))))), List.forall_mem_cons.mpr ⟨hn2 _ (.tail _ (.tail _ (.tail _ (.tail _ (.tail _ (.head _)))))), List.forall_mem_nil _⟩⟩⟩⟩⟩⟩
            · rintro f s' ⟨rfl, h3, tk3, m3, p, q, codes, rfl, F1, hn1, N1, tb, hoff⟩
              refine c_execs_nil ⟨.inl rfl, h3, tk3, m3, [(D3, listOf ys3.toArray e4), (W, listOf ws.toArray e3), (I2, oI2), (Pw, listOf vw ew), (I, oI), (P, listOf vp e), (L + 1, oc)] ++ (30, tabObj p) :: (23, tabObj q) :: codes, rfl, ⟨hn1, p, q, codes, rfl, tb, fun a ha => hoff a ?_⟩, F1, N1, ?_⟩
              · rcases List.mem_cons.mp ha with rfl | ha
                · exact .head _
                · rcases List.mem_cons.mp ha with rfl | ha
                  · exact .tail _ (.head _)
                  · cases ha
              · have h30 := hne3 _ (List.mem_append_right _ (.head _))
                have h23 := hne3 _ (List.mem_append_right _ (.tail _ (.head _)))
                intro r hr
                rcases List.mem_append.mp hr with hr | hr
                · exact hne3 r (List.mem_append_left _ hr)
                · cases hr with
                  | head => exact h30
                  | tail _ hr => cases hr with
                    | head => exact h23
                    | tail _ hr => exact hoff I3 (.tail _ (.tail _ (.head _))) r hr
          · rintro m2 nx h2 tk2 ⟨hn2, p2, q2, codes2, rfl, tb2, ho2⟩ F N
            exact ⟨rfl, StC.intro F N (fun z hz => hn2 z (.tail _ (.tail _ (.tail _ hz)))) (fun r hr => .tail _ (.tail _ hr)) tb2 ho2⟩
        · clear F1 N1 tb hoff
          rintro f s' ⟨rfl, h1, tk1, m1, p, q, codes, rfl, F1, hn1, N1, tb, hoff⟩
          refine c_execs_nil ⟨.inl rfl, h1, tk1, m1, [(Pw, listOf vw ew), (I, oI), (P, listOf vp e), (L + 1, oc)] ++ (30, tabObj p) :: (23, tabObj q) :: codes, rfl, ⟨hn1, p, q, codes, rfl, tb, hoff I (.head _)⟩, F1, N1, ?_⟩
          intro r hr
          rcases List.mem_append.mp hr with hr | hr
          · exact hne r (List.mem_append_left _ hr)
          · cases hr with
            | head => exact h30
            | tail _ hr => cases hr with
              | head => exact h23
              | tail _ hr => exact hoff I2 (.tail _ (.head _)) r hr
end Mine
end
section
open PySem PySem.W PyProof.Rows PySem.Calls
set_option Elab.async false
set_option maxRecDepth 100000
set_option maxHeartbeats 8000000
namespace Mine
section
variable {prog : Program} {w : World} {A : Around} {s : Shared} {g : Heap} {L : Addr} {env : Env} {x : Str} {px : Pos} {body : List Stmt} {Q : Flow → Shared → Prop}
def LitList (g : Heap) (L : Addr) (s : Shared) (G : Addr → List Value → Nat → Prop) (J : Addr → List Value → Nat → (Str → Option Value) → List (Addr × Obj) → Prop) (v : Value) (s₁ : Shared) : Prop :=
  ∃ P vs e h tk m news, v = .ref P ∧ s₁ = { s with heap := h, toks := tk } ∧ Fr g L h m ∧ News g L h news ∧ G P vs e ∧ J P vs e m news
/-- a for loop over a list that its own line makes -/
theorem c_forLit {iter : Expr} {pos : Pos} (G : Addr → List Value → Nat → Prop) (J : Addr → List Value → Nat → (Str → Option Value) → List (Addr × Obj) → Prop) (hh : A.handled = none) (hLe : env.locals = L) (hy : env.kindOf x = some .local)
    (hp : (env.scope.kind == .class || (env.scope.kind == .module && env.locals != env.globals)) = false)
    (hJP : ∀ P vs e m nx, J P vs e m nx → (P, listOf vs.toArray e) ∈ nx)
    (h : wpAny (model prog w) A (eval iter env) (LitList g L s G J) NoE s)
    (turn : ∀ P vs e I (i : Nat) v oI m₁ nx h tk, G P vs e → vs[i]? = some v → J P vs e m₁ nx → (∀ p, oI ≠ tabObj p) → (∀ q ∈ nx, q.1 ≠ I) → Fr g L h (fun y => if y = x then some v else m₁ y) → News g L h ((I, oI) :: nx) →
      wpC (model prog w) A (execs body env) (TurnEnd g L s I oI (J P vs e)) { s with heap := h, toks := tk })
    (done : ∀ P vs e m₁ nx h tk, G P vs e → J P vs e m₁ nx → Fr g L h m₁ → News g L h nx → Q .next { s with heap := h, toks := tk })
    (hs : ∀ x, foldedSetIterable iter env x = pure x := by intro _; rfl) : wpC (model prog w) A (exec (.For (.Name x px) iter body [] pos) env) Q s := by
  refine c_For (wpAny_mono h (fun v s₁ h₁ => ?_) fun _ _ e => e) hs
  obtain ⟨P, vs, e, h1, tk1, m, news, rfl, rfl, F, N, hG, hJ⟩ := h₁
  have hPm := hJP P vs e m news hJ
  have hl : h1.IsList P vs.toArray := ⟨_, (N _ hPm).1, rfl, e, rfl⟩
  refine wpAny_pyIter_list hl ?_
  refine codeC_forList (oI := { cls := .type "list_iterator", data := .fields #[.ref P, .int 0 0] }) (I := h1.objs.size) (fun _ => J P vs e) hh hLe hy hp (fun _ => hJP P vs e) (fun i v oI m₁ nx h tk hv hJ => turn P vs e h1.objs.size i v oI m₁ nx h tk hG hv hJ) (fun m₁ nx h tk hJ => done P vs e m₁ nx h tk hG hJ) vs.length 0 m news _ _ (by omega) hJ ⟨_, Heap.get?_push_size _ rfl, rfl, rfl⟩ (F.push _) (fun q hq => ?_) fun q hq => Nat.ne_of_lt (Heap.lt_size (N q hq).1)
  rcases List.mem_cons.mp hq with rfl | hq
  · exact ⟨Heap.get?_push_size _ rfl, Nat.ne_of_gt F.ns.lt, next_is_new F⟩
  · exact ⟨Heap.get?_push_of_some _ (N q hq).1, (N q hq).2⟩
end
end Mine
end
section
open PySem PySem.W PyProof.Rows PySem.Calls
set_option Elab.async false
set_option maxRecDepth 100000
set_option maxHeartbeats 8000000
namespace Mine
theorem fill10 : hd.heap_39 = hd.heap_39 ∧ PySem.Challenge.rw_zr0002_01 = PySem.Challenge.rw_zr0002_01 := by
  k_fill
  exact ⟨rfl, rfl⟩
local macro_rules | `(tactic| k_mem) => `(tactic| assumption)
local macro_rules | `(tactic| is_list) => `(tactic| exact News.isList (by k_asm) (by k_mem))
/-- the test for no bytes gone by, or the turn left -/
def StG (g : Heap) (L : Addr) (s : Shared) (n : Nat) (names : List (Str × Value)) (own : List (Addr × Obj)) (offs : List Addr) (f : Flow) (s' : Shared) : Prop :=
  ((f = .next ∧ n ≠ 0) ∨ f = .cont) ∧ StC g L s names own offs s'
theorem bints_inj {b c : Array UInt8} (h : KBw.bInts b = KBw.bInts c) : b.toList = c.toList := by
  unfold KBw.bInts at h
  exact (List.map_inj_right (fun x y hxy => UInt8.toNat_inj.mp (Int.ofNat.inj hxy))).mp h
theorem StC.end6 {g : Heap} {L : Addr} {s s' : Shared} {names : List (Str × Value)} {own : List (Addr × Obj)} {I P : Addr} {oI oc : Obj} {va vb : Value} {e : Nat} {f : Flow} {p q : Array Value} {codes : List (Addr × Obj)} (h : StC g L s names own [I] s')
    (hf : f = .next ∨ f = .cont) (hn : (PySem.Str.ofString "pair", .ref P) ∈ names) (hs : ∀ r ∈ [(I, oI), (P, listOf #[va, vb] e), (L + 1, oc)], r ∈ own)
    (hne : ∀ r ∈ (P, listOf #[va, vb] e) :: (L + 1, oc) :: (30, tabObj p) :: (23, tabObj q) :: codes, r.1 ≠ I) : TurnEnd g L s I oI (J2 P va vb e L oc) f s' := by
  obtain ⟨h', tk', m', p', q', codes', rfl, F, hm, N, tb, off⟩ := h
  have h30 := hne _ (.tail _ (.tail _ (.head _)))
  have h23 := hne _ (.tail _ (.tail _ (.tail _ (.head _))))
  refine ⟨hf, h', tk', m', (P, listOf #[va, vb] e) :: (L + 1, oc) :: (30, tabObj p') :: (23, tabObj q') :: codes', rfl, ⟨hm _ hn, p', q', codes', rfl, tb⟩, F, fun r hr => ?_, fun r hr => ?_⟩
  · refine N r ?_
    cases hr with
    | head => exact List.mem_append_left _ (hs _ (.head _))
    | tail _ hr => cases hr with
      | head => exact List.mem_append_left _ (hs _ (.tail _ (.head _)))
      | tail _ hr => cases hr with
        | head => exact List.mem_append_left _ (hs _ (.tail _ (.tail _ (.head _))))
        | tail _ hr => exact List.mem_append_right _ hr
  · cases hr with
    | head => exact hne (P, _) (.head _)
    | tail _ hr => cases hr with
      | head => exact hne (L + 1, oc) (.tail _ (.head _))
      | tail _ hr => cases hr with
        | head => exact h30
        | tail _ hr => cases hr with
          | head => exact h23
          | tail _ hr => exact off I (.head _) r hr
theorem turn6 {prog : Program} {w : World} {g : Heap} {L fa : Addr} {cdv : Value} {fd : FuncData} {mg mb : Str → Option Value} {pr : Program} {loose : List Str} {mean : ExcName → Option Value} {oc oI : Obj} {P I : Addr} {va vb : Value} {e : Nat}
    {m₁ : Str → Option Value} {nx : List (Addr × Obj)} {h : Heap} {tk : Nat} {s : Shared} {x : Nat} {t : Tok}
    (hfd : LawIs w fd) (B : Below callerA g [] g) (X : (hd.heap_39 w.params).In g) (T : Top pr loose mean mg mb g) (C30 : CodeHd g 34 30) (C23 : CodeHd g 27 23) (hoc : ∀ p, oc ≠ tabObj p) (hx : x < 10 ^ 40)
    (hJ : J2 P va vb e L oc m₁ nx) (hoI : ∀ p, oI ≠ tabObj p) (hne : ∀ q ∈ nx, q.1 ≠ I) (F : Fr g L h (fun y => if y = PySem.Str.ofString "number" then some (.int (x : Int) t) else m₁ y)) (N : News g L h ((I, oI) :: nx)) :
    wpC (model prog w) (ktrTop 302 7 (some []) (PySem.Str.ofString "law") fd.scope L fa cdv [(PySem.Str.ofString "script", L + 1)] []) (execs (loopOf (stmtsOf fd) 5) (envX (PySem.Str.ofString "law") fd.scope L fa cdv [(PySem.Str.ofString "script", L + 1)]))
      (TurnEnd g L s I oI (J2 P va vb e L oc)) { s with heap := h, toks := tk } := by
  have hfd0 := hfd
  obtain ⟨c1, c2, c3, hfd⟩ := hfd
  obtain ⟨sc, hsc⟩ : ∃ sc, sc = fd.scope := ⟨_, rfl⟩
  obtain ⟨ss, hss⟩ : ∃ ss, ss = loopOf (stmtsOf fd) 5 := ⟨_, rfl⟩
  obtain ⟨s7, hs7⟩ : ∃ s7, s7 = loopOf (loopOf (stmtsOf fd) 5) 7 := ⟨_, rfl⟩
  have turnIn := @turn7 prog w g L fa cdv fd mg mb pr loose mean oc oI
  rw [← hsc, ← hs7] at turnIn
  rw [← hsc, ← hss]
  have key := Option.some.inj (hfd.symm.trans (rfl : (hd.heap_39 w.params).lookup 52 = some _))
  cases key
  clear hfd
  replace hss : ss = _ :: _ :: _ :: _ :: _ :: _ :: _ :: _ :: [] := hss
  subst hss
  replace hs7 : s7 = _ :: _ :: _ :: _ :: [] := hs7
  subst hs7
  replace hsc : sc = ⟨_, _, _, _, _⟩ := hsc
  subst hsc
  obtain ⟨hmP, p, q, codes, rfl, tb⟩ := hJ
  have h30 := hne _ (.tail _ (.tail _ (.head _)))
  have h23 := hne _ (.tail _ (.tail _ (.tail _ (.head _))))
  have hol := octs_le hx
  have hlc : (dig (2 ^ 8) (cnt 8 x) x).length = cnt 8 x := dig_length ..
  have hlo : (dig (2 ^ 8) (octs x) x).length = octs x := dig_length ..
  have hcx : cnt 8 x ≤ 200 := cnt_le (by omega) hx
  replace F := fr_see2 F (x1 := PySem.Str.ofString "number") (x2 := PySem.Str.ofString "pair") rfl hmP
  refine c_execs_cons (c_mono (Q := StW g L s (PySem.Str.ofString "octets") (dig (2 ^ 8) (cnt 8 x) x) [(PySem.Str.ofString "number", .int (x : Int) t), (PySem.Str.ofString "pair", .ref P)] [(I, oI), (P, listOf #[va, vb] e), (L + 1, oc)] [I]) ?_ ?_)
  · refine c_any ?_
    k_fold
    repeat' ((fail_if_success (with_reducible show wpAny _ _ (call (Value.ref _) _) _ _ _)); first | walk1 | (dsimp only; walk1))
    rename Fr g L _ _ => F1
    rename News g L _ _ => N1
    refine' w_i2d (nn := 8) B F1 X N1 T rfl C23 ?sp tb ?nt hx rfl (by decide) (by decide) (by decide) ?_
    case sp => repeat (first | exact Split.nil | apply Split.cons)
    case nt => repeat (first | exact NoTab.nil | apply NoTab.list | refine NoTab.cons ?_ (by assumption))
    clear F1 N1
    intro D2 ys2 e2 h2 tk2 q2 codes2 F2 N2 _ hi2 tb2 _ kc2 ne2
    simp only [List.cons_append, List.nil_append] at N2
    dsimp only
    repeat' (first | walk1 | (dsimp only; walk1))
    rename Fr g L _ _ => F3
    rename News g L _ _ => N3
    refine ⟨rfl, D2, ys2, e2, hi2, StC.intro F3 N3 ?_ (fun r hr => hr) tb2 ?_⟩
    · repeat (first | exact List.forall_mem_nil _ | refine List.forall_mem_cons.mpr ⟨rfl, ?_⟩)
    · refine List.forall_mem_cons.mpr ⟨kc2 I oI (.head _) fun r hr => hne r (.tail _ (.tail _ (.tail _ (.tail _ hr)))), List.forall_mem_nil _⟩
  · clear F N tb
    rintro f s' ⟨rfl, D2, ys2, e2, hi2, h1, tk1, m1, p, q, codes, rfl, F1, hn1, N1, tb, hoff⟩
    simp only [List.cons_append, List.nil_append] at N1
    dsimp only
    replace F1 := fr_names F1 hn1
    clear hn1
    refine c_execs_cons (c_mono (Q := StW g L s (PySem.Str.ofString "octets") (dig (2 ^ 8) (octs x) x) [(PySem.Str.ofString "number", .int (x : Int) t), (PySem.Str.ofString "pair", .ref P)] [(I, oI), (P, listOf #[va, vb] e), (L + 1, oc)] [I]) ?_ ?_)
    · refine c_any ?_
      k_fold
      repeat' ((fail_if_success (with_reducible show wpAny _ _ (binaryOp Operator.Mult _ _) _ _ _)); first | walk1 | (dsimp only; walk1))
      rename Fr g L _ _ => F2
      rename News g L _ _ => N2
      have hcnt : Int.fmod (4 - Int.fmod ((dig (2 ^ 8) (cnt 8 x) x).length : Int) 4) 4 = (((4 - cnt 8 x % 4) % 4 : Nat) : Int) := by
        rw [hlc, Int.fmod_eq_emod_of_nonneg _ (by decide), Int.fmod_eq_emod_of_nonneg _ (by decide)]
        omega
      rw [hcnt]
      have hL0 := News.isList N2 (.head _)
      k_dflt (refine' KM.mul (vs := [.int 0 tk1]) (ns := [0]) ?mya ?myb ?myc ?myd ?mye ?myf ?myg ?_; (case mya => exact F2); (case myb => exact N2); (case myc => exact hL0); (case myd => exact .cons _ _ .nil); (case mye => omega); (case myf => omega); (case myg => (simp only [List.length_cons, List.length_nil, Int.toNat_natCast]; omega)))
      clear F2 N2 hL0
      intro D h4 F4 N4 l4 i4 n4 _ _ _ _
      rw [Int.toNat_natCast] at N4 i4
      rw [show (List.replicate ((4 - cnt 8 x % 4) % 4) [(0 : Int)]).flatten = List.replicate ((4 - cnt 8 x % 4) % 4) 0 by simp] at i4
      generalize (List.replicate ((4 - cnt 8 x % 4) % 4) [Value.int 0 tk1]).flatten = vs0 at N4 i4
      repeat' ((fail_if_success (with_reducible show StW _ _ _ _ _ _ _ _ _ _)); first | walk1 | (dsimp only; walk1))
      rename Fr g L _ _ => F5
      rename News g L _ _ => N5
      rename IntsAre _ (_ ++ _) => hi5
      rw [octs_pad] at hi5
      rename Addr => D5
      refine ⟨rfl, D5, _, 0, hi5, StC.intro (p := p) (q := q) (codes := codes) F5 N5 ?_ ?_ tb hoff⟩
      · repeat (first | exact List.forall_mem_nil _ | refine List.forall_mem_cons.mpr ⟨rfl, ?_⟩)
      · intro r hr
        cases hr with
        | head => exact .head _
        | tail _ hr => exact .tail _ (.tail _ (.tail _ (.tail _ hr)))
    · clear F1 N1 tb hoff hlc hcx
      rintro f s' ⟨rfl, D3, ys3, e3, hi3, h1, tk1, m1, p, q, codes, rfl, F1, hn1, N1, tb, hoff⟩
      simp only [List.cons_append, List.nil_append] at N1
      dsimp only
      replace F1 := fr_names F1 hn1
      clear hn1
      have hin := @dig_all_in 8 (octs x) x
      refine c_execs_cons (c_mono (Q := StB g L s (PySem.Str.ofString "row") (dig (2 ^ 8) (octs x) x) [(PySem.Str.ofString "octets", .ref D3), (PySem.Str.ofString "number", .int (x : Int) t), (PySem.Str.ofString "pair", .ref P)] [(D3, listOf ys3.toArray e3), (I, oI), (P, listOf #[va, vb] e), (L + 1, oc)] [I]) ?_ ?_)
      · refine c_any ?_
        k_fold
        repeat' ((fail_if_success (with_reducible show StB _ _ _ _ _ _ _ _ _ _)); (fail_if_success (with_reducible show wpAny _ _ (call (Value.type "bytes") _) _ _ _)); first | walk1 | (dsimp only; walk1))
        rename Fr g L _ _ => F2
        rename News g L _ _ => N2
        refine KBa.make_K F2 N2 rfl (News.isList N2 (.head _)) hi3 (fun d hd => ⟨(hin d hd).1, by have := (hin d hd).2; omega⟩) (by rw [hlo]; omega) ?_
        clear F2 N2
        intro h4 t4 tk4 F4 N4 hIn
        have hbb := KBa.ints_make hIn
        generalize byteArr (dig (2 ^ 8) (octs x) x) = bb at hbb ⊢
        repeat' ((fail_if_success (with_reducible show StB _ _ _ _ _ _ _ _ _ _)); first | walk1 | (dsimp only; walk1))
        rename Fr g L _ _ => F5
        rename News g L _ _ => N5
        refine ⟨rfl, bb, t4, hbb, StC.intro (p := p) (q := q) (codes := codes) F5 N5 ?_ (fun r hr => hr) tb hoff⟩
        repeat (first | exact List.forall_mem_nil _ | refine List.forall_mem_cons.mpr ⟨rfl, ?_⟩)
      · clear F1 N1 tb hoff
        rintro f s' ⟨rfl, b, u, hb, h1, tk1, m1, p, q, codes, rfl, F1, hn1, N1, tb, hoff⟩
        simp only [List.cons_append, List.nil_append] at N1
        dsimp only
        have hn0 := hn1
        replace F1 := fr_names F1 hn1
        have hbs : b.size = octs x := by rw [← KBw.ints_length, hb, dig_length]
        refine c_execs_cons (c_mono (Q := StG g L s (octs x) [(PySem.Str.ofString "row", .bytes b u), (PySem.Str.ofString "octets", .ref D3), (PySem.Str.ofString "number", .int (x : Int) t), (PySem.Str.ofString "pair", .ref P)] [(D3, listOf ys3.toArray e3), (I, oI), (P, listOf #[va, vb] e), (L + 1, oc)] [I]) ?_ ?_)
        · refine c_any ?_
          k_fold
          repeat' ((fail_if_success (with_reducible show StG _ _ _ _ _ _ _ _ _)); first | walk1 | (dsimp only; walk1))
          · exact ⟨.inr rfl, StC.intro (p := p) (q := q) (codes := codes) F1 N1 (by repeat (first | exact List.forall_mem_nil _ | refine List.forall_mem_cons.mpr ⟨rfl, ?_⟩)) (fun r hr => hr) tb hoff⟩
          · rename (_ == _) = false => hnz
            refine ⟨.inl ⟨rfl, fun h0 => ?_⟩, StC.intro (p := p) (q := q) (codes := codes) F1 N1 (by repeat (first | exact List.forall_mem_nil _ | refine List.forall_mem_cons.mpr ⟨rfl, ?_⟩)) (fun r hr => hr) tb hoff⟩
            rw [Array.eq_empty_of_size_eq_zero (hbs.trans h0)] at hnz
            exact absurd hnz (by decide)
        · clear F1 N1 tb hoff hn1 hn0
          rintro f s' ⟨hf, hst⟩
          rcases hf with ⟨rfl, hpos⟩ | rfl
          case inr => exact hst.end6 (.inr rfl) (.tail _ (.tail _ (.tail _ (.head _)))) (fun r hr => .tail _ hr) hne
          obtain ⟨h1, tk1, m1, p, q, codes, rfl, F1, hn1, N1, tb, hoff⟩ := hst
          simp only [List.cons_append, List.nil_append] at N1
          dsimp only
          replace F1 := fr_names F1 hn1
          clear hn1
          have hrev : turn (octs x) (dig (2 ^ 8) (octs x) x) = (dig (2 ^ 8) (octs x) x).reverse := by
            have z := turn_all (ks := dig (2 ^ 8) (octs x) x) (fun q => by rw [q] at hlo; exact hpos hlo.symm)
            rw [hlo] at z
            exact z
          refine c_execs_cons (c_mono (Q := StB g L s (PySem.Str.ofString "turned") (dig (2 ^ 8) (octs x) x).reverse [(PySem.Str.ofString "row", .bytes b u), (PySem.Str.ofString "octets", .ref D3), (PySem.Str.ofString "number", .int (x : Int) t), (PySem.Str.ofString "pair", .ref P)] [(D3, listOf ys3.toArray e3), (I, oI), (P, listOf #[va, vb] e), (L + 1, oc)] [I]) ?_ ?_)
          · refine c_Assign_Name rfl (c_Call_Name ?_)
            walk1
            refine c_function1 ?_
            repeat' ((fail_if_success (with_reducible show And _ _)); first | walk1 | (dsimp only; walk1))
            rename Fr g L _ _ => F2
            rename News g L _ _ => N2
            rw [hlo]
            refine ⟨⟨_, _, (X.keeps F2.keep) 42 _ rfl, rfl⟩, ?_⟩
            refine byteswap B F2 X N2 T rfl (by omega) (by rw [hbs]; exact Nat.dvd_refl _) (by omega) (by omega) (by decide) (by decide) ?_
            clear F2 N2
            intro b2 u2 h2 tk2 F2 N2 hb2
            rw [hb, hrev] at hb2
            dsimp only
            repeat' ((fail_if_success (with_reducible show StB _ _ _ _ _ _ _ _ _ _)); first | walk1 | (dsimp only; walk1))
            rename Fr g L _ _ => F5
            rename News g L _ _ => N5
            refine ⟨rfl, b2, u2, hb2, StC.intro (p := p) (q := q) (codes := codes) F5 N5 ?_ (fun r hr => hr) tb hoff⟩
            repeat (first | exact List.forall_mem_nil _ | refine List.forall_mem_cons.mpr ⟨rfl, ?_⟩)
          · clear F1 N1 tb hoff
            rintro f s' ⟨rfl, b2, u2, hb2, h1, tk1, m1, p, q, codes, rfl, F1, hn1, N1, tb, hoff⟩
            simp only [List.cons_append, List.nil_append] at N1
            dsimp only
            have hbs2 : b2.size = octs x := by rw [← KBw.ints_length, hb2, List.length_reverse, dig_length]
            have hback : turn (octs x) (dig (2 ^ 8) (octs x) x).reverse = dig (2 ^ 8) (octs x) x := by
              have hl : (dig (2 ^ 8) (octs x) x).reverse.length = octs x := by rw [List.length_reverse, dig_length]
              have z := turn_all (ks := (dig (2 ^ 8) (octs x) x).reverse) (fun q => by rw [q] at hl; exact hpos hl.symm)
              rw [hl, List.reverse_reverse] at z
              exact z
            replace F1 := fr_names F1 hn1
            clear hn1
            refine c_execs_cons (c_mono (Q := StE g L s [(PySem.Str.ofString "turned", .bytes b2 u2), (PySem.Str.ofString "row", .bytes b u), (PySem.Str.ofString "octets", .ref D3), (PySem.Str.ofString "number", .int (x : Int) t), (PySem.Str.ofString "pair", .ref P)] [(D3, listOf ys3.toArray e3), (I, oI), (P, listOf #[va, vb] e), (L + 1, oc)] [I]) ?_ ?_)
            · refine c_If (c_mono (Q := StF g L s [(PySem.Str.ofString "turned", .bytes b2 u2), (PySem.Str.ofString "row", .bytes b u), (PySem.Str.ofString "octets", .ref D3), (PySem.Str.ofString "number", .int (x : Int) t), (PySem.Str.ofString "pair", .ref P)] [(D3, listOf ys3.toArray e3), (I, oI), (P, listOf #[va, vb] e), (L + 1, oc)] [I]) (c_Or (c_mono (Q := StF g L s [(PySem.Str.ofString "turned", .bytes b2 u2), (PySem.Str.ofString "row", .bytes b u), (PySem.Str.ofString "octets", .ref D3), (PySem.Str.ofString "number", .int (x : Int) t), (PySem.Str.ofString "pair", .ref P)] [(D3, listOf ys3.toArray e3), (I, oI), (P, listOf #[va, vb] e), (L + 1, oc)] [I]) ?_ ?_)) ?_)
              · refine c_any ?_
                k_fold
                repeat' ((fail_if_success (with_reducible show StF _ _ _ _ _ _ _ _)); (fail_if_success (with_reducible show wpAny _ _ (eval (Expr.ListComp _ _ _ _) _) _ _ _)); first | walk1 | (dsimp only; walk1))
                k_dflt (refine' comp_bytes (cl := []) F1 ?u1 ?u2 ?u3 ?u4 ?u5 (elt_name rfl (fun C => rfl) (by decide)) ?_; (case u1 => rfl); (case u2 => decide); (case u3 => rfl); (case u4 => decide); (case u5 => rfl))
                repeat' ((fail_if_success (with_reducible show BytesSrc _ _ _ _ _ _ _ _)); first | walk1 | (dsimp only; walk1))
                k_dflt (refine' BytesSrc.intro hb2 ?u6 rfl F1 N1 ?_; (case u6 => (rw [sizeLine_eq, List.length_reverse, dig_length]; omega)))
                intro D4 ys4 e4 h4 tk4 hi4 F4 N4 _
                rw [List.map_id'] at hi4
                dsimp only
                repeat' ((fail_if_success (with_reducible show StF _ _ _ _ _ _ _ _)); (fail_if_success (with_reducible show wpAny _ _ (subscriptTail _ _ _ _) _ _ _)); first | walk1 | (dsimp only; walk1))
                rename Fr g L _ _ => F5
                rename News g L _ _ => N5
                have hz3 : ys3.toArray.size ≤ sizeLine := by rw [List.size_toArray, hi3.length, sizeLine_eq]; omega
                k_dflt (refine' krv_ints (vs := ys3) F5 N5 ?mya ?myb hi3 ?_ ?myc ?myd hz3; (case mya => exact News.isList N5 (.tail _ (.head _))); (case myb => exact IsPart.int _ _); (case myc => with_unfolding_all rfl); (case myd => (intro _; with_unfolding_all rfl)))
                clear F5 N5
                intro D5 ws5 h5 F5 N5 l5 hi5 _
                repeat' ((fail_if_success (with_reducible show StF _ _ _ _ _ _ _ _)); (fail_if_success (with_reducible show wpAny _ _ (subscriptTail _ _ _ _) _ _ _)); first | (exact absurd rfl (by assumption)) | walk1 | (dsimp only; walk1))
                refine ⟨rfl, StC.intro (p := p) (q := q) (codes := codes) F5 N5 ?_ (fun r hr => .tail _ (.tail _ hr)) tb hoff⟩
                repeat (first | exact List.forall_mem_nil _ | refine List.forall_mem_cons.mpr ⟨rfl, ?_⟩)
              · clear F1 N1 tb hoff
                rintro c s' ⟨rfl, h1, tk1, m1, p, q, codes, rfl, F1, hn1, N1, tb, hoff⟩
                rw [if_neg Bool.false_ne_true]
                simp only [List.cons_append, List.nil_append] at N1
                replace F1 := fr_names F1 hn1
                clear hn1
                refine c_isTrue_Compare1 rfl (c_Call_Name ?_)
                walk1
                refine c_function1 ?_
                repeat' ((fail_if_success (with_reducible show And _ _)); first | walk1 | (dsimp only; walk1))
                rename Fr g L _ _ => F2
                rename News g L _ _ => N2
                rw [hlo]
                refine ⟨⟨_, _, (X.keeps F2.keep) 42 _ rfl, rfl⟩, ?_⟩
                refine byteswap B F2 X N2 T rfl (by omega) (by rw [hbs2]; exact Nat.dvd_refl _) (by omega) (by omega) (by decide) (by decide) ?_
                clear F2 N2
                intro b3 u3 h2 tk2 F2 N2 hb3
                rw [hb2, hback] at hb3
                dsimp only
                repeat' ((fail_if_success (with_reducible show StF _ _ _ _ _ _ _ _)); first | (exact absurd rfl (by assumption)) | walk1 | (dsimp only; walk1))
                rw [bints_inj (hb3.trans hb.symm)]
                refine ⟨by simp, StC.intro (p := p) (q := q) (codes := codes) F2 N2 ?_ (fun r hr => hr) tb hoff⟩
                repeat (first | exact List.forall_mem_nil _ | refine List.forall_mem_cons.mpr ⟨rfl, ?_⟩)
              · rintro c s' ⟨rfl, hst⟩
                exact c_execs_nil ⟨rfl, hst⟩
            · clear F1 N1 tb hoff
              rintro f s' ⟨rfl, h1, tk1, m1, p, q, codes, rfl, F1, hn1, N1, tb, hoff⟩
              simp only [List.cons_append, List.nil_append] at N1
              dsimp only
              replace F1 := fr_names F1 hn1
              clear hn1
              refine c_execs_cons (c_mono (Q := StE g L s [(PySem.Str.ofString "row", .bytes b u), (PySem.Str.ofString "number", .int (x : Int) t), (PySem.Str.ofString "pair", .ref P)] [(I, oI), (P, listOf #[va, vb] e), (L + 1, oc)] [I]) ?_ ?_)
              · refine c_any ?_
                k_fold
                repeat' ((fail_if_success (with_reducible show wpAny _ _ (call (Value.ref _) _) _ _ _)); first | walk1 | (dsimp only; walk1))
                rename Fr g L _ _ => F2
                rename News g L _ _ => N2
                refine' w_d2i (nn := 8) B F2 X N2 T rfl C30 ?sp2 tb ?nt2 ?hl2 hi3 hin rfl (by decide) (by rw [hlo]; omega) (by decide) (by decide) ?_
                case sp2 => repeat (first | exact Split.nil | apply Split.cons)
                case nt2 => repeat (first | exact NoTab.nil | apply NoTab.list | refine NoTab.cons ?_ (by assumption))
                case hl2 => exact .head _
                clear F2 N2
                intro t7 h7 tk7 p7 codes7 F7 N7 _ tb7 kc7
                simp only [List.cons_append, List.nil_append] at N7
                have ho7 := kc7 I oI (.tail _ (.head _)) (hoff _ (.head _))
                rw [octs_val]
                dsimp only
                repeat' ((fail_if_success (with_reducible show StE _ _ _ _ _ _ _ _)); (fail_if_success (with_reducible show wpAny _ _ (eval (Expr.ListComp _ _ _ _) _) _ _ _)); first | (exact absurd rfl (by assumption)) | walk1 | (dsimp only; walk1))
                rename Fr g L _ _ => F8
                rename News g L _ _ => N8
                k_dflt (refine' comp_bytes (cl := []) F8 ?u1 ?u2 ?u3 ?u4 ?u5 (elt_name rfl (fun C => rfl) (by decide)) ?_; (case u1 => rfl); (case u2 => decide); (case u3 => rfl); (case u4 => decide); (case u5 => rfl))
                repeat' ((fail_if_success (with_reducible show BytesSrc _ _ _ _ _ _ _ _)); first | walk1 | (dsimp only; walk1))
                k_dflt (refine' BytesSrc.intro hb2 ?u6 rfl F8 N8 ?_; (case u6 => (rw [sizeLine_eq, List.length_reverse, dig_length]; omega)))
                clear F8 N8
                intro D4 ys4 e4 h4 tk4 hi4 F4 N4 _
                rw [List.map_id'] at hi4
                dsimp only
                repeat' ((fail_if_success (with_reducible show wpAny _ _ (call (Value.ref _) _) _ _ _)); first | walk1 | (dsimp only; walk1))
                rename Fr g L _ _ => F5
                rename News g L _ _ => N5
                refine' w_d2i (nn := 8) B F5 X N5 T rfl C30 ?sp3 tb7 ?nt3 ?hl3 hi4 (fun d hd => hin d (List.mem_reverse.mp hd)) rfl (by decide) (by rw [List.length_reverse, hlo]; omega) (by decide) (by decide) ?_
                case sp3 => repeat (first | exact Split.nil | apply Split.cons)
                case nt3 => repeat (first | exact NoTab.nil | apply NoTab.list | refine NoTab.cons ?_ (by assumption))
                case hl3 => exact .head _
                clear F5 N5
                intro t9 h9 tk9 p9 codes9 F9 N9 _ tb9 kc9
                simp only [List.cons_append, List.nil_append] at N9
                have ho9 := kc9 I oI (.tail _ (.tail _ (.head _))) ho7
                have hlaw := octs_rev x
                generalize val (2 ^ 8) (dig (2 ^ 8) (octs x) x).reverse = z at hlaw ⊢
                dsimp only
                repeat' ((fail_if_success (with_reducible show StE _ _ _ _ _ _ _ _)); first | (exact absurd hlaw (by assumption)) | walk1 | (dsimp only; walk1))
                rename Fr g L _ _ => Fa
                rename News g L _ _ => Na
                refine ⟨rfl, StC.intro (p := p9) (q := q) (codes := codes9) Fa Na ?_ (fun r hr => .tail _ (.tail _ hr)) tb9 ?_⟩
                · repeat (first | exact List.forall_mem_nil _ | refine List.forall_mem_cons.mpr ⟨rfl, ?_⟩)
                · exact List.forall_mem_cons.mpr ⟨ho9, List.forall_mem_nil _⟩
              · clear F1 N1 tb hoff
                rintro f s' ⟨rfl, h1, tk1, m1, p, q, codes, rfl, F1, hn1, N1, tb, hoff⟩
                simp only [List.cons_append, List.nil_append] at N1
                dsimp only
                replace F1 := fr_names F1 hn1
                clear hn1
                refine c_execs_cons (c_mono (Q := StE g L s [(PySem.Str.ofString "row", .bytes b u), (PySem.Str.ofString "number", .int (x : Int) t), (PySem.Str.ofString "pair", .ref P)] [(I, oI), (P, listOf #[va, vb] e), (L + 1, oc)] [I]) ?_ ?_)
                · refine c_forLit (g := g) (fun _ vs _ => ∃ ta tb, vs = [.int 2 ta, .int 4 tb]) (fun Pw vs ew => J7 [(PySem.Str.ofString "row", .bytes b u), (PySem.Str.ofString "number", .int (x : Int) t), (PySem.Str.ofString "pair", .ref P)] [(Pw, listOf vs.toArray ew), (I, oI), (P, listOf #[va, vb] e), (L + 1, oc)] I) rfl rfl rfl rfl ?_ ?_ ?_ ?_
                  · rintro Pw vs ew m2 nx ⟨_, p2, q2, codes2, rfl, _⟩
                    exact .head _
                  · k_fold
                    repeat' ((fail_if_success (with_reducible show LitList _ _ _ _ _ _ _)); first | walk1 | (dsimp only; walk1))
                    rename Fr g L _ _ => F2
                    rename News g L _ _ => N2
                    rename Addr => Pw
                    refine ⟨Pw, [.int 2 tk1, .int 4 (tk1 + 1)], 0, _, _, _, _, rfl, rfl, F2, N2, ⟨_, _, rfl⟩, ?_, p, q, codes, rfl, tb, hoff I (.head _)⟩
                    repeat (first | exact List.forall_mem_nil _ | refine List.forall_mem_cons.mpr ⟨rfl, ?_⟩)
                  · rintro Pw vs ew I2 i v oI2 m2 nx h2 tk2 ⟨ta, tb2, rfl⟩ hv hJ hoI2 hne2 F N
                    match i, hv with
                    | 0, hv =>
                      cases Option.some.inj hv
                      exact turnIn hfd0 B X T C30 C23 hoc hx (.inl rfl) hb hJ hoI hoI2 hne2 F N
                    | 1, hv =>
                      cases Option.some.inj hv
                      exact turnIn hfd0 B X T C30 C23 hoc hx (.inr rfl) hb hJ hoI hoI2 hne2 F N
                  · rintro Pw vs ew m2 nx h2 tk2 _ ⟨hn2, p2, q2, codes2, rfl, tb2, ho2⟩ F N
                    exact ⟨rfl, StC.intro F N hn2 (fun r hr => .tail _ hr) tb2 (List.forall_mem_cons.mpr ⟨ho2, List.forall_mem_nil _⟩)⟩
                · rintro f s' ⟨rfl, hst⟩
                  exact c_execs_nil (hst.end6 (.inl rfl) (.tail _ (.tail _ (.head _))) (fun r hr => hr) hne)
end Mine
end
section
open PySem PySem.W PyProof.Rows PySem.Calls
set_option Elab.async false
set_option maxRecDepth 100000
set_option maxHeartbeats 8000000
namespace Mine
theorem fill8 : hd.heap_39 = hd.heap_39 ∧ PySem.Challenge.rw_zr0002_01 = PySem.Challenge.rw_zr0002_01 := by
  k_fill
  exact ⟨rfl, rfl⟩
local macro_rules | `(tactic| k_mem) => `(tactic| assumption)
local macro_rules | `(tactic| is_list) => `(tactic| exact News.isList (by k_asm) (by k_mem))
local macro_rules | `(tactic| walk_at "BytesSrc") => `(tactic| (k_dflt (refine' BytesSrc.intro ?k ?z ?hh ?F ?N ?_; (case k => kba_ints); (case z => (rw [sizeLine_eq]; kba_size)); (case hh => rfl); (case F => k_asm); (case N => k_asm); k_whole; intro D' ys' n' h' tk' hI' F' N' o1'; (try simp only [LCg.Off1, and_true] at o1'); (try dsimp only))))
/-- behind the first loop: the two numbers by name -/
def St3 (g : Heap) (L : Addr) (s : Shared) (x0 x1 : Nat) (t0 t1 : Tok) (P : Addr) (own : List (Addr × Obj)) (f : Flow) (s' : Shared) : Prop :=
  f = .next ∧ ∃ h' tk' m' p' q' codes', s' = { s with heap := h', toks := tk' } ∧ Fr g L h' m' ∧ m' (PySem.Str.ofString "one") = some (.int (x0 : Int) t0) ∧ m' (PySem.Str.ofString "other") = some (.int (x1 : Int) t1) ∧ m' (PySem.Str.ofString "pair") = some (.ref P) ∧
    News g L h' (own ++ (30, tabObj p') :: (23, tabObj q') :: codes') ∧ Tab p' q' codes'
/-- the letters of both numbers laid together -/
def St4 (g : Heap) (L : Addr) (s : Shared) (x0 x1 : Nat) (t0 t1 : Tok) (P : Addr) (own : List (Addr × Obj)) (ls : List Int) (f : Flow) (s' : Shared) : Prop :=
  f = .next ∧ ∃ h' tk' m' p' q' codes' D ys e', s' = { s with heap := h', toks := tk' } ∧ Fr g L h' m' ∧ m' (PySem.Str.ofString "one") = some (.int (x0 : Int) t0) ∧ m' (PySem.Str.ofString "other") = some (.int (x1 : Int) t1) ∧ m' (PySem.Str.ofString "pair") = some (.ref P) ∧ m' (PySem.Str.ofString "letters") = some (.ref D) ∧
    News g L h' ((D, listOf ys.toArray e') :: (own ++ (30, tabObj p') :: (23, tabObj q') :: codes')) ∧ Tab p' q' codes' ∧ IntsAre ys ls
theorem law_tail {prog : Program} {w : World} {g : Heap} {L fa : Addr} {cdv : Value} {fd : FuncData} {mg mb : Str → Option Value} {pr : Program} {loose : List Str} {mean : ExcName → Option Value} {oc : Obj} {P : Addr} {e : Nat}
    {m₁ : Str → Option Value} {nx : List (Addr × Obj)} {h : Heap} {tk : Nat} {s : Shared} {x0 x1 : Nat} {t0 t1 : Tok}
    (hfd : LawIs w fd) (B : Below callerA g [] g) (X : (hd.heap_39 w.params).In g) (T : Top pr loose mean mg mb g) (C30 : CodeHd g 34 30) (C23 : CodeHd g 27 23) (hoc : ∀ p, oc ≠ tabObj p) (hx0 : x0 < 10 ^ 40) (hx1 : x1 < 10 ^ 40)
    (hJ : J2 P (.int (x0 : Int) t0) (.int (x1 : Int) t1) e L oc m₁ nx) (F : Fr g L h m₁) (N : News g L h nx) :
    wpC (model prog w) (ktrTop 302 7 (some []) (PySem.Str.ofString "law") fd.scope L fa cdv [(PySem.Str.ofString "script", L + 1)] []) (execs ((stmtsOf fd).drop 2) (envX (PySem.Str.ofString "law") fd.scope L fa cdv [(PySem.Str.ofString "script", L + 1)]))
      (LawEnd g L s) { s with heap := h, toks := tk } := by
  have hfd0 := hfd
  obtain ⟨c1, c2, c3, hfd⟩ := hfd
  obtain ⟨sc, hsc⟩ : ∃ sc, sc = fd.scope := ⟨_, rfl⟩
  obtain ⟨ss, hss⟩ : ∃ ss, ss = (stmtsOf fd).drop 2 := ⟨_, rfl⟩
  obtain ⟨s5, hs5⟩ : ∃ s5, s5 = loopOf (stmtsOf fd) 5 := ⟨_, rfl⟩
  have turnIn := @turn6 prog w g L fa cdv fd mg mb pr loose mean oc
  rw [← hsc, ← hs5] at turnIn
  rw [← hsc, ← hss]
  have key := Option.some.inj (hfd.symm.trans (rfl : (hd.heap_39 w.params).lookup 52 = some _))
  cases key
  clear hfd
  replace hss : ss = _ :: _ :: _ :: _ :: _ :: [] := hss
  subst hss
  replace hs5 : s5 = _ :: _ :: _ :: _ :: _ :: _ :: _ :: _ :: [] := hs5
  subst hs5
  replace hsc : sc = ⟨_, _, _, _, _⟩ := hsc
  subst hsc
  obtain ⟨hmP, p, q, codes, rfl, tb⟩ := hJ
  have F1 := fr_see F hmP
  clear F
  refine c_execs_cons (c_mono (Q := St3 g L s x0 x1 t0 t1 P [(P, listOf #[.int (x0 : Int) t0, .int (x1 : Int) t1] e), (L + 1, oc)]) ?_ ?_)
  · refine c_any ?_
    k_fold
    repeat' ((fail_if_success (with_reducible show St3 _ _ _ _ _ _ _ _ _ _ _)); first | walk1 | (dsimp only; walk1))
    rename Fr g L _ _ => F2
    rename News g L _ _ => N2
    exact ⟨rfl, _, _, _, p, q, codes, rfl, F2, rfl, rfl, rfl, N2, tb⟩
  · clear F1 N tb
    rintro f s' ⟨rfl, h1, tk1, m1, p, q, codes, rfl, F1, g1, g2, g3, N1, tb⟩
    simp only [List.cons_append, List.nil_append] at N1
    dsimp only
    replace F1 := fr_see3 F1 g1 g2 g3
    clear g1 g2 g3
    refine c_execs_cons (c_mono (Q := St4 g L s x0 x1 t0 t1 P [(P, listOf #[.int (x0 : Int) t0, .int (x1 : Int) t1] e), (L + 1, oc)] (both x0 x1)) ?_ ?_)
    · refine c_any ?_
      k_fold
      repeat' ((fail_if_success (with_reducible show St4 _ _ _ _ _ _ _ _ _ _ _ _)); (fail_if_success (with_reducible show wpAny _ _ (call (Value.ref _) _) _ _ _)); (fail_if_success (with_reducible show wpAny _ _ (eval (Expr.ListComp _ _ _ _) _) _ _ _)); first | walk1 | (dsimp only; walk1))
      k_dflt (refine' comp_bytes (cl := []) F1 ?u1 ?u2 ?u3 ?u4 ?u5 (elt_sub rfl (fun C => rfl) (by decide)) ?_; (case u1 => rfl); (case u2 => decide); (case u3 => rfl); (case u4 => decide); (case u5 => rfl))
      repeat' ((fail_if_success (with_reducible show wpAny _ _ (call (Value.ref _) _) _ _ _)); first | walk1 | (dsimp only; walk1))
      rename Fr g L _ _ => F2
      rename News g L _ _ => N2
      refine int2ap B F2 X N2 T rfl hx0 (by decide) (by decide) ?_
      clear F2 N2
      intro b2 u2 h2 tk2 F2 N2 hb2 hz2
      dsimp only
      k_dflt (refine' BytesSrc.intro hb2 ?u6 rfl F2 N2 ?_; (case u6 => (rw [sizeLine_eq]; omega)))
      clear F2 N2
      intro D1 ys1 e1 h3 tk3 hi1 F3 N3 o1
      dsimp only
      k_dflt (refine' comp_bytes (cl := []) F3 ?u7 ?u8 ?u9 ?ua ?ub (elt_sub rfl (fun C => rfl) (by decide)) ?_; (case u7 => rfl); (case u8 => decide); (case u9 => rfl); (case ua => decide); (case ub => rfl))
      repeat' ((fail_if_success (with_reducible show wpAny _ _ (call (Value.ref _) _) _ _ _)); first | walk1 | (dsimp only; walk1))
      rename Fr g L _ _ => F4
      rename News g L _ _ => N4
      refine int2ap B F4 X N4 T rfl hx1 (by decide) (by decide) ?_
      clear F4 N4
      intro b4 u4 h4 tk4 F4 N4 hb4 hz4
      have hA : KBw.bInts #[65, 65, 65, 65, 65] = [65, 65, 65, 65, 65] := rfl
      dsimp only
      repeat' ((fail_if_success (with_reducible show BytesSrc _ _ _ _ _ _ _ _)); (fail_if_success (with_reducible show wpAny _ _ (call (Value.ref _) _) _ _ _)); first | walk1 | (dsimp only; walk1))
      k_dflt (refine' BytesSrc.intro (by assumption) ?uc rfl F4 N4 ?_; (case uc => (rw [sizeLine_eq, List.length_append]; simp only [List.length_cons, List.length_nil]; omega)))
      clear F4 N4
      intro D5 ys5 e5 h5 tk5 hi5 F5 N5 o5
      dsimp only
      repeat' ((fail_if_success (with_reducible show St4 _ _ _ _ _ _ _ _ _ _ _ _)); first | walk1 | (dsimp only; walk1))
      rename Fr g L _ _ => F6
      rename News g L _ _ => N6
      refine ⟨rfl, _, _, _, p, q, codes, _, _, 0, rfl, F6, rfl, rfl, rfl, rfl, fun r hr => ?_, tb, by assumption⟩
      cases hr with
      | head => exact N6 _ (.head _)
      | tail _ hr => exact N6 r (.tail _ (.tail _ (.tail _ hr)))
    · clear F1 N1 tb
      rintro f s' ⟨rfl, h1, tk1, m1, p, q, codes, D1, ys1, e1, rfl, F1, g1, g2, g3, g4, N1, tb, hi1⟩
      simp only [List.cons_append, List.nil_append] at N1
      dsimp only
      replace F1 := fr_see4 F1 g1 g2 g3 g4
      clear g1 g2 g3 g4
      have hb0 := lets_small hx0
      have hb1 := lets_small hx1
      have hbl := both_len hb0 hb1
      have hz1 : ys1.toArray.size ≤ sizeLine := by rw [List.size_toArray, hi1.length, sizeLine_eq]; omega
      refine c_execs_cons (c_mono (Q := St3 g L s x0 x1 t0 t1 P [(P, listOf #[.int (x0 : Int) t0, .int (x1 : Int) t1] e), (L + 1, oc)]) ?_ ?_)
      · refine c_any ?_
        k_fold
        repeat' ((fail_if_success (with_reducible show St3 _ _ _ _ _ _ _ _ _ _ _)); (fail_if_success (with_reducible show wpAny _ _ (call (Value.ref _) _) _ _ _)); (fail_if_success (with_reducible show wpAny _ _ (subscriptTail _ _ _ _) _ _ _)); first | walk1 | (dsimp only; walk1))
        rename Fr g L _ _ => F4
        rename News g L _ _ => N4
        k_dflt (refine' krv_ints (vs := ys1) F4 N4 ?v1 ?v2 hi1 ?_ ?v3 ?v4 hz1; (case v1 => exact News.isList N4 List.mem_cons_self); (case v2 => exact IsPart.int _ _); (case v3 => with_unfolding_all rfl); (case v4 => (intro _; with_unfolding_all rfl)))
        clear F4 N4
        intro D3 ws3 h3 F4 N4 l3 hi3 _
        repeat' ((fail_if_success (with_reducible show wpAny _ _ (call (Value.ref _) _) _ _ _)); first | walk1 | (dsimp only; walk1))
        rename Fr g L _ _ => F5
        rename News g L _ _ => N5
        refine' w_d2i (nn := 4) B F5 X N5 T rfl C30 ?sp2 tb ?nt2 ?hl2 hi3 (both_in x0 x1) rfl (by decide) (by rw [List.length_reverse]; omega) (by decide) (by decide) ?_
        case sp2 => repeat (first | exact Split.nil | apply Split.cons)
        case nt2 => repeat (first | exact NoTab.nil | apply NoTab.list | refine NoTab.cons ?_ (by assumption))
        case hl2 => exact .head _
        clear F5 N5
        intro t5 h5 tk5 p5 codes5 F5 N5 _ tb5 kc5
        simp only [List.cons_append, List.nil_append] at N5
        rw [both_val]
        dsimp only
        repeat' ((fail_if_success (with_reducible show wpAny _ _ (call (Value.ref _) _) _ _ _)); first | walk1 | (dsimp only; walk1))
        rename Fr g L _ _ => F6
        rename News g L _ _ => N6
        refine int2ap B F6 X N6 T rfl hx1 (by decide) (by decide) ?_
        clear F6 N6
        intro b6 u6 h6 tk6 F6 N6 hb6 hz6
        dsimp only
        repeat' ((fail_if_success (with_reducible show St3 _ _ _ _ _ _ _ _ _ _ _)); (fail_if_success (with_reducible show wpAny _ _ (binaryOp Operator.Mult _ _) _ _ _)); first | walk1 | (dsimp only; walk1))
        rw [show ((5 : Int) + ((lets x1).length : Int)).toNat = 5 + (lets x1).length by omega]
        refine mul_int ?_ (mulOk hx0 hb1)
        repeat' ((fail_if_success (with_reducible show St3 _ _ _ _ _ _ _ _ _ _ _)); first | (exact absurd rfl (by assumption)) | walk1 | (dsimp only; walk1))
        rename Fr g L _ _ => F7
        rename News g L _ _ => N7
        exact ⟨rfl, _, _, _, p5, q, codes5, rfl, F7, rfl, rfl, rfl, fun r hr => N7 r (.tail _ (.tail _ hr)), tb5⟩
      · clear F1 N1 tb
        rintro f s' ⟨rfl, h1, tk1, m1, p, q, codes, rfl, F1, g1, g2, g3, N1, tb⟩
        simp only [List.cons_append, List.nil_append] at N1
        dsimp only
        replace F1 := fr_see3 F1 g1 g2 g3
        refine c_execs_cons (c_mono (Q := fun f s' => f = .next ∧ ∃ h' tk m' nx, s' = { s with heap := h', toks := tk } ∧ Fr g L h' m' ∧ News g L h' nx ∧ J2 P (.int (x0 : Int) t0) (.int (x1 : Int) t1) e L oc m' nx) ?_ ?_)
        · refine c_forList (g := g) (P := P) (vs := [.int (x0 : Int) t0, .int (x1 : Int) t1]) (e := e) (m := fun y => if y = PySem.Str.ofString "one" then some (.int (x0 : Int) t0) else if y = PySem.Str.ofString "other" then some (.int (x1 : Int) t1) else if y = PySem.Str.ofString "pair" then some (.ref P) else m1 y) (news := (P, listOf #[.int (x0 : Int) t0, .int (x1 : Int) t1] e) :: (L + 1, oc) :: (30, tabObj p) :: (23, tabObj q) :: codes) (fun _ => J2 P (.int (x0 : Int) t0) (.int (x1 : Int) t1) e L oc) rfl rfl rfl rfl ?_ ?_ ?_ ?_
          · rintro _ m nx ⟨_, p, q, codes, rfl, _⟩
            exact List.mem_cons_self
          · k_fold
            repeat' ((fail_if_success (with_reducible show And _ _)); first | walk1 | (dsimp only; walk1))
            exact ⟨rfl, _, _, rfl, F1, N1, rfl, p, q, codes, rfl, tb⟩
          · intro I i v oI m₁ nx h tk hv hJ hoI hne F N
            match i, hv with
            | 0, hv =>
              cases Option.some.inj hv
              exact turnIn hfd0 B X T C30 C23 hoc hx0 hJ hoI hne F N
            | 1, hv =>
              cases Option.some.inj hv
              exact turnIn hfd0 B X T C30 C23 hoc hx1 hJ hoI hne F N
          · exact fun m₁ nx h tk hJ F N => ⟨rfl, h, tk, m₁, nx, rfl, F, N, hJ⟩
        · clear F1 N1 tb
          rintro f s' ⟨rfl, h1, tk1, m1, nx, rfl, F1, N1, hmP, p, q, codes, rfl, tb⟩
          dsimp only
          refine c_any ?_
          k_fold
          repeat' ((fail_if_success (with_reducible show LawEnd _ _ _ _ _)); first | walk1 | (dsimp only; walk1))
          exact ⟨rfl, h1, tk1, m1, _, [(P, listOf #[.int (x0 : Int) t0, .int (x1 : Int) t1] e), (L + 1, oc)], p, q, codes, rfl, F1, N1, by repeat (first | exact Split.nil | apply Split.cons)⟩
end Mine
end
section
open PySem PySem.W PyProof.Rows PySem.Calls
set_option Elab.async false
set_option maxRecDepth 100000
set_option maxHeartbeats 8000000
namespace Mine
theorem whole : PySem.Challenge.rw_zr0002_01.Holds := by
  refine hd ?_
  k_fill
  intro w s₀ s₁ mg mb G Y fa o pm cd doc dV kV ho hd hcd hD hmg hg args vals as hpre hlay hrd hwl hlo
  have KX := km_in_of Y
  km_tabs Y
  have X := (Ground.X G).1
  have V := (Ground.X G).2
  refine Ground.open G ?_
  intro T B D TE TW
  try (refine guard_noD D (by decide +kernel) ?_; clear D)
  km_lay T hmg ho hd cd
  clear hmg
  wrow_args hpre hlay hrd hwl hlo
  refine ⟨GoodW.toG (good_true (fun _ => rfl) ?_ (fun b o e => e) rfl hg), ?_⟩
  · exact postW_of (by wrow_shape) (by wtm_val) (by str_meet; first | done | w_fin)
  refine codeC_mono (R := fun f s' => LawEnd (ghostOf s₁.heap [(34, 30), (27, 23)]) s₁.heap.objs.size s₁ f s') ?_ (fun f s' g => post_kn (m := model PySem.Challenge.rw_zr0002_01.row.prog w) hT9 (fun _ _ => rfl) ?_)
  · rename_i ns h1 h2 h3 h4 h5 a1 a2 l vs a3 hL h6 h7 h8 hI h9 hlen h10
    clear h1 h2 h3 h4 h5 h6 h7 h8 h9 h10
    have he := Dflts.none hD rfl
    subst he
    have he := Dflts.noKw hD
    subst he
    refine codeC_cells (by decide) ho (fd_plain hd) (Top.nolimit T) hcd rfl (kinds_of (by kinds_ok)) (by decide) fun h₁ tk₁ cells F N0 X0 => ?_
    obtain ⟨oc, he, dC⟩ := CellsAre.one X0
    subst he
    replace dC : oc.data = .cell (some (.ref l)) := dC
    kn_ghosts F T
    k_drop
    clear X0
    clear hT8 hcd hD V B TE TW G ho hd

    have hfd : LawIs w _ := ⟨_, _, _, (rfl : (hd.heap_39 w.params).lookup 52 = some _)⟩
    have C30 : CodeHd (ghostOf s₁.heap [(34, 30), (27, 23)]) 34 30 := by assumption
    have C23 : CodeHd (ghostOf s₁.heap [(34, 30), (27, 23)]) 27 23 := by assumption
    clear hT9 X T
    rename Below _ _ _ _ => B
    rename Frag.In _ _ => X
    rename Top _ _ _ _ _ _ => T
    rename Fr _ _ _ _ => F
    rename News _ _ _ _ => N
    rename Heap.IsList _ _ _ => hl
    generalize ghostOf s₁.heap [(34, 30), (27, 23)] = g at *
    generalize s₁.heap.objs.size = L at *
    replace F : Fr g L h₁ (fun _ => none) := F
    clear hL
    dsimp only
    change wpC (model PySem.Challenge.rw_zr0002_01.row.prog w) (ktrTop 302 7 (some []) (PySem.Str.ofString "law") _ L fa _ (cellsFrom (L + 1) _ []) []) (execs _ (envX (PySem.Str.ofString "law") _ L fa _ (cellsFrom (L + 1) _ []))) _ _
    refine c_mono (Q := fun f s' => LawEnd g L s₁ f s') ?_ (fun f s' q => ?_)
    · refine c_execs_cons (c_mono (Q := fun f s' => f = .next ∧ ∃ h' tk m' P x0 x1 t0 t1 e, s' = { s₁ with heap := h', toks := tk } ∧ Fr g L h' m' ∧ m' (PySem.Str.ofString "pair") = some (.ref P) ∧ News g L h' [(P, listOf #[.int ((x0 : Nat) : Int) t0, .int ((x1 : Nat) : Int) t1] e), (L + 1, oc), (30, tabObj #[]), (23, tabObj #[])] ∧ x0 < 10 ^ 40 ∧ x1 < 10 ^ 40) ?_ ?_)
      · refine c_any ?_
        k_fold
        refine assign_comp_range (cl := [(PySem.Str.ofString "script", L + 1)]) F rfl (by rfl) (by rfl) (by decide) rfl (by decide) rfl rfl rfl ?_
        repeat' ((fail_if_success (with_reducible show RangeSrcA _ _ _ _ _ _ _ _ _ _ _ _ _ _ _)); first | walk1 | (dsimp only; walk1))
        rename Fr g L _ _ => F1
        rename News g L _ _ => N1
        rename IsRange _ _ _ _ _ _ _ _ => hr
        dsimp only
        refine ⟨_, 2, _, _, _, _, (fun z => ∃ x : Nat, z = (x : Int) ∧ x < 10 ^ 40), rfl, hr, by decide, rfl, F1, N1, ?_, ?_⟩
        · clear hr F1 N1
          intro k t I oI C oC D ys m₂ h tk E' hk0 hk1 hoC hx F2 N2 off ne
          dsimp only
          repeat' ((fail_if_success (with_reducible show wpAny _ _ (call (Value.builtin "sum") _) _ _ _)); first | walk1 | (dsimp only; walk1))
          rename Fr g L _ _ => F3
          rename News g L _ _ => N3
          refine sum_K rfl F3 N3 List.mem_cons_self (IntsAre.pick hI _ _ _) ?_
          clear F3 N3
          intro h5 tk5 t5 F5 N5
          generalize (pickNums ns (some k) none (some 2)).sum = z
          dsimp only at N5 ⊢
          repeat' ((fail_if_success (with_reducible show Exists _)); first | walk1 | (dsimp only; walk1))
          rename Fr g L _ _ => F6
          rename News g L _ _ => N6
          exact ⟨_, _, _, _, rfl, pair_val z, rfl, F6, fun q hq => N6 q (List.mem_cons_of_mem _ hq)⟩
        · intro D ys zs e h' tk' hy hz hP F2 N2 o1
          obtain ⟨z0, z1, rfl⟩ : ∃ z0 z1, zs = [z0, z1] := two_of hz
          obtain ⟨x0, rfl, hx0⟩ := hP z0 (by simp)
          obtain ⟨x1, rfl, hx1⟩ := hP z1 (by simp)
          cases hy with
          | cons _ t0 hy => cases hy with
            | cons _ t1 hy => cases hy with
              | nil => exact ⟨rfl, h', tk', _, D, x0, x1, t0, t1, e, rfl, F2, if_pos rfl, N2, hx0, hx1⟩
      · rintro f s' ⟨rfl, h', tk, m', P, x0, x1, t0, t1, e, rfl, F1, hmP, N1, hx0, hx1⟩
        dsimp only
        clear F N
        have hoc : ∀ p, oc ≠ tabObj p := fun p q => by rw [q] at dC; cases dC
        replace F1 := fr_see F1 hmP
        refine c_execs_cons (c_mono (Q := fun f s' => f = .next ∧ ∃ h' tk m' nx, s' = { s₁ with heap := h', toks := tk } ∧ Fr g L h' m' ∧ News g L h' nx ∧ J2 P (.int (x0 : Int) t0) (.int (x1 : Int) t1) e L oc m' nx) ?_ ?_)
        · refine c_forList (s := { s₁ with heap := h', toks := tk }) (g := g) (m := fun y => if y = PySem.Str.ofString "pair" then some (.ref P) else m' y) (news := [(P, listOf #[.int (x0 : Int) t0, .int (x1 : Int) t1] e), (L + 1, oc), (30, tabObj #[]), (23, tabObj #[])]) (P := P) (vs := [.int (x0 : Int) t0, .int (x1 : Int) t1]) (e := e) (fun _ => J2 P (.int (x0 : Int) t0) (.int (x1 : Int) t1) e L oc) rfl rfl rfl rfl ?_ ?_ ?_ ?_
          · rintro _ m nx ⟨_, p, q, codes, rfl, _⟩
            exact List.mem_cons_self
          · k_fold
            repeat' ((fail_if_success (with_reducible show And _ _)); first | walk1 | (dsimp only; walk1))
            exact ⟨rfl, _, _, rfl, F1, N1, rfl, #[], #[], [], rfl, ⟨.inl rfl, .inl rfl, List.forall_mem_nil _⟩⟩
          · intro I i v oI m₁ nx h tk hv hJ hoI hne F N
            match i, hv with
            | 0, hv =>
              cases Option.some.inj hv
              exact turn2 hfd B X T C30 C23 hoc hx0 hJ hoI hne F N
            | 1, hv =>
              cases Option.some.inj hv
              exact turn2 hfd B X T C30 C23 hoc hx1 hJ hoI hne F N
          · exact fun m₁ nx h tk hJ F N => ⟨rfl, h, tk, m₁, nx, rfl, F, N, hJ⟩
        · clear F1 N1
          rintro f s' ⟨rfl, h1, tk1, m1, nx, rfl, F1, N1, hJ⟩
          exact law_tail hfd B X T C30 C23 hoc hx0 hx1 hJ F1 N1
    · obtain ⟨rfl, q⟩ := q
      exact ⟨rfl, q⟩
  · obtain ⟨rfl, h', tk, m', news, own, p, q, codes, rfl, F', N', rfl⟩ := g
    refine ⟨good_true (fun _ => rfl) ?_ F'.keep rfl hg, ⟨p, (N' _ (List.mem_append_right _ List.mem_cons_self)).1⟩, ⟨q, (N' _ (List.mem_append_right _ (List.mem_cons_of_mem _ List.mem_cons_self))).1⟩, trivial⟩
    exact postW_of (by wrow_shape) (by wtm_val) (by str_meet; first | done | w_fin)
end Mine
end
set_option Elab.async false
theorem PySem.Challenge.cw_zr0002_01_holds : PySem.Challenge.rw_zr0002_01.Holds := by
  exact Mine.whole
