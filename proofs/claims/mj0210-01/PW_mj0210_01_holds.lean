import PyProof.Rows.All
import Wide.All
import OpenK.AllK
import Wide.FinOn
import Open.Tops
import KE.IntText
import Lean
import PySem.Challenge.RW_mj0210_01
set_option Elab.async false
section
open PySem PySem.W PyProof.Rows
set_option Elab.async false
namespace Mine
open Sem (wp)
/-- somewhere on the stack of the context the claim's caller stands -/
def Cal (Γ : Ctx) : Prop := (Γ.code :: Γ.below.map (·.1)).any Code.isCaller = true
def CalB (Γ : Ctx) : Prop := (Γ.below.map (·.1)).any Code.isCaller = true
theorem CalB.cal {Γ : Ctx} (h : CalB Γ) : Cal Γ := by
  unfold Cal CalB at *
  rw [List.any_cons, h, Bool.or_true]
theorem Cal.enter {Γ : Ctx} (h : Cal Γ) (c : Code) (hd : Option Value) (p : Pos) : CalB (Γ.enter c hd p) := h
/-- wpAny, asked of those contexts alone that were called by the claim -/
def wpC {α : Type} (M : Model) (A : Around) (t : Sem α) (Q : α → Shared → Prop) (E : Value → Shared → Prop) (s : Shared) : Prop :=
  ∀ Γ p, Γ.In A → Cal Γ → wp M Γ t (fun a _ s' => Q a s') (fun e _ s' => E e s') p s
def codeC (M : Model) (A : Around) (c : Code) (R : Result → Shared → Prop) (s : Shared) : Prop :=
  ∀ Γ p, Γ.code = c → Γ.Below A → CalB Γ → wpCode M Γ R p s
section
variable {α β : Type} {M : Model} {A : Around} {E : Value → Shared → Prop} {s : Shared}
theorem wpC_of {t : Sem α} {Q : α → Shared → Prop} (h : wpAny M A t Q E s) : wpC M A t Q E s := fun Γ p i _ => h Γ p i
theorem codeC_of {c : Code} {R : Result → Shared → Prop} (h : codeAny M A c R s) : codeC M A c R s := fun Γ p e i _ => h Γ p e i
theorem wpC_pure {a : α} {Q : α → Shared → Prop} (h : Q a s) : wpC M A (pure a) Q E s := fun _ _ _ _ => h
theorem wpC_mono {t : Sem α} {Q Q' : α → Shared → Prop} {E' : Value → Shared → Prop} (h : wpC M A t Q E s) (hQ : ∀ a s, Q a s → Q' a s) (hE : ∀ e s, E e s → E' e s) : wpC M A t Q' E' s :=
  fun Γ p i c => Sem.wp_mono M Γ t (fun a _ s => hQ a s) (fun e _ s => hE e s) p s (h Γ p i c)
theorem wpC_bind {m : Sem α} {f : α → Sem β} {Q : β → Shared → Prop} (h : wpC M A m (fun a s' => wpC M A (f a) Q E s') E s) : wpC M A (m >>= f) Q E s := fun Γ p i c => by
  rw [Sem.wp_bind']
  exact Sem.wp_mono M Γ m (fun a p' s' h' => h' Γ p' i c) (fun _ _ _ h' => h') p s (h Γ p i c)
theorem wpC_bindA {m : Sem α} {f : α → Sem β} {Q : β → Shared → Prop} (h : wpAny M A m (fun a s' => wpC M A (f a) Q E s') E s) : wpC M A (m >>= f) Q E s := wpC_bind (wpC_of h)
theorem wpC_holding {vs : List Value} {m : Sem α} {Q : α → Shared → Prop} (h : wpC M A m Q E s) : wpC M A (holding vs m) Q E s :=
  fun Γ p i c => by rw [Sem.wp_holding]; exact h Γ p i c
theorem wpC_attempt {m : Sem α} {Q : Except Value α → Shared → Prop} (h : wpC M A m (fun a => Q (.ok a)) (fun e => Q (.error e)) s) : wpC M A m.attempt Q E s :=
  fun Γ p i c => by rw [Sem.wp_attempt]; exact h Γ p i c
theorem wpC_onRaise {m : Sem α} {k : Value → Sem Unit} {Q : α → Shared → Prop} (h : wpC M A m Q (fun e s' => wpC M A (k e) (fun _ s'' => E e s'') E s') s) : wpC M A (m.onRaise k) Q E s := fun Γ p i c => by
  rw [Sem.wp_onRaise]
  exact Sem.wp_mono M Γ m (fun _ _ _ h' => h') (fun e p' s' h' => h' Γ p' i c) p s (h Γ p i c)
theorem codeC_mono {c : Code} {R R' : Result → Shared → Prop} (h : codeC M A c R s) (hR : ∀ r s, R r s → R' r s) : codeC M A c R' s :=
  fun Γ p e i b => wpCode_mono hR (h Γ p e i b)
theorem wpC_run {c : Code} {Q : Flow → Shared → Prop} (hc : codeC M A c (fun r s' => match r with | .ok f => Q f s' | .error e => E e s') s) : wpC M A (run c none) Q E s :=
  fun Γ p i cl => by rw [Sem.wp_run]; exact hc _ p rfl (i.enter c none p (by intro x; cases x)) (cl.enter c none p)
theorem wpC_runValue {c : Code} {Q : Value → Shared → Prop} (hc : codeC M A c (fun r s' => match r with | .ok (.ret v) => Q v s' | .ok _ => False | .error e => E e s') s) : wpC M A (runValue c) Q E s :=
  fun Γ p i cl => by rw [Sem.wp_runValue]; exact hc _ p rfl (i.enter c none p (by intro x; cases x)) (cl.enter c none p)
theorem wpC_call {f : Value} {pos : List Value} {kw : List (Str × Value)} {Q : Value → Shared → Prop}
    (hc : codeC M A (.call f ⟨pos, kw⟩) (fun r s' => match r with | .ok (.ret v) => Q v s' | .ok _ => False | .error e => E e s') s) : wpC M A (call f pos kw) Q E s := wpC_runValue hc
theorem codeC_of_tree {c : Code} {R : Result → Shared → Prop}
    (h : wpC M (A.under c) (M.den c) (fun fin s' => match fin with | .done f => R (.ok f) s' | .again c' => c'.quiet = true ∧ codeC M A c' R s') (fun e s' => R (.error e) s') s) : codeC M A c R s := fun Γ p hc hΓ hb => by
  rw [wpCode_iff_wp, hc]
  refine Sem.wp_mono M Γ _ (fun fin p' s' h' => ?_) (fun _ _ _ h' => h') p s (h Γ p (hc ▸ hΓ.in) hb.cal)
  cases fin with
  | done f => exact h'
  | again c' => exact ⟨h'.1, h'.2 (Γ.goto c') p' rfl (hΓ.goto c') hb⟩
theorem wpC_ite {c : Prop} [Decidable c] {a b : Sem α} {Q : α → Shared → Prop} (h : if c then wpC M A a Q E s else wpC M A b Q E s) : wpC M A (if c then a else b) Q E s := by split <;> simp_all
end
end Mine
end
section
open PySem PySem.W PySem.Calls PyProof.Rows
set_option Elab.async false
set_option maxRecDepth 100000
namespace Mine
open Sem (wp)
section
variable {prog : Program} {w : World} {A : Around} {E : Value → Shared → Prop} {s : Shared} {R : Result → Shared → Prop}
theorem codeC_func {body : List Stmt} {env : Env}
    (h : wpC (model prog w) (A.deeper env) (execs body env) (fun f s' => R (.ok (.ret (match f with | .ret v => v | _ => .none))) s') (fun _ _ => False) s) :
    codeC (model prog w) A (.func body env) R s := by
  refine codeC_of_tree ?_
  show wpC _ (A.deeper env) (do point; match ← (execs body env).onRaise («leaving» env) with | .ret v => ret v | _ => ret .none) _ _ s
  refine wpC_bindA (wpAny_point (wpC_bind (wpC_onRaise (wpC_mono h (fun f s' h' => ?_) fun _ _ h' => h'.elim))))
  cases f <;> exact wpC_pure h'
theorem codeC_call_function {a : Addr} {args : Args} {o : Obj} {fd : FuncData} {body : List Stmt} (hroom : A.depth < recursionLimit)
    (ho : s.heap.get? a = some o) (hd : o.data = .func fd) (hco : fd.scope.isCoroutine = false) (hgen : fd.scope.isGenerator = false) (hbody : fd.body = .stmts body) (hcd : s.heap.CodeRec fd.code fd.qualname)
    (h : wpAny (model prog w) A.in1 (bindArgs fd args) (fun binds s₁ =>
      wpAny (model prog w) A.in1 (newFunctionEnv fd.scope fd.globals fd.closure binds (fd.qualname ++ ".<locals>.") (some a) fd.code none fd.builtins)
        (fun env s₂ => s₂.heap.NoLimit ∧ codeC (model prog w) A (.func body env) R s₂) (fun e s' => R (.error e) s') s₁) (fun e s' => R (.error e) s') s) :
    codeC (model prog w) A (.call (.ref a) args) R s := by
  refine codeC_of_tree (wpC_of ?_)
  show wpAny _ A.in1 (callAny (.ref a) args) _ _ s
  obtain ⟨c, oc, vs, tq, hc, hoc, hdc, hq⟩ := hcd
  simp only [callAny]
  refine wpAny_bind (wpAny_load ho ?_)
  simp only [hd, callFunction, hco, hgen, hbody, hc]
  rw [hc] at h
  refine wpAny_bind (m := field (.ref c) 1) (wpAny_field hoc hdc hq (wpAny_bind (wpAny_pure (wpAny_bind (wpAny_mono h (fun binds s₁ h₁ => ?_) fun _ _ x => x)))))
  exact wpAny_bind (wpAny_mono h₁ (fun env s₂ h₂ => wpAny_bind (wpAny_enterFrame h₂.1 hroom (wpAny_pure ⟨rfl, h₂.2⟩))) fun _ _ x => x)
theorem codeC_def {A₀ : Around} {base h₀ : Heap} {outer : List Env} {L : Addr} {m mg mb : Str → Option Value} {env : Env} {news : List (Addr × Obj)} {K : Frag} {p : Program} {loose : List Str} {mean : ExcName → Option Value}
    {name qual : Str} {params : Arguments} {body : List Stmt} {scope : Scope} {dV kV doc pm cdv ct oc : Value} {an od : Option Addr} {osl : Array (Option Value)} {f : Addr} {args : Args} {binds : List (Str × Value)}
    (B : Below A₀ base outer h₀) (F : Fr h₀ L s.heap m) (X₀ : K.In h₀) (N : News h₀ L s.heap news) (T : Top p loose mean mg mb h₀) (hA : A.frames = some (env :: outer)) (hf : env.frame = some L) (hke : env.scope.kind = .function)
    (ho : K.lookup f = some ⟨oc, od, .func (fnOf name qual params body scope dV kV doc pm an cdv ct), osl⟩) (hcd : codeIn K cdv qual = true) (hroom : A.depth < recursionLimit)
    (hbind : BindsTo s (fnOf name qual params body scope dV kV doc pm an cdv ct) args binds) (hloc : ∀ y ∈ binds, scope.names.lookup y.1 = some .local)
    (h : ∀ g L' h₁, Fr h₀ L g m → Fr g L' h₁ (fun y => binds.reverse.lookup y) → News g L' h₁ news → Below A base (env :: outer) g → K.In g → Top p loose mean mg mb g →
      wpC (model prog w) (A.deeper (envOf qual scope L' f cdv)) (execs body (envOf qual scope L' f cdv))
        (fun fl s' => LeaveK h₀ L m g R (match fl with | .ret v => v | _ => .none) s') (fun _ _ => False)
        { s with heap := h₁, toks := s.toks + binds.length })
    (hco : scope.isCoroutine = false) (hgen : scope.isGenerator = false) (hk : scope.kind = .function)
    (hcell : ∀ x ∈ scope.names, x.2 ≠ .cell) : codeC (model prog w) A (.call (.ref f) args) R s := by
  obtain ⟨FG, BG, st, lv⟩ := groundX (R := R) B F N hA hf hke
  refine codeC_call_function hroom ((X₀.keeps F.keep) _ _ ho) rfl hco hgen rfl (codeRec_of (X₀.keeps F.keep) hcd) (hbind _ _ _ _ ?_)
  refine wpAny_newFunctionEnv hcell hloc (fun h₁ hns hsb => ⟨(T.nolimit.keeps F.keep).fresh _ hsb, codeC_func ?_⟩) hk
  have hk₁ : ∀ b o, s.heap.get? b = some o → h₁.get? b = some o := fun b o e => hsb.extBut b o (Nat.ne_of_lt (Heap.lt_size e)) (Heap.get?_push_of_some _ e)
  exact wpC_mono (h _ s.heap.objs.size h₁ FG ⟨hns, fun b o e => hk₁ b o (of_hideAll _ e), Nat.le_of_eq (hideAll_size _ _)⟩
    (fun p hp => ⟨hk₁ _ _ (N p hp).1, Nat.ne_of_lt (Heap.lt_size (N p hp).1), hideAll_none _ (List.mem_map_of_mem hp)⟩) BG (X₀.keeps st) (T.keeps st)) (fun fl s' hl => lv _ _ hl) fun _ _ y => y
end
section
variable {M : Model} {A : Around} {E : Value → Shared → Prop} {s : Shared} {env : Env}
theorem wpC_execs_cons {st : Stmt} {rest : List Stmt} {Q : Flow → Shared → Prop}
    (h : wpC M A (exec st env) (fun f s' => match f with | .next => wpC M A (execs rest env) Q E s' | f => Q f s') E s) : wpC M A (execs (st :: rest) env) Q E s := by
  rw [execs_cons]
  refine wpC_bind (wpC_mono h (fun f s' h' => ?_) fun _ _ x => x)
  cases f <;> first | exact h' | exact wpC_pure h'
theorem wpC_If {test : Expr} {body orelse : List Stmt} {pos : Pos} {Q : Flow → Shared → Prop}
    (h : wpAny M A (isTrue test env (eval test env)) (fun b s' => if b = true then wpC M A (execs body env) Q E s' else wpC M A (execs orelse env) Q E s') E s) : wpC M A (exec (.If test body orelse pos) env) Q E s := by
  show wpC M A (do standAt pos; if ← isTrue test env (eval test env) then execs body env else execs orelse env) Q E s
  refine wpC_bindA (wpAny_standAt (wpC_bindA (wpAny_mono h (fun b s' h' => ?_) fun _ _ x => x)))
  cases b <;> simpa using h'
end
end Mine
end
section
open PySem PySem.W PySem.Calls PyProof.Rows
set_option Elab.async false
set_option maxRecDepth 100000
namespace Mine
open Sem (wp)
section
variable {M : Model} {A : Around} {E : Value → Shared → Prop} {s : Shared} {env : Env}
theorem wpC_Assign_Name {x : Str} {pos' pos : Pos} {value : Expr} {Q : Flow → Shared → Prop}
    (h : wpC M A (eval value env) (fun v s₁ => wpAny M A (storeName env x v) (fun _ s₂ => Q .next s₂) E s₁) E s)
    (hs : swapsWith value (some (.Name x pos')) pos.line env = pure false := by rfl) : wpC M A (exec (.Assign [.Name x pos'] value pos) env) Q E s := by
  rw [exec_Assign_Name env x pos' value pos hs]
  refine wpC_bindA (wpAny_standAt (wpC_bind (wpC_mono h (fun v s₁ h₁ => ?_) fun _ _ x => x)))
  exact wpC_of (wpAny_bind (wpAny_standAt (wpAny_bind (wpAny_bindName (wpAny_mono h₁ (fun _ _ q => wpAny_pure q) fun _ _ x => x)))))
theorem wpC_callName {n : Str} {p pos : Pos} {args : List Expr} {Q : Value → Shared → Prop}
    (h : wpAny M A (eval (.Name n p) env) (fun f s₁ => wpC M A (callWith pos f [] (backTo pos (starEach args env)) []) Q E s₁) E s) : wpC M A (eval (.Call (.Name n p) args [] pos) env) Q E s := by
  show wpC M A (do callWith pos (← eval (.Name n p) env) [] (backTo pos (starEach args env)) (backToKw pos (keywordEach [] env))) Q E s
  exact wpC_bindA h
theorem wpC_keep {f : Value} {mk : Value} {pos : List Value} {kw : List (Str × Value)} {Q : Value → Shared → Prop} (h : wpC M A (call f pos kw) Q E s) : wpC M A (callMarked mk f pos kw) Q E s := by
  intro Γ p i c
  have z := h Γ p i c
  unfold callMarked
  rw [Sem.wp_keep]
  exact z
theorem wpC_callStar {K : Frag} {f : Value} {e : Expr} {p pos : Pos} {Q : Value → Shared → Prop} (hk : keepIn K f = true)
    (h : wpAny M A (eval e env) (fun v s₁ => StarOf M A E v (fun vs s₂ => K.In s₂.heap ∧ wpC M A (call f vs) Q E s₂) s₁) E s)
    (he : starEach [.Starred e p] env = [(true, eval e env)] := by rfl) :
    wpC M A (callWith pos f [] (backTo pos (starEach [.Starred e p] env)) []) Q E s := by
  rw [he]
  unfold callWith
  refine wpC_bindA (wpAny_holding (ks_lone (wpAny_mono h (fun v s₁ h₁ => ?_) fun _ _ x => x)))
  unfold StarOf at h₁ ⊢
  refine wpAny_mono h₁ (fun b s₂ h₂ => ⟨h₂.1, wpAny_mono h₂.2 (fun vs s₃ h₃ => ?_) fun _ _ x => x⟩) fun _ _ x => x
  refine wpC_bindA (wpAny_standAt ?_)
  obtain ⟨k, hk', L⟩ := keeps_K (M := M) hk _ h₃.1
  have tail : ∀ {t : Sem Value}, wpC M A t Q E s₃ → wpC M A (t >>= fun r => holding [r] point >>= fun _ => pure r) Q E s₃ :=
    fun ht => wpC_bind (wpC_mono ht (fun r s₄ hr => wpC_of (wpAny_bind (wpAny_holding (wpAny_point (wpAny_pure hr))))) fun _ _ x => x)
  have hst : (backTo pos [(true, eval e env)]).any (·.1) = true := rfl
  simp only [hst, Bool.true_or, List.nil_append]
  refine wpC_bindA (L.here ?_)
  rcases hk' with rfl | rfl | rfl <;> dsimp only
  · exact tail (wpC_keep h₃.2)
  · refine tail fun Γ q i c => ?_
    rw [Sem.wp_operate]
    exact h₃.2 Γ q i c
  · refine tail fun Γ q i c => ?_
    rw [Sem.wp_operate]
    exact h₃.2 Γ q i c
theorem wpC_callType {T : String} {e : Expr} {pos : Pos} {Q : Value → Shared → Prop}
    (h : wpAny M A (eval e env) (fun v s₁ => wpC M A (call (.type T) [v]) Q E s₁) E s)
    (he : starEach [e] env = [(false, eval e env)] := by rfl) :
    wpC M A (callWith pos (.type T) [] (backTo pos (starEach [e] env)) []) Q E s := by
  rw [he]
  unfold callWith
  have z : wpAny M A (evalArgs (.type T) true [(false, eval e env)] []) (fun a s₁ => wpC M A (call (.type T) ([] ++ a.pos) a.kw) Q E s₁) E s :=
    evalArgs_plain (rest := []) (wpAny_mono (wpAny_bind (wpAny_mono h (fun v s₁ h₁ => wpAny_bind (wpAny_pure (wpAny_bind (wpAny_holding (wpAny_pure (wpAny_pure h₁)))))) fun _ _ x => x)) (fun _ _ x => x) fun _ _ x => x)
  refine wpC_bindA (wpAny_holding (wpAny_mono z (fun a s₁ h₁ => ?_) fun _ _ x => x))
  refine wpC_bindA (wpAny_standAt ?_)
  refine wpC_bindA (wpAny_pure ?_)
  exact wpC_bind (wpC_mono h₁ (fun r s₂ hr => wpC_of (wpAny_bind (wpAny_holding (wpAny_point (wpAny_pure hr))))) fun _ _ x => x)
theorem wpC_Try {body orelse : List Stmt} {h₀ : ExceptHandler} {hs : List ExceptHandler} {pos : Pos} {Q : Flow → Shared → Prop}
    (h : wpC M A (execs body env) (fun f s₁ => match f with | .next => wpC M A (execs orelse env) Q E s₁ | f => Q f s₁)
      (fun e s₁ => wpAny M A (noteFrame e env) (fun _ s₂ => wpAny M A (setFlight e none) (fun _ s₃ => wpAny M A (handleBy e env (h₀ :: hs)) Q E s₃) E s₂) E s₁) s) :
    wpC M A (exec (.Try body (h₀ :: hs) orelse [] pos) env) Q E s := by
  show wpC M A (do standAt pos; tryStmt false (execs body env) (h₀ :: hs) (execs orelse env) [] env) Q E s
  refine wpC_bindA (wpAny_standAt ?_)
  unfold tryStmt
  simp only [List.isEmpty_nil, if_true, List.isEmpty_cons, Bool.false_and, Bool.false_eq_true, if_false]
  refine wpC_bind (wpC_attempt (wpC_mono h (fun f s₁ h₁ => ?_) fun e s₁ h₁ => ?_))
  · cases f <;> first | exact h₁ | exact wpC_pure h₁
  · exact wpC_of (wpAny_bind (wpAny_mono h₁ (fun _ _ h₂ => wpAny_bind h₂) fun _ _ x => x))
end
section
variable {prog : Program} {w : World} {A : Around} {s : Shared} {env : Env} {R : Result → Shared → Prop}
theorem codeC_forTurn {target : Expr} {it : Value} {body : List Stmt}
    (h : wpAny (model prog w) A (pyNext it) (fun r s₁ => match r with
      | none => R (.ok .next) s₁
      | some v => wpAny (model prog w) A (do letOwnedTupleGo target it v; assign target env v) (fun _ s₂ => wpC (model prog w) A (execs body env) (fun f s₃ => match f with
          | .next | .cont => codeC (model prog w) A (.forLoop target it body [] env) R s₃
          | .brk => R (.ok .next) s₃
          | .ret v => R (.ok (.ret v)) s₃) (fun _ _ => False) s₂) (fun _ _ => False) s₁) (fun _ _ => False) s) :
    codeC (model prog w) A (.forLoop target it body [] env) R s := by
  refine codeC_of_tree ?_
  show wpC _ A ((forTurn target it body [] env).onRaise (fun x => do noteFrame x env; theTreesLotGoes x)) _ _ s
  refine wpC_onRaise (wpC_mono (E := fun _ _ => False) ?_ (fun _ _ x => x) fun _ _ x => x.elim)
  unfold forTurn
  refine wpC_bindA (wpAny_standAt (wpC_bindA (wpAny_onRaise (wpAny_mono h (fun r s₁ h₁ => ?_) fun _ _ x => x.elim))))
  cases r with
  | none => exact wpC_pure ⟨rfl, codeC_of (codeAny_block (wpAny_execs_nil h₁))⟩
  | some v =>
    have e : (do letOwnedTupleGo target it v; assign target env v; match ← execs body env with
        | .next | .cont => again (.forLoop target it body [] env)
        | .brk => pure (.done .next)
        | .ret v => pure (.done (.ret v)) : Sem Fin) = ((do letOwnedTupleGo target it v; assign target env v : Sem Unit) >>= fun _ => (do match ← execs body env with
        | .next | .cont => again (.forLoop target it body [] env)
        | .brk => pure (.done .next)
        | .ret v => pure (.done (.ret v)))) := by simp only [bind_assoc]
    show wpC _ _ (do letOwnedTupleGo target it v; assign target env v; match ← execs body env with
        | .next | .cont => again (.forLoop target it body [] env)
        | .brk => pure (.done .next)
        | .ret v => pure (.done (.ret v))) _ _ _
    rw [e]
    refine wpC_bindA (wpAny_mono h₁ (fun _ s₂ h₂ => wpC_bind (wpC_mono h₂ (fun f s₃ h₃ => ?_) fun _ _ x => x)) fun _ _ x => x)
    cases f with
    | next => exact wpC_pure ⟨rfl, h₃⟩
    | cont => exact wpC_pure ⟨rfl, h₃⟩
    | brk => exact wpC_pure h₃
    | ret v => exact wpC_pure h₃
theorem wpC_For {target iter : Expr} {body : List Stmt} {pos : Pos} {Q : Flow → Shared → Prop}
    (h : wpAny (model prog w) A (eval iter env) (fun x s₁ => wpAny (model prog w) A (pyIter x) (fun it s₂ =>
      codeC (model prog w) A (.forLoop target it body [] env) (fun r s' => match r with | .ok f => Q f s' | .error _ => False) s₂) (fun _ _ => False) s₁) (fun _ _ => False) s)
    (hs : ∀ x, foldedSetIterable iter env x = pure x := by intro _; rfl) :
    wpC (model prog w) A (exec (.For target iter body [] pos) env) Q (fun _ _ => False) s := by
  rw [exec_For]
  refine wpC_bindA (wpAny_standAt (wpC_bindA (wpAny_mono h (fun x s₁ h₁ => ?_) fun _ _ x => x)))
  refine wpC_bindA (wpAny_of_eq (hs x) (wpC_bindA (wpAny_standAt (wpC_bindA (wpAny_holding (wpAny_mono h₁ (fun it s₂ h₂ => ?_) fun _ _ x => x))))))
  unfold runOwn
  refine wpC_onRaise (wpC_run (codeC_mono h₂ fun r s' h' => ?_))
  cases r with
  | ok f => exact h'
  | error e => exact h'.elim
end
end Mine
end
section
open PySem PySem.W PySem.Spec PySem.Calls PyProof.Rows
set_option Elab.async false
set_option maxRecDepth 100000
namespace Mine
open Sem (wp)
theorem cal_caller : Cal ⟨.builtin "claim.caller" {}, none, none, [], none⟩ := rfl
/-- the library's bridge from a proof about the call to the machine's run, for the claim's own context alone -/
theorem thread_endsC {prog : Program} {w : World} {t : Sem Fin} {s : Shared} {R : Result → Shared → Prop} (hreg : s.asleep)
    (h : wpC (model prog w) callerA t (fun fin s' => ∃ f, fin = .done f ∧ (R (.ok f) s' ∧ leftWithCleanup s'.gens = false)) (fun e s' => R (.error e) s' ∧ leftWithCleanup s'.gens = false) s) :
    ∃ n r s' s'', runN (denote table) prog w n s ⟨t, .builtin "claim.caller" {}, default, []⟩ = .halted (outcomeOf r) s' ∧
      schedN (denote table) prog w n (.single s ⟨t, .builtin "claim.caller" {}, default, []⟩) = .halted (outcomeOf r) s' ∧ s'.forget = s''.forget ∧ R r s'' := by
  have hw : wp (model prog w) ⟨.builtin "claim.caller" {}, none, none, [], none⟩ t (Sem.finPost (model prog w) ⟨.builtin "claim.caller" {}, none, none, [], none⟩ fun r s' => R r s' ∧ leftWithCleanup s'.gens = false)
      (fun e _ s' => R (.error e) s' ∧ leftWithCleanup s'.gens = false) default s :=
    Sem.wp_mono _ _ t (fun fin p' s' x => by obtain ⟨f, rfl, y⟩ := x; exact y) (fun _ _ _ x => x) default s (h _ default caller_in cal_caller)
  obtain ⟨n, r, a, b, x, y, z, u⟩ := wp_halts_full (M := model prog w) (R := R) hreg hw
  exact ⟨n, r, b, a, y, x, z, u⟩
/-- what is left to be shown of the call: the library's WalkO, asked of contexts that the claim called -/
abbrev WalkC (q : Program) (loose : List Str) (XP : (Str → Option Value) → Heap → Prop) (YP : World → Heap → Prop) (r : RowW) (d : DefRec) (kwd : List (Str × Expr)) (run : Value → List Value → Sem Value) : Prop :=
  ∀ (w : World) (s₀ s₁ : Shared) (mg mb : Str → Option Value), Ground q loose r.records XP w s₀ mg mb s₁.heap → YP w s₁.heap → ∀ (a : Addr) (o : Obj) (pm cd doc dV kV : Value), s₁.heap.get? a = some o →
    o.data = .func { docDef d.name d.params d.body d.scope pm cd doc with defaults := dV, kwdefaults := kV } → s₁.heap.CodeRec cd d.name → Dflts mg s₁.heap d.params kwd dV kV → mg d.name = some (.ref a) → s₁.gens = #[] →
    ∀ (args : List WData) (vals : List Value) (as : List Addr), r.claim.pre args = true → WData.layableAll args = true → ReadsAllW r.records (classAt s₀.heap) s₁.heap vals args as → WellAll w.params s₁.heap vals args → (∀ a ∈ as, (a == sysModules) = false) →
      wpC (model r.prog w) callerA (run (.ref a) vals) (fun v s' => GoodWG r.claim (classAt s₀.heap) (ExcName.means s₀.heap) args s₁ (.ok (.ret v)) s')
        (fun e s' => GoodWG r.claim (classAt s₀.heap) (ExcName.means s₀.heap) args s₁ (.error e) s') s₁
theorem callFromC {c : ClaimW} {tree : List Value → Sem Fin} {w : World} {s : Shared} {free : Addr → Prop} {gens : Prop} {kept : Heap → Prop} (hz : s.asleep) (hgens : s.gens = #[])
    (hspec : ∀ args, c.pre args = true → WData.layableAll args = true → ∀ ord : List DictEntry → List DictEntry, (∀ l, (ord l).Perm l) →
      ∃ vs s₁, layAllW c.records (classAt s.heap) w.params ord args s = some (vs, s₁) ∧
        wpC (model c.prog w) callerA (tree vs) (fun fin s' => ∃ f, fin = .done f ∧ (c.Ends s args vs s₁ (.ok f) s' ∧ s'.os = s.os ∧ AllBare s'.gens ∧ kept s'.heap))
          (fun e s' => c.Ends s args vs s₁ (.error e) s' ∧ s'.os = s.os ∧ AllBare s'.gens ∧ kept s'.heap) s₁) :
    c.CallFrom (fun vs => ⟨tree vs, .builtin "claim.caller" {}, default, []⟩) w free gens kept s := by
  intro args hpre hlay ord hord
  obtain ⟨vs, s₁, hlaid, hcode⟩ := hspec args hpre hlay ord hord
  obtain ⟨_, _, _, lf⟩ := layAllW_rest _ _ _ hlaid
  obtain ⟨k, r, s', s'', hrun, hsched, hfo, hcase, hos, hkp⟩ := thread_endsC (R := fun r s' => c.Ends s args vs s₁ r s' ∧ s'.os = s.os ∧ kept s'.heap) (Shared.asleep_of_life lf hz)
    (wpC_mono hcode (fun fin s' ⟨f, e, h1, h2, h3, h4⟩ => ⟨f, e, ⟨h1, h2, h4⟩, leftWithCleanup_false_of_bare h3⟩) fun e s' ⟨h1, h2, h3, h4⟩ => ⟨⟨h1, h2, h4⟩, leftWithCleanup_false_of_bare h3⟩)
  obtain ⟨eh, _, _, eo, _⟩ := Shared.forget_eq hfo
  have hcase := hcase.congr eh
  have hkp : kept s'.heap := eh.symm ▸ hkp
  refine ⟨vs, s₁, hlaid, k, _, s', hsched, ?_, (fun _ i x hx => by rw [hgens] at hx; simp at hx), hkp, by rw [(runN_life _ _ _ hrun).trans lf], Shared.rest_eq (eo.trans hos)⟩
  rcases hcase with ⟨v, rfl, d1, d2, d3, d4, d5⟩ | ⟨e, ob, cls, rfl, d1, d2, d3, d4, d5⟩
  · exact .inl ⟨v, rfl, d1, d2, d3, fun b o y _ => d4 b o y, d5⟩
  · exact .inr ⟨e, ob, cls, rfl, d1, d2, d3, d4, fun b o y _ => d5 b o y⟩
theorem head_of_walkC {r : OpenRow} {q : Program} {loose : List Str} {Xt : Shared → Bool} {XP : (Str → Option Value) → Heap → Prop} {α : Type} {Yf : Shared → α} {Ya : World → α} {YP : World → Heap → Prop} {d : DefRec} {kwd : List (Str × Expr)} {N : Nat}
    (left : LeftO r.prog q loose Xt Yf Ya N) (hY : ∀ w s, Yf s = Ya w → YP w s.heap) (hYk : ∀ w h h', YP w h → (∀ b o, h.get? b = some o → h'.get? b = some o) → YP w h')
    (hX : ∀ s, Xt s = true → XP (s.heap.nsMap mainGlobals) s.heap) (hXk : ∀ mg h h', XP mg h → (∀ b o, h.get? b = some o → h'.get? b = some o) → XP mg h')
    (hdef : defOf q r.name = some (d, kwd)) (hp : r.prog.theDef r.name = some (d.params, d.body, d.scope)) (hk : kwWritten? d.params.kwonlyargs d.params.kw_defaults = some kwd) (hRf : ∀ s, Xt s = true → RecFacts r.records s.heap) (hwr : (!r.writes || r.records.isEmpty) = true)
    (k1 : r.wellSaid = true) (ok : (chainsOk q && opensWell r.prog && (frees r.toRowW && r.within.isEmpty)) = true) (hb : r.prog.bare) (hw : r.toRowW.promised)
    (call : WalkC q loose XP YP r.toRowW d kwd fun f vs => PySem.call f vs) : r.Holds := by
  obtain ⟨ok1, ok2⟩ := Bool.and_eq_true_iff.mp ok
  obtain ⟨hch, o1⟩ := Bool.and_eq_true_iff.mp ok1
  obtain ⟨k5, k6⟩ := Bool.and_eq_true_iff.mp ok2
  obtain ⟨hsame, hu, ha, hap, hm⟩ := frees_parts k5
  have hi := ident_freeW hu ha hap
  have hwi : r.toRowW.claim.within = [] := List.isEmpty_iff.mp k6
  have lb := left.behind (XP := fun mg h => XP mg h ∧ RecFacts r.records h) (fun s hs => ⟨hX s hs, hRf s hs⟩) hch
  refine ⟨k1, hw, ⟨hb, o1, by show r.makers.map _ = []; rw [hm]; rfl⟩, hw.witness, fun w => ⟨(lb w).1, fun s' hs' => ?_⟩⟩
  obtain ⟨s₀, hf, hg0, s, hT, hz, hgens, hg, GX, y⟩ := (lb w).2 s' hs'
  have G0 : Ground q loose [] XP w s (s.heap.nsMap mainGlobals) (s.heap.nsMap builtinsNs) s.heap := ⟨GX.T, GX.B, GX.D, GX.TE, GX.TD, GX.W, GX.X.1, GX.cls, GX.has, GX.apart, GX.once, GX.K⟩
  have RF := GX.X.2
  have G := RF.ground G0
  have hgens : s.gens = #[] := Array.eq_empty_of_size_eq_zero (beq_iff_eq.mp hgens)
  refine ⟨s₀, hf, hg0, s, hT, fun n hn => ?_, RF.1, RF.2.1, callFromC (c := r.toRowW.claim) hz hgens fun args hpre hlay ord hord => ?_⟩
  · obtain rfl : n = r.name := by split at hn <;> simp_all
    exact pinned_of_view hg G0 hdef hp hk
  · obtain ⟨⟨vs, s₁⟩, hlaid⟩ := Option.isSome_iff_exists.mp (layAllW_isSome (P := w.params) (ord := ord) G.has args r.args s (pre_splitW hpre).1)
    have keeps := layAllW_keeps _ _ _ hlaid
    have hal := layAllW_rest _ _ _ hlaid
    obtain ⟨as, hrd, hin, hold⟩ := reads_layAllW hord _ _ _ hlaid hlay s₁.heap (fun _ _ e => e)
    have L : Laid r.records w s s₁ args vs as := ⟨⟨ord, hord, hlaid⟩, hrd, hin, hold, keeps, hal.1.trans hgens, hal.2.2.1⟩
    have G₁ := G.keeps hXk keeps
    obtain ⟨a, o, pm, cd, doc, dV, kV, h1, h2, h3, h4, h5⟩ := G₁.fn hdef
    have z := call w s s₁ _ _ G₁ (hYk _ _ _ (hY w s y) keeps) a o pm cd doc dV kV h2 h3 h4 h5 (defOf_name hdef ▸ h1) L.gens args vs as hpre hlay L.reads L.well (L.low G.low)
    refine ⟨vs, s₁, hlaid, wpC_bindA (wpAny_nsGet G₁.T.g ?_)⟩
    rw [h1]
    refine wpC_bind (wpC_mono z (fun v s' g => wpC_pure ⟨_, rfl, ?_⟩) fun e s' g => ?_)
    · have z := g.laid (c := r.toRowW.claim) hsame hwi hi L
      exact ⟨z.1, z.2.1, z.2.2, fun q => ⟨namesKept_of hT hg _ keeps g.2.1.old, noTable hwr q⟩⟩
    · have z := g.laid (c := r.toRowW.claim) hsame hwi hi L
      exact ⟨z.1, z.2.1, z.2.2, fun q => ⟨namesKept_of hT hg _ keeps g.2.1.old, noTable hwr q⟩⟩
end Mine
end
section
open PySem PySem.W PySem.Calls PyProof.Rows
set_option Elab.async false
set_option maxRecDepth 100000
namespace Mine
open Sem (wp)
theorem spec_str {x : PySem.Str} {u : Tok} {n : PySem.Str} (h : typeLookup (.type "str") n = pure none) : specialOf (.str x u) n = pure none := by
  unfold specialOf
  rw [show typeOf (.str x u) = pure (.type "str") from rfl, pure_bind]
  exact h
theorem intObj_tree (x : PySem.Str) (u : Tok) : (int_private% "intFromObject") (.str x u) = (int_private% "intFromText") (.str x u) (numTextOf x) 10 := by
  have s1 : specialOf (.str x u) "__int__" = pure none := spec_str KIN.str_int
  have s2 : specialOf (.str x u) "__index__" = pure none := spec_str KIN.str_idx
  have s3 : specialOf (.str x u) "__trunc__" = pure none := spec_str KIN.str_trunc
  have c1 : callSpecial? (.str x u) "__int__" = pure none := by unfold callSpecial?; rw [s1, pure_bind]
  show (callSpecial? (.str x u) "__int__" >>= _) = _
  rw [c1, pure_bind]
  rw [s2, pure_bind]
  rw [s3, pure_bind]
  rfl
theorem intNew_tree (x : PySem.Str) (u : Tok) : Builtin.«int.__new__» ⟨[.type "int", .str x u], []⟩ = ((int_private% "intFromText") (.str x u) (numTextOf x) 10 >>= fun v => ret v) := by
  have f1 := F.conv_sub_int
  have f2 := F.madeHere_int
  have e : (Value.type "int" == Value.type "int") = true := by rfl
  show (isSubtype (.type "int") (.type "int") >>= _) = _
  rw [f1, pure_bind]
  rw [f2, pure_bind]
  rw [e]
  rw [← intObj_tree]
  rfl
end Mine
end
section
open PySem PySem.W PySem.Calls PyProof.Rows
set_option Elab.async false
set_option maxRecDepth 100000
namespace Mine
open Sem (wp)
theorem notMade {own : List String} {codes : List Code} (h : codes.any Code.isCaller = true) : pythonCodeMadeTheCall own codes = false := by
  have e : pythonCodeMadeTheCall own codes = ((!codes.any Code.isCaller && codes.any (·.env?.isSome)) && (codes.takeWhile (·.env?.isNone)).all fun c => match c with
    | .call .. => true
    | .builtin id a => own.contains id || (id == "type.__call__" && (match a.pos.head? with
      | some (.ref _) => true
      | some (.type n) => own.contains (n ++ ".__new__")
      | _ => false))
    | _ => false) := rfl
  rw [e, h]; rfl
section
variable {M : Model} {A : Around} {E : Value → Shared → Prop} {s : Shared}
theorem wpC_mark {own : List String} {e : Value} {Q : Unit → Shared → Prop} (h : Q () s) : wpC M A (markTheRefusal own e) Q E s := by
  intro Γ p i c
  have e1 : pythonCodeMadeTheCall own (((Γ.code, p) :: Γ.below).map (·.1)) = false := notMade c
  unfold markTheRefusal
  rw [Sem.wp_bind']
  show wp M Γ (if pythonCodeMadeTheCall own (((Γ.code, p) :: Γ.below).map (·.1)) = true then _ else _) _ _ p s
  rw [if_neg (by rw [e1]; exact Bool.false_ne_true)]
  exact h
theorem wpC_refuse {x : PySem.Str} {Q : Value → Shared → Prop} (hh : A.handled = none) (hz : x.length ≤ sizeLine)
    (h : ∀ h' tk e, Heap.NewExc s.heap h' e "ValueError" → E (.ref e) { s with heap := h', toks := tk }) :
    wpC M A (do let refusal ← newExc (.type "ValueError") [← mkStr x]; markTheRefusal ["int.__new__"] refusal; raiseNew refusal : Sem Value) Q E s := by
  refine wpC_bindA (wpAny_mkStr (wpC_bindA ?_) hz)
  unfold newExc newTuple
  refine wpAny_bind (wpAny_newObj_type ?_)
  refine wpAny_bind (m := firstArgMember _ _) (wpAny_of_eq (a := Value.none) (by first | rfl | (simp only [firstArgMember]; rfl)) ?_)
  have em : ownMembersOf (.type "ValueError") [Value.str x s.toks] = #[] := by
    unfold ownMembersOf
    split <;> first | rfl | (rename_i h; revert h; decide) | simp_all
  rw [em]
  refine wpAny_newObj_type ?_
  refine wpC_bind (wpC_mark (wpC_of ?_))
  unfold raiseNew
  refine wpAny_bind (wpAny_handled ?_)
  rw [hh]
  first
    | refine wpAny_throw ?_
    | refine wpAny_bind (wpAny_pure (wpAny_throw ?_))
  exact h _ _ _ ⟨fun b o hb => Heap.get?_push_of_some _ (Heap.get?_push_of_some _ hb), Heap.get?_none_of_le (by simp), _, .ref s.heap.objs.size, Heap.get?_push_size _ rfl, rfl, by simp⟩
end
section
variable {prog : Program} {w : World} {A : Around} {E : Value → Shared → Prop} {s : Shared}
theorem wpC_intFromText {x : PySem.Str} {u : Tok} {Q : Value → Shared → Prop} (hh : A.handled = none) (hl : x.length ≤ 640) (hn : PySem.intText? x = none) (hc : ∀ c ∈ x.cps.toList, c < 16 ^ 8)
    (h : ∀ h' tk e, Heap.NewExc s.heap h' e "ValueError" → E (.ref e) { s with heap := h', toks := tk }) :
    wpC (model prog w) A ((int_private% "intFromText") (.str x u) (numTextOf x) 10) Q E s := by
  have hs : (numSeenOf x).length ≤ 640 := Nat.le_trans (seen_length x) hl
  have hr : (reprText x).length ≤ sizeLine := by
    have := StrLaws.reprText_len x hc
    rw [sizeLine_eq]; omega
  have fin : wpC (model prog w) A (do
      rule "int.__new__.invalid-literal"
      let shown ← pyRepr (.str x u)
      let refusal ← newExc (.type "ValueError") [← mkStr (((s!"invalid literal for int() with base {10}: " : String) ++ ⟨shown.cps.extract 0 200⟩ : PySem.Str))]
      markTheRefusal ["int.__new__"] refusal
      raiseNew refusal : Sem Value) Q E s := by
    refine wpC_bindA (wpAny_rule (wpC_bindA (wpAny_pyRepr_str ?_ hr)))
    with_reducible refine wpC_refuse hh ?_ h
    rw [PySem.Str.length_append, sizeLine_eq]
    have e1 : (PySem.Str.mk ((reprText x).cps.extract 0 200)).length ≤ 200 := by
      show ((reprText x).cps.extract 0 200).size ≤ 200
      simp only [Array.size_extract]; omega
    have e2 : (PySem.Str.ofString (s!"invalid literal for int() with base {10}: " : String)).length ≤ 1000 := by decide +kernel
    omega
  show wpC _ _ (if (numSeenOf x).length ≤ 640 then pure 0 >>= _ else _) _ _ _
  rw [if_pos hs]
  refine wpC_bindA (wpAny_pure ?_)
  dsimp only
  have hsn : List.takeWhile (fun x => x != 0) (numTextOf x) = numSeenOf x := rfl
  rw [hsn]
  rcases read0 x hs with ⟨n, h1, _⟩ | ⟨_, h1 | ⟨i, h1, h2⟩⟩
  · rw [hn] at h1; cases h1
  · rw [h1]
    exact fin
  · rw [h1]
    dsimp only
    rw [if_neg h2]
    exact fin
end
end Mine
end
section
open PySem PySem.W PySem.Calls PyProof.Rows
set_option Elab.async false
set_option maxRecDepth 100000
namespace Mine
open Sem (wp)
theorem typeCall_int (v : Value) : ∃ k : Value → Sem Fin, Builtin.«type.__call__» ⟨[.type "int", v], []⟩ = (holding [.builtin "int.__new__"] (call (.builtin "int.__new__") [.type "int", v]) >>= k) := by
  have ft := F.called_int
  obtain ⟨c, tl, hmro⟩ := ft.mro
  have hmade := ft.made
  have h2 := ft.canCreate
  have h3 := F.typeCall_int_1 v
  have h1 := ft.notType
  unfold Builtin.«type.__call__»
  simp only [h1, h2, h3, hmro, hmade, pure_bind, Bool.false_eq_true, if_false, List.isEmpty_cons]
  exact ⟨_, rfl⟩
section
variable {prog : Program} {w : World} {A : Around} {E : Value → Shared → Prop} {s : Shared} {R : Result → Shared → Prop}
theorem codeC_builtin {id : String} {args : Args} {b : Builtin} (hb : entryFor table id = some b)
    (h : wpC (model prog w) (A.under (.builtin id args)) (b args) (fun fin s' => match fin with | .done f => R (.ok f) s' | .again c' => c'.quiet = true ∧ codeC (model prog w) A c' R s') (fun e s' => R (.error e) s') s) :
    codeC (model prog w) A (.builtin id args) R s := by
  refine codeC_of_tree ?_
  show wpC _ _ (match entryFor table id with | some b => b args | none => unsupported ((withoutEnding? id "#data").getD id)) _ _ s
  rw [hb]; exact h
/-- int(text) where the text is no number: a ValueError, made anew; no key of the statics is written, for the claim's caller stands below -/
theorem wpC_int_refused {x : PySem.Str} {u : Tok} {Q : Value → Shared → Prop} (hh : A.handled = none) (hl : x.length ≤ 640) (hn : PySem.intText? x = none) (hc : ∀ c ∈ x.cps.toList, c < 16 ^ 8)
    (h : ∀ h' tk e, Heap.NewExc s.heap h' e "ValueError" → E (.ref e) { s with heap := h', toks := tk }) :
    wpC (model prog w) A (call (.type "int") [.str x u]) Q E s := by
  refine wpC_call (codeC_of_tree ?_)
  show wpC _ _ (callAny (.type "int") _) _ _ _
  refine wpC_pure ⟨Code.quiet_builtin _ (by decide +kernel), codeC_builtin F.entry_type_call ?_⟩
  rw [Around.under_plain (weight_type_call_type "int" [.str x u] []) (units_type_call_type "int" [.str x u] [])]
  obtain ⟨k, hk⟩ := typeCall_int (.str x u)
  rw [hk]
  refine wpC_bind (wpC_holding (wpC_call (codeC_of_tree ?_)))
  show wpC _ _ (do checkBuiltinCall "int.__new__" ⟨[.type "int", .str x u], []⟩; again (.builtin "int.__new__" ⟨[.type "int", .str x u], []⟩)) _ _ s
  rw [F.newCall_int_1]
  refine wpC_pure ⟨Code.quiet_builtin _ (by decide +kernel), codeC_builtin F.entry_int_new ?_⟩
  rw [intNew_tree, Around.under_plainId F.called_int.plain]
  refine wpC_bind (wpC_intFromText hh hl hn hc ?_)
  exact h
end
end Mine
end
section
open PySem PySem.W
set_option maxRecDepth 100000
set_option Elab.async false
namespace Mine
section
variable (p : Program) (w : World) (b : List Stmt) (env : Env)
abbrev cdOf : Code := Code.body b env
abbrev Bq : List Frame := [topFrame ⟨0, 0, 0, 0⟩]
abbrev go1 (n : Nat) (s : Shared) (t : Thread) : Option (Shared × Thread) := segGo treeTable p w 11 (some (Value.ref 6)) 1 n s t
theorem go1_add (n m : Nat) : ∀ (s : Shared) (t : Thread) (s' : Shared) (t' : Thread), go1 p w n s t = some (s', t') → go1 p w (n + m) s t = go1 p w m s' t' := by
  induction n with
  | zero =>
    intro s t s' t' h
    obtain ⟨rfl, rfl⟩ : s = s' ∧ t = t' := by simpa [segGo] using h
    rw [Nat.zero_add]
  | succ n ih =>
    intro s t s' t' h
    rw [show n + 1 + m = n + m + 1 by omega]
    unfold go1 at h
    unfold segGo at h
    generalize hr : go1 p w m s' t' = r
    unfold go1
    unfold segGo
    cases he : endAt 1 t with
    | some f => rw [he] at h; cases h
    | none =>
      rw [he] at h
      cases hk : stepOk 11 (some (Value.ref 6)) t with
      | false => rw [hk] at h; cases h
      | true =>
        rw [hk] at h
        cases hs : step (denote treeTable) p w s t with
        | halt o s₂ => rw [hs] at h; cases h
        | go s₂ t₂ => rw [hs] at h; exact (ih s₂ t₂ s' t' h).trans hr
/-- a tree that goes through in n steps of the machine, whatever stands behind it -/
def Runs {α : Type} (m : Sem α) (s : Shared) (q : Pos) (n : Nat) (a : α) (s' : Shared) (q' : Pos) : Prop :=
  ∀ (K : α → Sem Fin) (H : Value → Sem Fin) (gd : Bool → Bool) (lv : List Value → List Value), go1 p w n s ⟨m.wrap K H gd lv, cdOf b env, q, Bq⟩ = some (s', ⟨K a, cdOf b env, q', Bq⟩)
variable {p w b env} {α β : Type} {s s' s'' : Shared} {q q' q'' : Pos}
theorem runs_pure (a : α) : Runs p w b env (Pure.pure a) s q 0 a s q := fun _ _ _ _ => rfl
theorem runs_bind {m : Sem α} {f : α → Sem β} {n k : Nat} {a : α} {c : β} (h : Runs p w b env m s q n a s' q') (h' : Runs p w b env (f a) s' q' k c s'' q'') : Runs p w b env (m >>= f) s q (n + k) c s'' q'' := fun K H gd lv => by
  rw [Sem.bind_eq_wrap', Sem.wrap_wrap]
  exact (go1_add p w n k _ _ _ _ (h (fun a => (f a).wrap K H gd lv) H gd lv)).trans (h' K H gd lv)
theorem runs_alloc (o : Obj) : Runs p w b env (PySem.alloc o) s q 1 s.heap.objs.size { s with heap := s.heap.push o } q := fun _ _ _ _ => rfl
theorem runs_fresh : Runs p w b env PySem.fresh s q 1 s.toks { s with toks := s.toks + 1 } q := fun _ _ _ _ => rfl
theorem runs_mkInt (i : Int) : Runs p w b env (PySem.mkInt i) s q 1 (.int i s.toks) { s with toks := s.toks + 1 } q := fun _ _ _ _ => rfl
theorem runs_mkText (x : Str) : Runs p w b env (PySem.mkText x) s q 1 (.str x s.toks) { s with toks := s.toks + 1 } q := fun _ _ _ _ => rfl
theorem runs_rule (t : String) : Runs p w b env (PySem.rule t) s q 1 () s q := fun _ _ _ _ => rfl
theorem runs_standAt (r : Pos) : Runs p w b env (PySem.standAt r) s q 1 () s r := fun _ _ _ _ => rfl
theorem runs_loadPart {a : Addr} {o : Obj} (part : Option Value) (h : s.heap.get? a = some o) : Runs p w b env (PySem.loadPart a part) s q 1 o s q := fun K H gd lv => by
  show (match (match s.heap.get? a with | some o => Step.go s ⟨K o, cdOf b env, q, Bq⟩ | none => _) with | .go s' t' => segGo treeTable p w 11 (some (Value.ref 6)) 1 0 s' t' | .halt _ _ => none) = _
  rw [h]; rfl
theorem runs_updatePart {a : Addr} {o : Obj} (part : Option Value) (f : Obj → Obj) (h : s.heap.get? a = some o) (ha : Nat.ble 11 a = true) : Runs p w b env (PySem.updatePart a part f) s q 1 () { s with heap := s.heap.update a f } q := fun K H gd lv => by
  have h1 : stepOk 11 (some (Value.ref 6)) ⟨Sem.update a part f (fun x => (Sem.pure x).wrap K H gd lv), cdOf b env, q, Bq⟩ = true := by
    have hc : Thread.calm ⟨Sem.update a part f (fun x => (Sem.pure x).wrap K H gd lv), cdOf b env, q, Bq⟩ = true := rfl
    unfold stepOk
    rw [hc]
    dsimp only
    rw [ha]; rfl
  show (match stepOk 11 (some (Value.ref 6)) ⟨Sem.update a part f (fun x => (Sem.pure x).wrap K H gd lv), cdOf b env, q, Bq⟩ with
      | false => none
      | true => match (if (s.heap.get? a).isSome = true then Step.go { s with heap := s.heap.update a f } ⟨K (), cdOf b env, q, Bq⟩ else _) with | .go s' t' => segGo treeTable p w 11 (some (Value.ref 6)) 1 0 s' t' | .halt _ _ => none) = _
  rw [h1, h]; rfl
theorem runs_keep {m : Sem α} {n : Nat} {a : α} (vs : List Value) (h : Runs p w b env m s q n a s' q') : Runs p w b env (m.keep vs) s q n a s' q' := fun K H gd lv => by
  rw [Sem.keep_eq_wrap, Sem.wrap_wrap]
  exact h _ _ _ _
theorem runs_holding {m : Sem α} {n : Nat} {a : α} (vs : List Value) (h : Runs p w b env m s q n a s' q') : Runs p w b env (PySem.holding vs m) s q n a s' q' := by
  unfold PySem.holding
  split
  · exact h
  · exact runs_keep _ h
theorem runs_onRaise {m : Sem α} {n : Nat} {a : α} (k : Value → Sem Unit) (h : Runs p w b env m s q n a s' q') : Runs p w b env (m.onRaise k) s q n a s' q' := fun K H gd lv => by
  rw [Sem.onRaise_eq_wrap, Sem.wrap_wrap]
  exact h _ _ _ _
theorem runs_hashCall (i : Int) (t : Tok) (refuse : Sem Value) : Runs p w b env (callSpecialIfBoundUnlessNone? (.int i t) "__hash__" refuse) s q 5 (some (.int (rawHash i) s.toks)) { s with toks := s.toks + 1 } q := by
  have z : ∀ w, Runs p w b env (callSpecialIfBoundUnlessNone? (.int i t) "__hash__" refuse) s q 5 (some (.int (rawHash i) s.toks)) { s with toks := s.toks + 1 } q :=
    byRow2 "special-get-raises" (P := fun w => Runs p w b env (callSpecialIfBoundUnlessNone? (.int i t) "__hash__" refuse) s q 5 (some (.int (rawHash i) s.toks)) { s with toks := s.toks + 1 } q)
      (fun w K H gd lv => by kernel_rfl) (fun w K H gd lv => by kernel_rfl)
  exact z w
end
end Mine
end
section
open PySem PySem.W
set_option maxRecDepth 100000
set_option Elab.async false
namespace Mine
section
variable {p : Program} {w : World} {b : List Stmt} {env : Env} {s : Shared} {q : Pos}
theorem reduced_raw (i : Int) : pyHashByItsType.reduced (rawHash i) = Pure.pure (hashInt i) := by
  have h := rawHash_range i
  unfold pyHashByItsType.reduced
  rw [if_pos (by simp only [Bool.and_eq_true, decide_eq_true_eq]; exact ⟨h.1, h.2⟩)]
  rfl
theorem runs_pyHash (i : Int) (t : Tok) : Runs p w b env (PySem.pyHash (.int i t)) s q 5 (hashInt i) { s with toks := s.toks + 1 } q := by
  have e : PySem.pyHash (.int i t) = (callSpecialIfBoundUnlessNone? (.int i t) "__hash__" (do rule "hash.unhashable"; raiseError "TypeError" s!"unhashable type: '{← typeNameOf (.int i t)}'") >>= fun r => match r with
      | some (.int i _) => pyHashByItsType.reduced i
      | some (.bool b) => Pure.pure (if b then 1 else 0)
      | some (.ref a) => do
        match (← load a).data with
        | .prim (.int i _) =>
          rule "hash.int-subclass"
          let h ← pyHashByItsType.reduced i
          point
          Pure.pure h
        | _ => raiseError "TypeError" "__hash__ method should return an integer"
      | some r => do notAStandIn r; raiseError "TypeError" "__hash__ method should return an integer"
      | none => do raiseError "TypeError" s!"unhashable type: '{← typeNameOf (.int i t)}'") := by kernel_rfl
  rw [e]
  refine runs_bind (n := 5) (k := 0) (runs_hashCall i t _) ?_
  show Runs p w b env (pyHashByItsType.reduced (rawHash i)) _ _ _ _ _ _
  rw [reduced_raw]
  exact runs_pure _
def dictO (es : List DictEntry) (ep : Nat) : Obj := { cls := .type "dict", data := .dict es.toArray ep }
theorem places_none {es : List DictEntry} {h : Int} (hn : ∀ e ∈ es, e.hash ≠ h) : placesWithHash es.toArray.size (fun i => es.toArray[i]?.map (·.hash)) h = [] := by
  unfold placesWithHash
  rw [List.filter_eq_nil_iff]
  intro i hi
  simp only [List.mem_range, List.size_toArray] at hi
  simp only [List.getElem?_toArray, List.getElem?_eq_getElem hi, Option.map_some, beq_iff_eq, Option.some.injEq]
  exact hn _ (List.getElem_mem hi)
theorem runs_dictFind_none {d : Addr} {es : List DictEntry} {ep : Nat} {i : Int} {t : Tok} {h : Int} (hd : s.heap.get? d = some (dictO es ep)) (hn : ∀ e ∈ es, e.hash ≠ h) :
    Runs p w b env (dictFind d (.int i t) h) s q 1 none s q := by
  unfold dictFind
  refine runs_holding _ (runs_bind (n := 1) (k := 0) (a := es.toArray) (s' := s) (q' := q) ?_ ?_)
  · unfold dictEntries
    exact runs_bind (n := 1) (k := 0) (runs_loadPart _ hd) (runs_pure _)
  · dsimp only
    rw [places_none hn]
    exact runs_pure _
end
end Mine
end
section
open PySem PySem.W
set_option maxRecDepth 100000
set_option Elab.async false
namespace Mine
/-- the heap with another object at a place -/
def hset (h : Heap) (d : Addr) (o : Obj) : Heap := h.update d fun _ => o
theorem objs_of_get {h : Heap} {d : Addr} {o : Obj} (g : h.get? d = some o) : h.objs[d]? = some o := by
  unfold Heap.get? at g
  split at g
  · cases g
  · exact g
theorem update_hset {h : Heap} {d : Addr} {o : Obj} {f : Obj → Obj} (g : h.get? d = some o) : h.update d f = hset h d (f o) := by
  have e := objs_of_get g
  obtain ⟨objs, l⟩ := h
  show Heap.mk (objs.modify d f) l = Heap.mk (objs.modify d fun _ => f o) l
  congr 1
  apply Array.ext_getElem?
  intro i
  rw [Array.getElem?_modify, Array.getElem?_modify]
  by_cases hi : d = i
  · subst hi; simp [e]
  · simp [hi]
theorem hset_hset (h : Heap) (d : Addr) (a c : Obj) : hset (hset h d a) d c = hset h d c := by
  obtain ⟨objs, l⟩ := h
  show Heap.mk ((objs.modify d fun _ => a).modify d fun _ => c) l = Heap.mk (objs.modify d fun _ => c) l
  congr 1
  apply Array.ext_getElem?
  intro i
  rw [Array.getElem?_modify, Array.getElem?_modify, Array.getElem?_modify]
  by_cases hi : d = i
  · subst hi; cases objs[d]? <;> simp
  · simp [hi]
theorem get_hset {h : Heap} {d : Addr} {o : Obj} (n : Obj) (g : h.get? d = some o) (hf : n.isFreed = false) : (hset h d n).get? d = some n := by
  unfold hset
  exact Heap.get?_update_self _ g hf
theorem get_hset_ne {h : Heap} {d e : Addr} (n : Obj) (hne : e ≠ d) : (hset h d n).get? e = h.get? e := by
  unfold hset
  exact (Heap.SameBut.update ..).2 e hne
theorem hset_comm (h : Heap) {d e : Addr} (hne : d ≠ e) (a c : Obj) : hset (hset h d a) e c = hset (hset h e c) d a := by
  obtain ⟨objs, l⟩ := h
  show Heap.mk ((objs.modify d fun _ => a).modify e fun _ => c) l = Heap.mk ((objs.modify e fun _ => c).modify d fun _ => a) l
  congr 1
  apply Array.ext_getElem?
  intro i
  rw [Array.getElem?_modify, Array.getElem?_modify, Array.getElem?_modify, Array.getElem?_modify]
  by_cases hi : d = i
  · subst hi; simp [Ne.symm hne]
  · by_cases hj : e = i
    · subst hj; simp [hi]
    · simp [hi, hj]
abbrev ent (c : Nat) (v : Str) (t : Nat) : DictEntry := ⟨(c : Int), .int c t, .str v (t + 1)⟩
def entsFrom : Nat → List (Nat × Str) → List DictEntry
  | _, [] => []
  | t, (c, v) :: r => ent c v t :: entsFrom (t + 3) r
theorem entsFrom_length : ∀ (ds : List (Nat × Str)) (t : Nat), (entsFrom t ds).length = ds.length
  | [], _ => rfl
  | (_, _) :: r, t => by simp only [entsFrom, List.length_cons, entsFrom_length r]
theorem entsFrom_append : ∀ (a c : List (Nat × Str)) (t : Nat), entsFrom t (a ++ c) = entsFrom t a ++ entsFrom (t + 3 * a.length) c
  | [], c, t => by simp [entsFrom]
  | (k, v) :: r, c, t => by
    simp only [List.cons_append, entsFrom, entsFrom_append r, List.length_cons]
    rw [show t + 3 + 3 * r.length = t + 3 * (r.length + 1) by omega]
theorem hash_of_mem : ∀ (ds : List (Nat × Str)) (t : Nat) (e : DictEntry), e ∈ entsFrom t ds → ∃ d ∈ ds, e.hash = (d.1 : Int)
  | [], _, _, h => (nomatch h)
  | (c, v) :: r, t, e, h => by
    rcases List.mem_cons.mp h with rfl | h
    · exact ⟨(c, v), List.mem_cons_self .., rfl⟩
    · obtain ⟨d, hd, q⟩ := hash_of_mem r _ e h
      exact ⟨d, List.mem_cons_of_mem _ hd, q⟩
theorem hashInt_nat {c : Nat} (h : c < 2 ^ 60) : hashInt (c : Int) = c := by
  have eM : ((2 ^ 61 - 1 : Nat) : Int) = 2305843009213693951 := by decide
  have h' : c < 1152921504606846976 := h
  have e : rawHash (c : Int) = c := by
    unfold rawHash
    dsimp only
    rw [eM]
    simp only [beq_iff_eq]
    (repeat' split) <;> omega
  unfold hashInt
  rw [e]
  simp only [beq_iff_eq]
  split <;> omega
section
variable {p : Program} {w : World} {b : List Stmt} {env : Env} {s : Shared} {q : Pos}
theorem runs_grow {d : Addr} {es : List DictEntry} {ep : Nat} (part : Option Value) (e : DictEntry) (hd : s.heap.get? d = some (dictO es ep)) (ha : Nat.ble 11 d = true) (hz : es.length ≤ 5000) :
    Runs p w b env (updateDictKeys d (·.push e) part) s q 3 () { s with heap := hset s.heap d (dictO (es ++ [e]) (ep + 1)) } q := by
  have hu : s.heap.update d (Obj.mapDictKeys (·.push e)) = hset s.heap d (dictO (es ++ [e]) (ep + 1)) := by
    rw [update_hset hd]
    congr 1
    show ({ cls := .type "dict", data := .dict (es.toArray.push e) (ep + 1) } : Obj) = _
    unfold dictO
    rw [List.push_toArray]
  unfold updateDictKeys
  refine runs_bind (n := 1) (k := 2) (runs_loadPart part hd) ?_
  show Runs p w b env (updatePart d part (Obj.mapDictKeys (·.push e)) >>= fun _ => lookBehind d part) s q 2 () _ q
  refine runs_bind (n := 1) (k := 1) (runs_updatePart part _ hd ha) ?_
  rw [hu]
  unfold lookBehind
  refine runs_bind (n := 1) (k := 0) (runs_loadPart part (get_hset _ hd rfl)) ?_
  have hp : (dictO (es ++ [e]) (ep + 1)).data.pastItsLine = none := pastItsLine_dict (by rw [List.size_toArray, List.length_append, sizeLine_eq]; simp only [List.length_singleton]; omega)
  rw [hp]
  exact runs_pure _
theorem runs_dictSet {d : Addr} {es : List DictEntry} {ep c : Nat} {v : Str} {t u : Nat} (hd : s.heap.get? d = some (dictO es ep)) (hc : c < 2 ^ 60) (hn : ∀ e ∈ es, e.hash ≠ (c : Int)) (ha : Nat.ble 11 d = true) (hz : es.length ≤ 5000) :
    Runs p w b env (dictSet d (.int c t) (.str v u)) s q 10 () { s with heap := hset s.heap d (dictO (es ++ [⟨(c : Int), .int c t, .str v u⟩]) (ep + 1)), toks := s.toks + 1 } q := by
  unfold dictSet
  refine runs_holding _ (runs_bind (n := 5) (k := 5) (runs_pyHash _ _) ?_)
  rw [hashInt_nat hc]
  unfold dictSetHashed
  refine runs_holding _ (runs_bind (n := 1) (k := 4) (runs_dictFind_none (es := es) (ep := ep) hd hn) ?_)
  show Runs p w b env (PySem.rule "dict.set.new-key-at-the-end" >>= fun _ => updateDictKeys d (·.push ⟨(c : Int), .int c t, .str v u⟩) (keyPart (.int c t))) _ q 4 () _ q
  exact runs_bind (n := 1) (k := 3) (runs_rule _) (runs_grow _ _ hd ha hz)
end
end Mine
end
section
open PySem PySem.W
set_option maxRecDepth 100000
set_option Elab.async false
namespace Mine
/-- keys that are new to a dict, one by one -/
def NewKeys : List (Nat × Str) → List DictEntry → Prop
  | [], _ => True
  | (c, v) :: r, es => c < 2 ^ 60 ∧ (∀ e ∈ es, e.hash ≠ (c : Int)) ∧ ∀ t, NewKeys r (es ++ [ent c v t])
section
variable {p : Program} {w : World} {b : List Stmt} {env : Env} {s : Shared} {r : Pos}
def valS (r : Pos) (v : Str) : Sem Value := do let x ← mkText v; standAt r; pure x
def pairS (r : Pos) (d : Nat × Str) : Sem Value × Sem Value := (mkInt d.1, valS r d.2)
theorem runs_valS {q : Pos} (v : Str) : Runs p w b env (valS r v) s q 2 (.str v s.toks) { s with toks := s.toks + 1 } r := by
  unfold valS
  exact runs_bind (n := 1) (k := 1) (runs_mkText v) (runs_bind (n := 1) (k := 0) (runs_standAt r) (runs_pure _))
def fillBody (d : Addr) (x : Sem Value × Sem Value) (_ : PUnit) : Sem (ForInStep PUnit) := do
  let kv ← x.1
  let vv ← holding [kv] x.2
  holding [kv, vv] (dictSet d kv vv)
  pure (ForInStep.yield PUnit.unit)
theorem runs_fill {d : Addr} (ha : Nat.ble 11 d = true) : ∀ (ds : List (Nat × Str)) (es : List DictEntry) (ep : Nat) (s : Shared), s.heap.get? d = some (dictO es ep) → NewKeys ds es → es.length + ds.length ≤ 5000 →
    Runs p w b env (forIn (ds.map (pairS r)) PUnit.unit (fillBody d)) s r (13 * ds.length) PUnit.unit { s with heap := hset s.heap d (dictO (es ++ entsFrom s.toks ds) (ep + ds.length)), toks := s.toks + 3 * ds.length } r
  | [], es, ep, s, hd, _, _ => by
    have e : hset s.heap d (dictO (es ++ entsFrom s.toks []) (ep + ([] : List (Nat × Str)).length)) = s.heap := by
      have : dictO (es ++ entsFrom s.toks []) (ep + 0) = dictO es ep := by simp [entsFrom]
      rw [show ([] : List (Nat × Str)).length = 0 from rfl, this]
      have := update_hset (f := id) hd
      rw [show (id (dictO es ep) : Obj) = dictO es ep from rfl] at this
      rw [← this]
      show Heap.update s.heap d id = s.heap
      obtain ⟨⟨objs, l⟩, gs, dr, tk, os⟩ := s
      show Heap.mk (objs.modify d id) l = Heap.mk objs l
      congr 1
      apply Array.ext_getElem?
      intro i
      rw [Array.getElem?_modify]
      split <;> simp_all
    rw [e]
    exact runs_pure _
  | (c, v) :: ds, es, ep, s, hd, hk, hl => by
    obtain ⟨h1, h2, h3⟩ := hk
    simp only [List.length_cons] at hl ⊢
    rw [List.map_cons, List.forIn_cons]
    rw [show 13 * (ds.length + 1) = 13 + 13 * ds.length by omega]
    refine runs_bind (n := 13) (k := 13 * ds.length) (a := ForInStep.yield PUnit.unit) (s' := { s with heap := hset s.heap d (dictO (es ++ [ent c v s.toks]) (ep + 1)), toks := s.toks + 3 }) (q' := r) ?_ ?_
    · show Runs p w b env (mkInt c >>= fun kv => holding [kv] (valS r v) >>= fun vv => holding [kv, vv] (dictSet d kv vv) >>= fun _ => pure (ForInStep.yield PUnit.unit)) s r 13 _ _ r
      refine runs_bind (n := 1) (k := 12) (runs_mkInt _) (runs_bind (n := 2) (k := 10) (runs_holding _ (runs_valS v)) (runs_bind (n := 10) (k := 0) (runs_holding _ (runs_dictSet (es := es) (ep := ep) hd h1 h2 ha (by omega))) (runs_pure _)))
    · have hd' : (hset s.heap d (dictO (es ++ [ent c v s.toks]) (ep + 1))).get? d = some (dictO (es ++ [ent c v s.toks]) (ep + 1)) := get_hset _ hd rfl
      have ih := runs_fill ha ds (es ++ [ent c v s.toks]) (ep + 1) { s with heap := hset s.heap d (dictO (es ++ [ent c v s.toks]) (ep + 1)), toks := s.toks + 3 } hd' (h3 _) (by rw [List.length_append]; simp only [List.length_singleton]; omega)
      dsimp only at ih
      rw [hset_hset, List.append_assoc] at ih
      show Runs p w b env (forIn (ds.map (pairS r)) PUnit.unit (fillBody d)) _ r (13 * ds.length) PUnit.unit _ r
      have e : ({ s with heap := hset s.heap d (dictO (es ++ entsFrom s.toks ((c, v) :: ds)) (ep + (ds.length + 1))), toks := s.toks + 3 * (ds.length + 1) } : Shared)
          = { s with heap := hset s.heap d (dictO (es ++ ([ent c v s.toks] ++ entsFrom (s.toks + 3) ds)) (ep + 1 + ds.length)), toks := s.toks + 3 + 3 * ds.length } := by
        rw [show ep + (ds.length + 1) = ep + 1 + ds.length by omega, show s.toks + 3 * (ds.length + 1) = s.toks + 3 + 3 * ds.length by omega]
        rfl
      rw [e]
      exact ih
end
end Mine
end
section
open PySem PySem.W
set_option maxRecDepth 100000
set_option Elab.async false
namespace Mine
def NewEnts : List DictEntry → List DictEntry → Prop
  | [], _ => True
  | e :: r, es => (∃ i t, e.key = .int i t) ∧ (∀ x ∈ es, x.hash ≠ e.hash) ∧ NewEnts r (es ++ [e])
section
variable {p : Program} {w : World} {b : List Stmt} {env : Env} {s : Shared} {q : Pos}
theorem runs_entries {d : Addr} {es : List DictEntry} {ep : Nat} (part : Option Value) (hd : s.heap.get? d = some (dictO es ep)) : Runs p w b env (dictEntries d part) s q 1 es.toArray s q := by
  unfold dictEntries
  exact runs_bind (n := 1) (k := 0) (runs_loadPart _ hd) (runs_pure _)
theorem runs_epoch {d : Addr} {es : List DictEntry} {ep : Nat} (part : Option Value) (hd : s.heap.get? d = some (dictO es ep)) : Runs p w b env (dictEpoch d part) s q 1 ep s q := by
  unfold dictEpoch
  exact runs_bind (n := 1) (k := 0) (runs_loadPart _ hd) (runs_pure _)
theorem runs_dictPut {d : Addr} {es : List DictEntry} {ep : Nat} {i : Int} {t : Tok} {h : Int} {v : Value} (hd : s.heap.get? d = some (dictO es ep)) (hn : ∀ e ∈ es, e.hash ≠ h) (ha : Nat.ble 11 d = true) (hz : es.length ≤ 5000) :
    Runs p w b env (dictPut d h (.int i t) v) s q 4 () { s with heap := hset s.heap d (dictO (es ++ [⟨h, .int i t, v⟩]) (ep + 1)) } q := by
  unfold dictPut
  refine runs_bind (n := 1) (k := 3) (runs_dictFind_none (es := es) (ep := ep) hd hn) ?_
  exact runs_grow none _ hd ha hz
def mergeBody (d a : Addr) (epoch : Nat) (i : Nat) (_ : PUnit) : Sem (ForInStep PUnit) := do
  let some e := (← dictEntries a)[i]? | do let _ ← (unsupported "dict.changed-during-merge" : Sem PUnit); pure (ForInStep.yield PUnit.unit)
  holding [e.key, e.val] (dictPut d e.hash e.key e.val)
  if (← dictEpoch a) != epoch then do let _ ← (unsupported "dict.changed-during-merge" : Sem PUnit); pure (ForInStep.yield PUnit.unit)
  else pure (ForInStep.yield PUnit.unit)
theorem runs_merge {d a : Addr} (ha : Nat.ble 11 d = true) (hda : a ≠ d) (us : List DictEntry) (up : Nat) : ∀ (rest done es : List DictEntry) (ep : Nat) (s : Shared), us = done ++ rest → s.heap.get? d = some (dictO es ep) → s.heap.get? a = some (dictO us up) → NewEnts rest es → es.length + rest.length ≤ 5000 →
    Runs p w b env (forIn (List.range' done.length rest.length) PUnit.unit (mergeBody d a up)) s q (6 * rest.length) PUnit.unit { s with heap := hset s.heap d (dictO (es ++ rest) (ep + rest.length)) } q
  | [], done, es, ep, s, _, hd, _, _, _ => by
    have e : hset s.heap d (dictO (es ++ []) (ep + ([] : List DictEntry).length)) = s.heap := by
      rw [show ([] : List DictEntry).length = 0 from rfl, List.append_nil, Nat.add_zero]
      have := update_hset (f := id) hd
      rw [show (id (dictO es ep) : Obj) = dictO es ep from rfl] at this
      rw [← this]
      obtain ⟨⟨objs, l⟩, gs, dr, tk, os⟩ := s
      show Heap.mk (objs.modify d id) l = Heap.mk objs l
      congr 1
      apply Array.ext_getElem?
      intro i
      rw [Array.getElem?_modify]
      split <;> simp_all
    rw [e]
    exact runs_pure _
  | e :: rest, done, es, ep, s, hus, hd, hu, hk, hl => by
    obtain ⟨⟨i, t, hkey⟩, h2, h3⟩ := hk
    simp only [List.length_cons] at hl ⊢
    rw [List.range'_succ, List.forIn_cons]
    rw [show 6 * (rest.length + 1) = 6 + 6 * rest.length by omega]
    have hat : us.toArray[done.length]? = some e := by
      rw [List.getElem?_toArray, hus]; simp
    have hd' : (hset s.heap d (dictO (es ++ [e]) (ep + 1))).get? d = some (dictO (es ++ [e]) (ep + 1)) := get_hset _ hd rfl
    have hu' : (hset s.heap d (dictO (es ++ [e]) (ep + 1))).get? a = some (dictO us up) := (get_hset_ne _ hda).trans hu
    refine runs_bind (n := 6) (k := 6 * rest.length) (a := ForInStep.yield PUnit.unit) (s' := { s with heap := hset s.heap d (dictO (es ++ [e]) (ep + 1)) }) (q' := q) ?_ ?_
    · unfold mergeBody
      refine runs_bind (n := 1) (k := 5) (runs_entries none hu) ?_
      rw [hat]
      have e3 : (⟨e.hash, .int i t, e.val⟩ : DictEntry) = e := by rw [← hkey]
      have put : Runs p w b env (dictPut d e.hash e.key e.val) s q 4 () { s with heap := hset s.heap d (dictO (es ++ [e]) (ep + 1)) } q := by
        have z := runs_dictPut (p := p) (w := w) (b := b) (env := env) (q := q) (i := i) (t := t) (h := e.hash) (v := e.val) hd h2 ha (by omega)
        rw [e3] at z
        rw [hkey]
        exact z
      refine runs_bind (n := 4) (k := 1) (runs_holding _ put) ?_
      refine runs_bind (n := 1) (k := 0) (runs_epoch none hu') ?_
      rw [if_neg (by simp)]
      exact runs_pure _
    · have ih := runs_merge ha hda us up rest (done ++ [e]) (es ++ [e]) (ep + 1) { s with heap := hset s.heap d (dictO (es ++ [e]) (ep + 1)) } (by rw [hus, List.append_assoc]; rfl) hd' hu' h3 (by rw [List.length_append]; simp only [List.length_singleton]; omega)
      dsimp only at ih
      rw [hset_hset, List.append_assoc, List.length_append, List.length_singleton] at ih
      rw [show ep + (rest.length + 1) = ep + 1 + rest.length by omega]
      exact ih
end
end Mine
end
section
open PySem PySem.W
set_option maxRecDepth 100000
set_option Elab.async false
namespace Mine
section
variable {p : Program} {w : World} {b : List Stmt} {env : Env} {s : Shared} {q r : Pos}
theorem runs_typeOf {a : Addr} {es : List DictEntry} {ep : Nat} (hd : s.heap.get? a = some (dictO es ep)) : Runs p w b env (typeOf (.ref a)) s q 1 (.type "dict") s q := by
  show Runs p w b env (loadPart a none >>= fun o => pure o.cls) s q 1 (.type "dict") s q
  exact runs_bind (n := 1) (k := 0) (runs_loadPart none hd) (runs_pure _)
theorem sub_dict : isSubtype (.type "dict") (.type "dict") = pure true := by rw [isSubtype_type]; kernel_rfl
theorem runs_mapping {d a : Addr} (ha : Nat.ble 11 d = true) (hda : a ≠ d) (hsys : (a == sysModules) = false) {us es : List DictEntry} {up ep : Nat} (hd : s.heap.get? d = some (dictO es ep)) (hu : s.heap.get? a = some (dictO us up)) (hne : es ≠ []) (hk : NewEnts us es) (hl : es.length + us.length ≤ 5000) :
    Runs p w b env (mergeMapping d (.ref a) false) s q (5 + 6 * us.length) () { s with heap := hset s.heap d (dictO (es ++ us) (ep + us.length)) } q := by
  have hemp : es.toArray.isEmpty = false := by cases es with | nil => exact absurd rfl hne | cons => rfl
  unfold mergeMapping
  rw [show 5 + 6 * us.length = 1 + (1 + (0 + (1 + (1 + (1 + (6 * us.length + 0)))))) by omega]
  refine runs_bind (n := 1) (a := true) (s' := s) (q' := q) ?_ ?_
  · unfold isInstance
    refine runs_bind (n := 1) (k := 0) (runs_typeOf hu) ?_
    rw [sub_dict]
    exact runs_pure _
  rw [if_pos rfl]
  refine runs_bind (n := 1) (a := some (.builtin "dict.__iter__")) (s' := s) (q' := q) ?_ ?_
  · unfold specialOf
    refine runs_bind (n := 1) (k := 0) (runs_typeOf hu) ?_
    rw [F.slot_dict_iter.lookup]
    exact runs_pure _
  refine runs_bind (n := 0) (a := true) (s' := s) (q' := q) ?_ ?_
  · exact runs_pure _
  show Runs p w b env (if (a == sysModules) = true then _ else (dictEntries d >>= fun es => if es.isEmpty = true then _ else (dictEntries a >>= fun us => dictEpoch a >>= fun epoch => forIn (List.range us.size) PUnit.unit (mergeBody d a epoch) >>= fun _ => pure ()))) s q _ () _ q
  rw [if_neg (by rw [hsys]; exact Bool.false_ne_true)]
  refine runs_bind (n := 1) (runs_entries none hd) ?_
  rw [if_neg (by rw [hemp]; exact Bool.false_ne_true)]
  refine runs_bind (n := 1) (runs_entries none hu) ?_
  refine runs_bind (n := 1) (runs_epoch none hu) ?_
  refine runs_bind (n := 6 * us.length) (k := 0) (a := PUnit.unit) ?_ (runs_pure _)
  rw [List.size_toArray, List.range_eq_range']
  exact runs_merge ha hda us up us [] es ep s rfl hd hu hk hl
theorem runs_subLong {h : Heap} {gs : Array GenState} {dr : Drawn} {tk : Nat} {os : OsState} (ds : List (Nat × Str)) (hlong : ¬ ds.length ≤ 15) (hk : NewKeys ds []) (hl : ds.length ≤ 5000) (hbig : Nat.ble 11 h.objs.size = true) :
    Runs p w b env (subDict (ds.map (pairS r))) ⟨h, gs, dr, tk, os⟩ r (2 + 13 * ds.length) h.objs.size ⟨h.push (dictO (entsFrom tk ds) ds.length), gs, dr, tk + 3 * ds.length, os⟩ r := by
  have g0 : (h.push (dictO [] 0)).get? h.objs.size = some (dictO [] 0) := Heap.get?_push_size _ rfl
  have e1 : hset (h.push (dictO [] 0)) h.objs.size (dictO ([] ++ entsFrom tk ds) (0 + ds.length)) = h.push (dictO (entsFrom tk ds) ds.length) := by
    obtain ⟨objs, l⟩ := h
    show Heap.mk ((objs.push _).modify objs.size _) l = Heap.mk (objs.push _) l
    congr 1
    apply Array.ext_getElem?
    intro i
    rw [Array.getElem?_modify, Array.getElem?_push, Array.getElem?_push]
    by_cases hi : objs.size = i
    · subst hi; simp
    · simp [hi, Ne.symm hi]
  unfold subDict
  rw [show 2 + 13 * ds.length = 1 + ((1 + (13 * ds.length + 0)) + 0) by omega]
  refine runs_bind (n := 1) (runs_alloc _) ?_
  refine runs_bind (n := 1 + (13 * ds.length + 0)) (k := 0) (a := ()) (q' := r) (s' := ⟨h.push (dictO (entsFrom tk ds) ds.length), gs, dr, tk + 3 * ds.length, os⟩) (runs_holding _ ?_) (runs_pure _)
  rw [if_neg (by rw [List.length_map]; exact hlong)]
  refine runs_bind (n := 1) (runs_rule _) ?_
  refine runs_bind (n := 13 * ds.length) (k := 0) (a := PUnit.unit) ?_ (runs_pure _)
  have z := runs_fill (p := p) (w := w) (b := b) (env := env) (r := r) (d := h.objs.size) hbig ds [] 0 ⟨h.push (dictO [] 0), gs, dr, tk, os⟩ g0 hk (by simpa using hl)
  dsimp only at z
  rw [e1] at z
  exact z
/-- the entries of a short part: all its texts are read first -/
def entsShort : Nat → List (Nat × Str) → List DictEntry
  | _, [] => []
  | t, (c, v) :: r => ent c v t :: entsShort (t + 2) r
def valsShort : Nat → List (Nat × Str) → List (Value × Value)
  | _, [] => []
  | t, (c, v) :: r => (.int c t, .str v (t + 1)) :: valsShort (t + 2) r
theorem runs_pairs : ∀ (ds : List (Nat × Str)) (s : Shared), Runs p w b env (evalPairs (ds.map (pairS r))) s r (3 * ds.length) (valsShort s.toks ds) { s with toks := s.toks + 2 * ds.length } r
  | [], s => runs_pure _
  | (c, v) :: ds, s => by
    have ih := runs_pairs ds { s with toks := s.toks + 2 }
    simp only [List.map_cons, List.length_cons]
    unfold evalPairs
    rw [show 3 * (ds.length + 1) = 1 + (2 + (3 * ds.length + 0)) by omega, show s.toks + 2 * (ds.length + 1) = s.toks + 2 + 2 * ds.length by omega]
    refine runs_bind (n := 1) (runs_mkInt _) (runs_bind (n := 2) (runs_holding _ (runs_valS v)) (runs_bind (n := 3 * ds.length) (k := 0) (runs_holding _ ih) (runs_pure _)))
def putBody (d : Addr) (x : Value × Value) (_ : PUnit) : Sem (ForInStep PUnit) := do
  dictSet d x.1 x.2
  pure (ForInStep.yield PUnit.unit)
def NewShort : List (Nat × Str) → List DictEntry → Prop
  | [], _ => True
  | (c, v) :: r, es => c < 2 ^ 60 ∧ (∀ e ∈ es, e.hash ≠ (c : Int)) ∧ ∀ t, NewShort r (es ++ [ent c v t])
theorem runs_puts {d : Addr} (ha : Nat.ble 11 d = true) : ∀ (ds : List (Nat × Str)) (t : Nat) (es : List DictEntry) (ep : Nat) (s : Shared), s.heap.get? d = some (dictO es ep) → NewShort ds es → es.length + ds.length ≤ 5000 →
    Runs p w b env (forIn (valsShort t ds) PUnit.unit (putBody d)) s q (10 * ds.length) PUnit.unit { s with heap := hset s.heap d (dictO (es ++ entsShort t ds) (ep + ds.length)), toks := s.toks + ds.length } q
  | [], t, es, ep, s, hd, _, _ => by
    have e : hset s.heap d (dictO (es ++ []) (ep + ([] : List (Nat × Str)).length)) = s.heap := by
      rw [show ([] : List (Nat × Str)).length = 0 from rfl, List.append_nil, Nat.add_zero]
      have := update_hset (f := id) hd
      rw [show (id (dictO es ep) : Obj) = dictO es ep from rfl] at this
      rw [← this]
      obtain ⟨⟨objs, l⟩, gs, dr, tk, os⟩ := s
      show Heap.mk (objs.modify d id) l = Heap.mk objs l
      congr 1
      apply Array.ext_getElem?
      intro i
      rw [Array.getElem?_modify]
      split <;> simp_all
    show Runs p w b env _ s q 0 _ { s with heap := hset s.heap d (dictO (es ++ []) (ep + ([] : List (Nat × Str)).length)) } q
    rw [e]
    exact runs_pure _
  | (c, v) :: ds, t, es, ep, s, hd, hk, hl => by
    obtain ⟨h1, h2, h3⟩ := hk
    simp only [List.length_cons] at hl ⊢
    show Runs p w b env (forIn ((.int c t, .str v (t + 1)) :: valsShort (t + 2) ds) PUnit.unit (putBody d)) _ _ _ _ _ _
    rw [List.forIn_cons, show 10 * (ds.length + 1) = (10 + 0) + 10 * ds.length by omega]
    have hd' : (hset s.heap d (dictO (es ++ [ent c v t]) (ep + 1))).get? d = some (dictO (es ++ [ent c v t]) (ep + 1)) := get_hset _ hd rfl
    refine runs_bind (n := 10 + 0) (k := 10 * ds.length) (a := ForInStep.yield PUnit.unit) (s' := { s with heap := hset s.heap d (dictO (es ++ [ent c v t]) (ep + 1)), toks := s.toks + 1 }) (q' := q) ?_ ?_
    · exact runs_bind (n := 10) (k := 0) (runs_dictSet (es := es) (ep := ep) hd h1 h2 ha (by omega)) (runs_pure _)
    · have ih := runs_puts ha ds (t + 2) (es ++ [ent c v t]) (ep + 1) { s with heap := hset s.heap d (dictO (es ++ [ent c v t]) (ep + 1)), toks := s.toks + 1 } hd' (h3 _) (by rw [List.length_append]; simp only [List.length_singleton]; omega)
      dsimp only at ih
      rw [hset_hset, List.append_assoc] at ih
      rw [show ep + (ds.length + 1) = ep + 1 + ds.length by omega, show s.toks + (ds.length + 1) = s.toks + 1 + ds.length by omega]
      exact ih
theorem runs_subShort {h : Heap} {gs : Array GenState} {dr : Drawn} {tk : Nat} {os : OsState} (ds : List (Nat × Str)) (hshort : ds.length ≤ 15) (hk : NewShort ds []) (hbig : Nat.ble 11 h.objs.size = true) :
    Runs p w b env (subDict (ds.map (pairS r))) ⟨h, gs, dr, tk, os⟩ r (1 + 13 * ds.length) h.objs.size ⟨h.push (dictO (entsShort tk ds) ds.length), gs, dr, tk + 3 * ds.length, os⟩ r := by
  have g0 : (h.push (dictO [] 0)).get? h.objs.size = some (dictO [] 0) := Heap.get?_push_size _ rfl
  have e1 : hset (h.push (dictO [] 0)) h.objs.size (dictO ([] ++ entsShort tk ds) (0 + ds.length)) = h.push (dictO (entsShort tk ds) ds.length) := by
    obtain ⟨objs, l⟩ := h
    show Heap.mk ((objs.push _).modify objs.size _) l = Heap.mk (objs.push _) l
    congr 1
    apply Array.ext_getElem?
    intro i
    rw [Array.getElem?_modify, Array.getElem?_push, Array.getElem?_push]
    by_cases hi : objs.size = i
    · subst hi; simp
    · simp [hi, Ne.symm hi]
  unfold subDict
  rw [show 1 + 13 * ds.length = 1 + ((3 * ds.length + (10 * ds.length + 0)) + 0) by omega]
  refine runs_bind (n := 1) (runs_alloc _) ?_
  refine runs_bind (n := 3 * ds.length + (10 * ds.length + 0)) (k := 0) (a := ()) (q' := r) (s' := ⟨h.push (dictO (entsShort tk ds) ds.length), gs, dr, tk + 3 * ds.length, os⟩) (runs_holding _ ?_) (runs_pure _)
  rw [if_pos (by rw [List.length_map]; exact hshort)]
  refine runs_bind (n := 3 * ds.length) (runs_pairs ds _) (runs_holding _ ?_)
  refine runs_bind (n := 10 * ds.length) (k := 0) (a := PUnit.unit) ?_ (runs_pure _)
  have z := runs_puts (p := p) (w := w) (b := b) (env := env) (q := r) (d := h.objs.size) hbig ds tk [] 0 ⟨h.push (dictO [] 0), gs, dr, tk + 2 * ds.length, os⟩ g0 hk (by simp only [List.length_nil]; omega)
  dsimp only at z
  rw [e1, show tk + 2 * ds.length + ds.length = tk + 3 * ds.length by omega] at z
  exact z
end
end Mine
end
section
open PySem PySem.W
set_option maxRecDepth 100000
set_option Elab.async false
namespace Mine
abbrev PS := Sem Value × Sem Value
def flushR (run : List PS) (main : Option Addr) : Sem (Option Addr) :=
  if run.isEmpty = true then pure main
  else match main with
    | none => do
      let d ← subDict run
      pure (some d)
    | some d => do
      let sub ← holding [Value.ref d] (subDict run)
      (holding [Value.ref d, Value.ref sub] (mergeMapping d (Value.ref sub) false)).onRaise fun x => do
          let _ ← holding [Value.ref d, x] (runValue (Code.builtin "proto.let_go" { }))
          pure ()
      pure (some d)
def itemO (x : PS) : Option (Sem Value) × Sem Value := (some x.1, x.2)
def dispBody (x : PS) (st : Option Addr × List PS) : Sem (ForInStep (Option Addr × List PS)) :=
  if ((st.2 ++ [x]).length == 17) = true then do
    let main ← flushR (st.2 ++ [x]) st.1
    pure (ForInStep.yield (main, []))
  else pure (ForInStep.yield (st.1, st.2 ++ [x]))
def dispLoop (xs : List PS) (st : Option Addr × List PS) : Sem (Option Addr × List PS) := forIn xs st dispBody
theorem dispLoop_cons (x : PS) (xs : List PS) (st : Option Addr × List PS) : dispLoop (x :: xs) st = (dispBody x st >>= fun r => match r with | .done b => pure b | .yield b => dispLoop xs b) := by
  unfold dispLoop
  rw [List.forIn_cons]
  congr 1
  funext r
  cases r <;> rfl
theorem display_eq (xs : List PS) : dictDisplay (xs.map itemO) = (dispLoop xs (none, []) >>= fun st => flushR st.2 st.1 >>= fun m => match m with | some d => pure (Value.ref d) | none => newDict) := by
  unfold dictDisplay dispLoop
  dsimp only
  rw [List.forIn_map]
  rfl
theorem loop_part : ∀ (xs run : List PS) (main : Option Addr), run.length + xs.length < 17 → dispLoop xs (main, run) = pure (main, run ++ xs)
  | [], run, main, _ => by rw [List.append_nil]; rfl
  | x :: xs, run, main, h => by
    simp only [List.length_cons] at h
    rw [dispLoop_cons]
    unfold dispBody
    rw [if_neg (by simp only [beq_iff_eq, List.length_append, List.length_singleton]; omega), pure_bind]
    show dispLoop xs (main, run ++ [x]) = _
    rw [loop_part xs (run ++ [x]) main (by rw [List.length_append, List.length_singleton]; omega), List.append_assoc]
    rfl
theorem loop_full : ∀ (xs run rest : List PS) (main : Option Addr), xs ≠ [] → run.length + xs.length = 17 → dispLoop (xs ++ rest) (main, run) = (flushR (run ++ xs) main >>= fun m => dispLoop rest (m, []))
  | [], _, _, _, h, _ => absurd rfl h
  | [x], run, rest, main, _, h => by
    simp only [List.length_singleton] at h
    rw [List.cons_append, List.nil_append, dispLoop_cons]
    unfold dispBody
    rw [if_pos (by simp only [beq_iff_eq, List.length_append, List.length_singleton]; omega), bind_assoc]
    simp only [pure_bind]
  | x :: y :: xs, run, rest, main, _, h => by
    simp only [List.length_cons] at h
    rw [List.cons_append, dispLoop_cons]
    unfold dispBody
    rw [if_neg (by simp only [beq_iff_eq, List.length_append, List.length_singleton]; omega), pure_bind]
    show dispLoop ((y :: xs) ++ rest) (main, run ++ [x]) = _
    rw [loop_full (y :: xs) (run ++ [x]) rest main (by simp) (by simp only [List.length_append, List.length_nil, List.length_cons]; omega), List.append_assoc]
    rfl
end Mine
end
section
open PySem PySem.W
set_option maxRecDepth 100000
set_option Elab.async false
namespace Mine
/-- the keys rise, from k on -/
def IncFrom : Nat → List (Nat × Str) → Prop
  | _, [] => True
  | k, (c, _) :: r => k ≤ c ∧ c < 2 ^ 60 ∧ IncFrom (c + 1) r
def incB : Nat → List (Nat × Str) → Bool
  | _, [] => true
  | k, (c, _) :: r => Nat.ble k c && (Nat.ble (c + 1) 1000000 && incB (c + 1) r)
theorem incB_of : ∀ {ds : List (Nat × Str)} {k : Nat}, incB k ds = true → IncFrom k ds
  | [], _, _ => trivial
  | (c, _) :: r, k, h => by
    unfold incB at h
    simp only [Bool.and_eq_true, Nat.ble_eq] at h
    exact ⟨h.1, by omega, incB_of h.2.2⟩
def Under (es : List DictEntry) (k : Nat) : Prop := ∀ e ∈ es, e.hash < (k : Int)
theorem Under.mono {es : List DictEntry} {k k' : Nat} (h : Under es k) (hk : k ≤ k') : Under es k' := fun e he => by have := h e he; omega
theorem Under.snoc {es : List DictEntry} {k c : Nat} {v : Str} {t : Nat} (h : Under es k) (hk : k ≤ c) : Under (es ++ [ent c v t]) (c + 1) := fun e he => by
  rcases List.mem_append.mp he with he | he
  · have := h e he; omega
  · rw [List.mem_singleton.mp he]; show (c : Int) < _; omega
theorem newKeys_of : ∀ {ds : List (Nat × Str)} {es : List DictEntry} {k : Nat}, IncFrom k ds → Under es k → NewKeys ds es
  | [], _, _, _, _ => trivial
  | (c, v) :: r, es, k, h, u => ⟨h.2.1, fun e he q => by have := u e he; have := h.1; omega, fun t => newKeys_of h.2.2 (u.snoc h.1)⟩
theorem newShort_of : ∀ {ds : List (Nat × Str)} {es : List DictEntry} {k : Nat}, IncFrom k ds → Under es k → NewShort ds es
  | [], _, _, _, _ => trivial
  | (c, v) :: r, es, k, h, u => ⟨h.2.1, fun e he q => by have := u e he; have := h.1; omega, fun t => newShort_of h.2.2 (u.snoc h.1)⟩
theorem newEnts_of : ∀ {ds : List (Nat × Str)} {es : List DictEntry} {k t : Nat}, IncFrom k ds → Under es k → NewEnts (entsFrom t ds) es
  | [], _, _, _, _, _ => trivial
  | (c, v) :: r, es, k, t, h, u => ⟨⟨c, t, rfl⟩, fun e he q => by have := u e he; have := h.1; have q' : e.hash = (c : Int) := q; omega, newEnts_of h.2.2 (u.snoc h.1)⟩
theorem newEntsShort_of : ∀ {ds : List (Nat × Str)} {es : List DictEntry} {k t : Nat}, IncFrom k ds → Under es k → NewEnts (entsShort t ds) es
  | [], _, _, _, _, _ => trivial
  | (c, v) :: r, es, k, t, h, u => ⟨⟨c, t, rfl⟩, fun e he q => by have := u e he; have := h.1; have q' : e.hash = (c : Int) := q; omega, newEntsShort_of h.2.2 (u.snoc h.1)⟩
theorem inc_split : ∀ {a c : List (Nat × Str)} {es : List DictEntry} {k : Nat} (t : Nat), IncFrom k (a ++ c) → Under es k → IncFrom k a ∧ ∃ k', IncFrom k' c ∧ Under (es ++ entsFrom t a) k'
  | [], c, es, k, t, h, u => ⟨trivial, k, h, by rw [entsFrom, List.append_nil]; exact u⟩
  | (x, v) :: a, c, es, k, t, h, u => by
    obtain ⟨i1, k', i2, i3⟩ := inc_split (t + 3) h.2.2 (u.snoc (v := v) (t := t) h.1)
    refine ⟨⟨h.1, h.2.1, i1⟩, k', i2, ?_⟩
    rw [List.append_assoc] at i3
    exact i3
def pushAll (h : Heap) (os : List Obj) : Heap := ⟨h.objs ++ os.toArray, h.life⟩
theorem push_pushAll (h : Heap) (o : Obj) (os : List Obj) : pushAll (h.push o) os = pushAll h (o :: os) := by
  obtain ⟨objs, l⟩ := h
  show Heap.mk (objs.push o ++ os.toArray) l = Heap.mk (objs ++ (o :: os).toArray) l
  congr 1
  apply Array.toList_inj.mp
  simp
theorem pushAll_hset (h : Heap) (os : List Obj) {M : Addr} (o : Obj) (hM : M < h.objs.size) : pushAll (hset h M o) os = hset (pushAll h os) M o := by
  obtain ⟨objs, l⟩ := h
  show Heap.mk (objs.modify M (fun _ => o) ++ os.toArray) l = Heap.mk ((objs ++ os.toArray).modify M fun _ => o) l
  congr 1
  apply Array.ext_getElem?
  intro i
  rw [Array.getElem?_modify, Array.getElem?_append, Array.getElem?_append, Array.getElem?_modify, Array.size_modify]
  have hM' : M < objs.size := hM
  by_cases hi : M = i
  · subst hi; simp [hM']
  · simp [hi]
/-- the parts' own dicts -/
def subsOf : Nat → List (List (Nat × Str)) → List Obj
  | _, [] => []
  | t, c :: cs => dictO (entsFrom t c) c.length :: subsOf (t + 3 * c.length) cs
def stepsOf : List (List (Nat × Str)) → Nat
  | [] => 0
  | c :: cs => (2 + 13 * c.length) + (5 + 6 * c.length) + stepsOf cs
section
variable {p : Program} {w : World} {b : List Stmt} {env : Env} {r : Pos} {gs : Array GenState} {dr : Drawn} {os : OsState}
theorem runs_next {M tk : Nat} {h : Heap} {es : List DictEntry} {ep k : Nat} (c : List (Nat × Str)) (hc : c.length = 17) (hd : h.get? M = some (dictO es ep)) (hM : Nat.ble 11 M = true) (hne : es ≠ []) (hk : IncFrom k c) (hu : Under es k) (hl : es.length ≤ 4900)
    (hs : (h.objs.size == sysModules) = false) :
    Runs p w b env (flushR (c.map (pairS r)) (some M)) ⟨h, gs, dr, tk, os⟩ r ((2 + 13 * c.length) + (5 + 6 * c.length)) (some M)
      ⟨hset (h.push (dictO (entsFrom tk c) c.length)) M (dictO (es ++ entsFrom tk c) (ep + c.length)), gs, dr, tk + 3 * c.length, os⟩ r := by
  have hlt : M < h.objs.size := Heap.lt_size hd
  unfold flushR
  rw [if_neg (by cases c with | nil => simp at hc | cons => simp)]
  refine runs_bind (n := 2 + 13 * c.length) (runs_holding _ (runs_subLong c (by omega) (newKeys_of hk fun _ he => nomatch he) (by omega) (by rw [Nat.ble_eq] at *; omega))) ?_
  rw [show 5 + 6 * c.length = (5 + 6 * c.length) + 0 by omega]
  have z := runs_mapping (p := p) (w := w) (b := b) (env := env) (q := r) (s := ⟨h.push (dictO (entsFrom tk c) c.length), gs, dr, tk + 3 * c.length, os⟩) (d := M) (a := h.objs.size) (es := es) (ep := ep) (us := entsFrom tk c) (up := c.length) hM (Nat.ne_of_gt hlt) hs
    (Heap.get?_push_of_some _ hd) (Heap.get?_push_size _ rfl) hne (newEnts_of hk hu) (by rw [entsFrom_length]; omega)
  rw [entsFrom_length] at z
  exact runs_bind (n := 5 + 6 * c.length) (k := 0) (runs_onRaise _ (runs_holding _ z)) (runs_pure _)
theorem runs_chunks {M : Nat} (hM : Nat.ble 11 M = true) (tl : List (Nat × Str)) (htl : tl.length < 17) : ∀ (cs : List (List (Nat × Str))) (tk : Nat) (h : Heap) (es : List DictEntry) (k : Nat), (∀ c ∈ cs, c.length = 17) → h.get? M = some (dictO es es.length) → es ≠ [] →
    IncFrom k (cs.flatten ++ tl) → Under es k → es.length + 17 * cs.length ≤ 4900 → sysModules < h.objs.size →
    Runs p w b env (dispLoop ((cs.flatten ++ tl).map (pairS r)) (some M, [])) ⟨h, gs, dr, tk, os⟩ r (stepsOf cs) (some M, tl.map (pairS r))
      ⟨hset (pushAll h (subsOf tk cs)) M (dictO (es ++ entsFrom tk cs.flatten) (es.length + 17 * cs.length)), gs, dr, tk + 3 * (17 * cs.length), os⟩ r
  | [], tk, h, es, k, _, hd, _, _, _, _, _ => by
    have e : hset (pushAll h (subsOf tk [])) M (dictO (es ++ entsFrom tk ([] : List (List (Nat × Str))).flatten) (es.length + 17 * ([] : List (List (Nat × Str))).length)) = h := by
      have e1 : pushAll h (subsOf tk []) = h := by
        obtain ⟨objs, l⟩ := h
        show Heap.mk (objs ++ #[]) l = Heap.mk objs l
        rw [Array.append_empty]
      have e2 : dictO (es ++ entsFrom tk ([] : List (List (Nat × Str))).flatten) (es.length + 17 * ([] : List (List (Nat × Str))).length) = dictO es es.length := by simp [entsFrom]
      rw [e1, e2]
      have := update_hset (f := id) hd
      rw [show (id (dictO es es.length) : Obj) = dictO es es.length from rfl] at this
      rw [← this]
      obtain ⟨objs, l⟩ := h
      show Heap.mk (objs.modify M id) l = Heap.mk objs l
      congr 1
      apply Array.ext_getElem?
      intro i
      rw [Array.getElem?_modify]
      split <;> simp_all
    rw [e]
    show Runs p w b env (dispLoop (tl.map (pairS r)) (some M, [])) _ _ _ _ _ _
    rw [loop_part _ _ _ (by simpa using htl)]
    exact runs_pure _
  | c :: cs, tk, h, es, k, hcs, hd, hne, hi, hu, hl, hs => by
    have hc : c.length = 17 := hcs c (List.mem_cons_self ..)
    simp only [List.length_cons] at hl
    have hlt : M < h.objs.size := Heap.lt_size hd
    rw [List.flatten_cons, List.append_assoc] at hi
    obtain ⟨i1, k', i2, i3⟩ := inc_split tk hi hu
    have e0 : (c :: cs).flatten ++ tl = c ++ (cs.flatten ++ tl) := by rw [List.flatten_cons, List.append_assoc]
    rw [e0, List.map_append, loop_full _ [] _ _ (by cases c with | nil => simp at hc | cons => simp) (by simpa using hc), List.nil_append]
    show Runs p w b env _ _ _ ((2 + 13 * c.length) + (5 + 6 * c.length) + stepsOf cs) _ _ _
    refine runs_bind (n := (2 + 13 * c.length) + (5 + 6 * c.length)) (runs_next c hc hd hM hne i1 hu (by omega) (beq_eq_false_iff_ne.mpr (Nat.ne_of_gt hs))) ?_
    have hg : (hset (h.push (dictO (entsFrom tk c) c.length)) M (dictO (es ++ entsFrom tk c) (es.length + c.length))).get? M = some (dictO (es ++ entsFrom tk c) (es ++ entsFrom tk c).length) := by
      rw [show (es ++ entsFrom tk c).length = es.length + c.length by rw [List.length_append, entsFrom_length]]
      exact get_hset _ (Heap.get?_push_of_some _ hd) rfl
    have hsz : (hset (h.push (dictO (entsFrom tk c) c.length)) M (dictO (es ++ entsFrom tk c) (es.length + c.length))).objs.size = h.objs.size + 1 := by
      obtain ⟨objs, l⟩ := h
      show ((objs.push _).modify _ _).size = objs.size + 1
      rw [Array.size_modify, Array.size_push]
    have ih := runs_chunks hM tl htl cs (tk + 3 * c.length) _ (es ++ entsFrom tk c) k' (fun x hx => hcs x (List.mem_cons_of_mem _ hx)) hg (by intro q; exact hne (List.append_eq_nil_iff.mp q).1) i2 i3
      (by rw [List.length_append, entsFrom_length]; omega) (by rw [hsz]; exact Nat.lt_succ_of_lt hs)
    have hM2 : M < (h.push (dictO (entsFrom tk c) c.length)).objs.size := by
      obtain ⟨objs, l⟩ := h
      show M < (objs.push _).size
      rw [Array.size_push]
      exact Nat.lt_succ_of_lt hlt
    rw [pushAll_hset _ _ _ hM2, hset_hset, push_pushAll, List.append_assoc, ← entsFrom_append] at ih
    rw [List.length_append, entsFrom_length] at ih
    rw [show (c :: cs).flatten = c ++ cs.flatten from List.flatten_cons]
    show Runs p w b env _ _ _ _ _ ⟨hset (pushAll h (dictO (entsFrom tk c) c.length :: subsOf (tk + 3 * c.length) cs)) M _, gs, dr, _, os⟩ _
    simp only [List.length_cons]
    rw [show es.length + 17 * (cs.length + 1) = es.length + c.length + 17 * cs.length by omega, show tk + 3 * (17 * (cs.length + 1)) = tk + 3 * c.length + 3 * (17 * cs.length) by omega]
    exact ih
end
end Mine
end
section
open PySem PySem.W
set_option maxRecDepth 100000
set_option Elab.async false
namespace Mine
theorem hset_first (h : Heap) (o₀ o : Obj) (os : List Obj) : hset (pushAll (h.push o₀) os) h.objs.size o = pushAll h (o :: os) := by
  obtain ⟨objs, l⟩ := h
  show Heap.mk ((objs.push o₀ ++ os.toArray).modify objs.size fun _ => o) l = Heap.mk (objs ++ (o :: os).toArray) l
  congr 1
  apply Array.ext_getElem?
  intro i
  rw [Array.getElem?_modify, Array.getElem?_append, Array.getElem?_append, Array.getElem?_push, Array.size_push]
  by_cases hi : objs.size = i
  · subst hi; simp
  · by_cases hlt : i < objs.size
    · have : i < objs.size + 1 := by omega
      simp [hi, Ne.symm hi, hlt, this]
    · have h1 : ¬ i < objs.size + 1 := by omega
      obtain ⟨j, rfl⟩ : ∃ j, i = objs.size + 1 + j := ⟨i - (objs.size + 1), by omega⟩
      simp [hi, hlt, h1]
      rw [show objs.size + 1 + j - objs.size = j + 1 by omega, List.getElem?_cons_succ]
theorem pushAll_push (h : Heap) (os : List Obj) (o : Obj) : (pushAll h os).push o = pushAll h (os ++ [o]) := by
  obtain ⟨objs, l⟩ := h
  show Heap.mk ((objs ++ os.toArray).push o) l = Heap.mk (objs ++ (os ++ [o]).toArray) l
  congr 1
  apply Array.toList_inj.mp
  simp
theorem pushAll_size (h : Heap) (os : List Obj) : (pushAll h os).objs.size = h.objs.size + os.length := by
  obtain ⟨objs, l⟩ := h
  show (objs ++ os.toArray).size = _
  rw [Array.size_append]; simp
theorem subsOf_length : ∀ (cs : List (List (Nat × Str))) (t : Nat), (subsOf t cs).length = cs.length
  | [], _ => rfl
  | c :: cs, t => by simp only [subsOf, List.length_cons, subsOf_length cs]
section
variable {p : Program} {w : World} {b : List Stmt} {env : Env} {r : Pos} {gs : Array GenState} {dr : Drawn} {os : OsState}
/-- a long dict display, all its keys rising: what the machine makes of it, to the last sign -/
theorem runs_display {tk : Nat} {h : Heap} (c₀ : List (Nat × Str)) (cs : List (List (Nat × Str))) (tl : List (Nat × Str)) (h0 : c₀.length = 17) (hcs : ∀ c ∈ cs, c.length = 17) (htl : tl.length ≤ 15) (htl0 : tl ≠ []) (hi : IncFrom 0 (c₀ ++ (cs.flatten ++ tl)))
    (hl : 17 * cs.length ≤ 4800) (hs : sysModules < h.objs.size) (hb : Nat.ble 11 h.objs.size = true) :
    Runs p w b env (dictDisplay (((c₀ ++ (cs.flatten ++ tl)).map (pairS r)).map itemO)) ⟨h, gs, dr, tk, os⟩ r ((2 + 13 * 17) + (stepsOf cs + ((1 + 13 * tl.length) + (5 + 6 * tl.length)))) (.ref h.objs.size)
      ⟨pushAll h (dictO (entsFrom tk (c₀ ++ cs.flatten) ++ entsShort (tk + 51 + 51 * cs.length) tl) (17 + 17 * cs.length + tl.length) :: (subsOf (tk + 51) cs ++ [dictO (entsShort (tk + 51 + 51 * cs.length) tl) tl.length])), gs, dr, tk + 51 + 51 * cs.length + 3 * tl.length, os⟩ r := by
  have u0 : Under [] 0 := fun _ he => nomatch he
  obtain ⟨i1, k, i2, i3⟩ := inc_split tk hi u0
  rw [List.nil_append] at i3
  have eN : (2 + 13 * 17) + (stepsOf cs + ((1 + 13 * tl.length) + (5 + 6 * tl.length))) = ((2 + 13 * 17) + stepsOf cs) + (((1 + 13 * tl.length) + (5 + 6 * tl.length)) + 0) := by omega
  rw [display_eq, List.map_append, loop_full _ [] _ _ (by cases c₀ with | nil => simp at h0 | cons => simp) (by simpa using h0), List.nil_append, eN]
  have hlen : (entsFrom tk c₀).length = 17 := by rw [entsFrom_length, h0]
  have hg : (h.push (dictO (entsFrom tk c₀) c₀.length)).get? h.objs.size = some (dictO (entsFrom tk c₀) (entsFrom tk c₀).length) := by rw [hlen, h0]; exact Heap.get?_push_size _ rfl
  have hsz : (h.push (dictO (entsFrom tk c₀) c₀.length)).objs.size = h.objs.size + 1 := Heap.size_push ..
  have hne : entsFrom tk c₀ ≠ [] := by intro q; rw [q] at hlen; simp at hlen
  have first : Runs p w b env (flushR (c₀.map (pairS r)) none) ⟨h, gs, dr, tk, os⟩ r (2 + 13 * 17) (some h.objs.size) ⟨h.push (dictO (entsFrom tk c₀) c₀.length), gs, dr, tk + 51, os⟩ r := by
    unfold flushR
    rw [if_neg (by cases c₀ with | nil => simp at h0 | cons => simp)]
    have z := runs_subLong (p := p) (w := w) (b := b) (env := env) (r := r) (h := h) (gs := gs) (dr := dr) (tk := tk) (os := os) c₀ (by omega) (newKeys_of i1 u0) (by omega) hb
    have z' := runs_bind (n := 2 + 13 * c₀.length) (k := 0) (f := fun d => (pure (some d) : Sem (Option Addr))) z (runs_pure (some h.objs.size))
    rw [h0] at z'
    rw [h0]
    exact z'
  have mid := runs_chunks (p := p) (w := w) (b := b) (env := env) (r := r) (gs := gs) (dr := dr) (os := os) hb tl (by omega) cs (tk + 51) (h.push (dictO (entsFrom tk c₀) c₀.length)) (entsFrom tk c₀) k hcs hg hne i2 i3 (by omega) (by rw [hsz]; exact Nat.lt_succ_of_lt hs)
  rw [hset_first, hlen] at mid
  obtain ⟨_, k', i5, i6⟩ := inc_split (tk + 51) i2 i3
  have ee : entsFrom tk c₀ ++ entsFrom (tk + 51) cs.flatten = entsFrom tk (c₀ ++ cs.flatten) := by
    rw [entsFrom_append, h0]
  rw [ee] at i6 mid
  refine runs_bind (n := (2 + 13 * 17) + stepsOf cs) (runs_bind (n := 2 + 13 * 17) first mid) ?_
  have hflen : (entsFrom tk (c₀ ++ cs.flatten)).length = 17 + 17 * cs.length := by
    have hfl : ∀ l : List (List (Nat × Str)), (∀ c ∈ l, c.length = 17) → l.flatten.length = 17 * l.length := by
      intro l
      induction l with
      | nil => intro _; rfl
      | cons c l ih => intro hx; rw [List.flatten_cons, List.length_append, hx c (List.mem_cons_self ..), ih fun y hy => hx y (List.mem_cons_of_mem _ hy), List.length_cons]; omega
    rw [entsFrom_length, List.length_append, h0, hfl cs hcs]
  have hg2 : (pushAll h (dictO (entsFrom tk (c₀ ++ cs.flatten)) (17 + 17 * cs.length) :: subsOf (tk + 51) cs)).get? h.objs.size = some (dictO (entsFrom tk (c₀ ++ cs.flatten)) (17 + 17 * cs.length)) := by
    rw [← push_pushAll]
    have : (h.push (dictO (entsFrom tk (c₀ ++ cs.flatten)) (17 + 17 * cs.length))).objs[h.objs.size]? = some (dictO (entsFrom tk (c₀ ++ cs.flatten)) (17 + 17 * cs.length)) := objs_of_get (Heap.get?_push_size _ rfl)
    have e : (pushAll (h.push (dictO (entsFrom tk (c₀ ++ cs.flatten)) (17 + 17 * cs.length))) (subsOf (tk + 51) cs)).objs[h.objs.size]? = some (dictO (entsFrom tk (c₀ ++ cs.flatten)) (17 + 17 * cs.length)) := by
      show ((h.push _).objs ++ _)[h.objs.size]? = _
      rw [Array.getElem?_append, if_pos (by rw [Heap.size_push]; exact Nat.lt_succ_self _)]
      exact this
    unfold Heap.get?
    rw [e]
    rfl
  have hsz2 := pushAll_size h (dictO (entsFrom tk (c₀ ++ cs.flatten)) (17 + 17 * cs.length) :: subsOf (tk + 51) cs)
  simp only [List.length_cons] at hsz2
  dsimp only
  refine runs_bind (n := (1 + 13 * tl.length) + (5 + 6 * tl.length)) (k := 0) (a := some h.objs.size) (q' := r) ?_ (runs_pure _)
  unfold flushR
  rw [if_neg (by cases tl with | nil => exact absurd rfl htl0 | cons => simp)]
  rw [Nat.ble_eq] at hb
  have sub := runs_subShort (p := p) (w := w) (b := b) (env := env) (r := r) (h := pushAll h (dictO (entsFrom tk (c₀ ++ cs.flatten)) (17 + 17 * cs.length) :: subsOf (tk + 51) cs)) (gs := gs) (dr := dr) (tk := tk + 51 + 3 * (17 * cs.length)) (os := os) tl htl (newShort_of i5 fun _ he => nomatch he)
    (by rw [hsz2, Nat.ble_eq]; omega)
  have et : tk + 51 + 3 * (17 * cs.length) = tk + 51 + 51 * cs.length := by omega
  rw [et] at sub ⊢
  refine runs_bind (n := 1 + 13 * tl.length) (runs_holding _ sub) ?_
  rw [show 5 + 6 * tl.length = (5 + 6 * tl.length) + 0 by omega]
  have hne2 : entsFrom tk (c₀ ++ cs.flatten) ≠ [] := by intro q; rw [q] at hflen; simp at hflen; omega
  have hsl : ∀ (l : List (Nat × Str)) (t : Nat), (entsShort t l).length = l.length := by
    intro l
    induction l with
    | nil => intro _; rfl
    | cons c l ih => intro t; obtain ⟨c, v⟩ := c; simp only [entsShort, List.length_cons, ih]
  have z := runs_mapping (p := p) (w := w) (b := b) (env := env) (q := r)
    (s := ⟨(pushAll h (dictO (entsFrom tk (c₀ ++ cs.flatten)) (17 + 17 * cs.length) :: subsOf (tk + 51) cs)).push (dictO (entsShort (tk + 51 + 51 * cs.length) tl) tl.length), gs, dr, tk + 51 + 51 * cs.length + 3 * tl.length, os⟩)
    (d := h.objs.size) (a := (pushAll h (dictO (entsFrom tk (c₀ ++ cs.flatten)) (17 + 17 * cs.length) :: subsOf (tk + 51) cs)).objs.size) (es := entsFrom tk (c₀ ++ cs.flatten)) (ep := 17 + 17 * cs.length) (us := entsShort (tk + 51 + 51 * cs.length) tl) (up := tl.length)
    (by rw [Nat.ble_eq]; exact hb) (by rw [hsz2]; exact Nat.ne_of_gt (Nat.lt_add_of_pos_right (Nat.succ_pos _))) (beq_eq_false_iff_ne.mpr (by rw [hsz2]; exact Nat.ne_of_gt (Nat.lt_of_lt_of_le hs (by omega))))
    (Heap.get?_push_of_some _ hg2) (Heap.get?_push_size _ rfl) hne2 (newEntsShort_of i5 i6) (by rw [hsl, hflen]; omega)
  rw [hsl] at z
  dsimp only at z
  have eh : ∀ m₀ mf sh : Obj, hset ((pushAll h (m₀ :: subsOf (tk + 51) cs)).push sh) h.objs.size mf = pushAll h (mf :: (subsOf (tk + 51) cs ++ [sh])) := fun m₀ mf sh => by
    rw [pushAll_push, List.cons_append, ← push_pushAll, hset_first]
  rw [eh] at z
  exact runs_bind (n := 5 + 6 * tl.length) (k := 0) (runs_onRaise _ (runs_holding _ z)) (runs_pure _)
end
end Mine
end
section
open PySem PySem.W
set_option maxRecDepth 100000
set_option Elab.async false
set_option maxHeartbeats 0
set_option linter.unusedVariables false
namespace Mine
noncomputable def defP (i : Nat) : Arguments := match PySem.Challenge.pw_mj0210_01.main.body[i]? with | some (.FunctionDef _ a _ _ _ _ _ _ _ _) => a | _ => ⟨[], [], none, [], [], none, []⟩
noncomputable def defB (i : Nat) : List Stmt := match PySem.Challenge.pw_mj0210_01.main.body[i]? with | some (.FunctionDef _ _ b _ _ _ _ _ _ _) => b | _ => []
noncomputable def defS (i : Nat) : Scope := match PySem.Challenge.pw_mj0210_01.main.body[i]? with | some (.FunctionDef _ _ _ _ _ _ s _ _ _) => s | _ => ⟨.function, [], false, false, []⟩
noncomputable def pre.o_1 : Params → Obj := fun P => Obj.mk (Value.type "tuple") none (Data.seq #[]) #[]
noncomputable def pre.o_2 : Params → Obj := fun P => Obj.mk Value.none none (Data.fields #[]) #[]
noncomputable def pre.o_3 : Params → Obj := fun P => Obj.mk (Value.type "code") none (Data.fields #[Value.str (Str.ofString "<module>") 182, Value.str (Str.ofString "<module>") 183, Value.str (Str.ofString "/claim/cut.py") 184, Value.int 1 0, Value.int 0 0, Value.int 0 0, Value.int 0 0, Value.int 0 0, Value.ref 11, Value.bool false, Value.int 181 0, Value.ref 12, Value.none, Value.none, Value.none, Value.none, Value.int 185 0, Value.int 1 0, Value.str (Str.ofString "/claim/cut.py") 186]) #[]
noncomputable def pre.o_4 : Params → Obj := fun P => Obj.mk (Value.type "frame") none Data.plain #[some (Value.ref 13), some (Value.ref 3), some (Value.ref 3), none, some (Value.str (Str.ofString "__main__") 164), none, some (Value.ref 0)]
noncomputable def pre.o_5 : Params → Obj := fun P => Obj.mk (Value.type "dict") none (Data.dict #[DictEntry.mk (PyData.keyHash P (Str.ofString "__name__")) (Value.str (Str.ofString "__name__") 165) (Value.str (Str.ofString "cpy313.stringprep") 216), DictEntry.mk (PyData.keyHash P (Str.ofString "__doc__")) (Value.str (Str.ofString "__doc__") 166) Value.none, DictEntry.mk (PyData.keyHash P (Str.ofString "__package__")) (Value.str (Str.ofString "__package__") 167) Value.none, DictEntry.mk (PyData.keyHash P (Str.ofString "__loader__")) (Value.str (Str.ofString "__loader__") 168) (Value.builtin "__main__.__loader__#opaque"), DictEntry.mk (PyData.keyHash P (Str.ofString "__spec__")) (Value.str (Str.ofString "__spec__") 169) Value.none, DictEntry.mk (PyData.keyHash P (Str.ofString "__annotations__")) (Value.str (Str.ofString "__annotations__") 170) (Value.ref 6), DictEntry.mk (PyData.keyHash P (Str.ofString "__builtins__")) (Value.str (Str.ofString "__builtins__") 171) (Value.ref 4), DictEntry.mk (PyData.keyHash P (Str.ofString "__file__")) (Value.str (Str.ofString "__file__") 173) (Value.str (Str.ofString "/claim/cut.py") 172), DictEntry.mk (PyData.keyHash P (Str.ofString "__cached__")) (Value.str (Str.ofString "__cached__") 174) Value.none, DictEntry.mk (PyData.keyHash P (Str.ofString "system_alias")) (Value.str (Str.ofString "system_alias") 199) (Value.ref 21), DictEntry.mk (PyData.keyHash P (Str.ofString "_platform")) (Value.str (Str.ofString "_platform") 208) (Value.ref 28), DictEntry.mk (PyData.keyHash P (Str.ofString "_unknown_as_blank")) (Value.str (Str.ofString "_unknown_as_blank") 215) (Value.ref 35)] 12) #[]
noncomputable def pre.o_6 : Params → Obj := fun P => Obj.mk Value.none none (Data.fields #[Value.int 2 0, Value.int 0 0, Value.ref 20, Value.int 23 0, Value.int 0 0, Value.ref 27, Value.int 42 0, Value.int 0 0, Value.ref 34]) #[]
noncomputable def pre.o_7 : Params → Obj := fun P => Obj.mk (Value.type "tuple") none (Data.seq #[]) #[]
noncomputable def pre.o_8 : Params → Obj := fun P => Obj.mk Value.none none (Data.fields #[]) #[]
noncomputable def pre.o_9 : Params → Obj := fun P => Obj.mk (Value.type "tuple") none (Data.seq #[Value.str (Str.ofString "system") 192, Value.str (Str.ofString "release") 193, Value.str (Str.ofString "version") 194, Value.str (Str.ofString "l") 195, Value.str (Str.ofString "major") 196]) #[]
noncomputable def pre.o_10 : Params → Obj := fun P => Obj.mk (Value.type "tuple") none (Data.seq #[]) #[]
noncomputable def pre.o_11 : Params → Obj := fun P => Obj.mk Value.none none (Data.func (FuncData.mk (Str.ofString "system_alias") (Str.ofString "system_alias") (defP 1) (FuncBody.stmts (defB 1)) (defS 1) 0 [] Value.none Value.none Value.none Value.none none Value.none Value.none 0)) #[]
noncomputable def pre.o_12 : Params → Obj := fun P => Obj.mk (Value.type "code") none (Data.fields #[Value.str (Str.ofString "system_alias") 189, Value.str (Str.ofString "system_alias") 190, Value.str (Str.ofString "/claim/cut.py") 191, Value.int 2 0, Value.int 3 0, Value.int 0 0, Value.int 0 0, Value.int 3 0, Value.ref 15, Value.bool true, Value.int 181 0, Value.ref 16, Value.none, Value.ref 17, Value.ref 18, Value.ref 19, Value.int 197 0, Value.int 2 0, Value.str (Str.ofString "/claim/cut.py") 198]) #[]
noncomputable def pre.o_13 : Params → Obj := fun P => Obj.mk (Value.type "function") none (Data.func (FuncData.mk (Str.ofString "system_alias") (Str.ofString "system_alias") (defP 1) (FuncBody.stmts (defB 1)) (defS 1) 3 [] Value.none Value.none Value.none (Value.str (Str.ofString "cpy313.platform") 187) none (Value.ref 20) Value.none 0)) #[]
noncomputable def pre.o_14 : Params → Obj := fun P => Obj.mk (Value.type "tuple") none (Data.seq #[]) #[]
noncomputable def pre.o_15 : Params → Obj := fun P => Obj.mk Value.none none (Data.fields #[]) #[]
noncomputable def pre.o_16 : Params → Obj := fun P => Obj.mk (Value.type "tuple") none (Data.seq #[Value.str (Str.ofString "args") 203, Value.str (Str.ofString "platform") 204, Value.str (Str.ofString "cleaned") 205]) #[]
noncomputable def pre.o_17 : Params → Obj := fun P => Obj.mk (Value.type "tuple") none (Data.seq #[]) #[]
noncomputable def pre.o_18 : Params → Obj := fun P => Obj.mk Value.none none (Data.func (FuncData.mk (Str.ofString "_platform") (Str.ofString "_platform") (defP 2) (FuncBody.stmts (defB 2)) (defS 2) 0 [] Value.none Value.none Value.none Value.none none Value.none Value.none 0)) #[]
noncomputable def pre.o_19 : Params → Obj := fun P => Obj.mk (Value.type "code") none (Data.fields #[Value.str (Str.ofString "_platform") 200, Value.str (Str.ofString "_platform") 201, Value.str (Str.ofString "/claim/cut.py") 202, Value.int 23 0, Value.int 0 0, Value.int 0 0, Value.int 0 0, Value.int 7 0, Value.ref 22, Value.bool true, Value.int 181 0, Value.ref 23, Value.none, Value.ref 24, Value.ref 25, Value.ref 26, Value.int 206 0, Value.int 23 0, Value.str (Str.ofString "/claim/cut.py") 207]) #[]
noncomputable def pre.o_20 : Params → Obj := fun P => Obj.mk (Value.type "function") none (Data.func (FuncData.mk (Str.ofString "_platform") (Str.ofString "_platform") (defP 2) (FuncBody.stmts (defB 2)) (defS 2) 3 [] Value.none Value.none Value.none (Value.str (Str.ofString "cpy313.platform") 187) none (Value.ref 27) Value.none 0)) #[]
noncomputable def pre.o_21 : Params → Obj := fun P => Obj.mk (Value.type "tuple") none (Data.seq #[]) #[]
noncomputable def pre.o_22 : Params → Obj := fun P => Obj.mk Value.none none (Data.fields #[]) #[]
noncomputable def pre.o_23 : Params → Obj := fun P => Obj.mk (Value.type "tuple") none (Data.seq #[Value.str (Str.ofString "val") 212]) #[]
noncomputable def pre.o_24 : Params → Obj := fun P => Obj.mk (Value.type "tuple") none (Data.seq #[]) #[]
noncomputable def pre.o_25 : Params → Obj := fun P => Obj.mk Value.none none (Data.func (FuncData.mk (Str.ofString "_unknown_as_blank") (Str.ofString "_unknown_as_blank") (defP 3) (FuncBody.stmts (defB 3)) (defS 3) 0 [] Value.none Value.none Value.none Value.none none Value.none Value.none 0)) #[]
noncomputable def pre.o_26 : Params → Obj := fun P => Obj.mk (Value.type "code") none (Data.fields #[Value.str (Str.ofString "_unknown_as_blank") 209, Value.str (Str.ofString "_unknown_as_blank") 210, Value.str (Str.ofString "/claim/cut.py") 211, Value.int 42 0, Value.int 1 0, Value.int 0 0, Value.int 0 0, Value.int 3 0, Value.ref 29, Value.bool true, Value.int 181 0, Value.ref 30, Value.none, Value.ref 31, Value.ref 32, Value.ref 33, Value.int 213 0, Value.int 42 0, Value.str (Str.ofString "/claim/cut.py") 214]) #[]
noncomputable def pre.o_27 : Params → Obj := fun P => Obj.mk (Value.type "function") none (Data.func (FuncData.mk (Str.ofString "_unknown_as_blank") (Str.ofString "_unknown_as_blank") (defP 3) (FuncBody.stmts (defB 3)) (defS 3) 3 [] Value.none Value.none Value.none (Value.str (Str.ofString "cpy313.platform") 187) none (Value.ref 34) Value.none 0)) #[]
noncomputable def pre.tree_4 : Params → BT := fun P => BT.node (boot_o_0 P) (BT.node (boot_o_1 P) (BT.node (boot_o_3 P) (BT.node (boot_o_7 P) BT.nil BT.nil) (BT.node (pre.o_1 P) BT.nil BT.nil)) (BT.node (boot_o_5 P) (BT.node (boot_o_9 P) BT.nil BT.nil) (BT.node (pre.o_3 P) BT.nil BT.nil))) (BT.node (boot_o_2 P) (BT.node (boot_o_4 P) (BT.node (boot_o_8 P) BT.nil BT.nil) (BT.node (pre.o_2 P) BT.nil BT.nil)) (BT.node (boot_o_6 P) (BT.node (boot_o_10 P) BT.nil BT.nil) (BT.node (pre.o_4 P) BT.nil BT.nil)))
noncomputable def pre.tree_27 : Params → BT := fun P => BT.node (boot_o_0 P) (BT.node (boot_o_1 P) (BT.node (pre.o_5 P) (BT.node (boot_o_7 P) (BT.node (pre.o_7 P) (BT.node (pre.o_23 P) BT.nil BT.nil) BT.nil) (BT.node (pre.o_15 P) BT.nil BT.nil)) (BT.node (pre.o_1 P) (BT.node (pre.o_11 P) (BT.node (pre.o_27 P) BT.nil BT.nil) BT.nil) (BT.node (pre.o_19 P) BT.nil BT.nil))) (BT.node (boot_o_5 P) (BT.node (boot_o_9 P) (BT.node (pre.o_9 P) (BT.node (pre.o_25 P) BT.nil BT.nil) BT.nil) (BT.node (pre.o_17 P) BT.nil BT.nil)) (BT.node (pre.o_3 P) (BT.node (pre.o_13 P) BT.nil BT.nil) (BT.node (pre.o_21 P) BT.nil BT.nil)))) (BT.node (boot_o_2 P) (BT.node (boot_o_4 P) (BT.node (boot_o_8 P) (BT.node (pre.o_8 P) (BT.node (pre.o_24 P) BT.nil BT.nil) BT.nil) (BT.node (pre.o_16 P) BT.nil BT.nil)) (BT.node (pre.o_6 P) (BT.node (pre.o_12 P) BT.nil BT.nil) (BT.node (pre.o_20 P) BT.nil BT.nil))) (BT.node (boot_o_6 P) (BT.node (boot_o_10 P) (BT.node (pre.o_10 P) (BT.node (pre.o_26 P) BT.nil BT.nil) BT.nil) (BT.node (pre.o_18 P) BT.nil BT.nil)) (BT.node (pre.o_4 P) (BT.node (pre.o_14 P) BT.nil BT.nil) (BT.node (pre.o_22 P) BT.nil BT.nil))))
noncomputable def pre.env_1 : Env := Env.mk PySem.Challenge.pw_mj0210_01.main.scope mainNs mainNs [] Str.empty none (Value.ref 13) (some 14) 0
noncomputable def pre.sts_4 : List Stmt := PySem.Challenge.pw_mj0210_01.main.body.take 5
theorem pre.run (w : World) : (fun (p : Program) (b : List Stmt) (os : OsState) => segRunT treeTable p w 11 (some (Value.ref 6)) 1 112 ⟨pre.tree_4 w.params, 15, {}, ⟨[]⟩, {}, 187, os⟩ (piecesOf pre.sts_4 pre.env_1 (Code.body b pre.env_1) ⟨0, 0, 0, 0⟩ [topFrame ⟨0, 0, 0, 0⟩])) =
    fun p b os => some (Flow.next, ⟨pre.tree_27 w.params, 36, {}, ⟨[]⟩, {}, 218, os⟩, Code.body b pre.env_1, ⟨44, 0, 44, 8⟩) := by
  kernel_rfl
theorem pre.chain (p : Program) (b : List Stmt) (w : World) (os : OsState) (rest : List Stmt) (N : Nat) (r : Shared)
    (h : topRun treeTable p w 11 (some (Value.ref 6)) N (SharedT.abs ⟨pre.tree_27 w.params, 36, {}, ⟨[]⟩, {}, 218, os⟩) (restOf rest pre.env_1 (Code.body b pre.env_1) ⟨44, 0, 44, 8⟩ [topFrame ⟨0, 0, 0, 0⟩]) = some r) :
    topRun treeTable p w 11 (some (Value.ref 6)) (Nat.add 112 N) (SharedT.abs ⟨pre.tree_4 w.params, 15, {}, ⟨[]⟩, {}, 187, os⟩) (restOf (pre.sts_4 ++ rest) pre.env_1 (Code.body b pre.env_1) ⟨0, 0, 0, 0⟩ [topFrame ⟨0, 0, 0, 0⟩]) = some r :=
  piece_app (segRun_of (congrFun (congrFun (congrFun (pre.run w) p) b) os)) h
end Mine
end
section
open PySem PySem.W
set_option maxRecDepth 100000
set_option Elab.async false
set_option maxHeartbeats 0
namespace Mine
abbrev pW : Program := PySem.Challenge.pw_mj0210_01
def rest5 : List Stmt := pW.main.body.drop 5
def rest6 : List Stmt := pW.main.body.drop 6
def keyNat : Option PySem.Expr → Nat
  | some (.Constant (.int i) _ _) => i.toNat
  | _ => 0
def valStr : PySem.Expr → Str
  | .Constant (.str s) _ _ => s
  | _ => Str.empty
def keysOf : List Stmt → List (Option PySem.Expr)
  | .Assign _ (.Dict ks _ _) _ :: _ => ks
  | _ => []
def valsOf : List Stmt → List PySem.Expr
  | .Assign _ (.Dict _ vs _) _ :: _ => vs
  | _ => []
def b3ds : List (Nat × Str) := ((keysOf rest5).map keyNat).zip ((valsOf rest5).map valStr)
def b3c : List (Nat × Str) := b3ds.take 17
def b3cs : List (List (Nat × Str)) := (List.range 37).map fun j => (b3ds.drop (17 * (j + 1))).take 17
def b3tl : List (Nat × Str) := b3ds.drop 646
theorem b3_len : b3c.length = 17 ∧ b3cs.length = 37 ∧ b3tl.length = 4 := by decide +kernel
theorem b3_lens : (b3cs.all fun c => Nat.beq c.length 17) = true := by decide +kernel
theorem b3_inc : incB 0 (b3c ++ (b3cs.flatten ++ b3tl)) = true := by decide +kernel
abbrev r45 : Pos := ⟨45, 16, 45, 8704⟩
theorem items_eq (env : Env) : (evalEachOpt (keysOf rest5) env).zip ((evalEach (valsOf rest5) env).map fun v => do let x ← v; standAt r45; pure x) = ((b3c ++ (b3cs.flatten ++ b3tl)).map (pairS r45)).map itemO := by kernel_rfl
end Mine
end
section
open PySem PySem.W
set_option maxRecDepth 100000
set_option Elab.async false
set_option maxHeartbeats 0
namespace Mine
noncomputable abbrev envM : Env := Mine.pre.env_1
noncomputable abbrev c36 (b : List Stmt) : Code := Code.body b envM
def objsOf (c : List (Nat × Str)) (cs : List (List (Nat × Str))) (tl : List (Nat × Str)) : List Obj := dictO (entsFrom 218 (c ++ cs.flatten) ++ entsShort 2156 tl) 650 :: (subsOf 269 cs ++ [dictO (entsShort 2156 tl) 4])
abbrev objs39 : List Obj := objsOf b3c b3cs b3tl
def insAll : BT → Nat → List Obj → BT
  | T, _, [] => T
  | T, n, o :: os => insAll (T.ins n o) (n + 1) os
noncomputable def T75 (P : Params) : BT := insAll (Mine.pre.tree_27 P) 36 objs39
noncomputable def tailS (v : Value) : Sem Flow := standAt ⟨45, 0, 45, 13⟩ >>= fun _ => bindName envM "b3_exceptions" v >>= fun _ => pure .next
noncomputable def thread75 (b : List Stmt) : Thread := ⟨((tailS (.ref 36)) >>= fun f => match f with | .next => execs rest6 envM | f => pure f).wrap doneF deadEnd id id, c36 b, r45, Bq⟩
theorem rest_run (p : Program) (b : List Stmt) (w : World) (os : OsState) : (segRunT treeTable p w 11 (some (.ref 6)) 1 400 ⟨T75 w.params, 75, {}, ⟨[]⟩, {}, 2168, os⟩ (thread75 b)).map (fun x => (x.1, x.2.2)) = some (.next, c36 b, ⟨167, 0, 176, 15⟩) := by kernel_rfl
def stOf (d : SharedT) : Option (Flow × SharedT × Code × Pos) → SharedT
  | some (_, S, _) => S
  | none => d
/-- the state behind the whole text -/
noncomputable def S17 (w : World) (os : OsState) : SharedT := stOf ⟨.nil, 0, {}, ⟨[]⟩, {}, 0, os⟩ (segRunT treeTable pW w 11 (some (.ref 6)) 1 400 ⟨T75 w.params, 75, {}, ⟨[]⟩, {}, 2168, os⟩ (thread75 (behindTheImports pW)))
theorem seg_state {x : Option (Flow × SharedT × Code × Pos)} {d : SharedT} {f : Flow} {c : Code} {q : Pos} (h : x.map (fun x => (x.1, x.2.2)) = some (f, c, q)) :
    x = some (f, stOf d x, c, q) := by
  cases x with
  | none => cases h
  | some x =>
    obtain ⟨f', S, c'⟩ := x
    cases h
    rfl
theorem rest_eq (w : World) (os : OsState) : segRunT treeTable pW w 11 (some (.ref 6)) 1 400 ⟨T75 w.params, 75, {}, ⟨[]⟩, {}, 2168, os⟩ (thread75 (behindTheImports pW)) = some (.next, S17 w os, c36 (behindTheImports pW), ⟨167, 0, 176, 15⟩) := by
  unfold S17
  exact seg_state (rest_run pW (behindTheImports pW) w os)
end Mine
end
section
open PySem PySem.W
set_option maxRecDepth 100000
set_option Elab.async false
set_option maxHeartbeats 0
namespace Mine
noncomputable def insOk : BT → Nat → List Obj → Bool
  | _, _, [] => true
  | T, n, o :: os => ((T.ins n o).get n).isSome && insOk (T.ins n o) (n + 1) os
theorem abs_insAll (life : Life) : ∀ (os : List Obj) (T : BT) (n : Nat), insOk T n os = true → absHeap (insAll T n os) (n + os.length) life = pushAll (absHeap T n life) os
  | [], T, n, _ => by
    show absHeap T n life = pushAll (absHeap T n life) []
    unfold pushAll
    simp
  | o :: os, T, n, h => by
    unfold insOk at h
    rw [Bool.and_eq_true] at h
    have ih := abs_insAll life os (T.ins n o) (n + 1) h.2
    rw [absHeap_ins h.1, push_pushAll] at ih
    rw [← ih, List.length_cons, show n + (os.length + 1) = n + 1 + os.length by omega]
    rfl
theorem objs39_ok (P : Params) : insOk (Mine.pre.tree_27 P) 36 objs39 = true := by kernel_rfl
theorem objs39_len : objs39.length = 39 := by kernel_rfl
theorem rest5_eq : rest5 = .Assign [.Name "b3_exceptions" ⟨45, 0, 45, 13⟩] (.Dict (keysOf rest5) (valsOf rest5) r45) ⟨45, 0, 45, 8704⟩ :: rest6 := by kernel_rfl
theorem steps37 : stepsOf b3cs = 12210 := by decide +kernel
theorem execs_dict {env : Env} {x : Str} {p₁ p₂ p₃ : Pos} {ks : List (Option PySem.Expr)} {vs : List PySem.Expr} {rest : List Stmt} {xs : List (Option (Sem Value) × Sem Value)}
    (hx : (evalEachOpt ks env).zip ((evalEach vs env).map fun v => do let x ← v; standAt p₂; pure x) = xs) :
    execs (.Assign [.Name x p₁] (.Dict ks vs p₂) p₃ :: rest) env = ((standAt p₃ >>= fun _ => standAt p₂ >>= fun _ => dictDisplay xs) >>= fun v => ((standAt p₁ >>= fun _ => bindName env x v >>= fun _ => pure Flow.next) >>= fun f => match f with | .next => execs rest env | f => pure f)) := by
  subst hx
  rw [execs_cons, exec_Assign_Name env _ _ _ _ rfl]
  simp only [bind_assoc]
  rfl
theorem execs5 : execs rest5 envM = ((standAt ⟨45, 0, 45, 8704⟩ >>= fun _ => standAt r45 >>= fun _ => dictDisplay (((b3c ++ (b3cs.flatten ++ b3tl)).map (pairS r45)).map itemO)) >>= fun v => (tailS v >>= fun f => match f with | .next => execs rest6 envM | f => pure f)) :=
  (congrArg (fun l => execs l envM) rest5_eq).trans (execs_dict (items_eq envM))
theorem go_first {p : Program} {w : World} {b : List Stmt} {env : Env} {α β : Type} {m : Sem α} {f : α → Sem β} {s s' : Shared} {q q' : Pos} {n : Nat} {a : α} (h : Runs p w b env m s q n a s' q') (K : β → Sem Fin) (H : Value → Sem Fin) (gd : Bool → Bool) (lv : List Value → List Value) :
    go1 p w n s ⟨(m >>= f).wrap K H gd lv, cdOf b env, q, Bq⟩ = some (s', ⟨(f a).wrap K H gd lv, cdOf b env, q', Bq⟩) := by
  rw [Sem.bind_eq_wrap', Sem.wrap_wrap]
  exact h _ _ _ _
theorem size36 (P : Params) : (absHeap (Mine.pre.tree_27 P) 36 {}).objs.size = 36 := absHeap_size ..
theorem sys36 (P : Params) : sysModules < (absHeap (Mine.pre.tree_27 P) 36 {}).objs.size := by rw [size36]; decide
theorem ble36 (P : Params) : Nat.ble 11 (absHeap (Mine.pre.tree_27 P) 36 {}).objs.size = true := by rw [size36]; decide
theorem tl_ne : b3tl ≠ [] := by intro q; have := b3_len.2.2; rw [q] at this; cases this
theorem disp_gen {p : Program} {w : World} {os : OsState} {b : List Stmt} {env : Env} {r : Pos} {h : Heap} {gs : Array GenState} {dr : Drawn} {c : List (Nat × Str)} {cs : List (List (Nat × Str))} {tl : List (Nat × Str)} (h0 : c.length = 17) (h1 : ∀ x ∈ cs, x.length = 17) (h2 : cs.length = 37) (h3 : tl.length = 4) (h4 : stepsOf cs = 12210)
    (hi : IncFrom 0 (c ++ (cs.flatten ++ tl))) (hz : h.objs.size = 36) (hs : sysModules < h.objs.size) (hb : Nat.ble 11 h.objs.size = true) :
    Runs p w b env (dictDisplay (((c ++ (cs.flatten ++ tl)).map (pairS r)).map itemO)) ⟨h, gs, dr, 218, os⟩ r 12515 (.ref 36) ⟨pushAll h (objsOf c cs tl), gs, dr, 2168, os⟩ r := by
  have d := runs_display (p := p) (w := w) (b := b) (env := env) (r := r) (gs := gs) (dr := dr) (os := os) (tk := 218) (h := h) c cs tl h0 h1 (by omega) (by intro q; rw [q] at h3; cases h3) hi (by omega) hs hb
  rw [h2, h3, h4, hz] at d
  exact d
theorem disp_run (w : World) (os : OsState) (b : List Stmt) : Runs pW w b envM (dictDisplay (((b3c ++ (b3cs.flatten ++ b3tl)).map (pairS r45)).map itemO)) ⟨absHeap (Mine.pre.tree_27 w.params) 36 {}, ⟨[]⟩, {}, 218, os⟩ r45 12515 (.ref 36)
    ⟨pushAll (absHeap (Mine.pre.tree_27 w.params) 36 {}) objs39, ⟨[]⟩, {}, 2168, os⟩ r45 :=
  disp_gen b3_len.1 (fun c hc => Nat.eq_of_beq_eq_true (List.all_eq_true.mp b3_lens c hc)) b3_len.2.1 b3_len.2.2 steps37 (incB_of b3_inc) (size36 _) (sys36 _) (ble36 _)
theorem abs_gen {T : BT} {l : List Obj} {os : OsState} {gs : Array GenState} {dr : Drawn} {tk : Nat} (h : insOk T 36 l = true) (hl : l.length = 39) : SharedT.abs ⟨insAll T 36 l, 75, {}, gs, dr, tk, os⟩ = ⟨pushAll (absHeap T 36 {}) l, gs, dr, tk, os⟩ := by
  have := abs_insAll {} l T 36 h
  rw [hl] at this
  rw [← this]
  rfl
theorem abs75 (w : World) (os : OsState) : (SharedT.abs ⟨T75 w.params, 75, {}, ⟨[]⟩, {}, 2168, os⟩ : Shared) = ⟨pushAll (absHeap (Mine.pre.tree_27 w.params) 36 {}) objs39, ⟨[]⟩, {}, 2168, os⟩ :=
  abs_gen (objs39_ok w.params) objs39_len
theorem dict_go (w : World) (os : OsState) (b : List Stmt) : go1 pW w (1 + (1 + 12515)) (SharedT.abs ⟨Mine.pre.tree_27 w.params, 36, {}, ⟨[]⟩, {}, 218, os⟩) (piecesOf rest5 envM (c36 b) ⟨44, 0, 44, 8⟩ Bq)
    = some (SharedT.abs ⟨T75 w.params, 75, {}, ⟨[]⟩, {}, 2168, os⟩, thread75 b) := by
  have z := runs_bind (n := 1) (runs_standAt (p := pW) (w := w) (b := b) (env := envM) (s := SharedT.abs ⟨Mine.pre.tree_27 w.params, 36, {}, ⟨[]⟩, {}, 218, os⟩) (q := ⟨44, 0, 44, 8⟩) ⟨45, 0, 45, 8704⟩) (f := fun _ => standAt r45 >>= fun _ => dictDisplay (((b3c ++ (b3cs.flatten ++ b3tl)).map (pairS r45)).map itemO))
    (runs_bind (n := 1) (runs_standAt r45) (f := fun _ => dictDisplay (((b3c ++ (b3cs.flatten ++ b3tl)).map (pairS r45)).map itemO)) (disp_run w os b))
  have y := go_first z doneF deadEnd id id (f := fun v => (tailS v >>= fun f => match f with | .next => execs rest6 envM | f => pure f))
  rw [abs75]
  unfold piecesOf
  rw [execs5]
  exact y
theorem piece5 (w : World) (os : OsState) : segRun treeTable pW w 11 (some (.ref 6)) 1 (1 + (1 + 12515) + 400) (SharedT.abs ⟨Mine.pre.tree_27 w.params, 36, {}, ⟨[]⟩, {}, 218, os⟩) (piecesOf rest5 envM (c36 (behindTheImports pW)) ⟨44, 0, 44, 8⟩ Bq)
    = some (.next, (S17 w os).abs, c36 (behindTheImports pW), ⟨167, 0, 176, 15⟩) :=
  seg_go (dict_go w os (behindTheImports pW)) (segRun_of (rest_eq w os))
end Mine
end
section
open PySem PySem.W
set_option maxRecDepth 100000
set_option Elab.async false
set_option maxHeartbeats 400000
namespace Mine
noncomputable abbrev bM : List Stmt := behindTheImports pW
noncomputable abbrev Sb (w : World) (os : OsState) : SharedT := ⟨Mine.pre.tree_4 w.params, 15, {}, ⟨[]⟩, {}, 187, os⟩
theorem bM_eq : bM = Mine.pre.sts_4 ++ rest5 := by kernel_rfl
theorem top_pre (w : World) (os : OsState) : topGo treeTable pW w 11 (some (.ref 6)) 12 ⟨boot_heap w.params, Array.mk [], boot_drawn, boot_toks, os⟩ (topStub pW) = some ((Sb w os).abs, ⟨denote treeTable (c36 bM), c36 bM, ⟨0, 0, 0, 0⟩, Bq⟩) := by kernel_rfl
theorem top_block (w : World) (s : Shared) : segRun treeTable pW w 11 (some (.ref 6)) 1 1 s (blockOf bM envM (c36 bM) ⟨0, 0, 0, 0⟩ Bq) = some (.next, s, c36 bM, ⟨0, 0, 0, 0⟩) := by kernel_rfl
theorem top_fin (w : World) (s : Shared) (b : List Stmt) (q : Pos) : topRun treeTable pW w 11 (some (.ref 6)) 3 s (restOf [] envM (c36 b) q Bq) = some s := by kernel_rfl
theorem top_run (w : World) (os : OsState) : topRun treeTable pW w 11 (some (.ref 6)) (12 + (1 + (Nat.add 112 ((1 + (1 + 12515) + 400) + 3)))) ⟨boot_heap w.params, Array.mk [], boot_drawn, boot_toks, os⟩ (topStub pW) = some (S17 w os).abs := by
  refine go_top (top_pre w os) (piece_block (top_block w _) ?_)
  have h := piece_app (rest := []) (piece5 w os) (top_fin w _ _ _)
  rw [List.append_nil] at h
  have g := Mine.pre.chain pW bM w os rest5 _ _ h
  have e : restOf bM envM (c36 bM) ⟨0, 0, 0, 0⟩ Bq = restOf (Mine.pre.sts_4 ++ rest5) envM (c36 bM) ⟨0, 0, 0, 0⟩ Bq := congrArg (fun l => restOf l envM (c36 bM) ⟨0, 0, 0, 0⟩ Bq) bM_eq
  rw [e]
  exact g
theorem top_open : ∀ w : World, (fencedOpening treeTable pW w 20000).map (fun s => (s.heap, s.gens, s.drawn, s.toks)) = some (boot_heap w.params, Array.mk [], boot_drawn, boot_toks) :=
  boot_open (by kernel_rfl) (by decide) (fun s => by kernel_rfl)
theorem top_size (w : World) : ((boot_heap w.params).isNs mainGlobals && (Array.mk [] : Array GenState).size == 0, (boot_heap w.params).objs.size, (boot_heap w.params).nsMap mainGlobals "__annotations__") = (true, 11, some (.ref 6)) := by kernel_rfl
end Mine
end
section
open PySem PySem.W PyProof.Rows
set_option maxRecDepth 100000
set_option Elab.async false
set_option maxHeartbeats 400000
namespace Mine
def qM : Program := { pW with main := { pW.main with body := [1, 2, 3, 6, 8, 9, 10, 11, 12, 13, 14, 15, 16].filterMap fun i => pW.main.body[i]? } }
abbrev looseM : List Str := ["b3_exceptions"]
noncomputable abbrev SM (w : World) (os : OsState) : Shared := (S17 w os).abs
abbrev XtM : Shared → Bool := fun s => xlAt qM [] s && recOk [] s
theorem l_big (w : World) (os : OsState) : (((staticsOk (importedModules pW.main.body) (boot_heap w.params) (S17 w os).abs.heap && namesBound pW (S17 w os).abs.heap && gensDone (S17 w os).abs && laidKept (boot_heap w.params) (S17 w os).abs.heap)), (seen ((recsOf qM).map (·.name)) (ownsOf qM) [] { (S17 w os).abs with gens := #[] }), ((S17 w os).abs.heap.bltView), (tabsOk qM (S17 w os).abs), (pinSeenD qM (drecsOf qM) (S17 w os).abs), (plainSeenE qM (looseW qM looseM) (S17 w os).abs), (plainSeenD qM looseM (S17 w os).abs), (wideSeen qM (S17 w os).abs), (clsSeenW qM looseM (S17 w os).abs), (((S17 w os).abs.heap.keysOk (looseW qM looseM) ((recsOf qM).map (·.name)) ((litsOf qM).map (·.1)) ((clssOf qM (looseW qM looseM)).map (·.name)) && (S17 w os).abs.heap.accountedOkI (importedModules pW.main.body) && (S17 w os).abs.heap.isNs mainGlobals && (S17 w os).abs.heap.isNs builtinsNs && tablesOk qM (S17 w os).abs.heap && XtM (S17 w os).abs && (if true = true then (S17 w os).abs.gens.size == 0 else !leftWithCleanup (S17 w os).abs.gens)))) = ((true), (expectedOf qM), (bltViewBooted), (true), (pinGoodD (drecsOf qM)), (plainGoodE qM (looseW qM looseM)), (plainGoodD qM looseM), (wideGood qM), (clsGoodW qM looseM), (true)) := by kernel_rfl
theorem fst_of {α β : Type} {a b : α} {c d : β} (h : (a, c) = (b, d)) : a = b := (Prod.mk.inj h).1
theorem snd_of {α β : Type} {a b : α} {c d : β} (h : (a, c) = (b, d)) : c = d := (Prod.mk.inj h).2
theorem l_pre (w : World) (os : OsState) : ((staticsOk (importedModules pW.main.body) (boot_heap w.params) (S17 w os).abs.heap && namesBound pW (S17 w os).abs.heap && gensDone (S17 w os).abs && laidKept (boot_heap w.params) (S17 w os).abs.heap)) = true := fst_of (l_big w os)
theorem l_seen (w : World) (os : OsState) : (seen ((recsOf qM).map (·.name)) (ownsOf qM) [] { (S17 w os).abs with gens := #[] }) = expectedOf qM := fst_of (snd_of (l_big w os))
theorem l_blt (w : World) (os : OsState) : ((S17 w os).abs.heap.bltView) = bltViewBooted := fst_of (snd_of (snd_of (l_big w os)))
theorem l_tabs (w : World) (os : OsState) : (tabsOk qM (S17 w os).abs) = true := fst_of (snd_of (snd_of (snd_of (l_big w os))))
theorem l_pin (w : World) (os : OsState) : (pinSeenD qM (drecsOf qM) (S17 w os).abs) = pinGoodD (drecsOf qM) := fst_of (snd_of (snd_of (snd_of (snd_of (l_big w os)))))
theorem l_plainE (w : World) (os : OsState) : (plainSeenE qM (looseW qM looseM) (S17 w os).abs) = plainGoodE qM (looseW qM looseM) := fst_of (snd_of (snd_of (snd_of (snd_of (snd_of (l_big w os))))))
theorem l_plainD (w : World) (os : OsState) : (plainSeenD qM looseM (S17 w os).abs) = plainGoodD qM looseM := fst_of (snd_of (snd_of (snd_of (snd_of (snd_of (snd_of (l_big w os)))))))
theorem l_wide (w : World) (os : OsState) : (wideSeen qM (S17 w os).abs) = wideGood qM := fst_of (snd_of (snd_of (snd_of (snd_of (snd_of (snd_of (snd_of (l_big w os))))))))
theorem l_cls (w : World) (os : OsState) : (clsSeenW qM looseM (S17 w os).abs) = clsGoodW qM looseM := fst_of (snd_of (snd_of (snd_of (snd_of (snd_of (snd_of (snd_of (snd_of (l_big w os)))))))))
theorem l_third (w : World) (os : OsState) : (((S17 w os).abs.heap.keysOk (looseW qM looseM) ((recsOf qM).map (·.name)) ((litsOf qM).map (·.1)) ((clssOf qM (looseW qM looseM)).map (·.name)) && (S17 w os).abs.heap.accountedOkI (importedModules pW.main.body) && (S17 w os).abs.heap.isNs mainGlobals && (S17 w os).abs.heap.isNs builtinsNs && tablesOk qM (S17 w os).abs.heap && XtM (S17 w os).abs && (if true = true then (S17 w os).abs.gens.size == 0 else !leftWithCleanup (S17 w os).abs.gens))) = true := snd_of (snd_of (snd_of (snd_of (snd_of (snd_of (snd_of (snd_of (snd_of (l_big w os)))))))))
end Mine
end
section
open PySem PySem.W PySem.Spec PySem.Calls PyProof.Rows
set_option maxRecDepth 100000
set_option Elab.async false
set_option maxHeartbeats 4000000
namespace Mine
theorem left_of_runs {p q : Program} {loose : List Str} {Xt : Shared → Bool} {α : Type} {Yf : Shared → α} {Ya : World → α} {N : Nat} {g0 : Bool} {H₀ : Params → Heap} {S : World → OsState → Shared} {gs₀ : Array GenState} {d₀ : Drawn} {k₀ : Nat} {m₀ : Nat} {ann : Option Value} {M : Nat}
    (open_ : ∀ w : World, (fencedOpening treeTable p w N).map (fun s => (s.heap, s.gens, s.drawn, s.toks)) = some (H₀ w.params, gs₀, d₀, k₀))
    (size : ∀ w : World, ((H₀ w.params).isNs mainGlobals && gs₀.size == 0, (H₀ w.params).objs.size, (H₀ w.params).nsMap mainGlobals "__annotations__") = (true, m₀, ann))
    (run : ∀ (w : World) (os : OsState), topRun treeTable p w m₀ ann M ⟨H₀ w.params, gs₀, d₀, k₀, os⟩ (topStub p) = some (S w os)) (le : Nat.ble M N = true)
    (look1 : ∀ w os, (staticsOk (importedModules p.main.body) (H₀ w.params) (S w os).heap && namesBound p (S w os).heap && gensDone (S w os) && laidKept (H₀ w.params) (S w os).heap) = true)
    (look2 : ∀ w os, openSeen q loose (importedModules p.main.body) Xt g0 (S w os) = openGood q loose)
    (look3 : ∀ w os, Yf (S w os) = Ya w) : LeftO p q loose Xt Yf Ya N g0 := fun w => by
  obtain ⟨⟨h, gs, d, k, os⟩, e, e'⟩ := Option.map_eq_some_iff.mp (open_ w)
  obtain ⟨rfl, rfl, rfl, rfl⟩ : h = H₀ w.params ∧ gs = gs₀ ∧ d = d₀ ∧ k = k₀ := by simpa using e'
  obtain ⟨z1, z2, z3⟩ : _ ∧ _ ∧ _ := by simpa only [Prod.mk.injEq] using size w
  have r := topRun_mono (N - M) _ _ _ _ (run w os)
  rw [show M + (N - M) = N by have := Nat.le_of_ble_eq_true le; omega] at r
  have t : topFrom treeTable p w N ⟨H₀ w.params, gs, d, k, os⟩ = some (S w os) := by
    unfold topFrom
    dsimp only
    rw [z1, z2, z3, r]
    show (match staticsOk (importedModules p.main.body) (H₀ w.params) (S w os).heap && namesBound p (S w os).heap && gensDone (S w os) && laidKept (H₀ w.params) (S w os).heap with | true => _ | false => _) = _
    rw [look1 w os]
  unfold openEnds
  rw [e]
  show (topFrom treeTable p w N _).map _ = _
  rw [t]
  exact congrArg some (Prod.ext (look2 w os) (look3 w os))
theorem l_all (w : World) (os : OsState) : openSeen qM looseM (importedModules pW.main.body) XtM true (SM w os) = openGood qM looseM := by
  unfold openSeen openGood
  rw [l_seen w os, l_blt w os, l_third w os, l_tabs w os, l_pin w os, l_plainE w os, l_plainD w os, l_wide w os, l_cls w os]
theorem leftM {α : Type} {Yf : Shared → α} {Ya : World → α} (h : ∀ w os, Yf (SM w os) = Ya w) : LeftO pW qM looseM XtM Yf Ya 20000 :=
  left_of_runs (S := SM) top_open top_size top_run (by decide) l_pre l_all h
end Mine
end
section
open PySem PySem.W PySem.Spec PySem.Calls PyProof.Rows
set_option maxRecDepth 100000
set_option Elab.async false
set_option maxHeartbeats 4000000
namespace Mine
local macro_rules | `(tactic| o_head $H) => `(tactic| (
  refine Mine.head_of_walkC (q := qM) (loose := looseM) (Xt := XtM) (XP := XL qM []) (Yf := Hook.obs $H) (Ya := Hook.val $H) (YP := Hook.says $H) (N := 20000) (leftM (fun w os => by kernel_rfl)) (Hook.of $H) (Hook.keeps $H) (fun s e => xl_of s (Bool.and_eq_true_iff.mp e).1) XL.keeps (by rfl) (by rfl) (by rfl) (fun s e => recFacts_of (Bool.and_eq_true_iff.mp e).2) (by rfl) (by first | assumption | decide +kernel) (by decide +kernel) ⟨rfl, rfl, rfl, rfl, rfl, by decide +kernel⟩ ?hw ?hc))
abbrev rM : OpenRow := PySem.Challenge.rw_mj0210_01.row
theorem said_bare : (["vars", "dir", "locals"] : List Str).filter (readsOut rM.prog rM.prog.main.body) = [] := by kernel_rfl
theorem said_low : (!(importedModules rM.prog.main.body).all cThrough.contains) = false := by kernel_rfl
theorem said_road : noRoadLSs { strict := false, foot := none, bare := [] } rM.prog.main.body = true := by kernel_rfl
theorem said_res : namesResolve rM.prog = true := by kernel_rfl
theorem said_att : (namesMeet rM.prog rM.prog.main.body fun _ n => attrL n) = true := by kernel_rfl
theorem said_opens : looksOpen rM.prog = true := by
  unfold looksOpen
  rw [said_bare, said_low, said_road, said_res, said_att]
  kernel_rfl
theorem said_row : rM.wellSaid = true := by
  unfold OpenRow.wellSaid OpenRow.partSaid
  rw [said_opens]
  kernel_rfl
theorem said_all : PySem.Challenge.rw_mj0210_01.wellSaid = true := by
  unfold OpenLaw.wellSaid
  rw [show PySem.Challenge.rw_mj0210_01.row.wellSaid = true from said_row]
  kernel_rfl
local macro_rules | `(tactic| o_law) => `(tactic| refine holds_law said_all fun said => ?_)
open_top hd for PySem.Challenge.rw_mj0210_01
end Mine
end
section
open PySem PySem.W PySem.Spec PySem.Calls PyProof.Rows
set_option maxRecDepth 100000
set_option Elab.async false
set_option maxHeartbeats 400000
set_option linter.unusedVariables false
namespace Mine
abbrev Ext (h h' : Heap) : Prop := ∀ b o, h.get? b = some o → h'.get? b = some o
theorem Ext.rfl' {h : Heap} : Ext h h := fun _ _ e => e
theorem Ext.trans {a b c : Heap} (x : Ext a b) (y : Ext b c) : Ext a c := fun p o e => y p o (x p o e)
noncomputable abbrev KF (w : World) : Frag := hd.heap_1 w.params
abbrev MM (w : World) : Model := model pW w
/-- what every heap behind the top keeps: the text's own objects, the names -/
structure Gl (w : World) (h : Heap) : Prop where
  k : (KF w).In h
  lim : h.NoLimit
  nod : ∃ mc, h.Ns cStatics mc ∧ mc "sys.int_max_str_digits" = none
  glob : ∃ mg, h.Ns mainGlobals mg
  blt : ∃ mb, h.Ns builtinsNs mb ∧ ∀ x : Str, x ≠ "__name__" → mb x = bootBuiltins x
theorem Gl.keeps {w : World} {h h' : Heap} (g : Gl w h) (k : Ext h h') : Gl w h' where
  k := g.k.keeps k
  lim := g.lim.keeps k
  nod := let ⟨mc, a, b⟩ := g.nod; ⟨mc, a.keeps k, b⟩
  glob := let ⟨mg, a⟩ := g.glob; ⟨mg, a.keeps k⟩
  blt := let ⟨mb, a, b⟩ := g.blt; ⟨mb, a.keeps k, b⟩
/-- the data that the text's defs handle -/
inductive D where
  | none
  | bool (b : Bool)
  | int (i : Int)
  | str (x : Str)
  | nums (l : List Int)
  | txts (l : List Str)
  | tup (l : List Str)
  | tab
def Rep (h : Heap) : D → Value → Prop
  | .none, v => v = .none
  | .bool b, v => v = .bool b
  | .int i, v => ∃ t, v = .int i t
  | .str x, v => ∃ t, v = .str x t
  | .nums l, v => ∃ a vs, v = .ref a ∧ h.IsList a vs.toArray ∧ IntsAre vs l
  | .txts l, v => ∃ a vs, v = .ref a ∧ h.IsList a vs.toArray ∧ StrsAre vs l
  | .tup l, v => ∃ a vs, v = .ref a ∧ IsTup h a vs.toArray ∧ StrsAre vs l
  | .tab, v => v = .ref 36
theorem isList_keeps {h h' : Heap} {a : Addr} {i : Array Value} (x : h.IsList a i) (k : Ext h h') : h'.IsList a i := let ⟨o, e, r⟩ := x; ⟨o, k _ _ e, r⟩
theorem isTup_keeps {h h' : Heap} {a : Addr} {i : Array Value} (x : IsTup h a i) (k : Ext h h') : IsTup h' a i := let ⟨o, e, r⟩ := x; ⟨o, k _ _ e, r⟩
theorem Rep.keeps {h h' : Heap} {d : D} {v : Value} (r : Rep h d v) (k : Ext h h') : Rep h' d v := by
  cases d with
  | none => exact r
  | bool b => exact r
  | int i => exact r
  | str x => exact r
  | nums l => obtain ⟨a, vs, e, x, y⟩ := r; exact ⟨a, vs, e, isList_keeps x k, y⟩
  | txts l => obtain ⟨a, vs, e, x, y⟩ := r; exact ⟨a, vs, e, isList_keeps x k, y⟩
  | tup l => obtain ⟨a, vs, e, x, y⟩ := r; exact ⟨a, vs, e, isTup_keeps x k, y⟩
  | tab => exact r
theorem Rep.same {h h' : Heap} {L : Addr} {m : Str → Option Value} {d : D} {v : Value} (r : Rep h d v) (n : h.Ns L m) (k : Heap.SameBut L h h') : Rep h' d v := by
  obtain ⟨oL, es, ep, hL, hd, _⟩ := n
  have ne : ∀ a o xs c, h.get? a = some o → o.data = .seq xs c → a ≠ L := fun a o xs c e q w => by
    rw [w, hL] at e; cases e; rw [hd] at q; cases q
  cases d with
  | none => exact r
  | bool b => exact r
  | int i => exact r
  | str x => exact r
  | nums l => obtain ⟨a, vs, e, ⟨o, x1, x2, n, x3⟩, y⟩ := r; exact ⟨a, vs, e, ⟨o, k.extBut a o (ne _ _ _ _ x1 x3) x1, x2, n, x3⟩, y⟩
  | txts l => obtain ⟨a, vs, e, ⟨o, x1, x2, n, x3⟩, y⟩ := r; exact ⟨a, vs, e, ⟨o, k.extBut a o (ne _ _ _ _ x1 x3) x1, x2, n, x3⟩, y⟩
  | tup l => obtain ⟨a, vs, e, ⟨o, x1, x2, n, x3⟩, y⟩ := r; exact ⟨a, vs, e, ⟨o, k.extBut a o (ne _ _ _ _ x1 x3) x1, x2, n, x3⟩, y⟩
  | tab => exact r
/-- room for n calls one within the other -/
structure Rm (A : Around) (n : Nat) : Prop where
  hd : A.handled = none
  dp : A.depth + n < recursionLimit
  un : A.units + 10 * n + 10 < cLine
  gd : A.guards = some []
theorem Rm.deeper {A : Around} {n : Nat} (r : Rm A (n + 1)) (env : Env) : Rm (A.deeper env) n :=
  ⟨r.hd, by have := r.dp; show A.depth + 1 + n < _; omega, by have := r.un; show A.units + 3 + 10 * n + 10 < _; omega, r.gd⟩
theorem Rm.mono {A : Around} {n k : Nat} (r : Rm A n) (h : k ≤ n) : Rm A k := ⟨r.hd, by have := r.dp; omega, by have := r.un; omega, r.gd⟩
structure EnvOk (env : Env) : Prop where
  k : env.scope.kind = .function
  g : env.globals = mainGlobals
  b : env.builtins = builtinsNs
abbrev Mem := List (Str × D)
/-- the environment's own store holds the data -/
structure Sees (w : World) (env : Env) (m : Mem) (s : Shared) : Prop where
  gl : Gl w s.heap
  tk : 0 < s.toks
  ns : ∃ mv, s.heap.Ns env.locals mv ∧ ∀ x d, m.lookup x = some d → ∃ v, mv x = some v ∧ Rep s.heap d v
theorem Sees.keeps {w : World} {env : Env} {m : Mem} {s s' : Shared} (h : Sees w env m s) (k : Keeps s s') (t : s.toks ≤ s'.toks) : Sees w env m s' := by
  obtain ⟨h', tk, rfl, k⟩ := k
  obtain ⟨mv, n, r⟩ := h.ns
  exact ⟨h.gl.keeps k, Nat.lt_of_lt_of_le h.tk t, mv, n.keeps k, fun x d e => let ⟨v, a, b⟩ := r x d e; ⟨v, a, b.keeps k⟩⟩
theorem keeps_trans {a b c : Shared} (x : Keeps a b) (y : Keeps b c) : Keeps a c := by
  obtain ⟨h, t, rfl, k⟩ := x
  obtain ⟨h', t', rfl, k'⟩ := y
  exact ⟨h', t', rfl, fun p o e => k' p o (k p o e)⟩
theorem keeps_tok {s : Shared} {t : Nat} : Keeps s { s with toks := t } := ⟨s.heap, t, rfl, fun _ _ e => e⟩
theorem keeps_self {s : Shared} : Keeps s s := ⟨s.heap, s.toks, rfl, fun _ _ e => e⟩
theorem keeps_heap {s : Shared} {h : Heap} {t : Nat} (k : Ext s.heap h) : Keeps s { s with heap := h, toks := t } := ⟨h, t, rfl, k⟩
theorem kext {s s' : Shared} (k : Keeps s s') : Ext s.heap s'.heap := by obtain ⟨h, t, rfl, k⟩ := k; exact k
abbrev No : Value → Shared → Prop := fun _ _ => False
/-- a context: the calls above, the environment -/
structure Cx where
  A : Around
  env : Env
  n : Nat
structure Cx.Ok (c : Cx) : Prop where
  rm : Rm c.A c.n
  en : EnvOk c.env
/-- the expression's value, in every state in which the environment holds the data m -/
def Ev (w : World) (c : Cx) (m : Mem) (e : PySem.Expr) (d : D) : Prop :=
  ∀ s, c.Ok → Sees w c.env m s → wpAny (MM w) c.A (eval e c.env) (fun v s' => Keeps s s' ∧ Rep s'.heap d v) No s
/-- the test's truth -/
def Tv (w : World) (c : Cx) (m : Mem) (e : PySem.Expr) (b : Bool) : Prop :=
  ∀ s, c.Ok → Sees w c.env m s → wpAny (MM w) c.A (isTrue e c.env (eval e c.env)) (fun v s' => Keeps s s' ∧ v = b) No s
section
variable {w : World} {c : Cx} {m : Mem} {e : PySem.Expr} {d : D} {s : Shared} {E : Value → Shared → Prop}
theorem use {t : Sem Value} {A : Around} {Q : Value → Shared → Prop} (h : wpAny (MM w) A t (fun v s' => Keeps s s' ∧ Rep s'.heap d v) No s) (hs : Sees w c.env m s)
    (k : ∀ v s', Keeps s s' → Sees w c.env m s' → Rep s'.heap d v → Q v s') : wpAny (MM w) A t Q E s :=
  wpAny_mono (wpAny_toks h) (fun v s' x => k v s' x.2.1 (hs.keeps x.2.1 x.1) x.2.2) fun _ _ x => x.2.elim
theorem Ev.use {Q : Value → Shared → Prop} (h : Ev w c m e d) (ok : c.Ok) (hs : Sees w c.env m s)
    (k : ∀ v s', Keeps s s' → Sees w c.env m s' → Rep s'.heap d v → Q v s') : wpAny (MM w) c.A (eval e c.env) Q E s := Mine.use (h s ok hs) hs k
theorem Tv.use {b : Bool} {Q : Bool → Shared → Prop} (h : Tv w c m e b) (ok : c.Ok) (hs : Sees w c.env m s)
    (k : ∀ s', Keeps s s' → Sees w c.env m s' → Q b s') : wpAny (MM w) c.A (isTrue e c.env (eval e c.env)) Q E s :=
  wpAny_mono (wpAny_toks (h s ok hs)) (fun v s' x => x.2.2 ▸ k s' x.2.1 (hs.keeps x.2.1 x.1)) fun _ _ x => x.2.elim
theorem Ev.name {x : Str} {p : Pos} (h : m.lookup x = some d) (hl : c.env.kindOf x = some .local) (hx : (x == ("__debug__" : Str)) = false := by decide) : Ev w c m (.Name x p) d := fun s ok hs => by
  obtain ⟨mv, n, r⟩ := hs.ns
  obtain ⟨v, a, b⟩ := r x d h
  exact wpAny_Name (wpAny_loadName_local ok.en.k hl n a ⟨keeps_self, b⟩) hx
theorem Ev.cint {i : Int} {k : Nat} {p : Pos} : Ev w c m (.Constant (.int i) k p) (.int i) := fun s _ _ => wpAny_Constant_int ⟨keeps_tok, _, rfl⟩
theorem Ev.cstr {x : Str} {k : Nat} {p : Pos} : Ev w c m (.Constant (.str x) k p) (.str x) := fun s _ _ => wpAny_Constant_str ⟨keeps_tok, _, rfl⟩
theorem Ev.cbool {b : Bool} {k : Nat} {p : Pos} : Ev w c m (.Constant (.bool b) k p) (.bool b) := fun s _ _ => wpAny_Constant_bool ⟨keeps_self, rfl⟩
theorem Ev.cnone {k : Nat} {p : Pos} : Ev w c m (.Constant .none k p) .none := fun s _ _ => wpAny_Constant_none ⟨keeps_self, rfl⟩
/-- a binary operator on two data -/
def Bin (w : World) (A : Around) (op : Operator) (a b r : D) : Prop :=
  ∀ s va vb, 0 < s.toks → Gl w s.heap → Rep s.heap a va → Rep s.heap b vb → wpAny (MM w) A (binaryOp op va vb) (fun v s' => Keeps s s' ∧ Rep s'.heap r v) No s
theorem Ev.bin {l r : PySem.Expr} {op : Operator} {p : Pos} {a b : D} (hl : Ev w c m l a) (hr : Ev w c m r b) (hb : c.Ok → Bin w c.A op a b d) : Ev w c m (.BinOp l op r p) d := fun s ok hs =>
  wpAny_BinOp (hl.use ok hs fun va s₁ k₁ hs₁ r₁ => hr.use ok hs₁ fun vb s₂ k₂ hs₂ r₂ =>
    wpAny_mono (hb ok s₂ va vb hs₂.tk hs₂.gl (r₁.keeps (kext k₂)) r₂) (fun v s₃ x => ⟨keeps_trans k₁ (keeps_trans k₂ x.1), x.2⟩) fun _ _ x => x)
theorem Bin.addI {A : Around} {a b : Int} : Bin w A .Add (.int a) (.int b) (.int (a + b)) := fun s va vb _ _ ⟨t, e⟩ ⟨u, f⟩ => by
  subst e; subst f; exact add_int ⟨keeps_tok, _, rfl⟩
theorem Bin.subI {A : Around} {a b : Int} : Bin w A .Sub (.int a) (.int b) (.int (a - b)) := fun s va vb _ _ ⟨t, e⟩ ⟨u, f⟩ => by
  subst e; subst f; exact sub_int ⟨keeps_tok, _, rfl⟩
end
end Mine
end
section
open PySem PySem.W PySem.Spec PySem.Calls PyProof.Rows
set_option maxRecDepth 100000
set_option Elab.async false
set_option maxHeartbeats 400000
set_option linter.unusedVariables false
namespace Mine
section
variable {w : World} {c : Cx} {m : Mem} {e : PySem.Expr} {d : D} {s : Shared} {E : Value → Shared → Prop} {A : Around}
theorem Bin.mulI {a b : Int} (h : IntMulOk a b) : Bin w A .Mult (.int a) (.int b) (.int (a * b)) := fun s va vb _ _ ⟨t, e⟩ ⟨u, f⟩ => by
  subst e; subst f; exact mul_int ⟨keeps_tok, _, rfl⟩ h
theorem Bin.modI {a b : Int} (h : b ≠ 0) : Bin w A .Mod (.int a) (.int b) (.int (Int.fmod a b)) := fun s va vb _ _ ⟨t, e⟩ ⟨u, f⟩ => by
  subst e; subst f; exact mod_int' h ⟨keeps_tok, _, rfl⟩
theorem Bin.divI {a b : Int} (h : b ≠ 0) (hp : Builtin.divisionGoesByPylong a b = false) : Bin w A .FloorDiv (.int a) (.int b) (.int (Int.fdiv a b)) := fun s va vb _ _ ⟨t, e⟩ ⟨u, f⟩ => by
  subst e; subst f; exact floordiv_int h ⟨keeps_tok, _, rfl⟩ (.inl hp)
theorem Bin.addS {x y : Str} (h : x.length + y.length ≤ sizeLine) : Bin w A .Add (.str x) (.str y) (.str (x ++ y)) := fun s va vb _ _ ⟨t, e⟩ ⟨u, f⟩ => by
  subst e; subst f; exact add_str (fun t' tk => ⟨keeps_tok, _, rfl⟩) h
theorem StrsAre.app {a b : List Value} {x y : List Str} (h : StrsAre a x) (k : StrsAre b y) : StrsAre (a ++ b) (x ++ y) := by
  induction h with
  | nil => exact k
  | cons y t _ ih => exact .cons y t ih
theorem IntsAre.app {a b : List Value} {x y : List Int} (h : IntsAre a x) (k : IntsAre b y) : IntsAre (a ++ b) (x ++ y) := by
  induction h with
  | nil => exact k
  | cons y t _ ih => exact .cons y t ih
theorem StrsAre.len {a : List Value} {x : List Str} (h : StrsAre a x) : a.length = x.length := by
  induction h with
  | nil => rfl
  | cons y t _ ih => simp [ih]
theorem IntsAre.len {a : List Value} {x : List Int} (h : IntsAre a x) : a.length = x.length := by
  induction h with
  | nil => rfl
  | cons y t _ ih => simp [ih]
theorem IntsAre.dropT {a : List Value} {x : List Int} (h : IntsAre a x) : ∀ n, IntsAre (a.drop n) (x.drop n) := by
  induction h with
  | nil => intro n; simp; exact .nil
  | cons y t h ih => intro n; cases n with | zero => exact .cons y t h | succ n => exact ih n
theorem IntsAre.takeT {a : List Value} {x : List Int} (h : IntsAre a x) : ∀ n, IntsAre (a.take n) (x.take n) := by
  induction h with
  | nil => intro n; simp; exact .nil
  | cons y t h ih => intro n; cases n with | zero => exact .nil | succ n => exact .cons y t (ih n)
theorem StrsAre.dropT {a : List Value} {x : List Str} (h : StrsAre a x) : ∀ n, StrsAre (a.drop n) (x.drop n) := by
  induction h with
  | nil => intro n; simp; exact .nil
  | cons y t h ih => intro n; cases n with | zero => exact .cons y t h | succ n => exact ih n
theorem StrsAre.takeT {a : List Value} {x : List Str} (h : StrsAre a x) : ∀ n, StrsAre (a.take n) (x.take n) := by
  induction h with
  | nil => intro n; simp; exact .nil
  | cons y t h ih => intro n; cases n with | zero => exact .nil | succ n => exact .cons y t (ih n)
theorem IntsAre.at? {a : List Value} {x : List Int} (h : IntsAre a x) : ∀ (n : Nat) (i : Int), x[n]? = some i → ∃ t, a[n]? = some (.int i t) := by
  induction h with
  | nil => intro n i e; simp at e
  | cons y t h ih =>
    intro n i e
    cases n with
    | zero => simp at e; subst e; exact ⟨t, rfl⟩
    | succ n => exact ih n i (by simpa using e)
theorem StrsAre.at? {a : List Value} {x : List Str} (h : StrsAre a x) : ∀ (n : Nat) (i : Str), x[n]? = some i → ∃ t, a[n]? = some (.str i t) := by
  induction h with
  | nil => intro n i e; simp at e
  | cons y t h ih =>
    intro n i e
    cases n with
    | zero => simp at e; subst e; exact ⟨t, rfl⟩
    | succ n => exact ih n i (by simpa using e)
theorem add_listsX {l b : Addr} {vs ws : List Value} {Q : Value → Shared → Prop} (hl : s.heap.IsList l vs.toArray) (hb : s.heap.IsList b ws.toArray)
    (h : ∀ h', Ext s.heap h' → h'.IsList s.heap.objs.size (vs ++ ws).toArray → Q (.ref s.heap.objs.size) { s with heap := h' }) (hsz : vs.length + ws.length ≤ sizeLine) :
    wpAny (MM w) A (binaryOp .Add (.ref l) (.ref b)) Q E s := by
  obtain ⟨⟨cls, dd, data, sl⟩, ho, hc, n, hd⟩ := id hl
  obtain ⟨⟨cls2, dd2, data2, sl2⟩, ho2, hc2, n2, hd2⟩ := id hb
  simp only at hc hd hc2 hd2
  subst hc hd hc2 hd2
  have e : vs.toArray ++ ws.toArray = (vs ++ ws).toArray := by simp
  refine concat_meets ⟨_, ho, rfl⟩ ⟨_, ho2, rfl⟩ noFill_list_add seq_list_add PySem.F.slot_list_add PySem.F.entry_list_add (PySem.F.args_list_add_2 _ _) (list_addW l b vs.toArray ws.toArray n n2 dd dd2 sl sl2 (by simpa using hsz)) ⟨ho, ho2, ?_⟩
  rw [e]
  exact h _ (fun _ _ q => Heap.get?_push_of_some _ q) ⟨_, Heap.get?_push_size _ rfl, rfl, _, rfl⟩
theorem Bin.addN {x y : List Int} (h : x.length + y.length ≤ sizeLine) : Bin w A .Add (.nums x) (.nums y) (.nums (x ++ y)) := fun s va vb _ _ ⟨a, vs, e1, l1, i1⟩ ⟨b, ws, e2, l2, i2⟩ => by
  subst e1; subst e2
  exact add_listsX l1 l2 (fun h' k l => ⟨⟨h', s.toks, rfl, k⟩, _, _, rfl, l, IntsAre.app i1 i2⟩) (by rw [IntsAre.len i1, IntsAre.len i2]; exact h)
theorem Bin.addT {x y : List Str} (h : x.length + y.length ≤ sizeLine) : Bin w A .Add (.txts x) (.txts y) (.txts (x ++ y)) := fun s va vb _ _ ⟨a, vs, e1, l1, i1⟩ ⟨b, ws, e2, l2, i2⟩ => by
  subst e1; subst e2
  exact add_listsX l1 l2 (fun h' k l => ⟨⟨h', s.toks, rfl, k⟩, _, _, rfl, l, StrsAre.app i1 i2⟩) (by rw [StrsAre.len i1, StrsAre.len i2]; exact h)
theorem Ev.neg {i : Int} {p : Pos} (h : Ev w c m e (.int i)) : Ev w c m (.UnaryOp .USub e p) (.int (-i)) := fun s ok hs =>
  UnaryOp_ (h.use ok hs fun v s₁ k₁ hs₁ r₁ => by obtain ⟨t, rfl⟩ := r₁; exact PyProof.Rows.neg_int ⟨keeps_trans k₁ keeps_tok, _, rfl⟩)
/-- a comparison of two data -/
def Cm (w : World) (A : Around) (op : CmpOp) (a b : D) (r : Bool) : Prop :=
  ∀ s va vb, 0 < s.toks → Gl w s.heap → Rep s.heap a va → Rep s.heap b vb → wpAny (MM w) A (compareOp op va vb) (fun v s' => Keeps s s' ∧ v = .bool r) No s
theorem Cm.ltI {a b : Int} : Cm w A .Lt (.int a) (.int b) (decide (a < b)) := fun s va vb _ _ ⟨t, e⟩ ⟨u, f⟩ => by subst e; subst f; exact lt_int ⟨keeps_self, rfl⟩
theorem Cm.leI {a b : Int} : Cm w A .LtE (.int a) (.int b) (decide (a ≤ b)) := fun s va vb _ _ ⟨t, e⟩ ⟨u, f⟩ => by subst e; subst f; exact le_int ⟨keeps_self, rfl⟩
theorem Cm.gtI {a b : Int} : Cm w A .Gt (.int a) (.int b) (decide (b < a)) := fun s va vb _ _ ⟨t, e⟩ ⟨u, f⟩ => by subst e; subst f; exact gt_int ⟨keeps_self, rfl⟩
theorem Cm.geI {a b : Int} : Cm w A .GtE (.int a) (.int b) (decide (b ≤ a)) := fun s va vb _ _ ⟨t, e⟩ ⟨u, f⟩ => by subst e; subst f; exact ge_int ⟨keeps_self, rfl⟩
theorem Cm.eqI {a b : Int} : Cm w A .Eq (.int a) (.int b) (a == b) := fun s va vb _ _ ⟨t, e⟩ ⟨u, f⟩ => by subst e; subst f; exact eq_int ⟨keeps_self, rfl⟩
theorem Cm.neI {a b : Int} : Cm w A .NotEq (.int a) (.int b) (a != b) := fun s va vb _ _ ⟨t, e⟩ ⟨u, f⟩ => by subst e; subst f; exact ne_int ⟨keeps_self, rfl⟩
theorem Cm.eqS {x y : Str} : Cm w A .Eq (.str x) (.str y) (x == y) := fun s va vb _ _ ⟨t, e⟩ ⟨u, f⟩ => by subst e; subst f; exact eq_str ⟨keeps_self, rfl⟩
theorem Cm.neS {x y : Str} : Cm w A .NotEq (.str x) (.str y) (x != y) := fun s va vb _ _ ⟨t, e⟩ ⟨u, f⟩ => by subst e; subst f; exact ne_str ⟨keeps_self, rfl⟩
theorem Cm.ltS {x y : Str} : Cm w A .Lt (.str x) (.str y) (decide (x.cps.toList < y.cps.toList)) := fun s va vb _ _ ⟨t, e⟩ ⟨u, f⟩ => by subst e; subst f; exact lt_str ⟨keeps_self, rfl⟩
theorem Cm.inS {x y : Str} : Cm w A .In (.str x) (.str y) (Txt.contains y x) := fun s va vb _ _ ⟨t, e⟩ ⟨u, f⟩ => by subst e; subst f; exact P.in_str ⟨keeps_self, rfl⟩
theorem Cm.inT {x : Str} {ys : List Str} : Cm w A .In (.str x) (.tup ys) (ys.any (· == x)) := fun s va vb _ _ ⟨t, e⟩ ⟨a, vs, e1, l1, i1⟩ => by
  subst e; subst e1; exact in_tuple_strs l1 i1 ⟨keeps_self, rfl⟩
theorem Cm.isnotN : Cm w A .IsNot .none .none false := fun s va vb _ _ e f => by
  simp only [Rep] at e f; subst e; subst f; exact wpAny_isNot_self rfl ⟨keeps_self, rfl⟩
theorem Cm.isnotS {x : Str} : Cm w A .IsNot (.str x) .none true := fun s va vb _ _ ⟨t, e⟩ f => by
  simp only [Rep] at f; subst e; subst f; exact isnot_none_ne (by intro q; cases q) ⟨keeps_self, rfl⟩
theorem Tv.cmp {l r : PySem.Expr} {op : CmpOp} {p : Pos} {a b : D} {v : Bool} (hl : Ev w c m l a) (hr : Ev w c m r b) (hc : Cm w c.A op a b v)
    (hm : behindInMarks op r = false := by with_unfolding_all rfl) : Tv w c m (.Compare l [op] [r] p) v := fun s ok hs =>
  wpAny_isTrue_Compare1 (hl.use ok hs fun va s₁ k₁ hs₁ r₁ => hr.use ok hs₁ fun vb s₂ k₂ hs₂ r₂ =>
    wpAny_mono (hc s₂ va vb hs₂.tk hs₂.gl (r₁.keeps (kext k₂)) r₂) (fun x s₃ q => by obtain ⟨q1, rfl⟩ := q; exact wpAny_truthy_bool ⟨keeps_trans k₁ (keeps_trans k₂ q1), rfl⟩) fun _ _ q => q) hm
theorem Tv.chain {l r₁ r₂ : PySem.Expr} {o₁ o₂ : CmpOp} {p : Pos} {a b d : D} {v u : Bool} (hl : Ev w c m l a) (h1 : Ev w c m r₁ b) (hc : Cm w c.A o₁ a b v) (h2 : Ev w c m r₂ d) (hc2 : Cm w c.A o₂ b d u)
    (hm : lastMarks [o₁, o₂] [r₁, r₂] = false := by with_unfolding_all rfl) : Tv w c m (.Compare l [o₁, o₂] [r₁, r₂] p) (v && u) := fun s ok hs => by
  refine isTrue_chain (hl.use ok hs fun va s₁ k₁ hs₁ e₁ => ?_) hm
  refine test_link (h1.use ok hs₁ fun vb s₂ k₂ hs₂ e₂ => ?_)
  refine wpAny_mono (wpAny_toks (hc s₂ va vb hs₂.tk hs₂.gl (e₁.keeps (kext k₂)) e₂)) (fun x s₃ q => ?_) fun _ _ q => q.2
  obtain ⟨tk, k₃, rfl⟩ := q
  refine wpAny_truthy_bool ?_
  cases v with
  | false => exact ⟨keeps_trans k₁ (keeps_trans k₂ k₃), rfl⟩
  | true =>
    have hs₃ := hs₂.keeps k₃ tk
    refine test_last (h2.use ok hs₃ fun vd s₄ k₄ hs₄ e₄ => ?_)
    refine wpAny_mono (hc2 s₄ vb vd hs₄.tk hs₄.gl (e₂.keeps (kext (keeps_trans k₃ k₄))) e₄) (fun x s₅ q => ?_) fun _ _ q => q
    obtain ⟨k₅, rfl⟩ := q
    exact wpAny_truthy_bool ⟨keeps_trans k₁ (keeps_trans k₂ (keeps_trans k₃ (keeps_trans k₄ k₅))), by simp⟩
/-- the truth of several tests, joined -/
def Tvs (w : World) (c : Cx) (m : Mem) (op : BoolOp) (es : List PySem.Expr) (b : Bool) : Prop :=
  ∀ s, c.Ok → Sees w c.env m s → wpAny (MM w) c.A (allTrue op es c.env) (fun v s' => Keeps s s' ∧ v = b) No s
theorem Tv.op {op : BoolOp} {es : List PySem.Expr} {p : Pos} {b : Bool} (h : Tvs w c m op es b) : Tv w c m (.BoolOp op es p) b := fun s ok hs => h s ok hs
theorem Tvs.one {op : BoolOp} {b : Bool} (h : Tv w c m e b) : Tvs w c m op [e] b := fun s ok hs => by
  show wpAny _ _ (do match op, ← isTrue e c.env (eval e c.env) with | .And, false => pure false | .Or, true => pure true | _, _ => allTrue op [] c.env) _ _ s
  refine wpAny_bind (h.use ok hs fun s₁ k₁ _ => ?_)
  cases op <;> cases b <;> exact wpAny_pure ⟨k₁, rfl⟩
theorem Tvs.and {es : List PySem.Expr} {b b' : Bool} (h : Tv w c m e b) (k : b = true → Tvs w c m .And es b') : Tvs w c m .And (e :: es) (b && b') := fun s ok hs => by
  show wpAny _ _ (do match BoolOp.And, ← isTrue e c.env (eval e c.env) with | .And, false => pure false | .Or, true => pure true | _, _ => allTrue .And es c.env) _ _ s
  refine wpAny_bind (h.use ok hs fun s₁ k₁ hs₁ => ?_)
  cases b with
  | false => exact wpAny_pure ⟨k₁, rfl⟩
  | true => exact wpAny_mono (k rfl s₁ ok hs₁) (fun _ _ q => ⟨keeps_trans k₁ q.1, by simp [q.2]⟩) fun _ _ q => q
theorem Tvs.or {es : List PySem.Expr} {b b' : Bool} (h : Tv w c m e b) (k : b = false → Tvs w c m .Or es b') : Tvs w c m .Or (e :: es) (b || b') := fun s ok hs => by
  show wpAny _ _ (do match BoolOp.Or, ← isTrue e c.env (eval e c.env) with | .And, false => pure false | .Or, true => pure true | _, _ => allTrue .Or es c.env) _ _ s
  refine wpAny_bind (h.use ok hs fun s₁ k₁ hs₁ => ?_)
  cases b with
  | true => exact wpAny_pure ⟨k₁, rfl⟩
  | false => exact wpAny_mono (k rfl s₁ ok hs₁) (fun _ _ q => ⟨keeps_trans k₁ q.1, by simp [q.2]⟩) fun _ _ q => q
theorem Tv.str {x : Str} (h : Ev w c m e (.str x)) (hx : x.length ≤ sizeLine)
    (he : isTrue e c.env (eval e c.env) = (do let v ← eval e c.env; standAt e.pos; holding [v] (truthy v)) := by rfl) : Tv w c m e ((x.length : Int) != 0) := fun s ok hs => by
  refine isTrue_plain (h.use ok hs fun v s₁ k₁ hs₁ r₁ => ?_) he
  obtain ⟨t, rfl⟩ := r₁
  refine PySem.P.truthy_str (by have := sizeLine_eq; omega) ⟨keeps_trans k₁ keeps_tok, rfl⟩
theorem Tv.bool {b : Bool} (h : Ev w c m e (.bool b)) 
    (he : isTrue e c.env (eval e c.env) = (do let v ← eval e c.env; standAt e.pos; holding [v] (truthy v)) := by rfl) : Tv w c m e b := fun s ok hs => by
  refine isTrue_plain (h.use ok hs fun v s₁ k₁ hs₁ r₁ => ?_) he
  simp only [Rep] at r₁; subst r₁
  exact wpAny_truthy_bool ⟨k₁, rfl⟩
theorem Ev.ifexp {t a b : PySem.Expr} {p : Pos} {v : Bool} {d₁ d₂ : D} (ht : Tv w c m t v) (ha : v = true → Ev w c m a d₁) (hb : v = false → Ev w c m b d₂) : Ev w c m (.IfExp t a b p) (if v then d₁ else d₂) := fun s ok hs =>
  wpAny_IfExp (ht.use ok hs fun s₁ k₁ hs₁ => by
    cases v with
    | true => exact wpAny_mono (ha rfl s₁ ok hs₁) (fun _ _ q => ⟨keeps_trans k₁ q.1, q.2⟩) fun _ _ q => q
    | false => exact wpAny_mono (hb rfl s₁ ok hs₁) (fun _ _ q => ⟨keeps_trans k₁ q.1, q.2⟩) fun _ _ q => q)
end
end Mine
end
section
open PySem PySem.W PySem.Spec PySem.Calls PyProof.Rows
set_option maxRecDepth 100000
set_option Elab.async false
set_option maxHeartbeats 400000
set_option linter.unusedVariables false
namespace Mine
section
variable {w : World} {c : Cx} {m : Mem} {e : PySem.Expr} {d : D} {s : Shared} {E : Value → Shared → Prop} {A : Around}
def Reps (h : Heap) : List D → List Value → Prop
  | [], [] => True
  | d :: ds, v :: vs => Rep h d v ∧ Reps h ds vs
  | _, _ => False
theorem Reps.keeps {h h' : Heap} (k : Ext h h') : ∀ {ds : List D} {vs : List Value}, Reps h ds vs → Reps h' ds vs
  | [], [], _ => trivial
  | d :: ds, v :: vs, ⟨a, b⟩ => ⟨a.keeps k, Reps.keeps k b⟩
  | [], _ :: _, x => x.elim
  | _ :: _, [], x => x.elim
theorem Reps.nums {h : Heap} : ∀ {l : List Int} {vs : List Value}, Reps h (l.map D.int) vs → IntsAre vs l
  | [], [], _ => .nil
  | i :: l, v :: vs, ⟨⟨t, a⟩, b⟩ => by subst a; exact .cons i t (Reps.nums b)
  | [], _ :: _, x => x.elim
  | _ :: _, [], x => x.elim
theorem Reps.txts {h : Heap} : ∀ {l : List Str} {vs : List Value}, Reps h (l.map D.str) vs → StrsAre vs l
  | [], [], _ => .nil
  | i :: l, v :: vs, ⟨⟨t, a⟩, b⟩ => by subst a; exact .cons i t (Reps.txts b)
  | [], _ :: _, x => x.elim
  | _ :: _, [], x => x.elim
theorem Reps.ofTxts {h : Heap} {l : List Str} {vs : List Value} (x : StrsAre vs l) : Reps h (l.map D.str) vs := by
  induction x with
  | nil => trivial
  | cons y t _ ih => exact ⟨⟨t, rfl⟩, ih⟩
/-- several expressions, one behind the other -/
def Evs (w : World) (c : Cx) (m : Mem) (es : List PySem.Expr) (ds : List D) : Prop :=
  ∀ s (p : Pos), c.Ok → Sees w c.env m s → wpAny (MM w) c.A (spliced (backTo p (starEach es c.env))) (fun vs s' => Keeps s s' ∧ Reps s'.heap ds vs) No s
theorem Evs.nil : Evs w c m [] [] := fun s p ok hs => spliced_none ⟨keeps_self, trivial⟩
theorem Evs.cons {es : List PySem.Expr} {ds : List D} (h : Ev w c m e d) (k : Evs w c m es ds) (he : starEach (e :: es) c.env = (false, eval e c.env) :: starEach es c.env := by rfl) : Evs w c m (e :: es) (d :: ds) := fun s p ok hs =>
  spliced_more (h.use ok hs fun v s₁ k₁ hs₁ r₁ => wpAny_mono (k s₁ p ok hs₁) (fun vs s₂ q => ⟨keeps_trans k₁ q.1, r₁.keeps (kext q.1), q.2⟩) fun _ _ q => q) he
theorem Evs.use {es : List PySem.Expr} {ds : List D} {p : Pos} {Q : List Value → Shared → Prop} (h : Evs w c m es ds) (ok : c.Ok) (hs : Sees w c.env m s)
    (k : ∀ v s', Keeps s s' → Sees w c.env m s' → Reps s'.heap ds v → Q v s') : wpAny (MM w) c.A (spliced (backTo p (starEach es c.env))) Q E s :=
  wpAny_mono (wpAny_toks (h s p ok hs)) (fun v s' x => k v s' x.2.1 (hs.keeps x.2.1 x.1) x.2.2) fun _ _ x => x.2.elim
theorem sized {l : List Value} (h : l.length ≤ sizeLine) : sizeOk (.seq l.toArray) := by show l.toArray.size ≤ sizeLine; rw [List.size_toArray]; exact h
theorem Reps.len {h : Heap} : ∀ {ds : List D} {vs : List Value}, Reps h ds vs → vs.length = ds.length
  | [], [], _ => rfl
  | d :: ds, v :: vs, ⟨a, b⟩ => by simp [Reps.len b]
  | [], _ :: _, x => x.elim
  | _ :: _, [], x => x.elim
theorem Ev.listN {es : List PySem.Expr} {l : List Int} {p : Pos} (h : Evs w c m es (l.map D.int)) (hz : l.length ≤ sizeLine) : Ev w c m (.List es p) (.nums l) := fun s ok hs =>
  List_ (h.use ok hs fun vs s₁ k₁ hs₁ r₁ => wpAny_newObj_type ⟨keeps_trans k₁ (keeps_heap fun _ _ q => Heap.get?_push_of_some _ q), _, vs, rfl, ⟨_, Heap.get?_push_size _ rfl, rfl, _, rfl⟩, r₁.nums⟩ (sized (by rw [r₁.len, List.length_map]; exact hz)))
theorem Ev.listT {es : List PySem.Expr} {l : List Str} {p : Pos} (h : Evs w c m es (l.map D.str)) (hz : l.length ≤ sizeLine) : Ev w c m (.List es p) (.txts l) := fun s ok hs =>
  List_ (h.use ok hs fun vs s₁ k₁ hs₁ r₁ => wpAny_newObj_type ⟨keeps_trans k₁ (keeps_heap fun _ _ q => Heap.get?_push_of_some _ q), _, vs, rfl, ⟨_, Heap.get?_push_size _ rfl, rfl, _, rfl⟩, r₁.txts⟩ (sized (by rw [r₁.len, List.length_map]; exact hz)))
theorem Ev.tup {es : List PySem.Expr} {l : List Str} {k : Nat} {p : Pos} (h : Evs w c m es (l.map D.str)) (hz : l.length ≤ sizeLine) : Ev w c m (.Tuple es k p) (.tup l) := fun s ok hs =>
  Tuple_ (h.use ok hs fun vs s₁ k₁ hs₁ r₁ => wpAny_newObj_type ⟨keeps_trans k₁ (keeps_heap fun _ _ q => Heap.get?_push_of_some _ q), _, vs, rfl, ⟨_, Heap.get?_push_size _ rfl, rfl, _, rfl⟩, r₁.txts⟩ (sized (by rw [r₁.len, List.length_map]; exact hz)))
/-- a place by an int -/
abbrev PlainSub (i : PySem.Expr) : Prop := ∀ a b, subscripted i false a b = operate [a, b] (getItem a b)
theorem Ev.itemN {v i : PySem.Expr} {p : Pos} {l : List Int} {k r : Int} (hv : Ev w c m v (.nums l)) (hi : Ev w c m i (.int k)) (h0 : 0 ≤ k) (hx : l[k.toNat]? = some r) (hz : k < 2 ^ 63)
    (hp : PlainSub i := by intro _ _; with_unfolding_all rfl) : Ev w c m (.Subscript v i p) (.int r) := fun s ok hs =>
  Subscript_ (hv.use ok hs fun o s₁ k₁ hs₁ r₁ => hi.use ok hs₁ fun iv s₂ k₂ hs₂ r₂ => by
    obtain ⟨a, vs, rfl, hl, hn⟩ := r₁.keeps (kext k₂)
    obtain ⟨u, rfl⟩ := r₂
    obtain ⟨t, ht⟩ := IntsAre.at? hn _ _ hx
    exact tail_any hl.typeIs slot_list_getitem.lookup (wpAny_getItem_list hl h0 hz (by simpa using ht) ⟨keeps_trans k₁ k₂, t, rfl⟩) (hp _ _))
theorem Ev.itemT {v i : PySem.Expr} {p : Pos} {l : List Str} {k : Int} {r : Str} (hv : Ev w c m v (.txts l)) (hi : Ev w c m i (.int k)) (h0 : 0 ≤ k) (hx : l[k.toNat]? = some r) (hz : k < 2 ^ 63)
    (hp : PlainSub i := by intro _ _; with_unfolding_all rfl) : Ev w c m (.Subscript v i p) (.str r) := fun s ok hs =>
  Subscript_ (hv.use ok hs fun o s₁ k₁ hs₁ r₁ => hi.use ok hs₁ fun iv s₂ k₂ hs₂ r₂ => by
    obtain ⟨a, vs, rfl, hl, hn⟩ := r₁.keeps (kext k₂)
    obtain ⟨u, rfl⟩ := r₂
    obtain ⟨t, ht⟩ := StrsAre.at? hn _ _ hx
    exact tail_any hl.typeIs slot_list_getitem.lookup (wpAny_getItem_list hl h0 hz (by simpa using ht) ⟨keeps_trans k₁ k₂, t, rfl⟩) (hp _ _))
theorem Ev.itemS {v i : PySem.Expr} {p : Pos} {x : Str} {k : Int} (hv : Ev w c m v (.str x)) (hi : Ev w c m i (.int k)) (h0 : -(x.length : Int) ≤ k) (h1 : k < x.length) (hz : x.length ≤ sizeLine)
    (hp : PlainSub i := by intro _ _; with_unfolding_all rfl) (ht : ∀ t r, letTemporaryGo v (.str x t) r = pure () := by intro _ _; with_unfolding_all rfl) : Ev w c m (.Subscript v i p) (.str (Txt.item x k)) := fun s ok hs =>
  Subscript_ (hv.use ok hs fun o s₁ k₁ hs₁ r₁ => hi.use ok hs₁ fun iv s₂ k₂ hs₂ r₂ => by
    obtain ⟨t, rfl⟩ := r₁
    obtain ⟨u, rfl⟩ := r₂
    have := sizeLine_eq
    refine item_str ?_ h0 h1 (fun _ => ⟨keeps_trans k₁ (keeps_trans k₂ keeps_tok), _, rfl⟩) (hp _ _) (ht t)
    unfold fitsSsize; simp; omega)
/-- a slice's bound -/
def EvO (w : World) (c : Cx) (m : Mem) : Option PySem.Expr → Option Int → Prop
  | none, none => True
  | some e, some i => Ev w c m e (.int i)
  | _, _ => False
theorem EvO.use {o : Option PySem.Expr} {i : Option Int} {Q : Value → Shared → Prop} (h : EvO w c m o i) (ok : c.Ok) (hs : Sees w c.env m s)
    (k : ∀ v s', Keeps s s' → Sees w c.env m s' → IsPart v i → Q v s') : wpAny (MM w) c.A (evalPart o c.env) Q E s := by
  cases o with
  | none => cases i with
    | none => exact wpAny_pure (k _ _ keeps_self hs .none)
    | some i => exact h.elim
  | some e => cases i with
    | none => exact h.elim
    | some i => exact Ev.use h ok hs fun v s' k₁ hs₁ r => by obtain ⟨t, rfl⟩ := r; exact k _ _ k₁ hs₁ (.int i t)
theorem ext_push {h : Heap} {o : Obj} : Ext h (h.push o) := fun _ _ q => Heap.get?_push_of_some _ q
theorem ext_kept {h : Heap} : KeptH (Ext h) := fun h' o k => Ext.trans k ext_push
theorem Ev.sliceS {v : PySem.Expr} {lo hi : Option PySem.Expr} {p q : Pos} {x : Str} {a b : Option Int} (hv : Ev w c m v (.str x)) (hl : EvO w c m lo a) (hh : EvO w c m hi b) (hz : x.length ≤ sizeLine)
    (ht : ∀ t r, letTemporaryGo v (.str x t) r = pure () := by intro _ _; with_unfolding_all rfl) : Ev w c m (.Subscript v (.Slice lo hi none q) p) (.str (Txt.slice x a b)) := fun s ok hs =>
  Subscript_ (hv.use ok hs fun o s₁ k₁ hs₁ r₁ => wpAny_Slice (hl.use ok hs₁ fun lv s₂ k₂ hs₂ r₂ => hh.use ok hs₂ fun uv s₃ k₃ hs₃ r₃ => wpAny_pure (by
    obtain ⟨t, rfl⟩ := r₁
    have fin : ∀ (h' : Heap) (t' : Tok) (k : Nat), Ext s₃.heap h' → Keeps s { s₃ with heap := h', toks := k } ∧ Rep h' (.str (Txt.slice x a b)) (.str (Txt.slice x a b) t') :=
      fun h' t' k q => ⟨keeps_trans k₁ (keeps_trans k₂ (keeps_trans k₃ (keeps_heap q))), t', rfl⟩
    cases r₂ with
    | none => cases r₃ with
      | none => exact tail_of_ItemOn (SBH.sliceItem_nn ext_kept Ext.rfl' fin hz) (ops := _) (by with_unfolding_all rfl) (ht t)
      | int j u => exact tail_of_ItemOn (SBH.sliceItem_ns ext_kept Ext.rfl' fin hz) (ops := _) (by with_unfolding_all rfl) (ht t)
    | int i u => cases r₃ with
      | none => exact tail_of_ItemOn (SBH.sliceItem_sn ext_kept Ext.rfl' fin hz) (ops := _) (by with_unfolding_all rfl) (ht t)
      | int j u => exact tail_of_ItemOn (SBH.sliceItem_ss ext_kept Ext.rfl' fin hz) (ops := _) (by with_unfolding_all rfl) (ht t))))
/-- a list's slice, as data -/
def cutL {α : Type} (l : List α) (a b : Option Int) : List α := (l.drop (a.elim 0 (clipAt l.length))).take (b.elim l.length (clipAt l.length) - a.elim 0 (clipAt l.length))
theorem pick_cut (vs : List Value) (a b : Option Int) : slicePick vs.toArray a b none = (cutL vs a b).toArray := by
  rw [slicePick_plain]
  unfold cutL
  simp
theorem isList_push2 {h : Heap} {o : Obj} {vs : List Value} {xs : Array Value} (e : xs = vs.toArray) : ((h.push o).push { cls := .type "list", data := .seq xs }).IsList (h.objs.size + 1) vs.toArray := by
  subst e
  have := Heap.get?_push_size (h.push o) (o := { cls := .type "list", data := .seq vs.toArray }) rfl
  rw [Heap.size_push] at this
  exact ⟨_, this, rfl, _, rfl⟩
theorem Ev.sliceN {v : PySem.Expr} {lo hi : Option PySem.Expr} {p q : Pos} {l : List Int} {a b : Option Int} (hv : Ev w c m v (.nums l)) (hl : EvO w c m lo a) (hh : EvO w c m hi b) (hz : l.length ≤ sizeLine)
    (ht : ∀ x r, letTemporaryGo v (.ref x) r = pure () := by intro _ _; with_unfolding_all rfl) : Ev w c m (.Subscript v (.Slice lo hi none q) p) (.nums (cutL l a b)) := fun s ok hs =>
  Subscript_ (hv.use ok hs fun o s₁ k₁ hs₁ r₁ => wpAny_Slice (hl.use ok hs₁ fun lv s₂ k₂ hs₂ r₂ => hh.use ok hs₂ fun uv s₃ k₃ hs₃ r₃ => wpAny_pure (by
    obtain ⟨x, vs, rfl, hx, hn⟩ := r₁.keeps (kext (keeps_trans k₂ k₃))
    refine slice_listK hx r₂ r₃ ⟨keeps_trans k₁ (keeps_trans k₂ (keeps_trans k₃ (keeps_heap (Ext.trans ext_push ext_push)))), _, cutL vs a b, rfl, isList_push2 (pick_cut vs a b), ?_⟩ (by with_unfolding_all rfl) (ht x) (by rw [List.size_toArray, IntsAre.len hn]; exact hz)
    unfold cutL; rw [IntsAre.len hn]; exact IntsAre.takeT (IntsAre.dropT hn _) _)))
theorem Ev.sliceT {v : PySem.Expr} {lo hi : Option PySem.Expr} {p q : Pos} {l : List Str} {a b : Option Int} (hv : Ev w c m v (.txts l)) (hl : EvO w c m lo a) (hh : EvO w c m hi b) (hz : l.length ≤ sizeLine)
    (ht : ∀ x r, letTemporaryGo v (.ref x) r = pure () := by intro _ _; with_unfolding_all rfl) : Ev w c m (.Subscript v (.Slice lo hi none q) p) (.txts (cutL l a b)) := fun s ok hs =>
  Subscript_ (hv.use ok hs fun o s₁ k₁ hs₁ r₁ => wpAny_Slice (hl.use ok hs₁ fun lv s₂ k₂ hs₂ r₂ => hh.use ok hs₂ fun uv s₃ k₃ hs₃ r₃ => wpAny_pure (by
    obtain ⟨x, vs, rfl, hx, hn⟩ := r₁.keeps (kext (keeps_trans k₂ k₃))
    refine slice_listK hx r₂ r₃ ⟨keeps_trans k₁ (keeps_trans k₂ (keeps_trans k₃ (keeps_heap (Ext.trans ext_push ext_push)))), _, cutL vs a b, rfl, isList_push2 (pick_cut vs a b), ?_⟩ (by with_unfolding_all rfl) (ht x) (by rw [List.size_toArray, StrsAre.len hn]; exact hz)
    unfold cutL; rw [StrsAre.len hn]; exact StrsAre.takeT (StrsAre.dropT hn _) _)))
/-- names of the interpreter's own -/
theorem wp_bname {x : Str} {p : Pos} {v : Value} {Q : Value → Shared → Prop} (ok : c.Ok) (hs : Sees w c.env m s) (he : nsIn (KF w) mainGlobals x = some none) (hv : bootBuiltins x = some v) (hx : c.env.kindOf x = some .globalImplicit) (h : Q v s)
    (hn : x ≠ "__name__") (hd : (x == ("__debug__" : Str)) = false) : wpAny (MM w) c.A (eval (.Name x p) c.env) Q E s := by
  obtain ⟨mg, G⟩ := hs.gl.glob
  obtain ⟨mb, B, hb⟩ := hs.gl.blt
  have e1 := ok.en.g
  have e2 := ok.en.b
  exact Calls.Name_function_global ok.en.k hx (Calls.loadGlobal_builtin (env := c.env) (e1 ▸ G) (mg_none_of hs.gl.k G he) (e2 ▸ B) ((hb x hn).trans hv) h) hd
theorem wp_gname {x : Str} {p : Pos} {v : Value} {Q : Value → Shared → Prop} (ok : c.Ok) (hs : Sees w c.env m s) (he : nsIn (KF w) mainGlobals x = some (some v)) (hx : c.env.kindOf x = some .globalImplicit) (h : Q v s)
    (hd : (x == ("__debug__" : Str)) = false) : wpAny (MM w) c.A (eval (.Name x p) c.env) Q E s := by
  obtain ⟨mg, G⟩ := hs.gl.glob
  have e1 := ok.en.g
  exact Calls.Name_function_global ok.en.k hx (Calls.loadGlobal_global (env := c.env) (e1 ▸ G) (mg_of hs.gl.k G he) h) hd
/-- a call of a value upon data -/
def Cl (w : World) (A : Around) (f : Value) (ds : List D) (r : D) : Prop :=
  ∀ s vs, 0 < s.toks → Gl w s.heap → Reps s.heap ds vs → wpAny (MM w) A (call f vs) (fun v s' => Keeps s s' ∧ Rep s'.heap r v) No s
theorem callB (n : Str) (p pos : Pos) (args : List PySem.Expr) (env : Env) (hn : ∀ o a q, PySem.Expr.Name n p ≠ .Attribute o a q) : eval (.Call (.Name n p) args [] pos) env = (eval (.Name n p) env >>= fun f => callWith pos f [] (backTo pos (starEach args env)) []) := rfl
theorem Ev.callB {n : Str} {id : String} {p pos : Pos} {es : List PySem.Expr} {ds : List D} (he : nsIn (KF w) mainGlobals n = some none) (hv : bootBuiltins n = some (.builtin id)) (hx : c.env.kindOf n = some .globalImplicit)
    (hes : Evs w c m (e :: es) ds) (hc : c.Ok → Cl w c.A (.builtin id) ds d) (hn : n ≠ "__name__" := by decide) (hd : (n == ("__debug__" : Str)) = false := by decide)
    (hst : starEach (e :: es) c.env = (false, eval e c.env) :: starEach es c.env := by rfl) (hpl : ∀ q, (backTo q (starEach es c.env)).any (·.1) = false := by intro _; rfl) :
    Ev w c m (.Call (.Name n p) (e :: es) [] pos) d := fun s ok hs => by
  show wpAny _ _ (eval (.Name n p) c.env >>= fun f => callWith pos f [] (backTo pos (starEach (e :: es) c.env)) []) _ _ s
  refine wpAny_bind (wp_bname ok hs he hv hx ?_ hn hd)
  exact PyProof.Rows.callWith_builtin1 (hes.use ok hs fun vs s₁ k₁ hs₁ r₁ => wpAny_mono (hc ok s₁ vs hs₁.tk hs₁.gl r₁) (fun v s₂ q => ⟨keeps_trans k₁ q.1, q.2⟩) fun _ _ q => q) hst (hpl _)
theorem Ev.callT {n : Str} {id : String} {p pos : Pos} {es : List PySem.Expr} {ds : List D} (he : nsIn (KF w) mainGlobals n = some none) (hv : bootBuiltins n = some (.type id)) (hx : c.env.kindOf n = some .globalImplicit)
    (hes : Evs w c m (e :: es) ds) (hc : c.Ok → Cl w c.A (.type id) ds d) (hn : n ≠ "__name__" := by decide) (hd : (n == ("__debug__" : Str)) = false := by decide)
    (hst : starEach (e :: es) c.env = (false, eval e c.env) :: starEach es c.env := by rfl) (hpl : ∀ q, (backTo q (starEach es c.env)).any (·.1) = false := by intro _; rfl) :
    Ev w c m (.Call (.Name n p) (e :: es) [] pos) d := fun s ok hs => by
  show wpAny _ _ (eval (.Name n p) c.env >>= fun f => callWith pos f [] (backTo pos (starEach (e :: es) c.env)) []) _ _ s
  refine wpAny_bind (wp_bname ok hs he hv hx ?_ hn hd)
  exact PyProof.Rows.callWith_type1 (hes.use ok hs fun vs s₁ k₁ hs₁ r₁ => wpAny_mono (hc ok s₁ vs hs₁.tk hs₁.gl r₁) (fun v s₂ q => ⟨keeps_trans k₁ q.1, q.2⟩) fun _ _ q => q) hst (hpl _)
theorem Ev.callK {n : Str} {f : Addr} {p pos : Pos} {es : List PySem.Expr} {ds : List D} (he : nsIn (KF w) mainGlobals n = some (some (.ref f))) (hk : keepIn (KF w) (.ref f) = true) (hx : c.env.kindOf n = some .globalImplicit)
    (hes : Evs w c m (e :: es) ds) (hc : c.Ok → Cl w c.A (.ref f) ds d) (hd : (n == ("__debug__" : Str)) = false := by decide)
    (hst : starEach (e :: es) c.env = (false, eval e c.env) :: starEach es c.env := by rfl) (hpl : ∀ q, (backTo q (starEach es c.env)).any (·.1) = false := by intro _; rfl) :
    Ev w c m (.Call (.Name n p) (e :: es) [] pos) d := fun s ok hs => by
  show wpAny _ _ (eval (.Name n p) c.env >>= fun f => callWith pos f [] (backTo pos (starEach (e :: es) c.env)) []) _ _ s
  refine wpAny_bind (wp_gname ok hs he hx ?_ hd)
  exact callWith_K hs.gl.k hk (hes.use ok hs fun vs s₁ k₁ hs₁ r₁ => ⟨hs₁.gl.k, wpAny_mono (hc ok s₁ vs hs₁.tk hs₁.gl r₁) (fun v s₂ q => ⟨keeps_trans k₁ q.1, q.2⟩) fun _ _ q => q⟩) hst (hpl _)
end
end Mine
end
section
open PySem PySem.W PySem.Spec PySem.Calls PyProof.Rows
set_option maxRecDepth 100000
set_option Elab.async false
set_option maxHeartbeats 400000
set_option linter.unusedVariables false
namespace Mine
section
variable {w : World} {c : Cx} {m : Mem} {e : PySem.Expr} {d : D} {s : Shared} {E : Value → Shared → Prop} {A : Around}
theorem reps1 {h : Heap} {d : D} {vs : List Value} (r : Reps h [d] vs) : ∃ v, vs = [v] ∧ Rep h d v := by
  match vs, r with
  | [v], ⟨a, _⟩ => exact ⟨v, rfl, a⟩
theorem reps2 {h : Heap} {d d' : D} {vs : List Value} (r : Reps h [d, d'] vs) : ∃ v v', vs = [v, v'] ∧ Rep h d v ∧ Rep h d' v' := by
  match vs, r with
  | [v, v'], ⟨a, b, _⟩ => exact ⟨v, v', rfl, a, b⟩
theorem reps3 {h : Heap} {d d' d'' : D} {vs : List Value} (r : Reps h [d, d', d''] vs) : ∃ v v' v'', vs = [v, v', v''] ∧ Rep h d v ∧ Rep h d' v' ∧ Rep h d'' v'' := by
  match vs, r with
  | [v, v', v''], ⟨a, b, x, _⟩ => exact ⟨v, v', v'', rfl, a, b, x⟩
theorem Cl.ord {x : Nat} : Cl w A (.builtin "ord") [.str ⟨#[x]⟩] (.int x) := fun s vs _ _ r => by
  obtain ⟨v, rfl, t, rfl⟩ := reps1 r
  exact P.ord_of_char ⟨keeps_tok, _, rfl⟩
theorem Cl.chr {i : Int} (h0 : 0 ≤ i) (h1 : i ≤ 1114111) : Cl w A (.builtin "chr") [.int i] (.str ⟨#[i.toNat]⟩) := fun s vs _ _ r => by
  obtain ⟨v, rfl, t, rfl⟩ := reps1 r
  exact chr_of_range h0 h1 ⟨keeps_tok, _, rfl⟩
theorem Cl.len {x : Str} (h : x.length ≤ sizeLine) : Cl w A (.builtin "len") [.str x] (.int x.length) := fun s vs _ _ r => by
  obtain ⟨v, rfl, t, rfl⟩ := reps1 r
  exact PyProof.Rows.len_str (by have := sizeLine_eq; omega) ⟨keeps_tok, _, rfl⟩
theorem Cl.str {i : Int} (h : i.natAbs.log2 < 1920) : Cl w A (.type "str") [.int i] (.str (toString i : String)) := fun s vs _ _ r => by
  obtain ⟨v, rfl, t, rfl⟩ := reps1 r
  exact PySem.P.str_of_int h ⟨keeps_tok, _, rfl⟩
theorem Cl.join {x : Str} {l : List Str} (h : (l.map (·.length)).sum + l.length * x.length ≤ 16777216) : Cl w A (.builtin "str.join") [.str x, .txts l] (.str (Txt.join x l)) := fun s vs _ _ r => by
  obtain ⟨v, v', rfl, ⟨t, rfl⟩, a, us, rfl, hl, hs⟩ := reps2 r
  exact join_list hl (by simpa using hs) h fun t' k => ⟨keeps_tok, _, rfl⟩
theorem Cl.strip {x : Str} (h : x.length ≤ sizeLine) : Cl w A (.builtin "str.strip") [.str x] (.str (Txt.strip x)) := fun s vs _ _ r => by
  obtain ⟨v, rfl, t, rfl⟩ := reps1 r
  exact SC.strip (fun t' k => ⟨keeps_tok, _, rfl⟩) h
theorem Cl.lower {x : Str} (h : x.length ≤ 5592405) : Cl w A (.builtin "str.lower") [.str x] (.str (Txt.lower x)) := fun s vs _ _ r => by
  obtain ⟨v, rfl, t, rfl⟩ := reps1 r
  exact SCL.lower h fun _ => ⟨keeps_tok, _, rfl⟩
/-- a str's method -/
def Gm (w : World) (A : Around) (x : Str) (name : Str) (id : String) : Prop := ∀ (pl : Sem Bool) t (ov : Value) s (Q : Value × List Value → Shared → Prop), ov = .str x t → Q (.builtin id, [.str x t]) s → wpAny (MM w) A (getMethod ov name pl) Q No s
theorem Gm.use {x : Str} {name : Str} {id : String} {pl : Sem Bool} {t : Tok} {ov : Value} {Q : Value × List Value → Shared → Prop} (hg : Gm w A x name id) (e : ov = .str x t) (h : Q (.builtin id, [.str x t]) s) : wpAny (MM w) A (getMethod ov name pl) Q No s := hg pl t ov s Q e h
theorem Gm.join {x : Str} : Gm w A x "join" "str.join" := fun pl t ov s Q e h => by subst e; with_reducible exact GM.join h
theorem Gm.split {x : Str} : Gm w A x "split" "str.split" := fun pl t ov s Q e h => by subst e; with_reducible exact GM.split h
theorem Gm.strip {x : Str} : Gm w A x "strip" "str.strip" := fun pl t ov s Q e h => by subst e; with_reducible exact GM.strip h
theorem Gm.lower {x : Str} : Gm w A x "lower" "str.lower" := fun pl t ov s Q e h => by subst e; with_reducible exact GM.lower h
theorem Gm.replace {x : Str} : Gm w A x "replace" "str.replace" := fun pl t ov s Q e h => by subst e; with_reducible exact GM.replace h
abbrev MethEq (env : Env) (o : PySem.Expr) (name : Str) (apos pos : Pos) (args : List PySem.Expr) (pl : Sem Bool) : Prop := eval (.Call (.Attribute o name apos) args [] pos) env = (do
      let ov ← eval o env
      standAt apos.atName
      let (f, first) ← holding [ov] (getMethod ov name pl)
      callWith pos f first (backTo pos (starEach args env)) [])
theorem Ev.meth1 {o : PySem.Expr} {name : Str} {id : String} {apos pos : Pos} {es : List PySem.Expr} {pl : Sem Bool} {x : Str} {ds : List D} (hm : MethEq c.env o name apos pos (e :: es) pl) (ho : Ev w c m o (.str x)) (hg : Gm w c.A x name id)
    (hes : Evs w c m (e :: es) ds) (hc : c.Ok → Cl w c.A (.builtin id) (.str x :: ds) d)
    (hst : starEach (e :: es) c.env = (false, eval e c.env) :: starEach es c.env := by rfl) (hpl : ∀ q, (backTo q (starEach es c.env)).any (·.1) = false := by intro _; rfl) :
    Ev w c m (.Call (.Attribute o name apos) (e :: es) [] pos) d := fun s ok hs => by
  refine MethodCall_ (ho.use ok hs fun v s₁ k₁ hs₁ r₁ => ?_) hm
  obtain ⟨t, ev⟩ := r₁
  refine hg _ t _ s₁ _ ev (callWith_method1 (hes.use ok hs₁ fun vs s₂ k₂ hs₂ r₂ => ?_) hst (hpl _))
  exact wpAny_mono (hc ok s₂ _ hs₂.tk hs₂.gl ⟨⟨t, rfl⟩, r₂⟩) (fun v s₃ q => ⟨keeps_trans k₁ (keeps_trans k₂ q.1), q.2⟩) fun _ _ q => q
theorem Ev.meth0 {o : PySem.Expr} {name : Str} {id : String} {apos pos : Pos} {pl : Sem Bool} {x : Str} (hm : MethEq c.env o name apos pos [] pl) (ho : Ev w c m o (.str x)) (hg : Gm w c.A x name id)
    (hc : c.Ok → Cl w c.A (.builtin id) [.str x] d) : Ev w c m (.Call (.Attribute o name apos) [] [] pos) d := fun s ok hs => by
  refine MethodCall_ (ho.use ok hs fun v s₁ k₁ hs₁ r₁ => ?_) hm
  obtain ⟨t, ev⟩ := r₁
  refine hg _ t _ s₁ _ ev (callWith_method0 ?_)
  exact wpAny_mono (hc ok s₁ _ hs₁.tk hs₁.gl ⟨⟨t, rfl⟩, trivial⟩) (fun v s₃ q => ⟨keeps_trans k₁ q.1, q.2⟩) fun _ _ q => q
/-- replace upon two written texts: their marks differ -/
theorem Ev.replace {o : PySem.Expr} {apos pos p1 p2 : Pos} {k1 k2 : Nat} {pl : Sem Bool} {x y z : Str} (hm : MethEq c.env o "replace" apos pos [.Constant (.str y) k1 p1, .Constant (.str z) k2 p2] pl) (ho : Ev w c m o (.str x))
    (hyz : (y == z) = false) (hb : x.length + (x.length + 1) * z.length ≤ 16777216) :
    Ev w c m (.Call (.Attribute o "replace" apos) [.Constant (.str y) k1 p1, .Constant (.str z) k2 p2] [] pos) (.str (Txt.replace x y z)) := fun s ok hs => by
  refine MethodCall_ (ho.use ok hs fun v s₁ k₁ hs₁ r₁ => ?_) hm
  obtain ⟨t, ev⟩ := r₁
  refine Gm.replace (w := w) _ t _ s₁ _ ev (callWith_method1 (spliced_more (wpAny_Constant_str (spliced_more (wpAny_Constant_str (spliced_none ?_))))))
  have := hs₁.tk
  refine SC.replace (by show s₁.toks ≠ 0; omega) (by show s₁.toks + 1 ≠ 0; omega) (by show s₁.toks ≠ s₁.toks + 1; omega) hyz hb fun t' k => ⟨keeps_trans k₁ ⟨s₁.heap, k, rfl, fun _ _ q => q⟩, _, rfl⟩
theorem split_one {y : Str} {u t : Tok} {x : Str} {Q : Value → Shared → Prop} (hy : (y.length == 0) = false) (hsz : x.length + 2 ≤ sizeLine)
    (h : ∀ l h' k, l.map (·.1) = Txt.split x y → Ext s.heap h' → h'.IsList s.heap.objs.size (strValues l).toArray → s.heap.get? s.heap.objs.size = none → Q (.ref s.heap.objs.size) { s with heap := h', toks := k }) :
    wpAny (MM w) A (call (.builtin "str.split") [.str x t, .str y u]) Q E s := by
  have gone : s.heap.get? s.heap.objs.size = none := Heap.get?_none_of_le (Nat.le_refl _)
  have fin : ∀ (l : List (Str × Tok)) k, l.map (·.1) = Txt.split x y → Q (.ref s.heap.objs.size) { s with heap := s.heap.push { cls := .type "list", data := .seq (strValues l).toArray }, toks := k } :=
    fun l k e => h l _ k e ext_push ⟨_, Heap.get?_push_size _ rfl, rfl, _, rfl⟩ gone
  have hn : (Builtin.Str.partsBetween x (Builtin.Str.occurrences x y 0 x.length (x.length + 1)) y.length).length ≤ sizeLine := by
    have e1 := StrLaws.occ_length_le x y 0 x.length (x.length + 1)
    rw [length_partsBetween]; omega
  cases h1 : (decide (x.length < y.length) || decide (Builtin.Str.strKind x < Builtin.Str.strKind y))
  · cases hf : (Builtin.Str.occurrences x y 0 x.length (x.length + 1)).isEmpty
    · refine call_meets F.slot_str_split (typeIs_str _ _ _) F.entry_str_split (F.args_str_split_2 _ _) (meets_str_split_sep x y t u h1 hy hf (by omega) hn) ?_
      show wants Q E _ { s with toks := _, heap := s.heap.push { cls := .type "list", data := .seq (strsFrom s.toks (Builtin.Str.partsBetween x (Builtin.Str.occurrences x y 0 x.length (x.length + 1)) y.length)).toArray } }
      rw [strsFrom_eq]
      exact fin (numbered s.toks _) _ ((numbered_texts _ _).trans ((if_neg (ne_true_of_eq_false h1)).trans (if_neg (ne_true_of_eq_false hf))).symm)
    · exact call_meets F.slot_str_split (typeIs_str _ _ _) F.entry_str_split (F.args_str_split_2 _ _) (meets_str_split_not_found x y t u h1 hy hf)
        (fin [(x, t)] s.toks ((if_neg (ne_true_of_eq_false h1)).trans (if_pos hf)).symm)
  · exact call_meets F.slot_str_split (typeIs_str _ _ _) F.entry_str_split (F.args_str_split_2 _ _) (meets_str_split_cannot_occur x y t u h1)
      (fin [(x, t)] s.toks (if_pos h1).symm)
end
end Mine
end
section
open PySem PySem.W PySem.Spec PySem.Calls PyProof.Rows
set_option maxRecDepth 100000
set_option Elab.async false
set_option maxHeartbeats 400000
set_option linter.unusedVariables false
namespace Mine
/-- the frame's own store, upon all that stood ahead of it -/
structure Fx (w : World) (base : Heap) (env : Env) (m : Mem) (s : Shared) : Prop where
  gl : Gl w base
  tk : 0 < s.toks
  fr : ∃ mv, Fr base env.locals s.heap mv ∧ ∀ x d, m.lookup x = some d → ∃ v, mv x = some v ∧ Rep s.heap d v
/-- all but the frame's own store stays -/
def Step (env : Env) (s s' : Shared) : Prop := ∃ h tk, s' = { s with heap := h, toks := tk } ∧ ∀ b o, b ≠ env.locals → s.heap.get? b = some o → h.get? b = some o
theorem Step.rfl' {env : Env} {s : Shared} : Step env s s := ⟨s.heap, s.toks, rfl, fun _ _ _ e => e⟩
theorem Step.trans {env : Env} {a b c : Shared} (x : Step env a b) (y : Step env b c) : Step env a c := by
  obtain ⟨h, t, rfl, k⟩ := x
  obtain ⟨h', t', rfl, k'⟩ := y
  exact ⟨h', t', rfl, fun p o n e => k' p o n (k p o n e)⟩
theorem Step.of {env : Env} {a b : Shared} (x : Keeps a b) : Step env a b := by
  obtain ⟨h, t, rfl, k⟩ := x
  exact ⟨h, t, rfl, fun p o _ e => k p o e⟩
theorem Fx.sees {w : World} {base : Heap} {env : Env} {m : Mem} {s : Shared} (f : Fx w base env m s) : Sees w env m s := by
  obtain ⟨mv, F, r⟩ := f.fr
  exact ⟨f.gl.keeps F.keep, f.tk, mv, F.ns, r⟩
theorem Fx.keeps {w : World} {base : Heap} {env : Env} {m : Mem} {s s' : Shared} (f : Fx w base env m s) (k : Keeps s s') (t : s.toks ≤ s'.toks) : Fx w base env m s' := by
  obtain ⟨h', tk, rfl, k⟩ := k
  obtain ⟨mv, F, r⟩ := f.fr
  exact ⟨f.gl, Nat.lt_of_lt_of_le f.tk t, mv, F.keeps k, fun x d e => let ⟨v, a, b⟩ := r x d e; ⟨v, a, b.keeps k⟩⟩
theorem Fx.set {w : World} {base : Heap} {env : Env} {m : Mem} {s : Shared} {x : Str} {d : D} {v : Value} (f : Fx w base env m s) (r : Rep s.heap d v) {A : Around} {E : Value → Shared → Prop} {Q : Unit → Shared → Prop}
    (hl : env.kindOf x = some .local) (hk : env.scope.kind = .function) (h : ∀ s', Fx w base env ((x, d) :: m) s' → Step env s s' → Q () s') : wpAny (MM w) A (storeName env x v) Q E s := by
  obtain ⟨mv, F, rr⟩ := f.fr
  refine wpAny_storeName_local hl F.ns (fun h' hn hs => h _ ⟨f.gl, Nat.succ_pos _, _, F.set hn hs, fun y e q => ?_⟩ ⟨h', _, rfl, fun b o n e => hs.extBut b o n e⟩) (by rw [hk]; rfl)
  rw [List.lookup_cons] at q
  by_cases hy : y = x
  · subst hy
    simp only [beq_self_eq_true] at q
    cases q
    exact ⟨v, if_pos rfl, r.same F.ns hs⟩
  · have : (y == x) = false := by simpa using hy
    rw [this] at q
    obtain ⟨u, a, b⟩ := rr y e q
    exact ⟨u, (if_neg hy).trans a, b.same F.ns hs⟩
/-- a part of the store -/
def Sub : Mem → Mem → Prop
  | [], _ => True
  | (x, d) :: r, m => m.lookup x = some d ∧ Sub r m
theorem Sub.get {x : Str} {d : D} : ∀ {a m : Mem}, Sub a m → a.lookup x = some d → m.lookup x = some d
  | (y, e) :: r, m, ⟨p, q⟩, h => by
    rw [List.lookup_cons] at h
    cases hy : x == y with
    | true => rw [hy] at h; cases h; rw [beq_iff_eq.mp hy]; exact p
    | false => rw [hy] at h; exact Sub.get q h
theorem Fx.sub {w : World} {base : Heap} {env : Env} {a m : Mem} {s : Shared} (f : Fx w base env m s) (h : Sub a m) : Fx w base env a s := by
  obtain ⟨mv, F, r⟩ := f.fr
  exact ⟨f.gl, f.tk, mv, F, fun x d e => r x d (h.get e)⟩
inductive FD where
  | next
  | brk
  | cont
  | ret (d : D)
def FRep (h : Heap) : Flow → FD → Prop
  | .next, .next => True
  | .brk, .brk => True
  | .cont, .cont => True
  | .ret v, .ret d => Rep h d v
  | _, _ => False
theorem FRep.keeps {h h' : Heap} (k : Ext h h') {f : Flow} {d : FD} (r : FRep h f d) : FRep h' f d := by
  cases f <;> cases d <;> first | exact r | exact Rep.keeps r k
/-- the statements, run in the store m, end so that Q holds -/
def Sx (w : World) (c : Cx) (m : Mem) (ss : List Stmt) (Q : FD → Mem → Prop) : Prop :=
  ∀ base s, c.Ok → Fx w base c.env m s → wpAny (MM w) c.A (execs ss c.env) (fun f s' => ∃ fd m', Q fd m' ∧ FRep s'.heap f fd ∧ Fx w base c.env m' s' ∧ Step c.env s s') No s
section
variable {w : World} {c : Cx} {m : Mem} {e : PySem.Expr} {d : D} {s : Shared} {E : Value → Shared → Prop} {Q : FD → Mem → Prop} {rest : List Stmt}
theorem Sx.nil (h : Q .next m) : Sx w c m [] Q := fun base s ok f => wpAny_execs_nil ⟨.next, m, h, trivial, f, .rfl'⟩
theorem Sx.sub {a : Mem} (h : Sx w c a rest Q) (k : Sub a m) : Sx w c m rest Q := fun base s ok f => h base s ok (f.sub k)
theorem Sx.conseq {Q' : FD → Mem → Prop} (h : Sx w c m rest Q) (k : ∀ fd m', Q fd m' → Q' fd m') : Sx w c m rest Q' := fun base s ok f =>
  wpAny_mono (h base s ok f) (fun fl s' ⟨fd, m', a, b⟩ => ⟨fd, m', k fd m' a, b⟩) fun _ _ x => x
theorem Sx.go {base : Heap} {s₀ : Shared} (h : Sx w c m rest Q) (ok : c.Ok) (f : Fx w base c.env m s) (k : Step c.env s₀ s) :
    wpAny (MM w) c.A (execs rest c.env) (fun fl s' => ∃ fd m', Q fd m' ∧ FRep s'.heap fl fd ∧ Fx w base c.env m' s' ∧ Step c.env s₀ s') No s :=
  wpAny_mono (h base s ok f) (fun fl s' ⟨fd, m', a, b, x, y⟩ => ⟨fd, m', a, b, x, k.trans y⟩) fun _ _ x => x
theorem Ev.useF {base : Heap} {Q : Value → Shared → Prop} (h : Ev w c m e d) (ok : c.Ok) (f : Fx w base c.env m s) (k : ∀ v s', Keeps s s' → Fx w base c.env m s' → Rep s'.heap d v → Q v s') : wpAny (MM w) c.A (eval e c.env) Q E s :=
  wpAny_mono (wpAny_toks (h s ok f.sees)) (fun v s' x => k v s' x.2.1 (f.keeps x.2.1 x.1) x.2.2) fun _ _ x => x.2.elim
theorem Tv.useF {base : Heap} {b : Bool} {Q : Bool → Shared → Prop} (h : Tv w c m e b) (ok : c.Ok) (f : Fx w base c.env m s) (k : ∀ s', Keeps s s' → Fx w base c.env m s' → Q b s') : wpAny (MM w) c.A (isTrue e c.env (eval e c.env)) Q E s :=
  wpAny_mono (wpAny_toks (h s ok f.sees)) (fun v s' x => x.2.2 ▸ k s' x.2.1 (f.keeps x.2.1 x.1)) fun _ _ x => x.2.elim
theorem Sx.assign {x : Str} {p q : Pos} (h : Ev w c m e d) (k : Sx w c ((x, d) :: m) rest Q) (hl : c.env.kindOf x = some .local)
    (hs : swapsWith e (some (.Name x p)) q.line c.env = pure false := by rfl) : Sx w c m (.Assign [.Name x p] e q :: rest) Q := fun base s ok f =>
  wpAny_execs_cons (wpAny_Assign_Name (h.useF ok f fun v s₁ k₁ f₁ r₁ => f₁.set r₁ hl ok.en.k fun s₂ f₂ k₂ => k.go ok f₂ ((Step.of k₁).trans k₂)) hs)
theorem Sx.if_ {t : PySem.Expr} {a b : List Stmt} {p : Pos} {v : Bool} (h : Tv w c m t v) (ha : v = true → Sx w c m a (fun fd m' => match fd with | .next => Sx w c m' rest Q | fd => Q fd m'))
    (hb : v = false → Sx w c m b (fun fd m' => match fd with | .next => Sx w c m' rest Q | fd => Q fd m')) : Sx w c m (.If t a b p :: rest) Q := fun base s ok f => by
  have tail : ∀ {ss : List Stmt} {s₁ : Shared}, Keeps s s₁ → Fx w base c.env m s₁ → Sx w c m ss (fun fd m' => match fd with | .next => Sx w c m' rest Q | fd => Q fd m') →
      wpAny (MM w) c.A (execs ss c.env) (fun fl s' => match fl with | .next => wpAny (MM w) c.A (execs rest c.env) (fun fl s' => ∃ fd m', Q fd m' ∧ FRep s'.heap fl fd ∧ Fx w base c.env m' s' ∧ Step c.env s s') No s' | fl => ∃ fd m', Q fd m' ∧ FRep s'.heap fl fd ∧ Fx w base c.env m' s' ∧ Step c.env s s') No s₁ := by
    intro ss s₁ k₁ f₁ hx
    refine wpAny_mono (hx base s₁ ok f₁) (fun fl s₂ ⟨fd, m', a1, a2, a3, a4⟩ => ?_) fun _ _ x => x
    cases fl <;> cases fd <;> first | exact a2.elim | exact a1.go ok a3 ((Step.of k₁).trans a4) | exact ⟨_, m', a1, a2, a3, (Step.of k₁).trans a4⟩
  refine wpAny_execs_cons (wpAny_If (h.useF ok f fun s₁ k₁ f₁ => ?_))
  cases v with
  | true => exact tail k₁ f₁ (ha rfl)
  | false => exact tail k₁ f₁ (hb rfl)
theorem Sx.ret {p : Pos} (h : Ev w c m e d) (k : Q (.ret d) m) : Sx w c m (.Return (some e) p :: rest) Q := fun base s ok f =>
  wpAny_execs_cons (wpAny_Return_some (h.useF ok f fun v s₁ k₁ f₁ r₁ => ⟨.ret d, m, k, r₁, f₁, Step.of k₁⟩))
theorem Sx.brk {p : Pos} (k : Q .brk m) : Sx w c m (.Break p :: rest) Q := fun base s ok f => wpAny_execs_cons (wpAny_Break ⟨.brk, m, k, trivial, f, .rfl'⟩)
theorem Sx.cont {p : Pos} (k : Q .cont m) : Sx w c m (.Continue p :: rest) Q := fun base s ok f => wpAny_execs_cons (wpAny_Continue ⟨.cont, m, k, trivial, f, .rfl'⟩)
/-- what a loop's turn must come to -/
def Turn (w : World) (c : Cx) (rest : List Stmt) (Q : FD → Mem → Prop) (next : Mem → Prop) (fd : FD) (m : Mem) : Prop := match fd with
  | .next | .cont => ∃ a, Sub a m ∧ next a
  | .brk => Sx w c m rest Q
  | .ret r => Q (.ret r) m
theorem Sx.while_ {t : PySem.Expr} {body : List Stmt} {p : Pos} (I : Nat → Mem → Prop) (n₀ : Nat) (h0 : I n₀ m)
    (turn : ∀ n a, I n a → ∃ b, Tv w c a t b ∧ (b = true → Sx w c a body (Turn w c rest Q fun a' => ∃ k, k < n ∧ I k a')) ∧ (b = false → Sx w c a rest Q)) : Sx w c m (.While t body [] p :: rest) Q := fun base s ok f => by
  refine wpAny_execs_cons (wpAny_While (codeAny_whileLoop (fun n s' => ∃ a, I n a ∧ Fx w base c.env a s' ∧ Step c.env s s') (fun n s₁ ⟨a, hI, f₁, k₁⟩ => ?_) n₀ ⟨m, h0, f, .rfl'⟩))
  obtain ⟨b, ht, hb, hn⟩ := turn n a hI
  refine ht.useF ok f₁ fun s₂ k₂ f₂ => ?_
  cases b with
  | false => exact wpAny_execs_nil ((hn rfl).go ok f₂ (k₁.trans (Step.of k₂)))
  | true =>
    refine wpAny_mono ((hb rfl) base s₂ ok f₂) (fun fl s₃ ⟨fd, m', q1, q2, q3, q4⟩ => ?_) fun _ _ x => x.elim
    have st := k₁.trans ((Step.of k₂).trans q4)
    cases fl <;> cases fd <;> first
      | exact q2.elim
      | (obtain ⟨a', h1, k, h2, h3⟩ := q1; exact ⟨k, h2, a', h3, q3.sub h1, st⟩)
      | exact Sx.go q1 ok q3 st
      | exact ⟨_, m', q1, q2, q3, st⟩
end
end Mine
end
section
open PySem PySem.W PySem.Spec PySem.Calls PyProof.Rows
set_option maxRecDepth 100000
set_option Elab.async false
set_option maxHeartbeats 400000
set_option linter.unusedVariables false
namespace Mine
/-- what a loop takes out of the datum, one behind the other -/
def itemsOf : D → Option (List D)
  | .str x => some (x.cps.toList.map fun c => .str ⟨#[c]⟩)
  | .nums l => some (l.map .int)
  | .txts l => some (l.map .str)
  | .tup l => some (l.map .str)
  | _ => none
def Scal (d : D) (v : Value) : Prop := ∀ h, Rep h d v
theorem ns_ne {h : Heap} {L a : Addr} {mv : Str → Option Value} {o : Obj} {xs : Array Value} {n : Nat} (hn : h.Ns L mv) (ho : h.get? a = some o) (hd : o.data = .seq xs n) : a ≠ L := fun e => by
  obtain ⟨o', es, ep, h1, h2, _⟩ := hn
  subst e
  rw [h1] at ho; cases ho
  rw [h2] at hd; cases hd
section
variable {w : World} {A : Around} {E : Value → Shared → Prop} {s : Shared}
theorem iter_of {d : D} {its : List D} {v : Value} {L : Addr} {mv : Str → Option Value} {Q : Value → Shared → Prop} (hi : itemsOf d = some its) (r : Rep s.heap d v) (hn : s.heap.Ns L mv)
    (k : ∀ I fp wr P St h', (∀ A', A'.handled = none → Walks pW w A' I fp wr its.length P St) → (∀ i u, P i u → ∃ e, its[i]? = some e ∧ Scal e u) → St 0 h' → Ext s.heap h' → (∀ b ∈ fp, b < h'.objs.size) → L ∉ fp → (∀ b ∈ wr, s.heap.get? b = none) → (∀ i h, St i h → ∀ b ∈ wr, ∃ o vs, h.get? b = some o ∧ o.data = .fields vs) → Q (.ref I) { s with heap := h' }) :
    wpAny (MM w) A (pyIter v) Q E s := by
  have gone : s.heap.get? s.heap.objs.size = none := Heap.get?_none_of_le (Nat.le_refl _)
  have hL : L < s.heap.objs.size := hn.lt
  cases d with
  | str x =>
    obtain ⟨t, rfl⟩ := r
    cases hi
    have hlt : ∀ b ∈ [s.heap.objs.size], ∀ o : Obj, b < (s.heap.push o).objs.size := fun b hb o => by rw [List.mem_singleton.mp hb, Heap.size_push]; exact Nat.lt_succ_self _
    have hnL : L ∉ [s.heap.objs.size] := fun hb => by rw [List.mem_singleton.mp hb] at hL; exact Nat.lt_irrefl _ hL
    have hnw : ∀ b ∈ [s.heap.objs.size], s.heap.get? b = none := fun b hb => by rw [List.mem_singleton.mp hb]; exact gone
    have hsc : ∀ i u, SignAt x i u → ∃ e, (x.cps.toList.map fun c => D.str ⟨#[c]⟩)[i]? = some e ∧ Scal e u := fun i u ⟨c, t, hc, hu⟩ => ⟨.str ⟨#[c]⟩, by simp [hc], fun h => ⟨t, hu⟩⟩
    cases ha : x.cps.all (· < 128)
    · exact wpAny_pyIter_wide ha (k _ _ _ (SignAt x) (fun i h => h.IsStrIter s.heap.objs.size "str_iterator" x t i) _ (fun A' hA => by simpa using Walks.strWide (prog := pW) (w := w) hA s.heap.objs.size x t) hsc ⟨_, Heap.get?_push_size _ rfl, rfl, rfl⟩ ext_push
        (fun b hb => hlt b hb _) hnL hnw fun i h st b hb => by obtain ⟨o, h1, h2, h3⟩ := st; rw [List.mem_singleton.mp hb]; exact ⟨o, _, h1, h3⟩)
    · exact wpAny_pyIter_ascii ha (k _ _ _ (SignAt x) (fun i h => h.IsStrIter s.heap.objs.size "str_ascii_iterator" x t i) _ (fun A' hA => by simpa using Walks.strAscii (prog := pW) (w := w) hA s.heap.objs.size x t) hsc ⟨_, Heap.get?_push_size _ rfl, rfl, rfl⟩ ext_push
        (fun b hb => hlt b hb _) hnL hnw fun i h st b hb => by obtain ⟨o, h1, h2, h3⟩ := st; rw [List.mem_singleton.mp hb]; exact ⟨o, _, h1, h3⟩)
  | nums l =>
    obtain ⟨a, vs, rfl, hl, hn'⟩ := r
    cases hi
    obtain ⟨o, ho, hc, n, hd⟩ := id hl
    have ha : a < s.heap.objs.size := Heap.lt_size ho
    refine wpAny_pyIter_list hl ?_
    refine k s.heap.objs.size [s.heap.objs.size, a] [s.heap.objs.size] (fun i v => vs.toArray[i]? = some v) (fun i h => h.IsListIter s.heap.objs.size a i ∧ h.IsList a vs.toArray) _
      (fun A' hA => by have := Walks.list (prog := pW) (w := w) hA s.heap.objs.size a (Nat.ne_of_lt ha) vs.toArray; simpa [IntsAre.len hn'] using this) (fun i u hu => ?_) ⟨⟨_, Heap.get?_push_size _ rfl, rfl, rfl⟩, isList_keeps hl ext_push⟩ ext_push ?_ ?_ ?_ (fun i h st b hb => by obtain ⟨⟨o, h1, h2, h3⟩, _⟩ := st; rw [List.mem_singleton.mp hb]; exact ⟨o, _, h1, h3⟩)
    · have hlt : i < l.length := by rw [← IntsAre.len hn']; exact (Array.getElem?_eq_some_iff.mp hu).1 |> (by simpa using ·)
      obtain ⟨t, ht⟩ := IntsAre.at? hn' i l[i] (by simp [hlt])
      have : u = .int l[i] t := by have h2 : vs[i]? = some u := by simpa using hu
                                   rw [ht] at h2; exact (Option.some.inj h2).symm
      exact ⟨.int l[i], by simp [hlt], fun h => ⟨t, this⟩⟩
    · intro b hb
      rw [Heap.size_push]
      rcases List.mem_cons.mp hb with rfl | hb
      · exact Nat.lt_succ_self _
      · rw [List.mem_singleton.mp hb]; exact Nat.lt_succ_of_lt ha
    · intro hb
      rcases List.mem_cons.mp hb with e | hb
      · rw [e] at hL; exact Nat.lt_irrefl _ hL
      · exact ns_ne hn ho hd (List.mem_singleton.mp hb).symm
    · intro b hb; rw [List.mem_singleton.mp hb]; exact gone
  | txts l =>
    obtain ⟨a, vs, rfl, hl, hn'⟩ := r
    cases hi
    obtain ⟨o, ho, hc, n, hd⟩ := id hl
    have ha : a < s.heap.objs.size := Heap.lt_size ho
    refine wpAny_pyIter_list hl ?_
    refine k s.heap.objs.size [s.heap.objs.size, a] [s.heap.objs.size] (fun i v => vs.toArray[i]? = some v) (fun i h => h.IsListIter s.heap.objs.size a i ∧ h.IsList a vs.toArray) _
      (fun A' hA => by have := Walks.list (prog := pW) (w := w) hA s.heap.objs.size a (Nat.ne_of_lt ha) vs.toArray; simpa [StrsAre.len hn'] using this) (fun i u hu => ?_) ⟨⟨_, Heap.get?_push_size _ rfl, rfl, rfl⟩, isList_keeps hl ext_push⟩ ext_push ?_ ?_ ?_ (fun i h st b hb => by obtain ⟨⟨o, h1, h2, h3⟩, _⟩ := st; rw [List.mem_singleton.mp hb]; exact ⟨o, _, h1, h3⟩)
    · have hlt : i < l.length := by rw [← StrsAre.len hn']; exact (Array.getElem?_eq_some_iff.mp hu).1 |> (by simpa using ·)
      obtain ⟨t, ht⟩ := StrsAre.at? hn' i l[i] (by simp [hlt])
      have : u = .str l[i] t := by have h2 : vs[i]? = some u := by simpa using hu
                                   rw [ht] at h2; exact (Option.some.inj h2).symm
      exact ⟨.str l[i], by simp [hlt], fun h => ⟨t, this⟩⟩
    · intro b hb
      rw [Heap.size_push]
      rcases List.mem_cons.mp hb with rfl | hb
      · exact Nat.lt_succ_self _
      · rw [List.mem_singleton.mp hb]; exact Nat.lt_succ_of_lt ha
    · intro hb
      rcases List.mem_cons.mp hb with e | hb
      · rw [e] at hL; exact Nat.lt_irrefl _ hL
      · exact ns_ne hn ho hd (List.mem_singleton.mp hb).symm
    · intro b hb; rw [List.mem_singleton.mp hb]; exact gone
  | tup l =>
    obtain ⟨a, vs, rfl, hl, hn'⟩ := r
    cases hi
    obtain ⟨o, ho, hc, n, hd⟩ := id hl
    have ha : a < s.heap.objs.size := Heap.lt_size ho
    refine wpAny_pyIter_tuple hl ?_
    refine k s.heap.objs.size [s.heap.objs.size, a] [s.heap.objs.size] (fun i v => vs.toArray[i]? = some v) (fun i h => h.IsTupleIter s.heap.objs.size a i ∧ h.IsTuple a vs.toArray) _
      (fun A' hA => by have := Walks.tuple (prog := pW) (w := w) hA s.heap.objs.size a (Nat.ne_of_lt ha) vs.toArray; simpa [StrsAre.len hn'] using this) (fun i u hu => ?_) ⟨⟨_, Heap.get?_push_size _ rfl, rfl, rfl⟩, isTup_keeps hl ext_push⟩ ext_push ?_ ?_ ?_ (fun i h st b hb => by obtain ⟨⟨o, h1, h2, h3⟩, _⟩ := st; rw [List.mem_singleton.mp hb]; exact ⟨o, _, h1, h3⟩)
    · have hlt : i < l.length := by rw [← StrsAre.len hn']; exact (Array.getElem?_eq_some_iff.mp hu).1 |> (by simpa using ·)
      obtain ⟨t, ht⟩ := StrsAre.at? hn' i l[i] (by simp [hlt])
      have : u = .str l[i] t := by have h2 : vs[i]? = some u := by simpa using hu
                                   rw [ht] at h2; exact (Option.some.inj h2).symm
      exact ⟨.str l[i], by simp [hlt], fun h => ⟨t, this⟩⟩
    · intro b hb
      rw [Heap.size_push]
      rcases List.mem_cons.mp hb with rfl | hb
      · exact Nat.lt_succ_self _
      · rw [List.mem_singleton.mp hb]; exact Nat.lt_succ_of_lt ha
    · intro hb
      rcases List.mem_cons.mp hb with e | hb
      · rw [e] at hL; exact Nat.lt_irrefl _ hL
      · exact ns_ne hn ho hd (List.mem_singleton.mp hb).symm
    · intro b hb; rw [List.mem_singleton.mp hb]; exact gone
  | none => cases hi
  | bool b => cases hi
  | int i => cases hi
  | tab => cases hi
variable {c : Cx} {m : Mem} {e : PySem.Expr} {d : D} {Q : FD → Mem → Prop} {rest : List Stmt}
theorem Sx.for_ {x : Str} {px p : Pos} {iter : PySem.Expr} {body : List Stmt} {its : List D} (J : Nat → Mem → Prop) (hit : Ev w c m iter d) (hi : itemsOf d = some its) (j0 : ∃ a, Sub a m ∧ J 0 a)
    (turn : ∀ i e a, its[i]? = some e → J i a → Sx w c ((x, e) :: a) body (Turn w c rest Q (J (i + 1)))) (done : ∀ a, J its.length a → Sx w c a rest Q)
    (hx : c.env.kindOf x = some .local) (hs : ∀ v, foldedSetIterable iter c.env v = pure v := by intro _; rfl) : Sx w c m (.For (.Name x px) iter body [] p :: rest) Q := fun base s ok f => by
  refine wpAny_execs_cons (wpAny_For (hit.useF ok f fun v s₁ k₁ f₁ r₁ => ?_) hs)
  obtain ⟨mv, F₁, rr⟩ := id f₁.fr
  refine iter_of hi r₁ F₁.ns fun I fp wr P St h' W hP st ext lt hL hw hfl => ?_
  obtain ⟨a₀, s₀, j0⟩ := j0
  have f₂ : Fx w base c.env a₀ { s₁ with heap := h' } := (f₁.keeps (keeps_heap ext) (Nat.le_refl _)).sub s₀
  have k₂ : Step c.env s { s₁ with heap := h' } := (Step.of k₁).trans (Step.of (keeps_heap (t := s₁.toks) ext))
  have Wc := W c.A ok.rm.hd
  refine codeAny_forLoop_any (fun n s' => ∃ i a, n = its.length - i ∧ i ≤ its.length ∧ J i a ∧ St i s'.heap ∧ Fx w base c.env a s' ∧ Step c.env s s') (fun n s₃ ⟨i, a, hn, hle, hJ, hst, f₃, k₃⟩ => ?_) its.length ⟨0, a₀, rfl, Nat.zero_le _, j0, st, f₂, k₂⟩
  have keepL : ∀ b, b ∈ fp → b ≠ c.env.locals := fun b hb q => hL (q ▸ hb)
  have hLw : c.env.locals ∉ wr := fun hb => hL (Wc.sub _ hb)
  /- what the iterator's own step leaves as it is -/
  have after : ∀ h₄ tk₄, (∀ b o, b ∉ wr → s₃.heap.get? b = some o → h₄.get? b = some o) → s₃.toks ≤ tk₄ → Fx w base c.env a { s₃ with heap := h₄, toks := tk₄ } ∧ Step c.env s { s₃ with heap := h₄, toks := tk₄ } := fun h₄ tk₄ hk₄ htk₄ => by
    obtain ⟨mv₃, F₃, r₃⟩ := f₃.fr
    have up : ∀ b o, base.get? b = some o → h₄.get? b = some o := fun b o q => hk₄ b o (fun hb => by
      have hb' := hw b hb
      rw [F₁.keep b o q] at hb'; cases hb') (F₃.keep b o q)
    have seqs : ∀ b o xs n, s₃.heap.get? b = some o → o.data = .seq xs n → b ∉ wr := fun b o xs n q1 q2 hb => by
      obtain ⟨o', vs, p1, p2⟩ := hfl i _ hst b hb
      rw [q1] at p1; cases p1; rw [p2] at q2; cases q2
    refine ⟨⟨f₃.gl, Nat.lt_of_lt_of_le f₃.tk htk₄, mv₃, ⟨F₃.ns.at' fun o q => hk₄ _ o hLw q, up, F₃.above⟩, fun y e q => ?_⟩, ?_⟩
    · obtain ⟨v', a1, a2⟩ := r₃ y e q
      refine ⟨v', a1, ?_⟩
      cases e with
      | none => exact a2
      | bool b => exact a2
      | int i => exact a2
      | str x => exact a2
      | nums l => obtain ⟨x1, vs, e1, ⟨o, y1, y2, n, y3⟩, z⟩ := a2; exact ⟨x1, vs, e1, ⟨o, hk₄ _ _ (seqs _ _ _ _ y1 y3) y1, y2, n, y3⟩, z⟩
      | txts l => obtain ⟨x1, vs, e1, ⟨o, y1, y2, n, y3⟩, z⟩ := a2; exact ⟨x1, vs, e1, ⟨o, hk₄ _ _ (seqs _ _ _ _ y1 y3) y1, y2, n, y3⟩, z⟩
      | tup l => obtain ⟨x1, vs, e1, ⟨o, y1, y2, n, y3⟩, z⟩ := a2; exact ⟨x1, vs, e1, ⟨o, hk₄ _ _ (seqs _ _ _ _ y1 y3) y1, y2, n, y3⟩, z⟩
      | tab => exact a2
    · obtain ⟨h₃, t₃, e₃, q₃⟩ := k₃
      subst e₃
      refine ⟨h₄, tk₄, rfl, fun b o n q => hk₄ b o (fun hb => ?_) (q₃ b o n q)⟩
      have hb' := hw b hb
      rw [kext k₁ b o q] at hb'; cases hb'
  rcases Nat.lt_or_ge i its.length with hlt | hge
  · refine wpAny_with_toks (Nat.le_refl _) (Wc.item i s₃ _ _ hlt hst fun u h₄ tk₄ hu hst₄ hk₄ htk₄ => ?_)
    obtain ⟨el, hel, hsc⟩ := hP i u hu
    obtain ⟨f₄, k₄⟩ := after h₄ tk₄ hk₄ htk₄
    refine wpAny_of_eq (a := ()) rfl ?_
    refine wpAny_assign_Name (f₄.set (hsc _) hx ok.en.k fun s₅ f₅ k₅ => ?_)
    refine wpAny_mono (turn i el a hel hJ base s₅ ok f₅) (fun fl s₆ ⟨fd, m', q1, q2, q3, q4⟩ => ?_) fun _ _ x => x.elim
    have k₆ := k₄.trans (k₅.trans q4)
    have st₆ : St (i + 1) s₆.heap := by
      obtain ⟨h₅, t₅, e₅, q₅⟩ := k₅
      subst e₅
      obtain ⟨h₆, t₆, e₆, q₆⟩ := q4
      subst e₆
      exact Wc.frame _ _ _ hst₄ fun b hb o q => q₆ b o (keepL b hb) (q₅ b o (keepL b hb) q)
    cases fl <;> cases fd <;> first
      | exact q2.elim
      | (obtain ⟨a', h1, h2⟩ := q1; exact ⟨its.length - (i + 1), by omega, i + 1, a', rfl, hlt, h2, st₆, q3.sub h1, k₆⟩)
      | exact Sx.go q1 ok q3 k₆
      | exact ⟨_, m', q1, q2, q3, k₆⟩
  · have hi' : i = its.length := Nat.le_antisymm hle hge
    subst hi'
    refine wpAny_with_toks (Nat.le_refl _) (Wc.done s₃ _ _ hst fun h₄ tk₄ hk₄ htk₄ => ?_)
    obtain ⟨f₄, k₄⟩ := after h₄ tk₄ hk₄ htk₄
    exact wpAny_execs_nil ((done a hJ).go ok f₄ k₄)
end
end Mine
end
section
open PySem PySem.W PySem.Spec PySem.Calls PyProof.Rows
set_option maxRecDepth 100000
set_option Elab.async false
set_option maxHeartbeats 400000
set_option linter.unusedVariables false
namespace Mine
/-- two stores with the same names, the data and the values that bear them -/
def Al (h : Heap) : List (Str × D) → List (Str × Value) → Prop
  | [], [] => True
  | (x, d) :: a, (y, v) :: b => x = y ∧ Rep h d v ∧ Al h a b
  | _, _ => False
theorem Al.app {h : Heap} : ∀ {a b : List (Str × D)} {a' b' : List (Str × Value)}, Al h a a' → Al h b b' → Al h (a ++ b) (a' ++ b')
  | [], b, [], b', _, y => y
  | (x, d) :: a, b, (y, v) :: a', b', ⟨p, q, r⟩, z => ⟨p, q, Al.app r z⟩
  | [], _, _ :: _, _, x, _ => x.elim
  | _ :: _, _, [], _, x, _ => x.elim
theorem Al.rev {h : Heap} : ∀ {a : List (Str × D)} {a' : List (Str × Value)}, Al h a a' → Al h a.reverse a'.reverse
  | [], [], _ => trivial
  | (x, d) :: a, (y, v) :: a', ⟨p, q, r⟩ => by
    rw [List.reverse_cons, List.reverse_cons]
    exact Al.app (Al.rev r) ⟨p, q, trivial⟩
  | [], _ :: _, x => x.elim
  | _ :: _, [], x => x.elim
theorem Al.zip {h : Heap} : ∀ (ks : List Str) {ds : List D} {vs : List Value}, Reps h ds vs → Al h (ks.zip ds) (ks.zip vs)
  | [], _, _, _ => by simp [Al]
  | k :: ks, [], [], _ => trivial
  | k :: ks, d :: ds, v :: vs, ⟨a, b⟩ => ⟨rfl, a, Al.zip ks b⟩
  | _ :: _, [], _ :: _, x => x.elim
  | _ :: _, _ :: _, [], x => x.elim
theorem Al.get {h : Heap} {x : Str} {d : D} : ∀ {a : List (Str × D)} {b : List (Str × Value)}, Al h a b → a.lookup x = some d → ∃ v, b.lookup x = some v ∧ Rep h d v
  | (y, e) :: a, (z, v) :: b, ⟨p, q, r⟩, k => by
    subst p
    rw [List.lookup_cons] at k ⊢
    cases hy : x == y with
    | true => rw [hy] at k; cases k; exact ⟨v, rfl, q⟩
    | false => rw [hy] at k; exact Al.get r k
  | [], [], _, k => by cases k
  | [], _ :: _, x, _ => x.elim
  | _ :: _, [], x, _ => x.elim
section
variable {w : World} {A : Around} {E : Value → Shared → Prop} {s : Shared}
/-- a def of the text's, called -/
theorem Cl.def_ {name qual : Str} {params : Arguments} {body : List Stmt} {scope : Scope} {dV kV doc pm cdv ct oc : Value} {an od : Option Addr} {osl : Array (Option Value)} {f : Addr} {ds : List D} {r : D} {n : Nat} (names : List Str)
    (ho : (KF w).lookup f = some ⟨oc, od, .func (fnOf name qual params body scope dV kV doc pm an cdv ct), osl⟩) (hcd : codeIn (KF w) cdv qual = true) (rm : Rm A (n + 1))
    (hb : ∀ vs : List Value, vs.length = ds.length → bindArgs (fnOf name qual params body scope dV kV doc pm an cdv ct) ⟨vs, []⟩ = pure (names.zip vs))
    (hloc : ∀ x ∈ names, scope.names.lookup x = some .local)
    (h : ∀ L, Sx w ⟨A.deeper (envOf qual scope L f cdv), envOf qual scope L f cdv, n⟩ (names.zip ds).reverse body (fun fd _ => fd = .ret r))
    (hco : scope.isCoroutine = false := by rfl) (hgen : scope.isGenerator = false := by rfl) (hk : scope.kind = .function := by rfl) (hcell : ∀ x ∈ scope.names, x.2 ≠ .cell := by decide) : Cl w A (.ref f) ds r := fun s vs tk gl rp => by
  refine wpAny_call (codeAny_call_def (fd := fnOf name qual params body scope dV kV doc pm an cdv ct) (body := body) (binds := names.zip vs) (by have := rm.dp; omega) (gl.k _ _ ho) rfl gl.lim (codeRec_of gl.k hcd) rfl (.of_eq (hb vs rp.len)) hcell
    (fun x hx => hloc x.1 (List.of_mem_zip hx).1) (fun h₁ hns hk₁ => ?_) hco hgen hk)
  have ok : Cx.Ok ⟨A.deeper (envOf qual scope s.heap.objs.size f cdv), envOf qual scope s.heap.objs.size f cdv, n⟩ := ⟨rm.deeper _, hk, rfl, rfl⟩
  have fx : Fx w s.heap (envOf qual scope s.heap.objs.size f cdv) (names.zip ds).reverse { s with heap := h₁, toks := s.toks + (names.zip vs).length } :=
    ⟨gl, by show 0 < s.toks + _; omega, _, ⟨hns, hk₁, Nat.le_refl _⟩, fun x d e => Al.get (Al.rev (Al.zip names (rp.keeps hk₁))) e⟩
  refine wpAny_mono (h _ s.heap _ ok fx) (fun fl s' ⟨fd, m', q1, q2, q3, q4⟩ => ?_) fun _ _ x => x.elim
  subst q1
  cases fl with
  | ret v =>
    obtain ⟨h', t', e, _⟩ := q4
    obtain ⟨mv, F, _⟩ := q3.fr
    subst e
    exact ⟨⟨h', t', rfl, F.keep⟩, q2⟩
  | next => exact q2.elim
  | brk => exact q2.elim
  | cont => exact q2.elim
/-- a comprehension over texts, its items texts -/
theorem paired_texts (pz : Str → Bool) (f : Str → Str) : ∀ (vs : List Value) (xs : List Str) (ys : List Value), StrsAre vs xs →
    Paired (fun v r => ∃ y t u, v = Value.str y t ∧ r = Value.str (f y) u) (vs.filter fun v => match v with | .str y _ => pz y | _ => false) ys → StrsAre ys ((xs.filter pz).map f)
  | _, _, ys, .nil, h => by cases h; exact .nil
  | _, _, ys, .cons (vs := vs) (ys := xs) y t r, h => by
    cases hp : pz y with
    | false =>
      rw [List.filter_cons_of_neg (by simp [hp])] at h
      rw [List.filter_cons_of_neg (by simp [hp])]
      exact paired_texts pz f vs xs ys r h
    | true =>
      rw [List.filter_cons_of_pos (by simp [hp])] at h
      rw [List.filter_cons_of_pos (by simp [hp])]
      cases h with
      | cons hF ht =>
        obtain ⟨y', t', u, e, rfl⟩ := hF
        cases e
        exact .cons _ u (paired_texts pz f vs xs _ r ht)
theorem strs_of_places {xs : List Str} {vs : List Value} (hl : vs.length = xs.length) (h : ∀ (j : Nat) (v : Value), vs[j]? = some v → ∃ e, (xs.map D.str)[j]? = some e ∧ Scal e v) : StrsAre vs xs := by
  induction vs generalizing xs with
  | nil => cases xs with
    | nil => exact .nil
    | cons _ _ => cases hl
  | cons v vs ih => cases xs with
    | nil => cases hl
    | cons x xs =>
      obtain ⟨e, h1, h2⟩ := h 0 v rfl
      simp at h1
      subst h1
      obtain ⟨t, rfl⟩ := h2 {}
      exact .cons x t (ih (by simpa using hl) fun j u hu => by simpa using h (j + 1) u (by simpa using hu))
variable {c : Cx} {m : Mem} {d : D}
def compTestsOk (w : World) (c : Cx) (m : Mem) (ifs : List PySem.Expr) (b : Bool) : Prop := match ifs with
  | [] => b = true
  | [t] => Tv w c m t b
  | _ => False
theorem Ev.comp {elt iter : PySem.Expr} {x : Str} {px pos : Pos} {ifs : List PySem.Expr} {scope : Scope} {xs : List Str} (pz : Str → Bool) (f : Str → Str) (hit : Ev w c m iter d) (hi : itemsOf d = some (xs.map D.str)) (hz : xs.length ≤ sizeLine)
    (ht : ∀ C y, y ∈ xs → compTestsOk w ⟨c.A, compEnv scope C c.env, c.n⟩ [(x, .str y)] ifs (pz y))
    (he : ∀ C y, y ∈ xs → pz y = true → Ev w ⟨c.A, compEnv scope C c.env, c.n⟩ [(x, .str y)] elt (.str (f y)))
    (hkind : scope.kind = .function := by rfl) (hx : scope.names.lookup x = some .local := by rfl) (hfree : ∀ y ∈ scope.names, y.2 ≠ .free := by decide) (hcell : ∀ y ∈ scope.names, y.2 ≠ .cell := by decide)
    (hnames : ∀ y ∈ scope.names, y.2 = .local → scope.names.lookup y.1 = some .local := by decide)
    (hs : ∀ v, foldedSetIterable iter c.env v = pure v := by intro _; rfl) : Ev w c m (.ListComp elt [⟨.Name x px, iter, ifs, 0⟩] scope pos) (.txts ((xs.filter pz).map f)) := fun s ok hsee => by
  refine wpAny_ListComp_walk (fun v => match v with | .str y _ => pz y | _ => false) (fun v r => ∃ y t u, v = Value.str y t ∧ r = Value.str (f y) u) hfree hcell hkind hnames hx (hit.use ok hsee fun xv s₁ k₁ hs₁ r₁ => ?_) hs
  obtain ⟨mv, hn, _⟩ := hs₁.ns
  refine iter_of hi r₁ hn fun I fp wr P St h' W hP st ext lt hL hw hfl => ?_
  have ok' : ∀ C, Cx.Ok ⟨c.A, compEnv scope C c.env, c.n⟩ := fun C => ⟨ok.rm, hkind, ok.en.g, ok.en.b⟩
  have at_ : ∀ C i v (s₃ : Shared) m₃, P i v → s₃.heap.Ns C m₃ → m₃ x = some v → (∀ b o, b ∉ wr → h'.get? b = some o → s₃.heap.get? b = some o) → s₁.toks ≤ s₃.toks →
      ∃ y t, y ∈ xs ∧ v = Value.str y t ∧ Sees w (compEnv scope C c.env) [(x, .str y)] s₃ := fun C i v s₃ m₃ hp hn₃ hm₃ hk₃ ht₃ => by
    obtain ⟨e, he1, he2⟩ := hP i v hp
    rw [List.getElem?_map] at he1
    obtain ⟨y, hy1, hy2⟩ := Option.map_eq_some_iff.mp he1
    subst hy2
    obtain ⟨t, rfl⟩ := he2 {}
    refine ⟨y, t, List.mem_of_getElem? hy1, rfl, hs₁.gl.keeps fun b o q => hk₃ b o (fun hb => by have := hw b hb; rw [q] at this; cases this) (ext b o q), Nat.lt_of_lt_of_le hs₁.tk ht₃, m₃, hn₃, fun z d q => ?_⟩
    rw [List.lookup_cons] at q
    cases hz : z == x with
    | true => rw [hz] at q; cases q; rw [beq_iff_eq.mp hz]; exact ⟨_, hm₃, t, rfl⟩
    | false => rw [hz] at q; cases q
  refine ⟨I, fp, wr, (xs.map D.str).length, P, St, rfl, W _ ok.rm.hd, by simpa using hz, st, lt, ⟨?_, ?_⟩, ?_⟩
  · intro C i v s₃ m₃ E' hp hn₃ hm₃ hk₃ ht₃
    obtain ⟨y, t, hy, rfl, se⟩ := at_ C i v s₃ m₃ hp hn₃ hm₃ hk₃ ht₃
    have hq := ht C y hy
    unfold compTestsOk at hq
    split at hq
    · exact wpAny_tests_nil ⟨hq.symm, keeps_self⟩
    · exact wpAny_tests_one (hq.use (ok' C) se fun s₄ k₄ _ => ⟨rfl, k₄⟩)
    · exact hq.elim
  · intro C i v s₃ m₃ E' hp hpv hn₃ hm₃ hk₃ ht₃
    obtain ⟨y, t, hy, rfl, se⟩ := at_ C i v s₃ m₃ hp hn₃ hm₃ hk₃ ht₃
    exact (he C y hy hpv).use (ok' C) se fun v s₄ k₄ _ r₄ => by
      obtain ⟨u, rfl⟩ := r₄
      exact ⟨⟨y, t, u, rfl, rfl⟩, k₄⟩
  · intro D₁ h₂ tk ys vs hnew hlD _ hlen hPv hF hk₂
    have ext₂ : Ext s₁.heap h₂ := fun b o q => hk₂ b o (fun hb => by have := hw b hb; rw [q] at this; cases this) (ext b o q)
    have sa : StrsAre vs xs := strs_of_places (by simpa using hlen) fun j v hj => hP j v (hPv j v hj)
    exact ⟨keeps_trans k₁ (keeps_heap ext₂), D₁, ys.toList, rfl, by simpa using hlD, paired_texts pz f vs xs _ sa hF⟩
end
end Mine
end
section
open PySem PySem.W PySem.Spec PySem.Calls PyProof.Rows
set_option maxRecDepth 100000
set_option Elab.async false
set_option linter.unusedVariables false
namespace Mine
/-- a text by its signs -/
abbrev S (l : List Nat) : Str := ⟨l.toArray⟩
theorem S_eta (x : Str) : x = S x.cps.toList := rfl
theorem S_len (l : List Nat) : (S l).length = l.length := by show l.toArray.size = _; simp
theorem S_app (a b : List Nat) : S a ++ S b = S (a ++ b) := by
  show (⟨a.toArray ++ b.toArray⟩ : Str) = _
  simp [S]
theorem S_inj {a b : List Nat} : S a = S b ↔ a = b := by
  constructor
  · intro h; have := congrArg (fun x : Str => x.cps.toList) h; simpa using this
  · rintro rfl; rfl
theorem S_beq (a b : List Nat) : (S a == S b) = decide (a = b) := by
  by_cases h : a = b
  · subst h; simp
  · have : S a ≠ S b := fun q => h (S_inj.mp q)
    rw [decide_eq_false h]; simpa using this
theorem S_bne (a b : List Nat) : (S a != S b) = decide (a ≠ b) := by
  unfold bne; rw [S_beq]; by_cases h : a = b <;> simp [h]
theorem clip_eq (n : Nat) (i : Int) : max 0 (min (if i < 0 then i + (n : Int) else i) (n : Int)) = ((clipAt n i : Nat) : Int) := (clipAt_cast n i).symm
theorem strIdx_eq (a b : Option Int) (n : Nat) : Builtin.Str.strSliceIndices a b 1 n = sliceRange ((a.elim 0 (clipAt n) : Nat) : Int) ((b.elim n (clipAt n) : Nat) : Int) 1 := by
  unfold Builtin.Str.strSliceIndices
  cases a <;> cases b <;> simp [clip_eq]
theorem S_slice (l : List Nat) (a b : Option Int) : Txt.slice (S l) a b = S (cutL l a b) := by
  have ln : (S l).length = l.length := S_len l
  have key : List.filterMap (fun i => (S l).cps[i]?) (Builtin.Str.strSliceIndices a b 1 (S l).length) = cutL l a b := by
    rw [strIdx_eq, sliceRange_one, pick_run, ln]; rfl
  unfold Txt.slice
  rw [key]
  split
  · rename_i h
    have h2 : (Builtin.Str.strSliceIndices a b 1 (S l).length).length = (S l).length := by
      have := (Bool.and_eq_true_iff.mp h).2
      exact beq_iff_eq.mp this
    rw [strIdx_eq, sliceRange_one, ln, List.length_map, List.length_range] at h2
    have b1 : b.elim l.length (clipAt l.length) ≤ l.length := by
      cases b with
      | none => exact Nat.le_refl _
      | some i => show clipAt l.length i ≤ l.length; have := clipAt_cast l.length i; omega
    have ha : a.elim 0 (clipAt l.length) = 0 ∨ l.length = 0 := by omega
    refine (S_inj.mpr ?_)
    unfold cutL
    rcases ha with ha | ha
    · have e : b.elim l.length (clipAt l.length) - 0 = l.length := by omega
      rw [ha, List.drop_zero, e, List.take_length]
    · rw [List.eq_nil_of_length_eq_zero ha]; simp
  · rfl
theorem cut_to (l : List Nat) (n : Nat) : cutL l none (some (n : Int)) = l.take n := by
  unfold cutL
  simp only [Option.elim, clipAt_nat, List.drop_zero, Nat.sub_zero]
  rcases Nat.le_total n l.length with h | h
  · rw [Nat.min_eq_left h]
  · rw [Nat.min_eq_right h, List.take_of_length_le (Nat.le_refl _), List.take_of_length_le h]
theorem cut_from (l : List Nat) (n : Nat) : cutL l (some (n : Int)) none = l.drop n := by
  unfold cutL
  simp only [Option.elim, clipAt_nat]
  rcases Nat.le_total n l.length with h | h
  · rw [Nat.min_eq_left h, List.take_of_length_le (by simp)]
  · rw [Nat.min_eq_right h, List.drop_of_length_le (Nat.le_refl _), List.drop_of_length_le h]; simp
theorem cut_last (l : List Nat) : cutL l (some (-1)) none = l.drop (l.length - 1) := by
  unfold cutL
  have := clipAt_neg l.length 1 (Nat.le_refl _)
  simp only [Option.elim]
  rw [show (-1 : Int) = -((1 : Nat) : Int) from rfl, this, List.take_of_length_le (by simp)]
theorem cut_init (l : List Nat) : cutL l none (some (-1)) = l.dropLast := by
  unfold cutL
  have := clipAt_neg l.length 1 (Nat.le_refl _)
  simp only [Option.elim]
  rw [show (-1 : Int) = -((1 : Nat) : Int) from rfl, this, List.drop_zero, Nat.sub_zero, List.dropLast_eq_take]
theorem S_item {l : List Nat} {k : Int} {c : Nat} (h0 : 0 ≤ k) (h : l[k.toNat]? = some c) : Txt.item (S l) k = S [c] := item_meets h0 (by simpa using h)
end Mine
end
section
open PySem PySem.W PySem.Spec PySem.Calls PyProof.Rows
set_option maxRecDepth 100000
set_option Elab.async false
set_option linter.unusedVariables false
namespace Mine
section
variable {w : World} {c : Cx} {m : Mem} {e : PySem.Expr} {d d' : D} {s : Shared} {E : Value → Shared → Prop} {A : Around}
theorem Ev.conv (h : Ev w c m e d) (q : d = d') : Ev w c m e d' := q ▸ h
theorem Tv.conv {b b' : Bool} (h : Tv w c m e b) (q : b = b') : Tv w c m e b' := q ▸ h
theorem Cl.conv {f : Value} {ds : List D} (h : Cl w A f ds d) (q : d = d') : Cl w A f ds d' := q ▸ h
theorem Ev.cS {x : Str} {l : List Nat} {k : Nat} {p : Pos} (h : x = S l) : Ev w c m (.Constant (.str x) k p) (.str (S l)) := h ▸ Ev.cstr
theorem Bin.catS {a b : List Nat} (h : a.length + b.length ≤ sizeLine) : Bin w A .Add (.str (S a)) (.str (S b)) (.str (S (a ++ b))) := by
  rw [← S_app]; exact Bin.addS (by rw [S_len, S_len]; exact h)
theorem Ev.cutS {v : PySem.Expr} {lo hi : Option PySem.Expr} {p q : Pos} {l r : List Nat} {a b : Option Int} (hv : Ev w c m v (.str (S l))) (hl : EvO w c m lo a) (hh : EvO w c m hi b) (hz : l.length ≤ sizeLine) (hr : cutL l a b = r)
    (ht : ∀ t r, letTemporaryGo v (.str (S l) t) r = pure () := by intro _ _; with_unfolding_all rfl) : Ev w c m (.Subscript v (.Slice lo hi none q) p) (.str (S r)) := by
  have := Ev.sliceS (p := p) (q := q) hv hl hh (by rw [S_len]; exact hz) ht
  rw [S_slice, hr] at this
  exact this
theorem Ev.at_ {v i : PySem.Expr} {p : Pos} {l : List Nat} {k : Int} {x : Nat} (hv : Ev w c m v (.str (S l))) (hi : Ev w c m i (.int k)) (h0 : 0 ≤ k) (hx : l[k.toNat]? = some x) (hz : l.length ≤ sizeLine)
    (hp : PlainSub i := by intro _ _; with_unfolding_all rfl) (ht : ∀ t r, letTemporaryGo v (.str (S l) t) r = pure () := by intro _ _; with_unfolding_all rfl) : Ev w c m (.Subscript v i p) (.str (S [x])) := by
  have hl : k.toNat < l.length := (List.getElem?_eq_some_iff.mp hx).1
  have := Ev.itemS (p := p) hv hi (by rw [S_len]; omega) (by rw [S_len]; omega) (by rw [S_len]; exact hz) hp ht
  rw [S_item h0 hx] at this
  exact this
/-- the last sign -/
theorem S_lastItem {l : List Nat} {x : Nat} (h : l.getLast? = some x) : Txt.item (S l) (-1) = S [x] := by
  have hn : l ≠ [] := by intro q; subst q; cases h
  have hl : 0 < l.length := List.length_pos_iff.mpr hn
  have e : seqIndex? (-1) (S l).length = some (l.length - 1) := by
    rw [S_len]
    unfold seqIndex?
    have h1 : ¬ ((-1 : Int) + (l.length : Int) < 0) := by omega
    simp
    omega
  unfold Txt.item Txt.charAt
  rw [e]
  have : l[l.length - 1]? = some x := by rw [← List.getLast?_eq_getElem?]; exact h
  simp [this, S]
theorem Ev.last {v i : PySem.Expr} {p : Pos} {l : List Nat} {x : Nat} (hv : Ev w c m v (.str (S l))) (hi : Ev w c m i (.int (-1))) (hx : l.getLast? = some x) (hz : l.length ≤ sizeLine)
    (hp : PlainSub i := by intro _ _; with_unfolding_all rfl) (ht : ∀ t r, letTemporaryGo v (.str (S l) t) r = pure () := by intro _ _; with_unfolding_all rfl) : Ev w c m (.Subscript v i p) (.str (S [x])) := by
  have hl : 0 < l.length := by cases l with | nil => cases hx | cons => simp
  have := Ev.itemS (p := p) hv hi (by rw [S_len]; omega) (by rw [S_len]; omega) (by rw [S_len]; exact hz) hp ht
  rw [S_lastItem hx] at this
  exact this
theorem Cm.eq_ {a b : List Nat} : Cm w A .Eq (.str (S a)) (.str (S b)) (decide (a = b)) := by rw [← S_beq]; exact Cm.eqS
theorem Cm.ne_ {a b : List Nat} : Cm w A .NotEq (.str (S a)) (.str (S b)) (decide (a ≠ b)) := by rw [← S_bne]; exact Cm.neS
theorem Cm.lt_ {a b : List Nat} : Cm w A .Lt (.str (S a)) (.str (S b)) (decide (a < b)) := by have := Cm.ltS (w := w) (A := A) (x := S a) (y := S b); simpa using this
theorem Tv.full {a : List Nat} (h : Ev w c m e (.str (S a))) (hx : a.length ≤ sizeLine)
    (he : isTrue e c.env (eval e c.env) = (do let v ← eval e c.env; standAt e.pos; holding [v] (truthy v)) := by rfl) : Tv w c m e (decide (a ≠ [])) :=
  (Tv.str h (by rw [S_len]; exact hx) he).conv (by rw [S_len]; cases a <;> simp <;> omega)
end
theorem lit_sp : Str.ofString " " = S [32] := rfl
theorem lit_nil : Str.ofString "" = S [] := rfl
theorem lit_us : Str.ofString "_" = S [95] := rfl
theorem lit_dot : Str.ofString "." = S [46] := rfl
theorem lit_no : Str.ofString "no" = S [110, 111] := rfl
theorem lit_unk : Str.ofString "unk" = S [117, 110, 107] := rfl
theorem lit_wn : Str.ofString "wn" = S [119, 110] := rfl
theorem lit_unknown : Str.ofString "unknown" = S [117, 110, 107, 110, 111, 119, 110] := rfl
theorem lit_pm : Str.ofString "+-" = S [43, 45] := rfl
theorem lit_way : Str.ofString "/:()" = S [47, 58, 40, 41] := rfl
theorem lit_SunOS : Str.ofString "SunOS" = S [83, 117, 110, 79, 83] := rfl
theorem lit_sunos : Str.ofString "sunos" = S [115, 117, 110, 111, 115] := rfl
theorem lit_win32 : Str.ofString "win32" = S [119, 105, 110, 51, 50] := rfl
theorem lit_win16 : Str.ofString "win16" = S [119, 105, 110, 49, 54] := rfl
theorem lit_Linux : Str.ofString "Linux" = S [76, 105, 110, 117, 120] := rfl
theorem lit_Generic : Str.ofString "Generic" = S [71, 101, 110, 101, 114, 105, 99] := rfl
theorem lit_rc2 : Str.ofString "rc 2" = S [114, 99, 32, 50] := rfl
theorem lit_figs : Str.ofString "0123456789" = S [48, 49, 50, 51, 52, 53, 54, 55, 56, 57] := rfl
theorem lit_Windows : Str.ofString "Windows" = S [87, 105, 110, 100, 111, 119, 115] := rfl
theorem lit_Solaris : Str.ofString "Solaris" = S [83, 111, 108, 97, 114, 105, 115] := rfl
theorem lit_hy : Str.ofString "-" = S [45] := rfl
theorem lit_5 : Str.ofString "5" = S [53] := rfl
theorem lit_6 : Str.ofString "6" = S [54] := rfl
theorem lit_sl : Str.ofString "/" = S [47] := rfl
theorem lit_bs : Str.ofString "\\" = S [92] := rfl
theorem lit_co : Str.ofString ":" = S [58] := rfl
theorem lit_sc : Str.ofString ";" = S [59] := rfl
theorem lit_qu : Str.ofString "\"" = S [34] := rfl
theorem lit_lp : Str.ofString "(" = S [40] := rfl
theorem lit_rp : Str.ofString ")" = S [41] := rfl
theorem lit_hh : Str.ofString "--" = S [45, 45] := rfl
end Mine
end
section
open PySem PySem.W PySem.Spec PySem.Calls PyProof.Rows
set_option maxRecDepth 100000
set_option Elab.async false
set_option linter.unusedVariables false
namespace Mine
theorem no_ord (w : World) : nsIn (KF w) mainGlobals "ord" = some none := by rfl
theorem no_chr (w : World) : nsIn (KF w) mainGlobals "chr" = some none := by rfl
theorem no_len (w : World) : nsIn (KF w) mainGlobals "len" = some none := by rfl
theorem no_str (w : World) : nsIn (KF w) mainGlobals "str" = some none := by rfl
theorem no_int (w : World) : nsIn (KF w) mainGlobals "int" = some none := by rfl
theorem no_filter (w : World) : nsIn (KF w) mainGlobals "filter" = some none := by rfl
theorem no_ValueError (w : World) : nsIn (KF w) mainGlobals "ValueError" = some none := by rfl
theorem b_ord : bootBuiltins "ord" = some (.builtin "ord") := by boot_by_name
theorem b_chr : bootBuiltins "chr" = some (.builtin "chr") := by boot_by_name
theorem b_len : bootBuiltins "len" = some (.builtin "len") := by boot_by_name
theorem b_str : bootBuiltins "str" = some (.type "str") := by boot_by_name
theorem b_int : bootBuiltins "int" = some (.type "int") := by boot_by_name
theorem b_filter : bootBuiltins "filter" = some (.type "filter") := by boot_by_name
theorem b_ValueError : bootBuiltins "ValueError" = some (.type "ValueError") := by boot_by_name
section
variable {w : World} {c : Cx} {m : Mem} {e : PySem.Expr} {d : D} {s : Shared} {A : Around}
theorem one {e : PySem.Expr} {d : D} (h : Ev w c m e d) (he : starEach [e] c.env = [(false, eval e c.env)]) : Evs w c m [e] [d] := Evs.cons h Evs.nil he
theorem Ev.ord {x : Nat} {p q : Pos} (h : Ev w c m e (.str (S [x]))) (hk : c.env.kindOf "ord" = some .globalImplicit) (he : starEach [e] c.env = [(false, eval e c.env)]) : Ev w c m (.Call (.Name "ord" p) [e] [] q) (.int x) :=
  Ev.callB (no_ord w) b_ord hk (one h he) (fun _ => Cl.ord) (by decide) (by decide) he
theorem Ev.chr {i : Int} {l : Nat} {p q : Pos} (h : Ev w c m e (.int i)) (hl : i = (l : Int)) (h1 : l ≤ 1114111) (hk : c.env.kindOf "chr" = some .globalImplicit) (he : starEach [e] c.env = [(false, eval e c.env)]) : Ev w c m (.Call (.Name "chr" p) [e] [] q) (.str (S [l])) := by
  subst hl
  have := Ev.callB (p := p) (pos := q) (no_chr w) b_chr hk (one h he) (fun _ => Cl.chr (by omega) (by omega)) (by decide) (by decide) he
  exact this
theorem Ev.len {l : List Nat} {p q : Pos} (h : Ev w c m e (.str (S l))) (hz : l.length ≤ sizeLine) (hk : c.env.kindOf "len" = some .globalImplicit) (he : starEach [e] c.env = [(false, eval e c.env)]) : Ev w c m (.Call (.Name "len" p) [e] [] q) (.int l.length) := by
  have := Ev.callB (p := p) (pos := q) (no_len w) b_len hk (one h he) (fun _ => Cl.len (by rw [S_len]; exact hz)) (by decide) (by decide) he
  rw [S_len] at this
  exact this
/-- an int's signs -/
def digs (i : Int) : List Nat := (Str.ofString (toString i)).cps.toList
theorem S_digs (i : Int) : Str.ofString (toString i) = S (digs i) := rfl
theorem Ev.strI {i : Int} {p q : Pos} (h : Ev w c m e (.int i)) (hz : i.natAbs.log2 < 1920) (hk : c.env.kindOf "str" = some .globalImplicit) (he : starEach [e] c.env = [(false, eval e c.env)]) : Ev w c m (.Call (.Name "str" p) [e] [] q) (.str (S (digs i))) := by
  have := Ev.callT (p := p) (pos := q) (no_str w) b_str hk (one h he) (fun _ => Cl.str hz) (by decide) (by decide) he
  exact this
theorem items_S (l : List Nat) : itemsOf (.str (S l)) = some (l.map fun c => D.str (S [c])) := by simp [itemsOf, S]
theorem items_S' (l : List Nat) : itemsOf (.str (S l)) = some ((l.map fun c => S [c]).map D.str) := by rw [items_S]; simp
theorem get_items {l : List Nat} {i : Nat} {e : D} (h : (l.map fun c => D.str (S [c]))[i]? = some e) : ∃ x, l[i]? = some x ∧ e = .str (S [x]) := by
  rw [List.getElem?_map] at h
  obtain ⟨x, h1, h2⟩ := Option.map_eq_some_iff.mp h
  exact ⟨x, h1, h2.symm⟩
theorem take_more {α : Type} {l : List α} {i : Nat} {x : α} (h : l[i]? = some x) : l.take (i + 1) = l.take i ++ [x] := by
  rw [List.take_add_one, h]; rfl
theorem Turn.nx {rest : List Stmt} {Q : FD → Mem → Prop} {next : Mem → Prop} {a m : Mem} (h : next a) (s : Sub a m) : Turn w c rest Q next .next m := ⟨a, s, h⟩
theorem Turn.ct {rest : List Stmt} {Q : FD → Mem → Prop} {next : Mem → Prop} {a m : Mem} (h : next a) (s : Sub a m) : Turn w c rest Q next .cont m := ⟨a, s, h⟩
theorem Sx.for' {Q : FD → Mem → Prop} {rest : List Stmt} {x : Str} {px p : Pos} {iter : PySem.Expr} {body : List Stmt} {its : List D} {a₀ : Mem} (J : Nat → Mem → Prop) (hit : Ev w c m iter d) (hi : itemsOf d = some its) (j0 : J 0 a₀) (s0 : Sub a₀ m)
    (turn : ∀ i e a, its[i]? = some e → J i a → Sx w c ((x, e) :: a) body (Turn w c rest Q (J (i + 1)))) (done : ∀ a, J its.length a → Sx w c a rest Q)
    (hx : c.env.kindOf x = some .local) (hs : ∀ v, foldedSetIterable iter c.env v = pure v := by intro _; rfl) : Sx w c m (.For (.Name x px) iter body [] p :: rest) Q :=
  Sx.for_ J hit hi ⟨a₀, s0, j0⟩ turn done hx hs
end
end Mine
end
section
open PySem PySem.W PySem.Spec PySem.Calls PyProof.Rows
open PySem.Builtin PySem.Builtin.Str
set_option maxRecDepth 100000
set_option Elab.async false
set_option linter.unusedVariables false
namespace Mine
theorem subAt_S (l y : List Nat) (i : Nat) : subAt (S l) (S y) i = decide ((l.drop i).take y.length = y) := by
  rw [StrLaws.subAt_eq, S_len]
  rw [Bool.eq_iff_iff, beq_iff_eq, decide_eq_true_iff]
theorem contains_one (l : List Nat) (x : Nat) : Txt.contains (S l) (S [x]) = decide (x ∈ l) := by
  have key : ∀ i, StrLaws.At (S l) (S [x]) (S l).length i ↔ l[i]? = some x := fun i => by
    unfold StrLaws.At
    rw [subAt_S, S_len, S_len, decide_eq_true_iff]
    constructor
    · rintro ⟨h1, h2⟩
      have := congrArg (fun z : List Nat => z[0]?) h2
      simpa using this
    · intro h
      have hl : i < l.length := (List.getElem?_eq_some_iff.mp h).1
      refine ⟨by simp; omega, ?_⟩
      rw [List.drop_eq_getElem_cons hl]
      have : l[i] = x := (List.getElem?_eq_some_iff.mp h).2
      simp [this]
  unfold Txt.contains
  rcases StrLaws.occ_head (S l) (S [x]) 1 (Nat.le_refl _) with ⟨h1, h2⟩ | ⟨i, r, h1, h2, _⟩
  · rw [h1]
    have : x ∉ l := fun hx => by
      obtain ⟨i, hi⟩ := List.mem_iff_getElem?.mp hx
      exact h2 i ((key i).mpr hi)
    simp [this]
  · rw [h1]
    have : x ∈ l := List.mem_iff_getElem?.mpr ⟨i, (key i).mp h2⟩
    simp [this]
/-- the places of y, one behind the other -/
def occGo (y : List Nat) : Nat → Nat → List Nat → List Nat
  | _, _, [] => []
  | i, k + 1, _ :: l => occGo y (i + 1) k l
  | i, 0, c :: l => if (c :: l).take y.length = y then i :: occGo y (i + 1) (y.length - 1) l else occGo y (i + 1) 0 l
theorem occ_go (l y : List Nat) (hy : y ≠ []) : ∀ (k i free : Nat) (found : Array Nat), k + i = l.length → found.size ≤ i →
    (forIn (List.range' i (k + 1)) (found, free) (StrLaws.occBody (S l) (S y) l.length (l.length + 1))).run.fst.toList = found.toList ++ occGo y i (free - i) (l.drop i)
  | 0, i, free, found, hk, hf => by
    have hyl : 0 < y.length := List.length_pos_iff.mpr hy
    rw [List.range'_succ, List.forIn_cons]
    unfold StrLaws.occBody
    rw [if_neg (by rw [S_len]; rintro ⟨⟨⟨a, b⟩, c⟩, d⟩; omega)]
    have : l.drop i = [] := List.drop_of_length_le (by omega)
    rw [this]
    simp [occGo]
  | k + 1, i, free, found, hk, hf => by
    have hyl : 0 < y.length := List.length_pos_iff.mpr hy
    have hi : i < l.length := by omega
    rw [List.range'_succ, List.forIn_cons]
    have hd := List.drop_eq_getElem_cons hi
    rw [hd]
    unfold StrLaws.occBody
    by_cases hfree : free ≤ i
    · have e0 : free - i = 0 := by omega
      rw [e0]
      by_cases hm : (l.drop i).take y.length = y
      · have hlen : i + y.length ≤ l.length := by
          have := congrArg List.length hm
          rw [List.length_take, List.length_drop] at this
          omega
        rw [if_pos ⟨⟨⟨by show found.size < l.length + 1; omega, hfree⟩, by rw [S_len]; exact hlen⟩, by rw [subAt_S]; exact decide_eq_true hm⟩]
        have ih := occ_go l y hy k (i + 1) (i + y.length) (found.push i) (by omega) (by rw [Array.size_push]; omega)
        unfold occGo
        rw [if_pos (by rw [← hd]; exact hm)]
        have e1 : i + y.length - (i + 1) = y.length - 1 := by omega
        rw [e1] at ih
        rw [Array.toList_push, List.append_assoc] at ih
        rw [S_len]
        exact ih
      · rw [if_neg (by rintro ⟨_, d⟩; rw [subAt_S] at d; exact hm (of_decide_eq_true d))]
        have ih := occ_go l y hy k (i + 1) free found (by omega) (by omega)
        unfold occGo
        rw [if_neg (by rw [← hd]; exact hm)]
        have e1 : free - (i + 1) = 0 := by omega
        rw [e1] at ih
        exact ih
    · rw [if_neg (by rintro ⟨⟨⟨a, b⟩, c⟩, d⟩; exact hfree b)]
      have ih := occ_go l y hy k (i + 1) free found (by omega) (by omega)
      obtain ⟨q, hq⟩ : ∃ q, free - i = q + 1 := ⟨free - i - 1, by omega⟩
      have hq2 : free - (i + 1) = q := by omega
      rw [hq]
      rw [hq2] at ih
      unfold occGo
      exact ih
theorem occ_S (l y : List Nat) (hy : y ≠ []) : occurrences (S l) (S y) 0 (S l).length ((S l).length + 1) = occGo y 0 0 l := by
  rw [StrLaws.occ_eq, S_len]
  have := occ_go l y hy l.length 0 0 #[] (by omega) (Nat.zero_le _)
  simpa using this
end Mine
end
section
open PySem PySem.W PySem.Spec PySem.Calls PyProof.Rows
open PySem.Builtin PySem.Builtin.Str
set_option maxRecDepth 100000
set_option Elab.async false
set_option linter.unusedVariables false
namespace Mine
def joinL (z : List Nat) : List (List Nat) → List Nat
  | [] => []
  | [a] => a
  | a :: b :: r => a ++ z ++ joinL z (b :: r)
theorem join_S (z : List Nat) : ∀ ls : List (List Nat), Txt.join (S z) (ls.map S) = S (joinL z ls) := fun ls => by
  show glued (S z) (ls.map S) = _
  rw [StrLaws.glued_eq_join]
  induction ls with
  | nil => rfl
  | cons a r ih =>
    cases r with
    | nil => rfl
    | cons b r =>
      show S a ++ S z ++ Str.join (S z) (S b :: r.map S) = S (a ++ z ++ joinL z (b :: r))
      have ih' : Str.join (S z) (S b :: r.map S) = S (joinL z (b :: r)) := ih
      rw [ih', S_app, S_app]
/-- the parts between the places of y -/
def scanGo (y : List Nat) : Nat → List Nat → List (List Nat)
  | _, [] => [[]]
  | k + 1, _ :: l => scanGo y k l
  | 0, c :: l => if (c :: l).take y.length = y then [] :: scanGo y (y.length - 1) l else match scanGo y 0 l with
    | p :: ps => (c :: p) :: ps
    | [] => [[c]]
/-- y gone, z in its place -/
def replGo (y z : List Nat) : Nat → List Nat → List Nat
  | _, [] => []
  | k + 1, _ :: l => replGo y z k l
  | 0, c :: l => if (c :: l).take y.length = y then z ++ replGo y z (y.length - 1) l else c :: replGo y z 0 l
theorem scan_ne (y : List Nat) : ∀ (l : List Nat) (k : Nat), ∃ p ps, scanGo y k l = p :: ps
  | [], k => by cases k <;> exact ⟨_, _, rfl⟩
  | c :: l, k + 1 => scan_ne y l k
  | c :: l, 0 => by
    unfold scanGo
    split
    · exact ⟨_, _, rfl⟩
    · obtain ⟨p, ps, e⟩ := scan_ne y l 0
      rw [e]; exact ⟨_, _, rfl⟩
theorem join_scan (y z : List Nat) : ∀ (l : List Nat) (k : Nat), joinL z (scanGo y k l) = replGo y z k l
  | [], k => by cases k <;> rfl
  | c :: l, k + 1 => join_scan y z l k
  | c :: l, 0 => by
    unfold scanGo replGo
    split
    · have ih := join_scan y z l (y.length - 1)
      obtain ⟨p, ps, e⟩ := scan_ne y l (y.length - 1)
      rw [← ih, e]
      rfl
    · have ih := join_scan y z l 0
      obtain ⟨p, ps, e⟩ := scan_ne y l 0
      rw [← ih, e]
      cases ps <;> rfl
theorem strSub_S (l : List Nat) (i j : Nat) : strSub (S l) i j = S ((l.drop i).take (j - i)) := by
  apply Str.ext'
  apply Array.toList_inj.mp
  rw [StrLaws.strSub_toList]
theorem parts_S (l y : List Nat) (hy : y ≠ []) : ∀ (n i k a : Nat), n + i = l.length → (k = 0 → a ≤ i) → (0 < k → a = i + k ∧ i + k ≤ l.length) →
    ∃ p ps, scanGo y k (l.drop i) = p :: ps ∧ StrLaws.partsFrom (S l) y.length a (occGo y i k (l.drop i)) = (((if k = 0 then (l.drop a).take (i - a) else []) ++ p) :: ps).map S
  | 0, i, k, a, hn, h0, h1 => by
    have e : l.drop i = [] := List.drop_of_length_le (by omega)
    rw [e]
    refine ⟨[], [], by cases k <;> rfl, ?_⟩
    have eo : occGo y i k [] = [] := by cases k <;> rfl
    rw [eo]
    show [strSub (S l) a (S l).length] = _
    rw [strSub_S, S_len]
    cases k with
    | zero =>
      have hi : i = l.length := by omega
      simp [hi]
    | succ k => have := h1 (Nat.succ_pos _); omega
  | n + 1, i, k + 1, a, hn, h0, h1 => by
    have hi : i < l.length := by omega
    obtain ⟨ha, hb⟩ := h1 (Nat.succ_pos _)
    rw [List.drop_eq_getElem_cons hi]
    obtain ⟨p, ps, e1, e2⟩ := parts_S l y hy n (i + 1) k a (by omega) (fun q => by omega) (fun q => ⟨by omega, by omega⟩)
    refine ⟨p, ps, e1, ?_⟩
    unfold occGo
    rw [e2]
    cases k with
    | zero => have : i + 1 - a = 0 := by omega
              simp [this]
    | succ k => simp
  | n + 1, i, 0, a, hn, h0, h1 => by
    have hi : i < l.length := by omega
    have hyl : 0 < y.length := List.length_pos_iff.mpr hy
    have ha := h0 rfl
    rw [List.drop_eq_getElem_cons hi]
    unfold occGo scanGo
    by_cases hm : (l[i] :: l.drop (i + 1)).take y.length = y
    · rw [if_pos hm, if_pos hm]
      have hlen : i + y.length ≤ l.length := by
        have := congrArg List.length hm
        rw [← List.drop_eq_getElem_cons hi, List.length_take, List.length_drop] at this
        omega
      obtain ⟨p, ps, e1, e2⟩ := parts_S l y hy n (i + 1) (y.length - 1) (i + y.length) (by omega) (fun q => by omega) (fun q => ⟨by omega, by omega⟩)
      refine ⟨[], scanGo y (y.length - 1) (l.drop (i + 1)), rfl, ?_⟩
      show strSub (S l) a i :: StrLaws.partsFrom (S l) y.length (i + y.length) _ = _
      rw [e2, e1, strSub_S]
      have e3 : (if y.length - 1 = 0 then (l.drop (i + y.length)).take (i + 1 - (i + y.length)) else []) = [] := by
        split
        · have : i + 1 - (i + y.length) = 0 := by omega
          rw [this]; rfl
        · rfl
      rw [e3]
      simp
    · rw [if_neg hm, if_neg hm]
      obtain ⟨p, ps, e1, e2⟩ := parts_S l y hy n (i + 1) 0 a (by omega) (fun q => by omega) (fun q => by omega)
      rw [e1]
      refine ⟨l[i] :: p, ps, rfl, ?_⟩
      rw [e2]
      have e3 : (l.drop a).take (i + 1 - a) = (l.drop a).take (i - a) ++ [l[i]] := by
        have : i + 1 - a = (i - a) + 1 := by omega
        rw [this]
        have e4 : (l.drop a)[i - a]? = some l[i] := by
          rw [List.getElem?_drop]
          have : a + (i - a) = i := by omega
          rw [this]; simp [hi]
        rw [List.take_add_one, e4]; rfl
      simp [e3]
theorem between_S (l y : List Nat) (hy : y ≠ []) : partsBetween (S l) (occurrences (S l) (S y) 0 (S l).length ((S l).length + 1)) (S y).length = (scanGo y 0 l).map S := by
  rw [StrLaws.partsBetween_eq, occ_S l y hy, S_len]
  obtain ⟨p, ps, e1, e2⟩ := parts_S l y hy l.length 0 0 0 (by omega) (fun _ => Nat.le_refl _) (fun q => by omega)
  rw [List.drop_zero] at e1 e2
  rw [e2, e1]
  simp
theorem occ_nil {y : List Nat} : ∀ (l : List Nat) (i k : Nat), occGo y i k l = [] → k = 0 → scanGo y 0 l = [l]
  | [], _, _, _, _ => rfl
  | c :: l, i, 0, h, _ => by
    unfold occGo at h
    unfold scanGo
    split at h
    · cases h
    · rename_i hm
      rw [if_neg hm, occ_nil l (i + 1) 0 h rfl]
  | _ :: _, _, k + 1, _, q => by cases q
theorem replace_S (l y z : List Nat) (hy : y ≠ []) : Txt.replace (S l) (S y) (S z) = S (replGo y z 0 l) := by
  have e := between_S l y hy
  unfold Txt.replace
  split
  · rename_i h
    rw [Bool.or_eq_true] at h
    rcases h with h | h
    · rw [occ_S l y hy] at h
      rw [← join_scan, occ_nil l 0 0 (List.isEmpty_iff.mp h) rfl]
      rfl
    · rw [S_len, Bool.and_eq_true, beq_iff_eq] at h
      exact absurd (List.eq_nil_of_length_eq_zero h.1) hy
  · rw [e]
    have := join_S z (scanGo y 0 l)
    rw [join_scan] at this
    exact this
theorem split_S (l : List Nat) (c : Nat) (hc : c < 256) : Txt.split (S l) (S [c]) = (scanGo [c] 0 l).map S := by
  have e := between_S l [c] (by simp)
  have eo := occ_S l [c] (by simp)
  unfold Txt.split
  split
  · rename_i h
    rw [Bool.or_eq_true, decide_eq_true_iff, decide_eq_true_iff] at h
    rcases h with h | h
    · rw [S_len, S_len] at h
      have : l = [] := List.eq_nil_of_length_eq_zero (by rw [List.length_singleton] at h; omega)
      subst this; rfl
    · have h1 : Builtin.Str.strKind (S [c]) = 1 := by unfold Builtin.Str.strKind; rw [if_pos (by simp [hc])]
      rw [h1] at h
      unfold Builtin.Str.strKind at h
      split at h <;> (try split at h) <;> omega
  · split
    · rename_i h
      rw [eo] at h
      rw [occ_nil l 0 0 (List.isEmpty_iff.mp h) rfl]
      rfl
    · exact e
end Mine
end
section
open PySem PySem.W PySem.Spec PySem.Calls PyProof.Rows
open PySem.Builtin PySem.Builtin.Str
set_option maxRecDepth 100000
set_option Elab.async false
set_option linter.unusedVariables false
namespace Mine
/-- the text without the blanks at its ends -/
def trimL : List Nat → List Nat
  | 32 :: l => trimL l
  | l => l
def trimR (l : List Nat) : List Nat := (trimL l.reverse).reverse
theorem trimL_len : ∀ l, (trimL l).length ≤ l.length
  | [] => Nat.le_refl _
  | x :: l => by
    unfold trimL
    split
    · have := trimL_len l; simp_all; omega
    · exact Nat.le_refl _
theorem trimR_len (l : List Nat) : (trimR l).length ≤ l.length := by
  unfold trimR; have := trimL_len l.reverse; simp at *; omega
theorem trimL_drop (f : Nat → Bool) : ∀ l : List Nat, (∀ c ∈ l, f c = decide (c = 32)) → trimL l = l.drop (l.takeWhile f).length
  | [], _ => rfl
  | x :: l, h => by
    have hx := h x (.head _)
    unfold trimL
    split
    · rename_i a q
      injection q with q1 q2
      subst q1; subst q2
      rw [List.takeWhile_cons_of_pos (by rw [hx]; simp)]
      simp
      exact trimL_drop f _ fun c hc => h c (.tail _ hc)
    · rename_i hn
      have : x ≠ 32 := fun q => hn l (by rw [q])
      rw [List.takeWhile_cons_of_neg (by rw [hx]; simp [this])]
      rfl
theorem trimL_mem {l : List Nat} {c : Nat} (h : c ∈ trimL l) : c ∈ l := by
  have e := trimL_drop (fun x => decide (x = 32)) l (fun _ _ => rfl)
  rw [e] at h
  exact List.mem_of_mem_drop h
theorem strip_S (l : List Nat) (h : ∀ c ∈ l, Unicode.isSpace c = decide (c = 32)) : Txt.strip (S l) = S (trimR (trimL l)) := by
  have e1 := trimL_drop Unicode.isSpace l h
  have e2 := trimL_drop Unicode.isSpace (trimL l).reverse (fun c hc => h c (trimL_mem (List.mem_reverse.mp hc)))
  have lo : stripLo Unicode.isSpace true (S l) = (l.takeWhile Unicode.isSpace).length := rfl
  have hi : stripHi Unicode.isSpace true (S l) (l.takeWhile Unicode.isSpace).length = l.length - ((trimL l).reverse.takeWhile Unicode.isSpace).length := by
    unfold stripHi
    rw [if_pos rfl, S_len, e1]
  have key : PySem.stripped Unicode.isSpace true true (S l) = S (trimR (trimL l)) := by
    unfold PySem.stripped
    rw [lo, hi, strSub_S, ← e1]
    apply S_inj.mpr
    unfold trimR
    rw [e2]
    have h1 : (trimL l).length = l.length - (l.takeWhile Unicode.isSpace).length := by rw [e1, List.length_drop]
    generalize hk : ((trimL l).reverse.takeWhile Unicode.isSpace).length = k
    rw [List.drop_reverse, List.reverse_reverse]
    congr 1
    omega
  unfold Txt.strip Txt.stripBy
  split
  · rename_i hs
    rw [← key]
    unfold stripSame at hs
    rw [Bool.and_eq_true, beq_iff_eq, beq_iff_eq] at hs
    unfold PySem.stripped
    obtain ⟨h1, h2⟩ := hs
    rw [h1] at h2
    rw [h1, h2, strSub_S, S_len]
    simp
  · exact key
end Mine
end
section
open PySem PySem.W PySem.Spec PySem.Calls PyProof.Rows
set_option maxRecDepth 100000
set_option Elab.async false
set_option linter.unusedVariables false
namespace Mine
section
variable {w : World} {c : Cx} {m : Mem} {e : PySem.Expr} {d : D} {A : Around}
theorem Cm.in_ {x : Nat} {l : List Nat} : Cm w A .In (.str (S [x])) (.str (S l)) (decide (x ∈ l)) := by rw [← contains_one]; exact Cm.inS
theorem mul10 (v : Int) : IntMulOk v 10 := by
  unfold IntMulOk
  have : ¬ (Builtin.Int.intBits 10 > shortFactorBits) := by decide
  simp [this]
end
end Mine
end
section
open PySem PySem.W PySem.Spec PySem.Calls PyProof.Rows
set_option maxRecDepth 100000
set_option Elab.async false
set_option linter.unusedVariables false
namespace Mine
section
variable {w : World} {A : Around} {E : Value → Shared → Prop} {s : Shared}
theorem draw_list {it t : Addr} {items : Array Value} (hne : t ≠ it) : ∀ (n i : Nat) (s : Shared) (Q : List Value → Shared → Prop), s.heap.IsListIter it t i → s.heap.IsList t items → i + n ≤ items.size →
    (∀ h', h'.IsListIter it t (i + n) → Heap.SameBut it s.heap h' → Q ((items.toList.drop i).take n) { s with heap := h' }) → wpAny (MM w) A (draw (.ref it) n) Q E s
  | 0, i, s, Q, hit, _, _, hQ => by
    show wpAny _ _ (pure []) Q E s
    exact wpAny_pure (by simpa using hQ s.heap hit (Heap.SameBut.refl ..))
  | n + 1, i, s, Q, hit, ht, hle, hQ => by
    have hlt : i < items.size := by omega
    show wpAny _ _ (pyNext (.ref it) >>= _) Q E s
    refine wpAny_bind (wpAny_pyNext_list_item hit ht (x := items[i]) (by simp [hlt]) fun h₁ hit₁ hs₁ => ?_)
    refine wpAny_bind (wpAny_holding (draw_list hne n (i + 1) _ _ hit₁ (ht.extBut hs₁.extBut hne) (by omega) fun h₂ hit₂ hs₂ => wpAny_pure ?_))
    have hd : items.toList.drop i = items[i] :: items.toList.drop (i + 1) := by simp [List.drop_eq_getElem_cons, hlt]
    have := hQ h₂ (by rw [show i + (n + 1) = i + 1 + n by omega]; exact hit₂) (hs₁.trans hs₂)
    rw [hd, List.take_succ_cons] at this
    exact this
theorem unpackItems_list {t : Addr} {items : Array Value} {Q : List Value → Shared → Prop} (hh : A.handled = none) (ht : s.heap.IsList t items)
    (hQ : ∀ h', Ext s.heap h' → Q items.toList { s with heap := h' }) : wpAny (MM w) A (unpackItems (.ref t) items.size none) Q E s := by
  have hlt : t ≠ s.heap.objs.size := by obtain ⟨o, ho, _⟩ := ht; exact Nat.ne_of_lt (Heap.lt_size ho)
  unfold unpackItems
  refine wpAny_bind ?_
  unfold notIterableAtAll
  refine wpAny_bind (wpAny_specialOf ht.typeIs slot_list_iter.lookup ?_)
  refine wpAny_pure ?_
  simp only [Bool.false_eq_true, if_false]
  refine wpAny_bind (wpAny_holding (wpAny_pyIter_list ht ?_))
  refine wpAny_bind (wpAny_holding (draw_list hlt items.size 0 _ _ ⟨_, Heap.get?_push_size _ rfl, rfl, rfl⟩ (isList_keeps ht ext_push) (by omega) fun h₁ hit₁ hs₁ => ?_))
  have hall : List.take items.size (List.drop 0 items.toList) = items.toList := by
    rw [List.drop_zero]; exact List.take_of_length_le (by simp)
  rw [hall]
  rw [if_neg (by simp)]
  have ht₁ : h₁.IsList t items := (isList_keeps ht ext_push).extBut hs₁.extBut hlt
  refine wpAny_bind (wpAny_holding (wpAny_pyNext_list_end hh hit₁ ht₁ (by simp) fun h₂ he₂ => ?_))
  simp only [Option.isSome_none, Bool.false_eq_true, if_false]
  refine wpAny_pure (hQ h₂ fun b o e => ?_)
  have hb : b ≠ s.heap.objs.size := Nat.ne_of_lt (Heap.lt_size e)
  exact he₂ b o hb (hs₁.extBut b o hb (Heap.get?_push_of_some _ e))
variable {c : Cx} {m : Mem} {e : PySem.Expr} {Q : FD → Mem → Prop} {rest : List Stmt}
theorem Sx.unpack3 {x y z a b d : Str} {p1 p2 p3 pt p : Pos} {k : Nat} (h : Ev w c m e (.txts [a, b, d])) (r : Sx w c ((z, .str d) :: (y, .str b) :: (x, .str a) :: m) rest Q)
    (hx : c.env.kindOf x = some .local) (hy : c.env.kindOf y = some .local) (hz : c.env.kindOf z = some .local)
    (h1 : swapsWithSole [.Tuple [.Name x p1, .Name y p2, .Name z p3] k pt] e p.line c.env = pure false := by rfl) (h2 : swappedStores [.Tuple [.Name x p1, .Name y p2, .Name z p3] k pt] e c.env = pure none := by rfl) :
    Sx w c m (.Assign [.Tuple [.Name x p1, .Name y p2, .Name z p3] k pt] e p :: rest) Q := fun base s ok f => by
  refine wpAny_execs_cons (Assign_Tuple (h.useF ok f fun v s₁ k₁ f₁ r₁ => ?_) h1 h2)
  obtain ⟨t, vs, rfl, hl, hs⟩ := r₁
  cases hs with | cons _ ta hs => cases hs with | cons _ tb hs => cases hs with | cons _ td hs => cases hs with | nil =>
  rw [assign_Tuple]
  refine wpAny_bind (wpAny_standAt ?_)
  show wpAny _ _ (do assignInOrder ([(false, PySem.assign (.Name x p1) c.env), (false, PySem.assign (.Name y p2) c.env), (false, PySem.assign (.Name z p3) c.env)].map (·.2)) (← holding [Value.ref t] (unpackItems (.ref t) 3 none))) _ _ _
  refine wpAny_bind (wpAny_holding (unpackItems_list (items := #[.str a ta, .str b tb, .str d td]) ok.rm.hd hl fun h' ext => ?_))
  have f₂ : Fx w base c.env m { s₁ with heap := h' } := f₁.keeps (keeps_heap ext) (Nat.le_refl _)
  have st₂ : Step c.env s { s₁ with heap := h' } := (Step.of k₁).trans (Step.of (keeps_heap (t := s₁.toks) ext))
  refine wpAny_bind (wpAny_holding (wpAny_assign_Name (f₂.set (d := .str a) ⟨ta, rfl⟩ hx ok.en.k fun s₃ f₃ k₃ => ?_)))
  refine wpAny_bind (wpAny_holding (wpAny_assign_Name (f₃.set (d := .str b) ⟨tb, rfl⟩ hy ok.en.k fun s₄ f₄ k₄ => ?_)))
  refine wpAny_bind (wpAny_holding (wpAny_assign_Name (f₄.set (d := .str d) ⟨td, rfl⟩ hz ok.en.k fun s₅ f₅ k₅ => ?_)))
  exact wpAny_pure (r.go ok f₅ (st₂.trans (k₃.trans (k₄.trans k₅))))
end
end Mine
end
section
open PySem PySem.W PySem.Spec PySem.Calls PyProof.Rows
set_option maxRecDepth 100000
set_option linter.unusedVariables false
namespace Mine
local macro_rules | `(tactic| walk_at "side") => `(tactic| first | assumption | (simp only [List.length_append, List.length_cons, List.length_nil, sizeLine_eq] at *; omega) | (simp [sizeLine_eq] at *; omega) | (simp [sizeLine_eq]; omega) | omega | decide)
local macro_rules | `(tactic| walk_at "lit") => `(tactic| with_reducible (first
  | exact Ev.cint | exact Ev.cbool | exact Ev.cnone
  | exact Ev.cS lit_sp | exact Ev.cS lit_nil | exact Ev.cS lit_us | exact Ev.cS lit_dot | exact Ev.cS lit_no | exact Ev.cS lit_unk | exact Ev.cS lit_wn | exact Ev.cS lit_unknown | exact Ev.cS lit_pm | exact Ev.cS lit_way
  | exact Ev.cS lit_SunOS | exact Ev.cS lit_sunos | exact Ev.cS lit_win32 | exact Ev.cS lit_win16 | exact Ev.cS lit_Linux | exact Ev.cS lit_Generic | exact Ev.cS lit_rc2 | exact Ev.cS lit_figs | exact Ev.cS lit_Windows | exact Ev.cS lit_Solaris
  | exact Ev.cS lit_hy | exact Ev.cS lit_5 | exact Ev.cS lit_6 | exact Ev.cS lit_sl | exact Ev.cS lit_bs | exact Ev.cS lit_co | exact Ev.cS lit_sc | exact Ev.cS lit_qu | exact Ev.cS lit_lp | exact Ev.cS lit_rp | exact Ev.cS lit_hh))
local macro_rules | `(tactic| walk_at "bin") => `(tactic| (intro _; first
  | with_reducible exact Bin.addI | with_reducible exact Bin.subI
  | ((with_reducible refine' Bin.mulI ?h1); (case h1 => exact mul10 _))
  | ((with_reducible refine' Bin.modI ?h1); (case h1 => decide)) | ((with_reducible refine' Bin.divI ?h1 ?h2); (case h1 => decide); (case h2 => rfl))
  | ((with_reducible refine' Bin.catS ?h1); (case h1 => walk_at "side"))
  | ((with_reducible refine' Bin.addN ?h1); (case h1 => walk_at "side")) | ((with_reducible refine' Bin.addT ?h1); (case h1 => walk_at "side"))))
local macro_rules | `(tactic| walk_at "cm") => `(tactic| with_reducible (first | exact Cm.ltI | exact Cm.leI | exact Cm.gtI | exact Cm.geI | exact Cm.eqI | exact Cm.neI | exact Cm.eq_ | exact Cm.ne_ | exact Cm.lt_ | exact Cm.in_ | exact Cm.inT | exact Cm.isnotN | exact Cm.isnotS))
local macro_rules | `(tactic| walk_at "evo") => `(tactic| first | exact trivial | (show Ev _ _ _ _ (D.int _); walk_at "ev"))
local macro_rules | `(tactic| walk_at "evs") => `(tactic| first | (with_reducible exact Evs.nil) | ((with_reducible refine' Evs.cons ?h1 ?h2 ?h3); (case h1 => walk_at "ev"); (case h2 => walk_at "evs"); (case h3 => exact rfl)))
local macro_rules | `(tactic| walk_at "ev") => `(tactic| first
  | walk_at "lit"
  | ((with_reducible refine' Ev.name ?h1 ?h2 ?h3); (case h1 => exact rfl); (case h2 => exact rfl); (case h3 => decide))
  | ((with_reducible refine' Ev.bin ?h1 ?h2 ?h3); (case h1 => walk_at "ev"); (case h2 => walk_at "ev"); (case h3 => walk_at "bin"))
  | ((with_reducible refine' Ev.neg ?h1); (case h1 => walk_at "ev"))
  | walk_at "evmore")
local macro_rules | `(tactic| walk_at "tv") => `(tactic| first
  | ((with_reducible refine' Tv.cmp ?h1 ?h2 ?h3 ?h4); (case h1 => walk_at "ev"); (case h2 => walk_at "ev"); (case h3 => walk_at "cm"); (case h4 => with_unfolding_all rfl))
  | ((with_reducible refine' Tv.chain ?h1 ?h2 ?h3 ?h4 ?h5 ?h6); (case h1 => walk_at "ev"); (case h2 => walk_at "ev"); (case h3 => walk_at "cm"); (case h4 => walk_at "ev"); (case h5 => walk_at "cm"); (case h6 => with_unfolding_all rfl)))
local macro_rules | `(tactic| walk_at "evmore") => `(tactic| first
  | ((with_reducible refine' Ev.ord ?h1 ?h2 ?h3); (case h1 => walk_at "ev"); (case h2 => exact rfl); (case h3 => exact rfl))
  | ((with_reducible refine' Ev.len ?h1 ?h2 ?h3 ?h4); (case h1 => walk_at "ev"); (case h2 => walk_at "side"); (case h3 => exact rfl); (case h4 => exact rfl)))
local macro_rules | `(tactic| walk_at "def") => `(tactic| ((case ho => exact rfl); (case hcd => exact rfl); (case hloc => decide); (case c1 => exact rfl); (case c2 => exact rfl); (case c3 => exact rfl); (case c4 => decide)))
local macro_rules | `(tactic| walk_at "tv") => `(tactic| ((with_reducible refine' Tv.op ?h1); (case h1 => walk_at "tvs")))
local macro_rules | `(tactic| walk_at "tvs") => `(tactic| first
  | ((with_reducible refine' Tvs.and ?h1 fun _ => ?h2); (case h1 => walk_at "tv"); (case h2 => (first | walk_at "tvs" | ((with_reducible refine' Tvs.one ?h1); (case h1 => walk_at "tv")))))
  | ((with_reducible refine' Tvs.or ?h1 fun _ => ?h2); (case h1 => walk_at "tv"); (case h2 => (first | walk_at "tvs" | ((with_reducible refine' Tvs.one ?h1); (case h1 => walk_at "tv"))))))
local macro_rules | `(tactic| walk_at "itemT") => `(tactic| ((with_reducible refine' Ev.itemT ?h1 ?h2 ?h3 ?h4 ?h5 ?h6); (case h1 => walk_at "ev"); (case h2 => walk_at "ev"); (case h3 => decide); (case h4 => exact rfl); (case h5 => decide); (case h6 => intro _ _; with_unfolding_all rfl)))
local macro_rules | `(tactic| walk_at "callK") => `(tactic| ((with_reducible refine' Ev.callK ?h1 ?h2 ?h3 ?h4 ?hc ?h6 ?h7 ?h8); (case h1 => exact rfl); (case h2 => exact rfl); (case h3 => exact rfl); (case h4 => walk_at "evs"); (case h6 => decide); (case h7 => exact rfl); (case h8 => intro _; exact rfl)))
local macro_rules | `(tactic| walk_at "at") => `(tactic| ((with_reducible refine' Ev.at_ ?h1 ?h2 ?h3 ?h4 ?h5 ?h6 ?h7); (case h1 => walk_at "ev"); (case h2 => walk_at "ev"); (case h3 => omega); (case h4 => assumption); (case h5 => assumption); (case h6 => intro _ _; with_unfolding_all rfl); (case h7 => intro _ _; with_unfolding_all rfl)))
local macro_rules | `(tactic| walk_at "cutto") => `(tactic| ((with_reducible refine' Ev.cutS (a := none) (b := some _) ?h1 ?h2 ?h3 ?h4 ?h5 ?h6); (case h1 => walk_at "ev"); (case h2 => trivial); (case h3 => walk_at "evo"); (case h4 => assumption); (case h5 => assumption); (case h6 => intro _ _; with_unfolding_all rfl)))
local macro_rules | `(tactic| walk_at "cutfrom") => `(tactic| ((with_reducible refine' Ev.cutS (a := some _) (b := none) ?h1 ?h2 ?h3 ?h4 ?h5 ?h6); (case h1 => walk_at "ev"); (case h2 => walk_at "evo"); (case h3 => trivial); (case h4 => assumption); (case h5 => assumption); (case h6 => intro _ _; with_unfolding_all rfl)))
local macro_rules | `(tactic| walk_at "evmore") => `(tactic| first | walk_at "cutto" | walk_at "cutfrom" | walk_at "at")
local macro_rules | `(tactic| walk_at "itemN") => `(tactic| ((with_reducible refine' Ev.itemN ?h1 ?h2 ?h3 ?h4 ?h5 ?h6); (case h1 => walk_at "ev"); (case h2 => walk_at "ev"); (case h3 => decide); (case h4 => exact rfl); (case h5 => decide); (case h6 => intro _ _; with_unfolding_all rfl)))
section
set_option maxRecDepth 100000
set_option Elab.async false
set_option linter.unusedVariables false
theorem cl_trimmed {w : World} {A : Around} {n : Nat} (rm : Rm A (n + 1)) {l : List Nat} (hl : l.length ≤ 100000) : Cl w A (.ref 128) [.str (S l)] (.str (S (trimR (trimL l)))) := by
  refine' Cl.def_ (n := n) ["text"] ?ho ?hcd rm ?hb ?hloc ?h ?c1 ?c2 ?c3 ?c4
  case ho => exact rfl
  case hcd => exact rfl
  case hb => intro vs h; match vs, h with | [a], _ => exact rfl
  case hloc => decide
  case c1 => exact rfl
  case c2 => exact rfl
  case c3 => exact rfl
  case c4 => decide
  case h =>
    intro L
    show Sx w _ [("text", D.str (S l))] _ _
    have hz : l.length ≤ sizeLine := by rw [sizeLine_eq]; omega
    refine Sx.while_ (fun k a => ∃ r, a = ([("text", D.str (S r))] : Mem) ∧ trimL r = trimL l ∧ r.length = k ∧ k ≤ l.length) l.length ⟨l, rfl, rfl, rfl, Nat.le_refl _⟩ ?_
    rintro k a ⟨r, rfl, hr, rfl, hk⟩
    have hz1 : r.length ≤ sizeLine := by omega
    refine ⟨decide (r.take 1 = [32]), ?_, fun hb => ?_, fun hb => ?_⟩
    · refine Tv.cmp (Ev.cutS ?_ (a := none) (b := some 1) trivial ?_ hz1 (cut_to r 1)) ?_ Cm.eq_
      · walk_at "ev"
      · walk_at "evo"
      · walk_at "ev"
    · refine Sx.assign (Ev.cutS ?_ (a := some 1) (b := none) ?_ trivial hz1 (cut_from r 1)) (Sx.nil ?_) rfl
      · walk_at "ev"
      · walk_at "evo"
      · have hb := of_decide_eq_true hb
        match r, hb with
        | 32 :: r', _ => exact ⟨[("text", D.str (S r'))], ⟨rfl, trivial⟩, r'.length, by simp, r', rfl, by rw [← hr]; rfl, rfl, by simp at hk; omega⟩
    · have hb := of_decide_eq_false hb
      have e : trimL l = r := by
        rw [← hr]
        match r, hb with
        | [], _ => rfl
        | x :: r', q => unfold trimL; split <;> simp_all
      rw [e]
      refine Sx.while_ (fun k a => ∃ q, a = ([("text", D.str (S q))] : Mem) ∧ trimR q = trimR r ∧ q.length = k ∧ k ≤ r.length) r.length ⟨r, rfl, rfl, rfl, Nat.le_refl _⟩ ?_
      rintro k a ⟨q, rfl, hq, rfl, hk2⟩
      have hz2 : q.length ≤ sizeLine := by omega
      refine ⟨decide (q.drop (q.length - 1) = [32]), ?_, fun hb => ?_, fun hb => ?_⟩
      · refine Tv.cmp (Ev.cutS ?_ (a := some (-1)) (b := none) ?_ trivial hz2 (cut_last q)) ?_ Cm.eq_
        · walk_at "ev"
        · walk_at "evo"
        · walk_at "ev"
      · refine Sx.assign (Ev.cutS ?_ (a := none) (b := some (-1)) trivial ?_ hz2 (cut_init q)) (Sx.nil ?_) rfl
        · walk_at "ev"
        · walk_at "evo"
        · have hb := of_decide_eq_true hb
          rcases List.eq_nil_or_concat q with rfl | ⟨q', x, rfl⟩
          · simp at hb
          · rw [List.concat_eq_append] at *
            simp at hb
            subst hb
            refine ⟨[("text", D.str (S q'))], ⟨by simp, trivial⟩, q'.length, by simp, q', rfl, ?_, rfl, by simp at hk2; omega⟩
            rw [← hq]; unfold trimR; simp [trimL]
      · have hb := of_decide_eq_false hb
        have e2 : trimR r = q := by
          rw [← hq]
          rcases List.eq_nil_or_concat q with rfl | ⟨q', x, rfl⟩
          · rfl
          · rw [List.concat_eq_append] at *
            simp at hb
            unfold trimR
            rw [List.reverse_append]
            show (trimL (x :: q'.reverse)).reverse = _
            unfold trimL
            split
            · simp_all
            · simp
        rw [e2]
        exact Sx.ret (by walk_at "ev") rfl
end
section
set_option maxRecDepth 100000
set_option Elab.async false
set_option linter.unusedVariables false
/-- what a sign spells in small letters -/
def readC (x : Nat) : List Nat := if x = 8470 then [110, 111] else if 65 ≤ x ∧ x ≤ 90 then [x + 32] else if 119808 ≤ x ∧ x ≤ 120483 then [97 + (x - 119808) % 52] else [x]
def readL (l : List Nat) : List Nat := l.flatMap readC
theorem readC_len (x : Nat) : (readC x).length ≤ 2 := by unfold readC; (repeat' split) <;> simp
theorem readL_len : ∀ l, (readL l).length ≤ 2 * l.length
  | [] => Nat.le_refl _
  | x :: l => by
    have := readL_len l
    have := readC_len x
    simp [readL] at *
    omega
theorem readL_snoc (l : List Nat) (x : Nat) : readL (l ++ [x]) = readL l ++ readC x := by simp [readL]
theorem cl_read {w : World} {A : Around} {n : Nat} (rm : Rm A (n + 1)) {l : List Nat} (hl : l.length ≤ 100000) : Cl w A (.ref 102) [.str (S l)] (.str (S (readL l))) := by
  refine' Cl.def_ (n := n) ["text"] ?ho ?hcd rm ?hb ?hloc ?h ?c1 ?c2 ?c3 ?c4
  walk_at "def"
  case hb => intro vs h; match vs, h with | [a], _ => exact rfl
  case h =>
    intro L
    show Sx w _ [("text", D.str (S l))] _ _
    refine Sx.assign (by walk_at "ev") ?_ rfl
    refine Sx.for' (fun i a => i ≤ l.length ∧ a = ([("told", D.str (S (readL (l.take i)))), ("text", D.str (S l))] : Mem)) (by walk_at "ev") (items_S l) ⟨Nat.zero_le _, rfl⟩ ⟨rfl, rfl, trivial⟩ ?_ ?_ rfl
    · rintro i e a hi ⟨hle, rfl⟩
      obtain ⟨x, hx, rfl⟩ := get_items hi
      have hlt : i < l.length := (List.getElem?_eq_some_iff.mp hx).1
      have hr := readL_len (l.take i)
      have h2 : (l.take i).length ≤ l.length := List.length_take_le' ..
      generalize hT : readL (l.take i) = T at hr
      have hTl : T.length ≤ 200000 := by omega
      have fin : ∀ (y : List Nat), readC x = y → readL (l.take (i + 1)) = T ++ y := fun y hy => by rw [take_more hx, readL_snoc, hT, hy]
      refine Sx.assign (by walk_at "ev") ?_ rfl
      refine Sx.if_ (by walk_at "tv") (fun h => ?_) fun h => ?_
      · refine Sx.assign (by walk_at "ev") (Sx.nil (Sx.nil (Turn.nx ⟨hlt, rfl⟩ ⟨?_, rfl, trivial⟩))) rfl
        rw [fin [110, 111] (by simp at h; unfold readC; rw [if_pos (by omega)])]
        rfl
      have h0 : x ≠ 8470 := by simp at h; omega
      refine Sx.if_ (by walk_at "tv") (fun h => ?_) fun h => ?_
      · have hx2 : 65 ≤ x ∧ x ≤ 90 := by simp at h; omega
        refine Sx.assign (Ev.bin (by walk_at "ev") (Ev.chr (l := x + 32) (by walk_at "ev") (by omega) (by omega) rfl rfl) (by walk_at "bin")) (Sx.nil (Sx.nil (Sx.nil (Turn.nx ⟨hlt, rfl⟩ ⟨?_, rfl, trivial⟩)))) rfl
        rw [fin [x + 32] (by unfold readC; rw [if_neg h0, if_pos hx2])]
        rfl
      have h1 : ¬ (65 ≤ x ∧ x ≤ 90) := by simp at h; omega
      refine Sx.if_ (by walk_at "tv") (fun h => ?_) fun h => ?_
      · have hx2 : 119808 ≤ x ∧ x ≤ 120483 := by simp at h; omega
        have em : Int.fmod ((x : Int) - 119808) 52 = (((x - 119808) % 52 : Nat) : Int) := by rw [Int.fmod_eq_emod_of_nonneg _ (by omega)]; omega
        refine Sx.assign (Ev.bin (by walk_at "ev") (Ev.chr (l := 97 + (x - 119808) % 52) (by walk_at "ev") (by rw [em]; omega) (by omega) rfl rfl) (by walk_at "bin")) (Sx.nil (Sx.nil (Sx.nil (Sx.nil (Turn.nx ⟨hlt, rfl⟩ ⟨?_, rfl, trivial⟩))))) rfl
        rw [fin [97 + (x - 119808) % 52] (by unfold readC; rw [if_neg h0, if_neg h1, if_pos hx2])]
        rfl
      · have hx2 : ¬ (119808 ≤ x ∧ x ≤ 120483) := by simp at h; omega
        refine Sx.assign (by walk_at "ev") (Sx.nil (Sx.nil (Sx.nil (Sx.nil (Turn.nx ⟨hlt, rfl⟩ ⟨?_, rfl, trivial⟩))))) rfl
        rw [fin [x] (by unfold readC; rw [if_neg h0, if_neg h1, if_neg hx2])]
        rfl
    · rintro a ⟨_, rfl⟩
      exact Sx.ret (by walk_at "ev") (by simp)
end
section
set_option maxRecDepth 100000
set_option Elab.async false
set_option linter.unusedVariables false
def starts : List Int := [65, 119808, 119860, 119912, 120016, 120172, 120224, 120276, 120328, 120380, 120432, 97]
def st (f : Nat) : Nat := (starts.getD (f - 1) 0).toNat
theorem st_at (f : Nat) (h0 : 0 < f) (h1 : f ≤ 12) : starts[((f : Int) - 1).toNat]? = some (st f : Int) ∧ st f ≤ 120432 ∧ 65 ≤ st f := by
  have : ∀ k < 12, starts[k]? = some (st (k + 1) : Int) ∧ st (k + 1) ≤ 120432 ∧ 65 ≤ st (k + 1) := by decide
  have e : ((f : Int) - 1).toNat = f - 1 := by omega
  rw [e]
  have := this (f - 1) (by omega)
  rw [Nat.sub_add_cancel h0] at this
  exact this
/-- a sign in one of the forms -/
def speltC (f x : Nat) : Nat := if 0 < f ∧ 65 ≤ x ∧ x ≤ 90 then st f + x - 65 else if 0 < f ∧ 97 ≤ x ∧ x ≤ 122 then st f + x - 97 else x
theorem cl_spelt {w : World} {A : Around} {n : Nat} (rm : Rm A (n + 1)) {l : List Nat} {f : Nat} (hl : l.length ≤ 1000) (hf : f ≤ 12) : Cl w A (.ref 88) [.str (S l), .int f] (.str (S (l.map (speltC f)))) := by
  refine' Cl.def_ (n := n) ["word", "form"] ?ho ?hcd rm ?hb ?hloc ?h ?c1 ?c2 ?c3 ?c4
  walk_at "def"
  case hb => intro vs h; match vs, h with | [a, b], _ => exact rfl
  case h =>
    intro L
    show Sx w _ [("form", D.int f), ("word", D.str (S l))] _ _
    refine Sx.assign (d := D.nums starts) ?h1 ?h2 ?h3 ?h4
    case h3 => exact rfl
    case h4 => exact rfl
    · have hz : starts.length ≤ sizeLine := by rw [sizeLine_eq]; decide
      (with_reducible refine' Ev.listN ?_ hz)
      unfold starts
      simp only [List.map_cons, List.map_nil]
      walk_at "evs"
    refine Sx.assign (by walk_at "ev") ?_ rfl
    refine Sx.for' (fun i a => i ≤ l.length ∧ a = ([("told", D.str (S ((l.take i).map (speltC f)))), ("starts", D.nums starts), ("form", D.int f), ("word", D.str (S l))] : Mem)) (by walk_at "ev") (items_S l) ⟨Nat.zero_le _, rfl⟩ ⟨rfl, rfl, rfl, rfl, trivial⟩ ?_ ?_ rfl
    · rintro i e a hi ⟨hle, rfl⟩
      obtain ⟨x, hx, rfl⟩ := get_items hi
      have hlt : i < l.length := (List.getElem?_eq_some_iff.mp hx).1
      have h2 : ((l.take i).map (speltC f)).length ≤ 1000 := by rw [List.length_map]; have : (l.take i).length ≤ l.length := List.length_take_le' ..; omega
      generalize hT : (l.take i).map (speltC f) = T at h2
      have fin : ∀ (y : Nat), speltC f x = y → (l.take (i + 1)).map (speltC f) = T ++ [y] := fun y hy => by rw [take_more hx, List.map_append, hT, ← hy]; rfl
      refine Sx.assign (by walk_at "ev") ?_ rfl
      refine Sx.if_ (by walk_at "tv") (fun h => ?_) fun h => ?_
      · have h' : 0 < f ∧ 65 ≤ x ∧ x ≤ 90 := by simp at h; omega
        obtain ⟨s1, s2, s3⟩ := st_at f h'.1 hf
        refine Sx.assign (Ev.bin (by walk_at "ev") (Ev.chr (l := st f + x - 65) (Ev.bin (Ev.bin (Ev.itemN (by walk_at "ev") (by walk_at "ev") (by omega) s1 (by omega)) (by walk_at "ev") (by walk_at "bin")) (by walk_at "ev") (by walk_at "bin")) (by omega) (by omega) rfl rfl) (by walk_at "bin")) (Sx.nil (Sx.nil (Turn.nx ⟨hlt, rfl⟩ ⟨?_, rfl, rfl, rfl, trivial⟩))) rfl
        rw [fin (st f + x - 65) (by unfold speltC; rw [if_pos h'])]
        rfl
      have h0 : ¬ (0 < f ∧ 65 ≤ x ∧ x ≤ 90) := by simp at h; omega
      refine Sx.if_ (by walk_at "tv") (fun h => ?_) fun h => ?_
      · have h' : 0 < f ∧ 97 ≤ x ∧ x ≤ 122 := by simp at h; omega
        obtain ⟨s1, s2, s3⟩ := st_at f h'.1 hf
        refine Sx.assign (Ev.bin (by walk_at "ev") (Ev.chr (l := st f + x - 97) (Ev.bin (Ev.bin (Ev.itemN (by walk_at "ev") (by walk_at "ev") (by omega) s1 (by omega)) (by walk_at "ev") (by walk_at "bin")) (by walk_at "ev") (by walk_at "bin")) (by omega) (by omega) rfl rfl) (by walk_at "bin")) (Sx.nil (Sx.nil (Sx.nil (Turn.nx ⟨hlt, rfl⟩ ⟨?_, rfl, rfl, rfl, trivial⟩)))) rfl
        rw [fin (st f + x - 97) (by unfold speltC; rw [if_neg h0, if_pos h'])]
        rfl
      · have h1 : ¬ (0 < f ∧ 97 ≤ x ∧ x ≤ 122) := by simp at h; omega
        refine Sx.assign (by walk_at "ev") (Sx.nil (Sx.nil (Sx.nil (Turn.nx ⟨hlt, rfl⟩ ⟨?_, rfl, rfl, rfl, trivial⟩)))) rfl
        rw [fin x (by unfold speltC; rw [if_neg h0, if_neg h1])]
        rfl
    · rintro a ⟨_, rfl⟩
      exact Sx.ret (by walk_at "ev") (by simp)
end
section
set_option maxRecDepth 100000
set_option Elab.async false
set_option linter.unusedVariables false
abbrev unkL : List Nat := [117, 110, 107, 110, 111, 119, 110]
abbrev SunL : List Nat := [83, 117, 110, 79, 83]
abbrev sunL : List Nat := [115, 117, 110, 111, 115]
/-- a text that is just unknown is empty -/
def blankL (l : List Nat) : List Nat := if l = unkL then [] else l
theorem cl_blank {w : World} {A : Around} {n : Nat} (rm : Rm A (n + 1)) {l : List Nat} : Cl w A (.ref 35) [.str (S l)] (.str (S (blankL l))) := by
  refine' Cl.def_ (n := n) ["val"] ?ho ?hcd rm ?hb ?hloc ?h ?c1 ?c2 ?c3 ?c4
  walk_at "def"
  case hb => intro vs h; match vs, h with | [a], _ => exact rfl
  case h =>
    intro L
    show Sx w _ [("val", D.str (S l))] _ _
    refine Sx.ret (Ev.ifexp (by walk_at "tv") (fun _ => by walk_at "ev") (fun _ => by walk_at "ev")) ?_
    unfold blankL
    by_cases h : l = unkL <;> simp [h]
theorem cl_named {w : World} {A : Around} {n : Nat} (rm : Rm A (n + 1)) {a b d : List Nat} : Cl w A (.ref 109) [.txts [S a, S b, S d]] (.txts [S (if a = sunL then SunL else a), S b, S d]) := by
  refine' Cl.def_ (n := n) ["texts"] ?ho ?hcd rm ?hb ?hloc ?h ?c1 ?c2 ?c3 ?c4
  walk_at "def"
  case hb => intro vs h; match vs, h with | [a], _ => exact rfl
  case h =>
    intro L
    show Sx w _ [("texts", D.txts [S a, S b, S d])] _ _
    have hz3 : [S a, S b, S d].length ≤ sizeLine := by rw [sizeLine_eq]; simp
    refine Sx.if_ (v := decide (a = sunL)) ?_ (fun h => ?_) fun h => ?_
    · (with_reducible refine' Tv.cmp ?h1 ?h2 ?h3 ?h4)
      (case h1 => walk_at "itemT")
      (case h2 => walk_at "ev")
      (case h3 => walk_at "cm")
      (case h4 => with_unfolding_all rfl)
    · have h' : a = sunL := of_decide_eq_true h
      refine Sx.ret (d := .txts [S SunL, S b, S d]) ?_ (by rw [if_pos h'])
      (with_reducible refine' Ev.bin (a := .txts [S SunL]) (b := .txts [S b, S d]) ?g1 ?g2 ?g3)
      case g1 =>
        (with_reducible refine' Ev.listT (l := [S SunL]) ?_ ?_)
        · show Evs _ _ _ _ [D.str (S SunL)]
          walk_at "evs"
        · rw [sizeLine_eq]; simp
      case g2 =>
        have e : cutL [S a, S b, S d] (some 1) none = [S b, S d] := rfl
        rw [← e]
        (with_reducible refine' Ev.sliceT ?i3 ?i4 ?i5 hz3 ?i6)
        case i3 => walk_at "ev"
        case i4 => walk_at "evo"
        case i5 => trivial
        case i6 => intro _ _; with_unfolding_all rfl
      case g3 =>
        intro _
        exact Bin.addT (x := [S SunL]) (y := [S b, S d]) (by rw [sizeLine_eq]; simp)
    · have h' : a ≠ sunL := of_decide_eq_false h
      exact Sx.nil (Sx.ret (by walk_at "ev") (by rw [if_neg h']))
end
section
set_option maxRecDepth 100000
set_option Elab.async false
set_option linter.unusedVariables false
abbrev b3ents : List DictEntry := entsFrom 218 (b3c ++ b3cs.flatten) ++ entsShort 2156 b3tl
theorem k36 (w : World) : (KF w).lookup 36 = some (dictO b3ents 650) := by kernel_rfl
/-- the written table, as pairs -/
def b3f (x : Nat) : Option Str := ((b3c ++ (b3cs.flatten ++ b3tl)).find? fun p => p.1 == x).map (·.2)
def Hit (x : Nat) (es : List DictEntry) (ds : List (Nat × Str)) : Prop := match ds.find? fun p => p.1 == x with
  | some p => ∃ u, (es.find? fun e => Value.isInt (x : Int) e.key).map (·.val) = some (.str p.2 u)
  | none => es.find? (fun e => Value.isInt (x : Int) e.key) = none
theorem isInt_nat (x y : Nat) (t : Tok) : Value.isInt (x : Int) (.int (y : Int) t) = (y == x) := by
  have e : Value.isInt (x : Int) (.int (y : Int) t) = ((y : Int) == (x : Int)) := rfl
  rw [e, Bool.eq_iff_iff, beq_iff_eq, beq_iff_eq]
  omega
theorem hit_from (x : Nat) : ∀ (ds : List (Nat × Str)) (t : Nat), Hit x (entsFrom t ds) ds
  | [], _ => rfl
  | (y, v) :: r, t => by
    have ih := hit_from x r (t + 3)
    have e : Value.isInt (x : Int) (ent y v t).key = (y == x) := isInt_nat x y t
    unfold Hit entsFrom
    rw [List.find?_cons, List.find?_cons, e]
    cases h : y == x with
    | true => exact ⟨t + 1, rfl⟩
    | false => exact ih
theorem hit_short (x : Nat) : ∀ (ds : List (Nat × Str)) (t : Nat), Hit x (entsShort t ds) ds
  | [], _ => rfl
  | (y, v) :: r, t => by
    have ih := hit_short x r (t + 2)
    have e : Value.isInt (x : Int) (ent y v t).key = (y == x) := isInt_nat x y t
    unfold Hit entsShort
    rw [List.find?_cons, List.find?_cons, e]
    cases h : y == x with
    | true => exact ⟨t + 1, rfl⟩
    | false => exact ih
theorem Hit.app {x : Nat} {a b : List DictEntry} {p q : List (Nat × Str)} (h : Hit x a p) (k : Hit x b q) : Hit x (a ++ b) (p ++ q) := by
  unfold Hit at *
  rw [List.find?_append, List.find?_append]
  cases e : p.find? (fun p => p.1 == x) with
  | some y =>
    rw [e] at h
    obtain ⟨u, h⟩ := h
    refine ⟨u, ?_⟩
    cases e2 : a.find? (fun e => Value.isInt (x : Int) e.key) with
    | none => rw [e2] at h; cases h
    | some z => rw [e2] at h; exact h
  | none =>
    rw [e] at h
    have h' : a.find? (fun e => Value.isInt (x : Int) e.key) = none := h
    rw [h']
    exact k
theorem hit_all (x : Nat) : Hit x b3ents ((b3c ++ b3cs.flatten) ++ b3tl) := (hit_from x _ _).app (hit_short x _ _)
theorem hash_small {y : Nat} (h : y < 2000000) : hashInt (y : Int) = y := hashInt_nat (by omega)
theorem b3_smallB : (((b3c ++ b3cs.flatten) ++ b3tl).all fun p => Nat.blt p.1 2000000) = true := by decide +kernel
theorem b3_small : ∀ p ∈ (b3c ++ b3cs.flatten) ++ b3tl, p.1 < 2000000 := fun p hp => Nat.le_of_ble_eq_true (List.all_eq_true.mp b3_smallB p hp)
theorem keys_from {w : World} : ∀ (ds : List (Nat × Str)) (t : Nat), (∀ p ∈ ds, p.1 < 2000000) → ∀ e ∈ entsFrom t ds, ∃ k, (intKind pW w).is k e.key = true ∧ e.hash = (intKind pW w).hash k
  | [], _, _, e, he => nomatch he
  | (y, v) :: r, t, hb, e, he => by
    rcases List.mem_cons.mp he with rfl | he
    · exact ⟨(y : Int), by show Value.isInt (y : Int) (.int (y : Int) t) = true; rw [isInt_nat]; simp, (hash_small (hb (y, v) (.head _))).symm⟩
    · exact keys_from r (t + 3) (fun p hp => hb p (.tail _ hp)) e he
theorem keys_short {w : World} : ∀ (ds : List (Nat × Str)) (t : Nat), (∀ p ∈ ds, p.1 < 2000000) → ∀ e ∈ entsShort t ds, ∃ k, (intKind pW w).is k e.key = true ∧ e.hash = (intKind pW w).hash k
  | [], _, _, e, he => nomatch he
  | (y, v) :: r, t, hb, e, he => by
    rcases List.mem_cons.mp he with rfl | he
    · exact ⟨(y : Int), by show Value.isInt (y : Int) (.int (y : Int) t) = true; rw [isInt_nat]; simp, (hash_small (hb (y, v) (.head _))).symm⟩
    · exact keys_short r (t + 2) (fun p hp => hb p (.tail _ hp)) e he
theorem map36 {w : World} {h : Heap} (X : (KF w).In h) : h.MapOf (intKind pW w) 36 (fun k => findBy (intKind pW w).is b3ents.toArray k) :=
  ⟨_, _, _, X _ _ (k36 w), ⟨rfl, rfl, rfl⟩, rfl, fun e he => by
    rcases List.mem_append.mp (by simpa using he) with he | he
    · exact keys_from _ _ (fun p hp => b3_small p (List.mem_append_left _ hp)) e he
    · exact keys_short _ _ (fun p hp => b3_small p (List.mem_append_right _ hp)) e he, fun _ => rfl⟩
def optD : Option Str → D
  | some x => .str x
  | none => .none
theorem get36 {w : World} {A : Around} {x : Nat} : Cl w A (.builtin "dict.get") [.tab, .int x] (optD (b3f x)) := fun s vs tk gl r => by
  obtain ⟨v, v', rfl, e1, t, rfl⟩ := reps2 r
  simp only [Rep] at e1
  subst e1
  have hm := map36 gl.k
  refine call_meetsIn PySem.F.slot_dict_get hm.typeIs PySem.F.entry_dict_get (PySem.F.args_dict_get_2 _ _) (meets_dict_get (intKind pW w) 36 (k := (x : Int)) (intKind_is pW w x t) (by decide)) ⟨_, hm, ?_⟩
  refine ⟨keeps_tok, ?_⟩
  have hh := hit_all x
  unfold Hit at hh
  unfold b3f
  rw [← List.append_assoc]
  have fe : findBy (intKind pW w).is b3ents.toArray (x : Int) = (b3ents.find? fun e => Value.isInt (x : Int) e.key).map (·.val) := by
    unfold findBy
    rw [List.find?_toArray]
    rfl
  rw [fe]
  cases e : ((b3c ++ b3cs.flatten) ++ b3tl).find? (fun p => p.1 == x) with
  | some p =>
    rw [e] at hh
    obtain ⟨u, hh⟩ := hh
    rw [hh]
    exact ⟨u, rfl⟩
  | none =>
    rw [e] at hh
    have hh' : b3ents.find? (fun e => Value.isInt (x : Int) e.key) = none := hh
    rw [hh']
    exact rfl
theorem Ev.table {w : World} {c : Cx} {m : Mem} {p : Pos} (hx : c.env.kindOf "b3_exceptions" = some .globalImplicit) : Ev w c m (.Name "b3_exceptions" p) .tab := fun s ok hs =>
  wp_gname ok hs (v := .ref 36) (by rfl) hx ⟨keeps_self, rfl⟩ (by decide)
theorem Ev.getTab {w : World} {c : Cx} {m : Mem} {o e : PySem.Expr} {apos pos : Pos} {pl : Sem Bool} {x : Nat} (hm : MethEq c.env o "get" apos pos [e] pl) (ho : Ev w c m o .tab) (he : Ev w c m e (.int x))
    (hst : starEach [e] c.env = [(false, eval e c.env)]) : Ev w c m (.Call (.Attribute o "get" apos) [e] [] pos) (optD (b3f x)) := fun s ok hs => by
  refine MethodCall_ (ho.use ok hs fun v s₁ k₁ hs₁ r₁ => ?_) hm
  simp only [Rep] at r₁
  subst r₁
  have hmp := map36 hs₁.gl.k
  refine getMethod_builtin hmp.typeIs PySem.F.plainAttrs_dict PySem.F.slot_dict_get PySem.F.type_dict_get hmp.noDict ?_
  refine callWith_method1 ((one he hst).use ok hs₁ fun vs s₂ k₂ hs₂ r₂ => ?_) hst rfl
  exact wpAny_mono (get36 s₂ _ hs₂.tk hs₂.gl ⟨rfl, r₂⟩) (fun v s₃ q => ⟨keeps_trans k₁ (keeps_trans k₂ q.1), q.2⟩) fun _ _ q => q
/-- what the folding makes of a sign -/
def foldS (x : Nat) : Str := match b3f x with
  | some y => y
  | none => Txt.lower (S [x])
theorem cl_fold {w : World} {A : Around} {n : Nat} (rm : Rm A (n + 1)) {x : Nat} : Cl w A (.ref 81) [.str (S [x])] (.str (foldS x)) := by
  refine' Cl.def_ (n := n) ["code"] ?ho ?hcd rm ?hb ?hloc ?h ?c1 ?c2 ?c3 ?c4
  walk_at "def"
  case hb => intro vs h; match vs, h with | [a], _ => exact rfl
  case h =>
    intro L
    show Sx w _ [("code", D.str (S [x]))] _ _
    refine Sx.assign (d := optD (b3f x)) ?_ ?_ rfl
    · (with_reducible refine' Ev.getTab ?h1 ?h2 ?h3 ?h4)
      case h1 => exact rfl
      case h2 => exact Ev.table rfl
      case h3 => walk_at "ev"
      case h4 => exact rfl
    · unfold foldS
      cases hf : b3f x with
      | some y =>
        show Sx w _ [("r", D.str y), ("code", D.str (S [x]))] _ _
        refine Sx.if_ (v := true) ?_ (fun _ => Sx.ret (by walk_at "ev") rfl) fun q => by cases q
        (with_reducible refine' Tv.cmp ?i1 ?i2 ?i3 ?i4)
        (case i1 => walk_at "ev")
        (case i2 => walk_at "ev")
        (case i3 => walk_at "cm")
        (case i4 => with_unfolding_all rfl)
      | none =>
        show Sx w _ [("r", D.none), ("code", D.str (S [x]))] _ _
        refine Sx.if_ (v := false) ?_ (fun q => by cases q) fun _ => Sx.nil (Sx.ret ?_ rfl)
        · (with_reducible refine' Tv.cmp ?i1 ?i2 ?i3 ?i4)
          (case i1 => walk_at "ev")
          (case i2 => walk_at "ev")
          (case i3 => walk_at "cm")
          (case i4 => with_unfolding_all rfl)
        · (with_reducible refine' Ev.meth0 ?i1 ?i2 ?i3 ?i4)
          (case i1 => exact rfl)
          (case i2 => walk_at "ev")
          (case i3 => exact Gm.lower)
          (case i4 => exact fun _ => Cl.lower (by rw [S_len]; simp))
end
section
set_option maxRecDepth 100000
set_option Elab.async false
set_option linter.unusedVariables false
/-- the number's value so far and the sign before: what the rest makes of them -/
def numGo : List Nat → Nat → Nat → Int
  | [], v, b => if b = 95 then -1 else v
  | x :: l, v, b => if 48 ≤ x ∧ x ≤ 57 then numGo l (v * 10 + (x - 48)) x else if x ≠ 95 ∨ b = 95 then -1 else numGo l v x
def numF (l : List Nat) : Int := numGo (trimR l) 0 95
theorem figs_mem (x : Nat) : (x ∈ ([48, 49, 50, 51, 52, 53, 54, 55, 56, 57] : List Nat)) ↔ (48 ≤ x ∧ x ≤ 57) := by
  simp; omega
theorem cl_number {w : World} {A : Around} {n : Nat} (rm : Rm A (n + 1)) {l : List Nat} (hl : l.length ≤ 100000) : Cl w A (.ref 116) [.str (S l)] (.int (numF l)) := by
  refine' Cl.def_ (n := n) ["field"] ?ho ?hcd rm ?hb ?hloc ?h ?c1 ?c2 ?c3 ?c4
  walk_at "def"
  case hb => intro vs h; match vs, h with | [a], _ => exact rfl
  case h =>
    intro L
    show Sx w _ [("field", D.str (S l))] _ _
    have hz : l.length ≤ sizeLine := by rw [sizeLine_eq]; omega
    refine Sx.while_ (fun k a => ∃ q, a = ([("field", D.str (S q))] : Mem) ∧ trimR q = trimR l ∧ q.length = k ∧ k ≤ l.length) l.length ⟨l, rfl, rfl, rfl, Nat.le_refl _⟩ ?_
    rintro k a ⟨q, rfl, hq, rfl, hk2⟩
    have hz2 : q.length ≤ sizeLine := by omega
    refine ⟨decide (q.drop (q.length - 1) = [32]), ?_, fun hb => ?_, fun hb => ?_⟩
    · refine Tv.cmp (Ev.cutS ?_ (a := some (-1)) (b := none) ?_ trivial hz2 (cut_last q)) ?_ Cm.eq_
      · walk_at "ev"
      · walk_at "evo"
      · walk_at "ev"
    · refine Sx.assign (Ev.cutS ?_ (a := none) (b := some (-1)) trivial ?_ hz2 (cut_init q)) (Sx.nil ?_) rfl
      · walk_at "ev"
      · walk_at "evo"
      · have hb := of_decide_eq_true hb
        rcases List.eq_nil_or_concat q with rfl | ⟨q', x, rfl⟩
        · simp at hb
        · rw [List.concat_eq_append] at *
          simp at hb
          subst hb
          refine ⟨[("field", D.str (S q'))], ⟨by simp, trivial⟩, q'.length, by simp, q', rfl, ?_, rfl, by simp at hk2; omega⟩
          rw [← hq]; unfold trimR; simp [trimL]
    · have hb := of_decide_eq_false hb
      have e2 : trimR l = q := by
        rw [← hq]
        rcases List.eq_nil_or_concat q with rfl | ⟨q', x, rfl⟩
        · rfl
        · rw [List.concat_eq_append] at *
          simp at hb
          unfold trimR
          rw [List.reverse_append]
          show (trimL (x :: q'.reverse)).reverse = _
          unfold trimL
          split
          · simp_all
          · simp
      unfold numF
      rw [e2]
      refine Sx.assign (by walk_at "ev") ?_ rfl
      refine Sx.assign (by walk_at "ev") ?_ rfl
      refine Sx.for' (fun i a => i ≤ q.length ∧ ∃ (v b : Nat), a = ([("before", D.str (S [b])), ("value", D.int v), ("field", D.str (S q))] : Mem) ∧ numGo (q.drop i) v b = numGo q 0 95) (by walk_at "ev") (items_S q) ⟨Nat.zero_le _, 0, 95, rfl, rfl⟩ ⟨rfl, rfl, rfl, trivial⟩ ?_ ?_ rfl
      · rintro i e a hi ⟨hle, v, b, rfl, hv⟩
        obtain ⟨x, hx, rfl⟩ := get_items hi
        obtain ⟨hlt, hx'⟩ := List.getElem?_eq_some_iff.mp hx
        rw [List.drop_eq_getElem_cons hlt, hx'] at hv
        refine Sx.if_ (by walk_at "tv") (fun h => ?_) fun h => ?_
        · have h' := (figs_mem x).mp (of_decide_eq_true h)
          refine Sx.assign (by walk_at "ev") (Sx.nil (Sx.assign (by walk_at "ev") (Sx.nil (Turn.nx ⟨hlt, v * 10 + (x - 48), x, rfl, ?_⟩ ⟨rfl, ?_, rfl, trivial⟩)) rfl)) rfl
          · rw [← hv]; exact (if_pos h').symm
          · show some (D.int _) = some (D.int _)
            congr 2
            omega
        · have h' : ¬ (48 ≤ x ∧ x ≤ 57) := fun q => of_decide_eq_false h ((figs_mem x).mpr q)
          refine Sx.if_ (by walk_at "tv") (fun h => ?_) fun h => ?_
          · have h2 : x ≠ 95 ∨ b = 95 := by simpa using h
            refine Sx.ret (by walk_at "ev") ?_
            show FD.ret _ = FD.ret _
            rw [← hv]; show _ = FD.ret (.int (numGo (x :: _) v b)); unfold numGo; rw [if_neg h', if_pos h2]
          · have h2 : ¬ (x ≠ 95 ∨ b = 95) := by simpa using h
            refine Sx.nil (Sx.nil (Sx.assign (by walk_at "ev") (Sx.nil (Turn.nx ⟨hlt, v, x, rfl, ?_⟩ ⟨rfl, rfl, rfl, trivial⟩)) rfl))
            rw [← hv]; show _ = numGo (x :: _) v b; rw [numGo, if_neg h', if_neg h2]
      · rintro a ⟨_, v, b, rfl, hv⟩
        rw [List.length_map, List.drop_length] at hv
        refine Sx.if_ (by walk_at "tv") (fun h => ?_) fun h => ?_
        · have h' : b = 95 := by simpa using h
          refine Sx.ret (by walk_at "ev") ?_
          rw [← hv]; unfold numGo; rw [if_pos h']
        · have h' : b ≠ 95 := by simpa using h
          refine Sx.nil (Sx.ret (by walk_at "ev") ?_)
          rw [← hv]; unfold numGo; rw [if_neg h']
end
section
set_option maxRecDepth 100000
set_option Elab.async false
set_option linter.unusedVariables false
abbrev winL : List Nat := [119, 105, 110, 51, 50]
abbrev win6L : List Nat := [119, 105, 110, 49, 54]
abbrev WinL : List Nat := [87, 105, 110, 100, 111, 119, 115]
abbrev SolL : List Nat := [83, 111, 108, 97, 114, 105, 115]
theorem numGo_lt : ∀ (l : List Nat) (v b : Nat), numGo l v b < ((v + 1) * 10 ^ l.length : Nat)
  | [], v, b => by unfold numGo; split <;> simp <;> omega
  | x :: l, v, b => by
    unfold numGo
    have e : (v + 1) * 10 ^ (x :: l).length = (v * 10 + 10) * 10 ^ l.length := by rw [List.length_cons, Nat.pow_succ]; rw [show v * 10 + 10 = (v + 1) * 10 by omega, Nat.mul_assoc, Nat.mul_comm 10]
    rw [e]
    have p : 0 < 10 ^ l.length := Nat.pow_pos (by omega)
    split
    · rename_i h
      have ih := numGo_lt l (v * 10 + (x - 48)) x
      have : (v * 10 + (x - 48) + 1) * 10 ^ l.length ≤ (v * 10 + 10) * 10 ^ l.length := Nat.mul_le_mul_right _ (by omega)
      omega
    · split
      · have : 0 < (v * 10 + 10) * 10 ^ l.length := Nat.mul_pos (by omega) p
        omega
      · have ih := numGo_lt l v x
        have : (v + 1) * 10 ^ l.length ≤ (v * 10 + 10) * 10 ^ l.length := Nat.mul_le_mul_right _ (by omega)
        omega
theorem num_small {l : List Nat} (hl : l.length ≤ 400) (h : 0 ≤ numF l) : (numF l - 3).natAbs.log2 < 1920 := by
  have h1 := numGo_lt (trimR l) 0 95
  have h2 := trimR_len l
  have h3 : 10 ^ (trimR l).length ≤ 10 ^ 400 := Nat.pow_le_pow_right (by omega) (by omega)
  have h4 : (numF l - 3).natAbs < 10 ^ 400 := by unfold numF at *; rw [Nat.zero_add, Nat.one_mul] at h1; have : 3 < 10 ^ 400 := by decide
                                                 omega
  by_cases h0 : (numF l - 3).natAbs = 0
  · rw [h0]; decide
  · rw [Nat.log2_lt h0]
    exact Nat.lt_of_lt_of_le h4 (by decide)
/-- the release without what lies ahead of its first dot -/
def tl46 : List Nat → List Nat
  | [] => []
  | x :: l => if x = 46 then x :: l else tl46 l
def hd46 : List Nat → List Nat
  | [] => []
  | x :: l => if x = 46 then [] else x :: hd46 l
theorem head_tail : ∀ l, hd46 l ++ tl46 l = l
  | [] => rfl
  | x :: l => by unfold hd46 tl46; split <;> simp [head_tail l]
theorem hd46_len (l : List Nat) : (hd46 l).length ≤ l.length := by have := congrArg List.length (head_tail l); simp at this; omega
theorem head_step : ∀ (l : List Nat) (k : Nat), k ≤ (hd46 l).length → (l[k]? = some 46 ∨ l[k]? = none ↔ k = (hd46 l).length)
  | [], k, h => by simp [hd46] at *; omega
  | x :: l, k, h => by
    unfold hd46 at *
    by_cases hx : x = 46
    · rw [if_pos hx] at *
      simp at h; subst h; simp [hx]
    · rw [if_neg hx] at *
      cases k with
      | zero => simp [hx]
      | succ k =>
        simp at h
        have := head_step l k h
        simp only [List.getElem?_cons_succ, List.length_cons]
        rw [this]
        omega
def newRel (r : List Nat) : List Nat := if 0 ≤ numF (hd46 r) then digs (numF (hd46 r) - 3) ++ tl46 r else r
/-- what the law's own rule makes of the three texts -/
def aliasL (a b d : List Nat) : List (List Nat) :=
  if blankL a = winL ∨ blankL a = win6L then [WinL, blankL b, blankL d]
  else if blankL a = SunL ∧ 53 ≤ (blankL b).headD 0 then [SolL, newRel (blankL b), blankL d]
  else [blankL a, blankL b, blankL d]
theorem digs_len {i : Int} (h : i.natAbs.log2 < 1920) : (digs i).length ≤ 1921 := int_text_len_1921 h
theorem blank_len (l : List Nat) : (blankL l).length ≤ l.length := by unfold blankL; split <;> simp
theorem cl_alias {w : World} {A : Around} {n : Nat} (rm : Rm A (n + 2)) {a b d : List Nat} (hb : b.length ≤ 300) : Cl w A (.ref 121) [.txts [S a, S b, S d]] (.tup ((aliasL a b d).map S)) := by
  refine' Cl.def_ (n := n + 1) ["texts"] ?ho ?hcd rm ?hb ?hloc ?h ?c1 ?c2 ?c3 ?c4
  walk_at "def"
  case hb => intro vs h; match vs, h with | [a], _ => exact rfl
  case h =>
    intro L
    show Sx w _ [("texts", D.txts [S a, S b, S d])] _ _
    refine Sx.unpack3 (a := S (blankL a)) (b := S (blankL b)) (d := S (blankL d)) ?_ ?_ rfl rfl rfl
    · have e : ([S a, S b, S d].filter fun _ => true).map (fun x => S (blankL x.cps.toList)) = [S (blankL a), S (blankL b), S (blankL d)] := rfl
      rw [← e]
      (with_reducible refine' Ev.comp (d := .txts [S a, S b, S d]) (fun _ => true) (fun x => S (blankL x.cps.toList)) ?i1 ?i2 ?i3 ?i4 ?i5 ?i6 ?i7 ?i8 ?i9 ?i10 ?i11)
      case i1 => walk_at "ev"
      case i2 => exact rfl
      case i3 => rw [sizeLine_eq]; simp
      case i4 => intro C y hy; exact rfl
      case i5 =>
        intro C y hy _
        obtain ⟨l⟩ := y
        obtain ⟨l⟩ := l
        refine (Ev.ifexp (d₁ := .str (S [])) (d₂ := .str (S l)) (v := decide (l = unkL)) ?_ (fun _ => by walk_at "ev") (fun _ => by walk_at "ev")).conv ?_
        · walk_at "tv"
        · show _ = D.str (S (blankL l))
          unfold blankL
          by_cases h : l = unkL <;> simp [h]
      case i6 => exact rfl
      case i7 => exact rfl
      case i8 => decide
      case i9 => decide
      case i10 => decide
      case i11 => intro _; rfl
    · have hB : (blankL b).length ≤ 300 := Nat.le_trans (blank_len b) hb
      unfold aliasL
      generalize blankL a = A' at *
      generalize blankL b = B at *
      generalize blankL d = D' at *
      have hz : B.length ≤ sizeLine := by rw [sizeLine_eq]; omega
      refine Sx.if_ (by walk_at "tv") (fun h => ?_) fun h => ?_
      · have h' : A' = winL ∨ A' = win6L := by simpa using h
        refine Sx.assign (by walk_at "ev") (Sx.nil (Sx.ret (d := .tup ([WinL, B, D'].map S)) ?_ (by rw [if_pos h']))) rfl
        (with_reducible refine' Ev.tup ?_ ?_)
        · show Evs _ _ _ _ [D.str (S WinL), D.str (S B), D.str (S D')]
          walk_at "evs"
        · rw [sizeLine_eq]; simp
      have h' : ¬ (A' = winL ∨ A' = win6L) := by simpa using h
      rw [if_neg h']
      refine Sx.if_ (v := decide (A' = SunL) && (decide (B ≠ []) && decide ((53 : Int) ≤ (B.headD 0 : Nat)))) ?_ (fun h => ?_) fun h => ?_
      · refine Tv.op (Tvs.and (by walk_at "tv") fun _ => Tvs.and (by walk_at "tv") fun hne => Tvs.one ?_)
        have hne := of_decide_eq_true hne
        obtain ⟨x, r, rfl⟩ := List.exists_cons_of_ne_nil hne
        (with_reducible refine' Tv.cmp ?t1 ?t2 ?t3 ?t4)
        case t1 =>
          have hx0 : (x :: r)[(0 : Int).toNat]? = some x := rfl
          (with_reducible refine' Ev.ord ?u1 ?u2 ?u3)
          case u1 => walk_at "at"
          case u2 => exact rfl
          case u3 => exact rfl
        case t2 => walk_at "ev"
        case t3 => exact Cm.geI
        case t4 => with_unfolding_all rfl
      · have h2 : A' = SunL ∧ 53 ≤ B.headD 0 := by
          rw [Bool.and_eq_true, Bool.and_eq_true, decide_eq_true_iff, decide_eq_true_iff, decide_eq_true_iff] at h
          exact ⟨h.1, by omega⟩
        rw [if_pos h2]
        refine Sx.assign (by walk_at "ev") ?_ rfl
        refine Sx.assign (by walk_at "ev") ?_ rfl
        refine Sx.sub (a := [("size", D.int ((0 : Nat) : Int)), ("system", D.str (S SolL)), ("version", D.str (S D')), ("release", D.str (S B))]) ?_ ⟨rfl, rfl, rfl, rfl, trivial⟩
        refine Sx.while_ (fun k a => ∃ i : Nat, k = (hd46 B).length - i ∧ i ≤ (hd46 B).length ∧ a = ([("size", D.int i), ("system", D.str (S SolL)), ("version", D.str (S D')), ("release", D.str (S B))] : Mem)) (hd46 B).length ⟨0, rfl, Nat.zero_le _, rfl⟩ ?_
        · rintro k a ⟨i, rfl, hi, rfl⟩
          have hh := hd46_len B
          have hs := head_step B i hi
          refine ⟨decide ((i : Int) < B.length) && decide ([B.getD i 0] ≠ [46]), ?_, fun hb => ?_, fun hb => ?_⟩
          · refine Tv.op (Tvs.and (by
              (with_reducible refine' Tv.cmp ?t1 ?t2 ?t3 ?t4)
              (case t1 => walk_at "ev")
              (case t2 =>
                (with_reducible refine' Ev.len ?h1 ?h2 ?h3 ?h4)
                (case h1 => walk_at "ev")
                (case h2 => assumption)
                (case h3 => exact rfl)
                (case h4 => exact rfl))
              (case t3 => walk_at "cm")
              (case t4 => with_unfolding_all rfl)) fun hlt => Tvs.one ?_)
            have hlt := of_decide_eq_true hlt
            (with_reducible refine' Tv.cmp ?t1 ?t2 ?t3 ?t4)
            case t1 =>
              have hx0 : B[((i : Nat) : Int).toNat]? = some (B.getD i 0) := by
                have : i < B.length := by omega
                simp [this]
              walk_at "at"
            case t2 => walk_at "ev"
            case t3 => exact Cm.ne_
            case t4 => with_unfolding_all rfl
          · refine Sx.assign (d := D.int ((i : Int) + 1)) (by walk_at "ev") (Sx.nil (Turn.nx (a := [("size", D.int ((i + 1 : Nat) : Int)), ("system", D.str (S SolL)), ("version", D.str (S D')), ("release", D.str (S B))]) ⟨(hd46 B).length - (i + 1), ?_, i + 1, rfl, ?_, rfl⟩ ⟨rfl, rfl, rfl, rfl, trivial⟩)) rfl
            all_goals
              rw [Bool.and_eq_true, decide_eq_true_iff, decide_eq_true_iff] at hb
              have h1 : i < B.length := by omega
              have h3 : ¬ (B[i]? = some 46 ∨ B[i]? = none) := by
                have := hb.2
                simp [h1] at this ⊢
                exact this
              have h4 : i ≠ (hd46 B).length := fun q => h3 (hs.mpr q)
              omega
          · have h4 : i = (hd46 B).length := by
              apply hs.mp
              rw [Bool.and_eq_false_iff, decide_eq_false_iff_not, decide_eq_false_iff_not] at hb
              by_cases h1 : i < B.length
              · rcases hb with hb | hb
                · omega
                · simp [h1] at hb ⊢; exact hb
              · right; simp; omega
            have key : ∀ u v : List Nat, u ++ v = B → i = u.length → B.take i = u ∧ B.drop i = v := by rintro u v rfl rfl; simp
            obtain ⟨e1, e2⟩ := key _ _ (head_tail B) h4
            unfold newRel
            refine Sx.assign (d := .int (numF (hd46 B))) ?_ ?_ rfl
            · have e1' := (cut_to B i).trans e1
              walk_at "callK"
              exact fun ok => cl_number ok.rm (by omega)
            · refine Sx.if_ (by walk_at "tv") (fun h => ?_) fun h => ?_
              · have h0 : 0 ≤ numF (hd46 B) := of_decide_eq_true h
                have e2' := (cut_from B i).trans e2
                have hsm := num_small (l := hd46 B) (by omega) h0
                rw [if_pos h0]
                have hdl : (digs (numF (hd46 B) - 3)).length + (tl46 B).length ≤ sizeLine := by
                  have h1 := digs_len hsm
                  have h2 : (tl46 B).length ≤ B.length := by have := congrArg List.length (head_tail B); simp at this; omega
                  rw [sizeLine_eq]; omega
                refine Sx.assign (d := .str (S (digs (numF (hd46 B) - 3) ++ tl46 B))) ?_ (Sx.nil (Sx.nil (Sx.nil (Sx.ret (d := .tup ([SolL, digs (numF (hd46 B) - 3) ++ tl46 B, D'].map S)) ?_ rfl)))) rfl
                · (with_reducible refine' Ev.bin (a := .str (S (digs (numF (hd46 B) - 3)))) ?g1 ?g2 ?g3)
                  case g1 =>
                    (with_reducible refine' Ev.strI ?k1 ?k2 ?k3 ?k4)
                    case k1 => walk_at "ev"
                    case k2 => exact hsm
                    case k3 => exact rfl
                    case k4 => exact rfl
                  case g2 => walk_at "ev"
                  case g3 => exact fun _ => Bin.catS hdl
                · (with_reducible refine' Ev.tup ?_ ?_)
                  · show Evs _ _ _ _ [D.str (S SolL), D.str (S (digs (numF (hd46 B) - 3) ++ tl46 B)), D.str (S D')]
                    walk_at "evs"
                  · rw [sizeLine_eq]; simp
              · have h0 : ¬ 0 ≤ numF (hd46 B) := of_decide_eq_false h
                rw [if_neg h0]
                refine Sx.nil (Sx.nil (Sx.nil (Sx.ret (d := .tup ([SolL, B, D'].map S)) ?_ rfl)))
                (with_reducible refine' Ev.tup ?_ ?_)
                · show Evs _ _ _ _ [D.str (S SolL), D.str (S B), D.str (S D')]
                  walk_at "evs"
                · rw [sizeLine_eq]; simp
      · have h2 : ¬ (A' = SunL ∧ 53 ≤ B.headD 0) := by
          rintro ⟨q1, q2⟩
          have q3 : B ≠ [] := by intro q; subst q; simp at q2
          simp only [q1, q3, decide_true, ne_eq, not_false_iff, Bool.true_and, decide_eq_false_iff_not] at h
          omega
        rw [if_neg h2]
        refine Sx.nil (Sx.nil (Sx.ret (d := .tup ([A', B, D'].map S)) ?_ rfl))
        (with_reducible refine' Ev.tup ?_ ?_)
        · show Evs _ _ _ _ [D.str (S A'), D.str (S B), D.str (S D')]
          walk_at "evs"
        · rw [sizeLine_eq]; simp
end
section
set_option maxRecDepth 100000
set_option Elab.async false
set_option linter.unusedVariables false
abbrev trim (l : List Nat) : List Nat := trimR (trimL l)
theorem trim_len (l : List Nat) : (trim l).length ≤ l.length := Nat.le_trans (trimR_len _) (trimL_len l)
/-- the texts that aren't empty, without the blanks at their ends, a hyphen between two -/
def joinedL (ls : List (List Nat)) : List Nat := joinL [45] ((ls.filter fun l => decide (l ≠ [])).map trim)
abbrev unk7 : List Nat := [117, 110, 107, 110, 111, 119, 110]
def sgn (x : Nat) : Nat := if x = 32 then 95 else if x ∈ ([47, 58, 40, 41] : List Nat) then 45 else x
/-- the law's one walk -/
def labGo : Nat → List Nat → List Nat → List Nat
  | _, [], t => t
  | k + 1, _ :: l, t => labGo k l t
  | 0, x :: l, t => if (x :: l).take 7 = unk7 then labGo 6 l t else if sgn x ≠ 45 ∨ t.drop (t.length - 1) ≠ [45] then labGo 0 l (t ++ [sgn x]) else labGo 0 l t
def labF (l : List Nat) : List Nat := if (labGo 0 l []).drop ((labGo 0 l []).length - 1) = [45] then (labGo 0 l []).dropLast else labGo 0 l []
theorem lab_skip : ∀ (k : Nat) (l t : List Nat), labGo k l t = labGo 0 (l.drop k) t
  | 0, l, t => rfl
  | k + 1, [], t => by simp [labGo]
  | k + 1, x :: l, t => by rw [List.drop_succ_cons, ← lab_skip k l t]; rfl
theorem lab_step {J : List Nat} {p : Nat} {t : List Nat} {x : Nat} (h : J[p]? = some x) : labGo 0 (J.drop p) t =
    if (J.drop p).take 7 = unk7 then labGo 0 (J.drop (p + 7)) t else if sgn x ≠ 45 ∨ t.drop (t.length - 1) ≠ [45] then labGo 0 (J.drop (p + 1)) (t ++ [sgn x]) else labGo 0 (J.drop (p + 1)) t := by
  obtain ⟨hl, hx⟩ := List.getElem?_eq_some_iff.mp h
  have e : J.drop p = x :: J.drop (p + 1) := by rw [List.drop_eq_getElem_cons hl, hx]
  rw [e]
  show (if _ then _ else _) = _
  rw [lab_skip 6, List.drop_drop]
theorem cut_mid (l : List Nat) (i k : Nat) : cutL l (some (i : Int)) (some (((i + k : Nat)) : Int)) = (l.drop i).take k := by
  unfold cutL
  simp only [Option.elim, clipAt_nat]
  rcases Nat.le_total i l.length with h | h
  · rw [Nat.min_eq_left h]
    rcases Nat.le_total (i + k) l.length with h2 | h2
    · rw [Nat.min_eq_left h2]; congr 1; omega
    · rw [Nat.min_eq_right h2, List.take_of_length_le (by simp), List.take_of_length_le (by simp; omega)]
  · rw [Nat.min_eq_right h, List.drop_of_length_le (Nat.le_refl _), List.drop_of_length_le h]; simp
theorem filt_S (ls : List (List Nat)) : ((ls.map S).filter fun y => decide (y.cps.toList ≠ [])).map (fun y => S (trim y.cps.toList)) = ((ls.filter fun l => decide (l ≠ [])).map trim).map S := by
  induction ls with
  | nil => rfl
  | cons a r ih =>
    rw [List.map_cons, List.filter_cons, List.filter_cons]
    by_cases h : a = []
    · subst h; simpa using ih
    · have h1 : decide ((S a).cps.toList ≠ []) = true := by simpa using h
      have h2 : decide (a ≠ []) = true := by simpa using h
      rw [if_pos h1, if_pos h2, List.map_cons, List.map_cons, List.map_cons, ih]
theorem joinL_len (z : List Nat) : ∀ ls : List (List Nat), (joinL z ls).length ≤ (ls.map List.length).sum + ls.length * z.length
  | [] => Nat.zero_le _
  | [a] => by simp [joinL]
  | a :: b :: r => by
    have := joinL_len z (b :: r)
    simp only [joinL, List.map_cons, List.sum_cons, List.length_cons, List.length_append, Nat.add_mul, Nat.one_mul] at *
    omega
theorem Sx.ifJ {w : World} {c : Cx} {m : Mem} {Q : FD → Mem → Prop} {rest : List Stmt} {t : PySem.Expr} {A B : List Stmt} {p : Pos} {v : Bool} (a : Mem) (h : Tv w c m t v) (ha : v = true → Sx w c m A (fun fd m' => fd = .next ∧ Sub a m'))
    (hb : v = false → Sx w c m B (fun fd m' => fd = .next ∧ Sub a m')) (r : Sx w c a rest Q) : Sx w c m (.If t A B p :: rest) Q :=
  Sx.if_ h (fun q => (ha q).conseq fun fd m' ⟨e, s⟩ => by subst e; exact r.sub s) (fun q => (hb q).conseq fun fd m' ⟨e, s⟩ => by subst e; exact r.sub s)
theorem cl_label {w : World} {A : Around} {n : Nat} (rm : Rm A (n + 2)) {a b d : List Nat} (ha : a.length ≤ 5000) (hb : b.length ≤ 5000) (hd : d.length ≤ 5000) : Cl w A (.ref 133) [.tup ([a, b, d].map S)] (.str (S (labF (joinedL [a, b, d])))) := by
  refine' Cl.def_ (n := n + 1) ["row"] ?ho ?hcd rm ?hb ?hloc ?h ?c1 ?c2 ?c3 ?c4
  walk_at "def"
  case hb => intro vs h; match vs, h with | [a], _ => exact rfl
  case h =>
    intro L
    show Sx w _ [("row", D.tup ([a, b, d].map S))] _ _
    have hT : ∀ l ∈ (([a, b, d].filter fun l => decide (l ≠ [])).map trim), l.length ≤ 5000 := by
      intro l hl
      obtain ⟨q, hq, rfl⟩ := List.mem_map.mp hl
      have hq := (List.mem_filter.mp hq).1
      have := trim_len q
      simp at hq
      rcases hq with rfl | rfl | rfl <;> omega
    have hn3 : (([a, b, d].filter fun l => decide (l ≠ [])).map trim).length ≤ 3 := by
      rw [List.length_map]; exact List.length_filter_le _ _
    have hsum : ∀ ls : List (List Nat), (∀ l ∈ ls, l.length ≤ 5000) → (ls.map List.length).sum ≤ 5000 * ls.length := by
      intro ls
      induction ls with
      | nil => intro _; exact Nat.le_refl _
      | cons x r ih => intro h; have h1 := h x (.head _); have h2 := ih fun l hl => h l (.tail _ hl); simp; omega
    with_reducible refine' Sx.assign (d := .str (S (joinedL [a, b, d]))) ?ja ?jb ?jc ?jd
    case jc => exact rfl
    case jd => exact rfl
    · rw [joinedL, ← join_S]
      (with_reducible refine' Ev.meth1 ?m1 ?m2 ?m3 ?m4 ?m5 ?m6 ?m7)
      case m1 => exact rfl
      case m2 => walk_at "ev"
      case m3 => exact Gm.join
      case m4 =>
        (with_reducible refine' Evs.cons (d := .txts ((([a, b, d].filter fun l => decide (l ≠ [])).map trim).map S)) ?n1 Evs.nil ?n2)
        case n2 => exact rfl
        case n1 =>
          rw [← filt_S]
          (with_reducible refine' Ev.comp (d := .tup ([a, b, d].map S)) (fun y => decide (y.cps.toList ≠ [])) (fun y => S (trim y.cps.toList)) ?i1 ?i2 ?i3 ?i4 ?i5 ?i6 ?i7 ?i8 ?i9 ?i10 ?i11)
          case i1 => walk_at "ev"
          case i2 => exact rfl
          case i3 => rw [sizeLine_eq]; simp
          case i4 =>
            intro C y hy
            obtain ⟨⟨l⟩⟩ := y
            show Tv _ _ _ _ (decide (l ≠ []))
            walk_at "tv"
          case i5 =>
            intro C y hy _
            obtain ⟨⟨l⟩⟩ := y
            have hl : l.length ≤ 100000 := by
              simp at hy
              rcases hy with rfl | rfl | rfl <;> omega
            show Ev w _ _ _ (D.str (S (trimR (trimL l))))
            walk_at "callK"
            exact fun ok => cl_trimmed ok.rm hl
          case i6 => exact rfl
          case i7 => exact rfl
          case i8 => decide
          case i9 => decide
          case i10 => decide
          case i11 => intro _; rfl
      case m5 =>
        intro ok
        have h1 := hsum _ hT
        refine Cl.join ?_
        rw [List.map_map, List.length_map]
        have e : ((fun x : Str => x.length) ∘ S) = List.length := by funext l; exact S_len l
        rw [e]
        show _ + _ * (S [45]).length ≤ _
        rw [S_len]
        simp only [List.length_singleton]
        omega
      case m6 => exact rfl
      case m7 => intro _; exact rfl
    · have hJ : (joinedL [a, b, d]).length ≤ 20000 := by
        have h1 := joinL_len [45] (([a, b, d].filter fun l => decide (l ≠ [])).map trim)
        have h2 := hsum _ hT
        simp only [List.length_singleton] at h1
        unfold joinedL
        omega
      generalize joinedL [a, b, d] = J at *
      have hz : J.length ≤ sizeLine := by rw [sizeLine_eq]; omega
      refine Sx.assign (by walk_at "ev") ?_ rfl
      refine Sx.assign (by walk_at "ev") ?_ rfl
      refine Sx.sub (a := [("place", D.int ((0 : Nat) : Int)), ("told", D.str (S [])), ("joined", D.str (S J))]) ?_ ⟨rfl, rfl, rfl, trivial⟩
      refine Sx.while_ (fun k m => ∃ (p : Nat) (t : List Nat), k = J.length - p ∧ p ≤ J.length ∧ t.length ≤ p ∧ labGo 0 (J.drop p) t = labGo 0 J [] ∧ m = ([("place", D.int p), ("told", D.str (S t)), ("joined", D.str (S J))] : Mem)) J.length ⟨0, [], rfl, Nat.zero_le _, Nat.le_refl _, rfl, rfl⟩ ?_
      rintro k m ⟨p, t, rfl, hp, ht, hg, rfl⟩
      have hzt : t.length ≤ sizeLine := by omega
      have htl : t.length ≤ 20000 := by omega
      refine ⟨decide ((p : Int) < J.length), by walk_at "tv", fun hlt => ?_, fun hge => ?_⟩
      · have hlt : p < J.length := by have := of_decide_eq_true hlt; omega
        have hx : J[p]? = some (J.getD p 0) := by simp [hlt]
        generalize J.getD p 0 = x at hx
        rw [lab_step hx] at hg
        have hc7 : cutL J (some (p : Int)) (some ((p : Int) + 7)) = (J.drop p).take 7 := cut_mid J p 7
        refine Sx.if_ (v := decide ((J.drop p).take 7 = unk7)) ?_ (fun h => ?_) fun h => ?_
        · (with_reducible refine' Tv.cmp (a := .str (S ((J.drop p).take 7))) ?t1 ?t2 ?t3 ?t4)
          case t1 =>
            (with_reducible refine' Ev.cutS (a := some _) (b := some _) ?u1 ?u2 ?u3 hz hc7 ?u6)
            case u1 => walk_at "ev"
            case u2 => walk_at "evo"
            case u3 => walk_at "evo"
            case u6 => intro _ _; with_unfolding_all rfl
          case t2 => walk_at "ev"
          case t3 => exact Cm.eq_
          case t4 => with_unfolding_all rfl
        · have h' := of_decide_eq_true h
          rw [if_pos h'] at hg
          have hl7 : p + 7 ≤ J.length := by
            have := congrArg List.length h'
            simp at this
            omega
          refine Sx.assign (d := D.int ((p : Int) + 7)) (by walk_at "ev") (Sx.cont (Turn.ct (a := [("place", D.int ((p + 7 : Nat) : Int)), ("told", D.str (S t)), ("joined", D.str (S J))]) ⟨J.length - (p + 7), by omega, p + 7, t, rfl, hl7, by omega, hg, rfl⟩ ⟨rfl, rfl, rfl, trivial⟩)) rfl
        · have h' := of_decide_eq_false h
          rw [if_neg h'] at hg
          have hxi : J[(p : Int).toNat]? = some x := hx
          refine Sx.nil (Sx.assign (d := .str (S [x])) (by walk_at "at") (Sx.assign (d := D.int ((p : Int) + 1)) (by walk_at "ev") ?_ rfl) rfl)
          have hcl := cut_last t
          refine Sx.ifJ (v := decide ([x] = [32])) ([("sign", D.str (S [sgn x])), ("place", D.int ((p : Int) + 1)), ("told", D.str (S t)), ("joined", D.str (S J))] : Mem) (by walk_at "tv") (fun h => ?_) (fun h => ?_) ?_
          · have h32 : x = 32 := by simpa using h
            refine Sx.assign (d := .str (S [95])) (by walk_at "ev") (Sx.nil ⟨rfl, ?_, rfl, rfl, rfl, trivial⟩) rfl
            subst h32; rfl
          · have h32 : x ≠ 32 := by simpa using h
            refine Sx.ifJ (v := decide (x ∈ ([47, 58, 40, 41] : List Nat))) ([("sign", D.str (S [sgn x])), ("place", D.int ((p : Int) + 1)), ("told", D.str (S t)), ("joined", D.str (S J))] : Mem) (by walk_at "tv") (fun h => ?_) (fun h => ?_) ?_
            · have hm := of_decide_eq_true h
              refine Sx.assign (d := .str (S [45])) (by walk_at "ev") (Sx.nil ⟨rfl, ?_, rfl, rfl, rfl, trivial⟩) rfl
              have : sgn x = 45 := by unfold sgn; rw [if_neg h32, if_pos hm]
              rw [this]; rfl
            · have hm := of_decide_eq_false h
              refine Sx.nil ⟨rfl, ?_, rfl, rfl, rfl, trivial⟩
              have : sgn x = x := by unfold sgn; rw [if_neg h32, if_neg hm]
              rw [this]; rfl
            · exact Sx.nil ⟨rfl, rfl, rfl, rfl, rfl, trivial⟩
          generalize sgn x = y at *
          refine Sx.if_ (v := decide ([y] ≠ [45]) || decide (t.drop (t.length - 1) ≠ [45])) ?_ (fun h => ?_) fun h => ?_
          · refine Tv.op (Tvs.or (by walk_at "tv") fun _ => Tvs.one (by walk_at "tv"))
          · have h2 : y ≠ 45 ∨ t.drop (t.length - 1) ≠ [45] := by simpa using h
            rw [if_pos h2] at hg
            refine Sx.assign (d := .str (S (t ++ [y]))) (by walk_at "ev") (Sx.nil (Sx.nil (Turn.nx (a := [("place", D.int ((p + 1 : Nat) : Int)), ("told", D.str (S (t ++ [y]))), ("joined", D.str (S J))]) ⟨J.length - (p + 1), by omega, p + 1, t ++ [y], rfl, hlt, by simp; omega, hg, rfl⟩ ⟨rfl, rfl, rfl, trivial⟩))) rfl
          · have h2 : ¬ (y ≠ 45 ∨ t.drop (t.length - 1) ≠ [45]) := by simpa using h
            rw [if_neg h2] at hg
            exact Sx.nil (Sx.nil (Turn.nx (a := [("place", D.int ((p + 1 : Nat) : Int)), ("told", D.str (S t)), ("joined", D.str (S J))]) ⟨J.length - (p + 1), by omega, p + 1, t, rfl, hlt, by omega, hg, rfl⟩ ⟨rfl, rfl, rfl, trivial⟩))
      · have hge : p = J.length := by have := of_decide_eq_false hge; omega
        rw [hge, List.drop_length] at hg
        have hg : t = labGo 0 J [] := hg
        unfold labF
        rw [← hg]
        have hcl := cut_last t
        have hci := cut_init t
        refine Sx.if_ (v := decide (t.drop (t.length - 1) = [45])) (by walk_at "tv") (fun h => ?_) fun h => ?_
        · rw [if_pos (of_decide_eq_true h)]
          exact Sx.assign (d := .str (S t.dropLast)) (by walk_at "ev") (Sx.nil (Sx.ret (by walk_at "ev") rfl)) rfl
        · rw [if_neg (of_decide_eq_false h)]
          exact Sx.nil (Sx.ret (by walk_at "ev") rfl)
end
section
set_option maxRecDepth 100000
set_option Elab.async false
set_option linter.unusedVariables false
theorem fmod_pos (a m : Int) (hm : 0 < m) : Int.fmod a m = (((a % m).toNat : Nat) : Int) := by
  rw [Int.fmod_eq_emod_of_nonneg _ (by omega)]
  have := Int.emod_nonneg a (b := m) (by omega)
  omega
theorem fmod_nat (q : Nat) (m : Int) (k : Nat) (h : m = (k : Int)) : Int.fmod (q : Int) m = ((q % k : Nat) : Int) := by
  subst h; rw [Int.fmod_eq_emod_of_nonneg _ (by omega)]; rfl
theorem fdiv_nat (q : Nat) (m : Int) (k : Nat) (h : m = (k : Int)) : Int.fdiv (q : Int) m = ((q / k : Nat) : Int) := by
  subst h; rw [Int.fdiv_eq_ediv_of_nonneg _ (by omega)]; rfl
/-- a piece of the release, by the number's remainder -/
def pieceL (x : Nat) : List Nat :=
  if x % 16 < 4 then [48 + x / 16 % 10]
  else if x % 16 < 6 then [53 + x / 16 % 5]
  else if x % 16 = 6 then digs (x / 16 : Nat)
  else if x % 16 < 9 then [46]
  else if x % 16 = 9 then [32]
  else if x % 16 = 10 then [95]
  else if x % 16 = 11 then [([43, 45] : List Nat).getD (x / 16 % 2) 0]
  else if x % 16 = 12 then [97 + x / 16 % 26].map (speltC (x / 16 / 26))
  else if x % 16 = 13 then unkL.map (speltC (x / 16 % 13))
  else if x % 16 = 14 then [117, 110, 107, 8470, 119, 110].map (speltC (x / 16 % 13))
  else [([47, 58, 40, 41] : List Nat).getD (x / 16 % 4) 0]
def numX (i : Int) : Nat := (i % 5408).toNat
theorem numX_lt (i : Int) : numX i < 5408 := by unfold numX; have := Int.emod_lt_of_pos i (b := 5408) (by omega); have := Int.emod_nonneg i (b := 5408) (by omega); omega
def relL (script : List Int) : List Nat := ((script.drop 2).take 10).flatMap fun i => pieceL (numX i)
def sysNames : List (List Nat) := [[83, 117, 110, 79, 83], [119, 105, 110, 51, 50], [119, 105, 110, 49, 54], unkL, [76, 105, 110, 117, 120]]
def verNames : List (List Nat) := [unkL, [71, 101, 110, 101, 114, 105, 99], [114, 99, 32, 50]]
def firstN (script : List Int) : Nat := ((script.getD 0 0) % 65).toNat
def secondN (script : List Int) : Nat := ((script.getD 1 0) % 39).toNat
def sysL (script : List Int) : List Nat := (sysNames.getD (firstN script % 5) []).map (speltC (firstN script / 5))
def verL (script : List Int) : List Nat := (verNames.getD (secondN script % 3) []).map (speltC (secondN script / 3))
theorem digs_short (q : Nat) (h : q < 338) : (digs (q : Int)).length ≤ 3 := by
  have := toString_length_le (v := (q : Int)) (by omega) (k := 3) (by omega) (by omega)
  exact this
theorem ite_len {c : Prop} [Decidable c] {a b : List Nat} {n : Nat} (h1 : a.length ≤ n) (h2 : b.length ≤ n) : (if c then a else b).length ≤ n := by
  by_cases h : c
  · rw [if_pos h]; exact h1
  · rw [if_neg h]; exact h2
theorem piece_len (x : Nat) (h : x < 5408) : (pieceL x).length ≤ 7 := by
  have hq : x / 16 < 338 := by omega
  have h3 := Nat.le_trans (digs_short (x / 16) hq) (show 3 ≤ 7 by decide)
  have h1 : 1 ≤ 7 := by decide
  have h6 : 6 ≤ 7 := by decide
  exact ite_len h1 (ite_len h1 (ite_len h3 (ite_len h1 (ite_len h1 (ite_len h1 (ite_len h1 (ite_len h1 (ite_len (Nat.le_refl 7) (ite_len h6 h1)))))))))
theorem Ev.sliceNT {w : World} {c : Cx} {m : Mem} {v : PySem.Expr} {lo hi : Option PySem.Expr} {p q : Pos} {l : List Int} {a b : Option Int} (hv : Ev w c m v (.nums l)) (hl : EvO w c m lo a) (hh : EvO w c m hi b) (hz : l.length ≤ sizeLine) :
    Ev w c m (.Subscript v (.Slice lo hi none q) p) (.nums (cutL l a b)) := fun s ok hs =>
  Subscript_ (hv.use ok hs fun o s₁ k₁ hs₁ r₁ => wpAny_Slice (hl.use ok hs₁ fun lv s₂ k₂ hs₂ r₂ => hh.use ok hs₂ fun uv s₃ k₃ hs₃ r₃ => wpAny_pure (by
    obtain ⟨x, vs, rfl, hx, hn⟩ := r₁.keeps (kext (keeps_trans k₂ k₃))
    refine tail_any (Heap.IsList.typeIs (s := { s₃ with heap := s₃.heap.push { cls := .type "slice", data := .fields #[lv, uv, .none] } }) (hx.push _)) list_getitem_lookup
      (wpAny_getItem_list_slice (hx.push _) (Heap.IsSliceOf.new ..) r₂ r₃ .none (by simp) ?_ (by rw [List.size_toArray, IntsAre.len hn]; exact hz)) (ops := _) (by with_unfolding_all rfl)
    refine ⟨keeps_trans k₁ (keeps_trans k₂ (keeps_trans k₃ (keeps_heap (Ext.trans ext_push ext_push)))), _, cutL vs a b, rfl, ?_, ?_⟩
    · exact ⟨_, Heap.get?_push_size _ rfl, rfl, _, by rw [pick_cut]⟩
    · unfold cutL; rw [IntsAre.len hn]; exact IntsAre.takeT (IntsAre.dropT hn _) _)))
theorem getD_at {α : Type} {l : List α} {i : Nat} {d : α} (h : i < l.length) : l[i]? = some (l.getD i d) := by rw [List.getElem?_eq_getElem h, List.getD_eq_getElem?_getD, List.getElem?_eq_getElem h]; rfl
theorem cl_row {w : World} {A : Around} {n : Nat} (rm : Rm A (n + 2)) {l : List Int} (hl : l.length ≤ 63) : Cl w A (.ref 95) [.nums l] (.txts [S (sysL l), S (relL l), S (verL l)]) := by
  refine' Cl.def_ (n := n + 1) ["script"] ?ho ?hcd rm ?hb ?hloc ?h ?c1 ?c2 ?c3 ?c4
  walk_at "def"
  case hb => intro vs h; match vs, h with | [a], _ => exact rfl
  case h =>
    intro L
    show Sx w _ [("script", D.nums l)] _ _
    have hzl : l.length ≤ sizeLine := by rw [sizeLine_eq]; omega
    refine Sx.assign (d := .nums [l.getD 0 0, l.getD 1 0]) ?_ ?_ rfl
    · have e1 : cutL l none (some 2) = l.take 2 := by
        unfold cutL
        have := clipAt_nat l.length 2
        simp only [Option.elim, List.drop_zero, Nat.sub_zero]
        rw [show (2 : Int) = ((2 : Nat) : Int) from rfl, this]
        rcases Nat.le_total 2 l.length with h | h
        · rw [Nat.min_eq_left h]
        · rw [Nat.min_eq_right h, List.take_of_length_le (Nat.le_refl _), List.take_of_length_le h]
      have e2 : cutL (cutL l none (some 2) ++ [0, 0]) none (some 2) = [l.getD 0 0, l.getD 1 0] := by
        rw [e1]
        match l with
        | [] => rfl
        | [a] => rfl
        | a :: b :: r => rfl
      have hl3 : (cutL l none (some 2) ++ [0, 0]).length ≤ sizeLine := by rw [e1, sizeLine_eq]; simp; omega
      rw [← e2]
      (with_reducible refine' Ev.sliceNT (a := none) (b := some _) ?k1 ?k2 ?k3 hl3)
      case k2 => trivial
      case k3 => walk_at "evo"
      case k1 =>
        (with_reducible refine' Ev.bin ?g1 ?g2 ?g3)
        case g1 =>
          (with_reducible refine' Ev.sliceN (a := none) (b := some _) ?o1 ?o2 ?o3 hzl ?o5)
          case o1 => walk_at "ev"
          case o2 => trivial
          case o3 => walk_at "evo"
          case o5 => intro _ _; with_unfolding_all rfl
        case g2 =>
          (with_reducible refine' Ev.listN (l := [0, 0]) ?_ ?_)
          · show Evs _ _ _ _ [D.int 0, D.int 0]
            walk_at "evs"
          · rw [sizeLine_eq]; simp
        case g3 =>
          intro _
          exact Bin.addN (by rw [e1, sizeLine_eq]; simp; omega)
    · refine Sx.assign (d := .int (firstN l : Nat)) ((Ev.bin (a := .int (l.getD 0 0)) (by walk_at "itemN") (by walk_at "ev") (by walk_at "bin")).conv (congrArg D.int (fmod_pos _ 65 (by omega)))) ?_ rfl
      refine Sx.assign (d := .int (secondN l : Nat)) ((Ev.bin (a := .int (l.getD 1 0)) (by walk_at "itemN") (by walk_at "ev") (by walk_at "bin")).conv (congrArg D.int (fmod_pos _ 39 (by omega)))) ?_ rfl
      refine Sx.assign (by walk_at "ev") ?_ rfl
      have e10 : cutL l (some 2) (some 12) = (l.drop 2).take 10 := by
        unfold cutL
        have h1 := clipAt_nat l.length 2
        have h2 := clipAt_nat l.length 12
        simp only [Option.elim]
        rw [show (2 : Int) = ((2 : Nat) : Int) from rfl, show (12 : Int) = ((12 : Nat) : Int) from rfl, h1, h2]
        rcases Nat.le_total 2 l.length with h | h
        · rw [Nat.min_eq_left h]
          rcases Nat.le_total 12 l.length with h2 | h2
          · rw [Nat.min_eq_left h2]
          · rw [Nat.min_eq_right h2, List.take_of_length_le (by simp), List.take_of_length_le (by simp; omega)]
        · rw [Nat.min_eq_right h, List.drop_of_length_le (Nat.le_refl _), List.drop_of_length_le h]; simp
      have hzr : ∀ k, ((l.drop 2).take k).length ≤ 63 := fun k => by simp; omega
      refine Sx.for' (d := .nums ((l.drop 2).take 10)) (fun i a => i ≤ ((l.drop 2).take 10).length ∧ a = ([("release", D.str (S ((((l.drop 2).take 10).take i).flatMap fun z => pieceL (numX z)))), ("second", D.int (secondN l : Nat)), ("first", D.int (firstN l : Nat))] : Mem)) ?_ rfl ⟨Nat.zero_le _, rfl⟩ ⟨rfl, rfl, rfl, trivial⟩ ?_ ?_ rfl
      · rw [← e10]
        (with_reducible refine' Ev.sliceNT (a := some _) (b := some _) ?o1 ?o2 ?o3 hzl)
        case o1 => walk_at "ev"
        case o2 => walk_at "evo"
        case o3 => walk_at "evo"
      · rintro i e a hi ⟨hle, rfl⟩
        rw [List.getElem?_map] at hi
        obtain ⟨z, hz, rfl⟩ := Option.map_eq_some_iff.mp hi
        have hlt := (List.getElem?_eq_some_iff.mp hz).1
        have hR : ∀ r : List Int, (r.flatMap fun z => pieceL (numX z)).length ≤ 7 * r.length := by
          intro r
          induction r with
          | nil => exact Nat.le_refl _
          | cons y r ih => have := piece_len (numX y) (numX_lt y); simp at *; omega
        have hRl := hR (((l.drop 2).take 10).take i)
        have hil : (((l.drop 2).take 10).take i).length ≤ 10 := by simp; omega
        have fin : (((l.drop 2).take 10).take (i + 1)).flatMap (fun z => pieceL (numX z)) = (((l.drop 2).take 10).take i).flatMap (fun z => pieceL (numX z)) ++ pieceL (numX z) := by rw [take_more hz]; simp
        have hfx : Int.fmod z 5408 = ((numX z : Nat) : Int) := fmod_pos z 5408 (by omega)
        have hxl := numX_lt z
        have hpl := piece_len (numX z) hxl
        generalize numX z = x at *
        generalize (((l.drop 2).take 10).take i).flatMap (fun z => pieceL (numX z)) = R at *
        have hRb : R.length ≤ 70 := by omega
        have hq : x / 16 < 338 := by omega
        refine Sx.assign (d := .int (x % 16 : Nat)) ((Ev.bin (Ev.bin (by walk_at "ev") (by walk_at "ev") (by walk_at "bin")) (by walk_at "ev") (by walk_at "bin")).conv (congrArg D.int (by rw [hfx]; exact fmod_nat x 16 16 rfl))) ?_ rfl
        refine Sx.assign (d := .int (x / 16 : Nat)) ((Ev.bin (Ev.bin (by walk_at "ev") (by walk_at "ev") (by walk_at "bin")) (by walk_at "ev") (by walk_at "bin")).conv (congrArg D.int (by rw [hfx]; exact fdiv_nat x 16 16 rfl))) ?_ rfl
        generalize hk : x % 16 = k at *
        generalize hqq : x / 16 = q at *
        have hk16 : k < 16 := by omega
        refine Sx.ifJ ([("piece", D.str (S (pieceL x))), ("release", D.str (S R)), ("second", D.int (secondN l : Nat)), ("first", D.int (firstN l : Nat))] : Mem) (v := decide ((k : Int) < 4)) (by walk_at "tv") (fun h => ?_) (fun h => ?_) ?_
        · have h1 := of_decide_eq_true h
          have hp : pieceL x = [48 + q % 10] := by unfold pieceL; rw [hk, hqq, if_pos (by omega)]
          rw [hp]
          exact Sx.assign (Ev.chr (l := 48 + q % 10) (by walk_at "ev") (by rw [fmod_nat q 10 10 rfl]; omega) (by omega) rfl rfl) (Sx.nil ⟨rfl, rfl, rfl, rfl, rfl, trivial⟩) rfl
        · have n1 := of_decide_eq_false h
          refine Sx.ifJ ([("piece", D.str (S (pieceL x))), ("release", D.str (S R)), ("second", D.int (secondN l : Nat)), ("first", D.int (firstN l : Nat))] : Mem) (v := decide ((k : Int) < 6)) (by walk_at "tv") (fun h => ?_) (fun h => ?_) (Sx.nil ⟨rfl, rfl, rfl, rfl, rfl, trivial⟩)
          · have h1 := of_decide_eq_true h
            have hp : pieceL x = [53 + q % 5] := by unfold pieceL; rw [hk, hqq, if_neg (by omega), if_pos (by omega)]
            rw [hp]
            exact Sx.assign (Ev.chr (l := 53 + q % 5) (by walk_at "ev") (by rw [fmod_nat q 5 5 rfl]; omega) (by omega) rfl rfl) (Sx.nil ⟨rfl, rfl, rfl, rfl, rfl, trivial⟩) rfl
          have n2 := of_decide_eq_false h
          refine Sx.ifJ ([("piece", D.str (S (pieceL x))), ("release", D.str (S R)), ("second", D.int (secondN l : Nat)), ("first", D.int (firstN l : Nat))] : Mem) (v := ((k : Int) == 6)) (by walk_at "tv") (fun h => ?_) (fun h => ?_) (Sx.nil ⟨rfl, rfl, rfl, rfl, rfl, trivial⟩)
          · have h1 : (k : Int) = 6 := by simpa using h
            have hp : pieceL x = digs (q : Nat) := by unfold pieceL; rw [hk, hqq, if_neg (by omega), if_neg (by omega), if_pos (by omega)]
            rw [hp]
            exact Sx.assign (Ev.strI (by walk_at "ev") (by show q.log2 < 1920; by_cases h0 : q = 0
                                                           · subst h0; decide
                                                           · rw [Nat.log2_lt h0]; exact Nat.lt_of_lt_of_le hq (by decide)) rfl rfl) (Sx.nil ⟨rfl, rfl, rfl, rfl, rfl, trivial⟩) rfl
          have n3 : ¬ (k : Int) = 6 := by simpa using h
          refine Sx.ifJ ([("piece", D.str (S (pieceL x))), ("release", D.str (S R)), ("second", D.int (secondN l : Nat)), ("first", D.int (firstN l : Nat))] : Mem) (v := decide ((k : Int) < 9)) (by walk_at "tv") (fun h => ?_) (fun h => ?_) (Sx.nil ⟨rfl, rfl, rfl, rfl, rfl, trivial⟩)
          · have h1 := of_decide_eq_true h
            have hp : pieceL x = [46] := by unfold pieceL; rw [hk, hqq, if_neg (by omega), if_neg (by omega), if_neg (by omega), if_pos (by omega)]
            rw [hp]
            exact Sx.assign (by walk_at "ev") (Sx.nil ⟨rfl, rfl, rfl, rfl, rfl, trivial⟩) rfl
          have n4 := of_decide_eq_false h
          refine Sx.ifJ ([("piece", D.str (S (pieceL x))), ("release", D.str (S R)), ("second", D.int (secondN l : Nat)), ("first", D.int (firstN l : Nat))] : Mem) (v := ((k : Int) == 9)) (by walk_at "tv") (fun h => ?_) (fun h => ?_) (Sx.nil ⟨rfl, rfl, rfl, rfl, rfl, trivial⟩)
          · have h1 : (k : Int) = 9 := by simpa using h
            have hp : pieceL x = [32] := by unfold pieceL; rw [hk, hqq, if_neg (by omega), if_neg (by omega), if_neg (by omega), if_neg (by omega), if_pos (by omega)]
            rw [hp]
            exact Sx.assign (by walk_at "ev") (Sx.nil ⟨rfl, rfl, rfl, rfl, rfl, trivial⟩) rfl
          have n5 : ¬ (k : Int) = 9 := by simpa using h
          refine Sx.ifJ ([("piece", D.str (S (pieceL x))), ("release", D.str (S R)), ("second", D.int (secondN l : Nat)), ("first", D.int (firstN l : Nat))] : Mem) (v := ((k : Int) == 10)) (by walk_at "tv") (fun h => ?_) (fun h => ?_) (Sx.nil ⟨rfl, rfl, rfl, rfl, rfl, trivial⟩)
          · have h1 : (k : Int) = 10 := by simpa using h
            have hp : pieceL x = [95] := by unfold pieceL; rw [hk, hqq, if_neg (by omega), if_neg (by omega), if_neg (by omega), if_neg (by omega), if_neg (by omega), if_pos (by omega)]
            rw [hp]
            exact Sx.assign (by walk_at "ev") (Sx.nil ⟨rfl, rfl, rfl, rfl, rfl, trivial⟩) rfl
          have n6 : ¬ (k : Int) = 10 := by simpa using h
          refine Sx.ifJ ([("piece", D.str (S (pieceL x))), ("release", D.str (S R)), ("second", D.int (secondN l : Nat)), ("first", D.int (firstN l : Nat))] : Mem) (v := ((k : Int) == 11)) (by walk_at "tv") (fun h => ?_) (fun h => ?_) (Sx.nil ⟨rfl, rfl, rfl, rfl, rfl, trivial⟩)
          · have h1 : (k : Int) = 11 := by simpa using h
            have hp : pieceL x = [([43, 45] : List Nat).getD (q % 2) 0] := by unfold pieceL; rw [hk, hqq, if_neg (by omega), if_neg (by omega), if_neg (by omega), if_neg (by omega), if_neg (by omega), if_neg (by omega), if_pos (by omega)]
            rw [hp]
            refine Sx.assign (d := .str (S [([43, 45] : List Nat).getD (q % 2) 0])) ?_ (Sx.nil ⟨rfl, rfl, rfl, rfl, rfl, trivial⟩) rfl
            have hx0 : ([43, 45] : List Nat)[(Int.fmod (q : Int) 2).toNat]? = some (([43, 45] : List Nat).getD (q % 2) 0) := by
              rw [fmod_nat q 2 2 rfl, Int.toNat_natCast]
              exact getD_at (by simp; omega)
            have hz2 : ([43, 45] : List Nat).length ≤ sizeLine := by rw [sizeLine_eq]; simp
            have h0 : 0 ≤ Int.fmod (q : Int) 2 := by rw [fmod_nat q 2 2 rfl]; omega
            (with_reducible refine' Ev.at_ ?t1 ?t2 h0 hx0 hz2 ?t6 ?t7)
            case t1 => walk_at "ev"
            case t2 => walk_at "ev"
            case t6 => intro _ _; with_unfolding_all rfl
            case t7 => intro _ _; with_unfolding_all rfl
          have n7 : ¬ (k : Int) = 11 := by simpa using h
          refine Sx.ifJ ([("piece", D.str (S (pieceL x))), ("release", D.str (S R)), ("second", D.int (secondN l : Nat)), ("first", D.int (firstN l : Nat))] : Mem) (v := ((k : Int) == 12)) (by walk_at "tv") (fun h => ?_) (fun h => ?_) (Sx.nil ⟨rfl, rfl, rfl, rfl, rfl, trivial⟩)
          · have h1 : (k : Int) = 12 := by simpa using h
            have hp : pieceL x = [97 + q % 26].map (speltC (q / 26)) := by unfold pieceL; rw [hk, hqq, if_neg (by omega), if_neg (by omega), if_neg (by omega), if_neg (by omega), if_neg (by omega), if_neg (by omega), if_neg (by omega), if_pos (by omega)]
            rw [hp]
            refine Sx.assign (d := .str (S ([97 + q % 26].map (speltC (q / 26))))) ?_ (Sx.nil ⟨rfl, rfl, rfl, rfl, rfl, trivial⟩) rfl
            (with_reducible refine' Ev.callK (ds := [.str (S [97 + q % 26]), .int (q / 26 : Nat)]) ?v1 ?v2 ?v3 ?v4 ?v5 ?v6 ?v7 ?v8)
            case v1 => exact rfl
            case v2 => exact rfl
            case v3 => exact rfl
            case v5 => exact fun ok => cl_spelt ok.rm (by simp) (by omega)
            case v6 => decide
            case v7 => exact rfl
            case v8 => intro _; exact rfl
            case v4 =>
              refine Evs.cons (Ev.chr (l := 97 + q % 26) (by walk_at "ev") (by rw [fmod_nat q 26 26 rfl]; omega) (by omega) rfl rfl) (Evs.cons ((Ev.bin (by walk_at "ev") (by walk_at "ev") (by walk_at "bin")).conv (congrArg D.int (fdiv_nat q 26 26 rfl))) Evs.nil rfl) rfl
          have n8 : ¬ (k : Int) = 12 := by simpa using h
          refine Sx.ifJ ([("piece", D.str (S (pieceL x))), ("release", D.str (S R)), ("second", D.int (secondN l : Nat)), ("first", D.int (firstN l : Nat))] : Mem) (v := ((k : Int) == 13)) (by walk_at "tv") (fun h => ?_) (fun h => ?_) (Sx.nil ⟨rfl, rfl, rfl, rfl, rfl, trivial⟩)
          · have h1 : (k : Int) = 13 := by simpa using h
            have hp : pieceL x = unkL.map (speltC (q % 13)) := by unfold pieceL; rw [hk, hqq, if_neg (by omega), if_neg (by omega), if_neg (by omega), if_neg (by omega), if_neg (by omega), if_neg (by omega), if_neg (by omega), if_neg (by omega), if_pos (by omega)]
            rw [hp]
            refine Sx.assign (d := .str (S (unkL.map (speltC (q % 13))))) ?_ (Sx.nil ⟨rfl, rfl, rfl, rfl, rfl, trivial⟩) rfl
            (with_reducible refine' Ev.callK (ds := [.str (S unkL), .int (q % 13 : Nat)]) ?v1 ?v2 ?v3 ?v4 ?v5 ?v6 ?v7 ?v8)
            case v1 => exact rfl
            case v2 => exact rfl
            case v3 => exact rfl
            case v5 => exact fun ok => cl_spelt ok.rm (by simp) (by omega)
            case v6 => decide
            case v7 => exact rfl
            case v8 => intro _; exact rfl
            case v4 =>
              refine Evs.cons (by walk_at "ev") (Evs.cons ((Ev.bin (by walk_at "ev") (by walk_at "ev") (by walk_at "bin")).conv (congrArg D.int (fmod_nat q 13 13 rfl))) Evs.nil rfl) rfl
          have n9 : ¬ (k : Int) = 13 := by simpa using h
          refine Sx.ifJ ([("piece", D.str (S (pieceL x))), ("release", D.str (S R)), ("second", D.int (secondN l : Nat)), ("first", D.int (firstN l : Nat))] : Mem) (v := ((k : Int) == 14)) (by walk_at "tv") (fun h => ?_) (fun h => ?_) (Sx.nil ⟨rfl, rfl, rfl, rfl, rfl, trivial⟩)
          · have h1 : (k : Int) = 14 := by simpa using h
            have hp : pieceL x = [117, 110, 107, 8470, 119, 110].map (speltC (q % 13)) := by unfold pieceL; rw [hk, hqq, if_neg (by omega), if_neg (by omega), if_neg (by omega), if_neg (by omega), if_neg (by omega), if_neg (by omega), if_neg (by omega), if_neg (by omega), if_neg (by omega), if_pos (by omega)]
            rw [hp]
            refine Sx.assign (d := .str (S ([117, 110, 107, 8470, 119, 110].map (speltC (q % 13))))) ?_ (Sx.nil ⟨rfl, rfl, rfl, rfl, rfl, trivial⟩) rfl
            (with_reducible refine' Ev.callK (ds := [.str (S [117, 110, 107, 8470, 119, 110]), .int (q % 13 : Nat)]) ?v1 ?v2 ?v3 ?v4 ?v5 ?v6 ?v7 ?v8)
            case v1 => exact rfl
            case v2 => exact rfl
            case v3 => exact rfl
            case v5 => exact fun ok => cl_spelt ok.rm (by simp) (by omega)
            case v6 => decide
            case v7 => exact rfl
            case v8 => intro _; exact rfl
            case v4 =>
              refine Evs.cons (Ev.conv (d := .str (S (([117, 110, 107] ++ [8470]) ++ [119, 110]))) (Ev.bin (a := .str (S ([117, 110, 107] ++ [8470]))) (Ev.bin (by walk_at "ev") (Ev.chr (l := 8470) (by walk_at "ev") (by rfl) (by omega) rfl rfl) (by walk_at "bin")) (by walk_at "ev") (by walk_at "bin")) rfl) (Evs.cons ((Ev.bin (by walk_at "ev") (by walk_at "ev") (by walk_at "bin")).conv (congrArg D.int (fmod_nat q 13 13 rfl))) Evs.nil rfl) rfl
          have n10 : ¬ (k : Int) = 14 := by simpa using h
          have hp : pieceL x = [([47, 58, 40, 41] : List Nat).getD (q % 4) 0] := by unfold pieceL; rw [hk, hqq, if_neg (by omega), if_neg (by omega), if_neg (by omega), if_neg (by omega), if_neg (by omega), if_neg (by omega), if_neg (by omega), if_neg (by omega), if_neg (by omega), if_neg (by omega)]
          rw [hp]
          refine Sx.assign (d := .str (S [([47, 58, 40, 41] : List Nat).getD (q % 4) 0])) ?_ (Sx.nil ⟨rfl, rfl, rfl, rfl, rfl, trivial⟩) rfl
          have hx0 : ([47, 58, 40, 41] : List Nat)[(Int.fmod (q : Int) 4).toNat]? = some (([47, 58, 40, 41] : List Nat).getD (q % 4) 0) := by
            rw [fmod_nat q 4 4 rfl, Int.toNat_natCast]
            exact getD_at (by simp; omega)
          have hz2 : ([47, 58, 40, 41] : List Nat).length ≤ sizeLine := by rw [sizeLine_eq]; simp
          have h0 : 0 ≤ Int.fmod (q : Int) 4 := by rw [fmod_nat q 4 4 rfl]; omega
          (with_reducible refine' Ev.at_ ?t1 ?t2 h0 hx0 hz2 ?t6 ?t7)
          case t1 => walk_at "ev"
          case t2 => walk_at "ev"
          case t6 => intro _ _; with_unfolding_all rfl
          case t7 => intro _ _; with_unfolding_all rfl
        · refine Sx.assign (d := .str (S (R ++ pieceL x))) (by walk_at "ev") (Sx.nil (Turn.nx ⟨hlt, rfl⟩ ⟨?_, rfl, rfl, trivial⟩)) rfl
          rw [fin]; rfl
      · rintro a ⟨_, rfl⟩
        have e : (((l.drop 2).take 10).take (((l.drop 2).take 10).map D.int).length).flatMap (fun z => pieceL (numX z)) = relL l := by
          rw [List.length_map, List.take_length]; rfl
        rw [e]
        have hf : firstN l < 65 := by unfold firstN; have := Int.emod_lt_of_pos (l.getD 0 0) (b := 65) (by omega); have := Int.emod_nonneg (l.getD 0 0) (b := 65) (by omega); omega
        have hg : secondN l < 39 := by unfold secondN; have := Int.emod_lt_of_pos (l.getD 1 0) (b := 39) (by omega); have := Int.emod_nonneg (l.getD 1 0) (b := 39) (by omega); omega
        unfold sysL verL
        generalize firstN l = f at *
        generalize secondN l = g at *
        have hs1 : (sysNames.map S)[(Int.fmod (f : Int) 5).toNat]? = some (S (sysNames.getD (f % 5) [])) := by
          rw [fmod_nat f 5 5 rfl, Int.toNat_natCast, List.getElem?_map, getD_at (l := sysNames) (d := []) (by simp [sysNames]; omega)]
          rfl
        have hs2 : (verNames.map S)[(Int.fmod (g : Int) 3).toNat]? = some (S (verNames.getD (g % 3) [])) := by
          rw [fmod_nat g 3 3 rfl, Int.toNat_natCast, List.getElem?_map, getD_at (l := verNames) (d := []) (by simp [verNames]; omega)]
          rfl
        have hl1 : (sysNames.getD (f % 5) []).length ≤ 1000 := by
          have : ∀ k < 5, (sysNames.getD k []).length ≤ 1000 := by decide
          exact this _ (by omega)
        have hl2 : (verNames.getD (g % 3) []).length ≤ 1000 := by
          have : ∀ k < 3, (verNames.getD k []).length ≤ 1000 := by decide
          exact this _ (by omega)
        refine Sx.assign (d := .str (S ((sysNames.getD (f % 5) []).map (speltC (f / 5))))) ?_ ?_ rfl
        · (with_reducible refine' Ev.callK (ds := [.str (S (sysNames.getD (f % 5) [])), .int (f / 5 : Nat)]) ?v1 ?v2 ?v3 ?v4 ?v5 ?v6 ?v7 ?v8)
          case v1 => exact rfl
          case v2 => exact rfl
          case v3 => exact rfl
          case v5 => exact fun ok => cl_spelt ok.rm hl1 (by omega)
          case v6 => decide
          case v7 => exact rfl
          case v8 => intro _; exact rfl
          case v4 =>
            refine Evs.cons ?_ (Evs.cons ((Ev.bin (by walk_at "ev") (by walk_at "ev") (by walk_at "bin")).conv (congrArg D.int (fdiv_nat f 5 5 rfl))) Evs.nil rfl) rfl
            (with_reducible refine' Ev.itemT (l := sysNames.map S) ?t1 ?t2 ?t3 hs1 ?t5 ?t6)
            case t1 =>
              (with_reducible refine' Ev.listT ?_ ?_)
              · show Evs _ _ _ _ [D.str (S [83, 117, 110, 79, 83]), D.str (S [119, 105, 110, 51, 50]), D.str (S [119, 105, 110, 49, 54]), D.str (S unkL), D.str (S [76, 105, 110, 117, 120])]
                walk_at "evs"
              · rw [sizeLine_eq]; simp [sysNames]
            case t2 => walk_at "ev"
            case t3 => rw [fmod_nat f 5 5 rfl]; omega
            case t5 => rw [fmod_nat f 5 5 rfl]; omega
            case t6 => intro _ _; with_unfolding_all rfl
        refine Sx.assign (d := .str (S ((verNames.getD (g % 3) []).map (speltC (g / 3))))) ?_ ?_ rfl
        · (with_reducible refine' Ev.callK (ds := [.str (S (verNames.getD (g % 3) [])), .int (g / 3 : Nat)]) ?v1 ?v2 ?v3 ?v4 ?v5 ?v6 ?v7 ?v8)
          case v1 => exact rfl
          case v2 => exact rfl
          case v3 => exact rfl
          case v5 => exact fun ok => cl_spelt ok.rm hl2 (by omega)
          case v6 => decide
          case v7 => exact rfl
          case v8 => intro _; exact rfl
          case v4 =>
            refine Evs.cons ?_ (Evs.cons ((Ev.bin (by walk_at "ev") (by walk_at "ev") (by walk_at "bin")).conv (congrArg D.int (fdiv_nat g 3 3 rfl))) Evs.nil rfl) rfl
            (with_reducible refine' Ev.itemT (l := verNames.map S) ?t1 ?t2 ?t3 hs2 ?t5 ?t6)
            case t1 =>
              (with_reducible refine' Ev.listT ?_ ?_)
              · show Evs _ _ _ _ [D.str (S unkL), D.str (S [71, 101, 110, 101, 114, 105, 99]), D.str (S [114, 99, 32, 50])]
                walk_at "evs"
              · rw [sizeLine_eq]; simp [verNames]
            case t2 => walk_at "ev"
            case t3 => rw [fmod_nat g 3 3 rfl]; omega
            case t5 => rw [fmod_nat g 3 3 rfl]; omega
            case t6 => intro _ _; with_unfolding_all rfl
        refine Sx.ret (d := .txts [S ((sysNames.getD (f % 5) []).map (speltC (f / 5))), S (relL l), S ((verNames.getD (g % 3) []).map (speltC (g / 3)))]) ?_ rfl
        (with_reducible refine' Ev.listT ?_ ?_)
        · show Evs _ _ _ _ [D.str (S ((sysNames.getD (f % 5) []).map (speltC (f / 5)))), D.str (S (relL l)), D.str (S ((verNames.getD (g % 3) []).map (speltC (g / 3))))]
          walk_at "evs"
        · rw [sizeLine_eq]; simp
end
section
set_option maxRecDepth 100000
set_option Elab.async false
set_option linter.unusedVariables false
theorem slot_filter_init : Slot "filter" "__init__" "object.__init__" :=
  .of (owner := "object") (n := "__init__") (by rw [typeLookup_type, builtinLookup_eq_fast]; kernel_rfl) (by decide +kernel) (by decide +kernel) (by decide +kernel)
    (by first | exact .inl (by decide +kernel) | exact .inr (by decide +kernel)) (by rw [isSubtype_type]; kernel_rfl)
theorem slot_filter_iter : Slot "filter" "__iter__" "filter.__iter__" :=
  .of (owner := "filter") (n := "__iter__") (by rw [typeLookup_type, builtinLookup_eq_fast]; kernel_rfl) (by decide +kernel) (by decide +kernel) (by decide +kernel)
    (by first | exact .inl (by decide +kernel) | exact .inr (by decide +kernel)) (by rw [isSubtype_type]; kernel_rfl)
theorem slot_filter_next : Slot "filter" "__next__" "filter.__next__" :=
  .of (owner := "filter") (n := "__next__") (by rw [typeLookup_type, builtinLookup_eq_fast]; kernel_rfl) (by decide +kernel) (by decide +kernel) (by decide +kernel)
    (by first | exact .inl (by decide +kernel) | exact .inr (by decide +kernel)) (by rw [isSubtype_type]; kernel_rfl)
theorem owner_filter : Manifest.owners.lookup (String.ofList ['r', 'e', 't', 'l', 'i', 'f'].reverse) = some Manifest.sig_filter := by kernel_rfl
theorem args_filter_iter_1 (a : Value) : argsOk "filter.__iter__" ⟨[a], []⟩ := by
  unfold argsOk
  rw [signature?_of (id := "filter.__iter__") (n := ['_', '_', 'r', 'e', 't', 'i', '_', '_']) (o := ['r', 'e', 't', 'l', 'i', 'f']) (by kernel_rfl) owner_filter]
  kernel_rfl
theorem args_filter_next_1 (a : Value) : argsOk "filter.__next__" ⟨[a], []⟩ := by
  unfold argsOk
  rw [signature?_of (id := "filter.__next__") (n := ['_', '_', 't', 'x', 'e', 'n', '_', '_']) (o := ['r', 'e', 't', 'l', 'i', 'f']) (by kernel_rfl) owner_filter]
  kernel_rfl
theorem entry_filter_next : entryFor table "filter.__next__" = some Builtin.«filter.__next__» := entryFor_of_tree (by kernel_rfl)
theorem entry_filter_iter : entryFor table "filter.__iter__" = some Builtin.«dict_keyiterator.__iter__» :=
  entryFor_alias (id' := "dict_keyiterator.__iter__") (by rw [fastTable_eq_tree]; kernel_rfl) (by first | rfl | decide +kernel) (by decide +kernel) (by rw [fastTable_eq_tree]; kernel_rfl)
theorem mro_filter : mroOf (.type "filter") = pure [.type "filter", .type "object"] := by rw [mroOf_type]; kernel_rfl
theorem lookup_filter_new : typeLookup (.type "filter") "__new__" = pure (some (.builtin "filter.__new__")) := by rw [typeLookup_type, builtinLookup_eq_fast]; kernel_rfl
theorem called_filter : TypeCalled "filter" "filter.__new__" "object.__init__" :=
  ⟨by decide +kernel, by decide +kernel, ⟨_, _, mro_filter⟩, madeBy_type mro_filter lookup_filter_new (by decide +kernel), by decide +kernel, by rw [isSubtype_type]; kernel_rfl, slot_filter_init⟩
theorem typeCall_filter_2 (a b : Value) : checkTypeCall "filter" ⟨[a, b], []⟩ = pure () := by kernel_rfl
theorem newCall_filter_2 (a b : Value) : checkBuiltinCall "filter.__new__" ⟨[.type "filter", a, b], []⟩ = pure () := by kernel_rfl
theorem entry_filter_new : entryFor table "filter.__new__" = some Builtin.«filter.__new__» := entryFor_of_tree (by kernel_rfl)
theorem sub_filter : isSubtype (.type "filter") (.type "filter") = pure true := by rw [isSubtype_type]; kernel_rfl
abbrev IsFilter (h : Heap) (f it : Addr) (fn : Value) : Prop := h.get? f = some { cls := .type "filter", dict := none, data := .fields #[fn, .ref it], slots := #[] }
theorem meets_filter_new (fn : Value) (t : Addr) (xs : Array Value) :
    Meets (Builtin.«filter.__new__» ⟨[.type "filter", fn, .ref t], []⟩) (fun _ R s => s.heap.IsTuple t xs ∧
      R (.ok (.ret (.ref (s.heap.objs.size + 1)))) { s with heap := (s.heap.push { cls := .type "tuple_iterator", data := .fields #[.ref t, .int 0 0] }).push { cls := .type "filter", data := .fields #[fn, .ref s.heap.objs.size] } }) :=
  .of_wp fun prog w A R s h => by
    obtain ⟨hp, g, d, tk, os⟩ := s; obtain ⟨hl1, h⟩ := h
    have hsub := sub_filter
    have hL1 : Heap.IsTuple (Shared.heap ⟨hp, g, d, tk, os⟩) t xs := hl1
    wp_walk using wpAny_pyIter_tuple hL1
    rw [Heap.size_push]
    exact ⟨_, rfl, h⟩
section
variable {w : World} {A : Around} {E : Value → Shared → Prop} {s : Shared}
theorem call_filter {t : Addr} {xs : Array Value} {fn : Value} {Q : Value → Shared → Prop} (ht : s.heap.IsTuple t xs)
    (h : ∀ h', IsFilter h' (s.heap.objs.size + 1) s.heap.objs.size fn → h'.IsTupleIter s.heap.objs.size t 0 → h'.objs.size = s.heap.objs.size + 2 → Ext s.heap h' → Q (.ref (s.heap.objs.size + 1)) { s with heap := h' }) :
    wpAny (MM w) A (call (.type "filter") [fn, .ref t]) Q E s := by
  refine callType_new called_filter (by decide) (typeCall_filter_2 _ _) (newCall_filter_2 _ _) (fun obj => F.args_object_init_3 obj _ _) entry_filter_new (meets_filter_new fn t xs) ⟨ht, ?_⟩
  have hz : (s.heap.push { cls := .type "tuple_iterator", data := .fields #[.ref t, .int 0 0] }).objs.size = s.heap.objs.size + 1 := Heap.size_push ..
  have he := Heap.get?_push_size (s.heap.push { cls := .type "tuple_iterator", data := .fields #[.ref t, .int 0 0] }) (o := { cls := .type "filter", data := .fields #[fn, .ref s.heap.objs.size] }) rfl
  rw [hz] at he
  exact ⟨⟨_, he, rfl⟩, h _ he ⟨_, Heap.get?_push_of_some _ (Heap.get?_push_size _ rfl), rfl, rfl⟩ (by rw [Heap.size_push, hz]) (Ext.trans ext_push ext_push)⟩
theorem iter_filter {f it : Addr} {fn : Value} {Q : Value → Shared → Prop} (he : IsFilter s.heap f it fn) (h : Q (.ref f) s) : wpAny (MM w) A (pyIter (.ref f)) Q E s := by
  have hT : s.TypeIs (.ref f) "filter" := ⟨_, he, rfl⟩
  refine wpAny_pyIter_slot hT slot_filter_iter (wpAny_call_entry slot_filter_iter hT entry_filter_iter ?_ (args_filter_iter_1 _))
  show wpAny _ _ (ret (.ref f)) _ _ s
  exact wpAny_pure ⟨_, rfl, "filter", _, hT, slot_filter_next.lookup, h⟩
end
end
section
set_option maxRecDepth 100000
set_option Elab.async false
set_option linter.unusedVariables false
section
variable {w : World} {A : Around} {E : Value → Shared → Prop} {s : Shared}
theorem raw_item {it t : Addr} {i : Nat} {items : Array Value} {x : Value} {Q : Option Value → Shared → Prop} (hit : s.heap.IsTupleIter it t i) (ht : s.heap.IsTuple t items) (hx : items[i]? = some x)
    (hQ : ∀ h', h'.IsTupleIter it t (i + 1) → Heap.SameBut it s.heap h' → Q (some x) { s with heap := h' }) : wpAny (MM w) A (callSpecial? (.ref it) "__next__") Q E s := by
  obtain ⟨o, ho, hc, hd⟩ := id hit
  obtain ⟨ol, hol, _, nl, hdl⟩ := ht
  refine wpAny_callSpecial?_slot (name := Str.ofString "__next__") hit.typeIs F.slot_tuple_iterator_next
    (wpAny_call_entry F.slot_tuple_iterator_next hit.typeIs F.entry_tuple_iterator_next ?_ (F.args_tuple_iterator_next_1 _))
  show wpAny _ _ (field (.ref it) 0 >>= _) _ _ s
  refine wpAny_bind (wpAny_field ho hd (x := .ref t) rfl ?_)
  show wpAny _ _ (if (Value.ref t == Value.none) = true then _ else _) _ _ s
  rw [if_neg (show ¬ ((Value.ref t == Value.none) = true) from Bool.false_ne_true)]
  show wpAny _ _ (field (.ref it) 1 >>= _) _ _ s
  refine wpAny_bind (wpAny_field ho hd (x := .int i 0) rfl ?_)
  show wpAny _ _ (seqItems? (.ref t) >>= _) _ _ s
  refine wpAny_bind (wpAny_seqItems hol hdl ?_)
  simp only [Int.toNat_natCast, hx]
  refine wpAny_bind (wpAny_setField ho hd (by simp) (wpAny_pure ⟨x, rfl, hQ _ ?_ (Heap.SameBut.update ..)⟩))
  exact ⟨_, Heap.get?_update_self _ ho (Obj.isFreed_of_fields (Obj.data_mapFields hd _)), (Obj.cls_mapFields ..).trans hc, by
    rw [Obj.data_mapFields hd]; simp [rawInt]⟩
theorem raw_end {it t : Addr} {i : Nat} {items : Array Value} {Q : Option Value → Shared → Prop} (hh : A.handled = none) (hit : s.heap.IsTupleIter it t i) (ht : s.heap.IsTuple t items) (hx : items[i]? = none)
    (hE : ∀ h' e, Heap.ExtBut it s.heap h' → (∃ o, h'.get? e = some o ∧ o.cls = .type "StopIteration") → E (.ref e) { s with heap := h' }) : wpAny (MM w) A (callSpecial? (.ref it) "__next__") Q E s := by
  obtain ⟨o, ho, hc, hd⟩ := id hit
  obtain ⟨ol, hol, _, nl, hdl⟩ := ht
  refine wpAny_callSpecial?_slot (name := Str.ofString "__next__") hit.typeIs F.slot_tuple_iterator_next
    (wpAny_call_entry F.slot_tuple_iterator_next hit.typeIs F.entry_tuple_iterator_next ?_ (F.args_tuple_iterator_next_1 _))
  show wpAny _ _ (field (.ref it) 0 >>= _) _ _ s
  refine wpAny_bind (wpAny_field ho hd (x := .ref t) rfl ?_)
  show wpAny _ _ (if (Value.ref t == Value.none) = true then _ else _) _ _ s
  rw [if_neg (show ¬ ((Value.ref t == Value.none) = true) from Bool.false_ne_true)]
  show wpAny _ _ (field (.ref it) 1 >>= _) _ _ s
  refine wpAny_bind (wpAny_field ho hd (x := .int i 0) rfl ?_)
  show wpAny _ _ (seqItems? (.ref t) >>= _) _ _ s
  refine wpAny_bind (wpAny_seqItems hol hdl ?_)
  simp only [Int.toNat_natCast, hx]
  refine wpAny_bind (wpAny_rule (wpAny_bind (wpAny_setField ho hd (by simp) ?_)))
  show wpAny _ _ (newExc (.type "StopIteration") [] >>= _) _ _ _
  refine wpAny_bind ?_
  simp only [newExc, newTuple]
  refine wpAny_bind (wpAny_newObj_type ?_ (by size_fits))
  refine wpAny_bind (m := firstArgMember _ _) (wpAny_of_eq (a := Value.none) (by first | rfl | (simp only [firstArgMember]; rfl)) ?_)
  refine wpAny_newObj_type ?_ (by size_fits)
  simp only [raiseNew]
  refine wpAny_bind (wpAny_handled ?_)
  first | rw [show A.in1.handled = none from hh] | rw [hh]
  refine wpAny_bind (wpAny_pure (wpAny_throw ?_))
  exact hE _ _ (((Heap.SameBut.update ..).extBut.push _).push _) ⟨_, Heap.get?_push_size _ rfl, rfl⟩
abbrev lenF : Value := .builtin "len"
theorem filter_go {R : Result → Shared → Prop} {f it t : Addr} {items : Array Value} {xs : List Str} (hA : A.handled = none) (hne : f ≠ it) (htn : t ≠ it) (hs : StrsAre items.toList xs) (hz : ∀ x ∈ xs, x.length ≤ sizeLine) :
    ∀ (k i : Nat) (s : Shared), k + i = items.size → IsFilter s.heap f it lenF → s.heap.IsTupleIter it t i → s.heap.IsTuple t items →
      (∀ (j : Nat) (y : Str) (u : Tok) h' tk, i ≤ j → items[j]? = some (.str y u) → xs[j]? = some y → y.length ≠ 0 → (∀ m, i ≤ m → m < j → ∀ z, xs[m]? = some z → z.length = 0) → h'.IsTupleIter it t (j + 1) → Heap.ExtBut it s.heap h' → R (.ok (.ret (.str y u))) { s with heap := h', toks := tk }) →
      ((∀ m, i ≤ m → ∀ z, xs[m]? = some z → z.length = 0) → ∀ e h' tk, Heap.ExtBut it s.heap h' → (∃ o, h'.get? e = some o ∧ o.cls = .type "StopIteration") → R (.error (.ref e)) { s with heap := h', toks := tk }) →
      wpAny (MM w) A.in1 (Builtin.«filter.__next__» ⟨[.ref f], []⟩) (fun fin s' => match fin with | .done fl => R (.ok fl) s' | .again c' => c'.quiet = true ∧ codeAny (MM w) A c' R s') (fun e s' => R (.error e) s') s
  | 0, i, s, hk, hf, hit, ht, h1, h2 => by
    show wpAny _ _ (field (.ref f) 0 >>= _) _ _ s
    refine wpAny_bind (wpAny_field hf rfl (x := lenF) rfl ?_)
    show wpAny _ _ (field (.ref f) 1 >>= _) _ _ s
    refine wpAny_bind (wpAny_field hf rfl (x := .ref it) rfl ?_)
    show wpAny _ _ (callSpecial? (.ref it) "__next__" >>= _) _ _ s
    refine wpAny_bind (raw_end hA hit ht (by simp; omega) fun h' e he ho => ?_)
    refine h2 (fun m hm z hzz => ?_) e h' s.toks he ho
    have : m < xs.length := (List.getElem?_eq_some_iff.mp hzz).1
    have := hs.length
    simp at this
    omega
  | k + 1, i, s, hk, hf, hit, ht, h1, h2 => by
    have hlt : i < items.size := by omega
    have hlx : i < xs.length := by have := hs.length; simp at this; omega
    obtain ⟨u, hu⟩ := StrsAre.at? hs i xs[i] (by simp [hlx])
    have hu' : items[i]? = some (.str xs[i] u) := by simpa using hu
    show wpAny _ _ (field (.ref f) 0 >>= _) _ _ s
    refine wpAny_bind (wpAny_field hf rfl (x := lenF) rfl ?_)
    show wpAny _ _ (field (.ref f) 1 >>= _) _ _ s
    refine wpAny_bind (wpAny_field hf rfl (x := .ref it) rfl ?_)
    show wpAny _ _ (callSpecial? (.ref it) "__next__" >>= _) _ _ s
    refine wpAny_bind (raw_item hit ht hu' fun h₁ hit₁ hs₁ => ?_)
    show wpAny _ _ (holding [Value.str xs[i] u] (call lenF [Value.str xs[i] u] >>= fun good => holding [good] (truthy good)) >>= _) _ _ _
    have hzi := hz xs[i] (List.getElem_mem hlx)
    refine wpAny_bind (wpAny_holding (wpAny_bind (PyProof.Rows.len_str (by have := sizeLine_eq; omega) (wpAny_holding ?_))))
    refine PyProof.Rows.truthy_int ?_
    by_cases h0 : xs[i].length = 0
    · rw [h0]
      refine wpAny_pure ⟨plainId_quiet (by decide +kernel) _, codeAny_builtin entry_filter_next ?_⟩
      rw [Around.under_plainId (by decide +kernel)]
      have hf₁ : IsFilter h₁ f it lenF := (hs₁.2 f hne).trans hf
      have ht₁ : h₁.IsTuple t items := ht.extBut hs₁.extBut htn
      refine filter_go hA hne htn hs hz k (i + 1) _ (by omega) hf₁ hit₁ ht₁ (fun j y u' h' tk hj e1 e2 hy hm ht' he' => h1 j y u' h' tk (by omega) e1 e2 hy (fun m hm1 hm2 z hz' => ?_) ht' fun b o hb e => he' b o hb (hs₁.extBut b o hb e)) (fun hall e h' tk he' ho => h2 (fun m hm z hz' => ?_) e h' tk (fun b o hb e => he' b o hb (hs₁.extBut b o hb e)) ho)
      · rcases Nat.lt_or_ge i m with q | q
        · exact hm m (by omega) hm2 z hz'
        · have : m = i := by omega
          subst this
          simp [hlx] at hz'; subst hz'; exact h0
      · rcases Nat.lt_or_ge i m with q | q
        · exact hall m (by omega) z hz'
        · have : m = i := by omega
          subst this
          simp [hlx] at hz'; subst hz'; exact h0
    · have : ((xs[i].length : Int) != 0) = true := by simp; omega
      rw [this]
      exact wpAny_pure (h1 i xs[i] u h₁ _ (Nat.le_refl _) hu' (by simp [hlx]) h0 (fun m a b => by omega) hit₁ hs₁.extBut)
end
end
section
set_option maxRecDepth 100000
set_option Elab.async false
set_option linter.unusedVariables false
def ne0 (x : Str) : Bool := decide (x.length ≠ 0)
theorem take_same (xs : List Str) : ∀ (d i : Nat), (∀ m, i ≤ m → m < i + d → ∀ z, xs[m]? = some z → z.length = 0) → (xs.take (i + d)).filter ne0 = (xs.take i).filter ne0
  | 0, i, _ => rfl
  | d + 1, i, h => by
    have ih := take_same xs d i fun m a b => h m a (by omega)
    rw [← Nat.add_assoc, List.take_add_one, List.filter_append, ih]
    cases e : xs[i + d]? with
    | none => simp
    | some z =>
      have := h (i + d) (by omega) (by omega) z e
      simp [ne0, this]
theorem found_at {xs : List Str} {i j : Nat} {y : Str} (hij : i ≤ j) (hy : xs[j]? = some y) (hn : y.length ≠ 0) (hb : ∀ m, i ≤ m → m < j → ∀ z, xs[m]? = some z → z.length = 0) :
    ((xs.take (j + 1)).filter ne0) = (xs.take i).filter ne0 ++ [y] ∧ (xs.filter ne0)[((xs.take i).filter ne0).length]? = some y := by
  have e1 := take_same xs (j - i) i (fun m a b => hb m a (by omega))
  rw [show i + (j - i) = j by omega] at e1
  have e2 : ((xs.take (j + 1)).filter ne0) = (xs.take i).filter ne0 ++ [y] := by
    rw [List.take_add_one, hy, List.filter_append, e1]
    simp [ne0, hn]
  refine ⟨e2, ?_⟩
  have e3 : xs.filter ne0 = (xs.take (j + 1)).filter ne0 ++ (xs.drop (j + 1)).filter ne0 := by rw [← List.filter_append, List.take_append_drop]
  rw [e3, e2]
  simp
theorem none_left {xs : List Str} {i : Nat} (h : ∀ m, i ≤ m → ∀ z, xs[m]? = some z → z.length = 0) : xs.filter ne0 = (xs.take i).filter ne0 := by
  have e1 := take_same xs xs.length i (fun m a _ => h m a)
  rw [← e1, List.take_of_length_le (by omega)]
section
variable {w : World} {A : Around} {E : Value → Shared → Prop} {s : Shared}
theorem filter_call {R : Result → Shared → Prop} {f it t : Addr} {items : Array Value} {xs : List Str} {i : Nat} (hA : A.handled = none) (hne : f ≠ it) (htn : t ≠ it) (hs : StrsAre items.toList xs) (hz : ∀ x ∈ xs, x.length ≤ sizeLine)
    (hi : i ≤ items.size) (hf : IsFilter s.heap f it lenF) (hit : s.heap.IsTupleIter it t i) (ht : s.heap.IsTuple t items)
    (h1 : ∀ (j : Nat) (y : Str) (u : Tok) h' tk, i ≤ j → items[j]? = some (.str y u) → xs[j]? = some y → y.length ≠ 0 → (∀ m, i ≤ m → m < j → ∀ z, xs[m]? = some z → z.length = 0) → h'.IsTupleIter it t (j + 1) → Heap.ExtBut it s.heap h' → R (.ok (.ret (.str y u))) { s with heap := h', toks := tk })
    (h2 : (∀ m, i ≤ m → ∀ z, xs[m]? = some z → z.length = 0) → ∀ e h' tk, Heap.ExtBut it s.heap h' → (∃ o, h'.get? e = some o ∧ o.cls = .type "StopIteration") → R (.error (.ref e)) { s with heap := h', toks := tk }) :
    codeAny (MM w) A (.call (.builtin "filter.__next__") ⟨[.ref f], []⟩) R s :=
  codeAny_call_builtin slot_filter_next.plain entry_filter_next (slot_filter_next.check _ _ _ _ _ _ _ _ ⟨_, hf, rfl⟩ (args_filter_next_1 _) (filter_go hA hne htn hs hz (items.size - i) i s (by omega) hf hit ht h1 h2))
theorem next_filter {f it t : Addr} {items : Array Value} {xs : List Str} {i : Nat} {Q : Option Value → Shared → Prop} (hA : A.handled = none) (hne : f ≠ it) (htn : t ≠ it) (hs : StrsAre items.toList xs) (hz : ∀ x ∈ xs, x.length ≤ sizeLine)
    (hi : i ≤ items.size) (hf : IsFilter s.heap f it lenF) (hit : s.heap.IsTupleIter it t i) (ht : s.heap.IsTuple t items)
    (h1 : ∀ (j : Nat) (y : Str) (u : Tok) h' tk, i ≤ j → j < items.size → xs[j]? = some y → y.length ≠ 0 → (∀ m, i ≤ m → m < j → ∀ z, xs[m]? = some z → z.length = 0) → h'.IsTupleIter it t (j + 1) → Heap.ExtBut it s.heap h' → Q (some (.str y u)) { s with heap := h', toks := tk })
    (h2 : (∀ m, i ≤ m → ∀ z, xs[m]? = some z → z.length = 0) → ∀ h' tk, Heap.ExtBut it s.heap h' → Q none { s with heap := h', toks := tk }) : wpAny (MM w) A (pyNext (.ref f)) Q E s := by
  have hT : s.TypeIs (.ref f) "filter" := ⟨_, hf, rfl⟩
  unfold pyNext
  refine wpAny_bind (wpAny_attempt (wpAny_callSpecial?_slot (name := Str.ofString "__next__") hT slot_filter_next (wpAny_call (filter_call hA hne htn hs hz hi hf hit ht (fun j y u h' tk hj e1 e2 hy hm ht' he' => ?_) fun hall e h' tk he' ho => ?_))))
  · exact wpAny_pure (h1 j y u h' tk hj (Array.getElem?_eq_some_iff.mp e1).1 e2 hy hm ht' he')
  · refine wpAny_bind (wpAny_isInstance (T := "StopIteration") (b := true) ho isSubtype_stop ?_)
    exact wpAny_pure (h2 hall h' tk he')
theorem walks_filter (hA : A.handled = none) (f it t : Addr) (items : Array Value) (xs : List Str) (hne : f ≠ it) (htn : t ≠ it) (hs : StrsAre items.toList xs) (hz : ∀ x ∈ xs, x.length ≤ sizeLine) :
    Walks pW w A f [f, it, t] [it] (xs.filter ne0).length (fun k v => ∃ y u, (xs.filter ne0)[k]? = some y ∧ v = .str y u)
      (fun k h => ∃ i, i ≤ items.size ∧ IsFilter h f it lenF ∧ h.IsTupleIter it t i ∧ h.IsTuple t items ∧ ((xs.take i).filter ne0).length = k) where
  sub := fun b hb => by simp at hb; simp [hb]
  frame := fun _ _ _ ⟨i, h0, h1, h2, h3, h4⟩ hk => ⟨i, h0, hk f (by simp) _ h1, h2.at fun o e => hk it (by simp) o e, h3.at fun o e => hk t (by simp) o e, h4⟩
  item := fun k s Q E hk ⟨i, h0, hf, hit, ht, hl⟩ hQ => by
    refine next_filter hA hne htn hs hz h0 hf hit ht (fun j y u h' tk hj hlt e2 hy hm ht' he' => ?_) fun hall h' tk he' => ?_
    · obtain ⟨q1, q2⟩ := found_at hj e2 hy hm
      exact hQ _ h' tk ⟨y, u, by rw [← hl]; exact q2, rfl⟩ ⟨j + 1, hlt, he' f _ hne hf, ht', ht.at fun o e => he' t o htn e, by rw [q1, List.length_append, hl]; rfl⟩ fun b o hb e => he' b o (fun q => hb (by simp [q])) e
    · have := none_left hall
      rw [this, hl] at hk
      exact absurd hk (Nat.lt_irrefl _)
  done := fun s Q E ⟨i, h0, hf, hit, ht, hl⟩ hQ => by
    refine next_filter hA hne htn hs hz h0 hf hit ht (fun j y u h' tk hj hlt e2 hy hm ht' he' => ?_) fun hall h' tk he' => ?_
    · obtain ⟨q1, q2⟩ := found_at hj e2 hy hm
      have := (List.getElem?_eq_some_iff.mp q2).1
      rw [hl] at this
      exact absurd this (Nat.lt_irrefl _)
    · exact hQ h' tk fun b o hb e => he' b o (fun q => hb (by simp [q])) e
  self := fun _ _ _ _ ⟨i, h0, hf, _⟩ hQ => iter_filter hf hQ
end
end
section
set_option maxRecDepth 100000
set_option Elab.async false
set_option linter.unusedVariables false
set_option maxHeartbeats 2000000
section
variable {M : Model} {A : Around} {E : Value → Shared → Prop} {s : Shared}
theorem genCode {env : Env} {c P : Addr} {ps : Array Value} {pos : Pos} {qualname : Str} {scope : Scope} {Q : Value → Shared → Prop} (hc : env.code = .ref c) (hok : s.heap.IsCode c P ps) (htab : s.heap.TableAt c P ps)
    (hQ : ∀ cv h' tk more, Heap.ExtBut P s.heap h' → s.heap.objs.size ≤ h'.objs.size → h'.IsCode c P (ps ++ more) → h'.TableAt c P (ps ++ more) → Q cv { s with heap := h', toks := tk }) :
    wpAny M A (genexprCode env pos qualname scope) Q E s := by
  cases hf : codeAmong pos ps.toList with
  | none => exact wpAny_genexprCodeX hc hok htab hf fun c' h' tk hx hge hlt hcode _ ht _ => hQ _ h' tk _ hx (Nat.le_trans hge (Nat.le_of_lt hlt)) hcode ht
  | some cv =>
    obtain ⟨o, vs, file, tf, flags, tg, inF, text, tt, op, ho, hd, h11, h2, h7, h9, h10, hop, hpd, htr, hne⟩ := id hok
    unfold genexprCode codeAt
    rw [hc, if_neg (show ¬ ((Value.ref c == Value.none) = true) from Bool.false_ne_true)]
    refine wpAny_bind (wpAny_fieldsOf ho hd ?_)
    rw [h11]
    refine wpAny_bind (wpAny_fieldsOf hop hpd ?_)
    rw [hf]
    refine wpAny_pure ?_
    have e : ps ++ #[] = ps := Array.append_empty
    exact hQ cv s.heap s.toks #[] (fun _ _ _ e => e) (Nat.le_refl _) (e.symm ▸ hok) (e.symm ▸ htab)
end
theorem passing_all (n : Nat) : passing (fun _ => true) n 0 = List.range n := by unfold passing; simp
/-- the def's own table of codes, and what the generator's code asks of the names -/
structure Pl (h : Heap) (ps : Array Value) : Prop where
  code : h.IsCode 27 23 ps
  tab : h.TableAt 27 23 ps
  bm : ∃ mg bm ob, BMod h mainGlobals mg bm ob
theorem Pl.keeps {h h' : Heap} {ps : Array Value} (x : Pl h ps) (k : Ext h h') : Pl h' ps := ⟨x.code.keeps k, x.tab.keeps k, let ⟨a, b, c, d⟩ := x.bm; ⟨a, b, c, d.keeps k⟩⟩
theorem k26 (w : World) : (KF w).lookup 23 = none := rfl
theorem Ns.ne26 {h : Heap} {ps : Array Value} {L : Addr} {m : Str → Option Value} (p : Pl h ps) (n : h.Ns L m) : L ≠ 23 := fun e => by
  obtain ⟨o, es, ep, ho, hd, _⟩ := n
  rw [e, p.tab.2] at ho
  cases ho
  cases hd
theorem Gl.but {w : World} {h h' : Heap} {ps : Array Value} (g : Gl w h) (p : Pl h ps) (x : Heap.ExtBut 23 h h') : Gl w h' where
  k := fun a o e => x a o (fun q => by rw [q, k26 w] at e; cases e) (g.k a o e)
  lim := let ⟨mc, a, b⟩ := g.lim; g.lim.extBut x (Ns.ne26 p a)
  nod := let ⟨mc, a, b⟩ := g.nod; ⟨mc, a.extBut x (Ns.ne26 p a), b⟩
  glob := let ⟨mg, a⟩ := g.glob; ⟨mg, a.extBut x (Ns.ne26 p a)⟩
  blt := let ⟨mb, a, b⟩ := g.blt; ⟨mb, a.extBut x (Ns.ne26 p a), b⟩
theorem Rep.but {h h' : Heap} {ps : Array Value} {d : D} {v : Value} (r : Rep h d v) (p : Pl h ps) (k : Heap.ExtBut 23 h h') : Rep h' d v := by
  have ne : ∀ a o xs c, h.get? a = some o → o.data = .seq xs c → a ≠ 23 := fun a o xs c e q w => by
    rw [w, p.tab.2] at e; cases e; cases q
  cases d with
  | none => exact r
  | bool b => exact r
  | int i => exact r
  | str x => exact r
  | nums l => obtain ⟨a, vs, e, ⟨o, x1, x2, n, x3⟩, y⟩ := r; exact ⟨a, vs, e, ⟨o, k a o (ne _ _ _ _ x1 x3) x1, x2, n, x3⟩, y⟩
  | txts l => obtain ⟨a, vs, e, ⟨o, x1, x2, n, x3⟩, y⟩ := r; exact ⟨a, vs, e, ⟨o, k a o (ne _ _ _ _ x1 x3) x1, x2, n, x3⟩, y⟩
  | tup l => obtain ⟨a, vs, e, ⟨o, x1, x2, n, x3⟩, y⟩ := r; exact ⟨a, vs, e, ⟨o, k a o (ne _ _ _ _ x1 x3) x1, x2, n, x3⟩, y⟩
  | tab => exact r
theorem regrown_ext {h : Heap} {ps : Array Value} (ps' : Array Value) (p : Pl h ps) : Heap.ExtBut 23 h (regrown h 23 ps') := fun b o hb e => (Heap.get?_update_other _ _ (Ne.symm hb)).trans e
abbrev gsc : Scope := { kind := .function, names := [(".0", .local), ("x", .local)], isGenerator := true, isCoroutine := false }
theorem quiet_strip {w : World} {C : Addr} {cd : Value} {env : Env} {zs : List Str} {fp wr : List Addr} {href : Heap} (hz : ∀ x ∈ zs, x.length ≤ sizeLine) :
    QuietGen pW w (genEnv gsc [] C cd builtinsNs env) "x" [] (.Call (.Attribute (.Name "x" ⟨24, 25, 24, 26⟩) "strip" ⟨24, 25, 24, 32⟩) [] [] ⟨24, 25, 24, 34⟩) fp wr (fun k v => ∃ y u, zs[k]? = some y ∧ v = .str y u) (fun _ => true)
      (fun k v => ∃ y u, zs[k]? = some y ∧ v = .str (Txt.strip y) u) href where
  tests := fun A' E' i v s₂ m₂ _ _ _ _ _ => wpAny_pure ⟨rfl, keeps_self⟩
  elt := fun A' E' i v s₂ m₂ hh ⟨y, u, hy, hv⟩ _ hn hm _ => by
    subst hv
    refine MethodCall_ (wpAny_Name (wpAny_loadName_local rfl rfl hn hm ?_) (by decide))
    with_reducible refine GM.strip ?_
    refine callWith_method0 (SC.strip (fun t' k => ⟨⟨y, _, hy, rfl⟩, keeps_tok⟩) (hz y (List.mem_of_getElem? hy)))
theorem map_range (l : List Str) : (List.range l.length).map (fun j => (l[j]?).getD default) = l := by
  apply List.ext_getElem?
  intro j
  by_cases h : j < l.length
  · simp [h]
  · rw [List.getElem?_eq_none (by simpa using h), List.getElem?_eq_none (by omega)]
theorem join_gen {w : World} {c : Cx} {s : Shared} {va : Value} {mv : Str → Option Value} {base : Heap} {ps : Array Value} {xs : List Str} {Q : Value → Shared → Prop}
    (ok : c.Ok) (hg : Gl w base) (htk : 0 < s.toks) (F : Fr base c.env.locals s.heap mv) (hva : mv "args" = some va) (hr : Rep base (.tup xs) va) (ha : c.env.kindOf "args" = some .local) (hfi : c.env.kindOf "filter" = some .globalImplicit) (hle : c.env.kindOf "len" = some .globalImplicit)
    (hcode : c.env.code = .ref 27) (hP : Pl base ps) (hb : AllBare s.gens) (hz : ∀ x ∈ xs, x.length ≤ sizeLine) (hn : xs.length ≤ sizeLine) (hj : JoinOk "-" ((xs.filter ne0).map Txt.strip) = true)
    (k : ∀ base' s' ps' t, Fx w base' c.env [("args", .tup xs)] s' → Pl base' ps' → AllBare s'.gens → s'.os = s.os → Heap.ExtBut 23 base base' → (∃ more, ps' = ps ++ more) → Q (.str (Txt.join "-" ((xs.filter ne0).map Txt.strip)) t) s') :
    wpAny (MM w) c.A (eval (.Call (.Attribute (.Constant (.str "-") 0 ⟨24, 15, 24, 18⟩) "join" ⟨24, 15, 24, 23⟩) [.GeneratorExp (.Call (.Attribute (.Name "x" ⟨24, 25, 24, 26⟩) "strip" ⟨24, 25, 24, 32⟩) [] [] ⟨24, 25, 24, 34⟩) [⟨.Name "x" ⟨24, 39, 24, 40⟩, .Call (.Name "filter" ⟨24, 44, 24, 50⟩) [.Name "len" ⟨24, 51, 24, 54⟩, .Name "args" ⟨24, 56, 24, 60⟩] [] ⟨24, 44, 24, 61⟩, [], 0⟩] gsc ⟨24, 24, 24, 62⟩] [] ⟨24, 15, 24, 63⟩) c.env) Q No s := by
  obtain ⟨t, vs, rfl, ht0, hss⟩ := id hr
  have ht := isTup_keeps ht0 F.keep
  have hh := ok.rm.hd
  with_reducible refine wpAny_mono (wpAny_toks (Q := fun v s' => ∃ ps' tv, v = .str (Txt.join "-" ((xs.filter ne0).map Txt.strip)) tv ∧ Fr (regrown base 23 ps') c.env.locals s'.heap mv ∧ Pl (regrown base 23 ps') ps' ∧ AllBare s'.gens ∧ s'.os = s.os ∧ ∃ more, ps' = ps ++ more) (E := No) ?_) ?_ ?_
  rotate_left
  · intro v s' ⟨hle, ps', tv, e, F', P', B', O', M'⟩
    subst e
    refine k _ s' ps' tv ⟨hg.but hP (regrown_ext ps' hP), Nat.lt_of_lt_of_le htk hle, mv, F', fun x d e => ?_⟩ P' B' O' (regrown_ext ps' hP) M'
    rw [List.lookup_cons] at e
    by_cases hx : x = "args"
    · subst hx
      simp only [beq_self_eq_true] at e
      cases e
      exact ⟨_, hva, (hr.but hP (regrown_ext ps' hP)).keeps F'.keep⟩
    · rw [show (x == ("args" : Str)) = false from by simpa using hx] at e
      cases e
  · exact fun _ _ x => x.2
  with_reducible refine' MethodCall_ ?h ?he
  case he => exact rfl
  with_reducible refine wpAny_Constant_str ?_
  with_reducible refine Gm.join.use rfl ?_
  refine callWith_method1 (spliced_more ?_)
  have sees : Sees w c.env [] { s with toks := s.toks + 1 } := ⟨hg.keeps F.keep, Nat.succ_pos _, mv, F.ns, fun x d e => by cases e⟩
  have htt : s.heap.IsTuple t vs.toArray := ht
  have hPs := hP.keeps F.keep
  refine wpAny_GeneratorExp_walksQ hh rfl rfl (by decide) rfl rfl rfl (by have := ok.rm.dp; omega) ?_ (fun _ => rfl)
  show wpAny _ _ (eval (.Name "filter" _) c.env >>= fun f => callWith _ f [] (backTo _ (starEach [_, _] c.env)) []) _ _ _
  refine wpAny_bind (wp_bname ok sees rfl rfl hfi ?_ (by decide) (by decide))
  refine PyProof.Rows.callWith_type1 (spliced_more (wp_bname ok sees rfl rfl hle (spliced_more (wpAny_Name (wpAny_loadName_local ok.en.k ha F.ns hva (spliced_none ?_)) (by decide))) (by decide) (by decide)))
  refine call_filter htt fun h₁ f1 f2 f3 f4 => ?_
  refine iter_filter f1 ⟨hg.lim.keeps (Ext.trans F.keep f4), ?_⟩
  refine genCode hcode (hPs.keeps f4).code (hPs.keeps f4).tab fun cv h₃ tk more x1 x2 x3 x4 => ?_
  obtain ⟨mg, bm, ob, BM⟩ := hP.bm
  have hP1 : Pl h₁ ps := hPs.keeps f4
  have BM₃ : BMod h₃ mainGlobals mg bm ob := (BM.keeps (Ext.trans F.keep f4)).extBut hP1.tab x1
  have h26 : (23 : Addr) ≠ cStatics := by decide
  obtain ⟨B₃, F₃⟩ := (Based.start hP.code hP.tab h26).grow (F.keeps f4) x1 x3 x4
  have hbf : ∀ (Q : Addr → Shared → Prop), Q builtinsNs { s with heap := h₃, toks := tk } → wpAny (MM w) c.A (builtinsFor c.env.globals c.env.builtins) Q No { s with heap := h₃, toks := tk } := fun Q hq => by
    rw [ok.en.g]
    exact wpAny_builtinsFor BM₃.ns BM₃.name BM₃.ne BM₃.obj BM₃.cls BM₃.dict BM₃.data hq
  refine hbf _ ?_
  have hsz1 : s.heap.objs.size + 2 ≤ h₃.objs.size := f3 ▸ x2
  have hss' : StrsAre vs.toArray.toList xs := hss
  have hLt : c.env.locals < s.heap.objs.size := F.ns.lt
  have htl : t < s.heap.objs.size := by obtain ⟨_, e, _⟩ := ht; exact Heap.lt_size e
  have ht26 : t ≠ 23 := fun e => by
    obtain ⟨o, ho, hc, _⟩ := ht
    rw [e, hPs.tab.2] at ho; cases ho; exact absurd hc (by simp)
  have h26s : 23 < s.heap.objs.size := Heap.lt_size hPs.tab.2
  have hl₃ : h₃.NoLimit := (hg.lim.keeps (Ext.trans F.keep f4)).extBut x1 h26.symm
  have W₀ : ∀ A' : Around, A'.handled = none → _ := fun A' hA' => walks_filter (w := w) (A := A') hA' (s.heap.objs.size + 1) s.heap.objs.size t vs.toArray xs (Nat.ne_of_gt (Nat.lt_succ_self _)) (Nat.ne_of_lt htl) hss' hz
  refine ⟨s.heap.objs.size + 1, [s.heap.objs.size + 1, s.heap.objs.size, t], [s.heap.objs.size], _, _, _, fun _ => true, fun k v => ∃ y u, (xs.filter ne0)[k]? = some y ∧ v = .str (Txt.strip y) u, rfl, W₀,
    (W₀ c.A hh).frame 0 h₁ h₃ ⟨0, Nat.zero_le _, f1, f2, isTup_keeps ht f4, rfl⟩ (fun b hb o e => x1 b o (fun q => ?_) e), ?_, hl₃, ?_, fun href hk => quiet_strip (fun x hx => hz x ((List.mem_filter.mp hx).1)), ?_⟩
  · subst q
    rcases List.mem_cons.mp hb with q | hb
    · exact Nat.ne_of_lt (Nat.lt_succ_of_lt h26s) q
    rcases List.mem_cons.mp hb with q | hb
    · exact Nat.ne_of_lt h26s q
    exact ht26 (List.mem_singleton.mp hb).symm
  · intro b hb
    rcases List.mem_cons.mp hb with q | hb
    · exact q ▸ hsz1
    rcases List.mem_cons.mp hb with q | hb
    · exact q ▸ Nat.lt_of_succ_lt hsz1
    exact (List.mem_singleton.mp hb) ▸ Nat.lt_trans htl (Nat.lt_of_succ_lt hsz1)
  · intro hb
    have e := List.mem_singleton.mp hb
    exact absurd (e ▸ h26s : (23 : Nat) < cStatics) (by decide)
  intro a h₅ tk₅ gs hgb hag hsz₅ hk₅ W hat
  refine spliced_none ?_
  rw [passing_all] at W
  have hX : Gen pW w c.A c.env.locals a (List.range (xs.filter ne0).length).length _ { s with heap := h₅, gens := s.gens.push gs, toks := tk₅ } := ⟨_, _, _, _, W, hat, (fun i s' st => st.1.typeIs), List.mem_cons_self, ?_, ?_⟩
  · have hmr : (List.range (List.range (xs.filter ne0).length).length).map (fun j => (((xs.filter ne0).map Txt.strip)[j]?).getD default) = (xs.filter ne0).map Txt.strip := by
      have := map_range ((xs.filter ne0).map Txt.strip)
      rw [List.length_map] at this
      rw [List.length_range]
      exact this
    refine join_rows (F₃.keeps hk₅) (hb.push hgb) hX (fun j => (((xs.filter ne0).map Txt.strip)[j]?).getD default) ?_ ?_ ?_ ?_
    · rintro j v ⟨i, hi, y, u, hy, rfl⟩
      have : i = j := by
        rw [List.getElem?_range (by have := (List.getElem?_eq_some_iff.mp hi).1; simpa using this)] at hi
        exact (Option.some.inj hi).symm
      subst this
      exact ⟨u, by simp [hy]⟩
    · rw [hmr]
      exact hj
    · intro s' t' F' G' O'
      refine ⟨_, t', by rw [hmr], F', ⟨B₃.code, B₃.tab, mg, bm, ob, BM.extBut hP.tab (regrown_ext _ hP)⟩, G', O', more, rfl⟩
    · rw [List.length_range]
      exact Nat.le_trans (List.length_filter_le _ _) hn
  · intro b hb
    show b < h₅.objs.size
    rw [hsz₅]
    rcases List.mem_cons.mp hb with rfl | hb
    · exact Nat.lt_succ_self _
    · rcases List.mem_cons.mp hb with rfl | hb
      · exact Nat.lt_succ_of_lt hag
      · exact Nat.lt_succ_of_lt (Nat.lt_trans (List.mem_range.mp hb) hag)
  · intro b hb
    rcases List.mem_cons.mp hb with rfl | hb
    · exact Nat.lt_of_lt_of_le (Nat.lt_trans hLt (Nat.lt_succ_self _)) (Nat.le_of_succ_le hsz1)
    · exact (List.mem_singleton.mp hb) ▸ hLt
end
section
set_option maxRecDepth 100000
set_option Elab.async false
set_option linter.unusedVariables false
set_option maxHeartbeats 1000000
section
variable {w : World} {c : Cx} {m : Mem}
theorem Ev.repl_ {o : PySem.Expr} {apos pos p1 p2 : Pos} {k1 k2 : Nat} {pl : Sem Bool} {ys zs : Str} {l y z : List Nat} (hys : ys = S y) (hzs : zs = S z) (hm : MethEq c.env o "replace" apos pos [.Constant (.str ys) k1 p1, .Constant (.str zs) k2 p2] pl) (ho : Ev w c m o (.str (S l)))
    (hyz : y ≠ z) (hy : y ≠ []) (hb : l.length + (l.length + 1) * z.length ≤ 16777216) :
    Ev w c m (.Call (.Attribute o "replace" apos) [.Constant (.str ys) k1 p1, .Constant (.str zs) k2 p2] [] pos) (.str (S (replGo y z 0 l))) := by
  subst hys hzs
  rw [← replace_S l y z hy]
  exact Ev.replace hm ho (by rw [S_beq]; exact decide_eq_false hyz) (by rw [S_len, S_len]; exact hb)
end
def sub1 (c z : Nat) (l : List Nat) : List Nat := l.map fun x => if x = c then z else x
theorem repl_one (c z : Nat) : ∀ l, replGo [c] [z] 0 l = sub1 c z l
  | [] => rfl
  | x :: l => by
    have ih := repl_one c z l
    unfold replGo sub1
    by_cases h : x = c
    · subst h; simp [ih, sub1]
    · simp [h, ih, sub1]
theorem sub1_len (c z : Nat) (l : List Nat) : (sub1 c z l).length = l.length := by simp [sub1]
def unkP : List Nat := [117, 110, 107, 110, 111, 119, 110]
theorem repl_nil_len (y : List Nat) (hy : y ≠ []) : ∀ (l : List Nat) (k : Nat), (replGo y [] k l).length ≤ l.length
  | [], k => by cases k <;> exact Nat.le_refl _
  | c :: l, k + 1 => by
    have := repl_nil_len y hy l k
    show (replGo y [] k l).length ≤ _
    simp; omega
  | c :: l, 0 => by
    unfold replGo
    split
    · have := repl_nil_len y hy l (y.length - 1)
      simp; omega
    · have := repl_nil_len y hy l 0
      simp; omega
def dash1 (l : List Nat) : List Nat := replGo [45, 45] [45] 0 l
def dedup : List Nat → List Nat
  | [] => []
  | [x] => [x]
  | x :: y :: l => if x = 45 ∧ y = 45 then dedup (y :: l) else x :: dedup (y :: l)
theorem dash1_eq : ∀ l, dash1 l = match l with | [] => [] | [x] => [x] | x :: y :: l => if x = 45 ∧ y = 45 then 45 :: dash1 l else x :: dash1 (y :: l)
  | [] => rfl
  | [x] => by simp [dash1, replGo]
  | x :: y :: l => by
    by_cases h : x = 45 ∧ y = 45
    · obtain ⟨rfl, rfl⟩ := h
      simp [dash1, replGo]
    · simp only [if_neg h]
      simp [dash1, replGo, h]
theorem dash1_len : ∀ l, (dash1 l).length ≤ l.length ∧ ((dash1 l).length = l.length → dash1 l = l)
  | [] => ⟨Nat.le_refl _, fun _ => rfl⟩
  | [x] => by rw [dash1_eq]; exact ⟨Nat.le_refl _, fun _ => rfl⟩
  | x :: y :: l => by
    rw [dash1_eq]
    dsimp only
    split
    · have := (dash1_len l).1
      simp; omega
    · obtain ⟨a, b⟩ := dash1_len (y :: l)
      constructor
      · simp at *; omega
      · intro h
        rw [b (by simpa using h)]
theorem dedup_cons (x : Nat) (l : List Nat) : dedup (x :: l) = if x = 45 ∧ l.head? = some 45 then dedup l else x :: dedup l := by
  cases l with
  | nil => simp [dedup]
  | cons y l => simp [dedup]
theorem dash1_head : ∀ l, (dash1 l).head? = l.head?
  | [] => rfl
  | [x] => by rw [dash1_eq]
  | x :: y :: l => by
    rw [dash1_eq]
    dsimp only
    split
    · rename_i h; simp [h.1]
    · rfl
theorem dedup_dash : ∀ l, dedup (dash1 l) = dedup l
  | [] => rfl
  | [x] => by rw [dash1_eq]
  | x :: y :: l => by
    rw [dash1_eq]
    dsimp only
    split
    · rename_i h
      obtain ⟨rfl, rfl⟩ := h
      rw [dedup_cons, dash1_head, dedup_dash l, ← dedup_cons]
      exact (dedup_cons 45 (45 :: l)).symm ▸ by simp
    · rename_i h
      rw [dedup_cons, dash1_head, dedup_dash (y :: l), ← dedup_cons]
theorem dedup_fix : ∀ l, dash1 l = l → dedup l = l
  | [], _ => rfl
  | [x], _ => rfl
  | x :: y :: l, e => by
    rw [dash1_eq] at e
    dsimp only at e
    split at e
    · have h1 := (dash1_len l).1
      have h2 := congrArg List.length e
      simp at h2; omega
    · rename_i h
      have := dedup_fix (y :: l) (List.cons.inj e).2
      rw [dedup_cons, if_neg (by simpa using h), this]
theorem dedup_len : ∀ l, (dedup l).length ≤ l.length
  | [] => Nat.le_refl _
  | x :: l => by
    have := dedup_len l
    rw [dedup_cons]
    split <;> simp <;> omega
def dropHy (l : List Nat) : List Nat := (l.reverse.dropWhile (fun x => x == 45)).reverse
end
section
set_option maxRecDepth 100000
set_option Elab.async false
set_option linter.unusedVariables false
set_option maxHeartbeats 1000000
abbrev plEx : PySem.Expr := (.Call (.Attribute (.Constant (.str "-") 0 ⟨24, 15, 24, 18⟩) "join" ⟨24, 15, 24, 23⟩) [.GeneratorExp (.Call (.Attribute (.Name "x" ⟨24, 25, 24, 26⟩) "strip" ⟨24, 25, 24, 32⟩) [] [] ⟨24, 25, 24, 34⟩) [⟨.Name "x" ⟨24, 39, 24, 40⟩, .Call (.Name "filter" ⟨24, 44, 24, 50⟩) [.Name "len" ⟨24, 51, 24, 54⟩, .Name "args" ⟨24, 56, 24, 60⟩] [] ⟨24, 44, 24, 61⟩, [], 0⟩] gsc ⟨24, 24, 24, 62⟩] [] ⟨24, 15, 24, 63⟩)
abbrev plSt (p0 q0 : Pos) : Stmt := .Assign [.Name "platform" p0] plEx q0
theorem pl_enter {w : World} {A : Around} {n : Nat} {name qual : Str} {params : Arguments} {rest : List Stmt} {scope : Scope} {dV kV doc pm ct oc : Value} {an od : Option Addr} {osl : Array (Option Value)} {xs : List Str} {r : D} {ps : Array Value} {p0 q0 : Pos}
    (ho : (KF w).lookup 28 = some ⟨oc, od, .func (fnOf name qual params (plSt p0 q0 :: rest) scope dV kV doc pm an (.ref 27) ct), osl⟩)
    (hcd : codeIn (KF w) (.ref 27) qual = true) (rm : Rm A (n + 1))
    (hb : ∀ v1 v2 v3 : Value, bindArgs (fnOf name qual params (plSt p0 q0 :: rest) scope dV kV doc pm an (.ref 27) ct) ⟨[v1, v2, v3], []⟩ = (newTuple [v1, v2, v3] >>= fun t => pure [(("args" : Str), t)]))
    (hla : scope.names.lookup ("args" : Str) = some .local) (hlp : scope.names.lookup ("platform" : Str) = some .local) (hfi : ∀ L, (envOf qual scope L 28 (.ref 27)).kindOf "filter" = some .globalImplicit) (hle : ∀ L, (envOf qual scope L 28 (.ref 27)).kindOf "len" = some .globalImplicit)
    (hz : ∀ x ∈ xs, x.length ≤ sizeLine) (hn : xs.length ≤ sizeLine) (hj : JoinOk "-" ((xs.filter ne0).map Txt.strip) = true)
    (h : ∀ L, Sx w ⟨A.deeper (envOf qual scope L 28 (.ref 27)), envOf qual scope L 28 (.ref 27), n⟩ [("platform", .str (Txt.join "-" ((xs.filter ne0).map Txt.strip))), ("args", .tup xs)] rest (fun fd _ => fd = .ret r))
    (hco : scope.isCoroutine = false) (hgen : scope.isGenerator = false) (hk : scope.kind = .function) (hcell : ∀ x ∈ scope.names, x.2 ≠ .cell) {s : Shared} {vs : List Value} (tk : 0 < s.toks) (gl : Gl w s.heap) (hvs : StrsAre vs xs) (hx3 : xs.length = 3) (hP : Pl s.heap ps) (hbare : AllBare s.gens) :
    wpAny (MM w) A (call (.ref 28) vs) (fun v s' => Rep s'.heap r v ∧ Heap.ExtBut 23 s.heap s'.heap ∧ (∃ ps', Pl s'.heap ps' ∧ ∃ more, ps' = ps ++ more) ∧ AllBare s'.gens ∧ s'.os = s.os ∧ 0 < s'.toks) No s := by
  have hvl : vs.length = xs.length := hvs.length
  refine wpAny_call (codeAny_call_function (by have := rm.dp; omega) (gl.k _ _ ho) rfl hco hgen rfl (codeRec_of gl.k hcd) ?_)
  have hb' : ∀ vs : List Value, vs.length = 3 → bindArgs (fnOf name qual params (plSt p0 q0 :: rest) scope dV kV doc pm an (.ref 27) ct) ⟨vs, []⟩ = (newTuple vs >>= fun t => pure [(("args" : Str), t)])
    | [v1, v2, v3], _ => hb v1 v2 v3
  rw [hb' vs (hvl.trans hx3)]
  refine wpAny_bind (wpAny_newTuple (wpAny_pure ?_) (hvl ▸ hn))
  have e1 : Ext s.heap (s.heap.push { cls := .type "tuple", data := .seq vs.toArray }) := ext_push
  have rt : Rep (s.heap.push { cls := .type "tuple", data := .seq vs.toArray }) (.tup xs) (.ref s.heap.objs.size) := ⟨_, vs, rfl, ⟨_, Heap.get?_push_size _ rfl, rfl, _, rfl⟩, hvs⟩
  generalize hH : s.heap.push { cls := .type "tuple", data := .seq vs.toArray } = H at *
  refine wpAny_newFunctionEnv hcell ?_ (fun h₀ hns₀ hsb₀ => ⟨(gl.keeps e1).lim.fresh _ hsb₀, codeAny_func ?_⟩) hk
  · intro x hx
    rw [List.mem_singleton.mp hx]
    exact hla
  have e2 : Ext H h₀ := fun b o e => hsb₀.extBut b o (Nat.ne_of_lt (Heap.lt_size e)) (Heap.get?_push_of_some _ e)
  have ok : Cx.Ok ⟨A.deeper (envOf qual scope H.objs.size 28 (.ref 27)), envOf qual scope H.objs.size 28 (.ref 27), n⟩ := ⟨rm.deeper _, hk, rfl, rfl⟩
  show wpAny (MM w) (A.deeper (envOf qual scope H.objs.size 28 (.ref 27))) (execs (plSt p0 q0 :: rest) (envOf qual scope H.objs.size 28 (.ref 27))) _ _ { s with heap := h₀, toks := s.toks + 1 }
  with_reducible refine wpAny_mono (Q := fun fl s' => ∃ base' ps' m', FRep s'.heap fl (.ret r) ∧ Fx w base' (envOf qual scope H.objs.size 28 (.ref 27)) m' s' ∧ Pl base' ps' ∧ AllBare s'.gens ∧ s'.os = s.os ∧ Heap.ExtBut 23 H base' ∧ ∃ more, ps' = ps ++ more) (E := No) ?_ ?_ ?_
  · refine wpAny_execs_cons ?_
    show wpAny (MM w) _ (exec (.Assign [.Name "platform" p0] plEx q0) _) _ _ _
    with_reducible refine' wpAny_Assign_Name ?ja ?jb
    case jb => exact rfl
    with_reducible refine' join_gen (c := ⟨A.deeper (envOf qual scope H.objs.size 28 (.ref 27)), envOf qual scope H.objs.size 28 (.ref 27), n⟩) ok (gl.keeps e1) ?r4 ?r0 ?r1 rt ?r5 ?r6 ?r7 ?r2 (hP.keeps e1) hbare hz hn hj ?r3
    case r4 => exact Nat.succ_pos _
    case r0 => exact ⟨hns₀, e2, Nat.le_refl _⟩
    case r1 => exact rfl
    case r2 => exact rfl
    case r5 => exact hla
    case r6 => exact hfi _
    case r7 => exact hle _
    intro base' s' ps' t f' P' B' O' X' M'
    refine f'.set (d := .str _) ⟨t, rfl⟩ hlp hk fun s₂ f₂ k₂ => ?_
    refine wpAny_mono (h _ base' s₂ ok f₂) (fun fl s₃ ⟨fd, m', q1, q2, q3, q4⟩ => ?_) fun _ _ x => x
    subst q1
    obtain ⟨_, _, rfl, _⟩ := k₂
    obtain ⟨_, _, rfl, _⟩ := q4
    exact ⟨base', ps', m', q2, q3, P', B', O', X', M'⟩
  · intro fl s' ⟨base', ps', m', q1, q2, q3, q4, q5, q6, q7⟩
    cases fl with
    | ret v =>
      obtain ⟨mv, F, _⟩ := q2.fr
      exact ⟨q1, fun b o hb e => F.keep b o (q6 b o hb (e1 b o e)), ⟨ps', q3.keeps F.keep, q7⟩, q4, q5, q2.tk⟩
    | next => exact q1.elim
    | brk => exact q1.elim
    | cont => exact q1.elim
  · exact fun _ _ x => x.elim
end
section
set_option maxRecDepth 100000
set_option Elab.async false
set_option linter.unusedVariables false
set_option maxHeartbeats 2000000
def plat1 (l : List Nat) : List Nat := replGo unkP [] 0 (sub1 41 45 (sub1 40 45 (sub1 34 45 (sub1 59 45 (sub1 58 45 (sub1 92 45 (sub1 47 45 (sub1 32 95 l))))))))
theorem plat1_len (l : List Nat) : (plat1 l).length ≤ l.length := by
  have := repl_nil_len unkP (by decide) (sub1 41 45 (sub1 40 45 (sub1 34 45 (sub1 59 45 (sub1 58 45 (sub1 92 45 (sub1 47 45 (sub1 32 95 l)))))))) 0
  simp only [sub1_len] at this
  exact this
def platT (l : List Nat) : List Nat := dropHy (dedup (plat1 l))
section
variable {w : World} {c : Cx} {m : Mem}
theorem Ev.repl1 {o : PySem.Expr} {apos pos p1 p2 : Pos} {k1 k2 : Nat} {pl : Sem Bool} {ys zs : Str} {l : List Nat} {y z : Nat} (hys : ys = S [y]) (hzs : zs = S [z]) (hm : MethEq c.env o "replace" apos pos [.Constant (.str ys) k1 p1, .Constant (.str zs) k2 p2] pl) (ho : Ev w c m o (.str (S l)))
    (hyz : y ≠ z) (hb : l.length ≤ 20000) :
    Ev w c m (.Call (.Attribute o "replace" apos) [.Constant (.str ys) k1 p1, .Constant (.str zs) k2 p2] [] pos) (.str (S (sub1 y z l))) := by
  rw [← repl_one]
  exact Ev.repl_ hys hzs hm ho (by simpa using hyz) (by simp) (by simp; omega)
end
theorem dropHy_snoc (l : List Nat) : dropHy (l ++ [45]) = dropHy l := by simp [dropHy]
theorem dropHy_keep {l : List Nat} (h : l.getLast? ≠ some 45) : dropHy l = l := by
  rcases List.eq_nil_or_concat l with rfl | ⟨q, x, rfl⟩
  · rfl
  · rw [List.concat_eq_append] at *
    have hx : x ≠ 45 := by simpa using h
    simp [dropHy, hx]
theorem cl_platform {w : World} {A : Around} {n : Nat} (rm : Rm A (n + 1)) {xs : List Str} {l : List Nat} {ps : Array Value} (hz : ∀ x ∈ xs, x.length ≤ sizeLine) (hn : xs.length ≤ sizeLine) (hj : JoinOk "-" ((xs.filter ne0).map Txt.strip) = true)
    (hl : Txt.join "-" ((xs.filter ne0).map Txt.strip) = S l) (hll : l.length ≤ 20000) {s : Shared} {vs : List Value} (tk : 0 < s.toks) (gl : Gl w s.heap) (hvs : StrsAre vs xs) (hx3 : xs.length = 3) (hP : Pl s.heap ps) (hbare : AllBare s.gens) :
    wpAny (MM w) A (call (.ref 28) vs) (fun v s' => Rep s'.heap (.str (S (platT l))) v ∧ Heap.ExtBut 23 s.heap s'.heap ∧ (∃ ps', Pl s'.heap ps' ∧ ∃ more, ps' = ps ++ more) ∧ AllBare s'.gens ∧ s'.os = s.os ∧ 0 < s'.toks) No s := by
  refine' pl_enter (n := n) (xs := xs) (p0 := ⟨24, 4, 24, 12⟩) (q0 := ⟨24, 4, 24, 63⟩) ?ho ?hcd rm ?hb ?hla ?hlp ?hfi ?hle hz hn hj ?h ?c1 ?c2 ?c3 ?c4 tk gl hvs hx3 hP hbare
  case ho => exact rfl
  case hcd => exact rfl
  case hb => intro v1 v2 v3; exact rfl
  case hla => exact rfl
  case hlp => exact rfl
  case hfi => intro L; exact rfl
  case hle => intro L; exact rfl
  case c1 => exact rfl
  case c2 => exact rfl
  case c3 => exact rfl
  case c4 => decide
  case h =>
    intro L
    rw [hl]
    refine Sx.assign (Ev.repl1 lit_sp lit_us rfl (by walk_at "ev") (by decide) hll) ?_ rfl
    refine Sx.assign (Ev.repl1 lit_sl lit_hy rfl (by walk_at "ev") (by decide) (by simp only [sub1_len]; exact hll)) ?_ rfl
    refine Sx.assign (Ev.repl1 lit_bs lit_hy rfl (by walk_at "ev") (by decide) (by simp only [sub1_len]; exact hll)) ?_ rfl
    refine Sx.assign (Ev.repl1 lit_co lit_hy rfl (by walk_at "ev") (by decide) (by simp only [sub1_len]; exact hll)) ?_ rfl
    refine Sx.assign (Ev.repl1 lit_sc lit_hy rfl (by walk_at "ev") (by decide) (by simp only [sub1_len]; exact hll)) ?_ rfl
    refine Sx.assign (Ev.repl1 lit_qu lit_hy rfl (by walk_at "ev") (by decide) (by simp only [sub1_len]; exact hll)) ?_ rfl
    refine Sx.assign (Ev.repl1 lit_lp lit_hy rfl (by walk_at "ev") (by decide) (by simp only [sub1_len]; exact hll)) ?_ rfl
    refine Sx.assign (Ev.repl1 lit_rp lit_hy rfl (by walk_at "ev") (by decide) (by simp only [sub1_len]; exact hll)) ?_ rfl
    refine Sx.assign (Ev.repl_ lit_unknown lit_nil rfl (by walk_at "ev") (by decide) (by decide) (by simp only [sub1_len]; simp; omega)) ?_ rfl
    refine Sx.sub (a := [("platform", D.str (S (plat1 l)))]) ?_ ⟨rfl, trivial⟩
    have h1 : (plat1 l).length ≤ 20000 := Nat.le_trans (plat1_len l) hll
    unfold platT
    generalize plat1 l = p at h1
    refine Sx.while_ (fun k a => ∃ r, a = ([("platform", D.str (S r))] : Mem) ∧ dedup r = dedup p ∧ r.length = k ∧ k ≤ 20000) p.length ⟨p, rfl, rfl, rfl, h1⟩ ?_
    rintro k a ⟨r, rfl, hr, rfl, hk⟩
    refine ⟨true, ?_, fun _ => ?_, fun hb => by cases hb⟩
    · exact Tv.bool Ev.cbool
    refine Sx.assign (d := .str (S (dash1 r))) (Ev.repl_ lit_hh lit_hy rfl (by walk_at "ev") (by decide) (by decide) (by simp; omega)) ?_ rfl
    have hd := dash1_len r
    refine Sx.if_ (by walk_at "tv") (fun h => ?_) fun h => ?_
    · have h := of_decide_eq_true h
      refine Sx.brk ?_
      show Sx w _ _ _ _
      have e : dedup p = r := by rw [← hr]; exact dedup_fix r h
      rw [e]
      refine Sx.sub (a := [("platform", D.str (S r))]) ?_ ⟨rfl, trivial⟩
      refine Sx.while_ (fun k a => ∃ q, a = ([("platform", D.str (S q))] : Mem) ∧ dropHy q = dropHy r ∧ q.length = k ∧ k ≤ 20000) r.length ⟨r, rfl, rfl, rfl, hk⟩ ?_
      rintro k a ⟨q, rfl, hq, rfl, hk2⟩
      have hz2 : q.length ≤ sizeLine := by rw [sizeLine_eq]; omega
      refine ⟨decide (q ≠ []) && decide (q.getLast? = some 45), ?_, fun hb => ?_, fun hb => ?_⟩
      · refine Tv.op (Tvs.and (Tv.full (by walk_at "ev") hz2) fun hne => Tvs.one ?_)
        rcases List.eq_nil_or_concat q with rfl | ⟨q', x, rfl⟩
        · simp at hne
        · rw [List.concat_eq_append] at *
          refine Tv.conv (Tv.cmp (Ev.last (x := x) (by walk_at "ev") (by walk_at "ev") (by simp) hz2) (by walk_at "ev") (by walk_at "cm")) ?_
          simp
      · have hb := (Bool.and_eq_true _ _).mp hb
        have hb := of_decide_eq_true hb.2
        rcases List.eq_nil_or_concat q with rfl | ⟨q', x, rfl⟩
        · cases hb
        · rw [List.concat_eq_append] at *
          have hx : x = 45 := by simpa using hb
          subst hx
          refine Sx.assign (Ev.cutS (a := none) (b := some (-1)) ?_ trivial ?_ hz2 (cut_init (q' ++ [45]))) (Sx.nil ?_) rfl
          · walk_at "ev"
          · walk_at "evo"
          · refine ⟨[("platform", D.str (S q'))], ⟨by simp, trivial⟩, q'.length, by simp, q', rfl, ?_, rfl, by simp at hk2; omega⟩
            rw [← hq, dropHy_snoc]
      · have e2 : dropHy r = q := by
          rw [← hq]
          refine dropHy_keep fun h45 => ?_
          rw [h45] at hb
          cases q with
          | nil => cases h45
          | cons => simp at hb
        rw [e2]
        exact Sx.ret (by walk_at "ev") rfl
    · have h := of_decide_eq_false h
      refine Sx.nil (Sx.assign (d := .str (S (dash1 r))) (by walk_at "ev") (Sx.nil ?_) rfl)
      refine ⟨[("platform", D.str (S (dash1 r)))], ⟨rfl, trivial⟩, (dash1 r).length, ?_, dash1 r, rfl, (dedup_dash r).trans hr, rfl, Nat.le_trans hd.1 hk⟩
      exact Nat.lt_of_le_of_ne hd.1 fun e => h (hd.2 e)
end
section
set_option maxRecDepth 100000
set_option Elab.async false
set_option linter.unusedVariables false
set_option maxHeartbeats 1000000
theorem subs_sgn : ∀ l : List Nat, (∀ x ∈ l, x ≠ 92 ∧ x ≠ 59 ∧ x ≠ 34) → sub1 41 45 (sub1 40 45 (sub1 34 45 (sub1 59 45 (sub1 58 45 (sub1 92 45 (sub1 47 45 (sub1 32 95 l))))))) = l.map sgn
  | [], _ => rfl
  | x :: l, h => by
    have ih := subs_sgn l fun y hy => h y (List.mem_cons_of_mem _ hy)
    obtain ⟨h1, h2, h3⟩ := h x List.mem_cons_self
    simp only [sub1, List.map_cons] at ih ⊢
    rw [ih]
    congr 1
    unfold sgn
    by_cases a : x = 32
    · subst a; rfl
    by_cases b : x = 47
    · subst b; rfl
    by_cases c : x = 58
    · subst c; rfl
    by_cases d : x = 40
    · subst d; rfl
    by_cases e : x = 41
    · subst e; rfl
    simp [a, b, c, d, e, h1, h2, h3]
theorem sgn_letter {x u : Nat} (h : sgn x = u) (h1 : u ≠ 95) (h2 : u ≠ 45) : x = u := by
  unfold sgn at h
  split at h
  · exact absurd h.symm h1
  · split at h
    · exact absurd h.symm h2
    · exact h
theorem map_unk : ∀ (l u : List Nat), (∀ x ∈ u, x ≠ 95 ∧ x ≠ 45 ∧ sgn x = x) → (l.map sgn = u ↔ l = u)
  | [], u, _ => by cases u <;> simp
  | x :: l, [], _ => by simp
  | x :: l, y :: u, h => by
    have ih := map_unk l u fun z hz => h z (List.mem_cons_of_mem _ hz)
    obtain ⟨h1, h2, h3⟩ := h y List.mem_cons_self
    rw [List.map_cons, List.cons.injEq, List.cons.injEq, ih]
    constructor
    · rintro ⟨a, b⟩; exact ⟨sgn_letter a h1 h2, b⟩
    · rintro ⟨a, b⟩; exact ⟨a ▸ h3, b⟩
theorem repl_map : ∀ (l : List Nat) (k : Nat), replGo unkP [] k (l.map sgn) = (replGo unkP [] k l).map sgn
  | [], k => by cases k <;> rfl
  | x :: l, k + 1 => repl_map l k
  | x :: l, 0 => by
    have e : ((x :: l).map sgn).take unkP.length = unkP ↔ (x :: l).take unkP.length = unkP := by
      rw [← List.map_take]
      exact map_unk _ _ (by decide)
    rw [List.map_cons] at e ⊢
    unfold replGo
    by_cases h : (x :: l).take unkP.length = unkP
    · rw [if_pos h, if_pos (e.mpr h), List.nil_append, List.nil_append]
      exact repl_map l _
    · rw [if_neg h, if_neg (fun q => h (e.mp q)), List.map_cons, repl_map l 0]
def dd : Bool → List Nat → List Nat
  | _, [] => []
  | b, x :: m => if x = 45 ∧ b = true then dd true m else x :: dd (decide (x = 45)) m
theorem dd_dedup : ∀ l, dedup l = dd false l ∧ dedup (45 :: l) = 45 :: dd true l
  | [] => ⟨rfl, rfl⟩
  | y :: l => by
    obtain ⟨a, b⟩ := dd_dedup l
    have c : dedup (y :: l) = dd false (y :: l) := by
      by_cases h : y = 45
      · subst h; rw [b]; simp [dd]
      · rw [dedup_cons, if_neg (fun q => h q.1), a]; simp [dd, h]
    refine ⟨c, ?_⟩
    rw [dedup_cons]
    by_cases h : y = 45
    · subst h
      rw [if_pos ⟨rfl, rfl⟩, b]
      simp [dd]
    · rw [if_neg (by simpa using h), c]
      simp [dd, h]
def ends (t : List Nat) : Bool := decide (t.drop (t.length - 1) = [45])
theorem ends_snoc (t : List Nat) (x : Nat) : ends (t ++ [x]) = decide (x = 45) := by simp [ends]
theorem lab_dd : ∀ (l : List Nat) (k : Nat) (t : List Nat), labGo k l t = t ++ dd (ends t) ((replGo unkP [] k l).map sgn)
  | [], k, t => by cases k <;> simp [labGo, replGo, dd]
  | x :: l, k + 1, t => lab_dd l k t
  | x :: l, 0, t => by
    have e7 : unkP.length = 7 := rfl
    unfold labGo replGo
    rw [e7]
    by_cases h : (x :: l).take 7 = unk7
    · rw [if_pos h, if_pos (show (x :: l).take 7 = unkP from h), List.nil_append]
      exact lab_dd l 6 t
    · rw [if_neg h, if_neg (show ¬ (x :: l).take 7 = unkP from h), List.map_cons, dd]
      by_cases hx : sgn x = 45 ∧ ends t = true
      · rw [if_pos hx, if_neg, lab_dd l 0 t, hx.2]
        rintro (q | q)
        · exact q hx.1
        · exact q (of_decide_eq_true hx.2)
      · rw [if_neg hx, if_pos, lab_dd l 0 (t ++ [sgn x]), ends_snoc, List.append_assoc]
        · rfl
        · by_cases q : sgn x = 45
          · exact .inr fun z => hx ⟨q, decide_eq_true z⟩
          · exact .inl q
theorem dedup_head : ∀ l, (dedup l).head? = l.head?
  | [] => rfl
  | x :: l => by
    have := dedup_head l
    rw [dedup_cons]
    split
    · rename_i h; rw [this, h.2, List.head?_cons, h.1]
    · rfl
theorem dedup_end : ∀ l r, dedup l ≠ r ++ [45, 45]
  | [], r => by simp [dedup]
  | x :: l, r => by
    have ih := dedup_end l
    rw [dedup_cons]
    split
    · exact ih r
    · rename_i h
      intro e
      cases r with
      | nil =>
        simp at e
        have := dedup_head l
        rw [e.2] at this
        exact h ⟨e.1, this.symm⟩
      | cons y r => exact ih r (List.cons.inj e).2
theorem drop_once {d : List Nat} (h : ∀ r, d ≠ r ++ [45, 45]) : dropHy d = if d.drop (d.length - 1) = [45] then d.dropLast else d := by
  rcases List.eq_nil_or_concat d with rfl | ⟨q, x, rfl⟩
  · rfl
  · rw [List.concat_eq_append] at *
    by_cases hx : x = 45
    · subst hx
      rw [dropHy_snoc, if_pos (by simp), List.dropLast_concat]
      refine dropHy_keep fun e => ?_
      rcases List.eq_nil_or_concat q with rfl | ⟨q', y, rfl⟩
      · cases e
      · rw [List.concat_eq_append] at *
        have : y = 45 := by simpa using e
        subst this
        exact h q' (by simp)
    · rw [if_neg (by simpa using hx)]
      exact dropHy_keep (by simpa using hx)
theorem plat_lab {l : List Nat} (h : ∀ x ∈ l, x ≠ 92 ∧ x ≠ 59 ∧ x ≠ 34) : platT l = labF l := by
  have e : labGo 0 l [] = dedup (plat1 l) := by
    rw [lab_dd, plat1, subs_sgn l h, repl_map, (dd_dedup _).1]
    rfl
  unfold platT labF
  rw [e]
  exact drop_once (dedup_end _)
end
section
set_option maxRecDepth 100000
set_option Elab.async false
set_option linter.unusedVariables false
set_option maxHeartbeats 1000000
/-- nothing but the heap and the tokens has changed -/
def Same (s s' : Shared) : Prop := ∃ h tk, s' = { s with heap := h, toks := tk }
theorem Same.rfl' {s : Shared} : Same s s := ⟨s.heap, s.toks, rfl⟩
theorem Same.trans {a b c : Shared} (x : Same a b) (y : Same b c) : Same a c := by
  obtain ⟨h, t, rfl⟩ := x
  obtain ⟨h', t', rfl⟩ := y
  exact ⟨h', t', rfl⟩
theorem Same.of {env : Env} {a b : Shared} (x : Step env a b) : Same a b := by
  obtain ⟨h, t, rfl, _⟩ := x
  exact ⟨h, t, rfl⟩
theorem Same.ofK {a b : Shared} (x : Keeps a b) : Same a b := by
  obtain ⟨h, t, rfl, _⟩ := x
  exact ⟨h, t, rfl⟩
/-- the frame below: not of the base, and its store -/
structure Cll (L : Addr) (mvL : Str → Option Value) (env : Env) (base h : Heap) : Prop where
  out : base.get? L = none
  ns : h.Ns L mvL
  ne : L ≠ env.locals
theorem Cll.keeps {L : Addr} {mvL} {env : Env} {base h h' : Heap} (x : Cll L mvL env base h) (k : Ext h h') : Cll L mvL env base h' := ⟨x.out, x.ns.keeps k, x.ne⟩
theorem Cll.step {L : Addr} {mvL} {env : Env} {base : Heap} {s s' : Shared} (x : Cll L mvL env base s.heap) (k : Step env s s') : Cll L mvL env base s'.heap := by
  obtain ⟨h, t, rfl, k⟩ := k
  exact ⟨x.out, x.ns.at fun o e => k L o x.ne e, x.ne⟩
def SxC (w : World) (c : Cx) (L : Addr) (mvL : Str → Option Value) (m : Mem) (ss : List Stmt) (Q : FD → Mem → Prop) : Prop :=
  ∀ base s, c.Ok → Cll L mvL c.env base s.heap → Fx w base c.env m s → wpC (MM w) c.A (execs ss c.env) (fun f s' => ∃ fd m', Q fd m' ∧ FRep s'.heap f fd ∧ Fx w base c.env m' s' ∧ Cll L mvL c.env base s'.heap ∧ Same s s') No s
section
variable {w : World} {c : Cx} {m : Mem} {e : PySem.Expr} {d : D} {s : Shared} {L : Addr} {mvL : Str → Option Value} {Q : FD → Mem → Prop} {rest : List Stmt}
theorem SxC.of (h : Sx w c m rest Q) : SxC w c L mvL m rest Q := fun base s ok cl f =>
  wpC_of (wpAny_mono (h base s ok f) (fun fl s' ⟨fd, m', a, b, x, y⟩ => ⟨fd, m', a, b, x, cl.step y, .of y⟩) fun _ _ x => x)
theorem SxC.go {base : Heap} {s₀ : Shared} (h : SxC w c L mvL m rest Q) (ok : c.Ok) (cl : Cll L mvL c.env base s.heap) (f : Fx w base c.env m s) (k : Same s₀ s) :
    wpC (MM w) c.A (execs rest c.env) (fun fl s' => ∃ fd m', Q fd m' ∧ FRep s'.heap fl fd ∧ Fx w base c.env m' s' ∧ Cll L mvL c.env base s'.heap ∧ Same s₀ s') No s :=
  wpC_mono (h base s ok cl f) (fun fl s' ⟨fd, m', a, b, x, y, z⟩ => ⟨fd, m', a, b, x, y, k.trans z⟩) fun _ _ x => x
theorem SxC.sub {a : Mem} (h : SxC w c L mvL a rest Q) (k : Sub a m) : SxC w c L mvL m rest Q := fun base s ok cl f => h base s ok cl (f.sub k)
theorem SxC.conseq {Q' : FD → Mem → Prop} (h : SxC w c L mvL m rest Q) (k : ∀ fd m', Q fd m' → Q' fd m') : SxC w c L mvL m rest Q' := fun base s ok cl f =>
  wpC_mono (h base s ok cl f) (fun fl s' ⟨fd, m', a, b⟩ => ⟨fd, m', k fd m' a, b⟩) fun _ _ x => x
theorem SxC.if_ {t : PySem.Expr} {a b : List Stmt} {p : Pos} {v : Bool} (h : Tv w c m t v) (ha : v = true → SxC w c L mvL m a (fun fd m' => match fd with | .next => SxC w c L mvL m' rest Q | fd => Q fd m'))
    (hb : v = false → SxC w c L mvL m b (fun fd m' => match fd with | .next => SxC w c L mvL m' rest Q | fd => Q fd m')) : SxC w c L mvL m (.If t a b p :: rest) Q := fun base s ok cl f => by
  have tail : ∀ {ss : List Stmt} {s₁ : Shared}, Keeps s s₁ → Fx w base c.env m s₁ → SxC w c L mvL m ss (fun fd m' => match fd with | .next => SxC w c L mvL m' rest Q | fd => Q fd m') →
      wpC (MM w) c.A (execs ss c.env) (fun fl s' => match fl with | .next => wpC (MM w) c.A (execs rest c.env) (fun fl s' => ∃ fd m', Q fd m' ∧ FRep s'.heap fl fd ∧ Fx w base c.env m' s' ∧ Cll L mvL c.env base s'.heap ∧ Same s s') No s' | fl => ∃ fd m', Q fd m' ∧ FRep s'.heap fl fd ∧ Fx w base c.env m' s' ∧ Cll L mvL c.env base s'.heap ∧ Same s s') No s₁ := by
    intro ss s₁ k₁ f₁ hx
    refine wpC_mono (hx base s₁ ok (cl.keeps (kext k₁)) f₁) (fun fl s₂ ⟨fd, m', a1, a2, a3, a4, a5⟩ => ?_) fun _ _ x => x
    cases fl <;> cases fd <;> first | exact a2.elim | exact a1.go ok a4 a3 ((Same.ofK k₁).trans a5) | exact ⟨_, m', a1, a2, a3, a4, (Same.ofK k₁).trans a5⟩
  refine wpC_execs_cons (wpC_If (h.useF ok f fun s₁ k₁ f₁ => ?_))
  cases v with
  | true => exact tail k₁ f₁ (ha rfl)
  | false => exact tail k₁ f₁ (hb rfl)
end
section
variable {M : Model} {A : Around} {E : Value → Shared → Prop} {s : Shared}
/-- the first note of an exception that was made anew, and its landing -/
theorem note_new {base h : Heap} {env : Env} {outer : List Env} {L e : Addr} {cls : String} {Q : Unit → Shared → Prop}
    (hfr : A.frames = some (env :: outer)) (hf : env.frame = some L) (hkb : base.StaysIn h) (hl : h.FunFrames base (env :: outer)) (hx : Heap.NewExc h s.heap e cls)
    (hQ : ∀ h', base.StaysIn h' → h'.FunFrames base (env :: outer) → (∃ a0, h'.TracedAtW base e (.type cls) a0 (rawInt L)) → h.UpToSlots h' → Q () { s with heap := h' }) : wpAny M A (noteFrame (.ref e) env) Q E s := by
  obtain ⟨ob, tp, he, hcls, hd⟩ := hx.there
  have hen : base.get? e = none := by
    cases hq : base.get? e with
    | none => rfl
    | some o' => have := hkb e o' hq; rw [hx.new] at this; cases this
  unfold noteFrame
  simp only [hf]
  refine wpAny_bind (wpAny_field he hd (x := .none) rfl ?_)
  rw [if_neg (by decide)]
  refine wpAny_entryW hfr (hl.of_keeps fun b o hb _ => ⟨o, hx.keeps b o hb, rfl⟩) hf he (fun b o hb => hx.keeps b o (hkb b o hb)) hen hd (by simp) rfl fun h' ⟨x1, x2, x3, x4⟩ => hQ h' x1 x2 ⟨_, hcls ▸ x3⟩ fun b o hb hn => x4 b o (hx.keeps b o hb) hn
end
end
section
set_option maxRecDepth 100000
set_option Elab.async false
set_option linter.unusedVariables false
set_option maxHeartbeats 1000000
/-- a frame whose l is a list of its own -/
structure Ls (w : World) (base : Heap) (env : Env) (m : Mem) (a : Addr) (items : List Value) (L : Addr) (mvL : Str → Option Value) (s₀ s : Shared) : Prop where
  gl : Gl w base
  tk : 0 < s.toks
  fr : ∃ mv, Fr base env.locals s.heap mv ∧ mv "l" = some (.ref a) ∧ ∀ x d, m.lookup x = some d → ∃ v, mv x = some v ∧ Rep s.heap d v
  li : s.heap.IsList a items.toArray
  lt : env.locals < a
  cl : Cll L mvL env base s.heap
  la : L ≠ a
  sm : Same s₀ s
def Still (m : Mem) : Prop := ∀ x d, m.lookup x = some d → ∀ h h' v, Rep h d v → Rep h' d v
section
variable {w : World} {base : Heap} {env : Env} {m : Mem} {a : Addr} {items : List Value} {L : Addr} {mvL : Str → Option Value} {s₀ s s' : Shared}
theorem Ls.fx (x : Ls w base env m a items L mvL s₀ s) {xs : List Str} (h : StrsAre items xs) : Fx w base env (("l", .txts xs) :: m) s := by
  obtain ⟨mv, F, hl, r⟩ := x.fr
  refine ⟨x.gl, x.tk, mv, F, fun y d e => ?_⟩
  rw [List.lookup_cons] at e
  by_cases hy : y = "l"
  · subst hy
    simp only [beq_self_eq_true] at e
    cases e
    exact ⟨_, hl, a, items, rfl, x.li, h⟩
  · rw [show (y == ("l" : Str)) = false from by simpa using hy] at e
    exact r y d e
theorem Ls.fx0 (x : Ls w base env m a items L mvL s₀ s) : Fx w base env m s := by
  obtain ⟨mv, F, hl, r⟩ := x.fr
  exact ⟨x.gl, x.tk, mv, F, r⟩
theorem Ls.keeps (x : Ls w base env m a items L mvL s₀ s) (k : Keeps s s') (t : s.toks ≤ s'.toks) : Ls w base env m a items L mvL s₀ s' := by
  obtain ⟨mv, F, hl, r⟩ := x.fr
  exact ⟨x.gl, Nat.lt_of_lt_of_le x.tk t, ⟨mv, F.keeps (kext k), hl, fun y d e => let ⟨v, p, q⟩ := r y d e; ⟨v, p, q.keeps (kext k)⟩⟩, isList_keeps x.li (kext k), x.lt, x.cl.keeps (kext k), x.la, x.sm.trans (.ofK k)⟩
theorem Ls.set (x : Ls w base env m a items L mvL s₀ s) {y : Str} {d : D} {v : Value} (r : Rep s.heap d v) {A : Around} {E : Value → Shared → Prop} {Q : Unit → Shared → Prop}
    (hl : env.kindOf y = some .local) (hk : env.scope.kind = .function) (hy : y ≠ "l") (h : ∀ s', Ls w base env ((y, d) :: m) a items L mvL s₀ s' → Q () s') : wpAny (MM w) A (storeName env y v) Q E s := by
  obtain ⟨mv, F, hl', rr⟩ := x.fr
  refine wpAny_storeName_local hl F.ns (fun h' hn hs => h _ ⟨x.gl, Nat.succ_pos _, ⟨_, F.set hn hs, (if_neg hy.symm).trans hl', fun z e q => ?_⟩, ?_, x.lt, ?_, x.la, x.sm.trans ⟨h', _, rfl⟩⟩) (by rw [hk]; rfl)
  · rw [List.lookup_cons] at q
    by_cases hz : z = y
    · subst hz
      simp only [beq_self_eq_true] at q
      cases q
      exact ⟨v, if_pos rfl, r.same F.ns hs⟩
    · rw [show (z == y) = false from by simpa using hz] at q
      obtain ⟨u, p, t⟩ := rr z e q
      exact ⟨u, (if_neg hz).trans p, t.same F.ns hs⟩
  · obtain ⟨o, ho, r⟩ := x.li
    exact ⟨o, hs.extBut a o (Nat.ne_of_gt x.lt) ho, r⟩
  · exact ⟨x.cl.out, x.cl.ns.at fun o e => hs.extBut L o x.cl.ne e, x.cl.ne⟩
theorem Ls.put (x : Ls w base env m a items L mvL s₀ s) (st : Still m) {h' : Heap} {items' : List Value} (hl : h'.IsList a items'.toArray) (hs : Heap.SameBut a s.heap h') : Ls w base env m a items' L mvL s₀ { s with heap := h' } := by
  obtain ⟨mv, F, hl', r⟩ := x.fr
  exact ⟨x.gl, x.tk, ⟨mv, F.sameNew x.lt hs, hl', fun y d e => let ⟨v, p, q⟩ := r y d e; ⟨v, p, st y d e _ _ _ q⟩⟩, hl, x.lt, ⟨x.cl.out, x.cl.ns.at fun o e => hs.extBut L o x.la e, x.cl.ne⟩, x.la, x.sm.trans ⟨h', _, rfl⟩⟩
end
section
variable {w : World} {c : Cx} {m : Mem} {base : Heap} {a : Addr} {items : List Value} {L : Addr} {mvL : Str → Option Value} {s₀ s : Shared} {e : PySem.Expr} {d : D} {E : Value → Shared → Prop}
theorem Ls.ev {Q : Value → Shared → Prop} {xs : List Str} (x : Ls w base c.env m a items L mvL s₀ s) (h : StrsAre items xs) (he : Ev w c (("l", .txts xs) :: m) e d) (ok : c.Ok) (k : ∀ v s', Ls w base c.env m a items L mvL s₀ s' → Rep s'.heap d v → Q v s') :
    wpAny (MM w) c.A (eval e c.env) Q E s :=
  wpAny_mono (wpAny_toks (he s ok (x.fx h).sees)) (fun v s' q => k v s' (x.keeps q.2.1 q.1) q.2.2) fun _ _ q => q.2.elim
end
abbrev saScope : Scope := { kind := .function, names := [("system", .local), ("release", .local), ("version", .local), ("l", .local), ("major", .local), ("int", .globalImplicit), ("ValueError", .globalImplicit), ("str", .globalImplicit)], isGenerator := false, isCoroutine := false }
abbrev saEnv (L : Addr) : Env := envOf "system_alias" saScope L 21 (.ref 20)
abbrev saSplit : Stmt := .Assign [.Name "l" ⟨6, 8, 6, 9⟩] (.Call (.Attribute (.Name "release" ⟨6, 12, 6, 19⟩) "split" ⟨6, 12, 6, 25⟩) [.Constant (.str ".") 0 ⟨6, 26, 6, 29⟩] [] ⟨6, 12, 6, 30⟩) ⟨6, 8, 6, 30⟩
abbrev saElse : List Stmt := [.Assign [.Name "major" ⟨13, 16, 13, 21⟩] (.BinOp (.Name "major" ⟨13, 24, 13, 29⟩) .Sub (.Constant (.int 3) 0 ⟨13, 32, 13, 33⟩) ⟨13, 24, 13, 33⟩) ⟨13, 16, 13, 33⟩,
  .Assign [.Subscript (.Name "l" ⟨14, 16, 14, 17⟩) (.Constant (.int 0) 0 ⟨14, 18, 14, 19⟩) ⟨14, 16, 14, 20⟩] (.Call (.Name "str" ⟨14, 23, 14, 26⟩) [.Name "major" ⟨14, 27, 14, 32⟩] [] ⟨14, 23, 14, 33⟩) ⟨14, 16, 14, 33⟩,
  .Assign [.Name "release" ⟨15, 16, 15, 23⟩] (.Call (.Attribute (.Constant (.str ".") 0 ⟨15, 26, 15, 29⟩) "join" ⟨15, 26, 15, 34⟩) [.Name "l" ⟨15, 35, 15, 36⟩] [] ⟨15, 26, 15, 37⟩) ⟨15, 16, 15, 37⟩]
abbrev saBody : List Stmt := [.Assign [.Name "major" ⟨9, 16, 9, 21⟩] (.Call (.Name "int" ⟨9, 24, 9, 27⟩) [.Subscript (.Name "l" ⟨9, 28, 9, 29⟩) (.Constant (.int 0) 0 ⟨9, 30, 9, 31⟩) ⟨9, 28, 9, 32⟩] [] ⟨9, 24, 9, 33⟩) ⟨9, 16, 9, 33⟩]
abbrev saTry : Stmt := .If (.Name "l" ⟨7, 11, 7, 12⟩) [.Try saBody [.ExceptHandler (some (.Name "ValueError" ⟨10, 19, 10, 29⟩)) none [.Pass ⟨11, 16, 11, 20⟩] ⟨10, 12, 11, 20⟩] saElse [] ⟨8, 12, 15, 37⟩] [] ⟨7, 8, 15, 37⟩
end
section
set_option maxRecDepth 100000
set_option Elab.async false
set_option linter.unusedVariables false
set_option maxHeartbeats 1000000
abbrev saM (a b d : List Nat) : Mem := [("version", .str (S d)), ("release", .str (S b)), ("system", .str (S a))]
theorem still_cons {x : Str} {d : D} {m : Mem} (hd : ∀ h h' v, Rep h d v → Rep h' d v) (h : Still m) : Still ((x, d) :: m) := by
  intro y e q
  rw [List.lookup_cons] at q
  cases hy : y == x with
  | true => rw [hy] at q; cases q; exact hd
  | false => rw [hy] at q; exact h y e q
theorem still_str {x : Str} {y : Str} {m : Mem} (h : Still m) : Still ((x, .str y) :: m) := still_cons (fun _ _ _ r => r) h
theorem still_int {x : Str} {y : Int} {m : Mem} (h : Still m) : Still ((x, .int y) :: m) := still_cons (fun _ _ _ r => r) h
theorem still3 (a b d : List Nat) : Still (saM a b d) := still_str (still_str (still_str fun _ _ q => by cases q))
section
variable {w : World} {A : Around} {n : Nat} {L' : Addr} {a b d : List Nat} {base : Heap} {la : Addr} {L : Addr} {mvL : Str → Option Value} {s₀ s : Shared}
abbrev saC (A : Around) (L' : Addr) (n : Nat) : Cx := ⟨A.deeper (saEnv L'), saEnv L', n⟩
/-- the else-part: l[0] is the number less three, the release is joined anew -/
theorem sa_else {items : List Value} {p0 : List Nat} {ps : List (List Nat)} {v : Int} {Q : Flow → Shared → Prop} (ok : (saC A L' n).Ok) (x : Ls w base (saEnv L') (("major", .int v) :: saM a b d) la items L mvL s₀ s) (hi : StrsAre items ((p0 :: ps).map S))
    (hlog : (v - 3).natAbs.log2 < 1920) (hjl : ((((digs (v - 3) :: ps).map S).map (·.length)).sum + ((digs (v - 3) :: ps).map S).length * 1 ≤ 16777216))
    (k : ∀ s', Fx w base (saEnv L') [("release", .str (S (joinL [46] (digs (v - 3) :: ps)))), ("version", .str (S d)), ("system", .str (S a))] s' → Cll L mvL (saEnv L') base s'.heap → Same s₀ s' → Q .next s') :
    wpAny (MM w) (saC A L' n).A (execs saElse (saEnv L')) Q No s := by
  refine wpAny_execs_cons (wpAny_Assign_Name (Ls.ev (c := saC A L' n) (d := .int (v - 3)) x hi (by walk_at "ev") ok fun v1 s₁ x₁ r₁ => ?_) rfl)
  refine x₁.set r₁ rfl rfl (by decide) fun s₂ x₂ => ?_
  refine wpAny_execs_cons (wpAny_Assign_Subscript (Ls.ev (c := saC A L' n) (d := .str (S (digs (v - 3)))) x₂ hi (Ev.strI (by walk_at "ev") hlog rfl rfl) ok fun v3 s₃ x₃ r₃ => ?_) rfl)
  obtain ⟨mv, F, hl, r⟩ := x₃.fr
  refine wpAny_Name (wpAny_loadName_local rfl rfl F.ns hl (wpAny_Constant_int ?_)) (by decide)
  obtain ⟨t0, vs', rfl, hvs'⟩ := StrsAre.cons_inv (x := S p0) (xs := ps.map S) hi
  obtain ⟨t3, rfl⟩ := r₃
  have x₄ := x₃.keeps (s' := { s₃ with toks := s₃.toks + 1 }) keeps_tok (Nat.le_succ _)
  refine wpAny_setItem_list x₄.li (by decide) (by decide) (by simp) fun h' hl' hs' => ?_
  have x₅ := x₄.put (items' := .str (S (digs (v - 3))) t3 :: vs') (still_int (still_int (still3 a b d))) (by simpa using hl') hs'
  have hi5 : StrsAre (.str (S (digs (v - 3))) t3 :: vs') ((digs (v - 3) :: ps).map S) := .cons _ _ hvs'
  refine wpAny_execs_cons ?_
  with_reducible refine' wpAny_Assign_Name ?ja ?jb
  case jb => exact rfl
  with_reducible refine Ls.ev (c := saC A L' n) (d := .str (S (joinL [46] (digs (v - 3) :: ps)))) x₅ hi5 ?_ ok ?_
  · rw [← join_S]
    (with_reducible refine' Ev.meth1 ?m1 ?m2 ?m3 ?m4 ?m5 ?m6 ?m7)
    case m1 => exact rfl
    case m2 => walk_at "ev"
    case m3 => exact Gm.join
    case m4 => walk_at "evs"
    case m5 => intro _; exact Cl.join hjl
    case m6 => exact rfl
    case m7 => intro _; exact rfl
  intro v6 s₆ x₆ r₆
  refine x₆.set r₆ rfl rfl (by decide) fun s₇ x₇ => wpAny_execs_nil ?_
  refine k s₇ (x₇.fx0.sub ?_) x₇.cl x₇.sm
  exact ⟨rfl, rfl, rfl, trivial⟩
end
end
section
set_option maxRecDepth 100000
set_option Elab.async false
set_option linter.unusedVariables false
set_option maxHeartbeats 1000000
section
variable {w : World} {A : Around} {n : Nat} {L' : Addr} {a b d : List Nat} {base : Heap} {la : Addr} {L : Addr} {mvL : Str → Option Value} {s₀ s : Shared}
theorem frames2 {envL : Env} {h : Heap} {mv : Str → Option Value} (hkL : envL.scope.kind ≠ .module) (hfL : envL.frame = some L) (F : Fr base (saEnv L').locals h mv) (cl : Cll L mvL (saEnv L') base h) : h.FunFrames base [saEnv L', envL] :=
  .cons (fun q => by cases q) rfl F.ns (Heap.get?_none_of_le F.above) (.cons hkL hfL cl.ns cl.out trivial)
theorem sa_catch {items : List Value} {envL : Env} {e : Addr} {h' : Heap} {tk : Nat} {Q : Flow → Shared → Prop} (hA : A.frames = some [envL]) (hkL : envL.scope.kind ≠ .module) (hfL : envL.frame = some L)
    (x : Ls w base (saEnv L') (saM a b d) la items L mvL s₀ s) (nx : Heap.NewExc s.heap h' e "ValueError") (htk : 0 < tk)
    (k : ∀ s', Fx w base (saEnv L') (saM a b d) s' → Cll L mvL (saEnv L') base s'.heap → Same s₀ s' → Q .next s') :
    wpAny (MM w) (A.deeper (saEnv L')) (noteFrame (.ref e) (saEnv L')) (fun _ s₂ => wpAny (MM w) (A.deeper (saEnv L')) (setFlight (.ref e) none) (fun _ s₃ => wpAny (MM w) (A.deeper (saEnv L'))
      (handleBy (.ref e) (saEnv L') [.ExceptHandler (some (.Name "ValueError" ⟨10, 19, 10, 29⟩)) none [.Pass ⟨11, 16, 11, 20⟩] ⟨10, 12, 11, 20⟩]) Q No s₃) No s₂) No { s with heap := h', toks := tk } := by
  obtain ⟨mv, F, hl, r⟩ := x.fr
  have hfr : (A.deeper (saEnv L')).frames = some [saEnv L', envL] := Around.frames_deeper hA
  refine note_new (base := base) (h := s.heap) hfr rfl F.keep (frames2 hkL hfL F x.cl) nx fun h4 st4 ff4 ⟨a0, tr4⟩ up4 => ?_
  refine wpAny_setFlight_noneW st4 ff4 tr4 fun h5 st5 ff5 tr5 k5 => ?_
  refine wpAny_handleBy_builtin (X := "ValueError") (T := "ValueError") (b := true) (by rw [isSubtype_type]; kernel_rfl) (by rw [isSubtype_type]; kernel_rfl) (by rw [isSubtype_type]; kernel_rfl) ?_
  have g5 : Gl w h5 := x.gl.keeps st5
  obtain ⟨mg, G⟩ := g5.glob
  obtain ⟨mb, B, hb⟩ := g5.blt
  refine Calls.Name_function_global rfl rfl (Calls.loadGlobal_builtin (env := saEnv L') G (mg_none_of g5.k G (by rfl)) B ((hb _ (by decide)).trans (by rfl)) ?_) (by decide)
  refine ⟨rfl, ?_, ?_⟩
  · obtain ⟨ob, ho, hc⟩ := tr5.at.there
    exact ⟨ob, ho, hc⟩
  rw [if_pos rfl]
  refine wpAny_setFlight_noneW st5 ff5 tr5.at fun h6 st6 ff6 tr6 k6 => ?_
  refine wpAny_execs_cons (wpAny_Pass (wpAny_execs_nil ?_))
  have up : s.heap.UpToSlots h6 := up4.trans (.trans (fun b o hb hn => ⟨o.slots, k5 b o hb hn⟩) (fun b o hb hn => ⟨o.slots, k6 b o hb hn⟩))
  refine k _ ⟨x.gl, htk, mv, ⟨up.ns F.ns, st6, F.above⟩, fun y d q => ?_⟩ ⟨x.cl.out, up.ns x.cl.ns, x.cl.ne⟩ (x.sm.trans ⟨h6, tk, rfl⟩)
  obtain ⟨v, p, t⟩ := r y d q
  exact ⟨v, p, still3 _ _ _ y d q _ _ _ t⟩
end
end
section
set_option maxRecDepth 100000
set_option Elab.async false
set_option linter.unusedVariables false
set_option maxHeartbeats 1000000
/-- the release, its first number less three -/
def relI (b p0 : List Nat) (ps : List (List Nat)) : List Nat := match PySem.intText? (S p0) with
  | none => b
  | some v => joinL [46] (digs (v - 3) :: ps)
theorem wpC_toks {α : Type} {M : Model} {A : Around} {s : Shared} {t : Sem α} {Q : α → Shared → Prop} {E : Value → Shared → Prop} (h : wpC M A t Q E s) :
    wpC M A t (fun a s' => s.toks ≤ s'.toks ∧ Q a s') (fun e s' => s.toks ≤ s'.toks ∧ E e s') s := fun Γ p hΓ hc => Sem.wp_toks M Γ _ t _ _ p s (Nat.le_refl _) (h Γ p hΓ hc)
theorem strs_vals : ∀ lt : List (Str × Tok), StrsAre (strValues lt) (lt.map (·.1))
  | [] => .nil
  | (x, t) :: r => .cons x t (strs_vals r)
section
variable {w : World} {A : Around} {n : Nat} {L' : Addr} {a b d : List Nat} {base : Heap} {L : Addr} {mvL : Str → Option Value}
theorem SxC.parts {envL : Env} {p0 : List Nat} {ps : List (List Nat)} {rest : List Stmt} {Q : FD → Mem → Prop} (hA : A.frames = some [envL]) (hkL : envL.scope.kind ≠ .module) (hfL : envL.frame = some L)
    (hb : b.length ≤ 600) (hp0 : p0.length ≤ 600) (hcs : ∀ x ∈ p0, x < 16 ^ 8) (hsp : scanGo [46] 0 b = p0 :: ps) (hpl : ps.length ≤ 1000)
    (hlog : ∀ v, PySem.intText? (S p0) = some v → (v - 3).natAbs.log2 < 1920)
    (hjl : ∀ v, PySem.intText? (S p0) = some v → ((((digs (v - 3) :: ps).map S).map (·.length)).sum + ((digs (v - 3) :: ps).map S).length * 1 ≤ 16777216))
    (k : SxC w (saC A L' n) L mvL [("release", .str (S (relI b p0 ps))), ("version", .str (S d)), ("system", .str (S a))] rest Q) :
    SxC w (saC A L' n) L mvL (saM a b d) (saSplit :: saTry :: rest) Q := fun base s ok cl f => by
  have hh := ok.rm.hd
  obtain ⟨mv, F, r⟩ := f.fr
  obtain ⟨vb, hvb, tb, rfl⟩ := r "release" (.str (S b)) rfl
  refine wpC_execs_cons (wpC_of (wpAny_Assign_Name ?_ rfl))
  refine MethodCall_ (wpAny_Name (wpAny_loadName_local rfl rfl F.ns hvb ?_) (by decide))
  with_reducible refine Gm.split.use rfl ?_
  refine callWith_method1 (spliced_more (wpAny_Constant_str (spliced_none ?_)))
  refine split_one (by decide) (by rw [S_len, sizeLine_eq]; omega) fun lt h1 k1 hlt e1 hl1 gone => ?_
  have hsz : (saEnv L').locals < s.heap.objs.size := F.ns.lt
  have hLz : L < s.heap.objs.size := cl.ns.lt
  refine wpAny_storeName_local rfl (F.keeps e1).ns (fun h2 hn2 hs2 => ?_) rfl
  have hi : StrsAre (strValues lt) ((p0 :: ps).map S) := by
    rw [← hsp, ← split_S b 46 (by decide), ← lit_dot, ← hlt]
    exact strs_vals lt
  have x₂ : Ls w base (saEnv L') (saM a b d) s.heap.objs.size (strValues lt) L mvL s { s with heap := h2, toks := k1 + 1 } := by
    refine ⟨f.gl, Nat.succ_pos _, ⟨_, (F.keeps e1).set hn2 hs2, if_pos rfl, fun y d' e => ?_⟩, ?_, hsz, ⟨cl.out, (cl.ns.keeps e1).at fun o e => hs2.extBut L o cl.ne e, cl.ne⟩, Nat.ne_of_lt hLz, ⟨h2, _, rfl⟩⟩
    · obtain ⟨v, p, q⟩ := r y d' e
      have hy : y ≠ "l" := fun q => by subst q; cases e
      exact ⟨v, (if_neg hy).trans p, still3 _ _ _ y d' e _ _ _ q⟩
    · obtain ⟨o, ho, rr⟩ := hl1
      exact ⟨o, hs2.extBut _ o (Nat.ne_of_gt hsz) ho, rr⟩
  generalize hs2' : ({ s with heap := h2, toks := k1 + 1 } : Shared) = s2 at x₂
  show wpC _ _ (execs (saTry :: rest) (saEnv L')) _ _ s2
  have hitems : (strValues lt).length = ps.length + 1 := by rw [hi.length]; simp
  refine wpC_execs_cons (wpC_If ?_)
  obtain ⟨mv2, F2, hl2, r2⟩ := id x₂.fr
  refine isTrue_plain (wpAny_Name (wpAny_loadName_local rfl rfl F2.ns hl2 (wpAny_truthy_list x₂.li (by simp only [List.size_toArray, hitems]; omega) ?_)) (by decide)) rfl
  have hne : (!(strValues lt).toArray.isEmpty) = true := by
    cases hq : strValues lt with
    | nil => rw [hq] at hitems; cases hitems
    | cons => rfl
  rw [hne, if_pos rfl]
  have x₃ := x₂.keeps (s' := { s2 with toks := s2.toks + 1 + 1 }) keeps_tok (by show s2.toks ≤ s2.toks + 1 + 1; omega)
  generalize ({ s2 with toks := s2.toks + 1 + 1 } : Shared) = s3 at x₃
  refine wpC_execs_cons (wpC_Try (wpC_execs_cons (wpC_Assign_Name (wpC_callName ?_) rfl)))
  refine wp_bname (c := saC A L' n) ok (x₃.fx hi).sees rfl rfl rfl (v := .type "int") ?_ (by decide) (by decide)
  refine wpC_callType (Ls.ev (c := saC A L' n) (d := .str (S p0)) x₃ hi (by walk_at "itemT") ok fun v4 s₄ x₄ r₄ => ?_) rfl
  obtain ⟨t4, rfl⟩ := r₄
  cases hv : PySem.intText? (S p0) with
  | none =>
    refine wpC_mono (wpC_toks (wpC_int_refused (Q := fun _ _ => False) (E := fun e' s' => ∃ h' tk e, e' = .ref e ∧ s' = { s₄ with heap := h', toks := tk } ∧ Heap.NewExc s₄.heap h' e "ValueError") hh (by rw [S_len]; omega) hv (by simpa [S] using hcs) fun h' tk e nx => ⟨h', tk, e, rfl, rfl, nx⟩)) (fun _ _ q => q.2.elim) fun e' s' q => ?_
    obtain ⟨htk, h', tk, e, rfl, rfl, nx⟩ := q
    refine sa_catch hA hkL hfL x₄ nx (Nat.lt_of_lt_of_le x₄.tk htk) fun s₅ f₅ c₅ m₅ => ?_
    have hr : relI b p0 ps = b := by unfold relI; rw [hv]
    rw [hr] at k
    exact wpC_of (wpAny_execs_nil (k.go ok c₅ (f₅.sub ⟨rfl, rfl, rfl, trivial⟩) m₅))
  | some v =>
    refine wpC_of (KIN.call_text hv (by rw [S_len]; omega) ?_)
    have x₅ := x₄.keeps (s' := { s₄ with toks := s₄.toks + 1 }) keeps_tok (Nat.le_succ _)
    refine x₅.set (y := "major") (d := .int v) ⟨_, rfl⟩ rfl rfl (by decide) fun s₆ x₆ => ?_
    refine wpC_of (wpAny_execs_nil ?_)
    refine wpC_of (sa_else (n := n) ok x₆ hi (hlog v hv) (hjl v hv) fun s₇ f₇ c₇ m₇ => ?_)
    have hr : relI b p0 ps = joinL [46] (digs (v - 3) :: ps) := by unfold relI; rw [hv]
    rw [hr] at k
    exact wpC_of (wpAny_execs_nil (k.go ok c₇ f₇ m₇))
end
end
section
set_option maxRecDepth 100000
set_option Elab.async false
set_option linter.unusedVariables false
set_option maxHeartbeats 1000000
/-- what system_alias makes of three texts -/
def sysR (a b d : List Nat) : List (List Nat) :=
  if a = SunL then (if b < [53] then [a, b, d] else match scanGo [46] 0 b with
    | p0 :: ps => [SolL, relI b p0 ps, d]
    | [] => [])
  else if a = winL ∨ a = win6L then [WinL, b, d] else [a, b, d]
section
variable {w : World} {A : Around} {n : Nat} {L : Addr} {mvL : Str → Option Value}
theorem sys_enter {a b d : List Nat} {base₀ : Heap} {s : Shared} {vs : List Value} {body : List Stmt} {params : Arguments} {dV kV doc pm ct oc : Value} {an od : Option Addr} {osl : Array (Option Value)} {r : D}
    (ho : (KF w).lookup 21 = some ⟨oc, od, .func (fnOf "system_alias" "system_alias" params body saScope dV kV doc pm an (.ref 20) ct), osl⟩) (hcd : codeIn (KF w) (.ref 20) "system_alias" = true) (rm : Rm A (n + 1))
    (hb : ∀ v1 v2 v3, bindArgs (fnOf "system_alias" "system_alias" params body saScope dV kV doc pm an (.ref 20) ct) ⟨[v1, v2, v3], []⟩ = pure [(("system" : Str), v1), (("release" : Str), v2), (("version" : Str), v3)])
    (h : ∀ L', SxC w (saC A L' n) L mvL (saM a b d) body (fun fd _ => fd = .ret r))
    (gl : Gl w base₀) (F : Fr base₀ L s.heap mvL) (tk : 0 < s.toks) (rp : Reps s.heap [.str (S a), .str (S b), .str (S d)] vs) :
    wpC (MM w) A (call (.ref 21) vs) (fun v s' => Rep s'.heap r v ∧ (∀ b o, b ≠ L → s.heap.get? b = some o → s'.heap.get? b = some o) ∧ s'.heap.Ns L mvL ∧ Same s s' ∧ 0 < s'.toks) No s := by
  have gs : Gl w s.heap := gl.keeps F.keep
  match vs, rp with
  | [v1, v2, v3], ⟨r1, r2, r3, _⟩ =>
  refine wpC_call (codeC_call_function (by have := rm.dp; omega) (gs.k _ _ ho) rfl rfl rfl rfl (codeRec_of gs.k hcd) ?_)
  rw [hb v1 v2 v3]
  refine wpAny_pure (wpAny_newFunctionEnv (show ∀ x ∈ saScope.names, x.2 ≠ .cell by decide) ?_ (fun h₁ hns hsb => ⟨gs.lim.fresh _ hsb, codeC_func ?_⟩) rfl)
  · intro x hx
    simp only [List.mem_cons, List.not_mem_nil, or_false] at hx
    rcases hx with rfl | rfl | rfl <;> rfl
  have e2 : Ext s.heap h₁ := fun b o e => hsb.extBut b o (Nat.ne_of_lt (Heap.lt_size e)) (Heap.get?_push_of_some _ e)
  have ok : (saC A s.heap.objs.size n).Ok := ⟨rm.deeper _, rfl, rfl, rfl⟩
  have hLlt : L < s.heap.objs.size := F.ns.lt
  have hg : Ext base₀ (s.heap.hide L) := fun b o e => (Heap.hide_ne _ (fun q => by
    have := Nat.lt_of_lt_of_le (Heap.lt_size e) F.above
    exact Nat.ne_of_lt this q)).trans (F.keep b o e)
  have fx : Fx w (s.heap.hide L) (saEnv s.heap.objs.size) (saM a b d) { s with heap := h₁, toks := s.toks + 3 } := by
    refine ⟨gl.keeps hg, by show 0 < s.toks + 3; omega, _, ⟨hns, fun b o e => e2 b o (Heap.of_hide e), Nat.le_of_eq (Heap.hide_size _ _)⟩, fun y e q => ?_⟩
    exact Al.get (a := saM a b d) (b := [("version", v3), ("release", v2), ("system", v1)]) ⟨rfl, r3.keeps e2, rfl, r2.keeps e2, rfl, r1.keeps e2, trivial⟩ q
  have cl : Cll L mvL (saEnv s.heap.objs.size) (s.heap.hide L) h₁ := ⟨Heap.hide_self _ _, F.ns.keeps e2, Nat.ne_of_lt hLlt⟩
  refine wpC_mono (h _ (s.heap.hide L) _ ok cl fx) (fun fl s' ⟨fd, m', q1, q2, q3, q4, q5⟩ => ?_) fun _ _ x => x
  subst q1
  cases fl with
  | ret v =>
    obtain ⟨mv, F', _⟩ := q3.fr
    exact ⟨q2, fun b o hb e => F'.keep b o ((Heap.hide_ne _ hb).trans e), q4.ns, Same.trans (b := { s with heap := h₁, toks := s.toks + 3 }) ⟨h₁, _, rfl⟩ q5, q3.tk⟩
  | next => exact q2.elim
  | brk => exact q2.elim
  | cont => exact q2.elim
theorem cl_sysalias {envL : Env} {a b d : List Nat} {base₀ : Heap} {s : Shared} {vs : List Value} (rm : Rm A (n + 1)) (hA : A.frames = some [envL]) (hkL : envL.scope.kind ≠ .module) (hfL : envL.frame = some L)
    (hb : b.length ≤ 600) (hp : ¬ b < [53] → ∀ p0 ps, scanGo [46] 0 b = p0 :: ps → p0.length ≤ 600 ∧ (∀ x ∈ p0, x < 16 ^ 8) ∧ ps.length ≤ 1000 ∧ ∀ v, PySem.intText? (S p0) = some v → (v - 3).natAbs.log2 < 1920 ∧
      (((digs (v - 3) :: ps).map S).map (·.length)).sum + ((digs (v - 3) :: ps).map S).length * 1 ≤ 16777216)
    (gl : Gl w base₀) (F : Fr base₀ L s.heap mvL) (tk : 0 < s.toks) (rp : Reps s.heap [.str (S a), .str (S b), .str (S d)] vs) :
    wpC (MM w) A (call (.ref 21) vs) (fun v s' => Rep s'.heap (.tup ((sysR a b d).map S)) v ∧ (∀ b o, b ≠ L → s.heap.get? b = some o → s'.heap.get? b = some o) ∧ s'.heap.Ns L mvL ∧ Same s s' ∧ 0 < s'.toks) No s := by
  refine' sys_enter (n := n) ?ho ?hcd rm ?hb ?h gl F tk rp
  case ho => exact rfl
  case hcd => exact rfl
  case hb => intro v1 v2 v3; exact rfl
  case h =>
    intro L'
    have ret3 : ∀ (x y z : List Nat) (p q : Pos) (p1 p2 p3 : Pos) (k : Nat) {m : Mem} {Q : FD → Mem → Prop}, m.lookup ("system" : Str) = some (.str (S x)) → m.lookup ("release" : Str) = some (.str (S y)) → m.lookup ("version" : Str) = some (.str (S z)) → Q (.ret (.tup ([x, y, z].map S))) m →
        SxC w (saC A L' n) L mvL m [.Return (some (.Tuple [.Name "system" p1, .Name "release" p2, .Name "version" p3] k p)) q] Q := by
      intro x y z p q p1 p2 p3 k m Q h1 h2 h3 hq
      refine SxC.of (Sx.ret (d := .tup ([x, y, z].map S)) ?_ hq)
      (with_reducible refine' Ev.tup ?_ ?_)
      · show Evs _ _ _ _ [D.str (S x), D.str (S y), D.str (S z)]
        exact Evs.cons (Ev.name h1 rfl (by decide)) (Evs.cons (Ev.name h2 rfl (by decide)) (Evs.cons (Ev.name h3 rfl (by decide)) Evs.nil rfl) rfl) rfl
      · rw [sizeLine_eq]; simp
    refine SxC.if_ (by walk_at "tv") (fun h => ?_) fun h => ?_
    · have h' : a = SunL := of_decide_eq_true h
      unfold sysR
      rw [if_pos h']
      refine SxC.if_ (by walk_at "tv") (fun h => ?_) fun h => ?_
      · have h5 : b < [53] := of_decide_eq_true h
        refine ret3 a b d _ _ _ _ _ _ rfl rfl rfl ?_
        show FD.ret _ = _
        rw [if_pos h5]
      · have h5 : ¬ b < [53] := of_decide_eq_false h
        rw [if_neg h5]
        obtain ⟨p0, ps, hsp⟩ := scan_ne [46] b 0
        obtain ⟨g1, g2, g3, g4⟩ := hp h5 p0 ps hsp
        rw [hsp]
        refine SxC.of (Sx.nil (SxC.parts hA hkL hfL hb g1 g2 hsp g3 (fun v hv => (g4 v hv).1) (fun v hv => (g4 v hv).2) ?_))
        refine SxC.if_ (by walk_at "tv") (fun h => ?_) fun h => ?_
        · refine SxC.of (Sx.assign (d := .str (S SolL)) (by walk_at "ev") (Sx.nil (SxC.of (Sx.nil ?_))) rfl)
          exact ret3 SolL (relI b p0 ps) d _ _ _ _ _ _ rfl rfl rfl rfl
        · refine SxC.of (Sx.assign (d := .str (S SolL)) (by walk_at "ev") (Sx.nil (SxC.of (Sx.nil ?_))) rfl)
          exact ret3 SolL (relI b p0 ps) d _ _ _ _ _ _ rfl rfl rfl rfl
    · have h' : a ≠ SunL := of_decide_eq_false h
      unfold sysR
      rw [if_neg h']
      refine SxC.if_ (v := decide (a = winL ∨ a = win6L)) ?_ (fun h => ?_) fun h => ?_
      · refine Tv.conv (Tv.cmp (a := .str (S a)) (b := .tup ([winL, win6L].map S)) (by walk_at "ev") ?_ Cm.inT rfl) ?_
        · (with_reducible refine' Ev.tup ?_ ?_)
          · show Evs _ _ _ _ [D.str (S winL), D.str (S win6L)]
            walk_at "evs"
          · rw [sizeLine_eq]; simp
        · show (S winL == S a || (S win6L == S a || false)) = _
          rw [S_beq, S_beq]
          by_cases h1 : a = winL
          · simp [h1]
          · by_cases h2 : a = win6L
            · simp [h2]
            · simp [h1, h2, Ne.symm h1, Ne.symm h2]
      · have hw := of_decide_eq_true h
        rw [if_pos hw]
        refine SxC.of (Sx.assign (d := .str (S WinL)) (by walk_at "ev") (Sx.nil (SxC.of (Sx.nil ?_))) rfl)
        exact ret3 WinL b d _ _ _ _ _ _ rfl rfl rfl rfl
      · have hw := of_decide_eq_false h
        rw [if_neg hw]
        refine SxC.of (Sx.nil (SxC.of (Sx.nil ?_)))
        exact ret3 a b d _ _ _ _ _ _ rfl rfl rfl rfl
end
end
section
set_option maxRecDepth 100000
set_option Elab.async false
set_option linter.unusedVariables false
set_option maxHeartbeats 1000000
def asc : List Nat := (List.range 95).map (· + 32)
def tens : List Nat := [119808, 119860, 119912, 120016, 120172, 120224, 120276, 120328, 120380, 120432]
def mth : List Nat := tens.flatMap fun s => (List.range 26).map (s + ·)
theorem space_asc : ∀ x ∈ asc, Unicode.isSpace x = decide (x = 32) := by decide +kernel
theorem space_num : Unicode.isSpace 8470 = false := by decide +kernel
theorem space_mth : ∀ x ∈ mth, Unicode.isSpace x = false := by decide +kernel
theorem fold_num : foldS 8470 = S (readC 8470) := by decide +kernel
theorem find_sub {α : Type} {l : List α} {p q : α → Bool} (h : ∀ a, p a = true → q a = true) : l.find? p = (l.filter q).find? p := by
  rw [List.find?_filter]
  congr 1
  funext a
  cases hp : p a with
  | false => simp
  | true => simp [h a hp]
theorem range_find : ∀ i < 26, (List.range 26).find? (fun j => j == i) = some i := by decide +kernel
theorem b3_blocks : ∀ s ∈ tens, ((b3c ++ (b3cs.flatten ++ b3tl)).filter fun p => Nat.ble s p.1 && Nat.blt p.1 (s + 26)) = (List.range 26).map fun i => (s + i, S [97 + i]) := by decide +kernel
theorem read_blocks : ∀ s ∈ tens, ∀ i < 26, readC (s + i) = [97 + i] := by decide +kernel
theorem mth_block {x : Nat} (h : x ∈ mth) : ∃ s ∈ tens, ∃ i < 26, x = s + i := by
  obtain ⟨s, hs, hx⟩ := List.mem_flatMap.mp h
  obtain ⟨i, hi, rfl⟩ := List.mem_map.mp hx
  exact ⟨s, hs, i, List.mem_range.mp hi, rfl⟩
theorem fold_mth : ∀ x ∈ mth, foldS x = S (readC x) := by
  intro x hx
  obtain ⟨s, hs, i, hi, rfl⟩ := mth_block hx
  have hb : b3f (s + i) = some (S [97 + i]) := by
    unfold b3f
    rw [find_sub (q := fun p => Nat.ble s p.1 && Nat.blt p.1 (s + 26)) (fun a ha => by
      have e : a.1 = s + i := beq_iff_eq.mp ha
      rw [e, Nat.ble_eq_true_of_le (by omega : s ≤ s + i)]
      exact Nat.ble_eq_true_of_le (by omega : s + i + 1 ≤ s + 26)), b3_blocks s hs, List.find?_map]
    have e : ((fun p : Nat × Str => p.1 == s + i) ∘ fun i => (s + i, S [97 + i])) = fun j => j == i := by
      funext j
      show (s + j == s + i) = (j == i)
      rw [Bool.eq_iff_iff, beq_iff_eq, beq_iff_eq]
      omega
    rw [e, range_find i hi]
    rfl
  unfold foldS
  rw [hb, read_blocks s hs i hi]
theorem b3_far : ((b3c ++ (b3cs.flatten ++ b3tl)).all fun p => Nat.ble 127 p.1) = true := by decide +kernel
theorem asc_lt : ∀ x ∈ asc, x < 127 := by decide +kernel
theorem b3_asc : ∀ x ∈ asc, b3f x = none := by
  intro x hx
  have h1 := asc_lt x hx
  unfold b3f
  rw [List.find?_eq_none.mpr fun p hp => ?_]
  · rfl
  · have h2 := Nat.le_of_ble_eq_true (List.all_eq_true.mp b3_far p hp)
    intro h3
    have h4 : p.1 = x := beq_iff_eq.mp h3
    omega
theorem low_asc : ∀ x ∈ asc, Txt.lower (S [x]) = S (readC x) := by decide +kernel
end
section
set_option maxRecDepth 100000
set_option Elab.async false
set_option linter.unusedVariables false
set_option maxHeartbeats 1000000
open NumText
theorem dec_num : Unicode.decimalValue? 8470 = none := by decide +kernel
theorem mth_ge : ∀ x ∈ mth, 119808 ≤ x ∧ x ≤ 120483 := by decide +kernel
theorem dec_far : (UnicodeData.decimal.all fun p => Nat.blt p.2 119808 || Nat.blt 120483 p.1) = true := by decide +kernel
theorem dec_mth : ∀ x ∈ mth, Unicode.decimalValue? x = none := by
  intro x hx
  have h := mth_ge x hx
  unfold Unicode.decimalValue?
  rw [List.find?_eq_none.mpr fun p hp => ?_]
  · rfl
  · have h2 := List.all_eq_true.mp dec_far p hp
    intro h3
    have h4 : (decide (p.1 ≤ x) && decide (x ≤ p.2)) = true := h3
    rw [Bool.and_eq_true, decide_eq_true_eq, decide_eq_true_eq] at h4
    rw [Bool.or_eq_true] at h2
    rcases h2 with h2 | h2
    · have := Nat.le_of_ble_eq_true h2; omega
    · have := Nat.le_of_ble_eq_true h2; omega
theorem asc_iff (x : Nat) : x ∈ asc ↔ 32 ≤ x ∧ x ≤ 126 := by
  unfold asc
  simp only [List.mem_map, List.mem_range]
  constructor
  · rintro ⟨a, h, rfl⟩; omega
  · intro h; exact ⟨x - 32, by omega, by omega⟩
/-- the signs that the law's texts are made of -/
abbrev okc (x : Nat) : Prop := (32 ≤ x ∧ x ≤ 126) ∨ x = 8470 ∨ x ∈ mth
theorem okc.space {x : Nat} (h : okc x) : Unicode.isSpace x = decide (x = 32) := by
  rcases h with h | h | h
  · exact space_asc x ((asc_iff x).mpr h)
  · subst h; exact space_num
  · rw [space_mth x h]; have := mth_ge x h; exact (decide_eq_false (by omega)).symm
theorem okc.dec {x : Nat} (h : okc x) (hx : 127 ≤ x) : Unicode.decimalValue? x = none := by
  rcases h with h | h | h
  · omega
  · subst h; exact dec_num
  · exact dec_mth x h
theorem okc.lt {x : Nat} (h : okc x) : x < 16 ^ 8 := by
  rcases h with h | h | h
  · omega
  · omega
  · have := mth_ge x h; omega
theorem okc.pos {x : Nat} (h : okc x) : 32 ≤ x := by
  rcases h with h | h | h
  · omega
  · omega
  · have := mth_ge x h; omega
theorem numGo_bad : ∀ (l : List Nat) (v b x : Nat), x ∈ l → ¬ (48 ≤ x ∧ x ≤ 57) → x ≠ 95 → numGo l v b = -1
  | y :: l, v, b, x, hm, h1, h2 => by
    unfold numGo
    rcases List.mem_cons.mp hm with rfl | hm
    · rw [if_neg h1, if_pos (.inl h2)]
    · split
      · exact numGo_bad l _ _ x hm h1 h2
      · split
        · rfl
        · exact numGo_bad l _ _ x hm h1 h2
def valA (ds : Array Nat) : Nat := ds.foldl (fun acc d => acc * 10 + d) 0
theorem valA_push (ds : Array Nat) (d : Nat) : valA (ds.push d) = valA ds * 10 + d := by simp [valA]
theorem digit_ten (x : Nat) : (match digit? x with | some d => if d < 10 then some d else none | none => none) = if 48 ≤ x ∧ x ≤ 57 then some (x - 48) else none := by
  unfold digit?
  by_cases h : 48 ≤ x ∧ x ≤ 57
  · simp [h]; omega
  · have e : (48 ≤ x && x ≤ 57) = false := by simpa using fun a => by omega
    rw [e, if_neg h]
    simp only [Bool.false_eq_true, if_false]
    by_cases h2 : (97 ≤ x && x ≤ 122) = true
    · rw [if_pos h2]; simp at h2 ⊢; omega
    · rw [if_neg h2]
      by_cases h3 : (65 ≤ x && x ≤ 90) = true
      · rw [if_pos h3]; simp at h3 ⊢; omega
      · rw [if_neg h3]
theorem step_ten (p : Array Nat × Bool) (x : Nat) : NumText.step 10 p x = if x = 95 then (if p.2 then some (p.1, false) else none) else if 48 ≤ x ∧ x ≤ 57 then some (p.1.push (x - 48), true) else none := by
  unfold NumText.step
  by_cases h : x = 95
  · simp [h]
  · have e : (x == 95) = false := by simpa using h
    rw [e, if_neg h]
    simp only [Bool.false_eq_true, if_false]
    have := digit_ten x
    cases hd : digit? x with
    | none => rw [hd] at this; simp at this; rw [if_neg (by omega)]
    | some dd =>
      rw [hd] at this
      simp only at this ⊢
      by_cases h4 : 48 ≤ x ∧ x ≤ 57
      · rw [if_pos h4] at this ⊢
        split at this
        · rename_i h5; rw [if_pos h5]; cases this; rfl
        · cases this
      · rw [if_neg h4] at this ⊢
        split at this
        · cases this
        · rename_i h5; rw [if_neg h5]
theorem num_fold : ∀ (l : List Nat) (ds : Array Nat) (fl : Bool) (b : Nat), (b = 95 ↔ fl = false) →
    numGo l (valA ds) b = match l.foldlM (NumText.step 10) (ds, fl) with | some (ds', true) => (valA ds' : Int) | _ => -1
  | [], ds, fl, b, h => by
    unfold numGo
    cases fl with
    | true => rw [if_neg (by simpa using h)]; rfl
    | false => rw [if_pos (by simpa using h)]; rfl
  | x :: l, ds, fl, b, h => by
    unfold numGo
    rw [List.foldlM_cons, step_ten]
    by_cases h95 : x = 95
    · subst h95
      rw [if_neg (by omega), if_pos rfl]
      cases fl with
      | true =>
        rw [if_neg (by simpa using h), if_pos rfl]
        exact num_fold l ds false 95 (by simp)
      | false =>
        rw [if_pos (.inr (by simpa using h)), if_neg (by simp)]
        rfl
    · rw [if_neg h95]
      by_cases hd : 48 ≤ x ∧ x ≤ 57
      · rw [if_pos hd, if_pos hd, ← valA_push]
        exact num_fold l _ true x (by simp; omega)
      · rw [if_neg hd, if_pos (.inl h95), if_neg hd]
        rfl
theorem drop_blank {l : List Nat} (h : ∀ x ∈ l, 32 ≤ x) : (l.reverse.dropWhile blank).reverse = trimR l := by
  have e : ∀ m : List Nat, (∀ x ∈ m, 32 ≤ x) → m.dropWhile blank = trimL m := by
    intro m
    induction m with
    | nil => intro _; rfl
    | cons x m ih =>
      intro hm
      have hx := hm x List.mem_cons_self
      by_cases h3 : x = 32
      · subst h3
        show m.dropWhile blank = trimL m
        exact ih fun y hy => hm y (List.mem_cons_of_mem _ hy)
      · have hb : blank x = false := by unfold blank; simp [h3]; omega
        rw [List.dropWhile_cons_of_neg (by simp [hb])]
        unfold trimL
        split
        · rename_i q; cases q; exact absurd rfl h3
        · rfl
  unfold trimR
  rw [e _ fun x hx => h x (List.mem_reverse.mp hx)]
theorem core_of {l : List Nat} {x : Nat} {r : List Nat} (hl : l = x :: r) (hx : 53 ≤ x) (h : ∀ y ∈ l, 32 ≤ y) : core l = trimR l ∧ (NumText.sign (l.dropWhile blank)).1 = false := by
  have hb : blank x = false := by unfold blank; simp; omega
  have e1 : l.dropWhile blank = l := by rw [hl, List.dropWhile_cons_of_neg (by simp [hb])]
  have e2 : NumText.sign l = (false, l) := by
    rw [hl]
    unfold NumText.sign
    split
    · rename_i q; cases q; omega
    · rename_i q; cases q; omega
    · rfl
  unfold core
  rw [e1, e2]
  exact ⟨drop_blank h, rfl⟩
theorem seen_of {l : List Nat} (h : ∀ y ∈ l, 32 ≤ y) : l.takeWhile (· != 0) = l := by
  induction l with
  | nil => rfl
  | cons x l ih =>
    rw [List.takeWhile_cons_of_pos (by have := h x List.mem_cons_self; simp; omega), ih fun y hy => h y (List.mem_cons_of_mem _ hy)]
theorem trimR_mem {l : List Nat} {x : Nat} (h : x ∈ l) (hx : x ≠ 32) : x ∈ trimR l := by
  have e : ∀ m : List Nat, x ∈ m → x ∈ trimL m := by
    intro m
    induction m with
    | nil => intro q; cases q
    | cons y m ih =>
      intro q
      unfold trimL
      split
      · rename_i z; cases z
        rcases List.mem_cons.mp q with q | q
        · exact absurd q hx
        · exact ih q
      · exact q
  unfold trimR
  exact List.mem_reverse.mpr (e _ (List.mem_reverse.mpr h))
theorem numberText_cut : ∀ (l : List Nat), (∀ x ∈ l, okc x) → ¬ (∀ x ∈ l, x < 127) → ∃ p q, Unicode.numberText l = p ++ [63] ∧ (∀ x ∈ p, x < 127) ∧ l = p ++ q ∧ ∃ y q', q = y :: q' ∧ 127 ≤ y
  | [], _, h => absurd (fun x hx => by cases hx) h
  | x :: l, hg, h => by
    unfold Unicode.numberText
    by_cases hx : x < 127
    · obtain ⟨p, q, a, b, c, d⟩ := numberText_cut l (fun y hy => hg y (List.mem_cons_of_mem _ hy)) fun q => h fun y hy => by
        rcases List.mem_cons.mp hy with rfl | hy
        · exact hx
        · exact q y hy
      refine ⟨x :: p, q, ?_, ?_, ?_, d⟩
      · rw [if_pos hx, a]; rfl
      · intro y hy
        rcases List.mem_cons.mp hy with rfl | hy
        · exact hx
        · exact b y hy
      · rw [c]; rfl
    · have hk := hg x List.mem_cons_self
      refine ⟨[], x :: l, ?_, (fun y hy => by cases hy), rfl, x, l, rfl, by omega⟩
      rw [if_neg hx, hk.space, hk.dec (by omega), if_neg (by simp; omega)]
      rfl
theorem int_field {l : List Nat} (hg : ∀ x ∈ l, okc x) (hl : l.length ≤ 4000) {x : Nat} {r : List Nat} (e : l = x :: r) (hx : 53 ≤ x) :
    PySem.intText? (S l) = if 0 ≤ numF l then some (numF l) else none := by
  have h32 : ∀ y ∈ l, 32 ≤ y := fun y hy => (hg y hy).pos
  by_cases hasc : ∀ y ∈ l, y < 127
  · have e1 : numTextOf (S l) = l := by
      have : (S l).cps.all (· < 128) = true := by
        rw [Array.all_eq_true']
        intro y hy
        have := hasc y (by simpa [S] using hy)
        simp; omega
      unfold numTextOf
      rw [if_pos this]
    have e2 : numSeenOf (S l) = l := by unfold numSeenOf; rw [e1]; exact seen_of h32
    obtain ⟨c1, c2⟩ := core_of e hx h32
    unfold PySem.intText?
    rw [e1, e2, if_pos (by simp), c1, c2]
    have nf := num_fold (trimR l) #[] false 95 (by simp)
    have nf' : numF l = match (trimR l).foldlM (NumText.step 10) (#[], false) with | some (ds', true) => (valA ds' : Int) | _ => -1 := nf
    have hsz := fun ds => @digits_size 10 (trimR l) ds
    unfold digits? at hsz ⊢
    cases hf : (trimR l).foldlM (NumText.step 10) ((#[] : Array Nat), false) with
    | none => rw [hf] at nf'; rw [nf']; rfl
    | some p =>
      obtain ⟨ds, fl⟩ := p
      rw [hf] at nf' hsz
      cases fl with
      | false => rw [nf']; rfl
      | true =>
        have hd := hsz ds rfl
        have h4 := trimR_len l
        rw [nf', if_pos (by simp)]
        show (if ds.size ≤ 4300 then some (worth false ds) else none) = _
        rw [if_pos (by omega)]
        rfl
  · obtain ⟨p, q, a, b, c, y, q', d, hy⟩ := numberText_cut l hg hasc
    have hyl : y ∈ l := by rw [c, d]; simp
    have nf : numF l = -1 := numGo_bad _ _ _ y (trimR_mem hyl (by omega)) (by omega) (by omega)
    have e1 : numTextOf (S l) = p ++ [63] := by
      have : ¬ (S l).cps.all (· < 128) = true := by
        rw [Array.all_eq_true']
        intro hq
        have h1 := hq y (by simpa [S] using hyl)
        have : 128 ≤ y := by
          rcases hg y hyl with z | z | z
          · omega
          · omega
          · have := mth_ge y z; omega
        simp at h1; omega
      unfold numTextOf
      rw [if_neg this]
      exact a
    have hp32 : ∀ z ∈ p ++ [63], 32 ≤ z := by
      intro z hz
      rcases List.mem_append.mp hz with hz | hz
      · exact h32 z (by rw [c]; exact List.mem_append_left _ hz)
      · rw [List.mem_singleton.mp hz]; omega
    have e2 : numSeenOf (S l) = p ++ [63] := by unfold numSeenOf; rw [e1]; exact seen_of hp32
    have hcore : core (p ++ [63]) = trimR (p ++ [63]) := by
      cases p with
      | nil => exact (core_of (l := [] ++ [63]) (x := 63) (r := []) rfl (by omega) hp32).1
      | cons z p' =>
        have : z = x := by rw [c] at e; simpa using (List.cons.inj e).1
        exact (core_of (l := z :: p' ++ [63]) (x := z) (r := p' ++ [63]) rfl (by omega) hp32).1
    have bad := num_fold (trimR (p ++ [63])) #[] false 95 (by simp)
    rw [numGo_bad _ _ _ 63 (trimR_mem (by simp) (by omega)) (by omega) (by omega)] at bad
    unfold PySem.intText?
    rw [e1, e2, if_pos (by simp), hcore, nf, if_neg (by omega)]
    unfold digits?
    cases hf : (trimR (p ++ [63])).foldlM (NumText.step 10) ((#[] : Array Nat), false) with
    | none => rfl
    | some u =>
      obtain ⟨ds, fl⟩ := u
      rw [hf] at bad
      cases fl with
      | false => rfl
      | true => simp at bad
end
section
set_option maxRecDepth 100000
set_option Elab.async false
set_option linter.unusedVariables false
set_option maxHeartbeats 1000000
theorem hd46_cons {x : Nat} {r : List Nat} (h : x ≠ 46) : hd46 (x :: r) = x :: hd46 r := by simp [hd46, h]
theorem scan_hd : ∀ (b p0 : List Nat) (ps : List (List Nat)), scanGo [46] 0 b = p0 :: ps → p0 = hd46 b ∧ (∀ z, joinL [46] (z :: ps) = z ++ tl46 b) ∧ (p0.length + (ps.map List.length).sum + ps.length = b.length)
  | [], p0, ps, h => by
    have h' : [[]] = p0 :: ps := h
    cases h'
    exact ⟨rfl, fun z => by simp [joinL, tl46], rfl⟩
  | x :: b, p0, ps, h => by
    unfold scanGo at h
    by_cases hx : x = 46
    · subst hx
      rw [if_pos (by simp)] at h
      cases h
      obtain ⟨q0, qs, hq⟩ := scan_ne [46] b 0
      obtain ⟨i1, i2, i3⟩ := scan_hd b q0 qs hq
      have hq' : scanGo [46] ([46].length - 1) b = q0 :: qs := hq
      rw [hq']
      refine ⟨by simp [hd46], fun z => ?_, ?_⟩
      · have := i2 q0
        show z ++ [46] ++ joinL [46] (q0 :: qs) = _
        rw [this, i1, head_tail]
        simp [tl46]
      · simp; omega
    · rw [if_neg (by simpa using hx)] at h
      obtain ⟨q0, qs, hq⟩ := scan_ne [46] b 0
      obtain ⟨i1, i2, i3⟩ := scan_hd b q0 qs hq
      rw [hq] at h
      cases h
      refine ⟨by simp [hd46, hx, i1], fun z => ?_, by simp; omega⟩
      rw [i2 z]
      simp [tl46, hx]
theorem lt5 (b : List Nat) : b < [53] ↔ ¬ 53 ≤ b.headD 0 := by
  cases b with
  | nil => simp
  | cons x l =>
    rw [List.cons_lt_cons_iff]
    simp
theorem sysR_alias {A B Dd : List Nat} (hg : ∀ x ∈ B, okc x) (hl : B.length ≤ 300) : sysR A B Dd =
    (if A = winL ∨ A = win6L then [WinL, B, Dd] else if A = SunL ∧ 53 ≤ B.headD 0 then [SolL, newRel B, Dd] else [A, B, Dd]) := by
  unfold sysR
  by_cases hs : A = SunL
  · subst hs
    rw [if_pos rfl, if_neg (show ¬ (SunL = winL ∨ SunL = win6L) by decide)]
    by_cases h5 : 53 ≤ B.headD 0
    · rw [if_neg (fun q => (lt5 B).mp q h5), if_pos ⟨rfl, h5⟩]
      obtain ⟨p0, ps, hq⟩ := scan_ne [46] B 0
      obtain ⟨i1, i2, i3⟩ := scan_hd B p0 ps hq
      rw [hq]
      dsimp only
      have hB : ∃ x r, B = x :: r := by cases B with | nil => simp at h5 | cons x r => exact ⟨x, r, rfl⟩
      obtain ⟨x, r, rfl⟩ := hB
      have hx : 53 ≤ x := h5
      have hp : p0 = x :: hd46 r := by rw [i1, hd46_cons (by omega)]
      have hpg : ∀ y ∈ p0, okc y := fun y hy => hg y (by rw [← head_tail (x :: r), ← i1]; exact List.mem_append_left _ hy)
      have hi := int_field hpg (by omega) hp hx
      have : relI (x :: r) p0 ps = newRel (x :: r) := by
        unfold relI newRel
        rw [hi, ← i1]
        by_cases h0 : 0 ≤ numF p0
        · rw [if_pos h0, if_pos h0]; exact i2 _
        · rw [if_neg h0, if_neg h0]
      rw [this]
    · rw [if_pos ((lt5 B).mpr h5), if_neg (fun q => h5 q.2)]
  · rw [if_neg hs]
    by_cases hw : A = winL ∨ A = win6L
    · rw [if_pos hw, if_pos hw]
    · rw [if_neg hw, if_neg hw, if_neg (fun q => hs q.1)]
theorem numGo_ge : ∀ (l : List Nat) (v b : Nat), -1 ≤ numGo l v b
  | [], v, b => by unfold numGo; split <;> omega
  | x :: l, v, b => by
    unfold numGo
    split
    · exact numGo_ge l _ _
    · split
      · omega
      · exact numGo_ge l _ _
theorem sys_side {B : List Nat} (hg : ∀ x ∈ B, okc x) (hl : B.length ≤ 300) (h5 : ¬ B < [53]) (p0 : List Nat) (ps : List (List Nat)) (hq : scanGo [46] 0 B = p0 :: ps) :
    p0.length ≤ 600 ∧ (∀ x ∈ p0, x < 16 ^ 8) ∧ ps.length ≤ 1000 ∧ ∀ v, PySem.intText? (S p0) = some v → (v - 3).natAbs.log2 < 1920 ∧
      (((digs (v - 3) :: ps).map S).map (·.length)).sum + ((digs (v - 3) :: ps).map S).length * 1 ≤ 16777216 := by
  obtain ⟨i1, i2, i3⟩ := scan_hd B p0 ps hq
  have h53 : 53 ≤ B.headD 0 := by
    by_cases h : 53 ≤ B.headD 0
    · exact h
    · exact absurd ((lt5 B).mpr h) h5
  have hB : ∃ x r, B = x :: r := by cases B with | nil => simp at h53 | cons x r => exact ⟨x, r, rfl⟩
  obtain ⟨x, r, rfl⟩ := hB
  have hx : 53 ≤ x := h53
  have hp : p0 = x :: hd46 r := by rw [i1, hd46_cons (by omega)]
  have hpg : ∀ y ∈ p0, okc y := fun y hy => hg y (by rw [← head_tail (x :: r), ← i1]; exact List.mem_append_left _ hy)
  refine ⟨by omega, fun y hy => (hpg y hy).lt, by omega, fun v hv => ?_⟩
  rw [int_field hpg (by omega) hp hx] at hv
  by_cases h0 : 0 ≤ numF p0
  · rw [if_pos h0] at hv
    cases hv
    have hs := num_small (l := p0) (by omega) h0
    refine ⟨hs, ?_⟩
    have hd := digs_len hs
    have e : ((ps.map S).map (·.length)).sum = (ps.map List.length).sum := by rw [List.map_map]; congr 1
    simp only [List.map_cons, List.sum_cons, List.length_cons, List.length_map, S_len] at e ⊢
    rw [e]
    omega
  · rw [if_neg h0] at hv; cases hv
end
section
set_option maxRecDepth 100000
set_option Elab.async false
set_option linter.unusedVariables false
set_option maxHeartbeats 1000000
abbrev ok3 (x : Nat) : Prop := okc x ∧ x ≠ 92 ∧ x ≠ 59 ∧ x ≠ 34
def okB (x : Nat) : Bool := (Nat.ble 32 x && Nat.ble x 126) || Nat.beq x 8470 || tens.any fun s => Nat.ble s x && Nat.blt x (s + 26)
def ok3B (x : Nat) : Bool := okB x && !Nat.beq x 92 && !Nat.beq x 59 && !Nat.beq x 34
theorem beq_no {x y : Nat} (h : (!Nat.beq x y) = true) : x ≠ y := by
  intro e
  subst e
  rw [Nat.beq_refl] at h
  cases h
theorem ok3_of {x : Nat} (h : ok3B x = true) : ok3 x := by
  unfold ok3B at h
  obtain ⟨h, h3⟩ := Bool.and_eq_true_iff.mp h
  obtain ⟨h, h2⟩ := Bool.and_eq_true_iff.mp h
  obtain ⟨h, h1⟩ := Bool.and_eq_true_iff.mp h
  refine ⟨?_, beq_no h1, beq_no h2, beq_no h3⟩
  unfold okB at h
  rw [Bool.or_eq_true, Bool.or_eq_true] at h
  rcases h with (h | h) | h
  · obtain ⟨a, b⟩ := Bool.and_eq_true_iff.mp h
    exact .inl ⟨Nat.le_of_ble_eq_true a, Nat.le_of_ble_eq_true b⟩
  · exact .inr (.inl (Nat.eq_of_beq_eq_true h))
  · obtain ⟨s, hs, h⟩ := List.any_eq_true.mp h
    obtain ⟨a, b⟩ := Bool.and_eq_true_iff.mp h
    have a := Nat.le_of_ble_eq_true a
    have b : x + 1 ≤ s + 26 := Nat.le_of_ble_eq_true b
    exact .inr (.inr (List.mem_flatMap.mpr ⟨s, hs, List.mem_map.mpr ⟨x - s, List.mem_range.mpr (by omega), by omega⟩⟩))
theorem ok3_all {l : List Nat} (h : l.all ok3B = true) : ∀ y ∈ l, ok3 y := fun y hy => ok3_of (List.all_eq_true.mp h y hy)
def Tx (l : List Nat) : Prop := ∀ x ∈ l, ok3 x
theorem fold_ok {x : Nat} (h : okc x) : foldS x = S (readC x) := by
  rcases h with h | h | h
  · have hm := (asc_iff x).mpr h
    unfold foldS
    rw [b3_asc x hm]
    exact low_asc x hm
  · subst h; exact fold_num
  · exact fold_mth x h
theorem read_letB : ∀ i < 26, ok3B (97 + i) = true := by decide +kernel
theorem read_mth : ∀ x ∈ mth, ∀ y ∈ readC x, ok3 y := by
  intro x hx y hy
  obtain ⟨s, hs, i, hi, rfl⟩ := mth_block hx
  rw [read_blocks s hs i hi] at hy
  rw [List.mem_singleton.mp hy]
  exact ok3_of (read_letB i hi)
theorem read_asc : ∀ x ∈ asc, ok3 x → ∀ y ∈ readC x, ok3 y := by decide +kernel
theorem read_num : ∀ y ∈ readC 8470, ok3 y := by decide +kernel
theorem read_ok {x : Nat} (h : ok3 x) : ∀ y ∈ readC x, ok3 y := by
  rcases h.1 with q | q | q
  · exact read_asc x ((asc_iff x).mpr q) h
  · subst q; exact read_num
  · exact read_mth x q
theorem Tx.read {l : List Nat} (h : Tx l) : Tx (readL l) := by
  intro y hy
  obtain ⟨x, hx, hxy⟩ := List.mem_flatMap.mp hy
  exact read_ok (h x hx) y hxy
theorem sys_txB : ∀ i < 65, ((sysNames.getD (i % 5) []).map (speltC (i / 5))).all ok3B = true := by decide +kernel
theorem sys_tx0 : ∀ i < 65, ∀ y ∈ (sysNames.getD (i % 5) []).map (speltC (i / 5)), ok3 y := fun i h => ok3_all (sys_txB i h)
theorem sys_len0 : ∀ i < 65, ((sysNames.getD (i % 5) []).map (speltC (i / 5))).length ≤ 7 := by decide +kernel
theorem ver_txB : ∀ i < 39, ((verNames.getD (i % 3) []).map (speltC (i / 3))).all ok3B = true := by decide +kernel
theorem ver_tx0 : ∀ i < 39, ∀ y ∈ (verNames.getD (i % 3) []).map (speltC (i / 3)), ok3 y := fun i h => ok3_all (ver_txB i h)
theorem ver_len0 : ∀ i < 39, ((verNames.getD (i % 3) []).map (speltC (i / 3))).length ≤ 7 := by decide +kernel
theorem firstN_lt (l : List Int) : firstN l < 65 := by unfold firstN; have := Int.emod_lt_of_pos (l.getD 0 0) (b := 65) (by omega); have := Int.emod_nonneg (l.getD 0 0) (b := 65) (by omega); omega
theorem secondN_lt (l : List Int) : secondN l < 39 := by unfold secondN; have := Int.emod_lt_of_pos (l.getD 1 0) (b := 39) (by omega); have := Int.emod_nonneg (l.getD 1 0) (b := 39) (by omega); omega
theorem sys_tx (l : List Int) : Tx (sysL l) ∧ (sysL l).length ≤ 7 := ⟨sys_tx0 _ (firstN_lt l), sys_len0 _ (firstN_lt l)⟩
theorem ver_tx (l : List Int) : Tx (verL l) ∧ (verL l).length ≤ 7 := ⟨ver_tx0 _ (secondN_lt l), ver_len0 _ (secondN_lt l)⟩
theorem digs_tx (m : Nat) : Tx (digs (m : Int)) := by
  intro y hy
  have e : digs (m : Int) = (Nat.toDigits 10 m).map Char.toNat := KIN.signs_num m
  rw [e] at hy
  obtain ⟨c, hc, rfl⟩ := List.mem_map.mp hy
  have := Nat.isDigit_of_mem_toDigits (by omega) (by omega) hc
  have h2 : 48 ≤ c.toNat ∧ c.toNat ≤ 57 := by
    simp only [Char.isDigit, Bool.and_eq_true, decide_eq_true_eq, ge_iff_le, UInt32.le_iff_toNat_le] at this
    exact this
  exact ⟨.inl (by omega), by omega, by omega, by omega⟩
theorem let_txB : ∀ f < 13, ∀ k < 26, ok3B (speltC f (97 + k)) = true := by decide +kernel
theorem let_tx0 : ∀ f < 13, ∀ k < 26, ok3 (speltC f (97 + k)) := fun f h k g => ok3_of (let_txB f h k g)
theorem unk_txB : ∀ f < 13, (unkL.map (speltC f)).all ok3B = true := by decide +kernel
theorem unk_tx0 : ∀ f < 13, ∀ y ∈ unkL.map (speltC f), ok3 y := fun f h => ok3_all (unk_txB f h)
theorem unn_txB : ∀ f < 13, ([117, 110, 107, 8470, 119, 110].map (speltC f)).all ok3B = true := by decide +kernel
theorem unn_tx0 : ∀ f < 13, ∀ y ∈ [117, 110, 107, 8470, 119, 110].map (speltC f), ok3 y := fun f h => ok3_all (unn_txB f h)
theorem Tx.ite {c : Prop} [Decidable c] {a b : List Nat} (h1 : c → Tx a) (h2 : ¬c → Tx b) : Tx (if c then a else b) := by
  by_cases h : c
  · rw [if_pos h]; exact h1 h
  · rw [if_neg h]; exact h2 h
theorem piece_tx (x : Nat) (h : x < 5408) : Tx (pieceL x) := by
  unfold pieceL
  have one : ∀ y : Nat, ok3 y → Tx [y] := fun y hy z hz => by rw [List.mem_singleton.mp hz]; exact hy
  refine Tx.ite (fun q0 => ?_) (fun q0 => ?_)
  · refine one _ ⟨.inl (by omega), by omega, by omega, by omega⟩
  refine Tx.ite (fun q0 => ?_) (fun q0 => ?_)
  · refine one _ ⟨.inl (by omega), by omega, by omega, by omega⟩
  refine Tx.ite (fun q0 => ?_) (fun q0 => ?_)
  · exact digs_tx _
  refine Tx.ite (fun q0 => ?_) (fun q0 => ?_)
  · exact one _ (by decide)
  refine Tx.ite (fun q0 => ?_) (fun q0 => ?_)
  · exact one _ (by decide)
  refine Tx.ite (fun q0 => ?_) (fun q0 => ?_)
  · exact one _ (by decide)
  refine Tx.ite (fun q0 => ?_) (fun q0 => ?_)
  · have : x / 16 % 2 = 0 ∨ x / 16 % 2 = 1 := by omega
    rcases this with q | q <;> rw [q] <;> exact one _ (by decide)
  refine Tx.ite (fun q0 => ?_) (fun q0 => ?_)
  · rw [List.map_cons, List.map_nil]
    exact one _ (let_tx0 _ (by omega) _ (by omega))
  refine Tx.ite (fun q0 => ?_) (fun q0 => ?_)
  · exact unk_tx0 _ (by omega)
  refine Tx.ite (fun q0 => ?_) (fun q0 => ?_)
  · exact unn_tx0 _ (by omega)
  · have : x / 16 % 4 = 0 ∨ x / 16 % 4 = 1 ∨ x / 16 % 4 = 2 ∨ x / 16 % 4 = 3 := by omega
    rcases this with q | q | q | q <;> rw [q] <;> exact one _ (by decide)
theorem flat_len (f : Int → List Nat) (k : Nat) (h : ∀ i, (f i).length ≤ k) : ∀ l : List Int, (l.flatMap f).length ≤ k * l.length
  | [] => by simp
  | i :: l => by
    have := flat_len f k h l
    have := h i
    rw [List.flatMap_cons, List.length_append, List.length_cons, Nat.mul_add]
    omega
theorem rel_tx (l : List Int) : Tx (relL l) ∧ (relL l).length ≤ 70 := by
  constructor
  · intro y hy
    obtain ⟨i, _, h⟩ := List.mem_flatMap.mp hy
    exact piece_tx _ (numX_lt i) y h
  · have := flat_len (fun i => pieceL (numX i)) 7 (fun i => piece_len _ (numX_lt i)) ((l.drop 2).take 10)
    have h2 : ((l.drop 2).take 10).length ≤ 10 := List.length_take_le _ _
    unfold relL
    omega
theorem digs_neg : Tx (digs (-3)) ∧ Tx (digs (-2)) ∧ Tx (digs (-1)) := by
  refine ⟨?_, ?_, ?_⟩ <;> (intro y hy; revert y; decide +kernel)
theorem digs3 {v : Int} (h : 0 ≤ v) : Tx (digs (v - 3)) := by
  by_cases h3 : 3 ≤ v
  · obtain ⟨m, hm⟩ := Int.eq_ofNat_of_zero_le (show 0 ≤ v - 3 by omega)
    rw [hm]; exact digs_tx m
  · have : v = 0 ∨ v = 1 ∨ v = 2 := by omega
    rcases this with rfl | rfl | rfl
    · exact digs_neg.1
    · exact digs_neg.2.1
    · exact digs_neg.2.2
theorem Tx.app {a b : List Nat} (ha : Tx a) (hb : Tx b) : Tx (a ++ b) := fun x hx => (List.mem_append.mp hx).elim (ha x) (hb x)
theorem Tx.nil : Tx [] := fun x hx => by cases hx
theorem Tx.blank {l : List Nat} (h : Tx l) : Tx (blankL l) := by unfold blankL; split; exact .nil; exact h
theorem Tx.okc {l : List Nat} (h : Tx l) : ∀ x ∈ l, okc x := fun x hx => (h x hx).1
theorem Tx.tl {l : List Nat} (h : Tx l) : Tx (tl46 l) := fun x hx => h x (by rw [← head_tail l]; exact List.mem_append_right _ hx)
theorem Tx.newRel {l : List Nat} (h : Tx l) : Tx (newRel l) := by
  unfold Mine.newRel
  split
  · rename_i h0; exact (digs3 h0).app h.tl
  · exact h
theorem newRel_len {l : List Nat} (hl : l.length ≤ 300) : (newRel l).length ≤ 3000 := by
  unfold newRel
  have h1 : (hd46 l).length + (tl46 l).length = l.length := by rw [← List.length_append, head_tail]
  split
  · rename_i h0
    have := digs_len (num_small (l := hd46 l) (by omega) h0)
    rw [List.length_append]; omega
  · omega
/-- three texts that the law may ask about -/
structure Row (a b d : List Nat) : Prop where
  ta : Tx a
  tb : Tx b
  td : Tx d
  la : a.length ≤ 100
  lb : b.length ≤ 300
  ld : d.length ≤ 100
theorem alias_tx {a b d : List Nat} (h : Row a b d) : ∃ x y z, aliasL a b d = [x, y, z] ∧ Tx x ∧ Tx y ∧ Tx z ∧ x.length ≤ 3000 ∧ y.length ≤ 3000 ∧ z.length ≤ 3000 := by
  have l1 := blank_len a
  have l2 := blank_len b
  have l3 := blank_len d
  have h1 := h.la
  have h2 := h.lb
  have h3 := h.ld
  unfold aliasL
  split
  · exact ⟨_, _, _, rfl, by intro y hy; revert y; decide +kernel, h.tb.blank, h.td.blank, by decide, by omega, by omega⟩
  split
  · exact ⟨_, _, _, rfl, by intro y hy; revert y; decide +kernel, h.tb.blank.newRel, h.td.blank, by decide, newRel_len (by omega), by omega⟩
  · exact ⟨_, _, _, rfl, h.ta.blank, h.tb.blank, h.td.blank, by omega, by omega, by omega⟩
theorem Row.named {a b d : List Nat} (h : Row a b d) : a.length ≤ 20 → b.length ≤ 100 → d.length ≤ 20 → Row (if readL a = sunL then SunL else readL a) (readL b) (readL d) := by
  intro h1 h2 h3
  have l1 := readL_len a
  have l2 := readL_len b
  have l3 := readL_len d
  refine ⟨?_, h.tb.read, h.td.read, ?_, by omega, by omega⟩
  · split
    · intro y hy; revert y; decide +kernel
    · exact h.ta.read
  · split
    · decide
    · omega
theorem row_ok (l : List Int) : Row (sysL l) (relL l) (verL l) := by
  have := (sys_tx l).2
  have := (rel_tx l).2
  have := (ver_tx l).2
  exact ⟨(sys_tx l).1, (rel_tx l).1, (ver_tx l).1, by omega, by omega, by omega⟩
theorem row2_ok (l : List Int) : Row (if readL (sysL l) = sunL then SunL else readL (sysL l)) (readL (relL l)) (readL (verL l)) := by
  have := (sys_tx l).2
  have := (rel_tx l).2
  have := (ver_tx l).2
  exact (row_ok l).named (by omega) (by omega) (by omega)
/-- system_alias upon the texts, unknown ones blank, is the law's own rule -/
theorem sys_is_alias {a b d : List Nat} (h : Row a b d) : sysR (blankL a) (blankL b) (blankL d) = aliasL a b d := by
  rw [sysR_alias h.tb.blank.okc (Nat.le_trans (blank_len b) h.lb)]
  rfl
theorem joinL_mem {z : List Nat} : ∀ {ls : List (List Nat)} {x : Nat}, x ∈ joinL z ls → x ∈ z ∨ ∃ l ∈ ls, x ∈ l
  | [], x, h => by cases h
  | [a], x, h => .inr ⟨a, List.mem_cons_self, h⟩
  | a :: b :: r, x, h => by
    rcases List.mem_append.mp h with h | h
    · rcases List.mem_append.mp h with h | h
      · exact .inr ⟨a, List.mem_cons_self, h⟩
      · exact .inl h
    · rcases joinL_mem h with h | ⟨l, hl, hx⟩
      · exact .inl h
      · exact .inr ⟨l, List.mem_cons_of_mem _ hl, hx⟩
theorem trimR_of_mem {l : List Nat} {x : Nat} (h : x ∈ trimR l) : x ∈ l := List.mem_reverse.mp (trimL_mem (List.mem_reverse.mp h))
theorem joined_tx {ls : List (List Nat)} (h : ∀ l ∈ ls, Tx l) : Tx (joinedL ls) := by
  intro x hx
  rcases joinL_mem hx with hx | ⟨l, hl, hx⟩
  · rw [List.mem_singleton.mp hx]; decide
  · obtain ⟨m, hm, rfl⟩ := List.mem_map.mp hl
    exact h m (List.mem_filter.mp hm).1 x (trimL_mem (trimR_of_mem hx))
end
section
set_option maxRecDepth 100000
set_option Elab.async false
set_option linter.unusedVariables false
set_option maxHeartbeats 1000000
theorem strip_map : ∀ ls : List (List Nat), (∀ l ∈ ls, Tx l) → ((ls.map S).filter ne0).map Txt.strip = ((ls.filter fun l => decide (l ≠ [])).map trim).map S
  | [], _ => rfl
  | l :: ls, h => by
    have ih := strip_map ls fun m hm => h m (List.mem_cons_of_mem _ hm)
    rw [List.map_cons, List.filter_cons, List.filter_cons]
    by_cases hl : l = []
    · subst hl
      exact ih
    · have h1 : ne0 (S l) = true := by
        unfold ne0
        rw [S_len]
        exact decide_eq_true fun q => hl (List.length_eq_zero_iff.mp q)
      have h2 : decide (l ≠ []) = true := decide_eq_true hl
      rw [if_pos h1, if_pos h2, List.map_cons, List.map_cons, List.map_cons, ih, strip_S l fun c hc => (h l List.mem_cons_self c hc).1.space]
theorem joined_len {x y z : List Nat} (h1 : x.length ≤ 3000) (h2 : y.length ≤ 3000) (h3 : z.length ≤ 3000) :
    ((([x, y, z].filter fun l => decide (l ≠ [])).map trim).map List.length).sum + (([x, y, z].filter fun l => decide (l ≠ [])).map trim).length ≤ 9003 := by
  have hf : ∀ ls : List (List Nat), (∀ l ∈ ls, l.length ≤ 3000) → (((ls.filter fun l => decide (l ≠ [])).map trim).map List.length).sum + ((ls.filter fun l => decide (l ≠ [])).map trim).length ≤ 3001 * ls.length := by
    intro ls
    induction ls with
    | nil => intro _; exact Nat.le_refl _
    | cons l ls ih =>
      intro h
      have i := ih fun m hm => h m (List.mem_cons_of_mem _ hm)
      have hl := h l List.mem_cons_self
      have ht := trim_len l
      rw [List.filter_cons]
      split
      · simp only [List.map_cons, List.sum_cons, List.length_cons] at i ⊢
        omega
      · simp only [List.length_cons] at i ⊢
        omega
  exact hf [x, y, z] (by intro l hl; simp at hl; rcases hl with rfl | rfl | rfl <;> assumption)
theorem platform_ok {w : World} {A : Around} {n : Nat} (rm : Rm A (n + 1)) {x y z : List Nat} {ps : Array Value} (hx : Tx x) (hy : Tx y) (hz : Tx z) (h1 : x.length ≤ 3000) (h2 : y.length ≤ 3000) (h3 : z.length ≤ 3000)
    {s : Shared} {vs : List Value} (tk : 0 < s.toks) (gl : Gl w s.heap) (hvs : StrsAre vs ([x, y, z].map S)) (hP : Pl s.heap ps) (hbare : AllBare s.gens) :
    wpAny (MM w) A (call (.ref 28) vs) (fun v s' => Rep s'.heap (.str (S (labF (joinedL [x, y, z])))) v ∧ Heap.ExtBut 23 s.heap s'.heap ∧ (∃ ps', Pl s'.heap ps' ∧ ∃ more, ps' = ps ++ more) ∧ AllBare s'.gens ∧ s'.os = s.os ∧ 0 < s'.toks) No s := by
  have hall : ∀ l ∈ [x, y, z], Tx l := by intro l hl; simp at hl; rcases hl with rfl | rfl | rfl <;> assumption
  have e := strip_map [x, y, z] hall
  have hs := joined_len h1 h2 h3
  have hl : Txt.join "-" ((([x, y, z].map S).filter ne0).map Txt.strip) = S (joinedL [x, y, z]) := by
    rw [e]
    exact join_S [45] _
  have hj : JoinOk "-" ((([x, y, z].map S).filter ne0).map Txt.strip) = true := by
    rw [e]
    refine joinOk_of ?_
    rw [List.map_map]
    have e1 : ((fun x : Str => x.length) ∘ S) = List.length := by funext l; exact S_len l
    have e2 : ("-" : Str).length = 1 := rfl
    rw [e1, e2, List.length_map]
    omega
  have hjl : (joinedL [x, y, z]).length ≤ 20000 := by
    have := joinL_len [45] (([x, y, z].filter fun l => decide (l ≠ [])).map trim)
    unfold joinedL
    simp only [List.length_singleton, Nat.mul_one] at this
    omega
  have r := cl_platform (w := w) rm (xs := [x, y, z].map S) (l := joinedL [x, y, z]) (ps := ps) ?_ (by rw [sizeLine_eq]; simp) hj hl hjl tk gl hvs rfl hP hbare
  · rw [plat_lab fun c hc => (joined_tx hall c hc).2] at r
    exact r
  · intro t ht
    obtain ⟨l, hl, rfl⟩ := List.mem_map.mp ht
    rw [S_len, sizeLine_eq]
    simp at hl
    rcases hl with rfl | rfl | rfl <;> omega
end
section
set_option maxRecDepth 100000
set_option Elab.async false
set_option linter.unusedVariables false
set_option maxHeartbeats 1000000
abbrev lwScope : Scope := ⟨.function, [("script", .local), ("row", .local), ("folded", .local), ("spelt", .local), ("texts", .local), ("plain", .local), ("names", .local), ("due", .local),   ("_law_row", .globalImplicit), ("_law_named", .globalImplicit), ("system_alias", .globalImplicit), ("_law_alias", .globalImplicit), ("_platform", .globalImplicit), ("_law_label", .globalImplicit)], false, false,   [("fast", .str "script"), ("fast", .str "row"), ("fast", .str "text"), ("fast", .str "sign"), ("fast", .str "folded"), ("fast", .str "spelt"), ("fast", .str "texts"), ("fast", .str "plain"), ("fast", .str "names"), ("fast", .str "due")]⟩
abbrev lwEnv (L : Addr) : Env := envOf "law" lwScope L 138 (.ref 137)
abbrev lwC (A : Around) (L : Addr) (n : Nat) : Cx := ⟨A.deeper (lwEnv L), lwEnv L, n⟩
abbrev exRow : PySem.Expr := .Call (.Name "_law_row" ⟨168, 10, 168, 18⟩) [.Name "script" ⟨168, 19, 168, 25⟩] [] ⟨168, 10, 168, 26⟩
abbrev exFolded : PySem.Expr := .Call (.Name "_law_named" ⟨169, 13, 169, 23⟩) [.ListComp (.Call (.Attribute (.Constant (.str "") 0 ⟨169, 25, 169, 27⟩) "join" ⟨169, 25, 169, 32⟩)
  [.ListComp (.Call (.Name "map_table_b3" ⟨169, 34, 169, 46⟩) [.Name "sign" ⟨169, 47, 169, 51⟩] [] ⟨169, 34, 169, 52⟩) [⟨.Name "sign" ⟨169, 57, 169, 61⟩, .Name "text" ⟨169, 65, 169, 69⟩, [], 0⟩]
    { kind := .function, names := [(".0", .local), ("sign", .local), ("map_table_b3", .globalImplicit)], isGenerator := false, isCoroutine := false } ⟨169, 33, 169, 70⟩] [] ⟨169, 25, 169, 71⟩)
  [⟨.Name "text" ⟨169, 76, 169, 80⟩, .Name "row" ⟨169, 84, 169, 87⟩, [], 0⟩] { kind := .function, names := [(".0", .local), ("text", .local)], isGenerator := false, isCoroutine := false } ⟨169, 24, 169, 88⟩] [] ⟨169, 13, 169, 89⟩
abbrev exSpelt : PySem.Expr := .Call (.Name "_law_named" ⟨170, 12, 170, 22⟩) [.ListComp (.Call (.Name "_law_read" ⟨170, 24, 170, 33⟩) [.Name "text" ⟨170, 34, 170, 38⟩] [] ⟨170, 24, 170, 39⟩)
  [⟨.Name "text" ⟨170, 44, 170, 48⟩, .Name "row" ⟨170, 52, 170, 55⟩, [], 0⟩] { kind := .function, names := [(".0", .local), ("text", .local), ("_law_read", .globalImplicit)], isGenerator := false, isCoroutine := false } ⟨170, 23, 170, 56⟩] [] ⟨170, 12, 170, 57⟩
section
variable {w : World} {A : Around} {n : Nat} {L : Addr} {m : Mem} {l : List Int} {a b d : List Nat}
theorem ev_row (hl : l.length ≤ 63) (hm : m.lookup ("script" : Str) = some (.nums l)) : Ev w (lwC A L (n + 3)) m exRow (.txts [S (sysL l), S (relL l), S (verL l)]) := by
  refine Ev.callK (ds := [.nums l]) rfl rfl rfl (Evs.cons (Ev.name hm rfl (by decide)) Evs.nil rfl) (fun ok => cl_row (n := n + 1) ok.rm hl) (by decide) rfl (fun _ => rfl)
abbrev namL (a : List Nat) : List Nat := if readL a = sunL then SunL else readL a
theorem ev_spelt (ha : a.length ≤ 100) (hb : b.length ≤ 300) (hd : d.length ≤ 100) (hm : m.lookup ("row" : Str) = some (.txts [S a, S b, S d])) : Ev w (lwC A L (n + 3)) m exSpelt (.txts [S (namL a), S (readL b), S (readL d)]) := by
  refine Ev.callK (ds := [.txts [S (readL a), S (readL b), S (readL d)]]) rfl rfl rfl (Evs.cons ?_ Evs.nil rfl) (fun ok => cl_named (n := n + 2) ok.rm) (by decide) rfl (fun _ => rfl)
  have e : ([S a, S b, S d].filter fun _ => true).map (fun x => S (readL x.cps.toList)) = [S (readL a), S (readL b), S (readL d)] := rfl
  rw [← e]
  (with_reducible refine' Ev.comp (d := .txts [S a, S b, S d]) (fun _ => true) (fun x => S (readL x.cps.toList)) ?i1 ?i2 ?i3 ?i4 ?i5 ?i6 ?i7 ?i8 ?i9 ?i10 ?i11)
  case i1 => exact Ev.name hm rfl (by decide)
  case i2 => exact rfl
  case i3 => rw [sizeLine_eq]; simp
  case i4 => intro C y hy; exact rfl
  case i5 =>
    intro C y hy _
    obtain ⟨⟨l⟩⟩ := y
    have hl : l.length ≤ 100000 := by
      simp at hy
      rcases hy with rfl | rfl | rfl <;> omega
    show Ev w _ _ _ (D.str (S (readL l)))
    walk_at "callK"
    exact fun ok => cl_read ok.rm hl
  case i6 => exact rfl
  case i7 => exact rfl
  case i8 => decide
  case i9 => decide
  case i10 => decide
  case i11 => intro _; rfl
theorem joinL_nil : ∀ ls : List (List Nat), joinL [] ls = ls.flatten
  | [] => rfl
  | [a] => by simp [joinL]
  | a :: b :: r => by
    have := joinL_nil (b :: r)
    show a ++ [] ++ joinL [] (b :: r) = _
    rw [this]
    simp
theorem fold_join {l : List Nat} (h : Tx l) : Txt.join (S []) ((l.map fun c => S [c]).map fun y => foldS (y.cps.toList.headD 0)) = S (readL l) := by
  have e : (l.map fun c => S [c]).map (fun y => foldS (y.cps.toList.headD 0)) = (l.map readC).map S := by
    rw [List.map_map, List.map_map]
    refine List.map_congr_left fun c hc => ?_
    exact fold_ok (h c hc).1
  rw [e, join_S, joinL_nil]
  rfl
theorem fold_sum {l : List Nat} (h : Tx l) : (((l.map fun c => S [c]).map fun y => foldS (y.cps.toList.headD 0)).map (·.length)).sum ≤ 2 * l.length := by
  induction l with
  | nil => exact Nat.le_refl _
  | cons c l ih =>
    have i := ih fun x hx => h x (List.mem_cons_of_mem _ hx)
    have hc : (foldS ([c].headD 0)).length ≤ 2 := by
      show (foldS c).length ≤ 2
      rw [fold_ok (h c List.mem_cons_self).1, S_len]
      exact readC_len c
    simp only [List.map_cons, List.sum_cons, List.length_cons] at i ⊢
    omega
theorem ev_folded (ha : a.length ≤ 100) (hb : b.length ≤ 300) (hd : d.length ≤ 100) (ta : Tx a) (tb : Tx b) (td : Tx d) (hm : m.lookup ("row" : Str) = some (.txts [S a, S b, S d])) : Ev w (lwC A L (n + 3)) m exFolded (.txts [S (namL a), S (readL b), S (readL d)]) := by
  refine Ev.callK (ds := [.txts [S (readL a), S (readL b), S (readL d)]]) rfl rfl rfl (Evs.cons ?_ Evs.nil rfl) (fun ok => cl_named (n := n + 2) ok.rm) (by decide) rfl (fun _ => rfl)
  have e : ([S a, S b, S d].filter fun _ => true).map (fun x => S (readL x.cps.toList)) = [S (readL a), S (readL b), S (readL d)] := rfl
  rw [← e]
  (with_reducible refine' Ev.comp (d := .txts [S a, S b, S d]) (fun _ => true) (fun x => S (readL x.cps.toList)) ?i1 ?i2 ?i3 ?i4 ?i5 ?i6 ?i7 ?i8 ?i9 ?i10 ?i11)
  case i1 => exact Ev.name hm rfl (by decide)
  case i2 => exact rfl
  case i3 => rw [sizeLine_eq]; simp
  case i4 => intro C y hy; exact rfl
  case i5 =>
    intro C y hy _
    obtain ⟨⟨l⟩⟩ := y
    have hl : l.length ≤ 300 ∧ Tx l := by
      simp at hy
      rcases hy with rfl | rfl | rfl
      · exact ⟨by omega, ta⟩
      · exact ⟨by omega, tb⟩
      · exact ⟨by omega, td⟩
    show Ev w _ _ _ (D.str (S (readL l)))
    rw [← fold_join hl.2]
    (with_reducible refine' Ev.meth1 ?m1 ?m2 ?m3 ?m4 ?m5 ?m6 ?m7)
    case m1 => exact rfl
    case m2 => walk_at "ev"
    case m3 => exact Gm.join
    case m4 =>
      (with_reducible refine' Evs.cons (d := .txts ((l.map fun c => S [c]).map fun y => foldS (y.cps.toList.headD 0))) ?n1 Evs.nil ?n2)
      case n2 => exact rfl
      case n1 =>
        have e2 : ((l.map fun c => S [c]).filter fun _ => true) = l.map fun c => S [c] := by simp
        rw [← e2]
        (with_reducible refine' Ev.comp (d := .str (S l)) (fun _ => true) (fun y => foldS (y.cps.toList.headD 0)) ?j1 ?j2 ?j3 ?j4 ?j5 ?j6 ?j7 ?j8 ?j9 ?j10 ?j11)
        case j1 => walk_at "ev"
        case j2 => exact items_S' l
        case j3 => rw [sizeLine_eq, List.length_map]; omega
        case j4 => intro C y hy; exact rfl
        case j5 =>
          intro C y hy _
          obtain ⟨c, hc, rfl⟩ := List.mem_map.mp hy
          show Ev w _ _ _ (D.str (foldS c))
          walk_at "callK"
          exact fun ok => cl_fold ok.rm
        case j6 => exact rfl
        case j7 => exact rfl
        case j8 => decide
        case j9 => decide
        case j10 => decide
        case j11 => intro _; rfl
    case m5 =>
      intro ok
      refine Cl.join ?_
      have := fold_sum hl.2
      show _ + _ * (S []).length ≤ _
      rw [S_len]
      simp only [List.length_nil, Nat.mul_zero]
      omega
    case m6 => exact rfl
    case m7 => intro _; exact rfl
  case i6 => exact rfl
  case i7 => exact rfl
  case i8 => decide
  case i9 => decide
  case i10 => decide
  case i11 => intro _; rfl
end
end
section
set_option maxRecDepth 100000
set_option Elab.async false
set_option linter.unusedVariables false
set_option maxHeartbeats 1000000
section
variable {w : World} {A : Around} {E : Value → Shared → Prop} {s : Shared}
theorem star_list {a : Addr} {vs : List Value} {Q : List Value → Shared → Prop} (hl : s.heap.IsList a vs.toArray) (hz : vs.length ≤ sizeLine) (h : ∀ h', Ext s.heap h' → Q vs { s with heap := h' }) : StarOf (MM w) A E (.ref a) Q s := by
  obtain ⟨o, D, hc, n, hd⟩ := hl
  have z : wpAny (MM w) A (collect (.ref a)) Q E s := wpAny_collect_seq a (.inl rfl) D hc hd (fun h' hk => h h' hk) (by simpa using hz)
  unfold StarOf notIterableAtAll
  exact wpAny_bind (wpAny_specialOf ⟨o, D, hc⟩ PySem.F.slot_list_iter.lookup (wpAny_pure ⟨rfl, z⟩))
theorem star_tup {a : Addr} {vs : List Value} {Q : List Value → Shared → Prop} (hl : IsTup s.heap a vs.toArray) (hz : vs.length ≤ sizeLine) (h : ∀ h', Ext s.heap h' → Q vs { s with heap := h' }) : StarOf (MM w) A E (.ref a) Q s := by
  obtain ⟨o, D, hc, n, hd⟩ := hl
  have z : wpAny (MM w) A (collect (.ref a)) Q E s := wpAny_collect_seq a (.inr rfl) D hc hd (fun h' hk => h h' hk) (by simpa using hz)
  unfold StarOf notIterableAtAll
  exact wpAny_bind (wpAny_specialOf ⟨o, D, hc⟩ PySem.F.slot_tuple_iter.lookup (wpAny_pure ⟨rfl, z⟩))
theorem ne_tups {l b : Addr} {vs us : List Value} {xs : List Str} {Q : Value → Shared → Prop} (hu : A.units < cLine) (hl : IsTup s.heap l vs.toArray) (hb : IsTup s.heap b us.toArray) (h1 : StrsAre vs xs) (h2 : StrsAre us xs) (hq : Q (.bool false) s) :
    wpAny (MM w) A (compareOp .NotEq (.ref l) (.ref b)) Q E s := by
  show wpAny _ _ (richCompare .NotEq (.ref l) (.ref b)) _ _ _
  suffices h : SeqAt.RcNeAt A s (.ref l) (.ref b) false from h _ _ _ _ hq
  have hlen : vs.length = us.length := h1.length.trans h2.length.symm
  have r := SeqAt.RcNeAt.tuples (A := A) (s := s) (e := fun _ => true) hl hb hu (fun j hj1 hj2 => ?_)
  · have e : (!((List.range (min vs.toArray.size us.toArray.size)).all (fun _ => true) && vs.toArray.size == us.toArray.size)) = false := by simp [hlen]
    rw [e] at r
    exact r
  · have hj1' : j < vs.length := by simpa using hj1
    have hj2' : j < us.length := by simpa using hj2
    obtain ⟨y, t, e1, e1'⟩ := StrsAre.item h1 j vs[j] (List.getElem?_eq_getElem hj1')
    obtain ⟨z, u, e2, e2'⟩ := StrsAre.item h2 j us[j] (List.getElem?_eq_getElem hj2')
    have : y = z := by rw [e1'] at e2'; exact Option.some.inj e2'
    subst this
    simp only [List.getElem_toArray]
    rw [e1, e2]
    have q := SeqAt.EqAt.str_str (A := A.in1) (s := s) y t y u
    rw [show (y == y) = true from beq_self_eq_true y] at q
    exact q
end
end
section
set_option maxRecDepth 100000
set_option Elab.async false
set_option linter.unusedVariables false
set_option maxHeartbeats 1000000
theorem Rep.ne {h h' : Heap} {d : D} {v : Value} (r : Rep h d v) (k : ∀ a o xs c, h.get? a = some o → o.data = .seq xs c → h'.get? a = some o) : Rep h' d v := by
  cases d with
  | none => exact r
  | bool b => exact r
  | int i => exact r
  | str x => exact r
  | nums l => obtain ⟨a, vs, e, ⟨o, x1, x2, n, x3⟩, y⟩ := r; exact ⟨a, vs, e, ⟨o, k a o _ _ x1 x3, x2, n, x3⟩, y⟩
  | txts l => obtain ⟨a, vs, e, ⟨o, x1, x2, n, x3⟩, y⟩ := r; exact ⟨a, vs, e, ⟨o, k a o _ _ x1 x3, x2, n, x3⟩, y⟩
  | tup l => obtain ⟨a, vs, e, ⟨o, x1, x2, n, x3⟩, y⟩ := r; exact ⟨a, vs, e, ⟨o, k a o _ _ x1 x3, x2, n, x3⟩, y⟩
  | tab => exact r
theorem seq_ne {h : Heap} {L : Addr} {m : Str → Option Value} (n : h.Ns L m) {a : Addr} {o : Obj} {xs : Array Value} {c : Nat} (e : h.get? a = some o) (q : o.data = .seq xs c) : a ≠ L := fun z => by
  obtain ⟨oL, es, ep, hL, hd, _⟩ := n
  rw [z, hL] at e; cases e; rw [hd] at q; cases q
theorem Pl.regrow {base h : Heap} {ps ps' : Array Value} (P : Pl base ps) (k : Heap.ExtBut 23 base h) (P' : Pl h ps') : Pl (regrown base 23 ps') ps' := by
  have hself : (regrown base 23 ps').get? 23 = some { cls := .none, data := .fields ps' } := Heap.get?_update_self _ P.tab.2 rfl
  have hoth : ∀ b, b ≠ 23 → (regrown base 23 ps').get? b = base.get? b := fun b hb => Heap.get?_update_other _ _ (Ne.symm hb)
  refine ⟨?_, ?_, ?_⟩
  · obtain ⟨o, vs, file, tf, flags, tg, inF, text, tt, op, ho, hd, h11, h2, h7, h9, h10, hop, hpd, htr, hne⟩ := P.code
    obtain ⟨o', vs', file', tf', flags', tg', inF', text', tt', op', ho', hd', h11', h2', h7', h9', h10', hop', hpd', htr', hne'⟩ := P'.code
    exact ⟨o, vs, file, tf, flags, tg, inF, text, tt, _, (hoth _ hne).trans ho, hd, h11, h2, h7, h9, h10, hself, rfl, htr', hne⟩
  · obtain ⟨⟨o, vs, a, r⟩, t⟩ := P.tab
    have h27 : (27 : Addr) ≠ 23 := by decide
    exact ⟨⟨o, vs, (hoth _ h27).trans a, r⟩, hself⟩
  · obtain ⟨mg, bm, ob, BM⟩ := P.bm
    exact ⟨mg, bm, ob, BM.extBut P.tab (regrown_ext _ P)⟩
theorem Fx.regrow {w : World} {base : Heap} {env : Env} {m : Mem} {s s' : Shared} {ps ps' : Array Value} (f : Fx w base env m s) (P : Pl base ps) (k : Heap.ExtBut 23 s.heap s'.heap) (P' : Pl s'.heap ps') (tk : 0 < s'.toks) :
    Fx w (regrown base 23 ps') env m s' ∧ Pl (regrown base 23 ps') ps' := by
  obtain ⟨mv, F, r⟩ := f.fr
  have kb : Heap.ExtBut 23 base s'.heap := fun b o hb e => k b o hb (F.keep b o e)
  have hoth : ∀ b, b ≠ 23 → (regrown base 23 ps').get? b = base.get? b := fun b hb => Heap.get?_update_other _ _ (Ne.symm hb)
  have hself : (regrown base 23 ps').get? 23 = some { cls := .none, data := .fields ps' } := Heap.get?_update_self _ P.tab.2 rfl
  refine ⟨⟨f.gl.but P (regrown_ext _ P), tk, mv, ⟨F.ns.extBut k (Ns.ne26 (P.keeps F.keep) F.ns), fun b o e => ?_, ?_⟩, fun x d e => let ⟨v, p, q⟩ := r x d e; ⟨v, p, q.but (P.keeps F.keep) k⟩⟩, P.regrow kb P'⟩
  · by_cases hb : b = 23
    · subst hb; rw [hself] at e; cases e; exact P'.tab.2
    · rw [hoth b hb] at e; exact kb b o hb e
  · have : (regrown base 23 ps').objs.size = base.objs.size := Heap.size_after_update ..
    rw [this]; exact F.above
theorem reps_strs {h : Heap} : ∀ {us : List Value} {xs : List Str}, StrsAre us xs → Reps h (xs.map D.str) us
  | _, _, .nil => trivial
  | _, _, .cons x t r => ⟨⟨t, rfl⟩, reps_strs r⟩
abbrev exBlank : PySem.Expr := .ListComp (.Call (.Name "_unknown_as_blank" ⟨172, 31, 172, 48⟩) [.Name "text" ⟨172, 49, 172, 53⟩] [] ⟨172, 31, 172, 54⟩) [⟨.Name "text" ⟨172, 59, 172, 63⟩, .Name "texts" ⟨172, 67, 172, 72⟩, [], 0⟩]
  { kind := .function, names := [(".0", .local), ("text", .local), ("_unknown_as_blank", .globalImplicit)], isGenerator := false, isCoroutine := false } ⟨172, 30, 172, 73⟩
abbrev lwNames : Stmt := .Assign [.Name "names" ⟨172, 8, 172, 13⟩] (.Call (.Name "system_alias" ⟨172, 16, 172, 28⟩) [.Starred exBlank ⟨172, 29, 172, 73⟩] [] ⟨172, 16, 172, 74⟩) ⟨172, 8, 172, 74⟩
abbrev exDue : PySem.Expr := .Call (.Name "_law_alias" ⟨173, 14, 173, 24⟩) [.Name "plain" ⟨173, 25, 173, 30⟩] [] ⟨173, 14, 173, 31⟩
abbrev lwDue : Stmt := .Assign [.Name "due" ⟨173, 8, 173, 11⟩] exDue ⟨173, 8, 173, 31⟩
abbrev exCmp1 : PySem.Expr := .Compare (.Name "names" ⟨174, 11, 174, 16⟩) [.NotEq] [.Name "due" ⟨174, 20, 174, 23⟩] ⟨174, 11, 174, 23⟩
abbrev exPl : PySem.Expr := .Call (.Name "_platform" ⟨174, 27, 174, 36⟩) [.Starred (.Name "names" ⟨174, 38, 174, 43⟩) ⟨174, 37, 174, 43⟩] [] ⟨174, 27, 174, 44⟩
abbrev exLab : PySem.Expr := .Call (.Name "_law_label" ⟨174, 48, 174, 58⟩) [.Name "due" ⟨174, 59, 174, 62⟩] [] ⟨174, 48, 174, 63⟩
abbrev exCmp2 : PySem.Expr := .Compare exPl [.NotEq] [exLab] ⟨174, 27, 174, 63⟩
abbrev lwIf : Stmt := .If (.BoolOp .Or [exCmp1, exCmp2] ⟨174, 11, 174, 63⟩) [.Return (some (.Constant (.bool false) 0 ⟨175, 19, 175, 24⟩)) ⟨175, 12, 175, 24⟩] [] ⟨174, 8, 175, 24⟩
abbrev lwBody : List Stmt := [lwNames, lwDue, lwIf]
section
variable {w : World} {A : Around} {n : Nat} {L : Addr} {m : Mem} {a b d : List Nat}
theorem ev_blank (hm : m.lookup ("texts" : Str) = some (.txts [S a, S b, S d])) : Ev w (lwC A L (n + 3)) m exBlank (.txts [S (blankL a), S (blankL b), S (blankL d)]) := by
  have e : ([S a, S b, S d].filter fun _ => true).map (fun x => S (blankL x.cps.toList)) = [S (blankL a), S (blankL b), S (blankL d)] := rfl
  rw [← e]
  (with_reducible refine' Ev.comp (d := .txts [S a, S b, S d]) (fun _ => true) (fun x => S (blankL x.cps.toList)) ?i1 ?i2 ?i3 ?i4 ?i5 ?i6 ?i7 ?i8 ?i9 ?i10 ?i11)
  case i1 => exact Ev.name hm rfl (by decide)
  case i2 => exact rfl
  case i3 => rw [sizeLine_eq]; simp
  case i4 => intro C y hy; exact rfl
  case i5 =>
    intro C y hy _
    obtain ⟨⟨l⟩⟩ := y
    show Ev w _ _ _ (D.str (S (blankL l)))
    walk_at "callK"
    exact fun ok => cl_blank ok.rm
  case i6 => exact rfl
  case i7 => exact rfl
  case i8 => decide
  case i9 => decide
  case i10 => decide
  case i11 => intro _; rfl
theorem ev_due (hb : b.length ≤ 300) (hm : m.lookup ("plain" : Str) = some (.txts [S a, S b, S d])) : Ev w (lwC A L (n + 3)) m exDue (.tup ((aliasL a b d).map S)) := by
  refine Ev.callK (ds := [.txts [S a, S b, S d]]) rfl rfl rfl (Evs.cons (Ev.name hm rfl (by decide)) Evs.nil rfl) (fun ok => cl_alias (n := n + 1) ok.rm hb) (by decide) rfl (fun _ => rfl)
theorem ev_lab {x y z : List Nat} (h1 : x.length ≤ 3000) (h2 : y.length ≤ 3000) (h3 : z.length ≤ 3000) (hm : m.lookup ("due" : Str) = some (.tup ([x, y, z].map S))) : Ev w (lwC A L (n + 3)) m exLab (.str (S (labF (joinedL [x, y, z])))) := by
  refine Ev.callK (ds := [.tup ([x, y, z].map S)]) rfl rfl rfl (Evs.cons (Ev.name hm rfl (by decide)) Evs.nil rfl) (fun ok => cl_label (n := n + 1) ok.rm (by omega) (by omega) (by omega)) (by decide) rfl (fun _ => rfl)
end
end
section
set_option maxRecDepth 100000
set_option Elab.async false
set_option linter.unusedVariables false
set_option maxHeartbeats 1000000
section
variable {w : World} {A : Around} {n : Nat} {L : Addr} {a b d : List Nat} {base : Heap} {ps : Array Value} {s : Shared}
/-- what a turn leaves -/
structure Left (w : World) (L : Addr) (base : Heap) (ps : Array Value) (s s' : Shared) (base' : Heap) (ps' : Array Value) : Prop where
  fx : Fx w base' (lwEnv L) [] s'
  pl : Pl base' ps'
  bare : AllBare s'.gens
  os : s'.os = s.os
  keep : ∀ b o, b ≠ L → b ≠ 23 → s.heap.get? b = some o → s'.heap.get? b = some o
  but : Heap.ExtBut 23 base base'
  grown : ∃ more, ps' = ps ++ more
abbrev mTP (a b d : List Nat) : Mem := [("plain", .txts [S a, S b, S d]), ("texts", .txts [S a, S b, S d])]
theorem lw_test {x y z : List Nat} {m : Mem} {Q : Bool → Shared → Prop} (ok : (lwC A L (n + 3)).Ok) (hx : Tx x) (hy : Tx y) (hz : Tx z) (h1 : x.length ≤ 3000) (h2 : y.length ≤ 3000) (h3 : z.length ≤ 3000)
    (f : Fx w base (lwEnv L) m s) (hP : Pl base ps) (hbare : AllBare s.gens) (hn : m.lookup ("names" : Str) = some (.tup ([x, y, z].map S))) (hd : m.lookup ("due" : Str) = some (.tup ([x, y, z].map S)))
    (k : ∀ base' ps' s', Left w L base ps s s' base' ps' → Q false s') :
    wpAny (MM w) (lwC A L (n + 3)).A (isTrue (.BoolOp .Or [exCmp1, exCmp2] ⟨174, 11, 174, 63⟩) (lwEnv L) (eval (.BoolOp .Or [exCmp1, exCmp2] ⟨174, 11, 174, 63⟩) (lwEnv L))) Q No s := by
  show wpAny _ _ (allTrue .Or [exCmp1, exCmp2] (lwEnv L)) _ _ s
  show wpAny _ _ (do match BoolOp.Or, ← isTrue exCmp1 (lwEnv L) (eval exCmp1 (lwEnv L)) with | .And, false => pure false | .Or, true => pure true | _, _ => allTrue .Or [exCmp2] (lwEnv L)) _ _ s
  have eN : Ev w (lwC A L (n + 3)) m (.Name "names" ⟨174, 11, 174, 16⟩) (.tup ([x, y, z].map S)) := Ev.name hn rfl (by decide)
  have eD : Ev w (lwC A L (n + 3)) m (.Name "due" ⟨174, 20, 174, 23⟩) (.tup ([x, y, z].map S)) := Ev.name hd rfl (by decide)
  refine wpAny_bind (wpAny_isTrue_Compare1 (eN.useF ok f fun v1 s₁ k₁ f₁ r₁ => eD.useF ok f₁ fun v2 s₂ k₂ f₂ r₂ => ?_))
  obtain ⟨a1, us1, rfl, t1, u1⟩ := r₁.keeps (kext k₂)
  obtain ⟨a2, us2, rfl, t2, u2⟩ := r₂
  refine ne_tups (by have := ok.rm.un; omega) t1 t2 u1 u2 (wpAny_truthy_bool ?_)
  show wpAny _ _ (do match BoolOp.Or, ← isTrue exCmp2 (lwEnv L) (eval exCmp2 (lwEnv L)) with | .And, false => pure false | .Or, true => pure true | _, _ => allTrue .Or [] (lwEnv L)) _ _ s₂
  have k12 := keeps_trans k₁ k₂
  have eN2 : Ev w (lwC A L (n + 3)) m (.Name "names" ⟨174, 38, 174, 43⟩) (.tup ([x, y, z].map S)) := Ev.name hn rfl (by decide)
  refine wpAny_bind (wpAny_isTrue_Compare1 ?_)
  show wpAny _ _ (eval (.Name "_platform" ⟨174, 27, 174, 36⟩) (lwEnv L) >>= fun f => callWith ⟨174, 27, 174, 44⟩ f [] (backTo ⟨174, 27, 174, 44⟩ (starEach [.Starred (.Name "names" ⟨174, 38, 174, 43⟩) ⟨174, 37, 174, 43⟩] (lwEnv L))) []) _ _ s₂
  refine wpAny_bind (wp_gname (c := lwC A L (n + 3)) ok f₂.sees rfl rfl (v := .ref 28) ?_ (by decide))
  refine callWith_S (K := KF w) f₂.sees.gl.k rfl (eN2.useF ok f₂ fun v3 s₃ k₃ f₃ r₃ => ?_) rfl
  obtain ⟨a3, us3, rfl, t3, u3⟩ := r₃
  refine star_tup t3 (by rw [u3.length, sizeLine_eq]; simp) fun h4 e4 => ?_
  have k4 : Keeps s₃ { s₃ with heap := h4 } := ⟨h4, s₃.toks, rfl, e4⟩
  have f₄ := f₃.keeps k4 (Nat.le_refl _)
  have kk : Keeps s { s₃ with heap := h4 } := keeps_trans k12 (keeps_trans k₃ k4)
  generalize ({ s₃ with heap := h4 } : Shared) = s4 at f₄ kk
  obtain ⟨hh, tt, rfl, ek⟩ := kk
  obtain ⟨mv, F, rr⟩ := f₄.fr
  refine ⟨f₄.sees.gl.k, ?_⟩
  refine wpAny_mono (platform_ok (n := n + 2) ok.rm hx hy hz h1 h2 h3 f₄.tk f₄.sees.gl u3 (hP.keeps F.keep) hbare) (fun v5 s₅ ⟨q1, q2, ⟨ps', q3, qm⟩, q4, q5, q6⟩ => ?_) fun _ _ q => q
  obtain ⟨f₅, P₅⟩ := f₄.regrow hP q2 q3 q6
  refine (ev_lab (n := n) h1 h2 h3 hd).useF ok f₅ fun v6 s₆ k₆ f₆ r₆ => ?_
  refine wpAny_mono (wpAny_toks (Cm.ne_ (w := w) (A := (lwC A L (n + 3)).A) s₆ v5 v6 f₆.tk f₆.sees.gl (q1.keeps (kext k₆)) r₆)) (fun v7 s₇ q => ?_) fun _ _ q => q.2
  obtain ⟨t₇, k₇, rfl⟩ := q
  have hfalse : decide (labF (joinedL [x, y, z]) ≠ labF (joinedL [x, y, z])) = false := by simp
  rw [hfalse]
  refine wpAny_truthy_bool (wpAny_pure ?_)
  have f₇ := f₆.keeps k₇ t₇
  have k57 := keeps_trans k₆ k₇
  have e57 := kext k57
  obtain ⟨h7, t7, rfl, _⟩ := k57
  exact k _ _ _ ⟨f₇.sub trivial, P₅, q4, q5, fun b o _ hb e => e57 b o (q2 b o hb (ek b o e)), regrown_ext _ hP, qm⟩
theorem lw_body (ok : (lwC A L (n + 3)).Ok) (hA : A.frames = some []) (R : Row a b d) (f : Fx w base (lwEnv L) (mTP a b d) s) (hP : Pl base ps) (hbare : AllBare s.gens) {Q : Flow → Shared → Prop}
    (k : ∀ base' ps' s', Left w L base ps s s' base' ps' → Q .next s') : wpC (MM w) (lwC A L (n + 3)).A (execs lwBody (lwEnv L)) Q No s := by
  obtain ⟨x, y, z, hxyz, hx, hy, hz, h1, h2, h3⟩ := alias_tx R
  have hfr : (A.deeper (lwEnv L)).frames = some [lwEnv L] := Around.frames_deeper hA
  refine wpC_execs_cons (wpC_Assign_Name (wpC_callName ?_) rfl)
  refine wp_gname (c := lwC A L (n + 3)) ok f.sees rfl rfl (v := .ref 21) ?_ (by decide)
  refine wpC_callStar (K := KF w) rfl ((ev_blank (n := n) rfl).useF ok f fun v1 s₁ k₁ f₁ r₁ => ?_) rfl
  obtain ⟨a1, us1, rfl, t1, u1⟩ := r₁
  refine star_list t1 (by rw [u1.length, sizeLine_eq]; simp) fun h2' e2 => ?_
  have k2 : Keeps s₁ { s₁ with heap := h2' } := ⟨h2', s₁.toks, rfl, e2⟩
  have f₂ := f₁.keeps k2 (Nat.le_refl _)
  have kk := keeps_trans k₁ k2
  generalize ({ s₁ with heap := h2' } : Shared) = s2 at f₂ kk
  refine ⟨f₂.sees.gl.k, ?_⟩
  obtain ⟨mv, F, rr⟩ := id f₂.fr
  have hB : (blankL b).length ≤ 300 := Nat.le_trans (blank_len b) R.lb
  refine wpC_mono (cl_sysalias (n := n + 2) (L := L) (mvL := mv) (base₀ := base) ok.rm hfr (fun q => by cases q) rfl (Nat.le_trans hB (by omega)) (fun h5 p0 ps hq => sys_side R.tb.blank.okc hB h5 p0 ps hq) f₂.gl F f₂.tk (reps_strs u1)) (fun v s₃ ⟨q1, q2, q3, q4, q5⟩ => ?_) fun _ _ q => q
  rw [sys_is_alias R, hxyz] at q1
  have hbL : ∀ b o, base.get? b = some o → b ≠ L := fun b o e q => Nat.ne_of_lt (Nat.lt_of_lt_of_le (Heap.lt_size e) F.above) q
  have f₃ : Fx w base (lwEnv L) (mTP a b d) s₃ := ⟨f.gl, q5, mv, ⟨q3, fun b o e => q2 b o (hbL b o e) (F.keep b o e), F.above⟩, fun t d e => let ⟨v, p, q⟩ := rr t d e; ⟨v, p, q.ne fun a o xs c e1 e2 => q2 a o (seq_ne F.ns e1 e2) e1⟩⟩
  refine f₃.set q1 rfl rfl fun s₄ f₄ k₄ => ?_
  refine wpC_execs_cons (wpC_of (wpAny_Assign_Name ((ev_due (n := n) R.lb rfl).useF ok f₄ fun v5 s₅ k₅ f₅ r₅ => ?_) rfl))
  rw [hxyz] at r₅
  refine f₅.set r₅ rfl rfl fun s₆ f₆ k₆ => ?_
  have hs : Same s s₆ := (((Same.ofK kk).trans q4).trans (Same.of k₄)).trans ((Same.ofK k₅).trans (Same.of k₆))
  have kp : ∀ b o, b ≠ L → s.heap.get? b = some o → s₆.heap.get? b = some o := fun b o hb e => by
    obtain ⟨h4, _, rfl, e4⟩ := k₄
    obtain ⟨h6, _, rfl, e6⟩ := k₆
    exact e6 b o hb (kext k₅ b o (e4 b o hb (q2 b o hb (kext kk b o e))))
  obtain ⟨h6', t6', rfl⟩ := hs
  refine wpC_execs_cons (wpC_If ?_)
  refine lw_test (n := n) ok hx hy hz h1 h2 h3 f₆ hP hbare rfl rfl fun base' ps' s' lf => ?_
  refine wpC_of (wpAny_execs_nil (wpC_of (wpAny_execs_nil ?_)))
  exact k base' ps' s' ⟨lf.fx, lf.pl, lf.bare, lf.os, fun b o hb h26 e => lf.keep b o hb h26 (kp b o hb e), lf.but, lf.grown⟩
end
end
section
set_option maxRecDepth 100000
set_option Elab.async false
set_option linter.unusedVariables false
set_option maxHeartbeats 1000000
abbrev lwTgt : PySem.Expr := .Tuple [.Name "texts" ⟨171, 8, 171, 13⟩, .Name "plain" ⟨171, 15, 171, 20⟩] 0 ⟨171, 8, 171, 20⟩
abbrev lwList : PySem.Expr := .List [.Tuple [.Name "row" ⟨171, 26, 171, 29⟩, .Name "row" ⟨171, 31, 171, 34⟩] 0 ⟨171, 25, 171, 35⟩, .Tuple [.Name "folded" ⟨171, 38, 171, 44⟩, .Name "spelt" ⟨171, 46, 171, 51⟩] 0 ⟨171, 37, 171, 52⟩] ⟨171, 24, 171, 53⟩
abbrev lwFor : Stmt := .For lwTgt lwList lwBody [] ⟨171, 4, 175, 24⟩
section
variable {w : World} {A : Around} {n : Nat} {L : Addr} {a b d : List Nat} {base : Heap} {ps : Array Value} {s : Shared}
theorem ext_size {h h' : Heap} (e : Heap.ExtBut h.objs.size h h') : Ext h h' := fun b o q => e b o (Nat.ne_of_lt (Heap.lt_size q)) q
theorem lw_turn {I lst T : Addr} {i : Nat} {items : Array Value} {u v : Value} {Rr : Result → Shared → Prop} (ok : (lwC A L (n + 3)).Ok) (hA : A.frames = some []) (hit : s.heap.IsListIter I lst i) (hls : s.heap.IsList lst items) (hx : items[i]? = some (.ref T))
    (ht : s.heap.IsTuple T #[u, v]) (ru : Rep s.heap (.txts [S a, S b, S d]) u) (rv : Rep s.heap (.txts [S a, S b, S d]) v) (R : Row a b d) (f : Fx w base (lwEnv L) [] s) (hP : Pl base ps) (hbare : AllBare s.gens) (hLI : L < I) (h26 : I ≠ 23)
    (k : ∀ base' ps' s', Fx w base' (lwEnv L) [] s' → Pl base' ps' → AllBare s'.gens → s'.os = s.os → s'.heap.IsListIter I lst (i + 1) → (∀ b o, b ≠ L → b ≠ 23 → b ≠ I → s.heap.get? b = some o → s'.heap.get? b = some o) → Heap.ExtBut 23 base base' → (∃ more, ps' = ps ++ more) →
      codeC (MM w) (lwC A L (n + 3)).A (.forLoop lwTgt (.ref I) lwBody [] (lwEnv L)) Rr s') :
    codeC (MM w) (lwC A L (n + 3)).A (.forLoop lwTgt (.ref I) lwBody [] (lwEnv L)) Rr s := by
  have hh := ok.rm.hd
  refine codeC_forTurn (wpAny_pyNext_list_item hit hls hx fun h1 hit1 hs1 => ?_)
  have neI : ∀ (x : Addr) o xs c, s.heap.get? x = some o → o.data = .seq xs c → x ≠ I := fun x o xs c e q z => by
    obtain ⟨oI, hI, _, hd⟩ := hit
    rw [z, hI] at e; cases e; rw [hd] at q; cases q
  have ht1 : h1.IsTuple T #[u, v] := ht.extBut hs1.extBut (by obtain ⟨o, ho, _, n, hd⟩ := ht; exact neI T o _ _ ho hd)
  have keep1 : ∀ x o xs c, s.heap.get? x = some o → o.data = .seq xs c → h1.get? x = some o := fun x o xs c e q => hs1.extBut x o (neI x o xs c e q) e
  have f₁ : Fx w base (lwEnv L) [] { s with heap := h1 } := by
    obtain ⟨mv, F, _⟩ := f.fr
    exact ⟨f.gl, f.tk, mv, F.sameNew hLI hs1, fun y e q => by cases q⟩
  refine wpAny_bind (wpAny_letOwnedTupleGo_listiter hit1 ?_)
  refine wpAny_assign_Tuple (A := (lwC A L (n + 3)).A) hh ht1 rfl rfl fun h2 e2 => ?_
  have x2 := ext_size e2
  have f₂ : Fx w base (lwEnv L) [] { s with heap := h2 } := f₁.keeps (s' := { s with heap := h2 }) ⟨h2, s.toks, rfl, x2⟩ (Nat.le_refl _)
  show wpAny _ _ (assignInOrder [PySem.assign (.Name "texts" ⟨171, 8, 171, 13⟩) (lwEnv L), PySem.assign (.Name "plain" ⟨171, 15, 171, 20⟩) (lwEnv L)] [u, v]) _ _ _
  refine wpAny_bind (wpAny_holding (wpAny_assign_Name (f₂.set (d := .txts [S a, S b, S d]) ((ru.ne keep1).keeps x2) rfl rfl fun s₃ f₃ k₃ => ?_)))
  have rv3 : Rep s₃.heap (.txts [S a, S b, S d]) v := by
    obtain ⟨mv, F, _⟩ := f₂.fr
    have := (rv.ne keep1).keeps x2
    obtain ⟨h3, t3, rfl, e3⟩ := k₃
    exact this.ne fun x o xs c e q => e3 x o (seq_ne F.ns e q) e
  refine wpAny_bind (wpAny_holding (wpAny_assign_Name (f₃.set (d := .txts [S a, S b, S d]) rv3 rfl rfl fun s₄ f₄ k₄ => ?_)))
  refine wpAny_pure ?_
  have k34 := k₃.trans k₄
  obtain ⟨h4, t4, rfl, e4⟩ := k34
  refine lw_body ok hA R f₄ hP hbare fun base' ps' s' lf => ?_
  refine k base' ps' s' lf.fx lf.pl lf.bare lf.os ?_ (fun x o hL h6 hI e => lf.keep x o hL h6 (e4 x o hL (x2 x o (hs1.extBut x o hI e)))) lf.but lf.grown
  exact hit1.at fun o e => lf.keep I o (Nat.ne_of_gt hLI) h26 (e4 I o (Nat.ne_of_gt hLI) (x2 I o e))
end
end
section
set_option maxRecDepth 100000
set_option Elab.async false
set_option linter.unusedVariables false
set_option maxHeartbeats 1000000
abbrev lwSts : List Stmt := [.Assign [.Name "row" ⟨168, 4, 168, 7⟩] exRow ⟨168, 4, 168, 26⟩, .Assign [.Name "folded" ⟨169, 4, 169, 10⟩] exFolded ⟨169, 4, 169, 89⟩, .Assign [.Name "spelt" ⟨170, 4, 170, 9⟩] exSpelt ⟨170, 4, 170, 57⟩, lwFor,
  .Return (some (.Constant (.bool true) 0 ⟨176, 11, 176, 15⟩)) ⟨176, 4, 176, 15⟩]
section
variable {w : World} {A : Around} {n : Nat} {L : Addr} {base : Heap} {ps : Array Value} {s : Shared} {l : List Int}
structure Done (w : World) (L : Addr) (base : Heap) (ps : Array Value) (s s' : Shared) : Prop where
  ex : ∃ base' ps', Fx w base' (lwEnv L) [] s' ∧ Pl base' ps' ∧ Heap.ExtBut 23 base base' ∧ ∃ more, ps' = ps ++ more
  bare : AllBare s'.gens
  os : s'.os = s.os
theorem lw_all (ok : (lwC A L (n + 3)).Ok) (hA' : A.frames = some []) (hl : l.length ≤ 63) (f : Fx w base (lwEnv L) [("script", .nums l)] s) (hP : Pl base ps) (hbare : AllBare s.gens) :
    wpC (MM w) (lwC A L (n + 3)).A (execs lwSts (lwEnv L)) (fun fl s' => fl = .ret (.bool true) ∧ Done w L base ps s s') No s := by
  have R1 := row_ok l
  have R2 := row2_ok l
  have hh := ok.rm.hd
  refine wpC_execs_cons (wpC_of (wpAny_Assign_Name ((ev_row (n := n) hl rfl).useF ok f fun v1 s₁ k₁ f₁ r₁ => f₁.set r₁ rfl rfl fun s₂ f₂ k₂ => ?_) rfl))
  refine wpC_execs_cons (wpC_of (wpAny_Assign_Name ((ev_folded (n := n) R1.la R1.lb R1.ld R1.ta R1.tb R1.td rfl).useF ok f₂ fun v3 s₃ k₃ f₃ r₃ => f₃.set r₃ rfl rfl fun s₄ f₄ k₄ => ?_) rfl))
  refine wpC_execs_cons (wpC_of (wpAny_Assign_Name ((ev_spelt (n := n) R1.la R1.lb R1.ld rfl).useF ok f₄ fun v5 s₅ k₅ f₅ r₅ => f₅.set r₅ rfl rfl fun s₆ f₆ k₆ => ?_) rfl))
  have hs : Same s s₆ := (((Same.ofK k₁).trans (Same.of k₂)).trans ((Same.ofK k₃).trans (Same.of k₄))).trans ((Same.ofK k₅).trans (Same.of k₆))
  obtain ⟨h6, t6, rfl⟩ := hs
  clear k₁ k₂ k₃ k₄ k₅ k₆
  obtain ⟨mv, F, r⟩ := id f₆.fr
  obtain ⟨vr, er, rr⟩ := r "row" _ rfl
  obtain ⟨vf, ef, rf⟩ := r "folded" _ rfl
  obtain ⟨vs, es, rs⟩ := r "spelt" _ rfl
  have hs3 : (3 : Nat) ≤ sizeLine := by rw [sizeLine_eq]; omega
  refine wpC_execs_cons (wpC_For ?_ (by intro _; rfl))
  refine List_ (spliced_more (Tuple_ (spliced_more (wpAny_Name (wpAny_loadName_local rfl rfl F.ns er (spliced_more (wpAny_Name (wpAny_loadName_local rfl rfl F.ns er (spliced_none (wpAny_newTuple ?_ (Nat.le_trans (by simp) hs3)))) (by decide)))) (by decide)))))
  have x7 : Ext h6 (h6.push { cls := .type "tuple", data := .seq [vr, vr].toArray }) := ext_push
  have g7 := Heap.get?_push_size h6 (o := { cls := .type "tuple", data := .seq [vr, vr].toArray }) rfl
  generalize (h6.push { cls := .type "tuple", data := .seq [vr, vr].toArray }) = h7 at x7 g7
  have F7 := F.keeps x7
  refine spliced_more (Tuple_ (spliced_more (wpAny_Name (wpAny_loadName_local rfl rfl F7.ns ef (spliced_more (wpAny_Name (wpAny_loadName_local rfl rfl F7.ns es (spliced_none (wpAny_newTuple ?_ (Nat.le_trans (by simp) hs3)))) (by decide)))) (by decide))))
  have x8 : Ext h7 (h7.push { cls := .type "tuple", data := .seq [vf, vs].toArray }) := ext_push
  have g8 := Heap.get?_push_size h7 (o := { cls := .type "tuple", data := .seq [vf, vs].toArray }) rfl
  generalize (h7.push { cls := .type "tuple", data := .seq [vf, vs].toArray }) = h8 at x8 g8
  refine spliced_none (wpAny_newObj_type ?_ (sized (Nat.le_trans (by simp) hs3)))
  have x9 : Ext h8 (h8.push { cls := .type "list", data := .seq [Value.ref h6.objs.size, Value.ref h7.objs.size].toArray }) := ext_push
  have g9 := Heap.get?_push_size h8 (o := { cls := .type "list", data := .seq [Value.ref h6.objs.size, Value.ref h7.objs.size].toArray }) rfl
  generalize hh9 : (h8.push { cls := .type "list", data := .seq [Value.ref h6.objs.size, Value.ref h7.objs.size].toArray }) = h9 at x9 g9
  clear hh9
  refine wpAny_pyIter_list (items := #[Value.ref h6.objs.size, Value.ref h7.objs.size]) ⟨_, g9, rfl, _, rfl⟩ ?_
  have x10 : Ext h9 (h9.push { cls := .type "list_iterator", data := .fields #[.ref h8.objs.size, .int 0 0] }) := ext_push
  have g10 := Heap.get?_push_size h9 (o := { cls := .type "list_iterator", data := .fields #[.ref h8.objs.size, .int 0 0] }) rfl
  show codeC _ _ _ _ { s with heap := h9.push { cls := .type "list_iterator", data := .fields #[.ref h8.objs.size, .int 0 0] }, toks := t6 }
  generalize (h9.push { cls := .type "list_iterator", data := .fields #[.ref h8.objs.size, .int 0 0] }) = hA at x10 g10
  have x6 : Ext h6 hA := Ext.trans x7 (Ext.trans x8 (Ext.trans x9 x10))
  have f10 : Fx w base (lwEnv L) [] { s with heap := hA, toks := t6 } := (f₆.keeps (s' := { s with heap := hA, toks := t6 }) ⟨hA, t6, rfl, x6⟩ (Nat.le_refl _)).sub trivial
  have hLI : L < h9.objs.size := (F.keeps (Ext.trans x7 (Ext.trans x8 x9))).ns.lt
  have h26 : h9.objs.size ≠ 23 := Nat.ne_of_gt (Heap.lt_size (Ext.trans x7 (Ext.trans x8 x9) _ _ (F.keep _ _ hP.tab.2)))
  have hls : hA.IsList h8.objs.size #[Value.ref h6.objs.size, Value.ref h7.objs.size] := ⟨_, x10 _ _ g9, rfl, _, rfl⟩
  have ht1 : hA.IsTuple h6.objs.size #[vr, vr] := ⟨_, x10 _ _ (x9 _ _ (x8 _ _ g7)), rfl, _, rfl⟩
  have ht2 : hA.IsTuple h7.objs.size #[vf, vs] := ⟨_, x10 _ _ (x9 _ _ g8), rfl, _, rfl⟩
  have hit : hA.IsListIter h9.objs.size h8.objs.size 0 := ⟨_, g10, rfl, rfl⟩
  have neL : ∀ x o xs c, hA.get? x = some o → o.data = .seq xs c → x ≠ L ∧ x ≠ 23 ∧ x ≠ h9.objs.size := fun x o xs c e q => by
    refine ⟨seq_ne (F.keeps x6).ns e q, fun z => ?_, fun z => ?_⟩
    · have := x6 _ _ (F.keep _ _ hP.tab.2)
      rw [z, this] at e; cases e; cases q
    · rw [z, g10] at e; cases e; cases q
  refine lw_turn (s := { s with heap := hA, toks := t6 }) ok hA' hit hls rfl ht1 (rr.keeps x6) (rr.keeps x6) R1 f10 hP hbare hLI h26 fun base1 ps1 s1 fx1 pl1 bare1 os1 hit1 keep1 but1 gr1 => ?_
  have seq1 : ∀ x o xs c, hA.get? x = some o → o.data = .seq xs c → s1.heap.get? x = some o := fun x o xs c e q => let ⟨p1, p2, p3⟩ := neL x o xs c e q; keep1 x o p1 p2 p3 e
  have hls1 : s1.heap.IsList h8.objs.size #[Value.ref h6.objs.size, Value.ref h7.objs.size] := by obtain ⟨o, e, c, n, q⟩ := hls; exact ⟨o, seq1 _ o _ _ e q, c, n, q⟩
  have ht21 : s1.heap.IsTuple h7.objs.size #[vf, vs] := by obtain ⟨o, e, c, n, q⟩ := ht2; exact ⟨o, seq1 _ o _ _ e q, c, n, q⟩
  refine lw_turn ok hA' hit1 hls1 rfl ht21 ((rf.keeps x6).ne seq1) ((rs.keeps x6).ne seq1) R2 fx1 pl1 bare1 hLI h26 fun base2 ps2 s2 fx2 pl2 bare2 os2 hit2 keep2 but2 gr2 => ?_
  have hls2 : s2.heap.IsList h8.objs.size #[Value.ref h6.objs.size, Value.ref h7.objs.size] := by
    obtain ⟨o, e, c, n, q⟩ := hls
    obtain ⟨p1, p2, p3⟩ := neL _ o _ _ e q
    exact ⟨o, keep2 _ o p1 p2 p3 (seq1 _ o _ _ e q), c, n, q⟩
  refine codeC_forTurn (wpAny_pyNext_list_end hh hit2 hls2 rfl fun h3 e3 => ?_)
  show wpC _ _ (execs [_] _) _ _ _
  refine wpC_of (wpAny_execs_cons (wpAny_Return_some (wpAny_Constant_bool ?_)))
  refine ⟨rfl, ⟨base2, ps2, ?_, pl2, fun b o hb e => but2 b o hb (but1 b o hb e), by obtain ⟨m1, rfl⟩ := gr1; obtain ⟨m2, rfl⟩ := gr2; exact ⟨m1 ++ m2, Array.append_assoc⟩⟩, bare2, os2.trans os1⟩
  obtain ⟨mv2, F2, _⟩ := fx2.fr
  have nI : ∀ b o, base2.get? b = some o → b ≠ h9.objs.size := fun b o e q => Nat.ne_of_lt (Nat.lt_of_lt_of_le (Heap.lt_size e) (Nat.le_trans F2.above (Nat.le_of_lt hLI))) q
  exact ⟨fx2.gl, fx2.tk, mv2, ⟨F2.ns.extBut e3 (Nat.ne_of_lt hLI), fun b o e => e3 b o (nI b o e) (F2.keep b o e), F2.above⟩, fun y d e => by cases e⟩
end
end
end Mine
end
section
open PySem PySem.W PySem.Spec PySem.Calls PyProof.Rows
set_option maxRecDepth 100000
set_option Elab.async false
set_option linter.unusedVariables false
set_option maxHeartbeats 1000000
namespace Mine
theorem rm_caller : Rm callerA 4 := ⟨rfl, by decide, by decide, rfl⟩
section
variable {w : World} {ps : Array Value} {s : Shared} {l : List Int}
theorem law_enter {params : Arguments} {dV kV doc pm ct oc : Value} {an od : Option Addr} {osl : Array (Option Value)} {v1 : Value}
    (ho : (KF w).lookup 138 = some ⟨oc, od, .func (fnOf "law" "law" params lwSts lwScope dV kV doc pm an (.ref 137) ct), osl⟩) (hcd : codeIn (KF w) (.ref 137) "law" = true)
    (hb : bindArgs (fnOf "law" "law" params lwSts lwScope dV kV doc pm an (.ref 137) ct) ⟨[v1], []⟩ = pure [(("script" : Str), v1)])
    (gl : Gl w s.heap) (hP : Pl s.heap ps) (hbare : AllBare s.gens) (hl : l.length ≤ 63) (rp : Rep s.heap (.nums l) v1) :
    wpC (MM w) callerA (call (.ref 138) [v1]) (fun v s' => v = .bool true ∧ s'.os = s.os ∧ AllBare s'.gens ∧ OldK s.heap s'.heap) No s := by
  refine wpC_call (codeC_call_function (by decide) (gl.k _ _ ho) rfl rfl rfl rfl (codeRec_of gl.k hcd) ?_)
  rw [hb]
  refine wpAny_pure (wpAny_newFunctionEnv (show ∀ x ∈ lwScope.names, x.2 ≠ .cell by decide) ?_ (fun h₁ hns hsb => ⟨gl.lim.fresh _ hsb, codeC_func ?_⟩) rfl)
  · intro x hx
    rw [List.mem_singleton.mp hx]
    rfl
  have e2 : Ext s.heap h₁ := fun b o e => hsb.extBut b o (Nat.ne_of_lt (Heap.lt_size e)) (Heap.get?_push_of_some _ e)
  have ok : (lwC callerA s.heap.objs.size (0 + 3)).Ok := ⟨rm_caller.deeper _, rfl, rfl, rfl⟩
  have fx : Fx w s.heap (lwEnv s.heap.objs.size) [("script", .nums l)] { s with heap := h₁, toks := s.toks + 1 } := by
    refine ⟨gl, Nat.succ_pos _, _, ⟨hns, e2, Nat.le_refl _⟩, fun y e q => ?_⟩
    exact Al.get (a := [("script", D.nums l)]) (b := [("script", v1)]) ⟨rfl, rp.keeps e2, trivial⟩ q
  refine wpC_mono (lw_all (n := 0) ok rfl hl fx hP hbare) (fun fl s' ⟨q, dn⟩ => ?_) fun _ _ x => x
  subst q
  obtain ⟨base', ps', f', P', X', more, rfl⟩ := dn.ex
  obtain ⟨mv, F', _⟩ := f'.fr
  refine ⟨rfl, dn.os, dn.bare, ?_⟩
  exact OldK.step_table (OldK.refl _) hP.tab hP.tab (P'.keeps F'.keep).tab (fun b o hb e => F'.keep b o (X' b o hb e)) (by decide)
theorem law_call (gl : Gl w s.heap) (hP : Pl s.heap ps) (hbare : AllBare s.gens) (hl : l.length ≤ 63) {v1 : Value} (rp : Rep s.heap (.nums l) v1) :
    wpC (MM w) callerA (call (.ref 138) [v1]) (fun v s' => v = .bool true ∧ s'.os = s.os ∧ AllBare s'.gens ∧ OldK s.heap s'.heap) No s := by
  refine' law_enter ?ho ?hcd ?hb gl hP hbare hl rp
  case ho => exact rfl
  case hcd => exact rfl
  case hb => exact rfl
end
end Mine
end
section
open PySem PySem.W PySem.Spec PySem.Calls PyProof.Rows
set_option maxRecDepth 100000
set_option Elab.async false
set_option linter.unusedVariables false
set_option maxHeartbeats 4000000
namespace Mine
theorem pl_of_top {w : World} {loose : List Str} {mean : ExcName → Option Value} {mg mb : Str → Option Value} {h : Heap} (KX : (KF w).In h) (T : Top qM loose mean mg mb h) : Pl h #[] := by
  obtain ⟨c, P, hc, B⟩ := based_of_top T (name := "_platform") rfl (mg_of KX T.g (n := "_platform") (v := .ref 28) rfl) (KX 28 _ rfl) rfl
  have e27 : c = 27 := by cases hc; rfl
  subst e27
  have e26 : P = 23 := by
    obtain ⟨o, vs, file, tf, flags, tg, inF, text, tt, op, ho, hd, h11, _⟩ := B.code
    rw [KX 27 _ rfl] at ho
    cases ho
    cases hd
    exact (Value.ref.inj h11).symm
  subst e26
  exact ⟨B.code, B.tab, mg, bmod_of_top T⟩
theorem post_ok (l : List Int) : PySem.Challenge.rw_mj0210_01.row.claim.post [ofPy (PyData.list (List.map PyData.int l))] (WData.bool true) [ofPy (PyData.list (List.map PyData.int l))] = true := by
  generalize [ofPy (PyData.list (List.map PyData.int l))] = x
  kernel_rfl
theorem cw : PySem.Challenge.rw_mj0210_01.Holds := hd (by
  intro w s₀ s₁ mg mb G Y fa o pm cd doc dV kV ho hd hcd hD hmg hg args vals as hpre hlay hrd hwl hlo
  have KX := kIn_of Y
  have T := G.T
  have hfa : fa = 138 := by
    have h1 := mg_of KX T.g (n := "law") (v := .ref 138) rfl
    have h2 : mg "law" = some (.ref fa) := hmg
    rw [h1] at h2
    exact (Value.ref.inj (Option.some.inj h2)).symm
  subst hfa
  have gl : Gl w s₁.heap := ⟨KX, T.nolimit, T.nodigits, ⟨mg, T.g⟩, ⟨mb, T.b, T.builtins⟩⟩
  have hP := pl_of_top KX T
  clear hd hcd hD ho hmg T
  wrow_args hpre hlay hrd hwl hlo
  rename_i l _ _ _ _ _ _ _ a vs _ hL _ _ _ hI _ hlen _
  refine wpC_mono (law_call (l := l) gl hP (.of_eq hg) (by omega) ⟨a, vs, rfl, hL, hI⟩) (fun v s' ⟨q1, q2, q3, q4⟩ => ?_) fun _ _ x => x.elim
  subst q1
  refine ⟨.inl ⟨.bool true, .bool true, [], rfl, fun cls => ?_, .bool true, ?_, fun _ => ⟨List.nodup_nil, fun b hb => by cases hb⟩⟩, q4, q2, q3⟩
  · rfl
  · exact post_ok l)
end Mine
end
theorem PySem.Challenge.cw_mj0210_01_holds : PySem.Challenge.rw_mj0210_01.Holds :=
  Mine.cw
