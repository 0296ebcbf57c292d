import PyProof.Rows.All
import Wide.All
import OpenK.AllK
import Wide.FinOn
import Lean
import PySem.Challenge.RW_kx0068_01
open PySem PySem.W PySem.Calls PyProof.Rows
set_option Elab.async false
set_option maxRecDepth 100000
set_option maxHeartbeats 4000000
set_option linter.unusedVariables false
set_option compiler.extract_closed false
namespace Mine
open Sem (wp)

-- 00_nd

/-- a decoder's act: it may hold a bytearray -/
def dec : Code → Bool
  | .builtin id _ => Builtin.Bytes.decodersThatHold.contains id
  | _ => false
/-- no act of a decoder is under way -/
def NoDec (Γ : Ctx) : Prop := dec Γ.code = false ∧ ∀ x ∈ Γ.below, dec x.1 = false
theorem NoDec.enter {Γ : Ctx} {c : Code} {h : Option Value} {p : Pos} (d : NoDec Γ) (hc : dec c = false) : NoDec (Γ.enter c h p) :=
  ⟨hc, fun x hx => (List.mem_cons.mp hx).elim (fun e => by rw [e]; exact d.1) (d.2 x)⟩
theorem NoDec.goto {Γ : Ctx} {c : Code} (d : NoDec Γ) (hc : dec c = false) : NoDec (Γ.goto c) := ⟨hc, d.2⟩

def wpN {α : Type} (M : Model) (A : Around) (t : Sem α) (Q : α → Shared → Prop) (E : Value → Shared → Prop) (s : Shared) : Prop :=
  ∀ Γ p, Γ.In A → NoDec Γ → wp M Γ t (fun a _ s' => Q a s') (fun e _ s' => E e s') p s
def codeN (M : Model) (A : Around) (c : Code) (R : Result → Shared → Prop) (s : Shared) : Prop :=
  ∀ Γ p, Γ.code = c → Γ.Below A → NoDec Γ → wpCode M Γ R p s

section
variable {α β : Type} {M : Model} {A : Around} {E E' : Value → Shared → Prop} {s : Shared}
theorem wpN.of {t : Sem α} {Q : α → Shared → Prop} (h : wpAny M A t Q E s) : wpN M A t Q E s := fun Γ p a _ => h Γ p a
theorem codeN.of {c : Code} {R : Result → Shared → Prop} (h : codeAny M A c R s) : codeN M A c R s := fun Γ p a b _ => h Γ p a b
theorem wpN.mono {t : Sem α} {Q Q' : α → Shared → Prop} (h : wpN M A t Q E s) (hQ : ∀ a s, Q a s → Q' a s) (hE : ∀ e s, E e s → E' e s) : wpN M A t Q' E' s :=
  fun Γ p a d => Sem.wp_mono M Γ t (fun x _ s' => hQ x s') (fun e _ s' => hE e s') p s (h Γ p a d)
theorem codeN.mono {c : Code} {R R' : Result → Shared → Prop} (h : codeN M A c R s) (hR : ∀ r s, R r s → R' r s) : codeN M A c R' s := fun Γ p a b d => wpCode_mono hR (h Γ p a b d)
theorem wpN.pure {a : α} {Q : α → Shared → Prop} (h : Q a s) : wpN M A (Pure.pure a) Q E s := wpN.of (wpAny_pure h)
theorem wpN.bind {m : Sem α} {f : α → Sem β} {Q : β → Shared → Prop} (h : wpN M A m (fun a s' => wpN M A (f a) Q E s') E s) : wpN M A (m >>= f) Q E s := fun Γ p a d => by
  rw [Sem.wp_bind']
  exact Sem.wp_mono M Γ m (fun x p' s' h' => h' Γ p' a d) (fun _ _ _ x => x) p s (h Γ p a d)
theorem wpN.leaf {m : Sem α} {f : α → Sem β} {Q : β → Shared → Prop} (h : wpAny M A m (fun a s' => wpN M A (f a) Q E s') E s) : wpN M A (m >>= f) Q E s := wpN.bind (wpN.of h)
theorem wpN.holding {vs : List Value} {m : Sem α} {Q : α → Shared → Prop} (h : wpN M A m Q E s) : wpN M A (PySem.holding vs m) Q E s := fun Γ p a d => by
  rw [Sem.wp_holding]; exact h Γ p a d
theorem wpN.keep {vs : List Value} {m : Sem α} {Q : α → Shared → Prop} (h : wpN M A m Q E s) : wpN M A (m.keep vs) Q E s := fun Γ p a d => by
  rw [Sem.wp_keep]; exact h Γ p a d
theorem wpN.onRaise {m : Sem α} {k : Value → Sem Unit} {Q : α → Shared → Prop} (h : wpN M A m Q (fun e s' => wpAny M A (k e) (fun _ s'' => E e s'') E s') s) : wpN M A (m.onRaise k) Q E s := fun Γ p a d => by
  rw [Sem.wp_onRaise]
  exact Sem.wp_mono M Γ m (fun _ _ _ x => x) (fun e p' s' h' => h' Γ p' a) p s (h Γ p a d)
theorem wpN.attempt {m : Sem α} {Q : Except Value α → Shared → Prop} (h : wpN M A m (fun a => Q (.ok a)) (fun e => Q (.error e)) s) : wpN M A m.attempt Q E s := fun Γ p a d => by
  rw [Sem.wp_attempt]; exact h Γ p a d
theorem wpN.run {c : Code} {h : Option Value} {Q : Flow → Shared → Prop}
    (hc : codeN M (A.mark h) c (fun r s' => match r with | .ok f => Q f s' | .error e => E e s') s) (hd : dec c = false := by rfl) (hnb : h ≠ some byPass := by intro x; cases x) : wpN M A (PySem.run c h) Q E s :=
  fun Γ p a d => by rw [Sem.wp_run]; exact hc _ p rfl (a.enter c h p hnb) (d.enter hd)
theorem wpN.runValue {c : Code} {Q : Value → Shared → Prop}
    (hc : codeN M A c (fun r s' => match r with | .ok (.ret v) => Q v s' | .ok _ => False | .error e => E e s') s) (hd : dec c = false := by rfl) : wpN M A (PySem.runValue c) Q E s :=
  fun Γ p a d => by rw [Sem.wp_runValue]; exact hc _ p rfl (a.enter c none p (by intro x; cases x)) (d.enter hd)
theorem wpN.call {f : Value} {pos : List Value} {kw : List (Str × Value)} {Q : Value → Shared → Prop}
    (hc : codeN M A (.call f ⟨pos, kw⟩) (fun r s' => match r with | .ok (.ret v) => Q v s' | .ok _ => False | .error e => E e s') s) : wpN M A (PySem.call f pos kw) Q E s := wpN.runValue hc
theorem wpN.runOwn {c : Code} {env : Env} {h : Option Value} {Q : Flow → Shared → Prop}
    (hc : codeN M (A.mark h) c (fun r s' => match r with | .ok f => Q f s' | .error e => cameBackBy M A env E e s') s) (hd : dec c = false := by rfl) (hnb : h ≠ some byPass := by intro x; cases x) : wpN M A (PySem.runOwn c env h) Q E s := by
  unfold PySem.runOwn
  exact wpN.onRaise (wpN.run hc hd hnb)
theorem codeN.of_tree {c : Code} {R : Result → Shared → Prop}
    (h : wpN M (A.under c) (M.den c) (fun fin s' => match fin with | .done f => R (.ok f) s' | .again c' => c'.quiet = true ∧ dec c' = false ∧ codeN M A c' R s') (fun e s' => R (.error e) s') s) : codeN M A c R s := fun Γ p hc hΓ d => by
  rw [wpCode_iff_wp, hc]
  refine Sem.wp_mono M Γ _ (fun fin p' s' h' => ?_) (fun _ _ _ h' => h') p s (h Γ p (hc ▸ hΓ.in) d)
  cases fin with
  | done f => exact h'
  | again c' => exact ⟨h'.1, h'.2.2 (Γ.goto c') p' rfl (hΓ.goto c') (d.goto h'.2.1)⟩
theorem codeN.loop {c : Code} {R : Result → Shared → Prop} (hq : c.quiet = true) (hd : dec c = false) (I : Nat → Shared → Prop)
    (turn : ∀ n s, I n s → wpN M (A.under c) (M.den c) (fun fin s' => match fin with
        | .done f => R (.ok f) s'
        | .again c' => (c' = c ∧ ∃ m, m < n ∧ I m s') ∨ (c'.quiet = true ∧ dec c' = false ∧ codeN M A c' R s')) (fun e s' => R (.error e) s') s)
    (n : Nat) (h : I n s) : codeN M A c R s := by
  induction n using Nat.strongRecOn generalizing s with
  | ind n ih =>
    refine codeN.of_tree (wpN.mono (turn n s h) (fun fin s' hf => ?_) fun _ _ h' => h')
    cases fin with
    | done f => exact hf
    | again c' =>
      rcases hf with ⟨rfl, m, hm, hI⟩ | hf
      · exact ⟨hq, hd, ih m hm hI⟩
      · exact hf

-- statements and expressions, as far as a made bytearray lies below them
variable {env : Env}
theorem execsN_cons {st : Stmt} {rest : List Stmt} {Q : Flow → Shared → Prop}
    (h : wpN M A (exec st env) (fun f s' => match f with | .next => wpN M A (execs rest env) Q E s' | f => Q f s') E s) : wpN M A (execs (st :: rest) env) Q E s := fun Γ p a d => by
  rw [execs_cons, Sem.wp_bind']
  refine Sem.wp_mono M Γ _ (fun f p' s' h' => ?_) (fun _ _ _ h' => h') _ _ (h Γ p a d)
  cases f <;> first | exact h' Γ p' a d | exact h'
theorem execN_Expr {e : Expr} {pos : Pos} {Q : Flow → Shared → Prop} (h : wpN M A (eval e env) (fun v s' => match v with | .ref _ => False | _ => Q .next s') E s)
    (hi : interactive env = false := by rfl) (hs : swapsWith e none pos.line env = Pure.pure false := by rfl) : wpN M A (exec (.Expr e pos) env) Q E s := by
  rw [exec_Expr env e pos hi hs]
  refine wpN.leaf (wpAny_standAt (wpN.bind (wpN.mono h (fun v s' h' => ?_) fun _ _ x => x)))
  have hv : ∀ a, v ≠ .ref a := fun a hva => by subst hva; exact h'
  rw [dropValue_plain hv]
  refine wpN.pure ?_
  cases v <;> first | exact h' | exact (hv _ rfl).elim
theorem execN_Assign_Name {x : Str} {pos' pos : Pos} {value : Expr} {Q : Flow → Shared → Prop}
    (h : wpN M A (eval value env) (fun v s₁ => wpAny M A (storeName env x v) (fun _ => Q .next) E s₁) E s)
    (hs : swapsWith value (some (.Name x pos')) pos.line env = Pure.pure false := by rfl) : wpN M A (exec (.Assign [.Name x pos'] value pos) env) Q E s := fun Γ p a d => by
  simp only [exec_Assign_Name env x pos' value pos hs, Sem.wp_bind', Sem.wp_cmd_standAt, Sem.wp_bindName, Sem.wp_pure']
  exact Sem.wp_mono M Γ _ (fun v _ s₁ h₁ => h₁ Γ _ a) (fun _ _ _ h' => h') _ _ (h Γ _ a d)
theorem execN_If {test : Expr} {body orelse : List Stmt} {pos : Pos} {Q : Flow → Shared → Prop}
    (h : wpN M A (isTrue test env (eval test env)) (fun b s₂ => if b then wpN M A (execs body env) Q E s₂ else wpN M A (execs orelse env) Q E s₂) E s) :
    wpN M A (exec (.If test body orelse pos) env) Q E s := fun Γ p a d => by
  simp only [exec_If, Sem.wp_bind', Sem.wp_cmd_standAt]
  refine Sem.wp_mono M Γ _ (fun b p₂ s₂ h₂ => ?_) (fun _ _ _ h' => h') _ _ (h Γ _ a d)
  cases b <;> exact h₂ Γ p₂ a d
theorem isTrueN_Compare1 {l r : Expr} {op : CmpOp} {pos : Pos} {whole : Sem Value} {Q : Bool → Shared → Prop}
    (h : wpN M A (eval l env) (fun a s₁ => wpAny M A (eval r env) (fun b s₂ => wpAny M A (compareOp op a b) (fun c s₃ => wpAny M A (truthy c) Q E s₃) E s₂) E s₁) E s)
    (hm : behindInMarks op r = false := by with_unfolding_all rfl) : wpN M A (isTrue (.Compare l [op] [r] pos) env whole) Q E s := fun Γ p hΓ d => by
  simp only [isTrue_Compare1, markedBehindIn_of_false hm, Sem.wp_bind', Sem.wp_holding, Sem.wp_cmd_standAt, Sem.wp_operate]
  exact Sem.wp_mono M Γ _ (fun a p₁ s₁ h₁ => Sem.wp_mono M Γ _ (fun b _ s₂ h₂ => Sem.wp_mono M Γ _ (fun c p₃ s₃ h₃ => h₃ Γ p₃ hΓ)
    (fun _ _ _ h' => h') _ _ (h₂ Γ _ hΓ)) (fun _ _ _ h' => h') _ _ (h₁ Γ p₁ hΓ)) (fun _ _ _ h' => h') _ _ (h Γ p hΓ d)
theorem callWithN {P : Heap → Prop} {pos : Pos} {f : Value} {first : List Value} {args : List (Bool × Sem Value)} {keywords : List (Option Str × Sem Value)} {Q : Value → Shared → Prop} (hplain : (args.any (·.1) || keywords.any (·.1.isNone)) = false)
    (hk : ∀ h, P h → ∃ k, (k = Keeper.frame ∨ k = Keeper.machine ∨ k = Keeper.boundFrame) ∧ Looks M h (keeperOf f) k)
    (h : wpN M A (evalArgs f true args keywords) (fun a s₁ => P s₁.heap ∧ wpN M A (PySem.call f (first ++ a.pos) a.kw) Q E s₁) E s) : wpN M A (callWith pos f first args keywords) Q E s := by
  unfold callWith
  refine wpN.bind (wpN.holding (wpN.mono h (fun a s₁ h₁ => wpN.leaf (wpAny_standAt ?_)) fun _ _ x => x))
  obtain ⟨k, hk', L⟩ := hk _ h₁.1
  simp only [hplain]
  refine wpN.leaf (L.here ?_)
  have tail : ∀ {t : Sem Value}, wpN M A t Q E s₁ → wpN M A (t >>= fun r => PySem.holding [r] point >>= fun _ => Pure.pure r) Q E s₁ :=
    fun ht => wpN.bind (wpN.mono ht (fun r s₂ hr => wpN.of (wpAny_bind (wpAny_holding (wpAny_point (wpAny_pure hr))))) fun _ _ x => x)
  have marked (mk : Value) : wpN M A (callMarked mk f (first ++ a.pos) a.kw) Q E s₁ := by unfold callMarked; exact wpN.keep h₁.2
  rcases hk' with rfl | rfl | rfl <;> dsimp only <;> first | exact tail h₁.2 | (split <;> first | exact tail h₁.2 | exact tail (marked _))
theorem callWithN_K {K : Frag} {pos : Pos} {f : Value} {first : List Value} {e : Expr} {rest : List Expr} {Q : Value → Shared → Prop} (hk : keepIn K f = true)
    (h : wpAny M A (spliced (backTo pos (starEach (e :: rest) env))) (fun vs s₁ => K.In s₁.heap ∧ wpN M A (PySem.call f (first ++ vs)) Q E s₁) E s)
    (he : starEach (e :: rest) env = (false, eval e env) :: starEach rest env := by rfl) (hplain : (backTo pos (starEach rest env)).any (·.1) = false := by rfl) :
    wpN M A (callWith pos f first (backTo pos (starEach (e :: rest) env)) []) Q E s := by
  rw [he] at h ⊢
  exact callWithN (by show ((false || (backTo pos (starEach rest env)).any (·.1)) || false) = false; rw [hplain]; rfl) (keeps_K hk) (wpN.of (evalArgs_plain h))
theorem evalN_method {name : Str} {o : Expr} {apos pos : Pos} {args : List Expr} {kws : List Keyword} {pl : Sem Bool} {Q : Value → Shared → Prop}
    (h : wpAny M A (eval o env) (fun ov s₁ => wpAny M A (getMethod ov name pl) (fun fx s₂ => wpN M A (callWith pos fx.1 fx.2 (backTo pos (starEach args env)) (backToKw pos (keywordEach kws env))) Q E s₂) E s₁) E s)
    (he : eval (.Call (.Attribute o name apos) args kws pos) env = (do
      let ov ← eval o env
      standAt apos.atName
      let (f, first) ← PySem.holding [ov] (getMethod ov name pl)
      callWith pos f first (backTo pos (starEach args env)) (backToKw pos (keywordEach kws env))) := by rfl) :
    wpN M A (eval (.Call (.Attribute o name apos) args kws pos) env) Q E s := by
  rw [he]
  refine wpN.leaf (wpAny_mono h (fun ov s₁ h₁ => wpN.leaf (wpAny_standAt (wpN.leaf (wpAny_holding (wpAny_mono h₁ (fun fx s₂ h₂ => ?_) fun _ _ x => x))))) fun _ _ x => x)
  exact h₂
theorem evalN_call {id : Str} {p pos : Pos} {args : List Expr} {kws : List Keyword} {Q : Value → Shared → Prop}
    (h : wpAny M A (eval (.Name id p) env) (fun f s₁ => wpN M A (callWith pos f [] (backTo pos (starEach args env)) (backToKw pos (keywordEach kws env))) Q E s₁) E s) :
    wpN M A (eval (.Call (.Name id p) args kws pos) env) Q E s := by
  rw [arm_eval_Call_Name']
  exact wpN.leaf h
end

section
variable {prog : Program} {w : World} {A : Around} {E : Value → Shared → Prop} {s : Shared} {env : Env} {R : Result → Shared → Prop}
theorem execN_Try {body orelse : List Stmt} {h₀ : ExceptHandler} {hs : List ExceptHandler} {pos : Pos} {Q : Flow → Shared → Prop}
    (h : wpN (model prog w) A (execs body env) (fun f s₁ => match f with | .next => wpAny (model prog w) A (execs orelse env) Q E s₁ | f => Q f s₁)
      (fun e s₁ => wpAny (model prog w) A (noteFrame e env) (fun _ s₂ => wpAny (model prog w) A (setFlight e none) (fun _ s₃ => wpAny (model prog w) A (handleBy e env (h₀ :: hs)) Q E s₃) E s₂) E s₁) s) :
    wpN (model prog w) A (exec (.Try body (h₀ :: hs) orelse [] pos) env) Q E s := by
  rw [arm_exec_Try]
  refine wpN.leaf (wpAny_standAt ?_)
  unfold tryStmt
  simp only [List.isEmpty_nil, if_true, List.isEmpty_cons, Bool.false_and, Bool.false_eq_true, if_false]
  refine wpN.bind (wpN.attempt (wpN.mono h (fun f s₁ h₁ => ?_) fun e s₁ h₁ => ?_))
  · cases f <;> first | exact wpN.of h₁ | exact wpN.pure h₁
  · exact wpN.leaf (wpAny_mono h₁ (fun _ _ h₂ => wpN.of (wpAny_bind h₂)) fun _ _ x => x)
theorem codeN_func {body : List Stmt}
    (h : wpN (model prog w) (A.deeper env) (execs body env) (fun f s' => R (.ok (.ret (match f with | .ret v => v | _ => .none))) s')
      (fun e s' => wpAny (model prog w) (A.deeper env) (leaving env e) (fun _ s'' => R (.error e) s'') (fun e' s'' => R (.error e') s'') s') s) : codeN (model prog w) A (.func body env) R s := by
  refine codeN.of_tree ?_
  show wpN _ (A.deeper env) (do point; match ← (execs body env).onRaise (leaving env) with | .ret v => ret v | _ => ret .none) _ _ s
  refine wpN.leaf (wpAny_point (wpN.bind (wpN.onRaise (wpN.mono h (fun f s' h' => ?_) fun _ _ h' => h'))))
  cases f <;> exact wpN.pure h'
theorem codeN_call_function {a : Addr} {args : Args} {o : Obj} {fd : FuncData} {body : List Stmt} (hroom : A.depth < recursionLimit)
    (ho : s.heap.get? a = some o) (hd' : o.data = .func fd) (hco : fd.scope.isCoroutine = false) (hgen : fd.scope.isGenerator = false) (hbody : fd.body = .stmts body) (hcd : s.heap.CodeRec fd.code fd.qualname)
    (h : wpAny (model prog w) A.in1 (bindArgs fd args) (fun binds s₁ =>
      wpAny (model prog w) A.in1 (newFunctionEnv fd.scope fd.globals fd.closure binds (fd.qualname ++ ".<locals>.") (some a) fd.code none fd.builtins)
        (fun env s₂ => s₂.heap.NoLimit ∧ codeN (model prog w) A (.func body env) R s₂) (fun e s' => R (.error e) s') s₁) (fun e s' => R (.error e) s') s) :
    codeN (model prog w) A (.call (.ref a) args) R s := by
  refine codeN.of_tree (wpN.of ?_)
  show wpAny _ A.in1 (callAny (.ref a) args) _ _ s
  simp only [callAny]
  refine wpAny_bind (wpAny_load ho ?_)
  obtain ⟨c, oc, vs, tq, hc, hoc, hdc, hq⟩ := hcd
  simp only [hd', callFunction, hco, hgen, hbody, hc]
  rw [hc] at h
  refine wpAny_bind (m := field (.ref c) 1) (wpAny_field hoc hdc hq (wpAny_bind (wpAny_pure ?_)))
  exact wpAny_bind (wpAny_mono h (fun binds s₁ h₁ => wpAny_bind (wpAny_mono h₁ (fun env s₂ h₂ => wpAny_bind (wpAny_enterFrame h₂.1 hroom
    (wpAny_pure ⟨rfl, rfl, h₂.2⟩))) fun _ _ h' => h')) fun _ _ h' => h')
variable {A₀ : Around} {base h₀ : Heap} {outer : List Env} {L : Addr} {m : Str → Option Value} {news : List (Addr × Obj)} {K : Frag} {p : Program} {loose : List Str} {mean : ExcName → Option Value} {mg mb : Str → Option Value}
theorem codeN_def {name qual : Str} {params : Arguments} {body : List Stmt} {scope : Scope} {dV kV doc pm cdv ct oc : Value} {an od : Option Addr} {osl : Array (Option Value)} {f : Addr} {args : Args} {binds : List (Str × Value)}
    (B : Below A₀ base outer h₀) (F : Fr h₀ L s.heap m) (X₀ : K.In h₀) (N : News h₀ L s.heap news) (T : Top p loose mean mg mb h₀) (hA : A.frames = some (env :: outer)) (hf : env.frame = some L) (hke : env.scope.kind = .function)
    (ho : K.lookup f = some ⟨oc, od, .func (fnOf name qual params body scope dV kV doc pm an cdv ct), osl⟩) (hcd : codeIn K cdv qual = true) (hroom : A.depth < recursionLimit)
    (hbind : BindsTo s (fnOf name qual params body scope dV kV doc pm an cdv ct) args binds) (hloc : ∀ y ∈ binds, scope.names.lookup y.1 = some .local)
    (h : ∀ g L' h₁, Fr h₀ L g m → Fr g L' h₁ (fun y => binds.reverse.lookup y) → News g L' h₁ news → Below A base (env :: outer) g → K.In g → Top p loose mean mg mb g →
      wpN (model prog w) (A.deeper (envOf qual scope L' f cdv)) (execs body (envOf qual scope L' f cdv))
        (fun fl s' => LeaveK h₀ L m g R (match fl with | .ret v => v | _ => .none) s')
        (fun e s' => wpAny (model prog w) (A.deeper (envOf qual scope L' f cdv)) (leaving (envOf qual scope L' f cdv) e) (fun _ s'' => R (.error e) s'') (fun e' s'' => R (.error e') s'') s')
        { s with heap := h₁, toks := s.toks + binds.length })
    (hco : scope.isCoroutine = false) (hgen : scope.isGenerator = false) (hk : scope.kind = .function)
    (hcell : ∀ x ∈ scope.names, x.2 ≠ .cell) : codeN (model prog w) A (.call (.ref f) args) R s := by
  obtain ⟨FG, BG, st, lv⟩ := groundX (R := R) B F N hA hf hke
  have X := X₀.keeps F.keep
  refine codeN_call_function (fd := fnOf name qual params body scope dV kV doc pm an cdv ct) (body := body) hroom (X _ _ ho) rfl hco hgen rfl (codeRec_of X hcd) (hbind _ _ _ _ ?_)
  refine wpAny_newFunctionEnv hcell hloc (fun h₁ hns hsb => ⟨(T.nolimit.keeps F.keep).fresh _ hsb, ?_⟩) hk
  have hk₁ : ∀ b o, s.heap.get? b = some o → h₁.get? b = some o := fun b o e => hsb.extBut b o (Nat.ne_of_lt (Heap.lt_size e)) (Heap.get?_push_of_some _ e)
  show codeN _ _ (.func body (envOf qual scope s.heap.objs.size f cdv)) _ _
  refine codeN_func (wpN.mono (h _ s.heap.objs.size h₁ FG ⟨hns, fun b o e => hk₁ b o (of_hideAll _ e), Nat.le_of_eq (hideAll_size _ _)⟩
    (fun p hp => ⟨hk₁ _ _ (N p hp).1, Nat.ne_of_lt (Heap.lt_size (N p hp).1), hideAll_none _ (List.mem_map_of_mem hp)⟩) BG (X₀.keeps st) (T.keeps st)) (fun fl s' hl => lv _ _ hl) fun _ _ y => y)
end

-- 01_head

theorem caller_clear : NoDec ⟨.builtin "claim.caller" {}, none, none, [], none⟩ := ⟨by decide +kernel, fun _ h => nomatch h⟩
theorem thread_endsN {prog : Program} {w : World} {t : Sem Fin} {s : Shared} {R : Result → Shared → Prop} (hreg : s.asleep)
    (h : wpN (model prog w) callerA t (fun fin s' => ∃ f, fin = .done f ∧ (R (.ok f) s' ∧ leftWithCleanup s'.gens = false)) (fun e s' => R (.error e) s' ∧ leftWithCleanup s'.gens = false) s) :
    ∃ n r s' s'', runN (denote table) prog w n s ⟨t, .builtin "claim.caller" {}, default, []⟩ = .halted (outcomeOf r) s' ∧
      schedN (denote table) prog w n (.single s ⟨t, .builtin "claim.caller" {}, default, []⟩) = .halted (outcomeOf r) s' ∧ s'.forget = s''.forget ∧ R r s'' := by
  have hw : wp (model prog w) ⟨.builtin "claim.caller" {}, none, none, [], none⟩ t (Sem.finPost (model prog w) ⟨.builtin "claim.caller" {}, none, none, [], none⟩ fun r s' => R r s' ∧ leftWithCleanup s'.gens = false)
      (fun e _ s' => R (.error e) s' ∧ leftWithCleanup s'.gens = false) default s := by
    refine Sem.wp_mono _ _ t (fun fin p' s' h' => ?_) (fun _ _ _ h' => h') default s (h _ default caller_in caller_clear)
    obtain ⟨f, rfl, hf⟩ := h'
    exact hf
  obtain ⟨n, r, s₁, s₂, hs, hn, hfo, hR⟩ := wp_halts_full (M := model prog w) (R := R) hreg hw
  exact ⟨n, r, s₂, s₁, hn, hs, hfo, hR⟩

theorem mem_one {α : Type} {n a : α} {b : Bool} (h : n ∈ if b = true then [a] else []) : n = a := by
  cases b
  · cases h
  · exact List.mem_singleton.mp h
/-- the law's call, as a goal of the narrower logic -/
abbrev WalkD (q : Program) (loose : List Str) (XP : (Str → Option Value) → Heap → Prop) (YP : World → Heap → Prop) (r : RowW) (d : DefRec) (kwd : List (Str × Expr)) : Prop :=
  ∀ (w : World) (s₀ s₁ : Shared) (mg mb : Str → Option Value), Ground q loose r.records XP w s₀ mg mb s₁.heap → YP w s₁.heap → ∀ (a : Addr) (o : Obj) (pm cd doc dV kV : Value), s₁.heap.get? a = some o →
    o.data = .func { docDef d.name d.params d.body d.scope pm cd doc with defaults := dV, kwdefaults := kV } → s₁.heap.CodeRec cd d.name → Dflts mg s₁.heap d.params kwd dV kV → mg d.name = some (.ref a) → s₁.gens = #[] →
    ∀ (args : List WData) (vals : List Value) (as : List Addr), r.claim.pre args = true → WData.layableAll args = true → ReadsAllW r.records (classAt s₀.heap) s₁.heap vals args as → WellAll w.params s₁.heap vals args → (∀ a ∈ as, (a == sysModules) = false) →
      wpN (model r.prog w) callerA (PySem.call (.ref a) vals) (fun v s' => GoodWG r.claim (classAt s₀.heap) (ExcName.means s₀.heap) args s₁ (.ok (.ret v)) s')
        (fun e s' => GoodWG r.claim (classAt s₀.heap) (ExcName.means s₀.heap) args s₁ (.error e) s') s₁

theorem holds_openD {r : OpenRow} {q : Program} {loose : List Str} {Xt : Shared → Bool} {XP : (Str → Option Value) → Heap → Prop} {α : Type} {Yf : Shared → α} {Ya : World → α} {YP : World → Heap → Prop} {d : DefRec} {kwd : List (Str × Expr)} {N : Nat}
    (left : LeftO r.prog q loose Xt Yf Ya N) (hY : ∀ w s, Yf s = Ya w → YP w s.heap) (hYk : ∀ w h h', YP w h → (∀ b o, h.get? b = some o → h'.get? b = some o) → YP w h')
    (hX : ∀ s, Xt s = true → XP (s.heap.nsMap mainGlobals) s.heap) (hXk : ∀ mg h h', XP mg h → (∀ b o, h.get? b = some o → h'.get? b = some o) → XP mg h')
    (hdef : defOf q r.name = some (d, kwd)) (hp : r.prog.theDef r.name = some (d.params, d.body, d.scope)) (hk : kwWritten? d.params.kwonlyargs d.params.kw_defaults = some kwd) (hRf : ∀ s, Xt s = true → RecFacts r.records s.heap) (hwr : (!r.writes || r.records.isEmpty) = true)
    (k1 : r.wellSaid = true) (ok : (chainsOk q && opensWell r.prog && (frees r.toRowW && r.within.isEmpty)) = true) (hb : r.prog.bare) (hw : r.toRowW.promised)
    (call : WalkD q loose XP YP r.toRowW d kwd) : r.Holds := by
  refine ⟨k1, hw, ?_⟩
  obtain ⟨ok, k5⟩ := Bool.and_eq_true_iff.mp ok
  obtain ⟨hch, o1⟩ := Bool.and_eq_true_iff.mp ok
  obtain ⟨k5, k6⟩ := Bool.and_eq_true_iff.mp k5
  obtain ⟨hsame, hu, ha, hap, hm⟩ := frees_parts k5
  refine ⟨⟨hb, o1, by show r.makers.map _ = []; rw [hm]; rfl⟩, hw.witness, fun w => ⟨(left.behind hX hch w).1, fun s' hs' => ?_⟩⟩
  obtain ⟨s₀, hf, hg0, s, hT, hz, hgens, hg, G00, y⟩ := (left.behind (XP := fun mg h => XP mg h ∧ RecFacts r.records h) (fun s hs => ⟨hX s hs, hRf s hs⟩) hch w).2 s' hs'
  have G0 : Ground q loose [] XP w s (s.heap.nsMap mainGlobals) (s.heap.nsMap builtinsNs) s.heap := ⟨G00.T, G00.B, G00.D, G00.TE, G00.TD, G00.W, G00.X.1, G00.cls, G00.has, G00.apart, G00.once, G00.K⟩
  have RF := G00.X.2
  refine ⟨s₀, hf, hg0, s, hT, fun n hn => ?_, RF.1, RF.2.1, ?_⟩
  · obtain rfl : n = r.name := mem_one hn
    exact pinned_of_view hg G0 hdef hp hk
  have hgens : s.gens = #[] := Array.eq_empty_of_size_eq_zero (beq_iff_eq.mp hgens)
  have G : Ground q loose r.records XP w s _ _ s.heap := RF.ground G0
  intro args hpre hlay ord hord
  obtain ⟨⟨vs, s₁⟩, hlaid⟩ := Option.isSome_iff_exists.mp (layAllW_isSome (P := w.params) (ord := ord) G.has args r.args s (pre_splitW hpre).1)
  have keeps := layAllW_keeps _ _ _ hlaid
  have hal := layAllW_rest _ _ _ hlaid
  obtain ⟨as, hrd, hin, hold⟩ := reads_layAllW hord _ _ _ hlaid hlay s₁.heap (fun _ _ e => e)
  have L : Laid r.records w s s₁ args vs as := ⟨⟨ord, hord, hlaid⟩, hrd, hin, hold, keeps, hal.1.trans hgens, hal.2.2.1⟩
  have G₁ := G.keeps hXk keeps
  have G₂ := G.keeps hXk keeps
  obtain ⟨a, o, pm, cd, doc, dV, kV, h1, h2, h3, h4, h5⟩ := G₁.fn hdef
  have hc := call w s s₁ _ _ G₂ (hYk _ _ _ (hY w s y) keeps) a o pm cd doc dV kV h2 h3 h4 h5 (defOf_name hdef ▸ h1) L.gens args vs as hpre hlay L.reads L.well (L.low G.low)
  have hi := ident_freeW hu ha hap
  have hwi : r.claim.within = [] := List.isEmpty_iff.mp k6
  obtain ⟨k, r', s', s'', hrun, hsched, hfo, ⟨hcase, hos, hkp⟩⟩ := thread_endsN (prog := r.claim.prog) (w := w)
    (t := do match ← nsGet mainNs r.name with
      | some f => do ret (← PySem.call f vs)
      | none => unsupported "claim.caller:no-such-global") (s := s₁)
    (R := fun r₁ s' => r.claim.Ends s args vs s₁ r₁ s' ∧ s'.os = s.os ∧ (r.writes = true → namesKept r.prog r.keeps s.heap s'.heap ∧ ∀ x ∈ r.claim.records, ∀ a, classAt s.heap x.1 = some a → recordClass s'.heap a x.1 (x.2.map (·.1)) = true))
    (Shared.asleep_of_life hal.2.2.2 hz) (by
      refine wpN.leaf (wpAny_nsGet G₂.T.g ?_)
      rw [h1]
      refine wpN.bind (wpN.mono hc (fun v s' g => wpN.pure ⟨_, rfl, ?_⟩) fun e s' g => ?_)
      · have z := g.laid (c := r.claim) hsame hwi hi L
        exact ⟨⟨z.1, z.2.1, fun q => ⟨namesKept_of hT hg r.keeps keeps g.2.1.old, noTable hwr q⟩⟩, leftWithCleanup_false_of_bare z.2.2⟩
      · have z := g.laid (c := r.claim) hsame hwi hi L
        exact ⟨⟨z.1, z.2.1, fun q => ⟨namesKept_of hT hg r.keeps keeps g.2.1.old, noTable hwr q⟩⟩, leftWithCleanup_false_of_bare z.2.2⟩)
  obtain ⟨eh, _, _, eo, _⟩ := Shared.forget_eq hfo
  have hcase := hcase.congr eh
  rw [← eo] at hos
  rw [← eh] at hkp
  have hlife : s'.heap.life = s.heap.life := (runN_life _ _ _ hrun).trans hal.2.2.2
  refine ⟨vs, s₁, hlaid, k, _, s', hsched, ?_, (fun _ i x hx => by rw [hgens] at hx; simp at hx), hkp, by rw [hlife], Shared.rest_eq hos⟩
  rcases hcase with ⟨v, rfl, d1, d2, d3, d4, d5⟩ | ⟨e, ob, cls, rfl, d1, d2, d3, d4, d5⟩
  · exact .inl ⟨v, rfl, d1, d2, d3, fun b o y _ => d4 b o y, d5⟩
  · exact .inr ⟨e, ob, cls, rfl, d1, d2, d3, d4, fun b o y _ => d5 b o y⟩

-- 02_hd
/-- the k-th statement of the given text, and the j-th of the class that it makes -/
noncomputable def stAt (k : Nat) : Stmt := PySem.Challenge.pw_kx0068_01.main.body.getD k (.Pass ⟨0, 0, 0, 0⟩)
noncomputable def inAt (k j : Nat) : Stmt := match stAt k with
  | .ClassDef _ _ _ body _ _ _ _ _ _ _ => body.getD j (.Pass ⟨0, 0, 0, 0⟩)
  | s => s
/-- the function that a def makes -/
noncomputable def fnO (st : Stmt) (cls : Value) (dict : Option Addr) (slots : Array (Option Value)) (qual : Str) (globals : Addr) (closure : List (Str × Addr)) (dfl kwd doc mod : Value) (ann : Option Addr) (code ct : Value) (bi : Addr) : Obj := match st with
  | .FunctionDef name args body _ _ _ scope _ _ _ => ⟨cls, dict, .func ⟨name, qual, args, .stmts body, scope, globals, closure, dfl, kwd, doc, mod, ann, code, ct, bi⟩, slots⟩
  | _ => ⟨cls, dict, .plain, slots⟩
/-- the defs and classes that the top keeps -/
noncomputable def hd.view_39 : Program := { PySem.Challenge.pw_kx0068_01 with main := { PySem.Challenge.pw_kx0068_01.main with body := [stAt 0, stAt 2, stAt 3, stAt 4, stAt 5, stAt 6, stAt 7, stAt 8, stAt 9, stAt 11, stAt 13, stAt 14, stAt 15, stAt 16, stAt 17, stAt 18, stAt 19, stAt 20, stAt 21, stAt 22, stAt 23, stAt 24, stAt 25, stAt 26, stAt 27, stAt 28] } }
/-- the objects that the top leaves, as far as the law comes to them (printed by a program, wip/KG.lean) -/
noncomputable def hd.heap_39 : Params → Frag := fun P =>
  (nat_lit 2, { cls := Value.none, data := Data.dict #[{ hash := PyData.keyHash P (Str.ofString "type.__subclasses__.Exception.0"), key := Value.str (Str.ofString "type.__subclasses__.Exception.0") 224, val := Value.int 41 0 }, { hash := PyData.keyHash P (Str.ofString "type.__subclasses__.Exception.n"), key := Value.str (Str.ofString "type.__subclasses__.Exception.n") 225, val := Value.int 2 0 }, { hash := PyData.keyHash P (Str.ofString "type.__subclasses__.Exception.1"), key := Value.str (Str.ofString "type.__subclasses__.Exception.1") 256, val := Value.int 63 0 }] 3 }) ::
  (nat_lit 3, { cls := Value.type "dict", data := Data.dict #[{ hash := PyData.keyHash P (Str.ofString "__name__"), key := Value.str (Str.ofString "__name__") 165, val := Value.str (Str.ofString "law_kx0068_01") 555 }, { hash := PyData.keyHash P (Str.ofString "__doc__"), key := Value.str (Str.ofString "__doc__") 166, val := Value.none }, { hash := PyData.keyHash P (Str.ofString "__package__"), key := Value.str (Str.ofString "__package__") 167, val := Value.none }, { hash := PyData.keyHash P (Str.ofString "__loader__"), key := Value.str (Str.ofString "__loader__") 168, val := Value.builtin "__main__.__loader__#opaque" }, { hash := PyData.keyHash P (Str.ofString "__spec__"), key := Value.str (Str.ofString "__spec__") 169, val := Value.none }, { hash := PyData.keyHash P (Str.ofString "__annotations__"), key := Value.str (Str.ofString "__annotations__") 170, val := Value.ref 6 }, { hash := PyData.keyHash P (Str.ofString "__builtins__"), key := Value.str (Str.ofString "__builtins__") 171, val := Value.ref 4 }, { hash := PyData.keyHash P (Str.ofString "__file__"), key := Value.str (Str.ofString "__file__") 173, val := Value.str (Str.ofString "/claim/cut.py") 172 }, { hash := PyData.keyHash P (Str.ofString "__cached__"), key := Value.str (Str.ofString "__cached__") 174, val := Value.none }, { hash := PyData.keyHash P (Str.ofString "_wall"), key := Value.str (Str.ofString "_wall") 193, val := Value.ref 21 }, { hash := PyData.keyHash P (Str.ofString "PyFATException"), key := Value.str (Str.ofString "PyFATException") 227, val := Value.ref 41 }, { hash := PyData.keyHash P (Str.ofString "NotAFatEntryException"), key := Value.str (Str.ofString "NotAFatEntryException") 259, val := Value.ref 63 }, { hash := PyData.keyHash P (Str.ofString "errno"), key := Value.str (Str.ofString "errno") 309, val := Value.ref 76 }, { hash := PyData.keyHash P (Str.ofString "FAT_OEM_ENCODING"), key := Value.str (Str.ofString "FAT_OEM_ENCODING") 311, val := Value.str (Str.ofString "latin-1") 310 }, { hash := PyData.keyHash P (Str.ofString "encoded"), key := Value.str (Str.ofString "encoded") 317, val := Value.ref 85 }, { hash := PyData.keyHash P (Str.ofString "decoded"), key := Value.str (Str.ofString "decoded") 323, val := Value.ref 90 }, { hash := PyData.keyHash P (Str.ofString "splitext"), key := Value.str (Str.ofString "splitext") 333, val := Value.ref 97 }, { hash := PyData.keyHash P (Str.ofString "init_check"), key := Value.str (Str.ofString "init_check") 340, val := Value.ref 104 }, { hash := PyData.keyHash P (Str.ofString "EightDotThree"), key := Value.str (Str.ofString "EightDotThree") 554, val := Value.ref 223 }, { hash := PyData.keyHash P (Str.ofString "_law_good"), key := Value.str (Str.ofString "_law_good") 558, val := Value.str (Str.ofString "AZBKMX019_-~!#$%&'()@^{}QRÉÖ±Þ") 557 }, { hash := PyData.keyHash P (Str.ofString "_law_bad"), key := Value.str (Str.ofString "_law_bad") 560, val := Value.str (Str.ofString "abz\"*+,./:;<=>?[]|\\éößµÿ€Ж😀") 559 }, { hash := PyData.keyHash P (Str.ofString "_law_take"), key := Value.str (Str.ofString "_law_take") 569, val := Value.ref 234 }, { hash := PyData.keyHash P (Str.ofString "_law_signs"), key := Value.str (Str.ofString "_law_signs") 581, val := Value.ref 241 }, { hash := PyData.keyHash P (Str.ofString "_law_text"), key := Value.str (Str.ofString "_law_text") 591, val := Value.ref 248 }, { hash := PyData.keyHash P (Str.ofString "_law_octets"), key := Value.str (Str.ofString "_law_octets") 603, val := Value.ref 255 }, { hash := PyData.keyHash P (Str.ofString "_law_parts"), key := Value.str (Str.ofString "_law_parts") 609, val := Value.ref 260 }, { hash := PyData.keyHash P (Str.ofString "_law_conform"), key := Value.str (Str.ofString "_law_conform") 619, val := Value.ref 267 }, { hash := PyData.keyHash P (Str.ofString "_law_bare"), key := Value.str (Str.ofString "_law_bare") 626, val := Value.ref 274 }, { hash := PyData.keyHash P (Str.ofString "_law_laid"), key := Value.str (Str.ofString "_law_laid") 632, val := Value.ref 279 }, { hash := PyData.keyHash P (Str.ofString "_law_told"), key := Value.str (Str.ofString "_law_told") 638, val := Value.ref 284 }, { hash := PyData.keyHash P (Str.ofString "_law_sum"), key := Value.str (Str.ofString "_law_sum") 651, val := Value.ref 291 }, { hash := PyData.keyHash P (Str.ofString "_law_set"), key := Value.str (Str.ofString "_law_set") 661, val := Value.ref 298 }, { hash := PyData.keyHash P (Str.ofString "_law_bald"), key := Value.str (Str.ofString "_law_bald") 669, val := Value.ref 305 }, { hash := PyData.keyHash P (Str.ofString "_law_holds"), key := Value.str (Str.ofString "_law_holds") 678, val := Value.ref 312 }, { hash := PyData.keyHash P (Str.ofString "law"), key := Value.str (Str.ofString "law") 699, val := Value.ref 319 }] 35 }) ::
  (nat_lit 15, { cls := Value.type "tuple", data := Data.seq #[] }) ::
  (nat_lit 17, { cls := Value.type "tuple", data := Data.seq #[Value.str (Str.ofString "k") 190] }) ::
  (nat_lit 18, { cls := Value.type "tuple", data := Data.seq #[] }) ::
  (nat_lit 20, { cls := Value.type "code", data := Data.fields #[Value.str (Str.ofString "_wall") 187, Value.str (Str.ofString "_wall") 188, Value.str (Str.ofString "/claim/cut.py") 189, Value.int 1 0, Value.int 1 0, Value.int 0 0, Value.int 0 0, Value.int 3 0, Value.ref 15, Value.bool true, Value.int 181 0, Value.ref 16, Value.none, Value.ref 17, Value.ref 18, Value.ref 19, Value.int 191 0, Value.int 1 0, Value.str (Str.ofString "/claim/cut.py") 192] }) ::
  (nat_lit 21, fnO (stAt 0) (Value.type "function") (none) (#[]) (Str.ofString "_wall") (3) [] (Value.none) (Value.none) (Value.none) (Value.str (Str.ofString "__main__") 164) (none) (Value.ref 20) (Value.none) (0)) ::
  (nat_lit 22, { cls := Value.type "tuple", data := Data.seq #[Value.type "Exception"] }) ::
  (nat_lit 25, { cls := Value.type "cell", data := Data.cell (some (Value.ref 41)) }) ::
  (nat_lit 30, { cls := Value.type "tuple", data := Data.seq #[Value.none] }) ::
  (nat_lit 31, { cls := Value.type "tuple", data := Data.seq #[Value.ref 25] }) ::
  (nat_lit 32, { cls := Value.type "tuple", data := Data.seq #[Value.str (Str.ofString "__class__") 211] }) ::
  (nat_lit 34, { cls := Value.type "tuple", data := Data.seq #[Value.str (Str.ofString "self") 212, Value.str (Str.ofString "msg") 213, Value.str (Str.ofString "errno") 214] }) ::
  (nat_lit 35, { cls := Value.type "tuple", data := Data.seq #[] }) ::
  (nat_lit 37, { cls := Value.type "code", data := Data.fields #[Value.str (Str.ofString "__init__") 208, Value.str (Str.ofString "PyFATException.__init__") 209, Value.str (Str.ofString "/claim/cut.py") 210, Value.int 7 0, Value.int 3 0, Value.int 0 0, Value.int 0 0, Value.int 3 0, Value.ref 32, Value.bool true, Value.int 181 0, Value.ref 33, Value.none, Value.ref 34, Value.ref 35, Value.ref 36, Value.int 215 0, Value.int 7 0, Value.str (Str.ofString "/claim/cut.py") 216] }) ::
  (nat_lit 38, fnO (inAt 2 0) (Value.type "function") (none) (#[]) (Str.ofString "PyFATException.__init__") (3) [(Str.ofString "__class__", 25)] (Value.ref 30) (Value.none) (Value.none) (Value.str (Str.ofString "pyfatfs._exceptions") 194) (none) (Value.ref 37) (Value.ref 31) (0)) ::
  (nat_lit 39, { cls := Value.type "tuple", data := Data.seq #[Value.str (Str.ofString "errno") 218] }) ::
  (nat_lit 40, { cls := Value.type "dict", data := Data.dict #[{ hash := PyData.keyHash P (Str.ofString "__module__"), key := Value.str (Str.ofString "__module__") 203, val := Value.str (Str.ofString "pyfatfs._exceptions") 194 }, { hash := PyData.keyHash P (Str.ofString "__firstlineno__"), key := Value.str (Str.ofString "__firstlineno__") 207, val := Value.int 5 206 }, { hash := PyData.keyHash P (Str.ofString "__init__"), key := Value.str (Str.ofString "__init__") 217, val := Value.ref 38 }, { hash := PyData.keyHash P (Str.ofString "__static_attributes__"), key := Value.str (Str.ofString "__static_attributes__") 219, val := Value.ref 39 }, { hash := PyData.keyHash P (Str.ofString "__weakref__"), key := Value.str (Str.ofString "__weakref__") 222, val := Value.ref 42 }, { hash := PyData.keyHash P (Str.ofString "__doc__"), key := Value.str (Str.ofString "__doc__") 223, val := Value.none }] 4 }) ::
  (nat_lit 41, { cls := Value.type "type", data := Data.cls { name := Str.ofString "PyFATException", bases := [Value.type "Exception"], mro := [Value.ref 41, Value.type "Exception", Value.type "BaseException", Value.type "object"], ns := 40, qualname := Str.ofString "PyFATException" }, slots := #[some (Value.ref 22), none, some (Value.str (Str.ofString "PyFATException") 196), some (Value.str (Str.ofString "PyFATException") 204), some (Value.builtin "Exception.__new__"), some (Value.bool true)] }) ::
  (nat_lit 42, { cls := Value.type "getset_descriptor", data := Data.fields #[Value.str (Str.ofString "__weakref__") 221, Value.ref 41, Value.builtin "ExceptionGroup.__weakref__", Value.none] }) ::
  (nat_lit 45, { cls := Value.type "tuple", data := Data.seq #[Value.type "Exception"] }) ::
  (nat_lit 48, { cls := Value.type "cell", data := Data.cell (some (Value.ref 63)) }) ::
  (nat_lit 53, { cls := Value.type "tuple", data := Data.seq #[Value.ref 48] }) ::
  (nat_lit 54, { cls := Value.type "tuple", data := Data.seq #[Value.str (Str.ofString "__class__") 243] }) ::
  (nat_lit 56, { cls := Value.type "tuple", data := Data.seq #[Value.str (Str.ofString "self") 244, Value.str (Str.ofString "msg") 245, Value.str (Str.ofString "free_type") 246] }) ::
  (nat_lit 57, { cls := Value.type "tuple", data := Data.seq #[] }) ::
  (nat_lit 59, { cls := Value.type "code", data := Data.fields #[Value.str (Str.ofString "__init__") 240, Value.str (Str.ofString "NotAFatEntryException.__init__") 241, Value.str (Str.ofString "/claim/cut.py") 242, Value.int 12 0, Value.int 3 0, Value.int 0 0, Value.int 0 0, Value.int 3 0, Value.ref 54, Value.bool true, Value.int 181 0, Value.ref 55, Value.none, Value.ref 56, Value.ref 57, Value.ref 58, Value.int 247 0, Value.int 12 0, Value.str (Str.ofString "/claim/cut.py") 248] }) ::
  (nat_lit 60, fnO (inAt 3 0) (Value.type "function") (none) (#[]) (Str.ofString "NotAFatEntryException.__init__") (3) [(Str.ofString "__class__", 48)] (Value.none) (Value.none) (Value.none) (Value.str (Str.ofString "pyfatfs._exceptions") 194) (none) (Value.ref 59) (Value.ref 53) (0)) ::
  (nat_lit 61, { cls := Value.type "tuple", data := Data.seq #[Value.str (Str.ofString "free_type") 250] }) ::
  (nat_lit 62, { cls := Value.type "dict", data := Data.dict #[{ hash := PyData.keyHash P (Str.ofString "__module__"), key := Value.str (Str.ofString "__module__") 235, val := Value.str (Str.ofString "pyfatfs._exceptions") 194 }, { hash := PyData.keyHash P (Str.ofString "__firstlineno__"), key := Value.str (Str.ofString "__firstlineno__") 239, val := Value.int 10 238 }, { hash := PyData.keyHash P (Str.ofString "__init__"), key := Value.str (Str.ofString "__init__") 249, val := Value.ref 60 }, { hash := PyData.keyHash P (Str.ofString "__static_attributes__"), key := Value.str (Str.ofString "__static_attributes__") 251, val := Value.ref 61 }, { hash := PyData.keyHash P (Str.ofString "__weakref__"), key := Value.str (Str.ofString "__weakref__") 254, val := Value.ref 64 }, { hash := PyData.keyHash P (Str.ofString "__doc__"), key := Value.str (Str.ofString "__doc__") 255, val := Value.none }] 4 }) ::
  (nat_lit 63, { cls := Value.type "type", data := Data.cls { name := Str.ofString "NotAFatEntryException", bases := [Value.type "Exception"], mro := [Value.ref 63, Value.type "Exception", Value.type "BaseException", Value.type "object"], ns := 62, qualname := Str.ofString "NotAFatEntryException" }, slots := #[some (Value.ref 45), none, some (Value.str (Str.ofString "NotAFatEntryException") 228), some (Value.str (Str.ofString "NotAFatEntryException") 236), some (Value.builtin "Exception.__new__"), some (Value.bool true)] }) ::
  (nat_lit 64, { cls := Value.type "getset_descriptor", data := Data.fields #[Value.str (Str.ofString "__weakref__") 253, Value.ref 63, Value.builtin "ExceptionGroup.__weakref__", Value.none] }) ::
  (nat_lit 74, { cls := Value.type "tuple", data := Data.seq #[] }) ::
  (nat_lit 75, { cls := Value.type "dict", data := Data.dict #[{ hash := PyData.keyHash P (Str.ofString "__module__"), key := Value.str (Str.ofString "__module__") 267, val := Value.str (Str.ofString "pyfatfs._exceptions") 194 }, { hash := PyData.keyHash P (Str.ofString "__firstlineno__"), key := Value.str (Str.ofString "__firstlineno__") 271, val := Value.int 15 270 }, { hash := PyData.keyHash P (Str.ofString "ENOENT"), key := Value.str (Str.ofString "ENOENT") 273, val := Value.int 2 272 }, { hash := PyData.keyHash P (Str.ofString "ENXIO"), key := Value.str (Str.ofString "ENXIO") 275, val := Value.int 6 274 }, { hash := PyData.keyHash P (Str.ofString "E2BIG"), key := Value.str (Str.ofString "E2BIG") 277, val := Value.int 7 276 }, { hash := PyData.keyHash P (Str.ofString "EFAULT"), key := Value.str (Str.ofString "EFAULT") 279, val := Value.int 14 278 }, { hash := PyData.keyHash P (Str.ofString "EEXIST"), key := Value.str (Str.ofString "EEXIST") 281, val := Value.int 17 280 }, { hash := PyData.keyHash P (Str.ofString "ENOTDIR"), key := Value.str (Str.ofString "ENOTDIR") 283, val := Value.int 20 282 }, { hash := PyData.keyHash P (Str.ofString "EISDIR"), key := Value.str (Str.ofString "EISDIR") 285, val := Value.int 21 284 }, { hash := PyData.keyHash P (Str.ofString "EINVAL"), key := Value.str (Str.ofString "EINVAL") 287, val := Value.int 22 286 }, { hash := PyData.keyHash P (Str.ofString "EMFILE"), key := Value.str (Str.ofString "EMFILE") 289, val := Value.int 24 288 }, { hash := PyData.keyHash P (Str.ofString "EACCES"), key := Value.str (Str.ofString "EACCES") 291, val := Value.int 13 290 }, { hash := PyData.keyHash P (Str.ofString "ENOSPC"), key := Value.str (Str.ofString "ENOSPC") 293, val := Value.int 28 292 }, { hash := PyData.keyHash P (Str.ofString "EROFS"), key := Value.str (Str.ofString "EROFS") 295, val := Value.int 30 294 }, { hash := PyData.keyHash P (Str.ofString "ENAMETOOLONG"), key := Value.str (Str.ofString "ENAMETOOLONG") 297, val := Value.int 36 296 }, { hash := PyData.keyHash P (Str.ofString "EBADE"), key := Value.str (Str.ofString "EBADE") 299, val := Value.int 52 298 }, { hash := PyData.keyHash P (Str.ofString "ETOOMANYREFS"), key := Value.str (Str.ofString "ETOOMANYREFS") 301, val := Value.int 109 300 }, { hash := PyData.keyHash P (Str.ofString "__static_attributes__"), key := Value.str (Str.ofString "__static_attributes__") 302, val := Value.ref 74 }, { hash := PyData.keyHash P (Str.ofString "__dict__"), key := Value.str (Str.ofString "__dict__") 304, val := Value.ref 77 }, { hash := PyData.keyHash P (Str.ofString "__weakref__"), key := Value.str (Str.ofString "__weakref__") 306, val := Value.ref 78 }, { hash := PyData.keyHash P (Str.ofString "__doc__"), key := Value.str (Str.ofString "__doc__") 307, val := Value.none }] 4 }) ::
  (nat_lit 76, { cls := Value.type "type", data := Data.cls { name := Str.ofString "errno", bases := [Value.type "object"], mro := [Value.ref 76, Value.type "object"], ns := 75, qualname := Str.ofString "errno" }, slots := #[none, none, some (Value.str (Str.ofString "errno") 260), some (Value.str (Str.ofString "errno") 268), some (Value.builtin "object.__new__"), some (Value.bool true)] }) ::
  (nat_lit 77, { cls := Value.type "getset_descriptor", data := Data.fields #[Value.str (Str.ofString "__dict__") 303, Value.ref 76, Value.builtin "function.__dict__", Value.builtin "function.__dict__#set"] }) ::
  (nat_lit 78, { cls := Value.type "getset_descriptor", data := Data.fields #[Value.str (Str.ofString "__weakref__") 305, Value.ref 76, Value.builtin "ExceptionGroup.__weakref__", Value.none] }) ::
  (nat_lit 81, { cls := Value.type "tuple", data := Data.seq #[] }) ::
  (nat_lit 84, { cls := Value.type "code", data := Data.fields #[Value.str (Str.ofString "encoded") 312, Value.str (Str.ofString "encoded") 313, Value.str (Str.ofString "/claim/cut.py") 314, Value.int 32 0, Value.int 1 0, Value.int 0 0, Value.int 0 0, Value.int 3 0, Value.ref 81, Value.bool true, Value.int 181 0, Value.ref 82, Value.none, Value.none, Value.none, Value.ref 83, Value.int 315 0, Value.int 32 0, Value.str (Str.ofString "/claim/cut.py") 316] }) ::
  (nat_lit 85, fnO (stAt 6) (Value.type "function") (none) (#[]) (Str.ofString "encoded") (3) [] (Value.none) (Value.none) (Value.none) (Value.str (Str.ofString "pyfatfs._exceptions") 194) (none) (Value.ref 84) (Value.none) (0)) ::
  (nat_lit 86, { cls := Value.type "tuple", data := Data.seq #[] }) ::
  (nat_lit 89, { cls := Value.type "code", data := Data.fields #[Value.str (Str.ofString "decoded") 318, Value.str (Str.ofString "decoded") 319, Value.str (Str.ofString "/claim/cut.py") 320, Value.int 34 0, Value.int 1 0, Value.int 0 0, Value.int 0 0, Value.int 3 0, Value.ref 86, Value.bool true, Value.int 181 0, Value.ref 87, Value.none, Value.none, Value.none, Value.ref 88, Value.int 321 0, Value.int 34 0, Value.str (Str.ofString "/claim/cut.py") 322] }) ::
  (nat_lit 90, fnO (stAt 7) (Value.type "function") (none) (#[]) (Str.ofString "decoded") (3) [] (Value.none) (Value.none) (Value.none) (Value.str (Str.ofString "pyfatfs._exceptions") 194) (none) (Value.ref 89) (Value.none) (0)) ::
  (nat_lit 91, { cls := Value.type "tuple", data := Data.seq #[] }) ::
  (nat_lit 93, { cls := Value.type "tuple", data := Data.seq #[Value.str (Str.ofString "path") 327, Value.str (Str.ofString "dot") 328, Value.str (Str.ofString "start") 329, Value.str (Str.ofString "k") 330] }) ::
  (nat_lit 94, { cls := Value.type "tuple", data := Data.seq #[] }) ::
  (nat_lit 96, { cls := Value.type "code", data := Data.fields #[Value.str (Str.ofString "splitext") 324, Value.str (Str.ofString "splitext") 325, Value.str (Str.ofString "/claim/cut.py") 326, Value.int 36 0, Value.int 1 0, Value.int 0 0, Value.int 0 0, Value.int 3 0, Value.ref 91, Value.bool true, Value.int 181 0, Value.ref 92, Value.none, Value.ref 93, Value.ref 94, Value.ref 95, Value.int 331 0, Value.int 36 0, Value.str (Str.ofString "/claim/cut.py") 332] }) ::
  (nat_lit 97, fnO (stAt 8) (Value.type "function") (none) (#[]) (Str.ofString "splitext") (3) [] (Value.none) (Value.none) (Value.none) (Value.str (Str.ofString "pyfatfs._exceptions") 194) (none) (Value.ref 96) (Value.none) (0)) ::
  (nat_lit 98, { cls := Value.type "tuple", data := Data.seq #[] }) ::
  (nat_lit 100, { cls := Value.type "tuple", data := Data.seq #[Value.str (Str.ofString "one") 337] }) ::
  (nat_lit 101, { cls := Value.type "tuple", data := Data.seq #[] }) ::
  (nat_lit 103, { cls := Value.type "code", data := Data.fields #[Value.str (Str.ofString "init_check") 334, Value.str (Str.ofString "init_check") 335, Value.str (Str.ofString "/claim/cut.py") 336, Value.int 43 0, Value.int 1 0, Value.int 0 0, Value.int 0 0, Value.int 3 0, Value.ref 98, Value.bool true, Value.int 181 0, Value.ref 99, Value.none, Value.ref 100, Value.ref 101, Value.ref 102, Value.int 338 0, Value.int 43 0, Value.str (Str.ofString "/claim/cut.py") 339] }) ::
  (nat_lit 104, fnO (stAt 9) (Value.type "function") (none) (#[]) (Str.ofString "init_check") (3) [] (Value.none) (Value.none) (Value.none) (Value.str (Str.ofString "pyfatfs._exceptions") 194) (none) (Value.ref 103) (Value.none) (0)) ::
  (nat_lit 112, { cls := Value.type "list", data := Data.seq #[Value.int 34 357, Value.int 42 358, Value.int 43 359, Value.int 44 360, Value.int 46 361, Value.int 47 362, Value.int 58 363, Value.int 59 364, Value.int 60 365, Value.int 61 366, Value.int 62 367, Value.int 63 368, Value.int 91 369, Value.int 92 370, Value.int 93 371, Value.int 124 372] }) ::
  (nat_lit 113, { cls := Value.type "tuple", data := Data.seq #[Value.str (Str.ofString "latin-1") 310] }) ::
  (nat_lit 114, { cls := Value.type "tuple", data := Data.seq #[] }) ::
  (nat_lit 116, { cls := Value.type "tuple", data := Data.seq #[Value.str (Str.ofString "self") 377, Value.str (Str.ofString "encoding") 378] }) ::
  (nat_lit 117, { cls := Value.type "tuple", data := Data.seq #[] }) ::
  (nat_lit 119, { cls := Value.type "code", data := Data.fields #[Value.str (Str.ofString "__init__") 374, Value.str (Str.ofString "EightDotThree.__init__") 375, Value.str (Str.ofString "/claim/cut.py") 376, Value.int 51 0, Value.int 2 0, Value.int 0 0, Value.int 0 0, Value.int 3 0, Value.ref 114, Value.bool true, Value.int 181 0, Value.ref 115, Value.none, Value.ref 116, Value.ref 117, Value.ref 118, Value.int 379 0, Value.int 51 0, Value.str (Str.ofString "/claim/cut.py") 380] }) ::
  (nat_lit 120, fnO (inAt 11 2) (Value.type "function") (none) (#[]) (Str.ofString "EightDotThree.__init__") (3) [] (Value.ref 113) (Value.none) (Value.none) (Value.str (Str.ofString "pyfatfs.EightDotThree") 341) (none) (Value.ref 119) (Value.none) (0)) ::
  (nat_lit 121, { cls := Value.type "tuple", data := Data.seq #[] }) ::
  (nat_lit 123, { cls := Value.type "tuple", data := Data.seq #[Value.str (Str.ofString "self") 385, Value.str (Str.ofString "name") 386, Value.str (Str.ofString "base") 387, Value.str (Str.ofString "ext") 388, Value.str (Str.ofString "sep") 389] }) ::
  (nat_lit 124, { cls := Value.type "tuple", data := Data.seq #[] }) ::
  (nat_lit 126, { cls := Value.type "code", data := Data.fields #[Value.str (Str.ofString "as_text") 382, Value.str (Str.ofString "EightDotThree.as_text") 383, Value.str (Str.ofString "/claim/cut.py") 384, Value.int 56 0, Value.int 1 0, Value.int 0 0, Value.int 0 0, Value.int 3 0, Value.ref 121, Value.bool true, Value.int 181 0, Value.ref 122, Value.none, Value.ref 123, Value.ref 124, Value.ref 125, Value.int 390 0, Value.int 56 0, Value.str (Str.ofString "/claim/cut.py") 391] }) ::
  (nat_lit 127, fnO (inAt 11 3) (Value.type "function") (none) (#[]) (Str.ofString "EightDotThree.as_text") (3) [] (Value.none) (Value.none) (Value.none) (Value.str (Str.ofString "pyfatfs.EightDotThree") 341) (none) (Value.ref 126) (Value.none) (0)) ::
  (nat_lit 128, { cls := Value.type "tuple", data := Data.seq #[] }) ::
  (nat_lit 130, { cls := Value.type "tuple", data := Data.seq #[Value.str (Str.ofString "self") 396] }) ::
  (nat_lit 131, { cls := Value.type "tuple", data := Data.seq #[] }) ::
  (nat_lit 133, { cls := Value.type "code", data := Data.fields #[Value.str (Str.ofString "as_bytes") 393, Value.str (Str.ofString "EightDotThree.as_bytes") 394, Value.str (Str.ofString "/claim/cut.py") 395, Value.int 65 0, Value.int 1 0, Value.int 0 0, Value.int 0 0, Value.int 3 0, Value.ref 128, Value.bool true, Value.int 181 0, Value.ref 129, Value.none, Value.ref 130, Value.ref 131, Value.ref 132, Value.int 397 0, Value.int 65 0, Value.str (Str.ofString "/claim/cut.py") 398] }) ::
  (nat_lit 134, fnO (inAt 11 4) (Value.type "function") (none) (#[]) (Str.ofString "EightDotThree.as_bytes") (3) [] (Value.none) (Value.none) (Value.none) (Value.str (Str.ofString "pyfatfs.EightDotThree") 341) (none) (Value.ref 133) (Value.none) (0)) ::
  (nat_lit 135, { cls := Value.type "tuple", data := Data.seq #[] }) ::
  (nat_lit 137, { cls := Value.type "tuple", data := Data.seq #[Value.str (Str.ofString "self") 403] }) ::
  (nat_lit 138, { cls := Value.type "tuple", data := Data.seq #[] }) ::
  (nat_lit 140, { cls := Value.type "code", data := Data.fields #[Value.str (Str.ofString "get_unpadded_filename") 400, Value.str (Str.ofString "EightDotThree.get_unpadded_filename") 401, Value.str (Str.ofString "/claim/cut.py") 402, Value.int 68 0, Value.int 1 0, Value.int 0 0, Value.int 0 0, Value.int 3 0, Value.ref 135, Value.bool true, Value.int 181 0, Value.ref 136, Value.none, Value.ref 137, Value.ref 138, Value.ref 139, Value.int 404 0, Value.int 68 0, Value.str (Str.ofString "/claim/cut.py") 405] }) ::
  (nat_lit 141, fnO (inAt 11 5) (Value.type "function") (none) (#[]) (Str.ofString "EightDotThree.get_unpadded_filename") (3) [] (Value.none) (Value.none) (Value.none) (Value.str (Str.ofString "pyfatfs.EightDotThree") 341) (none) (Value.ref 140) (Value.none) (0)) ::
  (nat_lit 142, { cls := Value.type "tuple", data := Data.seq #[] }) ::
  (nat_lit 144, { cls := Value.type "tuple", data := Data.seq #[Value.str (Str.ofString "name") 410] }) ::
  (nat_lit 145, { cls := Value.type "tuple", data := Data.seq #[] }) ::
  (nat_lit 147, { cls := Value.type "code", data := Data.fields #[Value.str (Str.ofString "_raise_8dot3_nonconformant") 407, Value.str (Str.ofString "EightDotThree._raise_8dot3_nonconformant") 408, Value.str (Str.ofString "/claim/cut.py") 409, Value.int 72 0, Value.int 1 0, Value.int 0 0, Value.int 0 0, Value.int 3 0, Value.ref 142, Value.bool true, Value.int 181 0, Value.ref 143, Value.none, Value.ref 144, Value.ref 145, Value.ref 146, Value.int 411 0, Value.int 72 0, Value.str (Str.ofString "/claim/cut.py") 412] }) ::
  (nat_lit 148, fnO (inAt 11 6) (Value.type "function") (none) (#[]) (Str.ofString "EightDotThree._raise_8dot3_nonconformant") (3) [] (Value.none) (Value.none) (Value.none) (Value.str (Str.ofString "pyfatfs.EightDotThree") 341) (some 151) (Value.ref 147) (Value.none) (0)) ::
  (nat_lit 149, { cls := Value.type "dict", data := Data.dict #[{ hash := PyData.keyHash P (Str.ofString "__module__"), key := Value.str (Str.ofString "__module__") 414, val := Value.str (Str.ofString "pyfatfs.EightDotThree") 341 }, { hash := PyData.keyHash P (Str.ofString "__name__"), key := Value.str (Str.ofString "__name__") 417, val := Value.str (Str.ofString "_raise_8dot3_nonconformant") 416 }, { hash := PyData.keyHash P (Str.ofString "__qualname__"), key := Value.str (Str.ofString "__qualname__") 420, val := Value.str (Str.ofString "EightDotThree._raise_8dot3_nonconformant") 419 }, { hash := PyData.keyHash P (Str.ofString "__doc__"), key := Value.str (Str.ofString "__doc__") 422, val := Value.none }, { hash := PyData.keyHash P (Str.ofString "__annotations__"), key := Value.str (Str.ofString "__annotations__") 424, val := Value.ref 151 }] 5 }) ::
  (nat_lit 150, { cls := Value.type "staticmethod", dict := some 149, data := Data.fields #[Value.ref 148, Value.bool false] }) ::
  (nat_lit 151, { cls := Value.type "dict", data := Data.dict #[] }) ::
  (nat_lit 152, { cls := Value.type "tuple", data := Data.seq #[] }) ::
  (nat_lit 154, { cls := Value.type "tuple", data := Data.seq #[Value.str (Str.ofString "self") 429, Value.str (Str.ofString "name") 430] }) ::
  (nat_lit 155, { cls := Value.type "tuple", data := Data.seq #[] }) ::
  (nat_lit 157, { cls := Value.type "code", data := Data.fields #[Value.str (Str.ofString "_set_name") 426, Value.str (Str.ofString "EightDotThree._set_name") 427, Value.str (Str.ofString "/claim/cut.py") 428, Value.int 76 0, Value.int 2 0, Value.int 0 0, Value.int 0 0, Value.int 3 0, Value.ref 152, Value.bool true, Value.int 181 0, Value.ref 153, Value.none, Value.ref 154, Value.ref 155, Value.ref 156, Value.int 431 0, Value.int 76 0, Value.str (Str.ofString "/claim/cut.py") 432] }) ::
  (nat_lit 158, fnO (inAt 11 7) (Value.type "function") (none) (#[]) (Str.ofString "EightDotThree._set_name") (3) [] (Value.none) (Value.none) (Value.none) (Value.str (Str.ofString "pyfatfs.EightDotThree") 341) (none) (Value.ref 157) (Value.none) (0)) ::
  (nat_lit 159, { cls := Value.type "tuple", data := Data.seq #[] }) ::
  (nat_lit 161, { cls := Value.type "tuple", data := Data.seq #[Value.str (Str.ofString "self") 437, Value.str (Str.ofString "name") 438] }) ::
  (nat_lit 162, { cls := Value.type "tuple", data := Data.seq #[] }) ::
  (nat_lit 164, { cls := Value.type "code", data := Data.fields #[Value.str (Str.ofString "set_byte_name") 434, Value.str (Str.ofString "EightDotThree.set_byte_name") 435, Value.str (Str.ofString "/claim/cut.py") 436, Value.int 82 0, Value.int 2 0, Value.int 0 0, Value.int 0 0, Value.int 3 0, Value.ref 159, Value.bool true, Value.int 181 0, Value.ref 160, Value.none, Value.ref 161, Value.ref 162, Value.ref 163, Value.int 439 0, Value.int 82 0, Value.str (Str.ofString "/claim/cut.py") 440] }) ::
  (nat_lit 165, fnO (inAt 11 8) (Value.type "function") (none) (#[]) (Str.ofString "EightDotThree.set_byte_name") (3) [] (Value.none) (Value.none) (Value.none) (Value.str (Str.ofString "pyfatfs.EightDotThree") 341) (none) (Value.ref 164) (Value.none) (0)) ::
  (nat_lit 166, { cls := Value.type "tuple", data := Data.seq #[] }) ::
  (nat_lit 168, { cls := Value.type "tuple", data := Data.seq #[Value.str (Str.ofString "self") 445, Value.str (Str.ofString "name") 446] }) ::
  (nat_lit 169, { cls := Value.type "tuple", data := Data.seq #[] }) ::
  (nat_lit 171, { cls := Value.type "code", data := Data.fields #[Value.str (Str.ofString "set_str_name") 442, Value.str (Str.ofString "EightDotThree.set_str_name") 443, Value.str (Str.ofString "/claim/cut.py") 444, Value.int 92 0, Value.int 2 0, Value.int 0 0, Value.int 0 0, Value.int 3 0, Value.ref 166, Value.bool true, Value.int 181 0, Value.ref 167, Value.none, Value.ref 168, Value.ref 169, Value.ref 170, Value.int 447 0, Value.int 92 0, Value.str (Str.ofString "/claim/cut.py") 448] }) ::
  (nat_lit 172, fnO (inAt 11 9) (Value.type "function") (none) (#[]) (Str.ofString "EightDotThree.set_str_name") (3) [] (Value.none) (Value.none) (Value.none) (Value.str (Str.ofString "pyfatfs.EightDotThree") 341) (none) (Value.ref 171) (Value.none) (0)) ::
  (nat_lit 173, { cls := Value.type "tuple", data := Data.seq #[] }) ::
  (nat_lit 175, { cls := Value.type "tuple", data := Data.seq #[Value.str (Str.ofString "self") 453, Value.str (Str.ofString "chksum") 454, Value.str (Str.ofString "c") 455] }) ::
  (nat_lit 176, { cls := Value.type "tuple", data := Data.seq #[] }) ::
  (nat_lit 178, { cls := Value.type "code", data := Data.fields #[Value.str (Str.ofString "checksum") 450, Value.str (Str.ofString "EightDotThree.checksum") 451, Value.str (Str.ofString "/claim/cut.py") 452, Value.int 103 0, Value.int 1 0, Value.int 0 0, Value.int 0 0, Value.int 3 0, Value.ref 173, Value.bool true, Value.int 181 0, Value.ref 174, Value.none, Value.ref 175, Value.ref 176, Value.ref 177, Value.int 456 0, Value.int 103 0, Value.str (Str.ofString "/claim/cut.py") 457] }) ::
  (nat_lit 179, fnO (inAt 11 10) (Value.type "function") (none) (#[]) (Str.ofString "EightDotThree.checksum") (3) [] (Value.none) (Value.none) (Value.none) (Value.str (Str.ofString "pyfatfs.EightDotThree") 341) (none) (Value.ref 178) (Value.none) (0)) ::
  (nat_lit 180, { cls := Value.type "tuple", data := Data.seq #[] }) ::
  (nat_lit 182, { cls := Value.type "tuple", data := Data.seq #[Value.str (Str.ofString "name") 462, Value.str (Str.ofString "encoding") 463, Value.str (Str.ofString "c") 464] }) ::
  (nat_lit 183, { cls := Value.type "tuple", data := Data.seq #[] }) ::
  (nat_lit 185, { cls := Value.type "code", data := Data.fields #[Value.str (Str.ofString "_check_characters") 459, Value.str (Str.ofString "EightDotThree._check_characters") 460, Value.str (Str.ofString "/claim/cut.py") 461, Value.int 111 0, Value.int 2 0, Value.int 0 0, Value.int 0 0, Value.int 3 0, Value.ref 180, Value.bool true, Value.int 181 0, Value.ref 181, Value.none, Value.ref 182, Value.ref 183, Value.ref 184, Value.int 465 0, Value.int 111 0, Value.str (Str.ofString "/claim/cut.py") 466] }) ::
  (nat_lit 186, fnO (inAt 11 11) (Value.type "function") (none) (#[]) (Str.ofString "EightDotThree._check_characters") (3) [] (Value.none) (Value.none) (Value.none) (Value.str (Str.ofString "pyfatfs.EightDotThree") 341) (some 189) (Value.ref 185) (Value.none) (0)) ::
  (nat_lit 187, { cls := Value.type "dict", data := Data.dict #[{ hash := PyData.keyHash P (Str.ofString "__module__"), key := Value.str (Str.ofString "__module__") 468, val := Value.str (Str.ofString "pyfatfs.EightDotThree") 341 }, { hash := PyData.keyHash P (Str.ofString "__name__"), key := Value.str (Str.ofString "__name__") 471, val := Value.str (Str.ofString "_check_characters") 470 }, { hash := PyData.keyHash P (Str.ofString "__qualname__"), key := Value.str (Str.ofString "__qualname__") 474, val := Value.str (Str.ofString "EightDotThree._check_characters") 473 }, { hash := PyData.keyHash P (Str.ofString "__doc__"), key := Value.str (Str.ofString "__doc__") 476, val := Value.none }, { hash := PyData.keyHash P (Str.ofString "__annotations__"), key := Value.str (Str.ofString "__annotations__") 478, val := Value.ref 189 }] 5 }) ::
  (nat_lit 188, { cls := Value.type "staticmethod", dict := some 187, data := Data.fields #[Value.ref 186, Value.bool false] }) ::
  (nat_lit 189, { cls := Value.type "dict", data := Data.dict #[] }) ::
  (nat_lit 190, { cls := Value.type "tuple", data := Data.seq #[Value.str (Str.ofString "latin-1") 310] }) ::
  (nat_lit 191, { cls := Value.type "tuple", data := Data.seq #[] }) ::
  (nat_lit 193, { cls := Value.type "tuple", data := Data.seq #[Value.str (Str.ofString "entry_name") 483, Value.str (Str.ofString "encoding") 484, Value.str (Str.ofString "root") 485, Value.str (Str.ofString "ext") 486, Value.str (Str.ofString "i") 487] }) ::
  (nat_lit 194, { cls := Value.type "tuple", data := Data.seq #[] }) ::
  (nat_lit 196, { cls := Value.type "code", data := Data.fields #[Value.str (Str.ofString "is_8dot3_conform") 480, Value.str (Str.ofString "EightDotThree.is_8dot3_conform") 481, Value.str (Str.ofString "/claim/cut.py") 482, Value.int 117 0, Value.int 2 0, Value.int 0 0, Value.int 0 0, Value.int 3 0, Value.ref 191, Value.bool true, Value.int 181 0, Value.ref 192, Value.none, Value.ref 193, Value.ref 194, Value.ref 195, Value.int 488 0, Value.int 117 0, Value.str (Str.ofString "/claim/cut.py") 489] }) ::
  (nat_lit 197, fnO (inAt 11 12) (Value.type "function") (none) (#[]) (Str.ofString "EightDotThree.is_8dot3_conform") (3) [] (Value.ref 190) (Value.none) (Value.none) (Value.str (Str.ofString "pyfatfs.EightDotThree") 341) (some 200) (Value.ref 196) (Value.none) (0)) ::
  (nat_lit 198, { cls := Value.type "dict", data := Data.dict #[{ hash := PyData.keyHash P (Str.ofString "__module__"), key := Value.str (Str.ofString "__module__") 491, val := Value.str (Str.ofString "pyfatfs.EightDotThree") 341 }, { hash := PyData.keyHash P (Str.ofString "__name__"), key := Value.str (Str.ofString "__name__") 494, val := Value.str (Str.ofString "is_8dot3_conform") 493 }, { hash := PyData.keyHash P (Str.ofString "__qualname__"), key := Value.str (Str.ofString "__qualname__") 497, val := Value.str (Str.ofString "EightDotThree.is_8dot3_conform") 496 }, { hash := PyData.keyHash P (Str.ofString "__doc__"), key := Value.str (Str.ofString "__doc__") 499, val := Value.none }, { hash := PyData.keyHash P (Str.ofString "__annotations__"), key := Value.str (Str.ofString "__annotations__") 501, val := Value.ref 200 }] 5 }) ::
  (nat_lit 199, { cls := Value.type "staticmethod", dict := some 198, data := Data.fields #[Value.ref 197, Value.bool false] }) ::
  (nat_lit 200, { cls := Value.type "dict", data := Data.dict #[] }) ::
  (nat_lit 201, { cls := Value.type "tuple", data := Data.seq #[] }) ::
  (nat_lit 203, { cls := Value.type "tuple", data := Data.seq #[Value.str (Str.ofString "name") 506, Value.str (Str.ofString "root") 507, Value.str (Str.ofString "ext") 508] }) ::
  (nat_lit 204, { cls := Value.type "tuple", data := Data.seq #[] }) ::
  (nat_lit 206, { cls := Value.type "code", data := Data.fields #[Value.str (Str.ofString "_pad_8dot3_name") 503, Value.str (Str.ofString "EightDotThree._pad_8dot3_name") 504, Value.str (Str.ofString "/claim/cut.py") 505, Value.int 134 0, Value.int 1 0, Value.int 0 0, Value.int 0 0, Value.int 3 0, Value.ref 201, Value.bool true, Value.int 181 0, Value.ref 202, Value.none, Value.ref 203, Value.ref 204, Value.ref 205, Value.int 509 0, Value.int 134 0, Value.str (Str.ofString "/claim/cut.py") 510] }) ::
  (nat_lit 207, fnO (inAt 11 13) (Value.type "function") (none) (#[]) (Str.ofString "EightDotThree._pad_8dot3_name") (3) [] (Value.none) (Value.none) (Value.none) (Value.str (Str.ofString "pyfatfs.EightDotThree") 341) (some 210) (Value.ref 206) (Value.none) (0)) ::
  (nat_lit 208, { cls := Value.type "dict", data := Data.dict #[{ hash := PyData.keyHash P (Str.ofString "__module__"), key := Value.str (Str.ofString "__module__") 512, val := Value.str (Str.ofString "pyfatfs.EightDotThree") 341 }, { hash := PyData.keyHash P (Str.ofString "__name__"), key := Value.str (Str.ofString "__name__") 515, val := Value.str (Str.ofString "_pad_8dot3_name") 514 }, { hash := PyData.keyHash P (Str.ofString "__qualname__"), key := Value.str (Str.ofString "__qualname__") 518, val := Value.str (Str.ofString "EightDotThree._pad_8dot3_name") 517 }, { hash := PyData.keyHash P (Str.ofString "__doc__"), key := Value.str (Str.ofString "__doc__") 520, val := Value.none }, { hash := PyData.keyHash P (Str.ofString "__annotations__"), key := Value.str (Str.ofString "__annotations__") 522, val := Value.ref 210 }] 5 }) ::
  (nat_lit 209, { cls := Value.type "staticmethod", dict := some 208, data := Data.fields #[Value.ref 207, Value.bool false] }) ::
  (nat_lit 210, { cls := Value.type "dict", data := Data.dict #[] }) ::
  (nat_lit 211, { cls := Value.type "tuple", data := Data.seq #[] }) ::
  (nat_lit 213, { cls := Value.type "tuple", data := Data.seq #[Value.str (Str.ofString "dir_name") 527, Value.str (Str.ofString "parent_dir_entry") 528] }) ::
  (nat_lit 214, { cls := Value.type "tuple", data := Data.seq #[] }) ::
  (nat_lit 216, { cls := Value.type "code", data := Data.fields #[Value.str (Str.ofString "make_8dot3_name") 524, Value.str (Str.ofString "EightDotThree.make_8dot3_name") 525, Value.str (Str.ofString "/claim/cut.py") 526, Value.int 141 0, Value.int 2 0, Value.int 0 0, Value.int 0 0, Value.int 3 0, Value.ref 211, Value.bool true, Value.int 181 0, Value.ref 212, Value.none, Value.ref 213, Value.ref 214, Value.ref 215, Value.int 529 0, Value.int 141 0, Value.str (Str.ofString "/claim/cut.py") 530] }) ::
  (nat_lit 217, fnO (inAt 11 14) (Value.type "function") (none) (#[]) (Str.ofString "EightDotThree.make_8dot3_name") (3) [] (Value.none) (Value.none) (Value.none) (Value.str (Str.ofString "pyfatfs.EightDotThree") 341) (some 220) (Value.ref 216) (Value.none) (0)) ::
  (nat_lit 218, { cls := Value.type "dict", data := Data.dict #[{ hash := PyData.keyHash P (Str.ofString "__module__"), key := Value.str (Str.ofString "__module__") 532, val := Value.str (Str.ofString "pyfatfs.EightDotThree") 341 }, { hash := PyData.keyHash P (Str.ofString "__name__"), key := Value.str (Str.ofString "__name__") 535, val := Value.str (Str.ofString "make_8dot3_name") 534 }, { hash := PyData.keyHash P (Str.ofString "__qualname__"), key := Value.str (Str.ofString "__qualname__") 538, val := Value.str (Str.ofString "EightDotThree.make_8dot3_name") 537 }, { hash := PyData.keyHash P (Str.ofString "__doc__"), key := Value.str (Str.ofString "__doc__") 540, val := Value.none }, { hash := PyData.keyHash P (Str.ofString "__annotations__"), key := Value.str (Str.ofString "__annotations__") 542, val := Value.ref 220 }] 5 }) ::
  (nat_lit 219, { cls := Value.type "staticmethod", dict := some 218, data := Data.fields #[Value.ref 217, Value.bool false] }) ::
  (nat_lit 220, { cls := Value.type "dict", data := Data.dict #[] }) ::
  (nat_lit 221, { cls := Value.type "tuple", data := Data.seq #[Value.str (Str.ofString "encoding") 544, Value.str (Str.ofString "initialized") 545, Value.str (Str.ofString "name") 546] }) ::
  (nat_lit 222, { cls := Value.type "dict", data := Data.dict #[{ hash := PyData.keyHash P (Str.ofString "__module__"), key := Value.str (Str.ofString "__module__") 350, val := Value.str (Str.ofString "pyfatfs.EightDotThree") 341 }, { hash := PyData.keyHash P (Str.ofString "__firstlineno__"), key := Value.str (Str.ofString "__firstlineno__") 354, val := Value.int 47 353 }, { hash := PyData.keyHash P (Str.ofString "SFN_LENGTH"), key := Value.str (Str.ofString "SFN_LENGTH") 356, val := Value.int 11 355 }, { hash := PyData.keyHash P (Str.ofString "INVALID_CHARACTERS"), key := Value.str (Str.ofString "INVALID_CHARACTERS") 373, val := Value.ref 112 }, { hash := PyData.keyHash P (Str.ofString "__init__"), key := Value.str (Str.ofString "__init__") 381, val := Value.ref 120 }, { hash := PyData.keyHash P (Str.ofString "as_text"), key := Value.str (Str.ofString "as_text") 392, val := Value.ref 127 }, { hash := PyData.keyHash P (Str.ofString "as_bytes"), key := Value.str (Str.ofString "as_bytes") 399, val := Value.ref 134 }, { hash := PyData.keyHash P (Str.ofString "get_unpadded_filename"), key := Value.str (Str.ofString "get_unpadded_filename") 406, val := Value.ref 141 }, { hash := PyData.keyHash P (Str.ofString "_raise_8dot3_nonconformant"), key := Value.str (Str.ofString "_raise_8dot3_nonconformant") 425, val := Value.ref 150 }, { hash := PyData.keyHash P (Str.ofString "_set_name"), key := Value.str (Str.ofString "_set_name") 433, val := Value.ref 158 }, { hash := PyData.keyHash P (Str.ofString "set_byte_name"), key := Value.str (Str.ofString "set_byte_name") 441, val := Value.ref 165 }, { hash := PyData.keyHash P (Str.ofString "set_str_name"), key := Value.str (Str.ofString "set_str_name") 449, val := Value.ref 172 }, { hash := PyData.keyHash P (Str.ofString "checksum"), key := Value.str (Str.ofString "checksum") 458, val := Value.ref 179 }, { hash := PyData.keyHash P (Str.ofString "_check_characters"), key := Value.str (Str.ofString "_check_characters") 479, val := Value.ref 188 }, { hash := PyData.keyHash P (Str.ofString "is_8dot3_conform"), key := Value.str (Str.ofString "is_8dot3_conform") 502, val := Value.ref 199 }, { hash := PyData.keyHash P (Str.ofString "_pad_8dot3_name"), key := Value.str (Str.ofString "_pad_8dot3_name") 523, val := Value.ref 209 }, { hash := PyData.keyHash P (Str.ofString "make_8dot3_name"), key := Value.str (Str.ofString "make_8dot3_name") 543, val := Value.ref 219 }, { hash := PyData.keyHash P (Str.ofString "__static_attributes__"), key := Value.str (Str.ofString "__static_attributes__") 547, val := Value.ref 221 }, { hash := PyData.keyHash P (Str.ofString "__dict__"), key := Value.str (Str.ofString "__dict__") 549, val := Value.ref 224 }, { hash := PyData.keyHash P (Str.ofString "__weakref__"), key := Value.str (Str.ofString "__weakref__") 551, val := Value.ref 225 }, { hash := PyData.keyHash P (Str.ofString "__doc__"), key := Value.str (Str.ofString "__doc__") 552, val := Value.none }] 4 }) ::
  (nat_lit 223, { cls := Value.type "type", data := Data.cls { name := Str.ofString "EightDotThree", bases := [Value.type "object"], mro := [Value.ref 223, Value.type "object"], ns := 222, qualname := Str.ofString "EightDotThree" }, slots := #[none, none, some (Value.str (Str.ofString "EightDotThree") 343), some (Value.str (Str.ofString "EightDotThree") 351), some (Value.builtin "object.__new__"), some (Value.bool true)] }) ::
  (nat_lit 224, { cls := Value.type "getset_descriptor", data := Data.fields #[Value.str (Str.ofString "__dict__") 548, Value.ref 223, Value.builtin "function.__dict__", Value.builtin "function.__dict__#set"] }) ::
  (nat_lit 225, { cls := Value.type "getset_descriptor", data := Data.fields #[Value.str (Str.ofString "__weakref__") 550, Value.ref 223, Value.builtin "ExceptionGroup.__weakref__", Value.none] }) ::
  (nat_lit 228, { cls := Value.type "tuple", data := Data.seq #[] }) ::
  (nat_lit 230, { cls := Value.type "tuple", data := Data.seq #[Value.str (Str.ofString "box") 564, Value.str (Str.ofString "many") 565, Value.str (Str.ofString "found") 566] }) ::
  (nat_lit 231, { cls := Value.type "tuple", data := Data.seq #[] }) ::
  (nat_lit 233, { cls := Value.type "code", data := Data.fields #[Value.str (Str.ofString "_law_take") 561, Value.str (Str.ofString "_law_take") 562, Value.str (Str.ofString "/claim/cut.py") 563, Value.int 147 0, Value.int 2 0, Value.int 0 0, Value.int 0 0, Value.int 3 0, Value.ref 228, Value.bool true, Value.int 181 0, Value.ref 229, Value.none, Value.ref 230, Value.ref 231, Value.ref 232, Value.int 567 0, Value.int 147 0, Value.str (Str.ofString "/claim/cut.py") 568] }) ::
  (nat_lit 234, fnO (stAt 15) (Value.type "function") (none) (#[]) (Str.ofString "_law_take") (3) [] (Value.none) (Value.none) (Value.none) (Value.str (Str.ofString "law_kx0068_01") 555) (none) (Value.ref 233) (Value.none) (0)) ::
  (nat_lit 235, { cls := Value.type "tuple", data := Data.seq #[] }) ::
  (nat_lit 237, { cls := Value.type "tuple", data := Data.seq #[Value.str (Str.ofString "box") 573, Value.str (Str.ofString "size") 574, Value.str (Str.ofString "plain") 575, Value.str (Str.ofString "every") 576, Value.str (Str.ofString "text") 577, Value.str (Str.ofString "k") 578] }) ::
  (nat_lit 238, { cls := Value.type "tuple", data := Data.seq #[] }) ::
  (nat_lit 240, { cls := Value.type "code", data := Data.fields #[Value.str (Str.ofString "_law_signs") 570, Value.str (Str.ofString "_law_signs") 571, Value.str (Str.ofString "/claim/cut.py") 572, Value.int 151 0, Value.int 3 0, Value.int 0 0, Value.int 0 0, Value.int 3 0, Value.ref 235, Value.bool true, Value.int 181 0, Value.ref 236, Value.none, Value.ref 237, Value.ref 238, Value.ref 239, Value.int 579 0, Value.int 151 0, Value.str (Str.ofString "/claim/cut.py") 580] }) ::
  (nat_lit 241, fnO (stAt 16) (Value.type "function") (none) (#[]) (Str.ofString "_law_signs") (3) [] (Value.none) (Value.none) (Value.none) (Value.str (Str.ofString "law_kx0068_01") 555) (none) (Value.ref 240) (Value.none) (0)) ::
  (nat_lit 242, { cls := Value.type "tuple", data := Data.seq #[] }) ::
  (nat_lit 244, { cls := Value.type "tuple", data := Data.seq #[Value.str (Str.ofString "box") 585, Value.str (Str.ofString "base") 586, Value.str (Str.ofString "behind") 587, Value.str (Str.ofString "text") 588] }) ::
  (nat_lit 245, { cls := Value.type "tuple", data := Data.seq #[] }) ::
  (nat_lit 247, { cls := Value.type "code", data := Data.fields #[Value.str (Str.ofString "_law_text") 582, Value.str (Str.ofString "_law_text") 583, Value.str (Str.ofString "/claim/cut.py") 584, Value.int 160 0, Value.int 1 0, Value.int 0 0, Value.int 0 0, Value.int 3 0, Value.ref 242, Value.bool true, Value.int 181 0, Value.ref 243, Value.none, Value.ref 244, Value.ref 245, Value.ref 246, Value.int 589 0, Value.int 160 0, Value.str (Str.ofString "/claim/cut.py") 590] }) ::
  (nat_lit 248, fnO (stAt 17) (Value.type "function") (none) (#[]) (Str.ofString "_law_text") (3) [] (Value.none) (Value.none) (Value.none) (Value.str (Str.ofString "law_kx0068_01") 555) (none) (Value.ref 247) (Value.none) (0)) ::
  (nat_lit 249, { cls := Value.type "tuple", data := Data.seq #[] }) ::
  (nat_lit 251, { cls := Value.type "tuple", data := Data.seq #[Value.str (Str.ofString "box") 595, Value.str (Str.ofString "size") 596, Value.str (Str.ofString "first") 597, Value.str (Str.ofString "row") 598, Value.str (Str.ofString "k") 599, Value.str (Str.ofString "n") 600] }) ::
  (nat_lit 252, { cls := Value.type "tuple", data := Data.seq #[] }) ::
  (nat_lit 254, { cls := Value.type "code", data := Data.fields #[Value.str (Str.ofString "_law_octets") 592, Value.str (Str.ofString "_law_octets") 593, Value.str (Str.ofString "/claim/cut.py") 594, Value.int 169 0, Value.int 1 0, Value.int 0 0, Value.int 0 0, Value.int 3 0, Value.ref 249, Value.bool true, Value.int 181 0, Value.ref 250, Value.none, Value.ref 251, Value.ref 252, Value.ref 253, Value.int 601 0, Value.int 169 0, Value.str (Str.ofString "/claim/cut.py") 602] }) ::
  (nat_lit 255, fnO (stAt 18) (Value.type "function") (none) (#[]) (Str.ofString "_law_octets") (3) [] (Value.none) (Value.none) (Value.none) (Value.str (Str.ofString "law_kx0068_01") 555) (none) (Value.ref 254) (Value.none) (0)) ::
  (nat_lit 256, { cls := Value.type "tuple", data := Data.seq #[] }) ::
  (nat_lit 259, { cls := Value.type "code", data := Data.fields #[Value.str (Str.ofString "_law_parts") 604, Value.str (Str.ofString "_law_parts") 605, Value.str (Str.ofString "/claim/cut.py") 606, Value.int 181 0, Value.int 1 0, Value.int 0 0, Value.int 0 0, Value.int 3 0, Value.ref 256, Value.bool true, Value.int 181 0, Value.ref 257, Value.none, Value.none, Value.none, Value.ref 258, Value.int 607 0, Value.int 181 0, Value.str (Str.ofString "/claim/cut.py") 608] }) ::
  (nat_lit 260, fnO (stAt 19) (Value.type "function") (none) (#[]) (Str.ofString "_law_parts") (3) [] (Value.none) (Value.none) (Value.none) (Value.str (Str.ofString "law_kx0068_01") 555) (none) (Value.ref 259) (Value.none) (0)) ::
  (nat_lit 261, { cls := Value.type "tuple", data := Data.seq #[] }) ::
  (nat_lit 263, { cls := Value.type "tuple", data := Data.seq #[Value.str (Str.ofString "text") 613, Value.str (Str.ofString "base") 614, Value.str (Str.ofString "behind") 615, Value.str (Str.ofString "sign") 616] }) ::
  (nat_lit 264, { cls := Value.type "tuple", data := Data.seq #[] }) ::
  (nat_lit 266, { cls := Value.type "code", data := Data.fields #[Value.str (Str.ofString "_law_conform") 610, Value.str (Str.ofString "_law_conform") 611, Value.str (Str.ofString "/claim/cut.py") 612, Value.int 189 0, Value.int 1 0, Value.int 0 0, Value.int 0 0, Value.int 3 0, Value.ref 261, Value.bool true, Value.int 181 0, Value.ref 262, Value.none, Value.ref 263, Value.ref 264, Value.ref 265, Value.int 617 0, Value.int 189 0, Value.str (Str.ofString "/claim/cut.py") 618] }) ::
  (nat_lit 267, fnO (stAt 20) (Value.type "function") (none) (#[]) (Str.ofString "_law_conform") (3) [] (Value.none) (Value.none) (Value.none) (Value.str (Str.ofString "law_kx0068_01") 555) (none) (Value.ref 266) (Value.none) (0)) ::
  (nat_lit 268, { cls := Value.type "tuple", data := Data.seq #[] }) ::
  (nat_lit 270, { cls := Value.type "tuple", data := Data.seq #[Value.str (Str.ofString "signs") 623] }) ::
  (nat_lit 271, { cls := Value.type "tuple", data := Data.seq #[] }) ::
  (nat_lit 273, { cls := Value.type "code", data := Data.fields #[Value.str (Str.ofString "_law_bare") 620, Value.str (Str.ofString "_law_bare") 621, Value.str (Str.ofString "/claim/cut.py") 622, Value.int 197 0, Value.int 1 0, Value.int 0 0, Value.int 0 0, Value.int 3 0, Value.ref 268, Value.bool true, Value.int 181 0, Value.ref 269, Value.none, Value.ref 270, Value.ref 271, Value.ref 272, Value.int 624 0, Value.int 197 0, Value.str (Str.ofString "/claim/cut.py") 625] }) ::
  (nat_lit 274, fnO (stAt 21) (Value.type "function") (none) (#[]) (Str.ofString "_law_bare") (3) [] (Value.none) (Value.none) (Value.none) (Value.str (Str.ofString "law_kx0068_01") 555) (none) (Value.ref 273) (Value.none) (0)) ::
  (nat_lit 275, { cls := Value.type "tuple", data := Data.seq #[] }) ::
  (nat_lit 278, { cls := Value.type "code", data := Data.fields #[Value.str (Str.ofString "_law_laid") 627, Value.str (Str.ofString "_law_laid") 628, Value.str (Str.ofString "/claim/cut.py") 629, Value.int 201 0, Value.int 1 0, Value.int 0 0, Value.int 0 0, Value.int 3 0, Value.ref 275, Value.bool true, Value.int 181 0, Value.ref 276, Value.none, Value.none, Value.none, Value.ref 277, Value.int 630 0, Value.int 201 0, Value.str (Str.ofString "/claim/cut.py") 631] }) ::
  (nat_lit 279, fnO (stAt 22) (Value.type "function") (none) (#[]) (Str.ofString "_law_laid") (3) [] (Value.none) (Value.none) (Value.none) (Value.str (Str.ofString "law_kx0068_01") 555) (none) (Value.ref 278) (Value.none) (0)) ::
  (nat_lit 280, { cls := Value.type "tuple", data := Data.seq #[] }) ::
  (nat_lit 283, { cls := Value.type "code", data := Data.fields #[Value.str (Str.ofString "_law_told") 633, Value.str (Str.ofString "_law_told") 634, Value.str (Str.ofString "/claim/cut.py") 635, Value.int 211 0, Value.int 1 0, Value.int 0 0, Value.int 0 0, Value.int 3 0, Value.ref 280, Value.bool true, Value.int 181 0, Value.ref 281, Value.none, Value.none, Value.none, Value.ref 282, Value.int 636 0, Value.int 211 0, Value.str (Str.ofString "/claim/cut.py") 637] }) ::
  (nat_lit 284, fnO (stAt 23) (Value.type "function") (none) (#[]) (Str.ofString "_law_told") (3) [] (Value.none) (Value.none) (Value.none) (Value.str (Str.ofString "law_kx0068_01") 555) (none) (Value.ref 283) (Value.none) (0)) ::
  (nat_lit 285, { cls := Value.type "tuple", data := Data.seq #[] }) ::
  (nat_lit 287, { cls := Value.type "tuple", data := Data.seq #[Value.str (Str.ofString "row") 642, Value.str (Str.ofString "bits") 643, Value.str (Str.ofString "value") 644, Value.str (Str.ofString "n") 645, Value.str (Str.ofString "bit") 646, Value.str (Str.ofString "left") 647, Value.str (Str.ofString "k") 648] }) ::
  (nat_lit 288, { cls := Value.type "tuple", data := Data.seq #[] }) ::
  (nat_lit 290, { cls := Value.type "code", data := Data.fields #[Value.str (Str.ofString "_law_sum") 639, Value.str (Str.ofString "_law_sum") 640, Value.str (Str.ofString "/claim/cut.py") 641, Value.int 215 0, Value.int 1 0, Value.int 0 0, Value.int 0 0, Value.int 3 0, Value.ref 285, Value.bool true, Value.int 181 0, Value.ref 286, Value.none, Value.ref 287, Value.ref 288, Value.ref 289, Value.int 649 0, Value.int 215 0, Value.str (Str.ofString "/claim/cut.py") 650] }) ::
  (nat_lit 291, fnO (stAt 24) (Value.type "function") (none) (#[]) (Str.ofString "_law_sum") (3) [] (Value.none) (Value.none) (Value.none) (Value.str (Str.ofString "law_kx0068_01") 555) (none) (Value.ref 290) (Value.none) (0)) ::
  (nat_lit 292, { cls := Value.type "tuple", data := Data.seq #[] }) ::
  (nat_lit 294, { cls := Value.type "tuple", data := Data.seq #[Value.str (Str.ofString "one") 655, Value.str (Str.ofString "octets") 656, Value.str (Str.ofString "value") 657, Value.str (Str.ofString "e") 658] }) ::
  (nat_lit 295, { cls := Value.type "tuple", data := Data.seq #[] }) ::
  (nat_lit 297, { cls := Value.type "code", data := Data.fields #[Value.str (Str.ofString "_law_set") 652, Value.str (Str.ofString "_law_set") 653, Value.str (Str.ofString "/claim/cut.py") 654, Value.int 229 0, Value.int 3 0, Value.int 0 0, Value.int 0 0, Value.int 3 0, Value.ref 292, Value.bool true, Value.int 181 0, Value.ref 293, Value.none, Value.ref 294, Value.ref 295, Value.ref 296, Value.int 659 0, Value.int 229 0, Value.str (Str.ofString "/claim/cut.py") 660] }) ::
  (nat_lit 298, fnO (stAt 25) (Value.type "function") (none) (#[]) (Str.ofString "_law_set") (3) [] (Value.none) (Value.none) (Value.none) (Value.str (Str.ofString "law_kx0068_01") 555) (none) (Value.ref 297) (Value.none) (0)) ::
  (nat_lit 299, { cls := Value.type "tuple", data := Data.seq #[] }) ::
  (nat_lit 301, { cls := Value.type "tuple", data := Data.seq #[Value.str (Str.ofString "one") 665, Value.str (Str.ofString "found") 666] }) ::
  (nat_lit 302, { cls := Value.type "tuple", data := Data.seq #[] }) ::
  (nat_lit 304, { cls := Value.type "code", data := Data.fields #[Value.str (Str.ofString "_law_bald") 662, Value.str (Str.ofString "_law_bald") 663, Value.str (Str.ofString "/claim/cut.py") 664, Value.int 244 0, Value.int 1 0, Value.int 0 0, Value.int 0 0, Value.int 3 0, Value.ref 299, Value.bool true, Value.int 181 0, Value.ref 300, Value.none, Value.ref 301, Value.ref 302, Value.ref 303, Value.int 667 0, Value.int 244 0, Value.str (Str.ofString "/claim/cut.py") 668] }) ::
  (nat_lit 305, fnO (stAt 26) (Value.type "function") (none) (#[]) (Str.ofString "_law_bald") (3) [] (Value.none) (Value.none) (Value.none) (Value.str (Str.ofString "law_kx0068_01") 555) (none) (Value.ref 304) (Value.none) (0)) ::
  (nat_lit 306, { cls := Value.type "tuple", data := Data.seq #[] }) ::
  (nat_lit 308, { cls := Value.type "tuple", data := Data.seq #[Value.str (Str.ofString "one") 673, Value.str (Str.ofString "row") 674, Value.str (Str.ofString "octets") 675] }) ::
  (nat_lit 309, { cls := Value.type "tuple", data := Data.seq #[] }) ::
  (nat_lit 311, { cls := Value.type "code", data := Data.fields #[Value.str (Str.ofString "_law_holds") 670, Value.str (Str.ofString "_law_holds") 671, Value.str (Str.ofString "/claim/cut.py") 672, Value.int 255 0, Value.int 2 0, Value.int 0 0, Value.int 0 0, Value.int 3 0, Value.ref 306, Value.bool true, Value.int 181 0, Value.ref 307, Value.none, Value.ref 308, Value.ref 309, Value.ref 310, Value.int 676 0, Value.int 255 0, Value.str (Str.ofString "/claim/cut.py") 677] }) ::
  (nat_lit 312, fnO (stAt 27) (Value.type "function") (none) (#[]) (Str.ofString "_law_holds") (3) [] (Value.none) (Value.none) (Value.none) (Value.str (Str.ofString "law_kx0068_01") 555) (none) (Value.ref 311) (Value.none) (0)) ::
  (nat_lit 313, { cls := Value.type "tuple", data := Data.seq #[] }) ::
  (nat_lit 315, { cls := Value.type "tuple", data := Data.seq #[Value.str (Str.ofString "script") 682, Value.str (Str.ofString "one") 683, Value.str (Str.ofString "other") 684, Value.str (Str.ofString "beside") 685, Value.str (Str.ofString "held") 686, Value.str (Str.ofString "number") 687, Value.str (Str.ofString "box") 688, Value.str (Str.ofString "kind") 689, Value.str (Str.ofString "text") 690, Value.str (Str.ofString "due") 691, Value.str (Str.ofString "told") 692, Value.str (Str.ofString "row") 693, Value.str (Str.ofString "octets") 694, Value.str (Str.ofString "bytewise") 695, Value.str (Str.ofString "value") 696] }) ::
  (nat_lit 316, { cls := Value.type "tuple", data := Data.seq #[] }) ::
  (nat_lit 318, { cls := Value.type "code", data := Data.fields #[Value.str (Str.ofString "law") 679, Value.str (Str.ofString "law") 680, Value.str (Str.ofString "/claim/cut.py") 681, Value.int 262 0, Value.int 1 0, Value.int 0 0, Value.int 0 0, Value.int 3 0, Value.ref 313, Value.bool true, Value.int 181 0, Value.ref 314, Value.none, Value.ref 315, Value.ref 316, Value.ref 317, Value.int 697 0, Value.int 262 0, Value.str (Str.ofString "/claim/cut.py") 698] }) ::
  (nat_lit 319, fnO (stAt 28) (Value.type "function") (none) (#[]) (Str.ofString "law") (3) [] (Value.none) (Value.none) (Value.none) (Value.str (Str.ofString "law_kx0068_01") 555) (none) (Value.ref 318) (Value.none) (0)) ::
  []

theorem fill : PySem.Challenge.rw_kx0068_01.Holds → hd.heap_39 = hd.heap_39 → True := by
  k_fill
  intros; trivial

local macro_rules | `(tactic| walk_at $s:str) => `(tactic| k_extra $s)

-- 03_base
theorem part03 : True := by
  w_top off
  trivial
noncomputable abbrev PR : Program := PySem.Challenge.rw_kx0068_01.row.prog
noncomputable abbrev LO : List Str := looseW hd.view_39 [Str.ofString "PyFATException", Str.ofString "errno", Str.ofString "EightDotThree"]
/-- where a def of ours stands when it calls -/
abbrev Ar (dp un : Nat) (env : Env) (outer : List Env) : Around := { handled := none, depth := dp, frames := some (env :: outer), guards := some [], units := un }
structure Cx (w : World) (mean : ExcName → Option Value) (mg mb : Str → Option Value) (k dp un : Nat) (env : Env) (outer : List Env) (A₀ : Around) (base h₀ : Heap) (L : Addr) : Prop where
  B : Below A₀ base outer h₀
  X : (hd.heap_39 w.params).In h₀
  T : Top hd.view_39 LO mean mg mb h₀
  hf : env.frame = some L
  hke : env.scope.kind = .function
  hd : dp + k < 900
  hu : un + 50 * k < 9000

section
variable {prog : Program} {w : World} {A : Around} {E : Value → Shared → Prop} {s : Shared} {env : Env} {h₀ : Heap} {x : Str} {body : List Stmt} {Q : Flow → Shared → Prop}
/-- a loop over anything that walks: σ is what turns, Led its ledger (its addresses stay), ps its names, stored the names that may hold anything -/
theorem loopW {σ : Type} {L : Addr} {I : Addr} {n : Nat} {Pi : Nat → Value → Prop} {St : Nat → Heap → Prop} {m₀ : Str → Option Value} (Led : σ → List (Addr × Obj)) (ps : σ → List (Str × Value)) (stored : List Str) (P : Nat → σ → Prop) (c₀ : σ)
    (hL : env.locals = L) (W : Walks prog w A I [I] [I] n Pi St) (hI : L ≠ I) (hI0 : h₀.get? I = none) (hIn : ∀ p ∈ Led c₀, p.1 ≠ I) (hst : St 0 s.heap)
    (F : Fr h₀ L s.heap m₀) (N : News h₀ L s.heap (Led c₀)) (hk : ∀ p ∈ ps c₀, m₀ p.1 = some p.2) (hp : P 0 c₀)
    (turn : ∀ (c : σ) (i : Nat) (v : Value) (u : Str → Option Value) h tk own, i < n → Pi i v → OwnOff own ((Led c₀).map (·.1)) → (Led c).map (·.1) = (Led c₀).map (·.1) → P i c →
      Fr h₀ L h (fun y => if y = x then some v else kstB (fun z => if stored.contains z then u z else m₀ z) (ps c) y) → News h₀ L h (Led c ++ own) →
      wpAny (model prog w) A (execs body env) (InvPostN h₀ L (KstS Led ps (fun c => (Led c).map (·.1) = (Led c₀).map (·.1)) x stored m₀ (fun _ => P (i + 1)) []) own ((Led c₀).map (·.1)) { s with heap := h, toks := tk } Q) E { s with heap := h, toks := tk })
    (done : ∀ (c : σ) (u : Str → Option Value) h tk, (Led c).map (·.1) = (Led c₀).map (·.1) → P n c → Fr h₀ L h (fun y => if y = x then u y else kstB (fun z => if stored.contains z then u z else m₀ z) (ps c) y) → News h₀ L h (Led c) → Q .next { s with heap := h, toks := tk }) :
    LoopAtV prog w A h₀ env x body Q E (.ref I) s := by
  subst hL
  refine loop_invN (fun i m nx => KstS Led ps (fun c => (Led c).map (·.1) = (Led c₀).map (·.1)) x stored m₀ (fun _ => P i) [] m nx) W ?_ ?_ ?_ ?_ hst F N ⟨c₀, rfl, rfl, hk, fun _ _ _ _ => rfl, hp⟩ ?_ ?_
  · intro hm; exact hI (List.mem_singleton.mp hm)
  · intro b hb; rw [List.mem_singleton.mp hb]; exact hI0
  · intro p hp hq; exact hIn p hp (List.mem_singleton.mp hq)
  · intro p hp hq; exact hIn p hp (List.mem_singleton.mp hq)
  · rintro i v m₁ nx h tk own hi hv _ hoff ⟨c, rfl, hf', h1, h2, hp'⟩ F₁ N₁
    exact turn c i v m₁ h tk own hi hv hoff hf' hp' (kst_fr h1 h2 F₁) N₁
  · rintro m₁ nx h tk ⟨c, rfl, hf', h1, h2, hp'⟩ F₁ N₁
    exact done c m₁ h tk hf' hp' (kst_frOut h1 h2 F₁) N₁
/-- a turn's end -/
theorem loopW_end {σ : Type} {Led : σ → List (Addr × Obj)} {ps : σ → List (Str × Value)} {Fc : σ → Prop} {stored : List Str} {m₀ : Str → Option Value} {P : List Int → σ → Prop} (c : σ) {L : Addr} {m' : Str → Option Value} {own news' : List (Addr × Obj)} {adr : List Addr} {s₁ : Shared} {h' : Heap} {tk : Nat}
    (F : Fr h₀ L h' m') (N : News h₀ L h' news') (hn : ∀ p ∈ Led c, p ∈ news') (ho : ∀ p ∈ own, p ∈ news') (ha : (Led c).map (·.1) = adr) (hf : Fc c) (hk : ∀ p ∈ ps c, m' p.1 = some p.2) (hr : ∀ z, z ≠ x → (∀ p ∈ ps c, z ≠ p.1) → stored.contains z = false → m' z = m₀ z) (hp : P [] c) :
    InvEndN h₀ L (KstS Led ps Fc x stored m₀ P []) own adr s₁ { s₁ with heap := h', toks := tk } :=
  ⟨h', tk, m', news', Led c, rfl, F, N, hn, ho, ha, c, rfl, hf, hk, hr, hp⟩
theorem loopW_end' {σ : Type} {Led : σ → List (Addr × Obj)} {ps : σ → List (Str × Value)} {Fc : σ → Prop} {stored : List Str} {m₀ : Str → Option Value} {P : List Int → σ → Prop} (ex : List (Addr × Obj)) (c : σ) {L : Addr} {m' : Str → Option Value} {own : List (Addr × Obj)} {adr : List Addr} {s₁ : Shared} {h' : Heap} {tk : Nat}
    (F : Fr h₀ L h' m') (N : News h₀ L h' (ex ++ (Led c ++ own))) (ha : (Led c).map (·.1) = adr) (hf : Fc c) (hk : ∀ p ∈ ps c, m' p.1 = some p.2) (hr : ∀ z, z ≠ x → (∀ p ∈ ps c, z ≠ p.1) → stored.contains z = false → m' z = m₀ z) (hp : P [] c) :
    InvEndN h₀ L (KstS Led ps Fc x stored m₀ P []) own adr s₁ { s₁ with heap := h', toks := tk } :=
  loopW_end c F N (fun _ hp => List.mem_append_right _ (List.mem_append_left _ hp)) (fun _ hp => List.mem_append_right _ (List.mem_append_right _ hp)) ha hf hk hr hp
/-- a range's iterator -/
theorem loopR {σ : Type} {L : Addr} {r : Addr} {a₀ b₀ : Int} {t₀ u₀ v₀ : Tok} {n : Nat} {m₀ : Str → Option Value} (Led : σ → List (Addr × Obj)) (ps : σ → List (Str × Value)) (stored : List Str) (P : Nat → σ → Prop) (c₀ : σ)
    (hL : env.locals = L) (hh : A.handled = none) (hr : IsRange s.heap r a₀ b₀ 1 t₀ u₀ v₀) (hsmall : Builtin.Range.small a₀ b₀ 1 = true) (hn : Builtin.Range.rangeSize a₀ b₀ 1 = (n : Int))
    (F : Fr h₀ L s.heap m₀) (N : News h₀ L s.heap (Led c₀)) (hk : ∀ p ∈ ps c₀, m₀ p.1 = some p.2) (hp : P 0 c₀)
    (turn : ∀ (c : σ) (i : Nat) (t : Tok) (u : Str → Option Value) h tk own, i < n → OwnOff own ((Led c₀).map (·.1)) → (Led c).map (·.1) = (Led c₀).map (·.1) → P i c →
      Fr h₀ L h (fun y => if y = x then some (.int (a₀ + (i : Int)) t) else kstB (fun z => if stored.contains z then u z else m₀ z) (ps c) y) → News h₀ L h (Led c ++ own) →
      wpAny (model prog w) A (execs body env) (InvPostN h₀ L (KstS Led ps (fun c => (Led c).map (·.1) = (Led c₀).map (·.1)) x stored m₀ (fun _ => P (i + 1)) []) own ((Led c₀).map (·.1)) { s with heap := h, toks := tk } Q) E { s with heap := h, toks := tk })
    (done : ∀ (c : σ) (u : Str → Option Value) h tk, (Led c).map (·.1) = (Led c₀).map (·.1) → P n c → Fr h₀ L h (fun y => if y = x then u y else kstB (fun z => if stored.contains z then u z else m₀ z) (ps c) y) → News h₀ L h (Led c) → Q .next { s with heap := h, toks := tk }) :
    wpAny (model prog w) A (pyIter (.ref r)) (fun it s₂ => LoopAtV prog w A h₀ env x body Q E it s₂) E s := by
  subst hL
  refine wpAny_pyIter_range hr hsmall ?_
  have W : Walks prog w A s.heap.objs.size [s.heap.objs.size] [s.heap.objs.size] n (fun i v => i < n ∧ ∃ t, v = .int (a₀ + i * 1) t)
      (fun i h => IsRangeIter h s.heap.objs.size (a₀ + (i : Nat) * 1) ((n : Int) - (i : Nat)) 1) := (Walks.range hh _ a₀ 1 n).bound
  refine loopW Led ps stored P c₀ rfl W (fun e => absurd F.ns.lt (e ▸ Nat.lt_irrefl _)) (next_is_new F) (fun p hp e => absurd (Heap.lt_size (N p hp).1) (e ▸ Nat.lt_irrefl _))
    (by show IsRangeIter _ _ _ _ _; rw [hn]; simpa using Heap.get?_push_size _ rfl) (F.push _) (fun p hp => ⟨Heap.get?_push_of_some _ (N p hp).1, (N p hp).2⟩) hk hp ?_ done
  rintro c i v u h tk own hi ⟨_, t, rfl⟩ hoff ha hp' F₁ N₁
  have e1 : a₀ + (i : Int) * 1 = a₀ + (i : Int) := by omega
  rw [e1] at F₁
  exact turn c i t u h tk own hi hoff ha hp' F₁ N₁
end

-- 04_tx
theorem part04 : True := by
  w_top off
  trivial
section
variable {prog : Program} {w : World} {A : Around} {E : Value → Shared → Prop} {s : Shared} {x y : Str} {t u : Tok} {value slice : Expr} {Q : Value → Shared → Prop}
theorem L_len (hx : x.cps.size ≤ 1000) (h : Q (.int (x.cps.size : Int) (s.toks + 1)) { s with toks := s.toks + 1 + 1 }) : wpAny (model prog w) A (call (.builtin "len") [.str x t]) Q E s :=
  PyProof.Rows.len_str (by show ¬ ((x.cps.size : Int)) ≥ 2 ^ 63; omega) h
theorem L_add (hx : x.cps.size ≤ 1000) (hy : y.cps.size ≤ 1000) (h : ∀ t' k, Q (.str (x ++ y) t') { s with toks := k }) : wpAny (model prog w) A (binaryOp .Add (.str x t) (.str y u)) Q E s :=
  PyProof.Rows.add_str h (by show x.cps.size + y.cps.size ≤ sizeLine; rw [sizeLine_eq]; omega)
theorem L_item {i : Int} (hx : x.cps.size ≤ 1000) (h0 : 0 ≤ i) (h1 : i < x.cps.size) (h : ∀ c, x.cps[i.toNat]? = some c → Q (.str ⟨#[c]⟩ s.toks) { s with toks := s.toks + 1 })
    (hs : subscripted slice false (.str x t) (.int i u) = operate [.str x t, .int i u] (getItem (.str x t) (.int i u)) := by with_unfolding_all rfl)
    (ht : ∀ r, letTemporaryGo value (.str x t) r = pure () := by intro _; with_unfolding_all rfl) :
    wpAny (model prog w) A (subscriptTail value slice (.str x t) (.int i u)) Q E s := by
  have hlt : i.toNat < x.cps.size := by omega
  refine KXi.item (n := x.cps.size) rfl (by omega) h1 (by omega) (fun _ => ?_) hs ht
  have e : Txt.item x i = ⟨#[x.cps[i.toNat]]⟩ := by
    unfold Txt.item Txt.charAt seqIndex?
    have hn : ¬ i < 0 := by omega
    simp [Str.length, hn, hlt, h0, h1]
  rw [e]
  exact h _ (by simp [hlt])
end
theorem sz_app {x y : Str} : (x ++ y).cps.size = x.cps.size + y.cps.size := by rw [Str.cps_append, Array.size_append]

-- 05_take
theorem part05 : True := by
  w_top off
  trivial
theorem words05a : True := by
  (k_with "my_enter" => (refine code_def (by k_asm) (by k_asm) (by k_asm) (by k_asm) (by k_asm) (by exact rfl) (by assumption) (by assumption) (by k_is) (by k_is) (by (show _ < 1000; dsimp only; omega)) (by exact BindsTo.of_eq rfl) (by exact locs rfl) ?_ (by exact rfl) (by exact rfl) (by exact rfl) (by decide); k_whole))
  trivial
theorem all_app {l l' : List (Addr × Obj)} {b : Addr} (h : ∀ p ∈ l, p.1 ≠ b) (h' : ∀ p ∈ l', p.1 ≠ b) : ∀ p ∈ l ++ l', p.1 ≠ b := fun p hp => (List.mem_append.mp hp).elim (h p) (h' p)
local macro_rules | `(tactic| k_all) => `(tactic| first | assumption | (refine all_app ?a ?b; (case a => k_all); (case b => k_all)))
-- a frame of ours, as the next call's caller
theorem words05b : True := by
  (k_with "my_cx" => exact ⟨by k_asm, by k_asm, by k_asm, by first | exact rfl | assumption, by first | exact rfl | assumption, by (dsimp only; omega), by (dsimp only; omega)⟩)
  trivial

theorem upd_out {d : Addr} {o o' : Obj} {l l' : List (Addr × Obj)} (U : Upd d o o' l l') : (d, o) ∈ l ∧ ∀ p ∈ l', p = (d, o') ∨ p ∈ l.filter (fun q => decide (q.1 ≠ d)) := by
  obtain ⟨pre, post, rfl, rfl, h1, h2⟩ := U.split
  refine ⟨List.mem_append_right _ (.head _), fun p hp => ?_⟩
  rcases List.mem_append.mp hp with h | h
  · exact .inr (List.mem_filter.mpr ⟨List.mem_append_left _ h, decide_eq_true (h1 p h)⟩)
  · rcases List.mem_cons.mp h with h | h
    · exact .inl h
    · exact .inr (List.mem_filter.mpr ⟨List.mem_append_right _ (.tail _ h), decide_eq_true (h2 p h)⟩)
/-- the box: a list of one int -/
abbrev boxO (x : Int) (t : Tok) : Obj := W.listOf #[.int x t] 0

section
variable {w : World} {mean : ExcName → Option Value} {mg mb : Str → Option Value} {dp un : Nat} {env : Env} {outer : List Env} {A₀ : Around} {base h₀ : Heap} {L : Addr} {m : Str → Option Value} {s : Shared} {Q E : Value → Shared → Prop}
theorem take_spec {b : Addr} {x many : Int} {t1 t2 : Tok} {news : List (Addr × Obj)}
  (C : Cx w mean mg mb 1 dp un env outer A₀ base h₀ L) (F : Fr h₀ L s.heap m)
  (N : News h₀ L s.heap ((b, boxO x t1) :: news)) (hb : ∀ p ∈ news, p.1 ≠ b) (hm : 0 < many) (hm2 : many < 1000)
  (ret : ∀ t h' tk' t1', Fr h₀ L h' m → News h₀ L h' ((b, boxO (x.fdiv many) t1') :: news) → Q (.int (x.fmod many) t) {s with heap := h', toks := tk'}) :
  wpAny (model PR w) (Ar dp un env outer) (call (.ref 234) [.ref b, .int many t2]) Q E s := by
  obtain ⟨B, X, T, hf, hke, hd, hu⟩ := C
  unfold PR
  refine wpAny_call ?_
  k_dflt walk_at "my_enter"
  intro g' L' h' FG' F' N' B' X' T'
  show wpAny _ _ (execs _ _) _ _ _
  k_fold
  k_steps
  exact ret _ _ _ _ (by k_asm) (by k_asm)
theorem take_call {b : Addr} {x many : Int} {t1 t2 : Tok} {news : List (Addr × Obj)} {news' : Int → Tok → List (Addr × Obj)}
  (C : Cx w mean mg mb 1 dp un env outer A₀ base h₀ L) (F : Fr h₀ L s.heap m) (N : News h₀ L s.heap news)
  (U : ∀ x' t', Upd b (boxO x t1) (boxO x' t') news (news' x' t')) (hx : 0 ≤ x) (hm : 0 < many) (hm2 : many < 1000)
  (ret : ∀ r t h' tk' x' t', 0 ≤ r → r < many → 0 ≤ x' → Fr h₀ L h' m → News h₀ L h' (news' x' t') → Q (.int r t) {s with heap := h', toks := tk'}) :
  wpAny (model PR w) (Ar dp un env outer) (call (.ref 234) [.ref b, .int many t2]) Q E s := by
  have hin := (upd_out (U 0 0)).1
  refine take_spec (news := news.filter (fun q => decide (q.1 ≠ b))) (x := x) (t1 := t1) C F (fun p hp => ?_) (fun p hp => of_decide_eq_true (List.mem_filter.mp hp).2) hm hm2 fun t h' tk' t1' F' N' => ?_
  · rcases List.mem_cons.mp hp with rfl | hp
    · exact N _ hin
    · exact N _ (List.mem_filter.mp hp).1
  · refine ret _ t h' tk' (x.fdiv many) t1' (Int.fmod_nonneg_of_pos _ hm) (Int.fmod_lt_of_pos _ hm) (Int.fdiv_nonneg hx (Int.le_of_lt hm)) F' fun p hp => ?_
    rcases (upd_out (U (x.fdiv many) t1')).2 p hp with rfl | h
    · exact N' _ (.head _)
    · exact N' _ (.tail _ h)
end
theorem words05c : True := by
  (k_with "call ref" => (k_here; (with_reducible show wpAny _ _ (call (Value.ref 234) _ _) _ _ _); k_dflt (refine take_call (by walk_at "my_cx") (by k_asm) (by k_asm) (by (intro _ _; k_upd)) (by walk_at "my_sz") (by walk_at "my_sz") (by walk_at "my_sz") ?_; intros; (try k_sweep))))
  trivial

-- 06_signs
theorem part06 : True := by
  w_top off
  trivial
abbrev lk (l : List (Str × Value)) : Str → Option Value := fun y => l.lookup y

/-- the signs that the law's texts are made of -/
def everyS : Str := Str.ofString "AZBKMX019_-~!#$%&'()@^{}QRÉÖ±Þ  ..abz\"*+,./:;<=>?[]|\\éößµÿ€Ж😀"
def alph : List Nat := everyS.cps.toList
theorem everyS_eq : Str.ofString "AZBKMX019_-~!#$%&'()@^{}QRÉÖ±Þ" ++ Str.ofString "  .." ++ Str.ofString "abz\"*+,./:;<=>?[]|\\éößµÿ€Ж😀" = everyS := by decide +kernel
theorem everyS_sz : everyS.cps.size = 61 := by decide +kernel
theorem goodS_sz : (Str.ofString "AZBKMX019_-~!#$%&'()@^{}QRÉÖ±Þ").cps.size = 30 := by decide +kernel
theorem goodS_alph : ∀ c ∈ (Str.ofString "AZBKMX019_-~!#$%&'()@^{}QRÉÖ±Þ").cps.toList, c ∈ alph := by decide +kernel
theorem mem_of_at {x : Str} {i : Nat} {c : Nat} (h : x.cps[i]? = some c) : c ∈ x.cps.toList := by
  obtain ⟨hi, e⟩ := Array.getElem?_eq_some_iff.mp h
  subst e; simp
theorem words06a : True := by
  (k_with "my_sz" => first | assumption | omega | decide | (simp only [everyS_sz, goodS_sz, sz_app] at *; omega) | (simp only [everyS_sz, goodS_sz, sz_app]; decide) | (simp only [everyS_sz, goodS_sz, sz_app]; omega) | decide +kernel)
  (k_with "call builtin:len" => (k_here; (with_reducible show wpAny _ _ (call (Value.builtin "len") [Value.str _ _]) _ _ _); refine L_len (by walk_at "my_sz") ?_))
  (k_with "binaryOp Add str str" => (k_here; (with_reducible show wpAny _ _ (binaryOp Operator.Add (Value.str _ _) (Value.str _ _)) _ _ _); refine L_add (by walk_at "my_sz") (by walk_at "my_sz") ?_; intro _ _))
  (k_with "subscriptTail" => (k_here; (with_reducible show wpAny _ _ (subscriptTail _ _ (Value.str _ _) (Value.int _ _)) _ _ _); refine L_item (by walk_at "my_sz") (by walk_at "my_sz") (by walk_at "my_sz") ?_; intro _ _))
  trivial
/-- the walk stands still here -/
structure Stop (P : Prop) : Prop where
  out : P
theorem ledA {e : Addr × Obj} {l o : List (Addr × Obj)} : ∀ p ∈ e :: l, p ∈ e :: (l ++ o) := fun p hp => by
  rcases List.mem_cons.mp hp with rfl | hp
  · exact .head _
  · exact .tail _ (List.mem_append_left _ hp)
theorem ledB {e : Addr × Obj} {l o : List (Addr × Obj)} : ∀ p ∈ o, p ∈ e :: (l ++ o) := fun p hp => .tail _ (List.mem_append_right _ hp)
theorem sg_step {tx : Str} {i c : Nat} {l : List Nat} (h1 : tx.cps.size = i) (h2 : ∀ q ∈ tx.cps.toList, q ∈ l) (hc : c ∈ l) : (tx ++ (⟨#[c]⟩ : Str)).cps.size = i + 1 ∧ ∀ q ∈ (tx ++ (⟨#[c]⟩ : Str)).cps.toList, q ∈ l := by
  constructor
  · rw [sz_app, h1]; rfl
  · intro q hq
    rw [Str.cps_append, Array.toList_append] at hq
    rcases List.mem_append.mp hq with h | h
    · exact h2 q h
    · have : q = c := by simpa using h
      exact this ▸ hc
theorem words06b : True := by
  (k_with "InvEndN" => (k_here; refine Stop.out ?_))
  trivial
local macro_rules | `(tactic| walk_at "pyIter ref") => `(tactic| (k_here; (with_reducible show wpAny _ _ (pyIter (Value.ref _)) (fun it s₂ => LoopAtV _ _ _ _ _ _ _ _ _ it s₂) _ _); refine Stop.out ?_))
section
variable {w : World} {mean : ExcName → Option Value} {mg mb : Str → Option Value} {dp un : Nat} {env : Env} {outer : List Env} {A₀ : Around} {base h₀ : Heap} {L : Addr} {m : Str → Option Value} {s : Shared} {Q E : Value → Shared → Prop}
theorem signs_spec {b : Addr} {x size : Int} {plain : Bool} {t1 t2 : Tok} {news : List (Addr × Obj)}
  (C : Cx w mean mg mb 2 dp un env outer A₀ base h₀ L) (F : Fr h₀ L s.heap m)
  (N : News h₀ L s.heap ((b, boxO x t1) :: news)) (hb : ∀ p ∈ news, p.1 ≠ b) (hx : 0 ≤ x) (hs0 : 0 ≤ size) (hs1 : size ≤ 19)
  (ret : ∀ tx t h' tk' x' t', tx.cps.size = size.toNat → (∀ q ∈ tx.cps.toList, q ∈ alph) → 0 ≤ x' → Fr h₀ L h' m → News h₀ L h' ((b, boxO x' t') :: news) → Q (.str tx t) {s with heap := h', toks := tk'}) :
  wpAny (model PR w) (Ar dp un env outer) (call (.ref 241) [.ref b, .int size t2, .bool plain]) Q E s := by
  obtain ⟨B, X, T, hf, hke, hd, hu⟩ := C
  unfold PR
  refine wpAny_call ?_
  k_dflt walk_at "my_enter"
  intro g' L' h' FG' F' N' B' X' T'
  replace F' : Fr g' L' h' (lk [("plain", .bool plain), ("size", .int size t2), ("box", .ref b)]) := F'

  show wpAny _ _ (execs _ _) _ _ _
  k_fold
  k_steps
  refine ⟨?_⟩
  rw [everyS_eq] at *
  refine loopR (L := L') (σ := Int × Tok × Str × Tok) (fun c => (b, boxO c.1 c.2.1) :: news) (fun c => [("text", .str c.2.2.1 c.2.2.2)]) [] (fun i c => 0 ≤ c.1 ∧ c.2.2.1.cps.size = i ∧ ∀ q ∈ c.2.2.1.cps.toList, q ∈ alph) (x, t1, "", _) (n := size.toNat)
    rfl rfl (by k_asm) ?hsm ?hn (by k_asm) (by k_asm) (List.forall_mem_singleton.mpr rfl) ⟨hx, rfl, fun q hq => nomatch hq⟩ ?turn ?done
  case hsm => exact small_one (by decide) (by decide) (by omega) (by omega)
  case hn => rw [rangeSize_nat]; simp
  case turn =>
    rintro ⟨cx, ct, tx, tt⟩ i ti u h1 tk1 own hi hoff hadr ⟨hc0, hsz, hal⟩ F1 N1
    dsimp only at hc0 hsz hal F1 N1 hadr
    simp only [List.cons_append] at N1
    k_fold
    k_steps

    all_goals (
      refine ⟨?_⟩
      refine' loopW_end (_, _, _, _) ?F ?N ?hn ?ho ?ha ?hf ?hk ?hr ?hp
      (case F => k_asm)
      (case hk => (refine List.forall_mem_singleton.mpr ?_; dsimp only; exact rfl))
      (case N => k_asm)
      (case hn => exact ledA)
      (case ho => exact ledB)
      (case ha => exact rfl)
      (case hf => exact rfl)
      (case hr => (intro z h1 h2 h3; simp only [List.forall_mem_singleton] at h2; simp [kstB, h1, h2]))
      (case hp => exact ⟨by assumption, sg_step (by assumption) (by assumption) (by first | exact goodS_alph _ (mem_of_at (by assumption)) | exact mem_of_at (by assumption))⟩))
  case done =>
    rintro ⟨cx, ct, tx, tt⟩ u h2 tk2 hadr ⟨hc0, hsz, hal⟩ F2 N2
    dsimp only at hc0 hsz hal F2 N2
    dsimp only
    k_steps
    exact ret _ _ _ _ _ _ hsz hal hc0 (by k_asm) (by k_asm)
end

-- 07_text
theorem part07 : True := by
  w_top off
  trivial
section
variable {w : World} {mean : ExcName → Option Value} {mg mb : Str → Option Value} {dp un : Nat} {env : Env} {outer : List Env} {A₀ : Around} {base h₀ : Heap} {L : Addr} {m : Str → Option Value} {s : Shared} {Q E : Value → Shared → Prop}
theorem signs_call {b : Addr} {x size : Int} {plain : Bool} {t1 t2 : Tok} {news : List (Addr × Obj)} {news' : Int → Tok → List (Addr × Obj)}
  (C : Cx w mean mg mb 2 dp un env outer A₀ base h₀ L) (F : Fr h₀ L s.heap m) (N : News h₀ L s.heap news)
  (U : ∀ x' t', Upd b (boxO x t1) (boxO x' t') news (news' x' t')) (hx : 0 ≤ x) (hs0 : 0 ≤ size) (hs1 : size ≤ 19)
  (ret : ∀ tx t h' tk' x' t', tx.cps.size = size.toNat → (∀ q ∈ tx.cps.toList, q ∈ alph) → 0 ≤ x' → Fr h₀ L h' m → News h₀ L h' (news' x' t') → Q (.str tx t) {s with heap := h', toks := tk'}) :
  wpAny (model PR w) (Ar dp un env outer) (call (.ref 241) [.ref b, .int size t2, .bool plain]) Q E s := by
  have hin := (upd_out (U 0 0)).1
  refine signs_spec (news := news.filter (fun q => decide (q.1 ≠ b))) (x := x) (t1 := t1) C F (fun p hp => ?_) (fun p hp => of_decide_eq_true (List.mem_filter.mp hp).2) hx hs0 hs1 fun tx t h' tk' x' t' h1 h2 h3 F' N' => ?_
  · rcases List.mem_cons.mp hp with rfl | hp
    · exact N _ hin
    · exact N _ (List.mem_filter.mp hp).1
  · refine ret _ t h' tk' x' t' h1 h2 h3 F' fun p hp => ?_
    rcases (upd_out (U x' t')).2 p hp with rfl | h
    · exact N' _ (.head _)
    · exact N' _ (.tail _ h)
end
theorem words07a : True := by
  (k_with "call ref" => (k_here; (with_reducible show wpAny _ _ (call (Value.ref 241) _ _) _ _ _); k_dflt (refine signs_call (by walk_at "my_cx") (by k_asm) (by k_asm) (by (intro _ _; k_upd)) (by walk_at "my_sz") (by walk_at "my_sz") (by walk_at "my_sz") ?_; intros; (try k_sweep))))
  trivial
theorem alph_app {a b : Str} {l : List Nat} (h1 : ∀ q ∈ a.cps.toList, q ∈ l) (h2 : ∀ q ∈ b.cps.toList, q ∈ l) : ∀ q ∈ (a ++ b).cps.toList, q ∈ l := by
  intro q hq
  rw [Str.cps_append, Array.toList_append] at hq
  exact (List.mem_append.mp hq).elim (h1 q) (h2 q)
theorem dot_sz : (Str.ofString ".").cps.size = 1 := by decide +kernel
theorem words07b : True := by
  (k_with "my_sz" => (simp only [sz_app, dot_sz] at *; omega))
  trivial
theorem dot_alph : ∀ q ∈ (Str.ofString ".").cps.toList, q ∈ alph := by decide +kernel
section
variable {w : World} {mean : ExcName → Option Value} {mg mb : Str → Option Value} {dp un : Nat} {env : Env} {outer : List Env} {A₀ : Around} {base h₀ : Heap} {L : Addr} {m : Str → Option Value} {s : Shared} {Q E : Value → Shared → Prop}
theorem text_spec {b : Addr} {x : Int} {t1 : Tok} {news : List (Addr × Obj)}
  (C : Cx w mean mg mb 3 dp un env outer A₀ base h₀ L) (F : Fr h₀ L s.heap m)
  (N : News h₀ L s.heap ((b, boxO x t1) :: news)) (hb : ∀ p ∈ news, p.1 ≠ b) (hx : 0 ≤ x)
  (ret : ∀ tx t h' tk' x' t', tx.cps.size ≤ 19 → (∀ q ∈ tx.cps.toList, q ∈ alph) → 0 ≤ x' → Fr h₀ L h' m → News h₀ L h' ((b, boxO x' t') :: news) → Q (.str tx t) {s with heap := h', toks := tk'}) :
  wpAny (model PR w) (Ar dp un env outer) (call (.ref 248) [.ref b]) Q E s := by
  obtain ⟨B, X, T, hf, hke, hd, hu⟩ := C
  unfold PR
  refine wpAny_call ?_
  k_dflt walk_at "my_enter"
  intro g' L' h' FG' F' N' B' X' T'
  replace F' : Fr g' L' h' (lk [("box", .ref b)]) := F'
  show wpAny _ _ (execs _ _) _ _ _
  k_fold
  k_steps
  · exact ret _ _ _ _ _ _ (by walk_at "my_sz") (by assumption) (by assumption) (by k_asm) (by k_asm)
  · exact ret _ _ _ _ _ _ (by walk_at "my_sz") (alph_app (alph_app (by assumption) dot_alph) (by assumption)) (by assumption) (by k_asm) (by k_asm)
  · exact ret _ _ _ _ _ _ (by walk_at "my_sz") (by assumption) (by assumption) (by k_asm) (by k_asm)
end

-- 08_bare
theorem part08 : True := by
  w_top off
  trivial
theorem words08a : True := by
  (k_with "exec While" => (k_here; refine Stop.out ?_))
  trivial
section
variable {prog : Program} {w : World} {A : Around} {E : Value → Shared → Prop} {s : Shared} {a : Addr} {vs : List Value} {ns : List Int} {value slice : Expr} {Q : Value → Shared → Prop}
theorem R_len (hl : s.heap.IsList a vs.toArray) (hI : IntsAre vs ns) (hz : ns.length ≤ 1000) (h : Q (.int (ns.length : Int) (s.toks + 1)) { s with toks := s.toks + 1 + 1 }) : wpAny (model prog w) A (call (.builtin "len") [.ref a]) Q E s := by
  have e : vs.toArray.size = ns.length := by rw [List.size_toArray, hI.length]
  refine len_list hl (by rw [e]; omega) ?_
  rw [e]; exact h
end
theorem words08b : True := by
  (k_with "call builtin:len" => (k_here; (with_reducible show wpAny _ _ (call (Value.builtin "len") [Value.ref _]) _ _ _); k_dflt (refine R_len (by exact News.isList (by k_asm) (by k_mem)) (by l_ints) (by omega) ?_)))
  (k_with "WhileStep" => (k_here; refine Stop.out ?_))
  trivial
/-- less the blanks at its end -/
def bareL (l : List Int) : List Int := (l.reverse.dropWhile (· = 32)).reverse
theorem bareL_rep (l : List Int) : ∀ t, bareL (l ++ List.replicate t 32) = bareL l
  | 0 => by simp
  | t + 1 => by
    have ih := bareL_rep l t
    unfold bareL at ih ⊢
    rw [List.replicate_succ', ← List.append_assoc, List.reverse_append]
    simpa using ih
theorem bareL_nil : bareL [] = [] := rfl
theorem last_split {l : List Int} (h : 0 < l.length) : l = l.take (l.length - 1) ++ [l.getD (l.length - 1) 0] := by
  have hlt : l.length - 1 < l.length := by omega
  have e := List.take_add_one (l := l) (i := l.length - 1)
  rw [show l.length - 1 + 1 = l.length from by omega, List.take_length] at e
  rw [List.getD_eq_getElem?_getD, List.getElem?_eq_getElem hlt] at *
  simpa using e
theorem bareL_last {l : List Int} (h : 0 < l.length) (hn : l.getD (l.length - 1) 0 ≠ 32) : bareL l = l := by
  have hd : decide (l.getD (l.length - 1) 0 = 32) = false := decide_eq_false hn
  have e := last_split h
  unfold bareL
  rw [e, List.reverse_append, List.reverse_singleton, List.singleton_append, List.dropWhile_cons]
  simp only [← e, hd, Bool.false_eq_true, if_false]
  rw [← List.singleton_append, List.reverse_append, List.reverse_reverse, List.reverse_singleton]
  exact e.symm
theorem at_last {l : List Int} (h : 0 < (l.length : Int)) : (-1 + (l.length : Int)).toNat = l.length - 1 := by omega
theorem lk_one {x : Str} {v u : Value} : (fun y => if y = x then some v else lk [(x, u)] y) = lk [(x, v)] := by
  funext y
  by_cases h : y = x
  · subst h; simp [lk]
  · have : (y == x) = false := by simpa using h
    simp only [lk, if_neg h, List.lookup_cons, this]
section
variable {w : World} {mean : ExcName → Option Value} {mg mb : Str → Option Value} {dp un : Nat} {env : Env} {outer : List Env} {A₀ : Around} {base h₀ : Heap} {L : Addr} {m : Str → Option Value} {s : Shared} {Q E : Value → Shared → Prop}
theorem bare_spec {a : Addr} {vs : List Value} {ns : List Int} {n : Nat} {news : List (Addr × Obj)}
  (C : Cx w mean mg mb 1 dp un env outer A₀ base h₀ L) (F : Fr h₀ L s.heap m)
  (N : News h₀ L s.heap news) (ha : (a, W.listOf vs.toArray n) ∈ news) (hI : IntsAre vs ns) (hz : ns.length ≤ 100)
  (ret : ∀ r vs' n' h' tk', IntsAre vs' (bareL ns) → (∀ p ∈ news, @Eq Nat p.1 a ∨ @Ne Nat p.1 r) → Fr h₀ L h' m → News h₀ L h' ((r, W.listOf vs'.toArray n') :: news) → Q (.ref r) {s with heap := h', toks := tk'}) :
  wpAny (model PR w) (Ar dp un env outer) (call (.ref 274) [.ref a]) Q E s := by
  obtain ⟨B, X, T, hf, hke, hd, hu⟩ := C
  unfold PR
  refine wpAny_call ?_
  k_dflt walk_at "my_enter"
  intro g' L' h' FG' F' N' B' X' T'
  replace F' : Fr g' L' h' (lk [("signs", .ref a)]) := F'
  show wpAny _ _ (execs _ _) _ _ _
  k_fold
  k_steps
  refine ⟨?_⟩
  refine While_inv (L := L') (fun k m₁ news₁ => ∃ a' vs' ns' n' t, m₁ = lk [("signs", .ref a')] ∧ news₁ = (a', W.listOf vs'.toArray n') :: news ∧ IntsAre vs' ns' ∧ ns'.length = k ∧ ns = ns' ++ List.replicate t 32 ∧ ∀ p ∈ news, @Eq Nat p.1 a ∨ @Ne Nat p.1 a') (n₀ := ns.length) F' (news := (a, W.listOf vs.toArray n) :: news) (fun p hp => (List.mem_cons.mp hp).elim (fun e => e ▸ N' _ ha) (N' p)) ⟨a, vs, ns, n, 0, rfl, rfl, hI, rfl, by simp, fun p _ => Classical.em _⟩ ?_
  rintro k m₁ news₁ h₁ tk₁ F1 N1 ⟨a', vs', ns', n', t, rfl, rfl, hI', rfl, hns, hr⟩
  have hz' : ns'.length ≤ 100 := by rw [hns, List.length_append] at hz; omega
  k_steps
  · refine ⟨?_⟩
    rename_i h0 u hv D ws h2 hws _ _ hl1 h3 F3 N3
    rw [at_last h0] at hv
    have h0' : 0 < ns'.length := by omega
    have e := last_split h0'
    rw [hv] at e
    refine ⟨rfl, h3, _, _, (D, W.listOf ws.toArray 0) :: news, ns'.length - 1, rfl, F3, fun p hp => N3 p ((List.mem_cons.mp hp).elim (fun e => e ▸ .head _) fun h => .tail _ (.tail _ h)), by omega, D, ws, _, 0, t + 1, lk_one, rfl, hws, by rw [List.length_take]; omega, ?_, fun p hp => .inr (Nat.ne_of_lt (ktn_ltOf hl1.2 p hp))⟩
    rw [hns, List.replicate_succ, ← List.singleton_append, ← List.append_assoc, ← e]
  · rename_i h0 u hv F3 N3 _ _
    rw [at_last h0] at hv
    refine ret a' vs' n' _ _ ?_ hr (by k_asm) (by k_asm)
    rw [hns, bareL_rep, bareL_last (by omega) hv]; exact hI'
  · rename_i h0 F3 N3 _ _
    have h00 : ns' = [] := List.length_eq_zero_iff.mp (by omega)
    refine ret a' vs' n' _ _ ?_ hr (by k_asm) (by k_asm)
    rw [hns, bareL_rep, h00, bareL_nil]
    rw [h00] at hI'; exact hI'
end

-- 09_octets
theorem part09 : True := by
  w_top off
  trivial
section
variable {prog : Program} {w : World} {A : Around} {E : Value → Shared → Prop} {s : Shared} {a : Addr} {vs : List Value} {ns : List Int} {value slice : Expr} {Q : Value → Shared → Prop}
theorem R_item {i : Int} {t : Tok} (hl : s.heap.IsList a vs.toArray) (hI : IntsAre vs ns) (h0 : 0 ≤ i) (h1 : i < ns.length) (hz : ns.length ≤ 1000) (h : ∀ v t, ns[i.toNat]? = some v → v ∈ ns → Q (.int v t) s)
    (hs : subscripted slice false (.ref a) (.int i t) = operate [.ref a, .int i t] (getItem (.ref a) (.int i t)) := by with_unfolding_all rfl) (hg : ∀ r, letTemporaryGo value (.ref a) r = pure () := by intro _; with_unfolding_all rfl) :
    wpAny (model prog w) A (subscriptTail value slice (.ref a) (.int i t)) Q E s := by
  have hlt : i.toNat < ns.length := by omega
  obtain ⟨u, hu⟩ := hI.get i.toNat ns[i.toNat] (by simp [hlt])
  exact item_list hl h0 (by omega) (by simpa using hu) (h _ _ (by simp [hlt]) (by simp)) hs hg
end
theorem menu8 : ∀ i : Nat, i < 8 → 9 ≤ ([11, 11, 11, 11, 10, 12, 9, 13] : List Int).getD i 0 ∧ ([11, 11, 11, 11, 10, 12, 9, 13] : List Int).getD i 0 ≤ 13 := by decide
def okI (n : Int) : Prop := n = 0 ∨ (32 ≤ n ∧ n < 256 ∧ n ≠ 133 ∧ n ≠ 160)
theorem oct_step {x' : Int} {cv : Array Value} {ns : List Int} {i : Nat} {v : Int} {t : Tok} (hx : 0 ≤ x') (hI : IntsAre cv.toList ns) (hlen : ns.length = i) (hok : ∀ q ∈ ns, okI q) (hv : okI v) :
    0 ≤ x' ∧ ∃ ns', IntsAre (cv.push (.int v t)).toList ns' ∧ ns'.length = i + 1 ∧ ∀ q ∈ ns', okI q :=
  ⟨hx, ns ++ [v], by rw [Array.toList_push]; exact hI.append (.cons v t .nil), by simp [hlen], fun q hq => (List.mem_append.mp hq).elim (hok q) fun h => by rw [List.mem_singleton.mp h]; exact hv⟩
local macro_rules | `(tactic| walk_at "call ref") => `(tactic| (k_here; (with_reducible show wpAny _ _ (call (Value.ref 274) _ _) _ _ _); k_dflt (refine bare_spec (by walk_at "my_cx") (by k_asm) (by k_asm) (by k_mem) (by l_ints) (by first | assumption | omega) ?_; intro r' vs' n' h' tk' hbI' hbr' F' N'; (try simp only [List.forall_mem_cons] at hbr'); (try k_sweep))))
theorem words09a : True := by
  (k_with "call type:bytes" => (k_here; (with_reducible show wpAny _ _ (call (Value.type "bytes") [Value.ref _]) _ _ _); refine Stop.out ?_))
  trivial
theorem okI_2 : ∀ i : Nat, i < 2 → okI (([0, 229] : List Int).getD i 0) := by
  intro i hi
  unfold okI
  have : i = 0 ∨ i = 1 := by omega
  rcases this with rfl | rfl <;> decide
theorem okI_set {ns : List Int} {i : Nat} {v : Int} (h : ∀ q ∈ ns, okI q) (hv : okI v) : ∀ q ∈ ns.set i v, okI q := fun q hq =>
  (List.mem_or_eq_of_mem_set hq).elim (h q) fun e => e ▸ hv
theorem okI_byte {n : Int} (h : okI n) : 0 ≤ n ∧ n < 256 := by unfold okI at h; omega
theorem okI_out {ns : List Int} (h : ∀ q ∈ ns, okI q) : ∀ q ∈ (ns.map fun n => n.toNat.toUInt8).toArray.toList, okI q.toNat := by
  intro q hq
  simp only [List.mem_map] at hq
  obtain ⟨n, hn, rfl⟩ := hq
  have h1 := h n hn
  have h2 := okI_byte h1
  have e : ((n.toNat.toUInt8).toNat : Int) = n := by
    have : n.toNat.toUInt8.toNat = n.toNat := by
      show (UInt8.ofNat n.toNat).toNat = n.toNat
      rw [UInt8.toNat_ofNat']
      omega
    omega
  rw [e]; exact h1
section
variable {w : World} {mean : ExcName → Option Value} {mg mb : Str → Option Value} {dp un : Nat} {env : Env} {outer : List Env} {A₀ : Around} {base h₀ : Heap} {L : Addr} {m : Str → Option Value} {s : Shared} {Q E : Value → Shared → Prop}
theorem octets_spec {b : Addr} {x : Int} {t1 : Tok} {news : List (Addr × Obj)}
  (C : Cx w mean mg mb 2 dp un env outer A₀ base h₀ L) (F : Fr h₀ L s.heap m)
  (N : News h₀ L s.heap ((b, boxO x t1) :: news)) (hb : ∀ p ∈ news, p.1 ≠ b) (hx : 0 ≤ x)
  (ret : ∀ (arr : Array UInt8) t h' tk' x' t', 9 ≤ arr.size → arr.size ≤ 13 → (∀ q ∈ arr.toList, okI q.toNat) → 0 ≤ x' → Fr h₀ L h' m → News h₀ L h' ((b, boxO x' t') :: news) → Q (.bytes arr t) {s with heap := h', toks := tk'}) :
  wpAny (model PR w) (Ar dp un env outer) (call (.ref 255) [.ref b]) Q E s := by
  obtain ⟨B, X, T, hf, hke, hd, hu⟩ := C
  unfold PR
  refine wpAny_call ?_
  k_dflt walk_at "my_enter"
  intro g' L' h' FG' F' N' B' X' T'
  replace F' : Fr g' L' h' (lk [("box", .ref b)]) := F'
  show wpAny _ _ (execs _ _) _ _ _
  k_fold
  k_steps
  refine ⟨?_⟩
  rename_i _ lm _ l1m r1 _ _ _ x1 _ hr0 hr1 hx1 tz _ _ r2 tr2 _ _ x2 t2 hq0 hq1 hx2 _ _ lr _ l1r _ _ _ _ _ _ _ _ hR hF hN hkp
  have hm := menu8 r1.toNat (by omega)
  generalize ([11, 11, 11, 11, 10, 12, 9, 13] : List Int).getD r1.toNat 0 = sz at *
  refine loopR (L := L') (σ := Int × Tok × Array Value × Nat) (fun c => (lr, W.listOf c.2.2.1 c.2.2.2) :: (b, boxO c.1 c.2.1) :: news) (fun c => []) ["n"]
    (fun i c => 0 ≤ c.1 ∧ ∃ ns, IntsAre c.2.2.1.toList ns ∧ ns.length = i ∧ ∀ q ∈ ns, okI q) (x2, t2, #[], 0) (n := sz.toNat)
    rfl rfl hR (small_one (by decide) (by decide) (by omega) (by omega)) (by rw [rangeSize_nat]; simp) hF (fun p hp => hN p (by grind)) (fun p hp => nomatch hp) ⟨hx2, [], IntsAre.nil, rfl, fun q hq => nomatch hq⟩ ?turn ?done
  case turn =>
    rintro ⟨cx, ct, cv, cn⟩ i ti u h1 tk1 own hi hoff hadr ⟨hc0, ns, hI, hlen, hok⟩ F1 N1
    dsimp only at hc0 hI hok F1 N1 hadr hoff
    simp only [List.cons_append] at N1
    k_fold
    k_steps
    all_goals (
      refine ⟨?_⟩
      first | (refine' loopW_end' [] (_, _, _, _) ?F ?N ?ha ?hf ?hk ?hr ?hp; (case N => k_asm)) | (refine' loopW_end' [_] (_, _, _, _) ?F ?N ?ha ?hf ?hk ?hr ?hp; (case N => k_asm))
      (case F => k_asm)
      (case ha => exact rfl)
      (case hf => exact rfl)
      (case hk => exact fun p hp => nomatch hp)
      (case hr => (intro z h1 h2 h3; simp_all [kstB]))
      (case hp => exact oct_step (by assumption) hI hlen hok (by unfold okI; first | omega | (simp only [List.any_cons, List.any_nil, Bool.or_false, Bool.or_eq_false_iff, beq_eq_false_iff_ne, ne_eq] at *; omega))))
  case done =>
    rintro ⟨cx, ct, cv, cn⟩ u h2 tk2 hadr ⟨hc0, ns, hI, hlen, hok⟩ F2 N2
    dsimp only at hc0 hI hok F2 N2
    dsimp only
    have hlb : (9 : Int) ≤ (ns.length : Int) := by omega
    have hub : (ns.length : Int) ≤ 13 := by omega
    obtain ⟨cv⟩ := cv
    replace hI : IntsAre cv ns := hI
    have hIl := hI.length
    k_steps
    all_goals (
      refine ⟨?_⟩
      refine' bytes_K ?F ?N ?l ?i ?r ?z rfl ?_
      (case F => k_asm)
      (case N => k_asm)
      (case l => exact News.isList (by k_asm) (by k_mem))
      (case i => first | exact hI | assumption)
      (case r => first | exact fun n hn => okI_byte (hok n hn) | exact fun n hn => okI_byte (okI_set hok (okI_2 _ (by omega)) n hn) | exact fun n hn => okI_byte (okI_set hok (by unfold okI; omega) n hn))
      (case z => (rw [sizeLine_eq]; (try simp only [List.length_set]); omega))
      intro h3 t3 k3 F3 N3 _
      try dsimp only
      k_steps
      refine ret _ _ _ _ cx ct ?_ ?_ ?_ hc0 (by k_asm) (cb_drop (by k_asm) fun p hp => by simp only [List.mem_cons] at hp ⊢; rcases hp with h | h <;> simp [h])
      · simp; omega
      · simp; omega
      · refine okI_out ?_
        first | exact hok | exact okI_set hok (okI_2 _ (by omega)) | exact okI_set hok (by unfold okI; omega))
end

-- 10_comp
theorem part10 : True := by
  w_top off
  trivial
/-- the signs of a text, as a comprehension's items -/
def chK (y : Str) : ItemKind Nat := ⟨fun c v => c ∈ y.cps.toList ∧ ∃ t, v = .str ⟨#[c]⟩ t, fun v => match v with | .str a _ => a.cps[0]? | _ => none, fun a v h => by obtain ⟨_, t, rfl⟩ := h; rfl⟩
/-- the ints of a list, as a comprehension's items -/
def inK (ns : List Int) : ItemKind Int := ⟨fun a v => a ∈ ns ∧ ∃ t, v = .int a t, fun v => match v with | .int a _ => some a | _ => none, fun a v h => by obtain ⟨_, t, rfl⟩ := h; rfl⟩
section
variable {prog : Program} {w : World} {A : Around} {E : Value → Shared → Prop} {s₁ : Shared} {h₀ : Heap} {L : Addr} {m : Str → Option Value} {news : List (Addr × Obj)} {env : Env} {elt : Expr} {x z : Str} {ifs : List Expr} {scope : Scope}
  {α : Type} {K : ItemKind α} {as : List α} {pz : α → Bool} {d : α → PyData} {o : Obj} {St : Nat → Heap → Prop}
theorem areOf_at {n : Nat} {vs : List Value} (hn : n = as.length) (hlen : vs.length = n) (hP : ∀ (j : Nat) (v : Value), vs[j]? = some v → ∃ a, as[j]? = some a ∧ K.is a v) : AreOf K vs as := areOf_of_get vs as (hlen.trans hn) hP
theorem comp_at {Q : Value → Shared → Prop}
    {fp : List Addr} (Wk : Walks prog w A s₁.heap.objs.size fp [s₁.heap.objs.size] as.length (fun i v => ∃ a, as[i]? = some a ∧ K.is a v) St) (hst : St 0 (s₁.heap.push o)) (hfp : ∀ b ∈ fp, b < (s₁.heap.push o).objs.size)
    (F : Fr h₀ L s₁.heap m) (N : News h₀ L s₁.heap news) (hsz : as.length ≤ sizeLine)
    (g1 : ∀ C a v s₂ m₂ E', a ∈ as → K.is a v → s₂.heap.Ns (compEnv scope C env).locals m₂ → m₂ x = some v → (∀ b o, s₁.heap.get? b = some o → s₂.heap.get? b = some o) →
        wpAny (model prog w) A (forIn ifs true fun c r => if r = true then do let ok ← isTrue c (compEnv scope C env) (eval c (compEnv scope C env)); pure (ForInStep.yield ok) else pure (ForInStep.yield r))
          (fun ok s₃ => ok = pz a ∧ Keeps s₂ s₃) E' s₂)
    (g2 : ∀ C a v s₂ m₂ E', a ∈ as → K.is a v → s₂.heap.Ns (compEnv scope C env).locals m₂ → m₂ x = some v → (∀ b o, s₁.heap.get? b = some o → s₂.heap.get? b = some o) →
        wpAny (model prog w) A (eval elt (compEnv scope C env)) (fun r s₃ => Carried r (d a) ∧ Keeps s₂ s₃) E' s₂)
    (g3 : ∀ D (ys : List Value) n h' tk, Fr h₀ L h' m → News h₀ L h' ((D, W.listOf ys.toArray n) :: news) → (∀ p ∈ news, p.1 ≠ D) → CarriedAll ys ((as.filter pz).map d) → (∀ b o, s₁.heap.get? b = some o → h'.get? b = some o) → Q (.ref D) { s₁ with heap := h', toks := tk }) :
    CompPost prog w A env scope x ifs elt Q (.ref s₁.heap.objs.size) { s₁ with heap := s₁.heap.push o } := by
  have up : ∀ (h' : Heap), (∀ b o', b ∉ [s₁.heap.objs.size] → (s₁.heap.push o).get? b = some o' → h'.get? b = some o') → ∀ b o', s₁.heap.get? b = some o' → h'.get? b = some o' :=
    fun h' hk b o' e => hk b o' (old_not_new e) (Heap.get?_push_of_some _ e)
  refine ⟨K.lift pz, fun v r => ∃ a, K.is a v ∧ Carried r (d a), s₁.heap.objs.size, fp, [s₁.heap.objs.size], as.length, _, St, rfl, Wk, hsz, hst, hfp, ⟨?_, ?_⟩, ?_⟩
  · rintro C i v s₃ m₃ E' ⟨a, ha, hk⟩ hn hm hup htk
    rw [ItemKind.lift_is hk]
    exact g1 C a v s₃ m₃ E' (List.mem_of_getElem? ha) hk hn hm (up _ hup)
  · rintro C i v s₃ m₃ E' ⟨a, ha, hk⟩ hp hn hm hup htk
    exact wpAny_mono (g2 C a v s₃ m₃ E' (List.mem_of_getElem? ha) hk hn hm (up _ hup)) (fun r s₄ h₄ => ⟨⟨a, hk, h₄.1⟩, h₄.2⟩) fun _ _ e => e
  · intro D h' tk ys vs hnew hlD hplD hlen hP hF hk
    obtain ⟨n, hn⟩ := hplD
    have hD0 : h₀.get? D = none := by
      cases e : h₀.get? D with
      | none => rfl
      | some o' => rw [Heap.get?_push_of_some _ (F.keep _ _ e)] at hnew; cases hnew
    have hDL : D ≠ L := by
      rintro rfl
      obtain ⟨oL, _, _, ho, _⟩ := F.ns
      rw [Heap.get?_push_of_some _ ho] at hnew; cases hnew
    refine g3 D ys.toList n h' tk (F.keeps (up h' hk)) (fun p hp => ?_) (fun p hp e => ?_) ((areOf_at rfl hlen hP).paired pz d _ hF) (up h' hk)
    · rcases List.mem_cons.mp hp with rfl | hp
      · exact ⟨by rw [Array.toArray_toList]; exact hn, hDL, hD0⟩
      · exact N.grown (up h' hk) p hp
    · rw [← e, Heap.get?_push_of_some _ (N p hp).1] at hnew; cases hnew
theorem compA_at {Q : Flow → Shared → Prop}
    (Wk : Walks prog w A s₁.heap.objs.size [s₁.heap.objs.size] [s₁.heap.objs.size] as.length (fun i v => ∃ a, as[i]? = some a ∧ K.is a v) St) (hst : St 0 (s₁.heap.push o))
    (hL : env.locals = L) (F : Fr h₀ L s₁.heap m) (N : News h₀ L s₁.heap news) (hsz : as.length ≤ sizeLine)
    (g1 : ∀ C a v s₂ m₂ E', a ∈ as → K.is a v → s₂.heap.Ns (compEnv scope C env).locals m₂ → m₂ x = some v → (∀ b o, s₁.heap.get? b = some o → s₂.heap.get? b = some o) →
        wpAny (model prog w) A (forIn ifs true fun c r => if r = true then do let ok ← isTrue c (compEnv scope C env) (eval c (compEnv scope C env)); pure (ForInStep.yield ok) else pure (ForInStep.yield r))
          (fun ok s₃ => ok = pz a ∧ Keeps s₂ s₃) E' s₂)
    (g2 : ∀ C a v s₂ m₂ E', a ∈ as → K.is a v → s₂.heap.Ns (compEnv scope C env).locals m₂ → m₂ x = some v → (∀ b o, s₁.heap.get? b = some o → s₂.heap.get? b = some o) →
        wpAny (model prog w) A (eval elt (compEnv scope C env)) (fun r s₃ => Carried r (d a) ∧ Keeps s₂ s₃) E' s₂)
    (g3 : ∀ D (ys : List Value) n h' tk, Fr h₀ L h' (fun q => if q = z then some (.ref D) else m q) → News h₀ L h' ((D, W.listOf ys.toArray n) :: news) → (∀ p ∈ news, p.1 ≠ D) → CarriedAll ys ((as.filter pz).map d) → Q .next { s₁ with heap := h', toks := tk }) :
    CompPostA prog w A env scope x z ifs elt Q (.ref s₁.heap.objs.size) { s₁ with heap := s₁.heap.push o } := by
  subst hL
  have up : ∀ (h' : Heap), (∀ b o', b ∉ [s₁.heap.objs.size] → (s₁.heap.push o).get? b = some o' → h'.get? b = some o') → ∀ b o', s₁.heap.get? b = some o' → h'.get? b = some o' :=
    fun h' hk b o' e => hk b o' (old_not_new e) (Heap.get?_push_of_some _ e)
  refine ⟨K.lift pz, fun v r => ∃ a, K.is a v ∧ Carried r (d a), s₁.heap.objs.size, [s₁.heap.objs.size], [s₁.heap.objs.size], as.length, _, St, m, rfl, Wk, hsz, hst, ?_, ?_, (F.push o).ns, ⟨?_, ?_⟩, ?_⟩
  · intro b hb
    show b < (s₁.heap.push o).objs.size
    rw [Heap.size_push, List.mem_singleton.mp hb]
    exact Nat.lt_succ_self _
  · intro hm
    exact absurd F.ns.lt ((List.mem_singleton.mp hm) ▸ Nat.lt_irrefl _)
  · rintro C i v s₃ m₃ E' ⟨a, ha, hk⟩ hn hm hup htk
    rw [ItemKind.lift_is hk]
    exact g1 C a v s₃ m₃ E' (List.mem_of_getElem? ha) hk hn hm (up _ hup)
  · rintro C i v s₃ m₃ E' ⟨a, ha, hk⟩ hp hn hm hup htk
    exact wpAny_mono (g2 C a v s₃ m₃ E' (List.mem_of_getElem? ha) hk hn hm (up _ hup)) (fun r s₄ h₄ => ⟨⟨a, hk, h₄.1⟩, h₄.2⟩) fun _ _ e => e
  · intro D h' tk ys vs hnew hlD hplD hlen hP hF hns hk
    obtain ⟨n, hn⟩ := hplD
    have hD0 : h₀.get? D = none := by
      cases e : h₀.get? D with
      | none => rfl
      | some o' => rw [Heap.get?_push_of_some _ (F.keep _ _ e)] at hnew; cases hnew
    have hDL : D ≠ env.locals := by
      rintro rfl
      obtain ⟨oL, _, _, ho, _⟩ := F.ns
      rw [Heap.get?_push_of_some _ ho] at hnew; cases hnew
    have up' : ∀ b o', b ≠ env.locals → s₁.heap.get? b = some o' → h'.get? b = some o' := fun b o' hb e => hk b o' hb (old_not_new e) (Heap.get?_push_of_some _ e)
    refine g3 D ys.toList n h' tk ?_ (fun p hp => ?_) (fun p hp e => ?_) ((areOf_at rfl hlen hP).paired pz d _ hF)
    · exact ⟨hns, fun b o' e => up' b o' (Nat.ne_of_lt (Nat.lt_of_lt_of_le (Heap.lt_size e) F.above)) (F.keep b o' e), F.above⟩
    · rcases List.mem_cons.mp hp with rfl | hp
      · exact ⟨by rw [Array.toArray_toList]; exact hn, hDL, hD0⟩
      · exact ⟨up' _ _ (N p hp).2.1 (N p hp).1, (N p hp).2⟩
    · rw [← e, Heap.get?_push_of_some _ (N p hp).1] at hnew; cases hnew
theorem walks_weak {I : Addr} {fp wr : List Addr} {n : Nat} {P P' : Nat → Value → Prop} (W : Walks prog w A I fp wr n P St) (h : ∀ i v, P i v → P' i v) : Walks prog w A I fp wr n P' St where
  sub := W.sub
  frame := W.frame
  item := fun i s Q E hi st hQ => W.item i s Q E hi st fun v h' tk hp => hQ v h' tk (h i v hp)
  done := W.done
  self := W.self
theorem ch_walks {y : Str} {I : Addr} {A' : Around} (Wk : Walks prog w A' I [I] [I] y.cps.size (SignAt y) St) : Walks prog w A' I [I] [I] y.cps.toList.length (fun i v => ∃ a, y.cps.toList[i]? = some a ∧ (chK y).is a v) St := by
  have e : SignAt y = fun i v => ∃ a, y.cps.toList[i]? = some a ∧ (chK y).is a v := by
    funext i v
    refine propext ⟨fun ⟨c, u, hc, hv⟩ => ⟨c, by simpa using hc, mem_of_at hc, u, hv⟩, fun ⟨c, hc, _, u, hv⟩ => ⟨c, u, by simpa using hc, hv⟩⟩
  rw [← e, Array.length_toList]
  exact Wk
theorem srcC_ch {y : Str} {t : Tok} {Q : Value → Shared → Prop} (pz : Nat → Bool) (d : Nat → PyData)
    (hh : A.handled = none) (F : Fr h₀ L s₁.heap m) (N : News h₀ L s₁.heap news) (hsz : y.cps.size ≤ 1000)
    (g1 : ∀ C a v s₂ m₂ E', a ∈ y.cps.toList → (chK y).is a v → s₂.heap.Ns (compEnv scope C env).locals m₂ → m₂ x = some v → (∀ b o, s₁.heap.get? b = some o → s₂.heap.get? b = some o) →
        wpAny (model prog w) A (forIn ifs true fun c r => if r = true then do let ok ← isTrue c (compEnv scope C env) (eval c (compEnv scope C env)); pure (ForInStep.yield ok) else pure (ForInStep.yield r))
          (fun ok s₃ => ok = pz a ∧ Keeps s₂ s₃) E' s₂)
    (g2 : ∀ C a v s₂ m₂ E', a ∈ y.cps.toList → (chK y).is a v → s₂.heap.Ns (compEnv scope C env).locals m₂ → m₂ x = some v → (∀ b o, s₁.heap.get? b = some o → s₂.heap.get? b = some o) →
        wpAny (model prog w) A (eval elt (compEnv scope C env)) (fun r s₃ => Carried r (d a) ∧ Keeps s₂ s₃) E' s₂)
    (g3 : ∀ D (ys : List Value) n h' tk, Fr h₀ L h' m → News h₀ L h' ((D, W.listOf ys.toArray n) :: news) → (∀ p ∈ news, p.1 ≠ D) → CarriedAll ys ((y.cps.toList.filter pz).map d) → (∀ b o, s₁.heap.get? b = some o → h'.get? b = some o) → Q (.ref D) { s₁ with heap := h', toks := tk }) :
    wpAny (model prog w) A (pyIter (.str y t)) (CompPost prog w A env scope x ifs elt Q) E s₁ := by
  refine wpAny_pyIter_str fun o St Wk hst => ?_
  exact comp_at (ch_walks (Wk A hh)) hst (by intro b hb; rw [Heap.size_push, List.mem_singleton.mp hb]; exact Nat.lt_succ_self _) F N (by rw [Array.length_toList, sizeLine_eq]; omega) g1 g2 g3
theorem srcC_ints {a : Addr} {vs : List Value} {ns : List Int} {Q : Value → Shared → Prop} (pz : Int → Bool) (d : Int → PyData)
    (hh : A.handled = none) (F : Fr h₀ L s₁.heap m) (N : News h₀ L s₁.heap news) (hl : s₁.heap.IsList a vs.toArray) (hI : IntsAre vs ns) (hsz : ns.length ≤ 1000)
    (g1 : ∀ C a v s₂ m₂ E', a ∈ ns → (inK ns).is a v → s₂.heap.Ns (compEnv scope C env).locals m₂ → m₂ x = some v → (∀ b o, s₁.heap.get? b = some o → s₂.heap.get? b = some o) →
        wpAny (model prog w) A (forIn ifs true fun c r => if r = true then do let ok ← isTrue c (compEnv scope C env) (eval c (compEnv scope C env)); pure (ForInStep.yield ok) else pure (ForInStep.yield r))
          (fun ok s₃ => ok = pz a ∧ Keeps s₂ s₃) E' s₂)
    (g2 : ∀ C a v s₂ m₂ E', a ∈ ns → (inK ns).is a v → s₂.heap.Ns (compEnv scope C env).locals m₂ → m₂ x = some v → (∀ b o, s₁.heap.get? b = some o → s₂.heap.get? b = some o) →
        wpAny (model prog w) A (eval elt (compEnv scope C env)) (fun r s₃ => Carried r (d a) ∧ Keeps s₂ s₃) E' s₂)
    (g3 : ∀ D (ys : List Value) n h' tk, Fr h₀ L h' m → News h₀ L h' ((D, W.listOf ys.toArray n) :: news) → (∀ p ∈ news, p.1 ≠ D) → CarriedAll ys ((ns.filter pz).map d) → (∀ b o, s₁.heap.get? b = some o → h'.get? b = some o) → Q (.ref D) { s₁ with heap := h', toks := tk }) :
    wpAny (model prog w) A (pyIter (.ref a)) (CompPost prog w A env scope x ifs elt Q) E s₁ := by
  have hlt : a < s₁.heap.objs.size := by obtain ⟨o, ho, _⟩ := hl; exact Heap.lt_size ho
  have hne : a ≠ s₁.heap.objs.size := Nat.ne_of_lt hlt
  refine wpAny_pyIter_list hl ?_
  have hn : vs.toArray.size = ns.length := by rw [List.size_toArray, hI.length]
  have Wk : Walks prog w A s₁.heap.objs.size [s₁.heap.objs.size, a] [s₁.heap.objs.size] ns.length (fun i v => ∃ b, ns[i]? = some b ∧ (inK ns).is b v) _ := hn ▸ walks_weak (Walks.list hh s₁.heap.objs.size a hne vs.toArray) fun i v h => by
    obtain ⟨k, u, hv, hk⟩ := IntsAre.at hI i v (by simpa using h)
    exact ⟨k, hk, List.mem_of_getElem? hk, u, hv⟩
  refine comp_at Wk ⟨⟨_, Heap.get?_push_size _ rfl, rfl, rfl⟩, hl.at fun o e => Heap.get?_push_of_some _ e⟩ ?_ F N (by rw [sizeLine_eq]; omega) g1 g2 g3
  intro b hb
  rw [Heap.size_push]
  have hb' : b = s₁.heap.objs.size ∨ b = a := by simpa using hb
  rcases hb' with e | e
  · rw [e]; exact Nat.lt_succ_self _
  · rw [e]; exact Nat.lt_succ_of_lt hlt
theorem srcA_ch {y : Str} {t : Tok} {Q : Flow → Shared → Prop} (pz : Nat → Bool) (d : Nat → PyData)
    (hh : A.handled = none) (hL : env.locals = L) (F : Fr h₀ L s₁.heap m) (N : News h₀ L s₁.heap news) (hsz : y.cps.size ≤ 1000)
    (g1 : ∀ C a v s₂ m₂ E', a ∈ y.cps.toList → (chK y).is a v → s₂.heap.Ns (compEnv scope C env).locals m₂ → m₂ x = some v → (∀ b o, s₁.heap.get? b = some o → s₂.heap.get? b = some o) →
        wpAny (model prog w) A (forIn ifs true fun c r => if r = true then do let ok ← isTrue c (compEnv scope C env) (eval c (compEnv scope C env)); pure (ForInStep.yield ok) else pure (ForInStep.yield r))
          (fun ok s₃ => ok = pz a ∧ Keeps s₂ s₃) E' s₂)
    (g2 : ∀ C a v s₂ m₂ E', a ∈ y.cps.toList → (chK y).is a v → s₂.heap.Ns (compEnv scope C env).locals m₂ → m₂ x = some v → (∀ b o, s₁.heap.get? b = some o → s₂.heap.get? b = some o) →
        wpAny (model prog w) A (eval elt (compEnv scope C env)) (fun r s₃ => Carried r (d a) ∧ Keeps s₂ s₃) E' s₂)
    (g3 : ∀ D (ys : List Value) n h' tk, Fr h₀ L h' (fun q => if q = z then some (.ref D) else m q) → News h₀ L h' ((D, W.listOf ys.toArray n) :: news) → (∀ p ∈ news, p.1 ≠ D) → CarriedAll ys ((y.cps.toList.filter pz).map d) → Q .next { s₁ with heap := h', toks := tk }) :
    wpAny (model prog w) A (pyIter (.str y t)) (CompPostA prog w A env scope x z ifs elt Q) E s₁ := by
  refine wpAny_pyIter_str fun o St Wk hst => ?_
  exact compA_at (ch_walks (Wk A hh)) hst hL F N (by rw [Array.length_toList, sizeLine_eq]; omega) g1 g2 g3
end
local macro_rules | `(tactic| walk_at "pyIter str") => `(tactic| (k_here; (with_reducible show wpAny _ _ (pyIter (Value.str _ _)) _ _ _); refine Stop.out ?_))
/-- a built-in name within a comprehension -/
theorem nameB_C {M : Model} {A : Around} {E : Value → Shared → Prop} {s : Shared} {K : Frag} {h₀ : Heap} {L : Addr} {m mg mb : Str → Option Value} {env : Env} {p : Program} {loose : List Str}
    {x : Str} {pos : Pos} {v : Value} {Q : Value → Shared → Prop} (F : Fr h₀ L s.heap m) (X : K.In h₀) (T : TopRead p loose mg mb h₀) (e : nsIn K mainGlobals x = some none) (hv : bootBuiltins x = some v) (hn : x ≠ "__name__") (h : Q v s)
    (hg : env.globals = mainGlobals) (hb : env.builtins = builtinsNs) (hk : env.scope.kind = .function) (hx : env.kindOf x = some .globalImplicit) (hd : (x == ("__debug__" : Str)) = false) :
    wpAny M A (eval (.Name x pos) env) Q E s :=
  Name_function_global hk hx (loadGlobal_builtin (env := env) (by rw [hg]; exact T.g.keeps F.keep) (mg_none_of X T.g e) (by rw [hb]; exact T.b.keeps F.keep) ((T.builtins x hn).trans hv) h) hd
local macro_rules | `(tactic| walk_at "eval Name") => `(tactic| (k_here; k_inBlock; (with_reducible rename Fr _ _ _ _ => kF); k_dflt (refine' nameB_C kF ?k1 ?k2 ?k3 ?k8 ?k9 ?_ ?k4 ?kb ?k5 ?k6 ?k7; (case k4 => rfl); (case kb => rfl); (case k5 => rfl); (case k6 => rfl); (case k7 => decide); (case k1 => k_asm); (case k2 => k_asm); (case k3 => k_is); (case k8 => boot_by_name); (case k9 => decide); k_whole)))

-- 11_parts
theorem part11 : True := by
  w_top off
  trivial
/-- the last place of the sign c among the first i -/
def lastTo (c : Nat) (l : List Nat) : Nat → Int
  | 0 => -1
  | i + 1 => if l[i]? = some c then (i : Int) else lastTo c l i
theorem words11a : True := by
  (k_with "subscriptTail Name Name str int" => (k_here; (with_reducible show wpAny _ _ (subscriptTail _ _ (Value.str _ _) (Value.int _ _)) _ _ _); refine L_item (by walk_at "my_sz") (by walk_at "my_sz") (by walk_at "my_sz") ?_; intro _ _))
  trivial
section
variable {prog : Program} {w : World} {A : Around} {E : Value → Shared → Prop} {s : Shared} {a b : Addr} {ys : List Value} {Q : Value → Shared → Prop}
theorem R_eq_nil (ha : s.heap.IsList a ys.toArray) (hb : s.heap.IsList b #[]) (hu : A.units + 64 < cLine) (h : Q (.bool ys.isEmpty) s) : wpAny (model prog w) A (compareOp .Eq (.ref a) (.ref b)) Q E s := by
  cases ys with
  | nil => exact SeqAt.eq_listAt (e := fun _ => true) ha hb rfl (by omega) (fun j h1 _ => by simp at h1) h
  | cons y ys => exact SeqAt.eq_list_lengthsAt ha hb (by simp) (by omega) h
end
theorem words11b : True := by
  (k_with "compareOp Eq ref ref" => (k_here; (with_reducible show wpAny _ _ (compareOp CmpOp.Eq (Value.ref _) (Value.ref _)) _ _ _); k_dflt (refine R_eq_nil (by is_list) (by exact News.isList (items := #[]) (by k_asm) (by k_mem)) (by units_room) ?_)))
  trivial
theorem slice_take {x : Str} {d : Int} (h0 : 0 ≤ d) (h1 : d ≤ x.cps.size) : (Txt.slice x none (some d)).cps.toList = x.cps.toList.take d.toNat := by
  have e := eq_of_beq (slice_closes_to (x := x) (j := d) ⟨h0, by rw [Array.length_toList]; exact h1⟩)
  rw [e]
  simp
theorem slice_drop {x : Str} {d : Int} (h0 : 0 ≤ d) : (Txt.slice x (some d) none).cps.toList = x.cps.toList.drop d.toNat := by
  by_cases h1 : d ≤ x.length
  · rw [slice_from_eq h0 h1 rfl]
    have : (x.length : Int) = x.cps.toList.length := by rw [Array.length_toList]; rfl
    simp only [this]
    rw [List.take_of_length_le (by rw [List.length_drop]; omega)]
  · rw [slice_beyond (by omega)]
    have : (x.length : Int) = x.cps.toList.length := by rw [Array.length_toList]; rfl
    rw [List.drop_eq_nil_of_le (by omega)]
    rfl
theorem lastTo_le {c : Nat} {l : List Nat} : ∀ i, -1 ≤ lastTo c l i ∧ lastTo c l i < i
  | 0 => by simp [lastTo]
  | i + 1 => by
    have := lastTo_le (c := c) (l := l) i
    unfold lastTo
    split <;> omega
/-- a text's base and what stands behind its last point -/
def partsOf (l : List Nat) : List Nat × List Nat :=
  let d := (lastTo 46 l l.length).toNat
  if (l.take d).all (· == 46) then (l, []) else (l.take d, l.drop (d + 1))
theorem one_eq {a c : Nat} : ((⟨#[a]⟩ : Str) = ⟨#[c]⟩) ↔ a = c := by
  constructor
  · intro h; injection h with h; simpa using h
  · rintro rfl; rfl
theorem dot_eq : (Str.ofString ".") = (⟨#[46]⟩ : Str) := by decide +kernel
theorem last_hit {x : Str} {i c : Nat} {b : Bool} (h : x.cps[(0 + (i : Int)).toNat]? = some c) (hb : ((⟨#[c]⟩ : Str) == Str.ofString ".") = b) : lastTo 46 x.cps.toList (i + 1) = if b then 0 + (i : Int) else lastTo 46 x.cps.toList i := by
  have e : (0 + (i : Int)).toNat = i := by omega
  rw [e] at h
  have h' : x.cps.toList[i]? = some c := by simpa using h
  have hb' : b = (c == 46) := by
    rw [← hb, dot_eq]
    exact Bool.eq_iff_iff.mpr (by simp)
  rw [lastTo, h', hb']
  by_cases hc : c = 46
  · subst hc; simp
  · simp [hc]
theorem parts_one {l : List Nat} (h : (l.take (lastTo 46 l l.length).toNat).all (· == 46) = true) : partsOf l = (l, []) := by unfold partsOf; dsimp only; rw [if_pos h]
theorem parts_two {l : List Nat} (h : (l.take (lastTo 46 l l.length).toNat).all (· == 46) = false) : 0 ≤ lastTo 46 l l.length ∧ partsOf l = (l.take (lastTo 46 l l.length).toNat, l.drop (lastTo 46 l l.length + 1).toNat) := by
  have h0 : 0 ≤ lastTo 46 l l.length := by
    by_cases hn : 0 ≤ lastTo 46 l l.length
    · exact hn
    · have : (lastTo 46 l l.length).toNat = 0 := by omega
      rw [this] at h; simp at h
  refine ⟨h0, ?_⟩
  unfold partsOf; dsimp only; rw [h]
  simp only [Bool.false_eq_true, if_false]
  rw [show (lastTo 46 l l.length + 1).toNat = (lastTo 46 l l.length).toNat + 1 by omega]
abbrev tupO (vs : Array Value) : Obj := { cls := .type "tuple", data := .seq vs }
theorem carried_nil {ys : List Value} {ds : List PyData} (h : CarriedAll ys ds) : ys.isEmpty = ds.isEmpty := by cases h <;> rfl
theorem filt_nil (l : List Nat) (d : Nat → PyData) : ((l.filter fun c => c != 46).map d).isEmpty = l.all (· == 46) := by
  induction l with
  | nil => rfl
  | cons c l ih =>
    rw [List.filter_cons]
    by_cases h : c = 46
    · subst h; simpa using ih
    · simp [h]
theorem drop1 {h₀ h : Heap} {L : Addr} {e x : Addr × Obj} {l : List (Addr × Obj)} (N : News h₀ L h (e :: x :: l)) : News h₀ L h (e :: l) := fun p hp => N p ((List.mem_cons.mp hp).elim (fun q => q ▸ .head _) fun q => .tail _ (.tail _ q))
theorem drop2 {h₀ h : Heap} {L : Addr} {e x y : Addr × Obj} {l : List (Addr × Obj)} (N : News h₀ L h (e :: x :: y :: l)) : News h₀ L h (e :: l) := drop1 (drop1 N)
section
variable {w : World} {mean : ExcName → Option Value} {mg mb : Str → Option Value} {dp un : Nat} {env : Env} {outer : List Env} {A₀ : Around} {base h₀ : Heap} {L : Addr} {m : Str → Option Value} {s : Shared} {Q E : Value → Shared → Prop}
theorem parts_spec {x : Str} {t1 : Tok} {news : List (Addr × Obj)}
  (C : Cx w mean mg mb 1 dp un env outer A₀ base h₀ L) (F : Fr h₀ L s.heap m)
  (N : News h₀ L s.heap news) (hx : x.cps.size ≤ 19) 
  (ret : ∀ r b tb e te h' tk', b.cps.toList = (partsOf x.cps.toList).1 → e.cps.toList = (partsOf x.cps.toList).2 → Fr h₀ L h' m → News h₀ L h' ((r, tupO #[.str b tb, .str e te]) :: news) → Q (.ref r) {s with heap := h', toks := tk'}) :
  wpAny (model PR w) (Ar dp un env outer) (call (.ref 260) [.str x t1]) Q E s := by
  obtain ⟨B, X, T, hf, hke, hd, hu⟩ := C
  unfold PR
  refine wpAny_call ?_
  k_dflt walk_at "my_enter"
  intro g' L' h' FG' F' N' B' X' T'
  replace F' : Fr g' L' h' (lk [("text", .str x t1)]) := F'
  show wpAny _ _ (execs _ _) _ _ _
  k_fold
  k_steps
  refine ⟨?_⟩
  refine loopR (L := L') (σ := Int × Tok) (fun c => news) (fun c => [("dot", .int c.1 c.2)]) [] (fun i c => c.1 = lastTo 46 x.cps.toList i) (-1, _) (n := x.cps.size)
    rfl rfl (by k_asm) ?hsm ?hn (by k_asm) (by k_asm) (List.forall_mem_singleton.mpr rfl) rfl ?turn ?done
  case hsm => exact small_one (by decide) (by decide) (by omega) (by omega)
  case hn => rw [rangeSize_nat]; simp
  case turn =>
    rintro ⟨d, td⟩ i ti u h1 tk1 own hi hoff hadr hdot F1 N1
    dsimp only at hdot F1 N1 hadr hoff
    k_fold
    k_steps
    all_goals (
      refine ⟨?_⟩
      first | refine loopW_end' [] (_, _) (by k_asm) (by k_asm) rfl rfl (by dsimp only; exact List.forall_mem_singleton.mpr rfl) (by intro z h1 h2 h3; simp_all [kstB]) ?_ | refine loopW_end' [] (d, td) (by k_asm) (by k_asm) rfl rfl (by dsimp only; exact List.forall_mem_singleton.mpr rfl) (by intro z h1 h2 h3; simp_all [kstB]) ?_
      dsimp only
      rw [last_hit (by assumption) (by assumption)]
      simp [hdot])
  case done =>
    rintro ⟨d, td⟩ u h2 tk2 hadr hdot F2 N2
    dsimp only at hdot F2 N2
    dsimp only
    have hle := lastTo_le (c := 46) (l := x.cps.toList) x.cps.size
    rw [← hdot] at hle
    have hmax : (if 0 > d then 0 else d) = (d.toNat : Int) := by split <;> omega
    k_steps
    refine ⟨?_⟩
    rw [hmax]
    have htake := slice_take (x := x) (d := (d.toNat : Int)) (by omega) (by omega)
    have htakel : (Txt.slice x none (some (d.toNat : Int))).cps.size ≤ x.cps.size := Txt.slice_le x none _
    generalize Txt.slice x none (some (d.toNat : Int)) = y at *
    refine srcC_ch (fun c => c != 46) (fun c => .str ⟨#[c]⟩) rfl (by k_asm) (by k_asm) (by omega) ?g1 ?g2 ?g3
    case g1 =>
      rintro C a v s₂ m₂ E' ha ⟨_, tv, rfl⟩ hns hm hup
      k_steps
      · show (!((⟨#[a]⟩ : Str) == Str.ofString ".")) = (!(a == 46))
        rw [dot_eq]
        congr 1
        exact Bool.eq_iff_iff.mpr (by simp [one_eq])
      · exact ⟨_, _, rfl, fun _ _ e => e⟩
    case g2 =>
      rintro C a v s₂ m₂ E' ha ⟨_, tv, rfl⟩ hns hm hup
      k_steps
      · exact .str _ _
      · exact ⟨_, _, rfl, fun _ _ e => e⟩
    case g3 =>
      intro D ys n hD tkD FD ND hnD hys hup
      have hall : ys.isEmpty = (x.cps.toList.take (lastTo 46 x.cps.toList x.cps.toList.length).toNat).all (· == 46) := by
        rw [carried_nil hys, filt_nil, htake, Array.length_toList, ← hdot, Int.toNat_natCast]
      k_steps
      · have hemp : ys.isEmpty = true := by assumption
        rw [hemp] at hall
        have hp := parts_one hall.symm
        refine' ret _ _ _ _ _ _ _ ?p1 ?p2 ?F (drop2 ?N); (case N => assumption); (case F => k_asm); (case p1 => rw [hp]); (case p2 => rw [hp]; rfl)
      · have hemp : ys.isEmpty = false := by assumption
        rw [hemp] at hall
        obtain ⟨h0, hp⟩ := parts_two hall.symm
        rw [Array.length_toList, ← hdot] at h0 hp
        exact ret _ _ _ _ _ _ _ (by rw [hp]; exact slice_take (by omega) (by omega)) (by rw [hp]; exact slice_drop (by omega)) (by k_asm) (drop2 (by assumption))
end

-- 12_conform
theorem part12 : True := by
  w_top off
  trivial
section
variable {prog : Program} {w : World} {A : Around} {E : Value → Shared → Prop} {s : Shared} {env : Env} {h₀ : Heap} {x : Str} {body : List Stmt} {Q : Flow → Shared → Prop}
/-- a text's signs -/
theorem loopS {σ : Type} {L : Addr} {y : Str} {t₀ : Tok} {m₀ : Str → Option Value} (Led : σ → List (Addr × Obj)) (ps : σ → List (Str × Value)) (stored : List Str) (P : Nat → σ → Prop) (c₀ : σ)
    (hL : env.locals = L) (hh : A.handled = none)
    (F : Fr h₀ L s.heap m₀) (N : News h₀ L s.heap (Led c₀)) (hk : ∀ p ∈ ps c₀, m₀ p.1 = some p.2) (hp : P 0 c₀)
    (turn : ∀ (c : σ) (i : Nat) (q : Nat) (t : Tok) (u : Str → Option Value) h tk own, y.cps[i]? = some q → OwnOff own ((Led c₀).map (·.1)) → (Led c).map (·.1) = (Led c₀).map (·.1) → P i c →
      Fr h₀ L h (fun y => if y = x then some (.str ⟨#[q]⟩ t) else kstB (fun z => if stored.contains z then u z else m₀ z) (ps c) y) → News h₀ L h (Led c ++ own) →
      wpAny (model prog w) A (execs body env) (InvPostN h₀ L (KstS Led ps (fun c => (Led c).map (·.1) = (Led c₀).map (·.1)) x stored m₀ (fun _ => P (i + 1)) []) own ((Led c₀).map (·.1)) { s with heap := h, toks := tk } Q) E { s with heap := h, toks := tk })
    (done : ∀ (c : σ) (u : Str → Option Value) h tk, (Led c).map (·.1) = (Led c₀).map (·.1) → P y.cps.size c → Fr h₀ L h (fun y => if y = x then u y else kstB (fun z => if stored.contains z then u z else m₀ z) (ps c) y) → News h₀ L h (Led c) → Q .next { s with heap := h, toks := tk }) :
    wpAny (model prog w) A (pyIter (.str y t₀)) (fun it s₂ => LoopAtV prog w A h₀ env x body Q E it s₂) E s := by
  subst hL
  refine wpAny_pyIter_str fun o St Wk hst => ?_
  refine loopW Led ps stored P c₀ rfl (Wk A hh) (fun e => absurd F.ns.lt (e ▸ Nat.lt_irrefl _)) (next_is_new F) (fun p hp e => absurd (Heap.lt_size (N p hp).1) (e ▸ Nat.lt_irrefl _))
    hst (F.push _) (fun p hp => ⟨Heap.get?_push_of_some _ (N p hp).1, (N p hp).2⟩) hk hp ?_ done
  rintro c i v u h tk own hi ⟨q, t, hq, rfl⟩ hoff ha hp' F₁ N₁
  exact turn c i q t u h tk own hq hoff ha hp' F₁ N₁
end
local macro_rules | `(tactic| walk_at "exec For") => `(tactic| (k_here; (with_reducible show wpAny _ _ (exec (Stmt.For _ _ _ [] _) _) _ _ _); (rename Fr _ _ _ _ => lF'); (with_unfolding_all refine' For_invVF lF' ?k1 ?k2 ?_; (case k1 => exact rfl); (case k2 => exact rfl); k_whole)))
theorem tlN {h₀ h : Heap} {L : Addr} {e : Addr × Obj} {l : List (Addr × Obj)} (N : News h₀ L h (e :: l)) : News h₀ L h l := fun p hp => N p (.tail _ hp)
theorem apN {h₀ h : Heap} {L : Addr} {l o : List (Addr × Obj)} (N : News h₀ L h (l ++ o)) : News h₀ L h l := fun p hp => N p (List.mem_append_left _ hp)
theorem parts_len {l b e : List Nat} (hb : b = (partsOf l).1) (he : e = (partsOf l).2) : b.length + e.length ≤ l.length := by
  subst hb he
  unfold partsOf
  dsimp only
  split
  · simp
  · simp only [List.length_take, List.length_drop]; omega
theorem parts_size {x b e : Str} (hb : b.cps.toList = (partsOf x.cps.toList).1) (he : e.cps.toList = (partsOf x.cps.toList).2) : b.cps.size + e.cps.size ≤ x.cps.size := by
  simpa using parts_len hb he
local macro_rules | `(tactic| walk_at "call ref") => `(tactic| (k_here; (with_reducible show wpAny _ _ (call (Value.ref 260) _ _) _ _ _); k_dflt (refine parts_spec (by walk_at "my_cx") (by k_asm) (by k_asm) (by walk_at "my_sz") ?_; intro r' b' tb' e' te' h' tk' hb' he' F' N'; (have hbe' := parts_size hb' he'); (try k_sweep))))
section
variable {prog : Program} {w : World} {A : Around} {E : Value → Shared → Prop} {s : Shared} {x : Str} {t : Tok} {Q : Value → Shared → Prop}
theorem R_upper (hx : x.cps.size ≤ 1000) (h : ∀ t' k, Q (.str (Txt.upper x) t') { s with toks := k }) : wpAny (model prog w) A (call (.builtin "str.upper") [.str x t]) Q E s :=
  SC.upper (by
    have h1 := len_upper x
    have h2 : x.length = x.cps.size := rfl
    have h3 := sizeLine_eq
    unfold Builtin.Str.tooLong
    rw [sizeLine_eq]
    simp
    omega) (h _ _)
end
theorem words12a : True := by
  (k_with "call builtin:str.upper" => (k_here; (with_reducible show wpAny _ _ (call (Value.builtin "str.upper") _) _ _ _); refine R_upper (by first | exact Nat.le_of_ble_eq_true rfl | walk_at "my_sz") ?_; intro _ _))
  trivial
/-- a sign that a name may hold, as the law asks it -/
def okSign (c : Nat) : Bool := decide (c ≤ 255) && !(Txt.upper ⟨#[c]⟩ != ⟨#[c]⟩) && (Builtin.Str.occurrences (Str.ofString "\"*+,./:;<=>?[]|") ⟨#[c]⟩ 0 (Str.ofString "\"*+,./:;<=>?[]|").length 1).isEmpty && decide (c ≠ 92)
theorem ok_1 {q : Nat} (h : 255 < (q : Int)) : okSign q = false := by
  have : decide (q ≤ 255) = false := decide_eq_false (by omega)
  simp [okSign, this]
theorem ok_2 {q : Nat} (h : (Txt.upper ⟨#[q]⟩ != ⟨#[q]⟩) = true) : okSign q = false := by simp [okSign, h]
theorem ok_3 {q : Nat} (h : (Builtin.Str.occurrences (Str.ofString "\"*+,./:;<=>?[]|") ⟨#[q]⟩ 0 (Str.ofString "\"*+,./:;<=>?[]|").length 1).isEmpty = false) : okSign q = false := by simp [okSign, h]
theorem ok_4 {q : Nat} (h : (q : Int) = 92) : okSign q = false := by
  have : decide (q ≠ 92) = false := decide_eq_false (by omega)
  rw [okSign, this]; simp
theorem ok_5 {q : Nat} (h1 : ¬ 255 < (q : Int)) (h2 : (Txt.upper ⟨#[q]⟩ != ⟨#[q]⟩) = false) (h3 : (Builtin.Str.occurrences (Str.ofString "\"*+,./:;<=>?[]|") ⟨#[q]⟩ 0 (Str.ofString "\"*+,./:;<=>?[]|").length 1).isEmpty = true) (h4 : (q : Int) ≠ 92) : okSign q = true := by
  have a : decide (q ≤ 255) = true := decide_eq_true (by omega)
  have b : decide (q ≠ 92) = true := decide_eq_true (by omega)
  rw [okSign, a, h2, h3, b]; rfl
/-- the law's word on a text -/
def confOf (l : List Nat) : Bool := decide ((partsOf l).1.length ≤ 8) && decide ((partsOf l).2.length ≤ 3) && ((partsOf l).1 ++ (partsOf l).2).all okSign
theorem conf_b {l b : List Nat} (hb : b = (partsOf l).1) (h : 8 < b.length) : confOf l = false := by
  subst hb
  have : decide ((partsOf l).1.length ≤ 8) = false := decide_eq_false (by omega)
  simp [confOf, this]
theorem conf_e {l e : List Nat} (he : e = (partsOf l).2) (h : 3 < e.length) : confOf l = false := by
  subst he
  have : decide ((partsOf l).2.length ≤ 3) = false := decide_eq_false (by omega)
  simp [confOf, this]
theorem conf_s {l b e : List Nat} {q : Nat} (hb : b = (partsOf l).1) (he : e = (partsOf l).2) (hq : q ∈ b ++ e) (h : okSign q = false) : confOf l = false := by
  subst hb he
  have : ((partsOf l).1 ++ (partsOf l).2).all okSign = false := by
    rw [← Bool.not_eq_true, List.all_eq_true]
    intro ha
    rw [ha q hq] at h; cases h
  simp [confOf, this]
theorem conf_y {l b e : List Nat} (hb : b = (partsOf l).1) (he : e = (partsOf l).2) (h8 : b.length ≤ 8) (h3 : e.length ≤ 3) (h : ∀ q ∈ b ++ e, okSign q = true) : confOf l = true := by
  subst hb he
  have a : decide ((partsOf l).1.length ≤ 8) = true := decide_eq_true h8
  have b : decide ((partsOf l).2.length ≤ 3) = true := decide_eq_true h3
  have c : ((partsOf l).1 ++ (partsOf l).2).all okSign = true := List.all_eq_true.mpr h
  rw [confOf, a, b, c]; rfl
theorem cat_list {b e : Str} : (b ++ e).cps.toList = b.cps.toList ++ e.cps.toList := by rw [Str.cps_append, Array.toList_append]
theorem seen_step {y : Str} {i q : Nat} {p : Nat → Bool} (h : ∀ j c, j < i → y.cps[j]? = some c → p c = true) (hq : y.cps[i]? = some q) (hp : p q = true) : ∀ j c, j < i + 1 → y.cps[j]? = some c → p c = true := by
  intro j c hj hc
  by_cases hji : j < i
  · exact h j c hji hc
  · have : j = i := by omega
    subst this
    rw [hq] at hc
    cases hc
    exact hp
theorem seen_all {y : Str} {p : Nat → Bool} (h : ∀ j c, j < y.cps.size → y.cps[j]? = some c → p c = true) : ∀ q ∈ y.cps.toList, p q = true := by
  intro q hq
  obtain ⟨j, hj, e⟩ := List.mem_iff_getElem.mp hq
  have hj' : j < y.cps.size := by simpa using hj
  refine h j q hj' ?_
  rw [Array.getElem?_eq_getElem hj']
  simpa using e
section
variable {w : World} {mean : ExcName → Option Value} {mg mb : Str → Option Value} {dp un : Nat} {env : Env} {outer : List Env} {A₀ : Around} {base h₀ : Heap} {L : Addr} {m : Str → Option Value} {s : Shared} {Q E : Value → Shared → Prop}
theorem conform_spec {x : Str} {t1 : Tok} {news : List (Addr × Obj)}
  (C : Cx w mean mg mb 2 dp un env outer A₀ base h₀ L) (F : Fr h₀ L s.heap m)
  (N : News h₀ L s.heap news) (hx : x.cps.size ≤ 19)
  (ret : ∀ h' tk', Fr h₀ L h' m → News h₀ L h' news → Q (.bool (confOf x.cps.toList)) {s with heap := h', toks := tk'}) :
  wpAny (model PR w) (Ar dp un env outer) (call (.ref 267) [.str x t1]) Q E s := by
  obtain ⟨B, X, T, hf, hke, hd, hu⟩ := C
  unfold PR
  refine wpAny_call ?_
  k_dflt walk_at "my_enter"
  intro g' L' h' FG' F' N' B' X' T'
  replace F' : Fr g' L' h' (lk [("text", .str x t1)]) := F'
  show wpAny _ _ (execs _ _) _ _ _
  k_fold
  k_steps
  · have e := conf_b (l := x.cps.toList) (by assumption) (by rw [Array.length_toList]; omega)
    rw [e] at ret
    exact ret _ _ (by k_asm) (tlN (by assumption))
  · have e := conf_e (l := x.cps.toList) (by assumption) (by rw [Array.length_toList]; omega)
    rw [e] at ret
    exact ret _ _ (by k_asm) (tlN (by assumption))
  · refine ⟨?_⟩
    rename_i b' tb e' te _ _ hb he _ _ _ _ _ _ _ _ _ _ _
    refine loopS (L := L') (σ := Unit) (fun _ => news) (fun _ => []) [] (fun i _ => ∀ j c, j < i → (b' ++ e').cps[j]? = some c → okSign c = true) () rfl rfl (by k_asm) (tlN (by assumption)) (fun p hp => nomatch hp) (fun j c h => absurd h (Nat.not_lt_zero _)) ?turn ?done
    case turn =>
      rintro _ i q tq u h1 tk1 own hq hoff hadr hseen F1 N1
      k_fold
      k_steps
      all_goals first
        | (refine ⟨?_⟩
           refine loopW_end' [] () (by k_asm) (by k_asm) rfl rfl (fun p hp => nomatch hp) (by intro z h1 h2 h3; simp_all [kstB]) ?_
           exact seen_step hseen hq (ok_5 (by assumption) (by assumption) (by assumption) (by assumption)))
        | (have e := conf_s (l := x.cps.toList) hb he (by rw [← cat_list]; exact mem_of_at hq) (by first | exact ok_1 (by assumption) | exact ok_2 (by assumption) | exact ok_3 (by assumption) | exact ok_4 (by assumption))
           rw [e] at ret
           exact ret _ _ (by k_asm) (apN (by assumption)))
    case done =>
      rintro _ u h2 tk2 hadr hseen F2 N2
      k_steps
      have e := conf_y (l := x.cps.toList) hb he (by rw [Array.length_toList]; omega) (by rw [Array.length_toList]; omega) (by rw [← cat_list]; exact seen_all hseen)
      rw [e] at ret
      exact ret _ _ (by k_asm) (by k_asm)
end

-- 13_loopx
theorem part13 : True := by
  w_top off
  trivial
/-- a turn's end, where the ledger may change its addresses -/
def EndX (h₀ : Heap) (L : Addr) (own : List (Addr × Obj)) (J : (Str → Option Value) → List (Addr × Obj) → Prop) (s₁ s₂ : Shared) : Prop :=
  ∃ h' tk m' nx, s₂ = { s₁ with heap := h', toks := tk } ∧ Fr h₀ L h' m' ∧ News h₀ L h' (nx ++ own) ∧ (∀ p ∈ nx, ∀ q ∈ own, @Ne Nat p.1 q.1) ∧ J m' nx
def PostX (h₀ : Heap) (L : Addr) (own : List (Addr × Obj)) (J : (Str → Option Value) → List (Addr × Obj) → Prop) (s₁ : Shared) (Q : Flow → Shared → Prop) (f : Flow) (s₂ : Shared) : Prop :=
  match f with
  | .ret v => Q (.ret v) s₂
  | .brk => Q .next s₂
  | _ => EndX h₀ L own J s₁ s₂
theorem words13a : True := by
  (k_with "PostX" => (dsimp only [PostX]))
  (k_with "EndX" => (k_here; refine Stop.out ?_))
  trivial
section
variable {prog : Program} {w : World} {A : Around} {E : Value → Shared → Prop} {s : Shared} {env : Env} {h₀ : Heap} {x : Str} {target : Expr} {body : List Stmt} {Q : Flow → Shared → Prop}
theorem endX_step {wr fp : List Addr} {own : List (Addr × Obj)} {J : (Str → Option Value) → List (Addr × Obj) → Prop} {s₁ s₂ : Shared} {L : Addr} {nx₀ : List (Addr × Obj)} (ob : Addr → Obj)
    (hwr : ∀ b ∈ wr, h₀.get? b = none) (hsub : ∀ b ∈ wr, b ∈ fp) (hown : ∀ p ∈ own, p.1 ∈ fp) (hcov : ∀ b ∈ fp, h₀.get? b = none → ∀ o, s₁.heap.get? b = some o → (b, o) ∈ own) (hal : ∀ b ∈ wr, ∃ o, s₁.heap.get? b = some o)
    (N₀ : News h₀ L s₁.heap (own ++ nx₀)) (hf₀ : ∀ b ∈ fp, b ∉ wr → (b, ob b) ∈ nx₀) (hJf : ∀ m nx, J m nx → ∀ b ∈ fp, b ∉ wr → (b, ob b) ∈ nx)
    (h : EndX h₀ L (own.filter fun p => decide (p.1 ∈ wr)) J s₁ s₂) : LoopStepU h₀ L wr own J s₁ .next s₂ := by
  obtain ⟨h', tk, m', nx, rfl, F', N', hap, hJ⟩ := h
  refine ⟨rfl, h', tk, m', nx, rfl, F', fun p hp => ?_, fun p hp hq => ?_, hJ⟩
  · rcases List.mem_append.mp hp with hp | hp
    · by_cases hw : p.1 ∈ wr
      · exact N' p (List.mem_append_right _ (List.mem_filter.mpr ⟨hp, decide_eq_true hw⟩))
      · have h1 := N' _ (List.mem_append_left _ (hJf _ _ hJ p.1 (hown p hp) hw))
        have h2 := (N₀ _ (List.mem_append_right _ (hf₀ p.1 (hown p hp) hw))).1
        have h3 := (N₀ p (List.mem_append_left _ hp)).1
        have e : ob p.1 = p.2 := Option.some.inj (h2.symm.trans h3)
        exact ⟨by rw [← e]; exact h1.1, h1.2⟩
    · exact N' p (List.mem_append_left _ hp)
  · obtain ⟨o, ho⟩ := hal _ hq
    have hin := hcov _ (hsub _ hq) (hwr _ hq) o ho
    exact hap p hp _ (List.mem_filter.mpr ⟨hin, decide_eq_true hq⟩) rfl
theorem postX_step {wr fp : List Addr} {own : List (Addr × Obj)} {J : (Str → Option Value) → List (Addr × Obj) → Prop} {s₁ s₂ : Shared} {L : Addr} {f : Flow}
    (h : EndX h₀ L (own.filter fun p => decide (p.1 ∈ wr)) J s₁ s₂ → LoopStepU h₀ L wr own J s₁ .next s₂)
    (hp : PostX h₀ L (own.filter fun p => decide (p.1 ∈ wr)) J s₁ Q f s₂) : LoopStepV h₀ L wr own J s₁ (fun v s' => Q (.ret v) s') (fun s' => Q .next s') f s₂ := by
  cases f with
  | ret v => exact hp
  | brk => exact hp
  | next => exact h hp
  | cont => exact h hp
theorem loopX {I : Addr} {fp wr : List Addr} {n : Nat} {P : Nat → Value → Prop} {St : Nat → Heap → Prop} {m₀ : Str → Option Value} {news : List (Addr × Obj)} {L : Addr} (ob : Addr → Obj) (J : Nat → (Str → Option Value) → List (Addr × Obj) → Prop)
    (hL : env.locals = L) (Wk : Walks prog w A I fp wr n P St) (hLf : L ∉ fp) (hwr : ∀ b ∈ wr, h₀.get? b = none) (hnw : ∀ p ∈ news, p.1 ∉ wr) (hst : St 0 s.heap) (hal : ∀ i h, St i h → ∀ b ∈ wr, ∃ o, h.get? b = some o)
    (F : Fr h₀ L s.heap m₀) (N : News h₀ L s.heap news) (hj : J 0 m₀ news) (hJf : ∀ i m nx, J i m nx → ∀ b ∈ fp, b ∉ wr → (b, ob b) ∈ nx)
    (turn : ∀ i v m₁ nx h tk own, i < n → P i v → J i m₁ nx → (∀ p ∈ nx, ∀ q ∈ own, @Ne Nat p.1 q.1) → Fr h₀ L h (fun y => if y = x then some v else m₁ y) → News h₀ L h (nx ++ own) →
      wpAny (model prog w) A (execs body env) (PostX h₀ L own (J (i + 1)) { s with heap := h, toks := tk } Q) E { s with heap := h, toks := tk })
    (done : ∀ m₁ nx h tk, J n m₁ nx → Fr h₀ L h m₁ → News h₀ L h nx → Q .next { s with heap := h, toks := tk }) :
    LoopAtV prog w A h₀ env x body Q E (.ref I) s := by
  subst hL
  refine ⟨I, fp, wr, n, P, St, m₀, news, J, rfl, Wk, hLf, hwr, hnw, hst, F, N, hj, ?_, ?_⟩
  · rintro i v m₁ news₁ s₁ own ⟨h, tk, rfl⟩ hin hP hJ hoff hown hal' hcov hst' F₁ N₁
    refine wpAny_mono (turn i v m₁ news₁ h tk (own.filter fun p => decide (p.1 ∈ wr)) hin hP hJ ?_ F₁ ?_) (fun f s₂ p => ?_) fun _ _ e => e
    · intro p hp q hq e
      exact hoff p hp ((show p.1 = q.1 from e) ▸ of_decide_eq_true (List.mem_filter.mp hq).2)
    · intro p hp
      rcases List.mem_append.mp hp with hp | hp
      · exact N₁ p (List.mem_append_right _ hp)
      · exact N₁ p (List.mem_append_left _ (List.mem_filter.mp hp).1)
    · exact postX_step (fp := fp) (endX_step ob hwr Wk.sub hown hcov (hal _ _ hst') N₁ (hJf _ _ _ hJ) (hJf _)) p
  · intro h' tk m' news' F' N' hnw' hJ
    exact done m' news' h' tk hJ F' N'
theorem loopXT {I : Addr} {fp wr : List Addr} {n : Nat} {P Md : Nat → Value → Heap → Prop} {St : Nat → Heap → Prop} {m₀ : Str → Option Value} {news : List (Addr × Obj)} {L : Addr} (ob : Addr → Obj) (J : Nat → (Str → Option Value) → List (Addr × Obj) → Prop)
    (hL : env.locals = L) (Wk : KTurns prog w A target I fp wr n P Md St) (hLf : L ∉ fp) (hwr : ∀ b ∈ wr, h₀.get? b = none) (hnw : ∀ p ∈ news, p.1 ∉ wr) (hst : St 0 s.heap) (hal : ∀ i h, St i h → ∀ b ∈ wr, ∃ o, h.get? b = some o)
    (F : Fr h₀ L s.heap m₀) (N : News h₀ L s.heap news) (hj : J 0 m₀ news) (hJf : ∀ i m nx, J i m nx → ∀ b ∈ fp, b ∉ wr → (b, ob b) ∈ nx)
    (turn : ∀ i v m₁ nx h tk own, i < n → P i v h → J i m₁ nx → (∀ p ∈ nx, ∀ q ∈ own, @Ne Nat p.1 q.1) → Fr h₀ L h m₁ → News h₀ L h (nx ++ own) →
      wpAny (model prog w) A (assign target env v) (fun _ s₃ => wpAny (model prog w) A (execs body env) (PostX h₀ L own (J (i + 1)) { s with heap := h, toks := tk } Q) E s₃) E { s with heap := h, toks := tk })
    (done : ∀ m₁ nx h tk, J n m₁ nx → Fr h₀ L h m₁ → News h₀ L h nx → Q .next { s with heap := h, toks := tk }) :
    TurnsAt prog w A h₀ env target body Q E (.ref I) s := by
  subst hL
  refine ⟨I, fp, wr, n, P, Md, St, m₀, news, J, rfl, Wk, hLf, hwr, hnw, hst, F, N, hj, ?_, ?_⟩
  · rintro i v m₁ news₁ h tk own hin hP hJ hoff hown hal' hcov hst' F₁ N₁
    refine wpAny_mono (turn i v m₁ news₁ h tk (own.filter fun p => decide (p.1 ∈ wr)) hin hP hJ ?_ F₁ ?_) (fun _ s₃ q => wpAny_mono q (fun f s₂ p => ?_) fun _ _ e => e) fun _ _ e => e
    · intro p hp q hq e
      exact hoff p hp ((show p.1 = q.1 from e) ▸ of_decide_eq_true (List.mem_filter.mp hq).2)
    · intro p hp
      rcases List.mem_append.mp hp with hp | hp
      · exact N₁ p (List.mem_append_right _ hp)
      · exact N₁ p (List.mem_append_left _ (List.mem_filter.mp hp).1)
    · exact postX_step (fp := fp) (endX_step ob hwr Wk.sub hown hcov (hal _ _ hst') N₁ (hJf _ _ _ hJ) (hJf _)) p
  · intro h' tk m' news' F' N' hnw' hJ
    exact done m' news' h' tk hJ F' N'
/-- a made range's turns -/
theorem loopXR {L : Addr} {r : Addr} {a₀ b₀ : Int} {t₀ u₀ v₀ : Tok} {n : Nat} {m₀ : Str → Option Value} {news : List (Addr × Obj)} (J : Nat → (Str → Option Value) → List (Addr × Obj) → Prop)
    (hL : env.locals = L) (hh : A.handled = none) (hr : IsRange s.heap r a₀ b₀ 1 t₀ u₀ v₀) (hsmall : Builtin.Range.small a₀ b₀ 1 = true) (hn : Builtin.Range.rangeSize a₀ b₀ 1 = (n : Int))
    (F : Fr h₀ L s.heap m₀) (N : News h₀ L s.heap news) (hj : J 0 m₀ news)
    (turn : ∀ i t m₁ nx h tk own, i < n → J i m₁ nx → (∀ p ∈ nx, ∀ q ∈ own, @Ne Nat p.1 q.1) → Fr h₀ L h (fun y => if y = x then some (.int (a₀ + (i : Int)) t) else m₁ y) → News h₀ L h (nx ++ own) →
      wpAny (model prog w) A (execs body env) (PostX h₀ L own (J (i + 1)) { s with heap := h, toks := tk } Q) E { s with heap := h, toks := tk })
    (done : ∀ m₁ nx h tk, J n m₁ nx → Fr h₀ L h m₁ → News h₀ L h nx → Q .next { s with heap := h, toks := tk }) :
    wpAny (model prog w) A (pyIter (.ref r)) (fun it s₂ => LoopAtV prog w A h₀ env x body Q E it s₂) E s := by
  refine wpAny_pyIter_range hr hsmall ?_
  have Wk : Walks prog w A s.heap.objs.size [s.heap.objs.size] [s.heap.objs.size] n (fun i v => i < n ∧ ∃ t, v = .int (a₀ + i * 1) t)
      (fun i h => IsRangeIter h s.heap.objs.size (a₀ + (i : Nat) * 1) ((n : Int) - (i : Nat)) 1) := (Walks.range hh _ a₀ 1 n).bound
  refine loopX (m₀ := m₀) (news := news) (L := L) (fun _ => default) J hL Wk (fun e => ?_) (fun b hb => ?_) (fun p hp e => ?_) ?_ (fun i h st b hb => ?_) (F.push _) (fun p hp => ⟨Heap.get?_push_of_some _ (N p hp).1, (N p hp).2⟩) hj (fun i m nx _ b hb hn => absurd hb hn) ?_ done
  · exact absurd F.ns.lt ((List.mem_singleton.mp e) ▸ Nat.lt_irrefl _)
  · rw [List.mem_singleton.mp hb]; exact next_is_new F
  · exact absurd (Heap.lt_size (N p hp).1) ((List.mem_singleton.mp e) ▸ Nat.lt_irrefl _)
  · show IsRangeIter _ _ _ _ _; rw [hn]; simpa using Heap.get?_push_size _ rfl
  · rw [List.mem_singleton.mp hb]; exact ⟨_, st⟩
  · rintro i v m₁ nx h tk own hi ⟨_, t, rfl⟩ hJ hap F₁ N₁
    have e1 : a₀ + (i : Int) * 1 = a₀ + (i : Int) := by omega
    rw [e1] at F₁
    exact turn i t m₁ nx h tk own hi hJ hap F₁ N₁
/-- a made list's turns -/
theorem loopXL {L a : Addr} {vs : List Value} {k : Nat} {m₀ : Str → Option Value} {news : List (Addr × Obj)} (J : Nat → (Str → Option Value) → List (Addr × Obj) → Prop)
    (hL : env.locals = L) (hh : A.handled = none)
    (F : Fr h₀ L s.heap m₀) (N : News h₀ L s.heap news) (hm : (a, W.listOf vs.toArray k) ∈ news) (hj : J 0 m₀ news) (hJf : ∀ i m nx, J i m nx → (a, W.listOf vs.toArray k) ∈ nx)
    (turn : ∀ i v m₁ nx h tk own, vs[i]? = some v → J i m₁ nx → (∀ p ∈ nx, ∀ q ∈ own, @Ne Nat p.1 q.1) → Fr h₀ L h (fun y => if y = x then some v else m₁ y) → News h₀ L h (nx ++ own) →
      wpAny (model prog w) A (execs body env) (PostX h₀ L own (J (i + 1)) { s with heap := h, toks := tk } Q) E { s with heap := h, toks := tk })
    (done : ∀ m₁ nx h tk, J vs.length m₁ nx → Fr h₀ L h m₁ → News h₀ L h nx → Q .next { s with heap := h, toks := tk }) :
    wpAny (model prog w) A (pyIter (.ref a)) (fun it s₂ => LoopAtV prog w A h₀ env x body Q E it s₂) E s := by
  have ha := N _ hm
  have hl : s.heap.IsList a vs.toArray := ⟨_, ha.1, rfl, k, rfl⟩
  have hne : a ≠ s.heap.objs.size := Nat.ne_of_lt (Heap.lt_size ha.1)
  refine wpAny_pyIter_list hl ?_
  refine loopX (m₀ := m₀) (news := news) (L := L) (n := vs.toArray.size) (fun _ => W.listOf vs.toArray k) J hL (Walks.list hh s.heap.objs.size a hne vs.toArray) (fun e => ?_) (fun b hb => ?_) (fun p hp e => ?_) ?_ (fun i h st b hb => ?_) (F.push _) (fun p hp => ⟨Heap.get?_push_of_some _ (N p hp).1, (N p hp).2⟩) hj (fun i m nx hJ b hb hn => ?_) ?_ ?_
  · rcases List.mem_cons.mp e with e | e
    · exact absurd F.ns.lt (e ▸ Nat.lt_irrefl _)
    · exact ha.2.1 (List.mem_singleton.mp e).symm
  · rw [List.mem_singleton.mp hb]; exact next_is_new F
  · exact absurd (Heap.lt_size (N p hp).1) ((List.mem_singleton.mp e) ▸ Nat.lt_irrefl _)
  · exact ⟨⟨_, Heap.get?_push_size _ rfl, rfl, rfl⟩, hl.at fun o e => Heap.get?_push_of_some _ e⟩
  · rw [List.mem_singleton.mp hb]; obtain ⟨o, ho, _⟩ := st.1; exact ⟨o, ho⟩
  · have hb' : b = s.heap.objs.size ∨ b = a := by simpa using hb
    rcases hb' with e | e
    · exact absurd (by simp [e]) hn
    · rw [e]; exact hJf i m nx hJ
  · intro i v m₁ nx h tk own hi hP hJ hap F₁ N₁
    have hP' : vs.toArray[i]? = some v := hP
    exact turn i v m₁ nx h tk own (by simpa using hP') hJ hap F₁ N₁
  · intro m₁ nx h tk hJ
    exact done m₁ nx h tk (by simpa using hJ)
/-- a made tuple's turns, unpacked -/
theorem loopXTup {L a : Addr} {vs : List Value} {m₀ : Str → Option Value} {news : List (Addr × Obj)} (J : Nat → (Str → Option Value) → List (Addr × Obj) → Prop)
    (hL : env.locals = L) (hh : A.handled = none)
    (F : Fr h₀ L s.heap m₀) (N : News h₀ L s.heap news) (hm : (a, tupO vs.toArray) ∈ news) (hj : J 0 m₀ news) (hJf : ∀ i m nx, J i m nx → (a, tupO vs.toArray) ∈ nx)
    (turn : ∀ i v m₁ nx h tk own, vs[i]? = some v → J i m₁ nx → (∀ p ∈ nx, ∀ q ∈ own, @Ne Nat p.1 q.1) → Fr h₀ L h m₁ → News h₀ L h (nx ++ own) →
      wpAny (model prog w) A (assign target env v) (fun _ s₃ => wpAny (model prog w) A (execs body env) (PostX h₀ L own (J (i + 1)) { s with heap := h, toks := tk } Q) E s₃) E { s with heap := h, toks := tk })
    (done : ∀ m₁ nx h tk, J vs.length m₁ nx → Fr h₀ L h m₁ → News h₀ L h nx → Q .next { s with heap := h, toks := tk }) :
    wpAny (model prog w) A (pyIter (.ref a)) (fun it s₂ => TurnsAt prog w A h₀ env target body Q E it s₂) E s := by
  have ha := N _ hm
  have hl : s.heap.IsTuple a vs.toArray := ⟨_, ha.1, rfl, 0, rfl⟩
  have hne : a ≠ s.heap.objs.size := Nat.ne_of_lt (Heap.lt_size ha.1)
  refine wpAny_pyIter_tuple hl ?_
  refine loopXT (m₀ := m₀) (news := news) (L := L) (n := vs.toArray.size) (fun _ => tupO vs.toArray) J hL (KTurns.ofWalks (Walks.tuple hh s.heap.objs.size a hne vs.toArray) fun i v s Q E st q => letGo_tupleiter st.1 q) (fun e => ?_) (fun b hb => ?_) (fun p hp e => ?_) ?_ (fun i h st b hb => ?_) (F.push _) (fun p hp => ⟨Heap.get?_push_of_some _ (N p hp).1, (N p hp).2⟩) hj (fun i m nx hJ b hb hn => ?_) ?_ ?_
  · rcases List.mem_cons.mp e with e | e
    · exact absurd F.ns.lt (e ▸ Nat.lt_irrefl _)
    · exact ha.2.1 (List.mem_singleton.mp e).symm
  · rw [List.mem_singleton.mp hb]; exact next_is_new F
  · exact absurd (Heap.lt_size (N p hp).1) ((List.mem_singleton.mp e) ▸ Nat.lt_irrefl _)
  · exact ⟨⟨_, Heap.get?_push_size _ rfl, rfl, rfl⟩, hl.at fun o e => Heap.get?_push_of_some _ e⟩
  · rw [List.mem_singleton.mp hb]; obtain ⟨o, ho, _⟩ := st.1; exact ⟨o, ho⟩
  · have hb' : b = s.heap.objs.size ∨ b = a := by simpa using hb
    rcases hb' with e | e
    · exact absurd (by simp [e]) hn
    · rw [e]; exact hJf i m nx hJ
  · intro i v m₁ nx h tk own hi hP hJ hap F₁ N₁
    have hP' : vs.toArray[i]? = some v := hP
    exact turn i v m₁ nx h tk own (by simpa using hP') hJ hap F₁ N₁
  · intro m₁ nx h tk hJ
    exact done m₁ nx h tk (by simpa using hJ)
end

-- 14_laid
theorem part14 : True := by
  w_top off
  trivial
theorem words14a : True := by
  (k_with "call ref" => (k_here; (with_reducible show wpAny _ _ (call (Value.ref 267) _ _) _ _ _); k_dflt (refine conform_spec (by walk_at "my_cx") (by k_asm) (by k_asm) (by walk_at "my_sz") ?_; intros; (try k_sweep))))
  trivial
local macro_rules | `(tactic| walk_at "pyIter ref") => `(tactic| (k_here; (with_reducible show wpAny _ _ (pyIter (Value.ref _)) (fun it s₂ => TurnsAt _ _ _ _ _ _ _ _ _ it s₂) _ _); refine Stop.out ?_))
theorem words14b : True := by
  (k_with "exec Assign cons ListComp" => ((with_reducible apply Assign_ListComp_rowsP); (case hsw => with_unfolding_all rfl); (case hfree => decide); (case hcell => decide); (case hkind => with_unfolding_all rfl); (case hnames => decide); (case hx => with_unfolding_all rfl); (case hy => with_unfolding_all rfl); (case hp => with_unfolding_all rfl); (case hs => intro _; with_unfolding_all rfl)))
  trivial
/-- less the blanks at its beginning -/
def leadL (l : List Int) : List Int := l.dropWhile (· = 32)
/-- a part of a name, padded -/
def layOf (p : List Nat) (z : Nat) : List Int := bareL (leadL (p.map Int.ofNat)) ++ List.replicate (z - (bareL (leadL (p.map Int.ofNat))).length) 32
def laidOf (l : List Nat) : List Int := layOf (partsOf l).1 8 ++ layOf (partsOf l).2 3
abbrev mLaid (D : Addr) (u : Str → Option Value) (l : List (Str × Value)) : Str → Option Value :=
  fun y => if y = "laid" then some (.ref D) else if y = "part" then u y else if y = "size" then u y else if y = "octets" then u y else lk l y
theorem mLaid_start {D : Addr} {l : List (Str × Value)} {m : Str → Option Value} (h : ∀ y, m y = if y = "laid" then some (.ref D) else lk l y) : m = mLaid D (lk l) l := by
  funext y
  rw [h y]
  simp [mLaid]
theorem mLaid_turn {D : Addr} {l : List (Str × Value)} {m : Str → Option Value} (h : m "laid" = some (.ref D)) (h2 : ∀ y : Str, y ≠ "laid" → y ≠ "part" → y ≠ "size" → y ≠ "octets" → m y = lk l y) : m = mLaid D m l := by
  funext y
  unfold mLaid
  by_cases h1 : y = "laid"
  · rw [if_pos h1, h1, h]
  · rw [if_neg h1]
    by_cases a : y = "part"
    · rw [if_pos a]
    · rw [if_neg a]
      by_cases b : y = "size"
      · rw [if_pos b]
      · rw [if_neg b]
        by_cases c : y = "octets"
        · rw [if_pos c]
        · rw [if_neg c]; exact h2 y h1 a b c
theorem isTup_of {h₀ h : Heap} {L t : Addr} {vs : Array Value} {news : List (Addr × Obj)} (N : News h₀ L h news) (hm : (t, tupO vs) ∈ news) : IsTup h t vs := ⟨_, (N _ hm).1, rfl, 0, rfl⟩
theorem pair_at {T U : Addr} {b e : Str} {tb te t8 t3 : Tok} {led : List (Addr × Obj)} {i : Nat} {v : Value} (hv : [Value.ref T, Value.ref U][i]? = some v)
    (hT : (T, tupO #[.str b tb, .int 8 t8]) ∈ led) (hU : (U, tupO #[.str e te, .int 3 t3]) ∈ led) :
    ∃ V p tp z tz, v = .ref V ∧ (V, tupO #[.str p tp, .int (z : Nat) tz]) ∈ led ∧ ((i = 0 ∧ p = b ∧ z = 8) ∨ (i = 1 ∧ p = e ∧ z = 3)) := by
  match i, hv with
  | 0, hv => cases hv; exact ⟨T, b, tb, 8, t8, rfl, hT, .inl ⟨rfl, rfl, rfl⟩⟩
  | 1, hv => cases hv; exact ⟨U, e, te, 3, t3, rfl, hU, .inr ⟨rfl, rfl, rfl⟩⟩
  | i + 2, hv => simp at hv
theorem put_put {x : Str} {v v' : Option Value} {f : Str → Option Value} : (fun q => if q = x then v else (if q = x then v' else f q)) = fun q => if q = x then v else f q := by
  funext q
  by_cases h : q = x <;> simp [h]
abbrev mTurn (p : Str) (tp : Tok) (z : Nat) (tz : Tok) (D : Addr) (u : Str → Option Value) (l : List (Str × Value)) : Str → Option Value :=
  fun y => if y = "size" then some (.int z tz) else if y = "part" then some (.str p tp) else mLaid D u l y
theorem leadL_cons {l : List Int} (h : l[0]? = some 32) : leadL l = leadL (l.drop 1) := by
  cases l with
  | nil => simp at h
  | cons a l => simp at h; subst h; rfl
theorem leadL_stop {l : List Int} {a : Int} (h : l[0]? = some a) (ha : a ≠ 32) : leadL l = l := by
  cases l with
  | nil => simp at h
  | cons b l => simp at h; subst h; simp [leadL, ha]
theorem bareL_le (l : List Int) : (bareL l).length ≤ l.length := by
  unfold bareL
  have := List.IsSuffix.length_le (List.dropWhile_suffix (l := l.reverse) (fun x => decide (x = 32)))
  simpa using this
theorem leadL_le (l : List Int) : (leadL l).length ≤ l.length := List.IsSuffix.length_le (List.dropWhile_suffix (l := l) (fun x => decide (x = 32)))
theorem layOf_len {p : List Nat} {z : Nat} (h : p.length ≤ z) : (layOf p z).length = z := by
  have h1 := bareL_le (leadL (p.map Int.ofNat))
  have h2 := leadL_le (p.map Int.ofNat)
  rw [List.length_map] at h2
  simp only [layOf, List.length_append, List.length_replicate]
  omega
theorem leadL_go {l : List Int} (h0 : 0 < (l.length : Int)) (h : l.getD (Int.toNat 0) 0 = 32) : leadL (l.drop 1) = leadL l := by
  cases l with
  | nil => simp at h0
  | cons a l => simp at h; subst h; rfl
theorem leadL_end {l : List Int} (h0 : 0 < (l.length : Int)) (h : l.getD (Int.toNat 0) 0 ≠ 32) : leadL l = l := by
  cases l with
  | nil => simp at h0
  | cons a l => simp at h; simp [leadL, h]
theorem leadL_nil {l : List Int} (h0 : ¬ 0 < (l.length : Int)) : leadL l = l := by
  cases l with
  | nil => rfl
  | cons a l => exact absurd (by simp) h0
theorem drop6 {h₀ h : Heap} {L : Addr} {e a b c d f g : Addr × Obj} {l : List (Addr × Obj)} (N : News h₀ L h (e :: a :: b :: c :: d :: f :: g :: l)) : News h₀ L h (e :: l) := drop1 (drop1 (drop1 (drop1 (drop1 (drop1 N)))))
theorem rot3 {h₀ h : Heap} {L : Addr} {a b c d : Addr × Obj} {l : List (Addr × Obj)} (N : News h₀ L h (a :: b :: c :: d :: l)) : News h₀ L h (d :: a :: b :: c :: l) := fun p hp => N p (by
  simp only [List.mem_cons] at hp ⊢
  rcases hp with h | h | h | h | h <;> simp [h])
theorem lk_cons {x : Str} {v : Value} {l : List (Str × Value)} {y : Str} : lk ((x, v) :: l) y = if y = x then some v else lk l y := by
  by_cases h : y = x
  · subst h; simp [lk]
  · have : (y == x) = false := by simpa using h
    simp only [lk, if_neg h, List.lookup_cons, this]
theorem lt_own {D : Addr} {n₀ own : List (Addr × Obj)} (h : AllLt D (n₀ ++ own)) : ∀ q ∈ own, @Ne Nat D q.1 := fun q hq => (Nat.ne_of_lt (ktn_ltOf h q (List.mem_append_right _ hq))).symm
theorem lay_turn {i : Nat} {ns : List Int} {b e p : Str} {z : Nat} (hns : ns = (if i = 0 then [] else if i = 1 then layOf b.cps.toList 8 else layOf b.cps.toList 8 ++ layOf e.cps.toList 3))
    (hpz : (i = 0 ∧ p = b ∧ z = 8) ∨ (i = 1 ∧ p = e ∧ z = 3)) : ns ++ layOf p.cps.toList z = (if i + 1 = 0 then [] else if i + 1 = 1 then layOf b.cps.toList 8 else layOf b.cps.toList 8 ++ layOf e.cps.toList 3) := by
  rcases hpz with ⟨rfl, rfl, rfl⟩ | ⟨rfl, rfl, rfl⟩ <;> simp [hns]
theorem lay_eq {ns' : List Int} {p : List Nat} {z : Nat} (h : leadL ns' = leadL (p.map Int.ofNat)) (hs : leadL ns' = ns') (ns : List Int) :
    ns ++ bareL ns' ++ (List.replicate ((z : Int) - ((bareL ns').length : Int)).toNat [(32 : Int)]).flatten = ns ++ layOf p z := by
  have e : bareL (leadL (p.map Int.ofNat)) = bareL ns' := by rw [← h, hs]
  have e2 : ((z : Int) - ((bareL ns').length : Int)).toNat = z - (bareL ns').length := by omega
  unfold layOf
  rw [e, e2, List.append_assoc]
  simp
theorem words14c : True := by
  (k_with "my_sum" => (rw [sizeLine_eq]; (try simp only [List.length_append, List.length_cons, List.length_nil]); omega))
  trivial
local macro_rules | `(tactic| walk_at "binaryOp Add ref ref") => `(tactic| (k_here; (with_reducible show wpAny _ _ (binaryOp _ (Value.ref _) (Value.ref _)) _ _ _); k_dflt (refine' kmk_add_ints ?F ?N ?a ?b ?i ?j ?_ ?z; (case F => k_asm); (case N => k_asm); (case a => is_list); (case b => is_list); (case i => l_ints); (case j => l_ints); (case z => walk_at "my_sum")); intro D' ws' h' F' N' l1 hI'; (try k_lt l1); (try k_sweep)))
theorem ints_carried {f : Nat → Int} {ys : List Value} {l : List Nat} (h : CarriedAll ys (l.map fun c => PyData.int (f c))) : IntsAre ys (l.map f) := h.intsOf
section
variable {w : World} {mean : ExcName → Option Value} {mg mb : Str → Option Value} {dp un : Nat} {env : Env} {outer : List Env} {A₀ : Around} {base h₀ : Heap} {L : Addr} {m : Str → Option Value} {s : Shared} {Q E : Value → Shared → Prop}
theorem laid_spec {x : Str} {t1 : Tok} {news : List (Addr × Obj)}
  (C : Cx w mean mg mb 2 dp un env outer A₀ base h₀ L) (F : Fr h₀ L s.heap m)
  (N : News h₀ L s.heap news) (hx : x.cps.size ≤ 19) (hx8 : (partsOf x.cps.toList).1.length ≤ 8) (hx3 : (partsOf x.cps.toList).2.length ≤ 3)
  (ret : ∀ r vs n h' tk', IntsAre vs (laidOf x.cps.toList) → Fr h₀ L h' m → News h₀ L h' ((r, W.listOf vs.toArray n) :: news) → Q (.ref r) {s with heap := h', toks := tk'}) :
  wpAny (model PR w) (Ar dp un env outer) (call (.ref 279) [.str x t1]) Q E s := by
  obtain ⟨B, X, T, hf, hke, hd, hu⟩ := C
  unfold PR
  refine wpAny_call ?_
  k_dflt walk_at "my_enter"
  intro g' L' h' FG' F' N' B' X' T'
  replace F' : Fr g' L' h' (lk [("text", .str x t1)]) := F'
  show wpAny _ _ (execs _ _) _ _ _
  k_fold
  k_steps
  refine ⟨?_⟩
  rename_i r' b' tb' e' te' h8 k8 hb' he' hbe' _ _ _ _ l' _ _ _ D2 _ _ D1 _ _ D0 hh hF hN hlt
  obtain ⟨kz, hkz⟩ : ∃ kz, kz = tk := ⟨_, rfl⟩
  rw [← hkz] at hN
  clear hkz
  refine loopXTup (L := L') (vs := [.ref D2, .ref D1]) (fun i m₁ nx => ∃ D vs n ns u, m₁ = mLaid D u [("behind", .str e' te'), ("base", .str b' tb'), ("text", .str x t1)] ∧
      nx = (D, W.listOf vs.toArray n) :: (D0, tupO #[.ref D2, .ref D1]) :: (D1, tupO #[.str e' te', .int 3 (kz + 1)]) :: (D2, tupO #[.str b' tb', .int 8 kz]) :: (r', tupO #[.str b' tb', .str e' te']) :: news ∧
      IntsAre vs ns ∧ ns = (if i = 0 then [] else if i = 1 then layOf b'.cps.toList 8 else layOf b'.cps.toList 8 ++ layOf e'.cps.toList 3)) rfl rfl hF (rot3 hN) (.tail _ (.head _)) ?start ?keep ?turn ?done
  case start =>
    refine ⟨l', [], 0, [], lk [("behind", .str e' te'), ("base", .str b' tb'), ("text", .str x t1)], mLaid_start fun y => ?_, rfl, .nil, rfl⟩
    simp only [lk_cons]
  case keep =>
    rintro i m nx ⟨D, vs, n, ns, u, rfl, rfl, _⟩
    exact .tail _ (.head _)
  case turn =>
    rintro i v m₁ nx h tkx own hv ⟨D, vs, n, ns, u, rfl, rfl, hI, hns⟩ hap F1 N1
    obtain ⟨V, p, tp, z, tz, rfl, hV, hpz⟩ := pair_at (led := (D, W.listOf vs.toArray n) :: (D0, tupO #[.ref D2, .ref D1]) :: (D1, tupO #[.str e' te', .int 3 (kz + 1)]) :: (D2, tupO #[.str b' tb', .int 8 kz]) :: (r', tupO #[.str b' tb', .str e' te']) :: news) hv (.tail _ (.tail _ (.tail _ (.head _)))) (.tail _ (.tail _ (.head _)))
    have hz8 : z ≤ 8 := by rcases hpz with ⟨_, _, h⟩ | ⟨_, _, h⟩ <;> omega
    refine unpackN_ (items := #[.str p tp, .int (z : Nat) tz]) F1 N1 (isTup_of N1 (List.mem_append_left _ hV)) rfl rfl rfl fun h2 F2 N2 => ?_
    simp only [List.cons_append] at N2
    k_fold
    k_steps
    refine ⟨?_⟩
    have hps : p.cps.size ≤ 19 := by rcases hpz with ⟨_, rfl, _⟩ | ⟨_, rfl, _⟩ <;> omega
    refine srcA_ch (fun c => true) (fun c => .int (Int.ofNat c)) rfl rfl (by k_asm) (by k_asm) (by omega) ?g1 ?g2 ?g3
    case g1 =>
      rintro C a v s₂ m₂ E' ha ⟨_, tv, rfl⟩ hns hm hup
      k_steps
      exact ⟨_, _, rfl, fun _ _ e => e⟩
    case g2 =>
      rintro C a v s₂ m₂ E' ha ⟨_, tv, rfl⟩ hns hm hup
      k_steps
      · exact .int _ _
      · exact ⟨_, _, rfl, fun _ _ e => e⟩
    case g3 =>
      intro O ys nO hO tkO FO NO hnO hys
      have hyi : IntsAre ys (p.cps.toList.map Int.ofNat) := by
        rw [filter_tt] at hys
        exact ints_carried hys
      replace FO : Fr g' L' hO (fun q : Str => if q = "octets" then some (.ref O) else mTurn p tp z tz D u [("behind", .str e' te'), ("base", .str b' tb'), ("text", .str x t1)] q) := FO
      k_steps
      refine ⟨?_⟩
      refine While_inv (L := L') (fun k m₁ news₁ => ∃ a' vs' ns' n', m₁ = (fun q : Str => if q = "octets" then some (.ref a') else mTurn p tp z tz D u [("behind", .str e' te'), ("base", .str b' tb'), ("text", .str x t1)] q) ∧
        news₁ = (a', W.listOf vs'.toArray n') :: (D, W.listOf vs.toArray n) :: (D0, tupO #[.ref D2, .ref D1]) :: (D1, tupO #[.str e' te', .int 3 (kz + 1)]) :: (D2, tupO #[.str b' tb', .int 8 kz]) :: (r', tupO #[.str b' tb', .str e' te']) :: (news ++ own) ∧
        IntsAre vs' ns' ∧ ns'.length = k ∧ leadL ns' = leadL (p.cps.toList.map Int.ofNat) ∧ ns'.length ≤ 19) (n₀ := p.cps.toList.length) FO (news := (O, W.listOf ys.toArray nO) :: (D, W.listOf vs.toArray n) :: (D0, tupO #[.ref D2, .ref D1]) :: (D1, tupO #[.str e' te', .int 3 (kz + 1)]) :: (D2, tupO #[.str b' tb', .int 8 kz]) :: (r', tupO #[.str b' tb', .str e' te']) :: (news ++ own))
        NO ⟨O, ys, _, nO, rfl, rfl, hyi, by simp, rfl, by simpa using hps⟩ ?_
      rintro k m₂ news₂ h₂ tk₂ F3 N3 ⟨a', vs', ns', n', rfl, rfl, hI', rfl, hlead, hz'⟩
      have hbl := bareL_le ns'
      have hnl : ns.length ≤ 60 := by
        have hb8 : b'.cps.toList.length ≤ 8 := by rw [hb']; exact hx8
        rcases hpz with ⟨h0, _⟩ | ⟨h1, _⟩
        · rw [hns, if_pos h0]; simp
        · rw [hns, h1]; simp only [Nat.one_ne_zero, if_false, if_true]; rw [layOf_len hb8]; omega
      k_steps
      · refine ⟨?_⟩
        rename_i D3 ws3 h3 hI3 _ _ _ h4 F4 N4
        refine ⟨rfl, h4, _, _, (D3, W.listOf ws3.toArray 0) :: (D, W.listOf vs.toArray n) :: (D0, tupO #[.ref D2, .ref D1]) :: (D1, tupO #[.str e' te', .int 3 (kz + 1)]) :: (D2, tupO #[.str b' tb', .int 8 kz]) :: (r', tupO #[.str b' tb', .str e' te']) :: (news ++ own),
          ns'.length - 1, rfl, F4, drop1 N4, by omega, D3, ws3, _, 0, put_put, rfl, hI3, by simp, ?_, by simp; omega⟩
        rw [leadL_go (by assumption) (by assumption)]
        exact hlead
      all_goals (
        refine ⟨?_⟩
        rename_i D3 ws3 h3 hI3 hlt3 h4 F4 N4
        refine ⟨h4, _, _, (D3, W.listOf ws3.toArray 0) :: (D0, tupO #[.ref D2, .ref D1]) :: (D1, tupO #[.str e' te', .int 3 (kz + 1)]) :: (D2, tupO #[.str b' tb', .int 8 kz]) :: (r', tupO #[.str b' tb', .str e' te']) :: news,
          rfl, F4, drop6 N4, fun q hq => ?_, D3, ws3, 0, _, _, mLaid_turn rfl ?_, rfl, hI3, ?_⟩
        · rcases List.mem_cons.mp hq with rfl | hq
          · exact lt_own (by simp only [AllLt] at hlt3 ⊢; exact hlt3.2.2.2.2.2.2.2.2.2.2)
          · exact hap q (.tail _ hq)
        · intro y h1 h2 h3 h4
          simp [mTurn, mLaid, h1, h2, h3, h4]
        · rw [lay_eq hlead (by first | exact leadL_end (by assumption) (by assumption) | exact leadL_nil (by assumption))]
          exact lay_turn hns hpz)
  case done =>
    rintro m₁ nx h tkx ⟨D, vs, n, ns, u, rfl, rfl, hI, hns⟩ F1 N1
    k_steps
    have hl : laidOf x.cps.toList = ns := by
      rw [hns, laidOf, ← hb', ← he']; rfl
    rw [hl] at ret
    exact ret D vs n _ _ hI (by k_asm) (drop1 (drop1 (drop1 (drop1 (by assumption)))))
end

-- 15_told
theorem part15 : True := by
  w_top off
  trivial
theorem words15a : True := by
  (k_with "call ref" => (k_here; (with_reducible show wpAny _ _ (call (Value.ref 279) _ _) _ _ _); k_dflt (refine laid_spec (by walk_at "my_cx") (by k_asm) (by k_asm) (by walk_at "my_sz") (by assumption) (by assumption) ?_; intros; (try k_sweep))))
  trivial
local macro_rules | `(tactic| walk_at "pyIter ref") => `(tactic| (k_here; (with_reducible show wpAny _ _ (pyIter (Value.ref _)) (CompPost _ _ _ _ _ _ _ _ _) _ _); refine Stop.out ?_))
theorem join_ones : ∀ l : List Nat, (Txt.join (Str.ofString "") (l.map fun c => (⟨#[c]⟩ : Str))).cps.toList = l := by
  intro l
  have e : Txt.join (Str.ofString "") (l.map fun c => (⟨#[c]⟩ : Str)) = Str.join (Str.ofString "") (l.map fun c => (⟨#[c]⟩ : Str)) := StrLaws.glued_eq_join _ _
  rw [e]
  have e0 : (Str.ofString "").cps.toList = [] := by decide +kernel
  induction l with
  | nil => rfl
  | cons c l ih =>
    cases l with
    | nil => rfl
    | cons d l =>
      have h : Str.join (Str.ofString "") (((c :: d :: l) : List Nat).map fun c => (⟨#[c]⟩ : Str)) = (⟨#[c]⟩ : Str) ++ Str.ofString "" ++ Str.join (Str.ofString "") ((d :: l).map fun c => (⟨#[c]⟩ : Str)) := rfl
      rw [h, Str.cps_append, Array.toList_append, ih (StrLaws.glued_eq_join _ _), Str.cps_append, Array.toList_append, e0]
      rfl
theorem ones_len : ∀ l : List Nat, ((l.map fun c => (⟨#[c]⟩ : Str)).map (·.length)).sum = l.length
  | [] => rfl
  | c :: l => by
    have := ones_len l
    simp only [List.map_cons, List.sum_cons, List.length_cons] at this ⊢
    rw [this]
    show 1 + _ = _
    omega
section
variable {prog : Program} {w : World} {A : Around} {E : Value → Shared → Prop} {s : Shared} {t : Tok} {Q : Value → Shared → Prop}
theorem R_join {D : Addr} {ys : List Value} {l : List Nat} (hl : s.heap.IsList D ys.toArray) (hc : CarriedAll ys (l.map fun c => PyData.str ⟨#[c]⟩)) (hz : l.length ≤ 1000)
    (h : ∀ tx t' k, tx.cps.toList = l → Q (.str tx t') { s with toks := k }) : wpAny (model prog w) A (call (.builtin "str.join") [.str (Str.ofString "") t, .ref D]) Q E s :=
  join_list (ys := l.map fun c => (⟨#[c]⟩ : Str)) hl (by rw [List.toList_toArray]; exact hc.strsOf) (by rw [ones_len, List.length_map]; show _ + _ * 0 ≤ _; omega) fun t' k => h _ t' k (join_ones l)
end
theorem carried_chr {ns : List Int} {ys : List Value} (h : CarriedAll ys ((ns.filter fun _ => true).map fun c => PyData.str ⟨#[c.toNat]⟩)) : CarriedAll ys ((ns.map Int.toNat).map fun c => PyData.str ⟨#[c]⟩) := by
  rw [filter_tt] at h; rw [List.map_map]; exact h
theorem inN {h₀ h : Heap} {L : Addr} {e : Addr × Obj} {l : List (Addr × Obj)} (N : News h₀ L h l) (he : e ∈ l) : News h₀ L h (e :: l) := fun p hp => (List.mem_cons.mp hp).elim (fun q => q ▸ N _ he) (N p)
theorem join_size {x : Str} {l : List Nat} (h : x.cps.toList = l) : x.cps.size = l.length := by rw [← h, Array.length_toList]
theorem str_ext {x y : Str} (h : x.cps.toList = y.cps.toList) : x = y := by
  obtain ⟨⟨a⟩⟩ := x; obtain ⟨⟨b⟩⟩ := y
  simp at h; rw [h]
theorem ne_empty {x : Str} {b : Bool} (h : (x != Str.ofString "") = b) : (x.cps.toList = []) ↔ b = false := by
  rw [← h]
  have e0 : (Str.ofString "").cps.toList = [] := by decide +kernel
  constructor
  · intro e
    have : x = Str.ofString "" := str_ext (e.trans e0.symm)
    simp [this]
  · intro e
    have : x = Str.ofString "" := by simpa using e
    rw [this, e0]
theorem bareL_sub {l : List Int} {q : Int} (h : q ∈ bareL l) : q ∈ l := by
  unfold bareL at h
  have h1 := (List.dropWhile_suffix (l := l.reverse) (fun x => decide (x = 32))).subset (List.mem_reverse.mp h)
  exact List.mem_reverse.mp h1
local macro_rules | `(tactic| walk_at "call builtin:str.join") => `(tactic| (k_here; (with_reducible show wpAny _ _ (call (Value.builtin "str.join") [Value.str _ _, Value.ref _]) _ _ _); k_dflt (refine' R_join ?l ?c ?z ?_; (case l => is_list); (case c => assumption); (case z => walk_at "my_sz")); intro tx' t' k' hj'; (have hjs' := join_size hj')))
/-- what a row tells -/
def toldOf (ns : List Int) : List Nat :=
  if (bareL (ns.drop 8)).map Int.toNat = [] then (bareL (ns.take 8)).map Int.toNat else (bareL (ns.take 8)).map Int.toNat ++ [46] ++ (bareL (ns.drop 8)).map Int.toNat
theorem told_two {x y : Str} {ns : List Int} (hx : x.cps.toList = (bareL (ns.take 8)).map Int.toNat) (hy : y.cps.toList = (bareL (ns.drop 8)).map Int.toNat) (h : y.cps.toList = [] ↔ true = false) : (x ++ Str.ofString "." ++ y).cps.toList = toldOf ns := by
  rw [hy] at h
  unfold toldOf
  rw [if_neg (fun e => by have := h.mp e; cases this)]
  rw [Str.cps_append, Array.toList_append, Str.cps_append, Array.toList_append, hx, hy, dot_eq]
theorem told_one {x y : Str} {ns : List Int} (hx : x.cps.toList = (bareL (ns.take 8)).map Int.toNat) (hy : y.cps.toList = (bareL (ns.drop 8)).map Int.toNat) (h : y.cps.toList = [] ↔ false = false) : x.cps.toList = toldOf ns := by
  rw [hy] at h
  unfold toldOf
  rw [if_pos (h.mpr rfl), hx]
section
variable {w : World} {mean : ExcName → Option Value} {mg mb : Str → Option Value} {dp un : Nat} {env : Env} {outer : List Env} {A₀ : Around} {base h₀ : Heap} {L : Addr} {m : Str → Option Value} {s : Shared} {Q E : Value → Shared → Prop}
theorem told_spec {a : Addr} {vs : List Value} {ns : List Int} {n : Nat} {news : List (Addr × Obj)}
  (C : Cx w mean mg mb 2 dp un env outer A₀ base h₀ L) (F : Fr h₀ L s.heap m)
  (N : News h₀ L s.heap news) (ha : (a, W.listOf vs.toArray n) ∈ news) (hI : IntsAre vs ns) (hz : ns.length = 11) (hb : ∀ q ∈ ns, 0 ≤ q ∧ q < 256)
  (ret : ∀ tx t h' tk', tx.cps.toList = toldOf ns → Fr h₀ L h' m → News h₀ L h' news → Q (.str tx t) {s with heap := h', toks := tk'}) :
  wpAny (model PR w) (Ar dp un env outer) (call (.ref 284) [.ref a]) Q E s := by
  obtain ⟨B, X, T, hf, hke, hd, hu⟩ := C
  unfold PR
  refine wpAny_call ?_
  k_dflt walk_at "my_enter"
  intro g' L' h' FG' F' N' B' X' T'
  replace F' : Fr g' L' h' (lk [("row", .ref a)]) := F'
  replace N' : News g' L' h' ((a, W.listOf vs.toArray n) :: news) := inN N' ha
  show wpAny _ _ (execs _ _) _ _ _
  k_fold
  k_steps
  have hl1 : (bareL (ns.take 8)).length ≤ 8 := by have := bareL_le (ns.take 8); simp at this; omega
  have hl2 : (bareL (ns.drop 8)).length ≤ 3 := by have := bareL_le (ns.drop 8); simp at this; omega
  refine ⟨?_⟩
  refine srcC_ints (fun c => true) (fun c => .str ⟨#[c.toNat]⟩) rfl (by k_asm) (by k_asm) (by is_list) (by assumption) (by omega) ?g1 ?g2 ?g3
  case g1 =>
      rintro C a v s₂ m₂ E' ha ⟨_, tv, rfl⟩ hns hm hup
      k_steps
      exact ⟨_, _, rfl, fun _ _ e => e⟩
  case g2 =>
      rintro C a v s₂ m₂ E' ha ⟨_, tv, rfl⟩ hns hm hup
      have hr : 0 ≤ a ∧ a < 256 := hb a (List.mem_of_mem_take (bareL_sub ha))
      k_steps
      · exact .str _ _
      · exact ⟨_, _, rfl, fun _ _ e => e⟩
  case g3 =>
      intro O ys nO hO tkO FO NO hnO hys _
      replace hys := carried_chr hys
      have hl1' : ((bareL (ns.take 8)).map Int.toNat).length ≤ 8 := by simpa using hl1
      k_steps
      refine ⟨?_⟩
      refine srcC_ints (fun c => true) (fun c => .str ⟨#[c.toNat]⟩) rfl (by k_asm) (by k_asm) (by is_list) (by assumption) (by omega) ?g1 ?g2 ?g3
      case g1 =>
        rintro C a v s₂ m₂ E' ha ⟨_, tv, rfl⟩ hns hm hup
        k_steps
        exact ⟨_, _, rfl, fun _ _ e => e⟩
      case g2 =>
        rintro C a v s₂ m₂ E' ha ⟨_, tv, rfl⟩ hns hm hup
        have hr : 0 ≤ a ∧ a < 256 := hb a (List.mem_of_mem_drop (bareL_sub ha))
        k_steps
        · exact .str _ _
        · exact ⟨_, _, rfl, fun _ _ e => e⟩
      case g3 =>
        intro O2 ys2 nO2 hO2 tkO2 FO2 NO2 hnO2 hys2 _
        replace hys2 := carried_chr hys2
        have hl2' : ((bareL (ns.drop 8)).map Int.toNat).length ≤ 3 := by simpa using hl2
        k_steps
        · have hne := ne_empty (by assumption)
          refine ret _ _ _ _ ?_ (by k_asm) (fun p hp => (show News h₀ L _ _ by assumption) p (.tail _ (.tail _ (.tail _ (.tail _ (.tail _ (.tail _ (.tail _ hp))))))))
          exact told_two (by assumption) (by assumption) hne
        · have hne := ne_empty (by assumption)
          refine ret _ _ _ _ ?_ (by k_asm) (fun p hp => (show News h₀ L _ _ by assumption) p (.tail _ (.tail _ (.tail _ (.tail _ (.tail _ (.tail _ (.tail _ hp))))))))
          exact told_one (by assumption) (by assumption) hne
end

-- 16_sum
theorem part16 : True := by
  w_top off
  trivial
theorem words16a : True := by
  (k_with "call ref" => (k_here; (with_reducible show wpAny _ _ (call (Value.ref 284) _ _) _ _ _); k_dflt (refine told_spec (by walk_at "my_cx") (by k_asm) (by k_asm) (by k_mem) (by l_ints) (by first | assumption | omega) (by assumption) ?_; intros; (try k_sweep))))
  trivial
/-- what a frame's names hold: ps by name, stored anything, the rest as before -/
def MM (ps : List (Str × Value)) (stored : List Str) (m₀ m : Str → Option Value) : Prop :=
  (∀ p ∈ ps, m p.1 = some p.2) ∧ ∀ z, (∀ p ∈ ps, z ≠ p.1) → stored.contains z = false → m z = m₀ z
abbrev mm (ps : List (Str × Value)) (stored : List Str) (m₀ u : Str → Option Value) : Str → Option Value := fun y => kstB (fun z => if stored.contains z then u z else m₀ z) ps y
theorem MM.eq {ps : List (Str × Value)} {stored : List Str} {m₀ m : Str → Option Value} (h : MM ps stored m₀ m) : ∃ u, m = mm ps stored m₀ u := by
  refine ⟨m, funext fun y => (kstB_eq (z := y) h.1 fun hn => ?_).symm⟩
  cases hc : stored.contains y with
  | true => simp
  | false => simpa using (h.2 y hn hc).symm
theorem words16b : True := by
  (k_with "my_mm" => (refine ⟨?_, ?_⟩; (focus (repeat (first | refine List.forall_mem_cons.mpr ⟨rfl, ?_⟩ | exact List.forall_mem_nil _))); (intro z h1 h2; simp only [List.forall_mem_cons] at h1; simp_all [kstB, mm])))
  trivial
section
variable {prog : Program} {w : World} {A : Around} {E : Value → Shared → Prop} {s : Shared} {env : Env} {h₀ : Heap} {x : Str} {body : List Stmt} {Q : Flow → Shared → Prop}
/-- a made list's turns, the ledger fixed -/
theorem loopLF {σ : Type} {L a : Addr} {vs : List Value} {k : Nat} {m : Str → Option Value} {news : List (Addr × Obj)} (ps : σ → List (Str × Value)) (stored : List Str) (m₀ : Str → Option Value) (P : Nat → σ → Prop) (c₀ : σ)
    (hL : env.locals = L) (hh : A.handled = none)
    (F : Fr h₀ L s.heap m) (N : News h₀ L s.heap news) (hm : (a, W.listOf vs.toArray k) ∈ news) (hk : MM (ps c₀) stored m₀ m) (hp : P 0 c₀)
    (turn : ∀ c i v u h tk own, vs[i]? = some v → P i c → (∀ p ∈ news, ∀ q ∈ own, @Ne Nat p.1 q.1) → Fr h₀ L h (fun y => if y = x then some v else mm (ps c) stored m₀ u y) → News h₀ L h (news ++ own) →
      wpAny (model prog w) A (execs body env) (PostX h₀ L own (fun m' nx => ∃ c', nx = news ∧ MM (ps c') stored m₀ m' ∧ P (i + 1) c') { s with heap := h, toks := tk } Q) E { s with heap := h, toks := tk })
    (done : ∀ c u h tk, P vs.length c → Fr h₀ L h (mm (ps c) stored m₀ u) → News h₀ L h news → Q .next { s with heap := h, toks := tk }) :
    wpAny (model prog w) A (pyIter (.ref a)) (fun it s₂ => LoopAtV prog w A h₀ env x body Q E it s₂) E s := by
  refine loopXL (L := L) (fun i m' nx => ∃ c', nx = news ∧ MM (ps c') stored m₀ m' ∧ P i c') hL hh F N hm ⟨c₀, rfl, hk, hp⟩ ?_ ?_ ?_
  · rintro i m nx ⟨c, rfl, _⟩; exact hm
  · rintro i v m₁ nx h tk own hv ⟨c, rfl, hM, hP⟩ hap F₁ N₁
    obtain ⟨u, rfl⟩ := hM.eq
    exact turn c i v u h tk own hv hP hap F₁ N₁
  · rintro m₁ nx h tk ⟨c, rfl, hM, hP⟩ F₁ N₁
    obtain ⟨u, rfl⟩ := hM.eq
    exact done c u h tk hP F₁ N₁
end
theorem mm2 {m m₀ : Str → Option Value} {stored : List Str} {x₁ x₂ : Str} {v₁ v₂ : Value} (h1 : m x₁ = some v₁) (h2 : m x₂ = some v₂)
    (hr : ∀ z, z ≠ x₁ → z ≠ x₂ → stored.contains z = false → m z = m₀ z) : MM [(x₁, v₁), (x₂, v₂)] stored m₀ m :=
  ⟨List.forall_mem_cons.mpr ⟨h1, List.forall_mem_cons.mpr ⟨h2, List.forall_mem_nil _⟩⟩, fun z hz hs => hr z (hz _ (.head _)) (hz _ (.tail _ (.head _))) hs⟩
theorem mm3 {m m₀ : Str → Option Value} {stored : List Str} {x₁ x₂ x₃ : Str} {v₁ v₂ v₃ : Value} (h1 : m x₁ = some v₁) (h2 : m x₂ = some v₂) (h3 : m x₃ = some v₃)
    (hr : ∀ z, z ≠ x₁ → z ≠ x₂ → z ≠ x₃ → stored.contains z = false → m z = m₀ z) : MM [(x₁, v₁), (x₂, v₂), (x₃, v₃)] stored m₀ m :=
  ⟨List.forall_mem_cons.mpr ⟨h1, List.forall_mem_cons.mpr ⟨h2, List.forall_mem_cons.mpr ⟨h3, List.forall_mem_nil _⟩⟩⟩, fun z hz hs => hr z (hz _ (.head _)) (hz _ (.tail _ (.head _))) (hz _ (.tail _ (.tail _ (.head _)))) hs⟩
/-- the bits, the highest first -/
def leftAt (v : Int) : Nat → Int
  | 0 => v
  | i + 1 => (leftAt v i).fdiv 2
def bitsTo (v : Int) : Nat → List Int
  | 0 => []
  | i + 1 => (leftAt v i).fmod 2 :: bitsTo v i
def rollTo (xs : List Int) : Nat → Int
  | 0 => 0
  | i + 1 => rollTo xs i * 2 + xs.getD i 0
def turned (v : Int) : List Int := [(bitsTo v 8).getD 7 0] ++ (bitsTo v 8).take 7
def sumStep (v n : Int) : Int := (rollTo (turned v) 8 + n).fmod 256
def sumOf (ns : List Int) : Int := ns.foldl sumStep 0
theorem lt_left {D : Addr} {l l' : List (Addr × Obj)} (h : AllLt D (l ++ l')) : AllLt D l := by
  refine allLt_of fun p hp => ktn_ltOf h p (List.mem_append_left _ hp)
theorem roll_step {v x q : Int} {j : Nat} (hx : x = rollTo (turned v) j) (hq : ([(bitsTo v 8).getD (Int.toNat 7) 0] ++ (bitsTo v 8).take 7)[j]? = some q) : x * 2 + q = rollTo (turned v) (j + 1) := by
  have hq' : (turned v)[j]? = some q := hq
  rw [rollTo, ← hx, List.getD_eq_getElem?_getD, hq']
  rfl
theorem bits_zero : bitsTo 0 8 = [0, 0, 0, 0, 0, 0, 0, 0] := by decide
theorem sum_step {ns : List Int} {i : Nat} {q v x : Int} (hq : ns[i]? = some q) (hv : v = sumOf (ns.take i)) (hx : x = rollTo (turned v) 8) : (x + q).fmod 256 = sumOf (ns.take (i + 1)) := by
  rw [List.take_add_one, hq]
  unfold sumOf at hv ⊢
  rw [List.foldl_append, ← hv]
  simp only [Option.toList, List.foldl_cons, List.foldl_nil, sumStep, hx]
theorem bitsTo_len (v : Int) : ∀ i, (bitsTo v i).length = i
  | 0 => rfl
  | i + 1 => by simp [bitsTo, bitsTo_len v i]
section
variable {w : World} {mean : ExcName → Option Value} {mg mb : Str → Option Value} {dp un : Nat} {env : Env} {outer : List Env} {A₀ : Around} {base h₀ : Heap} {L : Addr} {m : Str → Option Value} {s : Shared} {Q E : Value → Shared → Prop}
theorem sum_spec {a : Addr} {vs : List Value} {ns : List Int} {n : Nat} {news : List (Addr × Obj)}
  (C : Cx w mean mg mb 1 dp un env outer A₀ base h₀ L) (F : Fr h₀ L s.heap m)
  (N : News h₀ L s.heap news) (ha : (a, W.listOf vs.toArray n) ∈ news) (hI : IntsAre vs ns) (hz : ns.length = 11) (hb : ∀ q ∈ ns, 0 ≤ q ∧ q < 256)
  (ret : ∀ t h' tk', Fr h₀ L h' m → News h₀ L h' news → Q (.int (sumOf ns) t) {s with heap := h', toks := tk'}) :
  wpAny (model PR w) (Ar dp un env outer) (call (.ref 291) [.ref a]) Q E s := by
  obtain ⟨B, X, T, hf, hke, hd, hu⟩ := C
  unfold PR
  refine wpAny_call ?_
  k_dflt walk_at "my_enter"
  intro g' L' h' FG' F' N' B' X' T'
  replace F' : Fr g' L' h' (lk [("row", .ref a)]) := F'
  replace N' : News g' L' h' ((a, W.listOf vs.toArray n) :: news) := inN N' ha
  show wpAny _ _ (execs _ _) _ _ _
  k_fold
  k_steps
  refine ⟨?_⟩
  rename_i l0 _ _ _ hh lF hN
  refine loopXL (L := L') (fun i m₁ nx => ∃ B bs kk v vt, MM [("bits", .ref B), ("value", .int v vt)] ["n", "bit", "left", "k"] (lk [("row", .ref a)]) m₁ ∧
      nx = (B, W.listOf bs.toArray kk) :: (a, W.listOf vs.toArray n) :: news ∧ IntsAre bs (bitsTo v 8) ∧ 0 ≤ v ∧ v < 256 ∧ v = sumOf (ns.take i)) rfl rfl lF hN (.tail _ (.head _)) ?start ?keep ?turn ?done
  case start =>
    refine' ⟨l0, _, _, 0, _, mm2 rfl rfl (by intro z h1 h2 h3; simp_all [kstB, mm]), rfl, ?_, by omega, by omega, rfl⟩
    rw [bits_zero]; l_ints
  case keep =>
    rintro i m nx ⟨B, bs, kk, v, vt, _, rfl, _⟩
    exact .tail _ (.head _)
  case turn =>
    rintro i v0 m₁ nx h1 tk1 own hv ⟨B, bs, kk, v, vt, hM, rfl, hbs, hv0, hv1, hvs⟩ hap F1 N1
    obtain ⟨q, tq, rfl, hq⟩ := IntsAre.at hI i v0 hv
    obtain ⟨u, rfl⟩ := hM.eq
    simp only [List.cons_append] at N1
    dsimp only [mm, kstB] at F1
    have hbl := bitsTo_len v 8
    k_unmd
    k_fold
    k_steps
    refine ⟨?_⟩
    rename_i D3 ws3 h3 F3 N3 hI3 hlt3
    refine loopLF (L := L') (σ := Int × Tok) (fun c => [("value", .int c.1 c.2), ("bits", .ref B), ("n", .int q tq)]) ["bit", "left", "k"] (lk [("row", .ref a)]) (fun i c => c.1 = rollTo (turned v) i) (0, tk1) rfl rfl F3
      (news := (D3, W.listOf ws3.toArray 0) :: (B, W.listOf bs.toArray kk) :: (a, W.listOf vs.toArray n) :: (news ++ own)) (drop1 (drop1 N3)) (.head _) ?start1 rfl ?turn1 ?done1
    case start1 => exact mm3 rfl rfl rfl (by intro z h1 h2 h3 h4; simp_all [kstB, mm])
    case turn1 =>
      rintro ⟨x, xt⟩ j vj uj h4 tk4 own1 hvj hx hap1 F4 N4
      obtain ⟨qj, tj, rfl, hqj⟩ := IntsAre.at hI3 j vj hvj
      simp only [List.cons_append] at N4
      dsimp only [mm, kstB] at F4 hx
      k_unmd
      k_fold
      k_steps
      refine ⟨?_⟩
      refine ⟨_, _, _, (D3, W.listOf ws3.toArray 0) :: (B, W.listOf bs.toArray kk) :: (a, W.listOf vs.toArray n) :: (news ++ own), rfl, ‹Fr g' L' _ _›, ‹News g' L' _ _›, hap1, (x * 2 + qj, _), rfl, mm3 rfl rfl rfl (by intro z h1 h2 h3 h4; simp_all [kstB, mm]), ?_⟩
      exact roll_step hx hqj
    case done1 =>
      rintro ⟨x, xt⟩ u1 h4 tk4 hx F4 N4
      replace N4 := tlN N4
      dsimp only [mm, kstB] at hx F4
      k_steps
      refine ⟨?_⟩
      rename_i l5 _ hlt5 _ _ _ h5 _ _ _ _ hR5 F5 N5 _
      refine loopXR (L := L') (fun i m₁ nx => ∃ B2 bs2 kk2 y yt vt2, MM [("bits", .ref B2), ("left", .int y yt), ("value", .int ((x + q).fmod 256) vt2)] ["n", "bit", "k"] (lk [("row", .ref a)]) m₁ ∧
        nx = (B2, W.listOf bs2.toArray kk2) :: (a, W.listOf vs.toArray n) :: (news ++ own) ∧ IntsAre bs2 (bitsTo ((x + q).fmod 256) i) ∧ y = leftAt ((x + q).fmod 256) i ∧ ∀ p ∈ own, @Ne Nat B2 p.1) rfl rfl hR5 (small_one (by decide) (by decide) (by decide) (by decide)) (n := 8) (by rw [rangeSize_nat]; rfl) F5 (drop1 N5) ?start2 ?turn2 ?done2
      case start2 =>
        exact ⟨_, [], 0, _, _, _, mm3 rfl rfl rfl (by intro z h1 h2 h3 h4; simp_all [kstB, mm]), rfl, .nil, rfl, lt_own hlt5.2.2⟩
      case turn2 =>
        rintro j tj m₂ nx2 h6 tk6 own2 hj ⟨B2, bs2, kk2, y, yt, vt2, hM2, rfl, hI2, hy, hB2⟩ hap2 F6 N6
        obtain ⟨u2, rfl⟩ := hM2.eq
        simp only [List.cons_append] at N6
        dsimp only [mm, kstB] at F6
        have hb2 := bitsTo_len ((x + q).fmod 256) j
        k_unmd
        k_fold
        k_steps
        refine ⟨?_⟩
        rename_i D7 ws7 _ hI7 hlt7 _ h7 F7 N7
        refine ⟨_, _, _, (D7, W.listOf ws7.toArray 0) :: (a, W.listOf vs.toArray n) :: (news ++ own), rfl, F7, drop1 (drop1 N7), fun p hp => ?_, D7, ws7, 0, _, _, _, mm3 rfl rfl rfl (by intro z h1 h2 h3 h4; simp_all [kstB, mm]), rfl, ?_, ?_, fun p hp => lt_own (own := own) (n₀ := news) (lt_left hlt7.2.2.2) p hp⟩
        · rcases List.mem_cons.mp hp with rfl | hp
          · exact lt_own hlt7.2.2.2
          · exact hap2 p (.tail _ hp)
        · rw [bitsTo, ← hy]; exact hI7
        · rw [leftAt, hy]
      case done2 =>
        rintro m₂ nx2 h6 tk6 ⟨B2, bs2, kk2, y, yt, vt2, hM2, rfl, hI2, hy, hB2⟩ F6 N6
        obtain ⟨u2, rfl⟩ := hM2.eq
        k_steps
        refine ⟨?_⟩
        refine ⟨_, _, _, (B2, W.listOf bs2.toArray kk2) :: (a, W.listOf vs.toArray n) :: news, rfl, F6, N6, fun p hp => ?_, B2, bs2, kk2, (x + q).fmod 256, _, mm2 rfl rfl (by intro z h1 h2 h3; simp_all [kstB, mm]), rfl, hI2, Int.fmod_nonneg_of_pos _ (by decide), Int.fmod_lt_of_pos _ (by decide), ?_⟩
        · rcases List.mem_cons.mp hp with rfl | hp
          · exact hB2
          · exact hap p (.tail _ hp)
        · have h8 : ws3.length = 8 := by rw [hI3.length]; simp only [List.length_append, List.length_cons, List.length_nil, List.length_take, hbl]; rfl
          rw [h8] at hx
          exact sum_step hq hvs hx
  case done =>
    rintro m₁ nx h1 tk1 ⟨B, bs, kk, v, vt, hM, rfl, hbs, hv0, hv1, hvs⟩ F1 N1
    obtain ⟨u, rfl⟩ := hM.eq
    k_steps
    have hl : vs.length = ns.length := hI.length
    rw [hl, List.take_length] at hvs
    rw [← hvs] at ret
    exact ret _ _ _ (by k_asm) (tlN (tlN (by assumption)))
end

-- 17_split
theorem part17 : True := by
  w_top off
  trivial
theorem words17a : True := by
  (k_with "call ref" => (k_here; (with_reducible show wpAny _ _ (call (Value.ref 291) _ _) _ _ _); k_dflt (refine sum_spec (by walk_at "my_cx") (by k_asm) (by k_asm) (by k_mem) (by l_ints) (by first | assumption | omega) (by assumption) ?_; intros; (try k_sweep))))
  trivial
theorem lastTo_spec (c : Nat) (l : List Nat) : ∀ n, (lastTo c l n = -1 ∧ ∀ i, i < n → l[i]? ≠ some c) ∨ ∃ i : Nat, i < n ∧ lastTo c l n = (i : Int) ∧ l[i]? = some c ∧ ∀ k, i < k → k < n → l[k]? ≠ some c
  | 0 => .inl ⟨rfl, fun i h => absurd h (Nat.not_lt_zero _)⟩
  | n + 1 => by
    unfold lastTo
    by_cases h : l[n]? = some c
    · rw [if_pos h]
      exact .inr ⟨n, Nat.lt_succ_self _, rfl, h, fun k h1 h2 => absurd h2 (by omega)⟩
    · rw [if_neg h]
      rcases lastTo_spec c l n with ⟨h1, h2⟩ | ⟨i, h0, h1, h2, h3⟩
      · refine .inl ⟨h1, fun i hi => ?_⟩
        by_cases e : i = n
        · subst e; exact h
        · exact h2 i (by omega)
      · refine .inr ⟨i, by omega, h1, h2, fun k hk1 hk2 => ?_⟩
        by_cases e : k = n
        · subst e; exact h
        · exact h3 k hk1 (by omega)
theorem rfind_one (x : Str) (c : Nat) : Txt.rfind x ⟨#[c]⟩ = lastTo c x.cps.toList x.cps.toList.length := by
  have at_iff : ∀ i, StrLaws.At x ⟨#[c]⟩ x.length i ↔ x.cps.toList[i]? = some c := fun i => StrLaws.subAt_one x c i
  rcases rfind_whole x ⟨#[c]⟩ with ⟨h1, h2⟩ | ⟨i, h1, h2, h3⟩ <;> rcases lastTo_spec c x.cps.toList x.cps.toList.length with ⟨g1, g2⟩ | ⟨j, g0, g1, g2, g3⟩
  · rw [h1, g1]
  · exact absurd ((at_iff j).mpr g2) (h2 j)
  · have hi := (at_iff i).mp h2
    exact absurd hi (g2 i (by
      obtain ⟨hlt, _⟩ := List.getElem?_eq_some_iff.mp hi
      exact hlt))
  · have hi := (at_iff i).mp h2
    have hilt : i < x.cps.toList.length := (List.getElem?_eq_some_iff.mp hi).1
    rw [h1, g1]
    rcases Nat.lt_trichotomy i j with h | h | h
    · exact absurd ((at_iff j).mpr g2) (h3 j h)
    · rw [h]
    · exact absurd hi (g3 i h hilt)
/-- the project's splitext -/
def splitOf (l : List Nat) : List Nat × List Nat :=
  let d := lastTo 46 l l.length
  let st := lastTo 47 l l.length + 1
  if ((l.drop st.toNat).take (d - st).toNat).all (· == 46) then (l, []) else (l.take d.toNat, l.drop d.toNat)
theorem slash_eq : (Str.ofString "/") = (⟨#[47]⟩ : Str) := by decide +kernel
theorem seg_get {l : List Nat} {st d j : Nat} (h : j < d) : ((l.drop st).take d)[j]? = l[st + j]? := by
  rw [List.getElem?_take_of_lt h, List.getElem?_drop]
theorem split_two {x : Str} {d st : Int} {i : Nat} {c : Nat} (hd : d = lastTo 46 x.cps.toList x.cps.toList.length) (hst : st = lastTo 47 x.cps.toList x.cps.toList.length) (h0 : -1 ≤ st)
    (hi : i < (d - (st + 1)).toNat) (hc : x.cps[(st + 1 + (i : Int)).toNat]? = some c) (hb : ((⟨#[c]⟩ : Str) != Str.ofString ".") = true) : splitOf x.cps.toList = (x.cps.toList.take d.toNat, x.cps.toList.drop d.toNat) := by
  have hc' : x.cps.toList[(st + 1).toNat + i]? = some c := by
    rw [show (st + 1).toNat + i = (st + 1 + (i : Int)).toNat by omega]
    simpa using hc
  have hne : c ≠ 46 := by
    rintro rfl
    rw [dot_eq] at hb; simp at hb
  unfold splitOf
  dsimp only
  rw [← hd, ← hst, if_neg]
  intro hall
  have hm : c ∈ (x.cps.toList.drop (st + 1).toNat).take (d - (st + 1)).toNat := List.mem_of_getElem? ((seg_get hi).trans hc')
  have := List.all_eq_true.mp hall c hm
  exact hne (by simpa using this)
theorem split_one {x : Str} {d st : Int} (hd : d = lastTo 46 x.cps.toList x.cps.toList.length) (hst : st = lastTo 47 x.cps.toList x.cps.toList.length) (h0 : -1 ≤ st)
    (h : ∀ j c, j < (d - (st + 1)).toNat → x.cps[(st + 1 + (j : Int)).toNat]? = some c → c = 46) : splitOf x.cps.toList = (x.cps.toList, []) := by
  unfold splitOf
  dsimp only
  rw [← hd, ← hst, if_pos]
  refine List.all_eq_true.mpr fun c hc => ?_
  obtain ⟨j, hj⟩ := List.mem_iff_getElem?.mp hc
  have hlt : j < (d - (st + 1)).toNat := by
    have := (List.getElem?_eq_some_iff.mp hj).1
    rw [List.length_take] at this
    omega
  rw [seg_get hlt] at hj
  have e := h j c hlt (by
    rw [show (st + 1 + (j : Int)).toNat = (st + 1).toNat + j by omega]
    simpa using hj)
  simp [e]
theorem ledE {h₀ h : Heap} {L : Addr} {e : Addr × Obj} {l o : List (Addr × Obj)} (N : News h₀ L h (e :: (l ++ o))) : News h₀ L h (e :: l) := fun p hp => N p ((List.mem_cons.mp hp).elim (fun q => q ▸ .head _) fun q => .tail _ (List.mem_append_left _ q))
theorem dots_step {x : Str} {st : Int} {i c : Nat} (h : ∀ (j c : Nat), j < i → x.cps[(st + 1 + (j : Int)).toNat]? = some c → c = 46) (hc : x.cps[(st + 1 + (i : Int)).toNat]? = some c) (hb : ((⟨#[c]⟩ : Str) != Str.ofString ".") = false) :
    ∀ (j c : Nat), j < i + 1 → x.cps[(st + 1 + (j : Int)).toNat]? = some c → c = 46 := by
  intro j c' hj hc'
  by_cases hji : j < i
  · exact h j c' hji hc'
  · have : j = i := by omega
    subst this
    rw [hc] at hc'
    cases hc'
    rw [dot_eq] at hb
    simpa using hb
section
variable {w : World} {mean : ExcName → Option Value} {mg mb : Str → Option Value} {dp un : Nat} {env : Env} {outer : List Env} {A₀ : Around} {base h₀ : Heap} {L : Addr} {m : Str → Option Value} {s : Shared} {Q E : Value → Shared → Prop}
theorem split_spec {x : Str} {t1 : Tok} {news : List (Addr × Obj)}
  (C : Cx w mean mg mb 1 dp un env outer A₀ base h₀ L) (F : Fr h₀ L s.heap m)
  (N : News h₀ L s.heap news) (hx : x.cps.size ≤ 19)
  (ret : ∀ r b tb e te h' tk', b.cps.toList = (splitOf x.cps.toList).1 → e.cps.toList = (splitOf x.cps.toList).2 → Fr h₀ L h' m → News h₀ L h' ((r, tupO #[.str b tb, .str e te]) :: news) → Q (.ref r) {s with heap := h', toks := tk'}) :
  wpAny (model PR w) (Ar dp un env outer) (call (.ref 97) [.str x t1]) Q E s := by
  obtain ⟨B, X, T, hf, hke, hd, hu⟩ := C
  unfold PR
  refine wpAny_call ?_
  k_dflt walk_at "my_enter"
  intro g' L' h' FG' F' N' B' X' T'
  replace F' : Fr g' L' h' (lk [("path", .str x t1)]) := F'
  show wpAny _ _ (execs _ _) _ _ _
  k_fold
  k_steps
  refine ⟨?_⟩
  have hdot : Txt.rfind x (Str.ofString ".") = lastTo 46 x.cps.toList x.cps.toList.length := by rw [dot_eq]; exact rfind_one x 46
  have hsla : Txt.rfind x (Str.ofString "/") = lastTo 47 x.cps.toList x.cps.toList.length := by rw [slash_eq]; exact rfind_one x 47
  have hb1 := lastTo_le (c := 46) (l := x.cps.toList) x.cps.toList.length
  have hb2 := lastTo_le (c := 47) (l := x.cps.toList) x.cps.toList.length
  rw [← hdot, Array.length_toList] at hb1
  rw [← hsla, Array.length_toList] at hb2
  refine loopR (L := L') (σ := Unit) (fun _ => news) (fun _ => []) [] (fun i _ => ∀ j c, j < i → x.cps[(Txt.rfind x (Str.ofString "/") + 1 + (j : Int)).toNat]? = some c → c = 46) () (n := (Txt.rfind x (Str.ofString ".") - (Txt.rfind x (Str.ofString "/") + 1)).toNat) rfl rfl (by k_asm) ?hsm ?hn (by k_asm) (by k_asm) (fun p hp => nomatch hp) (fun j c h => absurd h (Nat.not_lt_zero _)) ?turn ?done
  case hsm => exact small_one (by omega) (by omega) (by omega) (by omega)
  case hn => rw [rangeSize_nat]
  case turn =>
    rintro _ i ti u h1 tk1 own hi hoff hadr hseen F1 N1
    k_unmd
    k_fold
    k_steps
    · have e := split_two hdot hsla (by omega) hi (by assumption) (by assumption)
      refine' ret _ _ _ _ _ _ _ ?p1 ?p2 ?F (ledE ?N); (case N => assumption); (case F => k_asm)
      (case p1 => rw [e]; exact slice_take (by omega) (by omega)); (case p2 => rw [e]; exact slice_drop (by omega))
    · refine ⟨?_⟩
      refine loopW_end' [] () (by k_asm) (by k_asm) rfl rfl (fun p hp => nomatch hp) (by intro z h1 h2 h3; simp_all [kstB]) ?_
      exact dots_step hseen (by assumption) (by assumption)
  case done =>
    rintro _ u h2 tk2 hadr hseen F2 N2
    k_steps
    have e := split_one hdot hsla (by omega) hseen
    refine' ret _ _ _ _ _ _ _ ?p1 ?p2 ?F ?N; (case N => assumption); (case F => k_asm); (case p1 => rw [e]); (case p2 => rw [e]; rfl)
end

-- 18_bout
theorem part18 : True := by
  w_top off
  trivial
section
variable {prog : Program} {w : World} {A : Around} {E : Value → Shared → Prop} {s : Shared}
/-- bytes(..) of a list that holds an int beyond the octets: the loop -/
theorem bout_loop {R : Result → Shared → Prop} {l I S : Addr} {vs : List Value} {ns : List Int} {j : Nat} {nj : Int} (hh : A.handled = none) (hi : IntsAre vs ns) (hr : ∀ (i : Nat) n, i < j → ns[i]? = some n → 0 ≤ n ∧ n < 256) (hj : ns[j]? = some nj) (hnj : 256 ≤ nj) (hz : ns.length ≤ sizeLine) (hIS : I ≠ S) (hlI : l ≠ I) (hlS : l ≠ S) :
    ∀ (k i : Nat) (s : Shared), j - i = k → i ≤ j → s.heap.IsList l vs.toArray → s.heap.IsListIter I l i → s.heap.get? S = some { cls := .type "bytearray", data := .bytearray (byteArr (ns.take i)) } →
      (∀ h' e tk, (∀ b o, b ≠ I → b ≠ S → s.heap.get? b = some o → h'.get? b = some o) → s.heap.get? e = none → (∃ ob t, h'.get? e = some ob ∧ ob.cls = .type "ValueError" ∧ ob.data = .fields #[t, .none, .none, .none, .bool false, .none]) → R (.error (.ref e)) { s with heap := h', toks := tk }) →
      codeAny (model prog w) A (.builtin "bytes.__new__.loop" ⟨[.type "bytes", .ref I, .ref S], []⟩) R s := by
  have hlen : vs.length = ns.length := hi.length
  have hjl : j < ns.length := (List.getElem?_eq_some_iff.mp hj).1
  intro k
  induction k with
  | zero =>
    intro i s hk hle hl hit hS hR
    obtain rfl : i = j := by omega
    obtain ⟨x, hx⟩ : ∃ x, vs[i]? = some x := ⟨vs[i]'(by omega), List.getElem?_eq_getElem (by omega)⟩
    obtain ⟨n, t, rfl, hn⟩ := IntsAre.at hi i x hx
    obtain rfl : n = nj := Option.some.inj (hn.symm.trans hj)
    refine codeAny_builtin F.bm_entry_loop ?_
    rw [Around.under_plainId F.bm_plain_loop _]
    show wpAny _ A.in1 (pyNext (.ref I) >>= _) _ _ s
    refine wpAny_bind (wpAny_pyNext_list_item (x := .int n t) hit hl (by simpa using hx) fun h' hit' hs => ?_)
    refine wpAny_bind (wpAny_holding (wpAny_of_eq (rfl : asIndex (.int n t) = pure n) ?_))
    refine wpAny_bind (wpAny_letGo ?_)
    refine bm_if_true (by simp only [Bool.or_eq_true, decide_eq_true_eq]; omega) ?_
    have key : ∀ h₂ tk e, Heap.NewExc h' h₂ e "ValueError" → R (.error (.ref e)) { s with heap := h₂, toks := tk } := fun h₂ tk e x =>
      hR h₂ e tk (fun b o hb _ q => x.keeps b o (hs.extBut b o hb q)) (by
        cases q : s.heap.get? e with
        | none => rfl
        | some o =>
          by_cases he : e = I
          · subst he; obtain ⟨oI, hoI, _⟩ := hit'; rw [x.new] at hoI; cases hoI
          · have := hs.extBut e o he q; rw [x.new] at this; cases this) x.there
    refine wpAny_bind (wpAny_rule ?_)
    first
      | exact_raiseError plainExc_ValueError hh key
      | exact wpAny_bind (by exact_raiseError plainExc_ValueError hh key)
  | succ k ih =>
    intro i s hk hle hl hit hS hR
    have hlt : i < j := by omega
    obtain ⟨x, hx⟩ : ∃ x, vs[i]? = some x := ⟨vs[i]'(by omega), List.getElem?_eq_getElem (by omega)⟩
    obtain ⟨n, t, rfl, hn⟩ := IntsAre.at hi i x hx
    obtain ⟨h0, h1⟩ := hr i n hlt hn
    refine codeAny_builtin F.bm_entry_loop ?_
    rw [Around.under_plainId F.bm_plain_loop _]
    show wpAny _ A.in1 (pyNext (.ref I) >>= _) _ _ s
    refine wpAny_bind (wpAny_pyNext_list_item (x := .int n t) hit hl (by simpa using hx) fun h' hit' hs => ?_)
    have hS' : h'.get? S = some { cls := .type "bytearray", data := .bytearray (byteArr (ns.take i)) } := (hs.2 S (Ne.symm hIS)).trans hS
    refine wpAny_bind (wpAny_holding (wpAny_of_eq (rfl : asIndex (.int n t) = pure n) ?_))
    refine wpAny_bind (wpAny_letGo ?_)
    refine bm_if_false (by simp only [Bool.or_eq_false_iff, decide_eq_false_iff_not]; omega) ?_
    refine wpAny_bind ?_
    show wpAny _ _ (updateBytearray S (·.push n.toNat.toUInt8)) _ _ _
    unfold updateBytearray
    refine wpAny_bind (wpAny_load hS' ?_)
    show wpAny _ _ (update S (Obj.mapBytearray (·.push n.toNat.toUInt8)) >>= fun _ => lookBehind S) _ _ _
    refine wpAny_bind (wpAny_update hS' ?_)
    have hS₂ : (h'.update S (Obj.mapBytearray (·.push n.toNat.toUInt8))).get? S = some { cls := .type "bytearray", data := .bytearray (byteArr (ns.take (i + 1))) } := by
      rw [byteArr_take hn]
      exact Heap.get?_update_self (Obj.mapBytearray (·.push n.toNat.toUInt8)) hS' rfl
    have fit : ¬ (byteArr (ns.take (i + 1))).size > sizeLine := by rw [byteArr_size, List.length_take]; omega
    refine wpAny_lookBehind hS₂ (if_neg fit) (wpAny_pure ⟨plainId_quiet F.bm_plain_loop _, ih (i + 1) { s with heap := h'.update S (Obj.mapBytearray (·.push n.toNat.toUInt8)) } (by omega) hlt ((hl.extBut hs.extBut hlI).extBut (Heap.SameBut.update ..).extBut hlS) (hit'.extBut (Heap.SameBut.update ..).extBut hIS) hS₂ ?_⟩)
    intro h3 e tk hk3 hn3 ht3
    refine hR h3 e tk (fun b o hbI hbS q => hk3 b o hbI hbS ((Heap.get?_update_other _ _ (Ne.symm hbS)).trans (hs.extBut b o hbI q))) ?_ ht3
    have hn4 : (h'.update S (Obj.mapBytearray (·.push n.toNat.toUInt8))).get? e = none := hn3
    cases q : s.heap.get? e with
    | none => rfl
    | some o =>
      by_cases heS : e = S
      · subst heS; rw [hS₂] at hn4; cases hn4
      · rw [Heap.get?_update_other _ _ (Ne.symm heS)] at hn4
        by_cases heI : e = I
        · subst heI; obtain ⟨oI, hoI, _⟩ := hit'; rw [hn4] at hoI; cases hoI
        · have := hs.extBut e o heI q; rw [hn4] at this; cases this
theorem bout_new {l : Addr} {vs : List Value} {ns : List Int} {j : Nat} {nj : Int} {Q : Value → Shared → Prop} (hh : A.handled = none) (hl : s.heap.IsList l vs.toArray) (hi : IntsAre vs ns) (hr : ∀ (i : Nat) n, i < j → ns[i]? = some n → 0 ≤ n ∧ n < 256) (hj : ns[j]? = some nj) (hnj : 256 ≤ nj) (hz : ns.length ≤ sizeLine)
    (hE : ∀ h' tk e, Heap.NewExc s.heap h' e "ValueError" → E (.ref e) { s with heap := h', toks := tk }) :
    codeAny (model prog w) A (.call (.builtin "bytes.__new__") ⟨[.type "bytes", .ref l], []⟩) (wants Q E) s := by
  refine codeAny_of_tree ?_
  show wpAny _ A.in1 (do checkBuiltinCall "bytes.__new__" ⟨[.type "bytes", .ref l], []⟩; again (.builtin "bytes.__new__" ⟨[.type "bytes", .ref l], []⟩)) _ _ s
  refine wpAny_bind (wpAny_of_eq (F.bm_newCall _) (wpAny_pure ⟨plainId_quiet F.bm_plain _, codeAny_builtin F.bm_entry ?_⟩))
  rw [Around.under_plainId F.bm_plain _]
  have hT : s.TypeIs (.ref l) "list" := hl.typeIs
  obtain ⟨ol, hol, hoc, nl, hod⟩ := id hl
  unfold Builtin.«bytes.__new__»
  refine wpAny_bind (wpAny_of_eq (a := true) rfl (bm_if_false rfl ?_))
  refine wpAny_bind (wpAny_of_eq F.bm_sub (bm_if_false rfl ?_))
  refine wpAny_bind (wpAny_of_eq (F.bm_bind _) ?_)
  refine wpAny_bind (wpAny_of_eq (a := ()) rfl ?_)
  refine wpAny_bind (wpAny_of_eq (a := ()) rfl (bm_if_false rfl ?_))
  refine wpAny_bind (wpAny_specialOf hT F.bm_no_bytes ?_)
  refine wpAny_bind (wpAny_bind ?_)
  show wpAny _ _ (load l >>= _) _ _ _
  refine wpAny_bind (wpAny_load hol ?_)
  rw [hod]
  refine wpAny_pure (wpAny_pure (bm_if_false rfl ?_))
  refine wpAny_bind (wpAny_specialOf hT F.bm_no_index (bm_if_true rfl ?_))
  first
    | show wpAny _ _ (Builtin.Bytes.buffer? "bytes.__new__" (.ref l) true >>= _) _ _ _
    | (refine wpAny_bind ?_; show wpAny _ _ (Builtin.Bytes.buffer? "bytes.__new__" (.ref l) true >>= _) _ _ _)
  refine wpAny_bind ?_
  unfold Builtin.Bytes.buffer?
  refine wpAny_bind (wpAny_specialOf hT F.bm_no_buffer ?_)
  refine wpAny_bind (wpAny_specialOf hT F.bm_no_buffer (wpAny_pure ?_))
  refine wpAny_bind (wpAny_tryCatch (wpAny_pyIter_list hl ?_))
  have hl₁ : (s.heap.push { cls := .type "list_iterator", data := .fields #[.ref l, .int 0 0] }).IsList l vs.toArray := hl.push _
  have hT₁ : ({ s with heap := s.heap.push { cls := .type "list_iterator", data := .fields #[.ref l, .int 0 0] } } : Shared).TypeIs (.ref l) "list" := Heap.IsList.typeIs (s := { s with heap := s.heap.push { cls := .type "list_iterator", data := .fields #[.ref l, .int 0 0] } }) hl₁
  refine wpAny_bind (wpAny_holding ?_)
  unfold Builtin.Bytes.lengthHint
  refine wpAny_bind (wpAny_specialOf hT₁ slot_list_len.lookup ?_)
  dsimp only
  rw [F.bm_split]
  dsimp only
  refine wpAny_bind (wpAny_isInstance hT₁ F.bm_sub_list (bm_if_false rfl ?_))
  refine bm_if_true (by decide +kernel) (wpAny_pure (wpAny_bind ?_))
  unfold Builtin.Bytes.newBytearray
  refine wpAny_newObj_type ?_ (Nat.zero_le _)
  have hI : ((s.heap.push { cls := .type "list_iterator", data := .fields #[.ref l, .int 0 0] }).push { cls := .type "bytearray", data := .bytearray #[] }).IsListIter s.heap.objs.size l 0 :=
    ⟨_, Heap.get?_push_of_some _ (Heap.get?_push_size _ rfl), rfl, rfl⟩
  have hlt : l < s.heap.objs.size := Heap.lt_size hol
  have hsz : (s.heap.push { cls := .type "list_iterator", data := .fields #[.ref l, .int 0 0] }).objs.size = s.heap.objs.size + 1 := Heap.size_push _ _
  have up : ∀ b o, s.heap.get? b = some o → ((s.heap.push { cls := .type "list_iterator", data := .fields #[.ref l, .int 0 0] }).push { cls := .type "bytearray", data := .bytearray #[] }).get? b = some o := fun b o e => Heap.get?_push_of_some _ (Heap.get?_push_of_some _ e)
  have main := bout_loop (prog := prog) (w := w) (A := A) (R := wants Q E) (l := l) (I := s.heap.objs.size) (S := (s.heap.push { cls := .type "list_iterator", data := .fields #[.ref l, .int 0 0] }).objs.size) hh hi hr hj hnj hz (by rw [hsz]; exact Nat.ne_of_lt (Nat.lt_succ_self _)) (Nat.ne_of_lt hlt) (by rw [hsz]; exact Nat.ne_of_lt (Nat.lt_succ_of_lt hlt))
    j 0 { s with heap := (s.heap.push { cls := .type "list_iterator", data := .fields #[.ref l, .int 0 0] }).push { cls := .type "bytearray", data := .bytearray #[] } } rfl (Nat.zero_le _) (hl₁.push _) hI (Heap.get?_push_size _ rfl)
    fun h' e tk hk hn ht => by
      refine hE h' tk e ⟨fun b o q => hk b o (Nat.ne_of_lt (Heap.lt_size q)) (by rw [hsz]; exact Nat.ne_of_lt (Nat.lt_succ_of_lt (Heap.lt_size q))) (up b o q), ?_, ht⟩
      cases q : s.heap.get? e with
      | none => rfl
      | some o => exact absurd ((up e o q).symm.trans hn) (by simp)
  first
    | exact wpAny_pure ⟨plainId_quiet F.bm_plain_loop _, main⟩
    | exact wpAny_pure (wpAny_pure ⟨plainId_quiet F.bm_plain_loop _, main⟩)
/-- bytes(..) of a list that holds an int beyond the octets: a ValueError -/
theorem bytes_out {l : Addr} {vs : List Value} {ns : List Int} {Q : Value → Shared → Prop} (hh : A.handled = none) (hl : s.heap.IsList l vs.toArray) (hi : IntsAre vs ns) (h0 : ∀ n ∈ ns, 0 ≤ n) (hout : ∃ n ∈ ns, 256 ≤ n) (hz : ns.length ≤ sizeLine)
    (hE : ∀ h' tk e, Heap.NewExc s.heap h' e "ValueError" → E (.ref e) { s with heap := h', toks := tk }) : wpAny (model prog w) A (call (.type "bytes") [.ref l]) Q E s := by
  obtain ⟨j, nj, hj, hnj, hr⟩ : ∃ j nj, ns[j]? = some nj ∧ 256 ≤ nj ∧ ∀ (i : Nat) n, i < j → ns[i]? = some n → 0 ≤ n ∧ n < 256 := by
    clear hl hi hz hE
    induction ns with
    | nil => obtain ⟨n, hn, _⟩ := hout; nomatch hn
    | cons a ns ih =>
      by_cases ha : 256 ≤ a
      · exact ⟨0, a, rfl, ha, fun i n hi => absurd hi (Nat.not_lt_zero _)⟩
      · obtain ⟨n, hn, hn2⟩ := hout
        have hn' : n ∈ ns := (List.mem_cons.mp hn).elim (fun e => absurd (e ▸ hn2) ha) id
        obtain ⟨j, nj, hj, hnj, hr⟩ := ih (fun n hn => h0 n (.tail _ hn)) ⟨n, hn', hn2⟩
        refine ⟨j + 1, nj, by simpa using hj, hnj, fun i n hi hin => ?_⟩
        cases i with
        | zero => simp at hin; subst hin; exact ⟨h0 _ (.head _), by omega⟩
        | succ i => exact hr i n (by omega) (by simpa using hin)
  refine callType_codes (Q₁ := fun obj s₁ => False) F.bm_called (F.bm_typeCall _) F.entry_object_init
    (bout_new hh hl hi hr hj hnj hz hE) fun obj s₁ h₁ => h₁.elim
end

-- 19_enc
theorem part19 : True := by
  w_top off
  trivial
theorem split_size {x b e : Str} (hb : b.cps.toList = (splitOf x.cps.toList).1) (he : e.cps.toList = (splitOf x.cps.toList).2) (hx : x.cps.size ≤ 19) : b.cps.size ≤ 19 ∧ e.cps.size ≤ 19 := by
  have h1 : b.cps.size = b.cps.toList.length := by simp
  have h2 : e.cps.size = e.cps.toList.length := by simp
  have h3 : x.cps.toList.length ≤ 19 := by simpa using hx
  rw [h1, h2, hb, he]
  unfold splitOf
  dsimp only
  split
  · exact ⟨h3, Nat.zero_le _⟩
  · simp only [List.length_take, List.length_drop]; omega
section
variable {prog : Program} {w : World} {A : Around} {E : Value → Shared → Prop} {s : Shared} {x : Str} {t : Tok} {value slice : Expr} {Q : Value → Shared → Prop} {h₀ : Heap} {L : Addr} {m : Str → Option Value} {news : List (Addr × Obj)}
theorem R_from {i : Int} {ui : Tok} (hF : Fr h₀ L s.heap m) (hN : News h₀ L s.heap news) (hx : x.cps.size ≤ 19) (h0 : 0 ≤ i)
    (h : ∀ y t' h' k, y.cps.toList = x.cps.toList.drop i.toNat → y.cps.size ≤ 19 → Fr h₀ L h' m → News h₀ L h' news → Q (.str y t') { s with heap := h', toks := k })
    (hs : subscripted slice false (.str x t) (.ref s.heap.objs.size) = operate [.ref s.heap.objs.size, .str x t] (getItem (.str x t) (.ref s.heap.objs.size)) := by with_unfolding_all rfl)
    (ht : ∀ r, letTemporaryGo value (.str x t) r = pure () := by intro _; with_unfolding_all rfl) :
    wpAny (model prog w) A (subscriptTail value slice (.str x t) (.ref s.heap.objs.size)) Q E { s with heap := s.heap.push { cls := .type "slice", data := .fields #[.int i ui, .none, .none] } } := by
  have hsz : x.length ≤ sizeLine := by rw [sizeLine_eq]; show x.cps.size ≤ _; omega
  refine slice_strN_sn_len hF hN (fun h' t' k F' N' hl => ?_) hs ht hsz
  exact h _ t' h' k (slice_drop h0) (Nat.le_trans hl hx) F' N'
end
theorem words19a : True := by
  (k_with "subscriptTail Name Slice str ref" => (k_here; (with_reducible show wpAny _ _ (subscriptTail _ (Expr.Slice (some _) none none _) (Value.str _ _) _) _ _ _); k_dflt (refine R_from (s := ⟨_, _, _, _, _⟩) (by k_asm) (by k_asm) (by assumption) (by decide) ?_; k_whole); intro _ _ _ _ _ _ _ _; (try k_sweep)))
  trivial
local macro_rules | `(tactic| walk_at "call ref") => `(tactic| (k_here; (with_reducible show wpAny _ _ (call (Value.ref 97) _ _) _ _ _); k_dflt (refine split_spec (by walk_at "my_cx") (by k_asm) (by k_asm) (by walk_at "my_sz") ?_; intro r' b' tb' e' te' h' tk' hb' he' F' N'; (have hbe' := split_size hb' he' (by walk_at "my_sz")); (have hbs' := hbe'.1); (have hes' := hbe'.2); (try k_sweep))))
theorem words19b : True := by
  (k_with "eval ListComp" => ((with_reducible apply ListComp_rowsP); (case hfree => decide); (case hcell => decide); (case hkind => with_unfolding_all rfl); (case hnames => decide); (case hx => with_unfolding_all rfl); (case hs => intro _; with_unfolding_all rfl)))
  trivial
theorem rsn_sub {base G : Heap} {l : List Env} {e : Addr} {cls : Value} {news news' : List (Addr × Obj)} {h : Heap} (R : RaisedSN base G l e cls news h) (hs : ∀ p ∈ news', p ∈ news) : RaisedSN base G l e cls news' h := by
  obtain ⟨B, a0, h1, h2, h3, h4⟩ := R
  exact ⟨B, a0, h1, h2, fun q hq => h3 q (hs q hq), h4⟩
/-- a frame of ours that stands among frames that may catch -/
structure Cs (w : World) (mean : ExcName → Option Value) (mg mb : Str → Option Value) (k dp un : Nat) (cn : Str) (cs : Scope) (ca : Addr) (ccd : Value) (outer : List Env) (A₀ : Around) (base g₀ h₀ : Heap) (L : Addr) : Prop where
  C : Cx w mean mg mb k dp un (envOf cn cs L ca ccd) outer A₀ base h₀ L
  XB : (hd.heap_39 w.params).In base
  TB : Top hd.view_39 LO mean mg mb base
  D : KtsDicts (outer.filterMap (·.frame)) h₀
  T0 : KtsTurn (outer.filterMap (·.frame)) g₀ h₀
theorem words19c : True := by
  (k_with "my_enterS" => (refine code_defS (by k_asm) (by k_asm) (by k_asm) (by k_asm) (by k_asm) (by assumption) (by assumption) (by assumption) (by assumption) (by exact rfl) (by k_is) (by k_is) (by (show _ < 1000; dsimp only; omega)) (by first | exact BindsTo.of_eq rfl | exact binds_K (by k_in) rfl (by k_is) rfl rfl rfl) (by exact locs rfl) ?_ (by assumption) (by exact rfl) (by exact rfl) (by exact rfl) (by decide); k_whole))
  trivial
section
variable {w : World} {mean : ExcName → Option Value} {mg mb : Str → Option Value} {dp un : Nat} {cn : Str} {cs : Scope} {ca : Addr} {ccd : Value} {outer : List Env} {A₀ : Around} {base g₀ h₀ : Heap} {L : Addr} {m : Str → Option Value} {s : Shared} {Q E : Value → Shared → Prop}
theorem enc_spec {x : Str} {t1 : Tok} {news : List (Addr × Obj)}
  (CS : Cs w mean mg mb 1 dp un cn cs ca ccd outer A₀ base g₀ h₀ L) (F : Fr h₀ L s.heap m)
  (N : News h₀ L s.heap news) (hx : x.cps.size ≤ 19)
  (ret : (∀ q ∈ x.cps.toList, q < 256) → ∀ t h' tk', Fr h₀ L h' m → News h₀ L h' news → Q (.bytes (x.cps.toList.map fun q => q.toUInt8).toArray t) {s with heap := h', toks := tk'})
  (raise : (∃ q ∈ x.cps.toList, 256 ≤ q) → ∀ e g h' tk', Fr h₀ L g m → RaisedSN base g (envOf cn cs L ca ccd :: outer) e (.type "ValueError") news h' → g.UpToSlots h' → E (.ref e) {s with heap := h', toks := tk'}) :
  wpAny (model PR w) (Ar dp un (envOf cn cs L ca ccd) outer) (call (.ref 85) [.str x t1]) Q E s := by
  obtain ⟨⟨B, X, T, hf, hke, hd, hu⟩, XB, TB, D, T0⟩ := CS
  replace hke : cs.kind = .function := hke
  unfold PR
  refine wpAny_call ?_
  k_dflt walk_at "my_enterS"
  intro g' L' h' FG' F' N' B' X' T' D'
  replace F' : Fr g' L' h' (lk [("text", .str x t1)]) := F'
  show wpAny _ _ (execs _ _) _ _ _
  k_fold
  k_steps
  refine ⟨?_⟩
  refine srcC_ch (fun c => true) (fun c => .int (Int.ofNat c)) rfl (by k_asm) (by k_asm) (by omega) ?g1 ?g2 ?g3
  case g1 =>
    rintro C a v s₂ m₂ E' ha ⟨_, tv, rfl⟩ hns hm hup
    k_steps
    exact ⟨_, _, rfl, fun _ _ e => e⟩
  case g2 =>
    rintro C a v s₂ m₂ E' ha ⟨_, tv, rfl⟩ hns hm hup
    k_steps
    · exact .int _ _
    · exact ⟨_, _, rfl, fun _ _ e => e⟩
  case g3 =>
    intro O ys nO hO tkO FO NO hnO hys _
    have hyi : IntsAre ys (x.cps.toList.map Int.ofNat) := by
      rw [filter_tt] at hys
      exact ints_carried hys
    have hyl : (x.cps.toList.map Int.ofNat).length ≤ 19 := by simpa using hx
    k_steps
    refine ⟨?_⟩
    by_cases hq : ∀ q ∈ x.cps.toList, q < 256
    · refine bytes_K (by k_asm) (by k_asm) (News.isList (by k_asm) (by k_mem)) hyi ?r ?z rfl ?_
      case r =>
        intro n hn
        obtain ⟨q, hq1, rfl⟩ := List.mem_map.mp hn
        have := hq q hq1
        show 0 ≤ (q : Int) ∧ (q : Int) < 256
        omega
      case z => rw [sizeLine_eq, hyi.length]; omega
      intro h3 t3 k3 F3 N3 _
      k_steps
      rw [List.map_map]
      exact ret hq _ _ _ (by k_asm) (tlN (by assumption))
    · refine bytes_out rfl (News.isList (by k_asm) (by k_mem)) hyi ?r ?o ?z ?_
      case r =>
        intro n hn
        obtain ⟨q, hq1, rfl⟩ := List.mem_map.mp hn
        exact Int.natCast_nonneg q
      case o =>
        obtain ⟨q, h1, h2⟩ : ∃ q ∈ x.cps.toList, 256 ≤ q := by
          refine Classical.byContradiction fun hc => hq fun q h1 => ?_
          exact Nat.lt_of_not_le fun h2 => hc ⟨q, h1, h2⟩
        exact ⟨Int.ofNat q, List.mem_map_of_mem h1, by show (256 : Int) ≤ (q : Int); omega⟩
      case z => rw [sizeLine_eq]; omega
      intro h3 tk3 e hne
      k_steps
      refine raise ?_ _ _ _ _ (by assumption) (rsn_sub (by assumption) fun p hp => .tail _ hp) (by assumption)
      refine Classical.byContradiction fun hc => hq fun q h1 => ?_
      exact Nat.lt_of_not_le fun h2 => hc ⟨q, h1, h2⟩
end

-- 20_chk
theorem part20 : True := by
  w_top off
  trivial
theorem words20a : True := by
  (k_with "call ref" => (k_here; (with_reducible show wpAny _ _ (call (Value.ref 85) _ _) _ _ _); refine Stop.out ?_))
  trivial
local macro_rules | `(tactic| walk_at "pyIter bytes") => `(tactic| (k_here; (with_reducible show wpAny _ _ (pyIter (Value.bytes _ _)) (fun it s₂ => LoopAtV _ _ _ _ _ _ _ _ _ it s₂) _ _); refine Stop.out ?_))
theorem words20b : True := by
  (k_with "my_cs" => exact ⟨by walk_at "my_cx", by assumption, by assumption, by assumption, KtsTurn.refl⟩)
  trivial
section
variable {prog : Program} {w : World} {A : Around} {E : Value → Shared → Prop} {s : Shared} {env : Env} {h₀ : Heap} {x : Str} {body : List Stmt} {Q : Flow → Shared → Prop}
/-- the octets of bytes -/
theorem loopB {σ : Type} {L : Addr} {y : Array UInt8} {t₀ : Tok} {m₀ : Str → Option Value} (Led : σ → List (Addr × Obj)) (ps : σ → List (Str × Value)) (stored : List Str) (P : Nat → σ → Prop) (c₀ : σ)
    (hL : env.locals = L) (hh : A.handled = none)
    (F : Fr h₀ L s.heap m₀) (N : News h₀ L s.heap (Led c₀)) (hk : ∀ p ∈ ps c₀, m₀ p.1 = some p.2) (hp : P 0 c₀)
    (turn : ∀ (c : σ) (i : Nat) (q : UInt8) (t : Tok) (u : Str → Option Value) h tk own, y[i]? = some q → OwnOff own ((Led c₀).map (·.1)) → (Led c).map (·.1) = (Led c₀).map (·.1) → P i c →
      Fr h₀ L h (fun y => if y = x then some (.int (q.toNat : Int) t) else kstB (fun z => if stored.contains z then u z else m₀ z) (ps c) y) → News h₀ L h (Led c ++ own) →
      wpAny (model prog w) A (execs body env) (InvPostN h₀ L (KstS Led ps (fun c => (Led c).map (·.1) = (Led c₀).map (·.1)) x stored m₀ (fun _ => P (i + 1)) []) own ((Led c₀).map (·.1)) { s with heap := h, toks := tk } Q) E { s with heap := h, toks := tk })
    (done : ∀ (c : σ) (u : Str → Option Value) h tk, (Led c).map (·.1) = (Led c₀).map (·.1) → P y.size c → Fr h₀ L h (fun y => if y = x then u y else kstB (fun z => if stored.contains z then u z else m₀ z) (ps c) y) → News h₀ L h (Led c) → Q .next { s with heap := h, toks := tk }) :
    wpAny (model prog w) A (pyIter (.bytes y t₀)) (fun it s₂ => LoopAtV prog w A h₀ env x body Q E it s₂) E s := by
  subst hL
  refine KBw.pyIter_bytes ?_
  refine loopW Led ps stored P c₀ rfl (KBw.walks hh _ y t₀) (fun e => absurd F.ns.lt (e ▸ Nat.lt_irrefl _)) (next_is_new F) (fun p hp e => absurd (Heap.lt_size (N p hp).1) (e ▸ Nat.lt_irrefl _))
    ⟨_, Heap.get?_push_size _ rfl, rfl, rfl⟩ (F.push _) (fun p hp => ⟨Heap.get?_push_of_some _ (N p hp).1, (N p hp).2⟩) hk hp ?_ done
  rintro c i v u h tk own hi ⟨q, t, hq, rfl⟩ hoff ha hp' F₁ N₁
  exact turn c i q t u h tk own hq hoff ha hp' F₁ N₁
end
theorem rs_sn {base G : Heap} {l : List Env} {e t : Addr} {cls : Value} {vs : List Value} {news : List (Addr × Obj)} {h : Heap} (R : RaisedS base G l e cls t vs news h) : RaisedSN base G l e cls news h := by
  obtain ⟨⟨B, h1, h2, h3, h4, _⟩, _⟩ := R
  exact ⟨B, _, h1, h2, h3, h4⟩
/-- the octets that no name may hold -/
abbrev badC (n : Int) : Bool := (decide (n = 34) || (decide (n = 42) || (decide (n = 43) || (decide (n = 44) || (decide (n = 46) || (decide (n = 47) || (decide (n = 58) || (decide (n = 59) || (decide (n = 60) || (decide (n = 61) || (decide (n = 62) || (decide (n = 63) || (decide (n = 91) || (decide (n = 92) || (decide (n = 93) || (decide (n = 124) || false))))))))))))))))
def okC (q : Nat) : Bool := decide (q < 256) && !badC (q : Int)
theorem u8_at {l : List Nat} {i : Nat} {q : UInt8} (hl : ∀ q ∈ l, q < 256) (h : (l.map fun q => q.toUInt8).toArray[i]? = some q) : ∃ c, l[i]? = some c ∧ (q.toNat : Int) = (c : Int) := by
  have h' : (l.map fun q => q.toUInt8)[i]? = some q := by simpa using h
  rw [List.getElem?_map] at h'
  cases hc : l[i]? with
  | none => rw [hc] at h'; simp at h'
  | some c =>
    rw [hc] at h'
    have e : c.toUInt8 = q := by simpa using h'
    have hlt := hl c (List.mem_of_getElem? hc)
    refine ⟨c, rfl, ?_⟩
    rw [← e]
    have : c.toUInt8.toNat = c := by
      show (UInt8.ofNat c).toNat = c
      rw [UInt8.toNat_ofNat']
      omega
    rw [this]
theorem ok_of {l : List Nat} (hl : ∀ q ∈ l, q < 256) (h : ∀ j c, j < l.length → l[j]? = some c → badC (c : Int) = false) : ∀ q ∈ l, okC q = true := by
  intro q hq
  obtain ⟨j, hj⟩ := List.mem_iff_getElem?.mp hq
  have hb := h j q (List.getElem?_eq_some_iff.mp hj).1 hj
  have : decide (q < 256) = true := decide_eq_true (hl q hq)
  rw [okC, this, hb]; rfl
theorem ko_big {l : List Nat} (h : ∃ q ∈ l, 256 ≤ q) : ∃ q ∈ l, okC q = false := by
  obtain ⟨q, h1, h2⟩ := h
  refine ⟨q, h1, ?_⟩
  have : decide (q < 256) = false := decide_eq_false (by omega)
  rw [okC, this]; rfl
theorem ko_bad {l : List Nat} {q : Nat} {z : Int} (h : q ∈ l) (hz : z = (q : Int)) (hb : badC z = true) : ∃ q ∈ l, okC q = false := by
  refine ⟨q, h, ?_⟩
  rw [hz] at hb
  rw [okC, hb]; simp
section
variable {w : World} {mean : ExcName → Option Value} {mg mb : Str → Option Value} {dp un : Nat} {cn : Str} {cs : Scope} {ca : Addr} {ccd : Value} {outer : List Env} {A₀ : Around} {base g₀ h₀ : Heap} {L : Addr} {m : Str → Option Value} {s : Shared} {Q E : Value → Shared → Prop}
theorem chk_spec {x y : Str} {t1 t2 : Tok} {news : List (Addr × Obj)}
  (CS : Cs w mean mg mb 2 dp un cn cs ca ccd outer A₀ base g₀ h₀ L) (F : Fr h₀ L s.heap m)
  (N : News h₀ L s.heap news) (hx : x.cps.size ≤ 19)
  (ret : (∀ q ∈ x.cps.toList, okC q = true) → ∀ h' tk', Fr h₀ L h' m → News h₀ L h' news → Q .none {s with heap := h', toks := tk'})
  (raise : (∃ q ∈ x.cps.toList, okC q = false) → ∀ e g h' tk', Fr h₀ L g m → RaisedSN base g (envOf cn cs L ca ccd :: outer) e (.type "ValueError") news h' → g.UpToSlots h' → E (.ref e) {s with heap := h', toks := tk'}) :
  wpAny (model PR w) (Ar dp un (envOf cn cs L ca ccd) outer) (call (.ref 186) [.str x t1] [("encoding", .str y t2)]) Q E s := by
  obtain ⟨⟨B, X, T, hf, hke, hd, hu⟩, XB, TB, D, T0⟩ := CS
  replace hke : cs.kind = .function := hke
  unfold PR
  refine wpAny_call ?_
  k_dflt walk_at "my_enterS"
  intro g' L' h' FG' F' N' B' X' T' D'
  replace F' : Fr g' L' h' (lk [("encoding", .str y t2), ("name", .str x t1)]) := F'
  show wpAny _ _ (execs _ _) _ _ _
  k_fold
  k_steps
  refine ⟨?_⟩
  refine enc_spec (by walk_at "my_cs") (by k_asm) (by k_asm) hx ?ret ?raise
  case ret =>
    intro hq t2 h2 tk2 F2 N2
    k_steps
    refine ⟨?_⟩
    refine loopB (L := L') (σ := Unit) (fun _ => news) (fun _ => []) [] (fun i _ => ∀ j c, j < i → x.cps.toList[j]? = some c → badC (c : Int) = false) () rfl rfl (by k_asm) (by k_asm) (fun p hp => nomatch hp) (fun j c h => absurd h (Nat.not_lt_zero _)) ?turn ?done
    case turn =>
      rintro _ i q tq u h1 tk1 own hqi hoff hadr hseen F1 N1
      obtain ⟨qc, hqc, hqe⟩ := u8_at hq hqi
      k_unmd
      k_fold
      k_steps
      · have hb : badC (q.toNat : Int) = true := by assumption
        refine raise (ko_bad (List.mem_of_getElem? hqc) hqe hb) _ _ _ _ (by assumption) (rsn_sub (rs_sn (by assumption)) fun p hp => List.mem_append_left _ hp) (by assumption)
      · have hb : badC (q.toNat : Int) = false := by assumption
        refine ⟨?_⟩
        refine loopW_end' [] () (by k_asm) (by k_asm) rfl rfl (fun p hp => nomatch hp) (by intro z h1 h2 h3; simp_all [kstB]) ?_
        intro j c hj hc
        by_cases hji : j < i
        · exact hseen j c hji hc
        · obtain rfl : j = i := by omega
          rw [hqc] at hc
          cases hc
          rw [← hqe]; exact hb
    case done =>
      rintro _ u h2 tk2 hadr hseen F2 N2
      k_steps
      refine ret (ok_of hq fun j c hj hc => hseen j c (by simpa using hj) hc) _ _ (by k_asm) (by k_asm)
  case raise =>
    intro hq e g h2 tk2 F2 R2 U2
    k_steps
    exact raise (ko_big hq) _ _ _ _ (by assumption) (by assumption) (by assumption)
end

-- 21_pconf
theorem part21 : True := by
  w_top off
  trivial
theorem words21a : True := by
  (k_with "call ref" => (k_here; (with_reducible show wpAny _ _ (call (Value.ref 186) _ _) _ _ _); refine Stop.out ?_))
  trivial
theorem two_at {b y : Str} {tb ty : Tok} {i : Nat} {v : Value} (hv : [Value.str b tb, Value.str y ty][i]? = some v) : ∃ z tz, v = .str z tz ∧ ((i = 0 ∧ z = b) ∨ (i = 1 ∧ z = y)) := by
  match i, hv with
  | 0, hv => cases hv; exact ⟨b, tb, rfl, .inl ⟨rfl, rfl⟩⟩
  | 1, hv => cases hv; exact ⟨y, ty, rfl, .inr ⟨rfl, rfl⟩⟩
  | i + 2, hv => simp at hv
/-- the project's word on a text -/
def pconfOf (x : Str) : Bool := !(x != Txt.upper x) && decide ((splitOf x.cps.toList).1.length + ((splitOf x.cps.toList).2.drop 1).length ≤ 11) && decide ((splitOf x.cps.toList).1.length ≤ 8) && decide (((splitOf x.cps.toList).2.drop 1).length ≤ 3) &&
  (splitOf x.cps.toList).1.all okC && ((splitOf x.cps.toList).2.drop 1).all okC
theorem pc_up {x : Str} (h : (x != Txt.upper x) = true) : pconfOf x = false := by simp only [pconfOf, h]; rfl
theorem pc_len {x b e y : Str} (hb : b.cps.toList = (splitOf x.cps.toList).1) (he : e.cps.toList = (splitOf x.cps.toList).2) (hy : y.cps.toList = List.drop (Int.toNat 1) e.cps.toList) :
    (splitOf x.cps.toList).1.length = b.cps.size ∧ ((splitOf x.cps.toList).2.drop 1).length = y.cps.size := by
  rw [← hb, ← he]
  constructor
  · simp
  · have : y.cps.size = y.cps.toList.length := by simp
    rw [this, hy]; rfl
theorem pc_no {x b e y : Str} (hb : b.cps.toList = (splitOf x.cps.toList).1) (he : e.cps.toList = (splitOf x.cps.toList).2) (hy : y.cps.toList = List.drop (Int.toNat 1) e.cps.toList)
    (h : 11 < (b.cps.size : Int) + (y.cps.size : Int) ∨ 8 < (b.cps.size : Int) ∨ 3 < (y.cps.size : Int)) : pconfOf x = false := by
  obtain ⟨h1, h2⟩ := pc_len hb he hy
  unfold pconfOf
  rw [h1, h2]
  rcases h with h | h | h
  · have : decide (b.cps.size + y.cps.size ≤ 11) = false := decide_eq_false (by omega)
    rw [this]; simp
  · have : decide (b.cps.size ≤ 8) = false := decide_eq_false (by omega)
    rw [this]; simp
  · have : decide (y.cps.size ≤ 3) = false := decide_eq_false (by omega)
    rw [this]; simp
theorem all_ko {l : List Nat} (h : ∃ q ∈ l, okC q = false) : l.all okC = false := by
  obtain ⟨q, h1, h2⟩ := h
  rw [← Bool.not_eq_true, List.all_eq_true]
  intro ha
  rw [ha q h1] at h2; cases h2
theorem pc_ko {x b e y z : Str} {i : Nat} (hb : b.cps.toList = (splitOf x.cps.toList).1) (he : e.cps.toList = (splitOf x.cps.toList).2) (hy : y.cps.toList = List.drop (Int.toNat 1) e.cps.toList)
    (hz : (i = 0 ∧ z = b) ∨ (i = 1 ∧ z = y)) (h : ∃ q ∈ z.cps.toList, okC q = false) : pconfOf x = false := by
  have hk := all_ko h
  unfold pconfOf
  rcases hz with ⟨_, rfl⟩ | ⟨_, rfl⟩
  · rw [hb] at hk; rw [hk]; simp
  · have e2 : z.cps.toList = (splitOf x.cps.toList).2.drop 1 := by rw [hy, he]; rfl
    rw [e2] at hk; rw [hk]; simp
theorem pc_yes {x b e y : Str} (hu : (x != Txt.upper x) = false) (hb : b.cps.toList = (splitOf x.cps.toList).1) (he : e.cps.toList = (splitOf x.cps.toList).2) (hy : y.cps.toList = List.drop (Int.toNat 1) e.cps.toList)
    (h11 : ¬ 11 < (b.cps.size : Int) + (y.cps.size : Int)) (h8 : ¬ 8 < (b.cps.size : Int)) (h3 : ¬ 3 < (y.cps.size : Int)) (h1 : ∀ q ∈ b.cps.toList, okC q = true) (h2 : ∀ q ∈ y.cps.toList, okC q = true) : pconfOf x = true := by
  obtain ⟨l1, l2⟩ := pc_len hb he hy
  have e2 : y.cps.toList = (splitOf x.cps.toList).2.drop 1 := by rw [hy, he]; rfl
  unfold pconfOf
  rw [l1, l2, ← hb, ← e2, hu, List.all_eq_true.mpr h1, List.all_eq_true.mpr h2]
  have a : decide (b.cps.size + y.cps.size ≤ 11) = true := decide_eq_true (by omega)
  have c : decide (b.cps.size ≤ 8) = true := decide_eq_true (by omega)
  have d : decide (y.cps.size ≤ 3) = true := decide_eq_true (by omega)
  rw [a, c, d]; rfl
section
variable {w : World} {mean : ExcName → Option Value} {mg mb : Str → Option Value} {dp un : Nat} {cn : Str} {cs : Scope} {ca : Addr} {ccd : Value} {outer : List Env} {A₀ : Around} {base g₀ h₀ : Heap} {L : Addr} {m : Str → Option Value} {s : Shared} {Q E : Value → Shared → Prop}
structure Hid (G : Prop) : Prop where
  out : G
theorem tk_gen {α : Type} {M : Model} {A : Around} {p : Sem α} {Q : α → Shared → Prop} {E : Value → Shared → Prop} {h : Heap} {g : Array GenState} {d : Drawn} {k : Nat} {o : OsState} (H : ∀ k, wpAny M A p Q E ⟨h, g, d, k, o⟩) : wpAny M A p Q E ⟨h, g, d, k, o⟩ := H k
theorem via {G X : Prop} (body : G) (enter : Hid G → X) : X := enter ⟨body⟩
theorem pconf_both {x : Str} {t1 : Tok} {args : List Value} {news : List (Addr × Obj)} (hargs : args = [.str x t1] ∨ ∃ y t2, args = [.str x t1, .str y t2])
  (CS : Cs w mean mg mb 3 dp un cn cs ca ccd outer A₀ base g₀ h₀ L) (F : Fr h₀ L s.heap m)
  (N : News h₀ L s.heap news) (hx : x.cps.size ≤ 19)
  (ret : ∀ h₀' h' tk', KtsTurn (outer.filterMap (·.frame)) g₀ h₀' → Fr h₀' L h' m → News h₀' L h' news → Below A₀ base outer h₀' → (hd.heap_39 w.params).In h₀' → Top hd.view_39 LO mean mg mb h₀' → KtsDicts (outer.filterMap (·.frame)) h₀' → Q (.bool (pconfOf x)) {s with heap := h', toks := tk'}) :
  wpAny (model PR w) (Ar dp un (envOf cn cs L ca ccd) outer) (call (.ref 197) args) Q E s := by
  obtain ⟨⟨B, X, T, hf, hke, hd, hu⟩, XB, TB, D, T0⟩ := CS
  replace hke : cs.kind = .function := hke
  unfold PR
  refine wpAny_call ?_
  refine via (G := ?G) ?body ?enter
  case enter =>
    intro K
    rcases hargs with rfl | ⟨y, t2, rfl⟩
    · k_dflt walk_at "my_enterS"
      intro g' L' h' FG' F' N' B' X' T' D'
      obtain ⟨y, t2, F1⟩ : ∃ y t2, Fr g' L' h' (lk [("encoding", .str y t2), ("entry_name", .str x t1)]) := ⟨_, _, F'⟩
      clear F'
      show wpAny _ _ (execs _ _) _ _ _
      refine tk_gen ?_
      revert F1 t2 y D' T' X' B' N' FG' h' L' g'
      exact K.out
    · k_dflt walk_at "my_enterS"
      intro g' L' h' FG' F' N' B' X' T' D'
      replace F' : Fr g' L' h' (lk [("encoding", .str y t2), ("entry_name", .str x t1)]) := F'
      show wpAny _ _ (execs _ _) _ _ _
      exact K.out g' L' h' FG' N' B' X' T' D' y t2 F' _
  intro g' L' h' FG' N' B' X' T' D' y t2 F' tk0
  show wpAny _ _ (execs _ _) _ _ _
  k_fold
  k_steps
  · have e := pc_up (by assumption)
    rw [e] at ret
    exact ret _ _ _ T0 (by k_asm) (by k_asm) B X T D
  · have e := pc_no (x := x) (by assumption) (by assumption) (by assumption) (.inl (by assumption))
    rw [e] at ret
    exact ret _ _ _ T0 (by k_asm) (tlN (by assumption)) B X T D
  · have e := pc_no (x := x) (by assumption) (by assumption) (by assumption) (.inr (.inl (by assumption)))
    rw [e] at ret
    exact ret _ _ _ T0 (by k_asm) (tlN (by assumption)) B X T D
  · have e := pc_no (x := x) (by assumption) (by assumption) (by assumption) (.inr (.inr (by assumption)))
    rw [e] at ret
    exact ret _ _ _ T0 (by k_asm) (tlN (by assumption)) B X T D
  · refine ⟨?_⟩
    rename_i r' b' tb e' te h6 tk' hb he hbe hbs hes h5 h4 h3 tk1 y' ty h2 k' hy hys h1 a2 tka a1 a0 l' hh F1 N1 l1
    refine loopLF (L := L') (σ := Unit) (vs := [.str b' tb, .str y' ty]) (fun _ => [("encoding", .str y t2)]) ["i", "root", "ext", "entry_name"] (fun _ => none) (fun i _ => (0 < i → ∀ q ∈ b'.cps.toList, okC q = true) ∧ (1 < i → ∀ q ∈ y'.cps.toList, okC q = true)) () rfl rfl F1 N1 (.head _) ⟨List.forall_mem_singleton.mpr rfl, ?start⟩ ⟨fun h => absurd h (Nat.lt_irrefl _), fun h => absurd h (by omega)⟩ ?turn ?done
    case start =>
      intro z h1 h2
      simp only [List.forall_mem_singleton] at h1
      obtain ⟨c1, c2, c3, c4⟩ : ¬ z = "i" ∧ ¬ z = "root" ∧ ¬ z = "ext" ∧ ¬ z = "entry_name" := by simpa using h2
      simp only [if_neg c1, if_neg c2, if_neg c3, if_neg c4, lk_cons, if_neg h1]
      rfl
    case turn =>
      rintro _ i v u h3 tk3 own hv hP hap F3 N3
      obtain ⟨z, tz, rfl, hz⟩ := two_at hv
      have hzs : z.cps.size ≤ 19 := by rcases hz with ⟨_, rfl⟩ | ⟨_, rfl⟩ <;> assumption
      dsimp only [mm, kstB] at F3
      simp only [List.cons_append] at N3
      k_unmd
      k_fold
      k_steps
      refine ⟨?_⟩
      refine chk_spec (y := y) (t2 := t2) (by walk_at "my_cs") (by k_asm) (by k_asm) hzs ?cret ?craise
      case cret =>
        intro hok h5 tk5 F5 N5
        k_steps
        refine ⟨?_⟩
        refine ⟨_, _, _, (l', W.listOf #[.str b' tb, .str y' ty] 0) :: (r', tupO #[.str b' tb, .str e' te]) :: news, rfl, ‹Fr g' L' h5 _›, ‹News g' L' h5 _›, hap, (), rfl, ⟨List.forall_mem_singleton.mpr rfl, ?_⟩, ?_, ?_⟩
        · intro z h1 h2
          simp only [List.forall_mem_singleton] at h1
          obtain ⟨c1, c2, c3, c4⟩ : ¬ z = "i" ∧ ¬ z = "root" ∧ ¬ z = "ext" ∧ ¬ z = "entry_name" := by simpa using h2
          simp only [if_neg c1, if_neg h1, h2, Bool.false_eq_true, if_false]
        · intro _
          rcases hz with ⟨rfl, rfl⟩ | ⟨rfl, rfl⟩
          · exact hok
          · exact hP.1 (by omega)
        · intro hi
          rcases hz with ⟨rfl, rfl⟩ | ⟨rfl, rfl⟩
          · omega
          · exact hok
      case craise =>
        intro hko e g h5 tk5 F5 R5 U5
        k_steps
        have e := pc_ko hb he hy hz hko
        rw [e] at ret
        exact ret _ _ _ (by assumption) (by assumption) (cb_drop (by assumption) fun p hp => .tail _ (.tail _ (List.mem_append_left _ hp))) (by assumption) (by assumption) (by assumption) (by assumption)
    case done =>
      rintro _ u h3 tk3 hP F3 N3
      k_steps
      have e := pc_yes (x := x) (by assumption) hb he hy a2 a1 a0 (hP.1 (Nat.zero_lt_succ _)) (hP.2 (Nat.succ_lt_succ (Nat.zero_lt_succ _)))
      rw [e] at ret
      exact ret _ _ _ T0 (by k_asm) (tlN (tlN (by assumption))) B X T D
theorem pconf_spec {x y : Str} {t1 t2 : Tok} {news : List (Addr × Obj)}
  (CS : Cs w mean mg mb 3 dp un cn cs ca ccd outer A₀ base g₀ h₀ L) (F : Fr h₀ L s.heap m)
  (N : News h₀ L s.heap news) (hx : x.cps.size ≤ 19)
  (ret : ∀ h₀' h' tk', KtsTurn (outer.filterMap (·.frame)) g₀ h₀' → Fr h₀' L h' m → News h₀' L h' news → Below A₀ base outer h₀' → (hd.heap_39 w.params).In h₀' → Top hd.view_39 LO mean mg mb h₀' → KtsDicts (outer.filterMap (·.frame)) h₀' → Q (.bool (pconfOf x)) {s with heap := h', toks := tk'}) :
  wpAny (model PR w) (Ar dp un (envOf cn cs L ca ccd) outer) (call (.ref 197) [.str x t1, .str y t2]) Q E s := pconf_both (.inr ⟨_, _, rfl⟩) CS F N hx ret
theorem pconf1_spec {x : Str} {t1 : Tok} {news : List (Addr × Obj)}
  (CS : Cs w mean mg mb 3 dp un cn cs ca ccd outer A₀ base g₀ h₀ L) (F : Fr h₀ L s.heap m)
  (N : News h₀ L s.heap news) (hx : x.cps.size ≤ 19)
  (ret : ∀ h₀' h' tk', KtsTurn (outer.filterMap (·.frame)) g₀ h₀' → Fr h₀' L h' m → News h₀' L h' news → Below A₀ base outer h₀' → (hd.heap_39 w.params).In h₀' → Top hd.view_39 LO mean mg mb h₀' → KtsDicts (outer.filterMap (·.frame)) h₀' → Q (.bool (pconfOf x)) {s with heap := h', toks := tk'}) :
  wpAny (model PR w) (Ar dp un (envOf cn cs L ca ccd) outer) (call (.ref 197) [.str x t1]) Q E s := pconf_both (.inl rfl) CS F N hx ret
end

-- 23_trim
theorem part23 : True := by
  w_top off
  trivial
/-- less what goes at both ends, or at the end -/
def trimE (p : Nat → Bool) (l : List Nat) : List Nat := (l.reverse.dropWhile p).reverse
def trimL (p : Nat → Bool) (l : List Nat) : List Nat := trimE p (l.dropWhile p)
theorem dropWhile_at {p : Nat → Bool} : ∀ {l : List Nat} {lo : Nat}, lo ≤ l.length → (∀ k, k < lo → p (l.getD k 0) = true) → (lo = l.length ∨ p (l.getD lo 0) = false) → l.dropWhile p = l.drop lo
  | [], lo, h, _, _ => by simp
  | c :: l, 0, _, _, h => by
    rcases h with h | h
    · simp at h
    · simp at h; simp [h]
  | c :: l, lo + 1, h, h1, h2 => by
    have hc : p c = true := by simpa using h1 0 (Nat.zero_lt_succ _)
    rw [List.dropWhile_cons, if_pos hc, List.drop_succ_cons]
    refine dropWhile_at (by simpa using h) (fun k hk => by simpa using h1 (k + 1) (by omega)) ?_
    rcases h2 with h2 | h2
    · exact .inl (by simpa using h2)
    · exact .inr (by simpa using h2)
theorem trimE_at {p : Nat → Bool} {l : List Nat} {hi : Nat} (h : hi ≤ l.length) (h1 : ∀ k, hi ≤ k → k < l.length → p (l.getD k 0) = true) (h2 : hi = 0 ∨ p (l.getD (hi - 1) 0) = false) : trimE p l = l.take hi := by
  unfold trimE
  have rev : ∀ k, k < l.length → l.reverse.getD k 0 = l.getD (l.length - 1 - k) 0 := fun k hk => by
    rw [List.getD_eq_getElem?_getD, List.getD_eq_getElem?_getD, List.getElem?_reverse hk]
  have e := dropWhile_at (p := p) (l := l.reverse) (lo := l.length - hi) (by simp) (fun k hk => by
    rw [rev k (by omega)]
    exact h1 _ (by omega) (by omega)) (by
    rcases h2 with h2 | h2
    · exact .inl (by simp [h2])
    · by_cases h0 : hi = 0
      · exact .inl (by simp [h0])
      · refine .inr ?_
        rw [rev _ (by omega)]
        rw [show l.length - 1 - (l.length - hi) = hi - 1 by omega]
        exact h2)
  rw [e, List.drop_reverse, List.reverse_reverse]
  congr 1
  omega
theorem strip_list (x : Str) : (Txt.strip x).cps.toList = trimL Unicode.isSpace x.cps.toList := by
  have hlen : x.cps.toList.length = x.length := by simp [Str.length]
  obtain ⟨a1, a2, a3⟩ := lo_facts Unicode.isSpace x
  generalize hlo : stripLo Unicode.isSpace true x = lo at *
  obtain ⟨b1, b2, b3, b4⟩ := hi_facts Unicode.isSpace x lo a1
  generalize hhi : stripHi Unicode.isSpace true x lo = hi at *
  have e : Txt.strip x = Builtin.Str.strSub x lo hi := by
    have := stripBy_eq Unicode.isSpace true true x
    rw [hlo, hhi] at this
    exact this
  rw [e, StrLaws.strSub_toList]
  unfold trimL
  rw [dropWhile_at (by rw [hlen]; exact a1) (fun k hk => by rw [getD_list]; exact a2 k hk) (by rw [hlen, getD_list]; exact a3)]
  refine (trimE_at (hi := hi - lo) (by rw [List.length_drop]; omega) (fun k h1 h2 => ?_) ?_).symm
  · rw [List.length_drop] at h2
    rw [drop_getD, getD_list]
    exact b3 _ (by omega) (by omega)
  · by_cases h0 : hi - lo = 0
    · exact .inl h0
    · rcases b4 with b4 | b4
      · omega
      · refine .inr ?_
        rw [drop_getD, getD_list, show lo + (hi - lo - 1) = hi - 1 by omega]
        exact b4
theorem rstrip_list (x : Str) : (Txt.rstrip x).cps.toList = trimE Unicode.isSpace x.cps.toList := by
  have hlen : x.cps.toList.length = x.length := by simp [Str.length]
  obtain ⟨b1, b2, b3, b4⟩ := hi_facts Unicode.isSpace x 0 (Nat.zero_le _)
  have e : Txt.rstrip x = Builtin.Str.strSub x 0 (stripHi Unicode.isSpace true x 0) := by
    have := stripBy_eq Unicode.isSpace false true x
    have h0 : stripLo Unicode.isSpace false x = 0 := by simp [stripLo]
    rw [h0] at this
    exact this
  generalize stripHi Unicode.isSpace true x 0 = hi at *
  rw [e, StrLaws.strSub_toList, List.drop_zero, Nat.sub_zero]
  refine (trimE_at (by rw [hlen]; exact b2) (fun k h1 h2 => ?_) ?_).symm
  · rw [getD_list]; exact b3 k h1 (by rw [hlen] at h2; exact h2)
  · rcases b4 with b4 | b4
    · exact .inl b4
    · exact .inr (by rw [getD_list]; exact b4)
theorem ljust_list (x : Str) (n : Nat) : (Txt.ljust x (n : Int)).cps.toList = x.cps.toList ++ List.replicate (n - x.cps.toList.length) 32 := by
  have hlen : x.cps.toList.length = x.length := by simp [Str.length]
  unfold Txt.ljust
  by_cases h : (n : Int) ≤ x.length
  · rw [if_pos h, hlen]
    have : n - x.length = 0 := by omega
    rw [this]; simp
  · rw [if_neg h, hlen]
    simp [Builtin.Str.padded]
theorem trimE_le (p : Nat → Bool) (l : List Nat) : (trimE p l).length ≤ l.length := by
  unfold trimE
  have := List.IsSuffix.length_le (List.dropWhile_suffix (l := l.reverse) p)
  simpa using this
theorem trimL_le (p : Nat → Bool) (l : List Nat) : (trimL p l).length ≤ l.length :=
  Nat.le_trans (trimE_le p _) (List.IsSuffix.length_le (List.dropWhile_suffix p))
theorem size_list (x : Str) : x.cps.size = x.cps.toList.length := by simp
section
variable {prog : Program} {w : World} {A : Around} {E : Value → Shared → Prop} {s : Shared} {x : Str} {t : Tok} {Q : Value → Shared → Prop}
theorem R_strip (hx : x.cps.size ≤ 19) (h : ∀ y t' k, y.cps.toList = trimL Unicode.isSpace x.cps.toList → y.cps.size ≤ 19 → Q (.str y t') { s with toks := k }) : wpAny (model prog w) A (call (.builtin "str.strip") [.str x t]) Q E s := by
  refine SC.strip (fun t' k => h _ t' k (strip_list x) ?_) (by rw [sizeLine_eq]; show x.cps.size ≤ _; omega)
  rw [size_list, strip_list]
  exact Nat.le_trans (trimL_le _ _) (by rw [← size_list]; exact hx)
theorem R_rstrip (hx : x.cps.size ≤ 19) (h : ∀ y t' k, y.cps.toList = trimE Unicode.isSpace x.cps.toList → y.cps.size ≤ 19 → Q (.str y t') { s with toks := k }) : wpAny (model prog w) A (call (.builtin "str.rstrip") [.str x t]) Q E s := by
  refine SC.rstrip (fun t' k => h _ t' k (rstrip_list x) ?_) (by rw [sizeLine_eq]; show x.cps.size ≤ _; omega)
  rw [size_list, rstrip_list]
  exact Nat.le_trans (trimE_le _ _) (by rw [← size_list]; exact hx)
theorem padOk8 : ∀ n : Nat, n < 9 → PadOk (n : Int) = true := by decide +kernel
theorem R_ljust {i : Int} {n : Nat} {u : Tok} (hi : i = n) (hn : n ≤ 8) (hx : x.cps.size ≤ 19) (h : ∀ y t' k, y.cps.toList = x.cps.toList ++ List.replicate (n - x.cps.toList.length) 32 → y.cps.size ≤ 19 → Q (.str y t') { s with toks := k }) : wpAny (model prog w) A (call (.builtin "str.ljust") [.str x t, .int i u]) Q E s := by
  subst hi
  refine SC.ljust (padOk8 n (by omega)) (fun t' k => h _ t' k (ljust_list x n) ?_)
  rw [size_list, ljust_list]
  have := size_list x
  simp only [List.length_append, List.length_replicate]
  omega
end

-- 24_pad
theorem part24 : True := by
  w_top off
  trivial
theorem words24a : True := by
  (k_with "call builtin:str.strip" => (k_here; (with_reducible show wpAny _ _ (call (Value.builtin "str.strip") _) _ _ _); refine R_strip (by assumption) ?_; intro _ _ _ _ _))
  (k_with "call builtin:str.rstrip" => (k_here; (with_reducible show wpAny _ _ (call (Value.builtin "str.rstrip") _) _ _ _); refine R_rstrip (by assumption) ?_; intro _ _ _ _ _))
  (k_with "call builtin:str.ljust" => (k_here; (with_reducible show wpAny _ _ (call (Value.builtin "str.ljust") _) _ _ _); first | (refine R_ljust (n := 8) rfl (by decide) (by assumption) ?_; intro _ _ _ _ _) | (refine R_ljust (n := 3) rfl (by decide) (by assumption) ?_; intro _ _ _ _ _)))
  trivial
/-- a name padded, as the project does it -/
def padOf (l : List Nat) : List Nat :=
  let r := trimL Unicode.isSpace (splitOf l).1
  let e := trimL Unicode.isSpace ((splitOf l).2.drop 1)
  (r ++ List.replicate (8 - r.length) 32) ++ (e ++ List.replicate (3 - e.length) 32)
theorem pad_at {x b e y z1 z2 j1 j2 : Str} (hj1 : j1.cps.toList = z1.cps.toList ++ List.replicate (8 - z1.cps.toList.length) 32) (hj2 : j2.cps.toList = z2.cps.toList ++ List.replicate (3 - z2.cps.toList.length) 32)
    (hs1 : z1.cps.toList = trimL Unicode.isSpace b.cps.toList) (hs2 : z2.cps.toList = trimL Unicode.isSpace y.cps.toList) (hb : b.cps.toList = (splitOf x.cps.toList).1) (hy : y.cps.toList = List.drop (Int.toNat 1) e.cps.toList) (he : e.cps.toList = (splitOf x.cps.toList).2) :
    (j1 ++ j2).cps.toList = padOf x.cps.toList := by
  have hy' : y.cps.toList = (splitOf x.cps.toList).2.drop 1 := by rw [hy, he]; rfl
  rw [cat_list, hj1, hj2, hs1, hs2, hb, hy']
  rfl
section
variable {w : World} {mean : ExcName → Option Value} {mg mb : Str → Option Value} {dp un : Nat} {env : Env} {outer : List Env} {A₀ : Around} {base h₀ : Heap} {L : Addr} {m : Str → Option Value} {s : Shared} {Q E : Value → Shared → Prop}
theorem pad_spec {x : Str} {t1 : Tok} {news : List (Addr × Obj)}
  (C : Cx w mean mg mb 2 dp un env outer A₀ base h₀ L) (F : Fr h₀ L s.heap m)
  (N : News h₀ L s.heap news) (hx : x.cps.size ≤ 19)
  (ret : ∀ y t h' tk', y.cps.toList = padOf x.cps.toList → Fr h₀ L h' m → News h₀ L h' news → Q (.str y t) {s with heap := h', toks := tk'}) :
  wpAny (model PR w) (Ar dp un env outer) (call (.ref 207) [.str x t1]) Q E s := by
  obtain ⟨B, X, T, hf, hke, hd, hu⟩ := C
  unfold PR
  refine wpAny_call ?_
  k_dflt walk_at "my_enter"
  intro g' L' h' FG' F' N' B' X' T'
  replace F' : Fr g' L' h' (lk [("name", .str x t1)]) := F'
  show wpAny _ _ (execs _ _) _ _ _
  k_fold
  k_steps
  exact ret _ _ _ _ (pad_at (by assumption) (by assumption) (by assumption) (by assumption) (by assumption) (by assumption) (by assumption)) (by k_asm) (tlN (by assumption))
end

-- 25_ba
theorem part25 : True := by
  w_top off
  trivial
namespace BA
open Builtin
theorem slot_next : Slot "bytearray_iterator" "__next__" "bytearray_iterator.__next__" :=
  .of (owner := "bytearray_iterator") (n := "__next__") (by rw [typeLookup_type, builtinLookup_eq_fast]; kernel_rfl) (by decide +kernel) (by decide +kernel) (by decide +kernel)
    (by first | exact .inl (by decide +kernel) | exact .inr (by decide +kernel)) (by rw [isSubtype_type]; kernel_rfl)
theorem slot_self : Slot "bytearray_iterator" "__iter__" "bytearray_iterator.__iter__" :=
  .of (owner := "bytearray_iterator") (n := "__iter__") (by rw [typeLookup_type, builtinLookup_eq_fast]; kernel_rfl) (by decide +kernel) (by decide +kernel) (by decide +kernel)
    (by first | exact .inl (by decide +kernel) | exact .inr (by decide +kernel)) (by rw [isSubtype_type]; kernel_rfl)
theorem slot_iter : Slot "bytearray" "__iter__" "bytearray.__iter__" :=
  .of (owner := "bytearray") (n := "__iter__") (by rw [typeLookup_type, builtinLookup_eq_fast]; kernel_rfl) (by decide +kernel) (by decide +kernel) (by decide +kernel)
    (by first | exact .inl (by decide +kernel) | exact .inr (by decide +kernel)) (by rw [isSubtype_type]; kernel_rfl)
theorem slot_len : Slot "bytearray" "__len__" "bytearray.__len__" :=
  .of (owner := "bytearray") (n := "__len__") (by rw [typeLookup_type, builtinLookup_eq_fast]; kernel_rfl) (by decide +kernel) (by decide +kernel) (by decide +kernel)
    (by first | exact .inl (by decide +kernel) | exact .inr (by decide +kernel)) (by rw [isSubtype_type]; kernel_rfl)
theorem slot_item : Slot "bytearray" "__getitem__" "bytearray.__getitem__" :=
  .of (owner := "bytearray") (n := "__getitem__") (by rw [typeLookup_type, builtinLookup_eq_fast]; kernel_rfl) (by decide +kernel) (by decide +kernel) (by decide +kernel)
    (by first | exact .inl (by decide +kernel) | exact .inr (by decide +kernel)) (by rw [isSubtype_type]; kernel_rfl)
theorem entry_next : entryFor table "bytearray_iterator.__next__" = some Builtin.«bytearray_iterator.__next__» := entryFor_of_tree (by kernel_rfl)
theorem entry_self : entryFor table "bytearray_iterator.__iter__" = some Builtin.«dict_keyiterator.__iter__» := entryFor_alias (id' := "dict_keyiterator.__iter__") (by kernel_rfl) rfl (by decide +kernel) (by kernel_rfl)
theorem entry_iter : entryFor table "bytearray.__iter__" = some Builtin.«bytearray.__iter__» := entryFor_of_tree (by kernel_rfl)
theorem entry_len : entryFor table "bytearray.__len__" = some Builtin.«bytearray.__len__» := entryFor_of_tree (by kernel_rfl)
theorem entry_item : entryFor table "bytearray.__getitem__" = some Builtin.«bytearray.__getitem__» := entryFor_of_tree (by kernel_rfl)
theorem args_next (a : Value) : argsOk "bytearray_iterator.__next__" ⟨[a], []⟩ := by unfold argsOk; kernel_rfl
theorem args_self (a : Value) : argsOk "bytearray_iterator.__iter__" ⟨[a], []⟩ := by unfold argsOk; kernel_rfl
theorem args_iter (a : Value) : argsOk "bytearray.__iter__" ⟨[a], []⟩ := by unfold argsOk; kernel_rfl
theorem args_len (a : Value) : argsOk "bytearray.__len__" ⟨[a], []⟩ := by unfold argsOk; kernel_rfl
theorem args_item (a b : Value) : argsOk "bytearray.__getitem__" ⟨[a, b], []⟩ := by unfold argsOk; kernel_rfl
abbrev O (b : Array UInt8) : Obj := { cls := .type "bytearray", data := .bytearray b }
def Is (h : Heap) (a : Addr) (b : Array UInt8) : Prop := h.get? a = some (O b)
theorem Is.typeIs {s : Shared} {a : Addr} {b : Array UInt8} (h : Is s.heap a b) : s.TypeIs (.ref a) "bytearray" := ⟨_, h, rfl⟩
def IsIter (h : Heap) (I a : Addr) (i : Nat) : Prop := ∃ o, h.get? I = some o ∧ o.cls = .type "bytearray_iterator" ∧ o.data = .fields #[.ref a, .int i 0]
theorem iter_typeIs {s : Shared} {I a : Addr} {i : Nat} (y : IsIter s.heap I a i) : s.TypeIs (.ref I) "bytearray_iterator" := let ⟨o, ho, hc, _⟩ := y; ⟨o, ho, hc⟩
section
variable {prog : Program} {w : World} {A : Around} {E : Value → Shared → Prop} {s : Shared} {a I : Addr} {b : Array UInt8}
theorem payload_ref {Q : Array UInt8 → Shared → Prop} (ha : Is s.heap a b) (h : Q b s) : wpAny (model prog w) A (Bytes.payload (.ref a)) Q E s := by
  unfold Bytes.payload Bytes.payload?
  exact wpAny_bind (wpAny_bind (wpAny_load ha (wpAny_pure (wpAny_pure h))))
theorem len {Q : Value → Shared → Prop} (ha : Is s.heap a b) (hz : b.size ≤ 1000) (h : Q (.int (b.size : Int) (s.toks + 1)) { s with toks := s.toks + 1 + 1 }) : wpAny (model prog w) A (call (.builtin "len") [.ref a]) Q E s := by
  refine call_len_slot ha.typeIs slot_len (fun Q' hq => ?_) (by omega) (by omega) h
  refine wpAny_call_entry slot_len ha.typeIs entry_len ?_ (args_len _)
  show wpAny _ _ (Bytes.payload (.ref a) >>= _) _ _ s
  exact wpAny_bind (payload_ref ha (wpAny_bind (wpAny_mkInt (wpAny_pure ⟨_, rfl, hq⟩))))
theorem item {value slice : Expr} {i : Int} {u : Tok} {Q : Value → Shared → Prop} (ha : Is s.heap a b) (hz : b.size ≤ 1000) (h0 : 0 ≤ i) (h1 : i < b.size) (h : ∀ c, b[i.toNat]? = some c → Q (.int (c.toNat : Int) s.toks) { s with toks := s.toks + 1 })
    (hs : subscripted slice false (.ref a) (.int i u) = operate [.ref a, .int i u] (getItem (.ref a) (.int i u)) := by with_unfolding_all rfl) :
    wpAny (model prog w) A (subscriptTail value slice (.ref a) (.int i u)) Q E s := by
  refine tail_any ha.typeIs slot_item.lookup ?_ hs
  refine wpAny_getItem_slot ha.typeIs (by decide) slot_item ?_
  refine wpAny_call_entry slot_item ha.typeIs entry_item ?_ (args_item _ _)
  have hlt : i.toNat < b.size := by omega
  have hq := h b[i.toNat] (by simp [hlt])
  have hb : (seqIndex? i b.size).bind (b[·]?) = some b[i.toNat] := by
    unfold seqIndex?
    have hn : ¬ i < 0 := by omega
    simp [hn, hlt, h0, h1]
  show wpAny _ _ (Bytes.subscript? (.int i u) >>= _) _ _ s
  refine wpAny_bind ?_
  unfold Bytes.subscript?
  refine wpAny_bind (wpAny_specialOf (typeIs_int s i u) F.slot_int_index.lookup ?_)
  show wpAny _ _ (if (!Bytes.fitsIndex i) = true then _ else pure (some i)) _ _ s
  rw [if_neg (by simp only [Bytes.fitsIndex, Bool.not_eq_true', Bool.not_eq_false, Bool.and_eq_true, decide_eq_true_eq]; omega)]
  refine wpAny_pure ?_
  show wpAny _ _ (Bytes.payload (.ref a) >>= _) _ _ s
  refine wpAny_bind (payload_ref ha ?_)
  show wpAny _ _ (match (seqIndex? i b.size).bind (b[·]?) with | some x => _ | none => _) _ _ s
  rw [hb]
  first
    | exact wpAny_bind (wpAny_mkInt (wpAny_pure ⟨_, rfl, hq⟩))
    | exact wpAny_bind (wpAny_bind (wpAny_mkInt (wpAny_pure (wpAny_pure ⟨_, rfl, hq⟩))))
theorem part {v : Value} {k : Option Int} {M : Model} {Q : Value → Shared → Prop} (hv : IsPart v k) (h : Q (rawPart k) s) :
    wpAny M A (do if v == .none then return .none
                  if (← specialOf v "__index__").isNone then
                    rule "bytes.slice.part-no-index"; raiseError "TypeError" "slice indices must be integers or None or have an __index__ method"
                  return rawInt (← asIndex v) : Sem Value) Q E s := by
  cases hv with
  | none => exact wpAny_pure h
  | int i t =>
    rw [if_neg (show ¬ ((Value.int i t == Value.none) = true) from Bool.false_ne_true)]
    refine wpAny_bind (wpAny_specialOf (T := "int") (typeIs_int s i t) int_index ?_)
    simp only [Option.isNone_some, Bool.false_eq_true, if_false]
    exact wpAny_bind (wpAny_of_eq (a := i) rfl (wpAny_pure h))
end
/-- octets cut -/
def pick (b : Array UInt8) (lo hi : Option Int) : Array UInt8 := Bytes.sliced b (sliceBounds lo hi none b.size).1 (sliceBounds lo hi none b.size).2.1 (sliceBounds lo hi none b.size).2.2
section
variable {prog : Program} {w : World} {A : Around} {E : Value → Shared → Prop} {s : Shared} {a I : Addr} {b : Array UInt8}
theorem get_slice {sl : Addr} {vl vu : Value} {lo hi : Option Int} {Q : Value → Shared → Prop} (ha : Is s.heap a b) (hs : s.heap.IsSliceOf sl vl vu .none) (pl : IsPart vl lo) (pu : IsPart vu hi) (hz : (pick b lo hi).size ≤ sizeLine)
    (h : Q (.ref s.heap.objs.size) { s with heap := s.heap.push (O (pick b lo hi)) }) : wpAny (model prog w) A (getItem (.ref a) (.ref sl)) Q E s := by
  obtain ⟨os, hos, hcs, hds⟩ := id hs
  have hTs : s.TypeIs (.ref sl) "slice" := ⟨os, hos, hcs⟩
  refine wpAny_getItem_slot ha.typeIs (by decide) slot_item ?_
  refine wpAny_call_entry slot_item ha.typeIs entry_item ?_ (args_item _ _)
  show wpAny _ _ (Bytes.subscript? (.ref sl) >>= _) _ _ s
  refine wpAny_bind ?_
  unfold Bytes.subscript?
  refine wpAny_bind (wpAny_specialOf hTs slice_no_index ?_)
  simp only [Option.isNone_none, if_true]
  refine wpAny_pure ?_
  show wpAny _ _ (typeOf (.ref sl) >>= _) _ _ s
  refine wpAny_bind (wpAny_typeOf hTs ?_)
  rw [if_neg (by decide)]
  show wpAny _ _ (Bytes.sliceParts (.ref sl) >>= _) _ _ s
  unfold Bytes.sliceParts
  refine wpAny_bind (wpAny_bind (wpAny_field hos hds (x := .none) rfl (wpAny_bind (part .none ?_))))
  rw [if_neg (show ¬ ((rawPart none == rawInt 0) = true) from Bool.false_ne_true)]
  refine wpAny_bind (wpAny_field hos hds (x := vl) rfl (wpAny_bind (part pl ?_)))
  refine wpAny_bind (wpAny_field hos hds (x := vu) rfl (wpAny_bind (part pu (wpAny_pure ?_))))
  show wpAny _ _ (Bytes.payload (.ref a) >>= _) _ _ s
  refine wpAny_bind (payload_ref ha ?_)
  refine wpAny_bind (wpAny_of_eq (sliceIndices_raw lo hi none b.size (by simp)) ?_)
  unfold Bytes.newBytearray
  refine wpAny_bind (wpAny_newObj_type (wpAny_pure ⟨_, rfl, h⟩) hz)
theorem slice {value slice : Expr} {vl vu : Value} {lo hi : Option Int} {Q : Value → Shared → Prop} {h₀ : Heap} {L : Addr} {m : Str → Option Value} {news : List (Addr × Obj)}
    (F : Fr h₀ L s.heap m) (N : News h₀ L s.heap news) (hm : (a, O b) ∈ news) (pl : IsPart vl lo) (pu : IsPart vu hi) (hz : (pick b lo hi).size ≤ 1000)
    (h : ∀ D h', Fr h₀ L h' m → News h₀ L h' ((D, O (pick b lo hi)) :: news) → (∀ p ∈ news, p.1 < D) → Q (.ref D) { s with heap := h' })
    (hs : subscripted slice false (.ref a) (.ref s.heap.objs.size) = operate [.ref s.heap.objs.size, .ref a] (getItem (.ref a) (.ref s.heap.objs.size)) := by with_unfolding_all rfl)
    (ht : ∀ r, letTemporaryGo value (.ref a) r = pure () := by intro _; with_unfolding_all rfl) :
    wpAny (model prog w) A (subscriptTail value slice (.ref a) (.ref s.heap.objs.size)) Q E { s with heap := s.heap.push { cls := .type "slice", data := .fields #[vl, vu, .none] } } := by
  have ha : Is s.heap a b := (N _ hm).1
  have ha' : Is (s.heap.push { cls := .type "slice", data := .fields #[vl, vu, .none] }) a b := Heap.get?_push_of_some _ ha
  refine subscriptTail_ops (Is.typeIs (s := { s with heap := s.heap.push { cls := .type "slice", data := .fields #[vl, vu, .none] } }) ha') slot_item.lookup
    (get_slice (s := { s with heap := s.heap.push { cls := .type "slice", data := .fields #[vl, vu, .none] } }) ha' (Heap.IsSliceOf.new ..) pl pu (by rw [sizeLine_eq]; omega) ?_) hs ht
  have N1 := News.push (F.push { cls := .type "slice", data := .fields #[vl, vu, .none] }) (N.grown fun _ _ e => Heap.get?_push_of_some _ e) (O (pick b lo hi))
  refine h _ _ ((F.push _).push _) N1 fun p hp => ?_
  show p.1 < (s.heap.push _).objs.size
  rw [Heap.size_push]
  exact Nat.lt_succ_of_lt (Heap.lt_size (N p hp).1)
theorem iter_made {Q : Value → Shared → Prop} (ha : Is s.heap a b) (hQ : Q (.ref s.heap.objs.size) { s with heap := s.heap.push { cls := .type "bytearray_iterator", data := .fields #[.ref a, .int 0 0] } }) : wpAny (model prog w) A (pyIter (.ref a)) Q E s := by
  refine wpAny_pyIter_slot ha.typeIs slot_iter (wpAny_call_entry slot_iter ha.typeIs entry_iter ?_ (args_iter _))
  show wpAny _ _ (do ret (← newFields "bytearray_iterator" [.ref a, rawInt 0])) _ _ s
  exact wpAny_bind (wpAny_newObj_type (wpAny_pure ⟨_, rfl, "bytearray_iterator", _, ⟨_, Heap.get?_push_size _ rfl, rfl⟩, slot_next.lookup, hQ⟩))
theorem iter_self {i : Nat} {Q : Value → Shared → Prop} (hit : IsIter s.heap I a i) (h : Q (.ref I) s) : wpAny (model prog w) A (pyIter (.ref I)) Q E s := by
  refine wpAny_pyIter_slot (iter_typeIs hit) slot_self (wpAny_call_entry slot_self (iter_typeIs hit) entry_self ?_ (args_self _))
  show wpAny _ _ (ret (.ref I)) _ _ s
  exact wpAny_pure ⟨_, rfl, "bytearray_iterator", _, iter_typeIs hit, slot_next.lookup, h⟩
end
end BA

-- 26_bawalk
theorem part26 : True := by
  w_top off
  trivial
namespace BA
open Builtin
section
variable {prog : Program} {w : World} {A : Around} {E : Value → Shared → Prop} {s : Shared} {a I : Addr} {b : Array UInt8}
theorem next_item {i : Nat} {c : UInt8} {Q : Option Value → Shared → Prop} (ha : Is s.heap a b) (hit : IsIter s.heap I a i) (hx : b[i]? = some c)
    (hQ : ∀ h', IsIter h' I a (i + 1) → Heap.SameBut I s.heap h' → Q (some (.int (c.toNat : Int) s.toks)) { s with heap := h', toks := s.toks + 1 }) : wpAny (model prog w) A (pyNext (.ref I)) Q E s := by
  obtain ⟨o, ho, hc, hd⟩ := id hit
  unfold pyNext
  refine wpAny_bind (wpAny_attempt (wpAny_callSpecial?_slot (name := PySem.Str.ofString "__next__") (iter_typeIs hit) slot_next
    (wpAny_call_entry slot_next (iter_typeIs hit) entry_next ?_ (args_next _))))
  show wpAny _ _ (field (.ref I) 0 >>= _) _ _ s
  refine wpAny_bind (wpAny_field ho hd (x := .ref a) rfl ?_)
  show wpAny _ _ (load a >>= _) _ _ s
  refine wpAny_bind (wpAny_load ha ?_)
  show wpAny _ _ (field (.ref I) 1 >>= _) _ _ s
  refine wpAny_bind (wpAny_field ho hd (x := .int i 0) rfl ?_)
  simp only [Int.toNat_natCast, hx]
  refine wpAny_bind (wpAny_setField ho hd (by simp) (wpAny_bind (wpAny_mkInt (wpAny_pure ⟨_, rfl, wpAny_pure (hQ _ ?_ (Heap.SameBut.update ..))⟩))))
  exact ⟨_, Heap.get?_update_self _ ho (Obj.isFreed_of_fields (Obj.data_mapFields hd _)), (Obj.cls_mapFields ..).trans hc, by
    rw [Obj.data_mapFields hd]; simp [rawInt]⟩
theorem next_end {i : Nat} {Q : Option Value → Shared → Prop} (hh : A.handled = none) (ha : Is s.heap a b) (hit : IsIter s.heap I a i) (hx : b[i]? = none)
    (hQ : ∀ h', Heap.ExtBut I s.heap h' → Q none { s with heap := h' }) : wpAny (model prog w) A (pyNext (.ref I)) Q E s := by
  obtain ⟨o, ho, hc, hd⟩ := id hit
  unfold pyNext
  refine wpAny_bind (wpAny_attempt (wpAny_callSpecial?_slot (name := PySem.Str.ofString "__next__") (iter_typeIs hit) slot_next
    (wpAny_call_entry slot_next (iter_typeIs hit) entry_next ?_ (args_next _))))
  show wpAny _ _ (field (.ref I) 0 >>= _) _ _ s
  refine wpAny_bind (wpAny_field ho hd (x := .ref a) rfl ?_)
  show wpAny _ _ (load a >>= _) _ _ s
  refine wpAny_bind (wpAny_load ha ?_)
  show wpAny _ _ (field (.ref I) 1 >>= _) _ _ s
  refine wpAny_bind (wpAny_field ho hd (x := .int i 0) rfl ?_)
  simp only [Int.toNat_natCast, hx]
  refine wpAny_bind (wpAny_rule (wpAny_bind (wpAny_setField ho hd (by simp) ?_)))
  refine wpAny_bind (wpAny_letGo ?_)
  show wpAny _ _ (newExc (.type "StopIteration") [] >>= _) _ _ _
  refine wpAny_bind ?_
  simp only [newExc, newTuple]
  refine wpAny_bind (wpAny_newObj_type ?_ (by size_fits))
  refine wpAny_bind (m := firstArgMember _ _) (wpAny_of_eq (a := Value.none) (by first | rfl | (simp only [firstArgMember]; rfl)) ?_)
  refine wpAny_newObj_type ?_ (by size_fits)
  simp only [raiseNew]
  refine wpAny_bind (wpAny_handled ?_)
  rw [show A.in1.handled = none from hh]
  refine wpAny_bind (wpAny_pure (wpAny_throw ?_))
  refine wpAny_bind (wpAny_isInstance (T := "StopIteration") (b := true) ⟨_, Heap.get?_push_size _ rfl, rfl⟩ isSubtype_stop ?_)
  exact wpAny_pure (hQ _ (((Heap.SameBut.update ..).extBut.push _).push _))
end
theorem walks {prog : Program} {w : World} {A : Around} (hh : A.handled = none) (I a : Addr) (hne : a ≠ I) (b : Array UInt8) :
    Walks prog w A I [I, a] [I] b.size (fun i v => ∃ c u, b[i]? = some c ∧ v = .int (c.toNat : Int) u) (fun i h => IsIter h I a i ∧ Is h a b) where
  sub := fun b hb => by simp at hb; simp [hb]
  frame := fun _ _ _ st hk => ⟨(let ⟨o, ho, r⟩ := st.1; ⟨o, hk I (by simp) o ho, r⟩), hk a (by simp) _ st.2⟩
  item := fun i s Q E hi st hQ => by
    refine next_item st.2 st.1 (c := b[i]) (by simp [hi]) fun h' hit' hs' => ?_
    exact hQ _ h' (s.toks + 1) ⟨_, _, by simp [hi], rfl⟩ ⟨hit', hs'.extBut _ _ hne st.2⟩ fun b o hb e => hs'.extBut b o (fun h => hb (by simp [h])) e
  done := fun s Q E st hQ => next_end hh st.2 st.1 (by simp) fun h' he' => hQ h' s.toks fun b o hb e => he' b o (fun h => hb (by simp [h])) e
  self := fun _ _ _ _ st hQ => iter_self st.1 hQ
end BA

-- 27_dec
theorem part27 : True := by
  w_top off
  trivial
/-- the octets as ints -/
def bI (b : Array UInt8) : List Int := b.toList.map fun c => (c.toNat : Int)
theorem bI_len (b : Array UInt8) : (bI b).length = b.size := by simp [bI]
theorem bI_at {b : Array UInt8} {i : Nat} {c : UInt8} (h : b[i]? = some c) : (bI b)[i]? = some (c.toNat : Int) := by simp [bI, h]
theorem bI_in {b : Array UInt8} {k : Int} (h : k ∈ bI b) : 0 ≤ k ∧ k < 256 := by
  obtain ⟨c, _, e⟩ := List.mem_map.1 h
  have := c.toNat_lt
  omega
section
variable {prog : Program} {w : World} {A : Around} {E : Value → Shared → Prop} {s₁ : Shared} {h₀ : Heap} {L : Addr} {m : Str → Option Value} {news : List (Addr × Obj)} {env : Env} {elt : Expr} {x z : Str} {ifs : List Expr} {scope : Scope}
theorem srcC_ba {a : Addr} {b : Array UInt8} {Q : Value → Shared → Prop} (pz : Int → Bool) (d : Int → PyData)
    (hh : A.handled = none) (F : Fr h₀ L s₁.heap m) (N : News h₀ L s₁.heap news) (hm : (a, BA.O b) ∈ news) (hsz : b.size ≤ 1000)
    (g1 : ∀ C k v s₂ m₂ E', k ∈ bI b → (inK (bI b)).is k v → s₂.heap.Ns (compEnv scope C env).locals m₂ → m₂ x = some v → (∀ b o, s₁.heap.get? b = some o → s₂.heap.get? b = some o) →
        wpAny (model prog w) A (forIn ifs true fun c r => if r = true then do let ok ← isTrue c (compEnv scope C env) (eval c (compEnv scope C env)); pure (ForInStep.yield ok) else pure (ForInStep.yield r))
          (fun ok s₃ => ok = pz k ∧ Keeps s₂ s₃) E' s₂)
    (g2 : ∀ C k v s₂ m₂ E', k ∈ bI b → (inK (bI b)).is k v → s₂.heap.Ns (compEnv scope C env).locals m₂ → m₂ x = some v → (∀ b o, s₁.heap.get? b = some o → s₂.heap.get? b = some o) →
        wpAny (model prog w) A (eval elt (compEnv scope C env)) (fun r s₃ => Carried r (d k) ∧ Keeps s₂ s₃) E' s₂)
    (g3 : ∀ D (ys : List Value) n h' tk, Fr h₀ L h' m → News h₀ L h' ((D, W.listOf ys.toArray n) :: news) → (∀ p ∈ news, p.1 ≠ D) → CarriedAll ys (((bI b).filter pz).map d) → (∀ b o, s₁.heap.get? b = some o → h'.get? b = some o) → Q (.ref D) { s₁ with heap := h', toks := tk }) :
    wpAny (model prog w) A (pyIter (.ref a)) (CompPost prog w A env scope x ifs elt Q) E s₁ := by
  have ha : BA.Is s₁.heap a b := (N _ hm).1
  have hlt : a < s₁.heap.objs.size := Heap.lt_size ha
  have hne : a ≠ s₁.heap.objs.size := Nat.ne_of_lt hlt
  refine BA.iter_made ha ?_
  have Wk : Walks prog w A s₁.heap.objs.size [s₁.heap.objs.size, a] [s₁.heap.objs.size] (bI b).length (fun i v => ∃ k, (bI b)[i]? = some k ∧ (inK (bI b)).is k v) _ := (bI_len b).symm ▸ walks_weak (BA.walks hh s₁.heap.objs.size a hne b) fun i v h => by
    obtain ⟨c, u, hc, hv⟩ := h
    exact ⟨_, bI_at hc, List.mem_of_getElem? (bI_at hc), u, hv⟩
  refine comp_at Wk ⟨⟨_, Heap.get?_push_size _ rfl, rfl, rfl⟩, Heap.get?_push_of_some _ ha⟩ ?_ F N (by rw [sizeLine_eq, bI_len]; omega) g1 g2 g3
  intro c hc
  rw [Heap.size_push]
  have hc' : c = s₁.heap.objs.size ∨ c = a := by simpa using hc
  rcases hc' with e | e
  · rw [e]; exact Nat.lt_succ_self _
  · rw [e]; exact Nat.lt_succ_of_lt hlt
end
section
variable {w : World} {mean : ExcName → Option Value} {mg mb : Str → Option Value} {dp un : Nat} {env : Env} {outer : List Env} {A₀ : Around} {base h₀ : Heap} {L : Addr} {m : Str → Option Value} {s : Shared} {Q E : Value → Shared → Prop}
theorem dec_spec {a : Addr} {b : Array UInt8} {news : List (Addr × Obj)}
  (C : Cx w mean mg mb 1 dp un env outer A₀ base h₀ L) (F : Fr h₀ L s.heap m)
  (N : News h₀ L s.heap news) (hm : (a, BA.O b) ∈ news) (hz : b.size ≤ 19)
  (ret : ∀ y t h' tk', y.cps.toList = (bI b).map Int.toNat → y.cps.size ≤ 19 → Fr h₀ L h' m → News h₀ L h' news → Q (.str y t) {s with heap := h', toks := tk'}) :
  wpAny (model PR w) (Ar dp un env outer) (call (.ref 90) [.ref a]) Q E s := by
  obtain ⟨B, X, T, hf, hke, hd, hu⟩ := C
  unfold PR
  refine wpAny_call ?_
  k_dflt walk_at "my_enter"
  intro g' L' h' FG' F' N' B' X' T'
  replace F' : Fr g' L' h' (lk [("octets", .ref a)]) := F'
  replace N' : News g' L' h' ((a, BA.O b) :: news) := inN N' hm
  show wpAny _ _ (execs _ _) _ _ _
  k_fold
  k_steps
  refine ⟨?_⟩
  refine srcC_ba (fun c => true) (fun c => .str ⟨#[c.toNat]⟩) rfl (by k_asm) (by k_asm) (.head _) (by omega) ?g1 ?g2 ?g3
  case g1 =>
      rintro C a v s₂ m₂ E' ha ⟨_, tv, rfl⟩ hns hm hup
      k_steps
      exact ⟨_, _, rfl, fun _ _ e => e⟩
  case g2 =>
      rintro C a v s₂ m₂ E' ha ⟨_, tv, rfl⟩ hns hm hup
      have hr : 0 ≤ a ∧ a < 256 := bI_in ha
      k_steps
      · exact .str _ _
      · exact ⟨_, _, rfl, fun _ _ e => e⟩
  case g3 =>
      intro O ys nO hO tkO FO NO hnO hys _
      replace hys := carried_chr hys
      have hl1' : ((bI b).map Int.toNat).length ≤ 19 := by rw [List.length_map, bI_len]; exact hz
      k_steps
      refine ret _ _ _ _ (by assumption) (by omega) (by k_asm) (tlN (tlN (by assumption)))
end

-- 28_make
theorem part28 : True := by
  w_top off
  trivial
-- a method's or an __init__'s body, entered from a frame of ours
theorem words28a : True := by
  (k_with "my_enter" => (refine code_def (by k_asm) (by k_asm) (by k_asm) (by k_asm) (by k_asm) (by exact rfl) (by assumption) (by assumption) (by k_is) (by k_is) (by (show _ < 1000; (try simp only [depth_mark, depth_under_make, depth_under_kw, depth_in1, depth_deeper]); (try dsimp only); omega)) (by first | exact BindsTo.of_eq rfl | exact binds_K (by k_in) rfl (by k_is) rfl rfl rfl) (by exact locs rfl) ?_ (by exact rfl) (by exact rfl) (by exact rfl) (by decide); k_whole))
  trivial
/-- what an 8.3 name's object holds: its name, its encoding, whether it was set -/
abbrev eightD (w : World) (t1 t2 t3 : Tok) (nv : Value) (y : Str) (ty : Tok) (ini : Bool) : Obj :=
  dictOf [⟨PyData.keyHash w.params "name", .str "name" t1, nv⟩, ⟨PyData.keyHash w.params "encoding", .str "encoding" t2, .str y ty⟩, ⟨PyData.keyHash w.params "initialized", .str "initialized" t3, .bool ini⟩] 3
section
variable {w : World} {mean : ExcName → Option Value} {mg mb : Str → Option Value} {dp un : Nat} {env : Env} {outer : List Env} {A₀ : Around} {base h₀ : Heap} {L : Addr} {m : Str → Option Value} {s : Shared} {Q E : Value → Shared → Prop}
theorem make_spec {news : List (Addr × Obj)}
  (C : Cx w mean mg mb 2 dp un env outer A₀ base h₀ L) (F : Fr h₀ L s.heap m)
  (N : News h₀ L s.heap news)
  (ret : ∀ I d t1 t2 t3 y ty h' tk', Fr h₀ L h' m → News h₀ L h' ((I, instObj 223 d) :: (d, eightD w t1 t2 t3 .none y ty false) :: news) → (∀ p ∈ news, p.1 < d) → d < I → Q (.ref I) {s with heap := h', toks := tk'}) :
  wpAny (model PR w) (Ar dp un env outer) (call (.ref 223) []) Q E s := by
  obtain ⟨B, X, T, hf, hke, hd, hu⟩ := C
  unfold PR
  k_dflt (refine' call_cls ?k1 ?k2 ?k3 ?k4 ?k5 ?k6 ?_; (case k1 => k_asm); (case k2 => k_asm); (case k3 => k_asm); (case k4 => k_is); (case k5 => k_is); (case k6 => k_is); k_whole)
  intro x' d' h' F' N' l1 l2
  have l1' := l1
  have l2' := l2
  (try k_lt l1); (try k_lt2 l2)
  k_dflt walk_at "my_enter"
  intro g' L' h' FG' F' N' B' X' T'
  obtain ⟨y0, t0, F'⟩ : ∃ y t, Fr g' L' h' (lk [("encoding", .str y t), ("self", .ref x')]) := ⟨_, _, F'⟩
  show wpAny _ _ (execs _ _) _ _ _
  k_fold
  k_steps
  exact ret _ _ _ _ _ _ _ _ _ (by k_asm) (by k_asm) l1' l2'
end

-- 29_astext
theorem part29 : True := by
  w_top off
  trivial
theorem words29a : True := by
  (k_with "call ref" => (k_here; (with_reducible show wpAny _ _ (call (Value.ref 90) _ _) _ _ _); k_dflt (refine dec_spec (by walk_at "my_cx") (by k_asm) (by k_asm) (by k_mem) (by first | assumption | omega) ?_; intros; (try k_sweep))))
  (k_with "subscriptTail Name Constant ref int" => (k_here; (with_reducible show wpAny _ _ (subscriptTail _ _ (Value.ref _) (Value.int _ _)) _ _ _); k_dflt (refine BA.item (by exact News.get (by k_asm) (by k_mem)) (by omega) (by decide) (by omega) ?_); intro _ _))
  trivial
local macro_rules | `(tactic| walk_at "subscriptTail Name Slice ref ref") => `(tactic| (k_here; (with_reducible show wpAny _ _ (subscriptTail _ (PySem.Expr.Slice _ _ none _) (Value.ref _) (Value.ref _)) _ _ _); k_dflt (refine' BA.slice (s := ⟨_, _, _, _, _⟩) ?F ?N ?m ?p ?q ?z ?_; (case F => k_asm); (case N => k_asm); (case m => k_mem); (case p => first | exact IsPart.none | exact IsPart.int _ _); (case q => first | exact IsPart.none | exact IsPart.int _ _); (case z => first | assumption | omega)); intro D' h' F' N' l1; (try k_lt l1); (try k_sweep)))
theorem pick_range {α : Type} (l : List α) (a : Nat) : ∀ n, (List.range n).filterMap (fun k => l[a + k]?) = (l.drop a).take n
  | 0 => rfl
  | n + 1 => by
    rw [List.range_succ, List.filterMap_append, pick_range l a n, List.take_add_one, List.getElem?_drop]
    cases h : l[a + n]? <;> simp [h]
theorem pick_nat {b : Array UInt8} {lo hi : Option Int} {a c : Nat} (h : sliceBounds lo hi none b.size = ((a : Int), (c : Int), 1)) (hac : a ≤ c) : (BA.pick b lo hi).toList = (b.toList.drop a).take (c - a) := by
  unfold BA.pick Builtin.Bytes.sliced
  rw [h]
  simp only [sliceRange, show (1 : Int) > 0 by decide, if_true]
  have hcount : (if (a : Int) < (c : Int) then ((c : Int) - a + 1 - 1) / 1 else 0).toNat = c - a := by
    split <;> omega
  rw [hcount, List.filterMap_map]
  rw [← pick_range b.toList a (c - a)]
  have e : ((fun x => b[x]?) ∘ fun k : Nat => ((a : Int) + 1 * (k : Int)).toNat) = fun k => b.toList[a + k]? := by
    funext k
    show b[(((a : Int) + 1 * (k : Int)).toNat)]? = b.toList[a + k]?
    rw [show ((a : Int) + 1 * (k : Int)).toNat = a + k by omega]
    simp
  rw [e]
theorem pick_8 {b : Array UInt8} (h : b.size = 11) : (BA.pick b none (some 8)).toList = b.toList.take 8 := by
  have e : sliceBounds none (some 8) none b.size = (((0 : Nat) : Int), ((8 : Nat) : Int), 1) := by rw [h]; decide
  rw [pick_nat e (by decide)]; rfl
theorem pick_3 {b : Array UInt8} (h : b.size = 11) : (BA.pick b (some 8) (some 11)).toList = b.toList.drop 8 := by
  have e : sliceBounds (some 8) (some 11) none b.size = (((8 : Nat) : Int), ((11 : Nat) : Int), 1) := by rw [h]; decide
  rw [pick_nat e (by decide), List.take_of_length_le]
  rw [List.length_drop, Array.length_toList, h]; decide
theorem pick_8s {b : Array UInt8} (h : b.size = 11) : (BA.pick b none (some 8)).size = 8 := by
  rw [← Array.length_toList, pick_8 h, List.length_take, Array.length_toList, h]; rfl
theorem pick_3s {b : Array UInt8} (h : b.size = 11) : (BA.pick b (some 8) (some 11)).size = 3 := by
  rw [← Array.length_toList, pick_3 h, List.length_drop, Array.length_toList, h]
section
variable {prog : Program} {w : World} {A : Around} {E : Value → Shared → Prop} {s : Shared} {t : Tok} {Q : Value → Shared → Prop}
theorem R_join2 {D : Addr} {p x y : Str} {tx ty : Tok} (hl : s.heap.IsList D #[.str x tx, .str y ty]) (hp : p.cps.size ≤ 19) (hx : x.cps.size ≤ 19) (hy : y.cps.size ≤ 19)
    (h : ∀ t' k, Q (.str (x ++ p ++ y) t') { s with toks := k }) : wpAny (model prog w) A (call (.builtin "str.join") [.str p t, .ref D]) Q E s := by
  refine join_list (ys := [x, y]) hl (.cons _ _ (.cons _ _ .nil)) ?_ fun t' k => ?_
  · have e1 : x.length = x.cps.size := rfl
    have e2 : y.length = y.cps.size := rfl
    have e3 : p.length = p.cps.size := rfl
    simp only [List.map_cons, List.map_nil, List.sum_cons, List.sum_nil, List.length_cons, List.length_nil]
    omega
  · have e : Txt.join p [x, y] = x ++ p ++ y := by
      have := StrLaws.glued_eq_join p [x, y]
      exact this
    rw [e]; exact h t' k
end
theorem words29b : True := by
  (k_with "call builtin:str.join" => (k_here; (with_reducible show wpAny _ _ (call (Value.builtin "str.join") [Value.str _ _, Value.ref _]) _ _ _); k_dflt (refine R_join2 (by exact News.isList (items := #[.str _ _, .str _ _]) (by k_asm) (by k_mem)) (by exact Nat.le_of_ble_eq_true rfl) (by assumption) (by assumption) ?_); intro _ _))
  trivial
/-- the octets as a text's signs -/
def bN (b : Array UInt8) : List Nat := (bI b).map Int.toNat
/-- what the project tells of eleven signs -/
def asTextOf (l : List Nat) : List Nat :=
  if trimE Unicode.isSpace (l.drop 8) = [] then trimE Unicode.isSpace (l.take 8) else trimE Unicode.isSpace (l.take 8) ++ [46] ++ trimE Unicode.isSpace (l.drop 8)
theorem bN_pick8 {b : Array UInt8} (h : b.size = 11) : (bI (BA.pick b none (some 8))).map Int.toNat = (bN b).take 8 := by
  unfold bN bI
  rw [pick_8 h, ← List.map_take, ← List.map_take]
theorem bN_pick3 {b : Array UInt8} (h : b.size = 11) : (bI (BA.pick b (some 8) (some 11))).map Int.toNat = (bN b).drop 8 := by
  unfold bN bI
  rw [pick_3 h, ← List.map_drop, ← List.map_drop]
theorem at_two {b : Array UInt8} {x y p q : Str} (h : b.size = 11) (hx : x.cps.toList = trimE Unicode.isSpace p.cps.toList) (hp : p.cps.toList = (bI (BA.pick b none (some 8))).map Int.toNat)
    (hy : y.cps.toList = trimE Unicode.isSpace q.cps.toList) (hq : q.cps.toList = (bI (BA.pick b (some 8) (some 11))).map Int.toNat) (h0 : 0 < (y.cps.size : Int)) : (x ++ Str.ofString "." ++ y).cps.toList = asTextOf (bN b) := by
  rw [bN_pick8 h] at hp
  rw [bN_pick3 h] at hq
  rw [hp] at hx
  rw [hq] at hy
  have hne : y.cps.toList ≠ [] := fun e => by rw [size_list, e] at h0; simp at h0
  rw [cat_list, cat_list, dot_eq, hx]
  unfold asTextOf
  rw [hy] at hne
  rw [if_neg hne, hy]
theorem at_one {b : Array UInt8} {x y p q : Str} (h : b.size = 11) (hx : x.cps.toList = trimE Unicode.isSpace p.cps.toList) (hp : p.cps.toList = (bI (BA.pick b none (some 8))).map Int.toNat)
    (hy : y.cps.toList = trimE Unicode.isSpace q.cps.toList) (hq : q.cps.toList = (bI (BA.pick b (some 8) (some 11))).map Int.toNat) (h0 : ¬ 0 < (y.cps.size : Int)) : (x ++ Str.ofString "" ++ y).cps.toList = asTextOf (bN b) := by
  rw [bN_pick8 h] at hp
  rw [bN_pick3 h] at hq
  rw [hp] at hx
  rw [hq] at hy
  have he : y.cps.toList = [] := by
    rw [size_list] at h0
    exact List.length_eq_zero_iff.mp (by omega)
  have e0 : (Str.ofString "").cps.toList = [] := by decide +kernel
  rw [cat_list, cat_list, e0, he, hx]
  unfold asTextOf
  rw [he] at hy
  rw [if_pos hy.symm]
  simp
section
variable {w : World} {mean : ExcName → Option Value} {mg mb : Str → Option Value} {dp un : Nat} {env : Env} {outer : List Env} {A₀ : Around} {base h₀ : Heap} {L : Addr} {m : Str → Option Value} {s : Shared} {Q E : Value → Shared → Prop}
theorem astext_spec {I d a : Addr} {t1 t2 t3 ty : Tok} {y0 : Str} {b : Array UInt8} {news : List (Addr × Obj)}
  (C : Cx w mean mg mb 2 dp un env outer A₀ base h₀ L) (F : Fr h₀ L s.heap m)
  (N : News h₀ L s.heap news) (hI : (I, instObj 223 d) ∈ news) (hd : (d, eightD w t1 t2 t3 (.ref a) y0 ty true) ∈ news) (ha : (a, BA.O b) ∈ news) (hz : b.size = 11) (h5 : ∀ c, b[0]? = some c → c.toNat ≠ 5)
  (ret : ∀ y t h' tk', y.cps.toList = asTextOf (bN b) → Fr h₀ L h' m → News h₀ L h' news → Q (.str y t) {s with heap := h', toks := tk'}) :
  wpAny (model PR w) (Ar dp un env outer) (call (.ref 127) [.ref I]) Q E s := by
  obtain ⟨B, X, T, hf, hke, hdp, hu⟩ := C
  unfold PR
  refine wpAny_call ?_
  k_dflt walk_at "my_enter"
  intro g' L' h' FG' F' N' B' X' T'
  replace F' : Fr g' L' h' (lk [("self", .ref I)]) := F'
  replace N' : News g' L' h' ((I, instObj 223 d) :: (d, eightD w t1 t2 t3 (.ref a) y0 ty true) :: (a, BA.O b) :: news) := inN (inN (inN N' ha) (.tail _ hd)) (.tail _ (.tail _ hI))
  show wpAny _ _ (execs _ _) _ _ _
  k_fold
  have hp8 := pick_8s hz
  have hp3 := pick_3s hz
  k_steps
  · have h5' := h5 _ (by assumption)
    omega
  · refine ret _ _ _ _ (at_two hz (by assumption) (by assumption) (by assumption) (by assumption) (by assumption)) (by k_asm) (fun p hp => (show News h₀ L _ _ by assumption) p (.tail _ (.tail _ (.tail _ (.tail _ (.tail _ (.tail _ hp)))))))
  · refine ret _ _ _ _ (at_one hz (by assumption) (by assumption) (by assumption) (by assumption) (by assumption)) (by k_asm) (fun p hp => (show News h₀ L _ _ by assumption) p (.tail _ (.tail _ (.tail _ (.tail _ (.tail _ (.tail _ hp)))))))
end

-- 30_babytes
theorem part30 : True := by
  w_top off
  trivial
namespace BA
open Builtin
theorem noBytes : typeLookup (.type "bytearray") "__bytes__" = pure none := by rw [typeLookup_type, builtinLookup_eq_fast]; kernel_rfl
theorem noIndex : typeLookup (.type "bytearray") "__index__" = pure none := by rw [typeLookup_type, builtinLookup_eq_fast]; kernel_rfl
theorem has_buffer : typeLookup (.type "bytearray") "__buffer__" = pure (some (.builtin "bytearray.__buffer__")) := by rw [typeLookup_type, builtinLookup_eq_fast]; kernel_rfl
theorem has_release : typeLookup (.type "bytearray") "__release_buffer__" = pure (some (.builtin "bytearray.__release_buffer__")) := by rw [typeLookup_type, builtinLookup_eq_fast]; kernel_rfl
theorem sub_self : isSubtype (.type "bytearray") (.type "bytearray") = pure true := by rw [isSubtype_type]; kernel_rfl
section
variable {prog : Program} {w : World} {A : Around} {E : Value → Shared → Prop} {s : Shared} {a I : Addr} {b : Array UInt8}
theorem own_buffer {Q : Bool → Shared → Prop} (ha : Is s.heap a b) (h : Q true s) : wpAny (model prog w) A (Bytes.slotIsOwn (.ref a) "__buffer__") Q E s := by
  unfold Bytes.slotIsOwn
  refine wpAny_bind (wpAny_specialOf ha.typeIs has_buffer ?_)
  dsimp only
  refine bm_if_false (by decide +kernel) ?_
  have e : ("bytearray.__buffer__" : String).dropRight (("__buffer__" : String).length + 1) = "bytearray" := by decide +kernel
  rw [e]
  exact wpAny_isInstance ha.typeIs sub_self h
theorem own_release {Q : Bool → Shared → Prop} (ha : Is s.heap a b) (h : Q false s) : wpAny (model prog w) A (Bytes.ownRelease (.ref a)) Q E s := by
  unfold Bytes.ownRelease Bytes.slotIsOwn
  refine wpAny_bind (wpAny_bind (wpAny_specialOf ha.typeIs has_release ?_))
  dsimp only
  refine bm_if_false (by decide +kernel) ?_
  have e : ("bytearray.__release_buffer__" : String).dropRight (("__release_buffer__" : String).length + 1) = "bytearray" := by decide +kernel
  rw [e]
  exact wpAny_isInstance ha.typeIs sub_self (wpAny_pure h)
theorem new_of {Q : Value → Shared → Prop} (ha : Is s.heap a b) (hz : b.size ≤ sizeLine)
    (hQ : ∀ t k, Q (.bytes b t) { s with toks := k }) :
    codeAny (model prog w) A (.call (.builtin "bytes.__new__") ⟨[.type "bytes", .ref a], []⟩) (wants Q E) s := by
  refine codeAny_of_tree ?_
  show wpAny _ A.in1 (do checkBuiltinCall "bytes.__new__" ⟨[.type "bytes", .ref a], []⟩; again (.builtin "bytes.__new__" ⟨[.type "bytes", .ref a], []⟩)) _ _ s
  refine wpAny_bind (wpAny_of_eq (F.bm_newCall _) (wpAny_pure ⟨plainId_quiet F.bm_plain _, codeAny_builtin F.bm_entry ?_⟩))
  rw [Around.under_plainId F.bm_plain _]
  have hT : s.TypeIs (.ref a) "bytearray" := ha.typeIs
  unfold Builtin.«bytes.__new__»
  refine wpAny_bind (wpAny_of_eq (a := true) rfl (bm_if_false rfl ?_))
  refine wpAny_bind (wpAny_of_eq F.bm_sub (bm_if_false rfl ?_))
  refine wpAny_bind (wpAny_of_eq (F.bm_bind _) ?_)
  refine wpAny_bind (wpAny_of_eq (a := ()) rfl ?_)
  refine wpAny_bind (wpAny_of_eq (a := ()) rfl (bm_if_false rfl ?_))
  refine wpAny_bind (wpAny_specialOf hT noBytes ?_)
  refine wpAny_bind (wpAny_bind ?_)
  show wpAny _ _ (load a >>= _) _ _ _
  refine wpAny_bind (wpAny_load ha ?_)
  refine wpAny_pure (wpAny_pure (bm_if_false rfl ?_))
  refine wpAny_bind (wpAny_specialOf hT noIndex (bm_if_true rfl ?_))
  first
    | show wpAny _ _ (Bytes.buffer? "bytes.__new__" (.ref a) true >>= _) _ _ _
    | (refine wpAny_bind ?_; show wpAny _ _ (Bytes.buffer? "bytes.__new__" (.ref a) true >>= _) _ _ _)
  refine wpAny_bind ?_
  unfold Bytes.buffer?
  refine wpAny_bind (wpAny_specialOf hT has_buffer ?_)
  (try dsimp only)
  refine wpAny_bind (own_buffer ha (bm_if_false rfl ?_))
  refine wpAny_bind (wpAny_specialOf hT has_buffer ?_)
  (try dsimp only)
  refine wpAny_bind (own_release ha (bm_if_false rfl ?_))
  refine wpAny_bind (payload_ref ha (wpAny_pure ?_))
  (try dsimp only)
  refine wpAny_bind (wpAny_rule (wpAny_bind ?_))
  refine wpAny_mkBytes ?_ hz
  show wpAny _ _ (if (Value.type "bytes" == Value.type "bytes") = true then _ else _) _ _ _
  refine bm_if_true (by decide) ?_
  first
    | exact wpAny_pure (hQ _ _)
    | exact wpAny_bind (wpAny_pure (wpAny_pure (hQ _ _)))
    | exact wpAny_bind (wpAny_pure (hQ _ _))
theorem bytes_of {Q : Value → Shared → Prop} (ha : Is s.heap a b) (hz : b.size ≤ 1000) (hQ : ∀ t k, Q (.bytes b t) { s with toks := k }) : wpAny (model prog w) A (call (.type "bytes") [.ref a]) Q E s := by
  refine callType_codes (Q₁ := fun obj s₁ => s₁.TypeIs obj "bytes" ∧ Q obj s₁) F.bm_called (F.bm_typeCall _) F.entry_object_init
    (new_of ha (by rw [sizeLine_eq]; omega) fun t k => ⟨PySem.W.typeIs_bytes _ _ _, hQ t k⟩) fun obj s₁ h₁ => ?_
  exact ⟨h₁.1, F.args_object_init_2 obj _, object_init_meets F.bm_called.init.lookup F.bm_called.made (by decide) prog w A.in1 _ s₁ ⟨h₁.1, rfl, h₁.2⟩⟩
end
end BA

-- 31_held
theorem part31 : True := by
  w_top off
  trivial
theorem words31a : True := by
  (k_with "call type:bytes" => (k_here; (with_reducible show wpAny _ _ (call (Value.type "bytes") [Value.ref _]) _ _ _); k_dflt (refine BA.bytes_of (by exact News.get (by k_asm) (by k_mem)) (by omega) ?_); intro _ _))
  (k_with "call ref" => (k_here; (with_reducible show wpAny _ _ (call (Value.ref 127) _ _) _ _ _); k_dflt (refine astext_spec (by walk_at "my_cx") (by k_asm) (by k_asm) (by k_mem) (by k_mem) (by k_mem) (by first | assumption | omega) (by assumption) ?_; intros; (try k_sweep))))
  trivial
section
variable {w : World} {mean : ExcName → Option Value} {mg mb : Str → Option Value} {dp un : Nat} {env : Env} {outer : List Env} {A₀ : Around} {base h₀ : Heap} {L : Addr} {m : Str → Option Value} {s : Shared} {Q E : Value → Shared → Prop}
theorem asbytes_spec {I d a : Addr} {t1 t2 t3 ty : Tok} {y0 : Str} {b : Array UInt8} {news : List (Addr × Obj)}
  (C : Cx w mean mg mb 1 dp un env outer A₀ base h₀ L) (F : Fr h₀ L s.heap m)
  (N : News h₀ L s.heap news) (hI : (I, instObj 223 d) ∈ news) (hd : (d, eightD w t1 t2 t3 (.ref a) y0 ty true) ∈ news) (ha : (a, BA.O b) ∈ news) (hz : b.size = 11)
  (ret : ∀ t h' tk', Fr h₀ L h' m → News h₀ L h' news → Q (.bytes b t) {s with heap := h', toks := tk'}) :
  wpAny (model PR w) (Ar dp un env outer) (call (.ref 134) [.ref I]) Q E s := by
  obtain ⟨B, X, T, hf, hke, hdp, hu⟩ := C
  unfold PR
  refine wpAny_call ?_
  k_dflt walk_at "my_enter"
  intro g' L' h' FG' F' N' B' X' T'
  replace F' : Fr g' L' h' (lk [("self", .ref I)]) := F'
  replace N' : News g' L' h' ((I, instObj 223 d) :: (d, eightD w t1 t2 t3 (.ref a) y0 ty true) :: (a, BA.O b) :: news) := inN (inN (inN N' ha) (.tail _ hd)) (.tail _ (.tail _ hI))
  show wpAny _ _ (execs _ _) _ _ _
  k_fold
  k_steps
  exact ret _ _ _ (by k_asm) (fun p hp => (show News h₀ L _ _ by assumption) p (.tail _ (.tail _ (.tail _ hp))))
theorem initok_spec {I d a : Addr} {t1 t2 t3 ty : Tok} {y0 : Str} {news : List (Addr × Obj)}
  (C : Cx w mean mg mb 1 dp un env outer A₀ base h₀ L) (F : Fr h₀ L s.heap m)
  (N : News h₀ L s.heap news) (hI : (I, instObj 223 d) ∈ news) (hd : (d, eightD w t1 t2 t3 (.ref a) y0 ty true) ∈ news)
  (ret : ∀ h' tk', Fr h₀ L h' m → News h₀ L h' news → Q .none {s with heap := h', toks := tk'}) :
  wpAny (model PR w) (Ar dp un env outer) (call (.ref 104) [.ref I]) Q E s := by
  obtain ⟨B, X, T, hf, hke, hdp, hu⟩ := C
  unfold PR
  refine wpAny_call ?_
  k_dflt walk_at "my_enter"
  intro g' L' h' FG' F' N' B' X' T'
  replace F' : Fr g' L' h' (lk [("one", .ref I)]) := F'
  replace N' : News g' L' h' ((I, instObj 223 d) :: (d, eightD w t1 t2 t3 (.ref a) y0 ty true) :: news) := inN (inN N' hd) (.tail _ hI)
  show wpAny _ _ (execs _ _) _ _ _
  k_fold
  k_steps
  exact ret _ _ (by k_asm) (fun p hp => (show News h₀ L _ _ by assumption) p (.tail _ (.tail _ hp)))
end
theorem words31b : True := by
  (k_with "call ref" => (k_here; (with_reducible show wpAny _ _ (call (Value.ref 104) _ _) _ _ _); k_dflt (refine initok_spec (by walk_at "my_cx") (by k_asm) (by k_asm) (by k_mem) (by k_mem) ?_; intros; (try k_sweep))))
  trivial
section
variable {w : World} {mean : ExcName → Option Value} {mg mb : Str → Option Value} {dp un : Nat} {env : Env} {outer : List Env} {A₀ : Around} {base h₀ : Heap} {L : Addr} {m : Str → Option Value} {s : Shared} {Q E : Value → Shared → Prop}
theorem unpadded_spec {I d a : Addr} {t1 t2 t3 ty : Tok} {y0 : Str} {b : Array UInt8} {news : List (Addr × Obj)}
  (C : Cx w mean mg mb 3 dp un env outer A₀ base h₀ L) (F : Fr h₀ L s.heap m)
  (N : News h₀ L s.heap news) (hI : (I, instObj 223 d) ∈ news) (hd : (d, eightD w t1 t2 t3 (.ref a) y0 ty true) ∈ news) (ha : (a, BA.O b) ∈ news) (hz : b.size = 11) (h5 : ∀ c, b[0]? = some c → c.toNat ≠ 5)
  (ret : ∀ y t h' tk', y.cps.toList = asTextOf (bN b) → Fr h₀ L h' m → News h₀ L h' news → Q (.str y t) {s with heap := h', toks := tk'}) :
  wpAny (model PR w) (Ar dp un env outer) (call (.ref 141) [.ref I]) Q E s := by
  obtain ⟨B, X, T, hf, hke, hdp, hu⟩ := C
  unfold PR
  refine wpAny_call ?_
  k_dflt walk_at "my_enter"
  intro g' L' h' FG' F' N' B' X' T'
  replace F' : Fr g' L' h' (lk [("self", .ref I)]) := F'
  replace N' : News g' L' h' ((I, instObj 223 d) :: (d, eightD w t1 t2 t3 (.ref a) y0 ty true) :: (a, BA.O b) :: news) := inN (inN (inN N' ha) (.tail _ hd)) (.tail _ (.tail _ hI))
  show wpAny _ _ (execs _ _) _ _ _
  k_fold
  k_steps
  exact ret _ _ _ _ (by assumption) (by k_asm) (fun p hp => (show News h₀ L _ _ by assumption) p (.tail _ (.tail _ (.tail _ hp))))
end

-- 32_cksum
theorem part32 : True := by
  w_top off
  trivial
section
variable {prog : Program} {w : World} {A : Around} {E : Value → Shared → Prop} {s : Shared} {env : Env} {h₀ : Heap} {x : Str} {body : List Stmt} {Q : Flow → Shared → Prop}
/-- a bytearray's turns, the ledger fixed -/
theorem loopBF {σ : Type} {L a : Addr} {b : Array UInt8} {m : Str → Option Value} {news : List (Addr × Obj)} (ps : σ → List (Str × Value)) (stored : List Str) (m₀ : Str → Option Value) (P : Nat → σ → Prop) (c₀ : σ)
    (hL : env.locals = L) (hh : A.handled = none)
    (F : Fr h₀ L s.heap m) (N : News h₀ L s.heap news) (hm : (a, BA.O b) ∈ news) (hk : MM (ps c₀) stored m₀ m) (hp : P 0 c₀)
    (turn : ∀ c i (q : UInt8) t u h tk own, b[i]? = some q → P i c → (∀ p ∈ news, ∀ q ∈ own, @Ne Nat p.1 q.1) → Fr h₀ L h (fun y => if y = x then some (.int (q.toNat : Int) t) else mm (ps c) stored m₀ u y) → News h₀ L h (news ++ own) →
      wpAny (model prog w) A (execs body env) (PostX h₀ L own (fun m' nx => ∃ c', nx = news ∧ MM (ps c') stored m₀ m' ∧ P (i + 1) c') { s with heap := h, toks := tk } Q) E { s with heap := h, toks := tk })
    (done : ∀ c u h tk, P b.size c → Fr h₀ L h (mm (ps c) stored m₀ u) → News h₀ L h news → Q .next { s with heap := h, toks := tk }) :
    wpAny (model prog w) A (pyIter (.ref a)) (fun it s₂ => LoopAtV prog w A h₀ env x body Q E it s₂) E s := by
  have ha : BA.Is s.heap a b := (N _ hm).1
  have hne : a ≠ s.heap.objs.size := Nat.ne_of_lt (Heap.lt_size ha)
  refine BA.iter_made ha ?_
  refine loopX (m₀ := m) (news := news) (L := L) (n := b.size) (fun _ => BA.O b) (fun i m' nx => ∃ c', nx = news ∧ MM (ps c') stored m₀ m' ∧ P i c') hL (BA.walks hh s.heap.objs.size a hne b) (fun e => ?_) (fun c hc => ?_) (fun p hp e => ?_) ?_ (fun i h st c hc => ?_) (F.push _) (fun p hp => ⟨Heap.get?_push_of_some _ (N p hp).1, (N p hp).2⟩) ⟨c₀, rfl, hk, hp⟩ (fun i m nx hJ c hc hn => ?_) ?_ ?_
  · rcases List.mem_cons.mp e with e | e
    · exact absurd F.ns.lt (e ▸ Nat.lt_irrefl _)
    · exact (N _ hm).2.1 (List.mem_singleton.mp e).symm
  · rw [List.mem_singleton.mp hc]; exact next_is_new F
  · exact absurd (Heap.lt_size (N p hp).1) ((List.mem_singleton.mp e) ▸ Nat.lt_irrefl _)
  · exact ⟨⟨_, Heap.get?_push_size _ rfl, rfl, rfl⟩, Heap.get?_push_of_some _ ha⟩
  · rw [List.mem_singleton.mp hc]; obtain ⟨o, ho, _⟩ := st.1; exact ⟨o, ho⟩
  · have hc' : c = s.heap.objs.size ∨ c = a := by simpa using hc
    rcases hc' with e | e
    · exact absurd (by simp [e]) hn
    · obtain ⟨_, rfl, _⟩ := hJ
      rw [e]; exact hm
  · rintro i v m₁ nx h tk own hi ⟨q, t, hq, rfl⟩ ⟨c, rfl, hM, hP⟩ hap F₁ N₁
    obtain ⟨u, rfl⟩ := hM.eq
    exact turn c i q t u h tk own hq hP hap F₁ N₁
  · rintro m₁ nx h tk ⟨c, rfl, hM, hP⟩ F₁ N₁
    obtain ⟨u, rfl⟩ := hM.eq
    exact done c u h tk hP F₁ N₁
end
/-- the project's step over one octet -/
def ckStep (v n : Int) : Int := Builtin.bitAnd (Builtin.bitOr (v.fdiv (2 ^ Int.toNat 1)) (Builtin.bitAnd v 1 * 2 ^ Int.toNat 7) + n) 255
theorem ck_rot : ∀ v : Nat, v < 256 → Builtin.bitOr ((v : Int).fdiv (2 ^ Int.toNat 1)) (Builtin.bitAnd (v : Int) 1 * 2 ^ Int.toNat 7) = rollTo (turned (v : Int)) 8 ∧ 0 ≤ rollTo (turned (v : Int)) 8 ∧ rollTo (turned (v : Int)) 8 < 256 ∧ (Builtin.bitAnd (v : Int) 1).natAbs < 2 ^ 64 := by decide +kernel
theorem ck_and : ∀ z : Nat, z < 512 → Builtin.bitAnd (z : Int) 255 = (z : Int).fmod 256 := by decide +kernel
theorem ck_eq {v n : Int} (h0 : 0 ≤ v) (h1 : v < 256) (g0 : 0 ≤ n) (g1 : n < 256) : ckStep v n = sumStep v n := by
  obtain ⟨a, rfl⟩ := Int.eq_ofNat_of_zero_le h0
  obtain ⟨r1, r2, r3, _⟩ := ck_rot a (by omega)
  unfold ckStep sumStep
  rw [r1]
  obtain ⟨z, hz⟩ := Int.eq_ofNat_of_zero_le (show 0 ≤ rollTo (turned (a : Int)) 8 + n by omega)
  rw [hz]
  exact ck_and z (by omega)
theorem ck_in {v n : Int} : 0 ≤ sumStep v n ∧ sumStep v n < 256 := ⟨Int.fmod_nonneg_of_pos _ (by decide), Int.fmod_lt_of_pos _ (by decide)⟩
theorem ck_small {v : Int} (h0 : 0 ≤ v) (h1 : v < 256) : (Builtin.bitAnd v 1).natAbs < 2 ^ 64 := by
  obtain ⟨a, rfl⟩ := Int.eq_ofNat_of_zero_le h0
  exact (ck_rot a (by omega)).2.2.2
theorem sum_take {ns : List Int} {i : Nat} {q : Int} (hq : ns[i]? = some q) : sumOf (ns.take (i + 1)) = sumStep (sumOf (ns.take i)) q := by
  rw [List.take_add_one, hq]
  unfold sumOf
  rw [List.foldl_append]
  rfl
theorem words32a : True := by
  (k_with "binaryOp LShift int int" => (k_here; refine lshift_int_small (by decide) (by decide) (by assumption) ?_))
  trivial
section
variable {w : World} {mean : ExcName → Option Value} {mg mb : Str → Option Value} {dp un : Nat} {env : Env} {outer : List Env} {A₀ : Around} {base h₀ : Heap} {L : Addr} {m : Str → Option Value} {s : Shared} {Q E : Value → Shared → Prop}
theorem cksum_spec {I d a : Addr} {t1 t2 t3 ty : Tok} {y0 : Str} {b : Array UInt8} {news : List (Addr × Obj)}
  (C : Cx w mean mg mb 2 dp un env outer A₀ base h₀ L) (F : Fr h₀ L s.heap m)
  (N : News h₀ L s.heap news) (hI : (I, instObj 223 d) ∈ news) (hd : (d, eightD w t1 t2 t3 (.ref a) y0 ty true) ∈ news) (ha : (a, BA.O b) ∈ news) (hz : b.size = 11)
  (ret : ∀ t h' tk', Fr h₀ L h' m → News h₀ L h' news → Q (.int (sumOf (bI b)) t) {s with heap := h', toks := tk'}) :
  wpAny (model PR w) (Ar dp un env outer) (call (.ref 179) [.ref I]) Q E s := by
  obtain ⟨B, X, T, hf, hke, hdp, hu⟩ := C
  unfold PR
  refine wpAny_call ?_
  k_dflt walk_at "my_enter"
  intro g' L' h' FG' F' N' B' X' T'
  replace F' : Fr g' L' h' (lk [("self", .ref I)]) := F'
  replace N' : News g' L' h' ((I, instObj 223 d) :: (d, eightD w t1 t2 t3 (.ref a) y0 ty true) :: (a, BA.O b) :: news) := inN (inN (inN N' ha) (.tail _ hd)) (.tail _ (.tail _ hI))
  show wpAny _ _ (execs _ _) _ _ _
  k_fold
  k_steps
  refine ⟨?_⟩
  rename_i F1 N1
  refine loopBF (L := L') (σ := Int × Tok) (fun c => [("chksum", .int c.1 c.2)]) ["c"] (lk [("self", .ref I)]) (fun i c => 0 ≤ c.1 ∧ c.1 < 256 ∧ c.1 = sumOf ((bI b).take i)) (0, _) rfl rfl (by k_asm) (by k_asm) (.tail _ (.tail _ (.head _))) ⟨List.forall_mem_singleton.mpr rfl, ?st⟩ ?p0 ?turn ?done
  case st =>
    intro z h1 h2
    simp only [List.forall_mem_singleton] at h1
    simp only [if_neg h1]
  case p0 => exact ⟨Int.le_refl _, by show (0 : Int) < 256; decide, rfl⟩
  case turn =>
    rintro ⟨v, tv⟩ i q tq u h1 tk1 own hq ⟨hv0, hv1, hvs⟩ hap F2 N2
    dsimp only [mm, kstB] at F2 hv0 hv1 hvs
    have hsm := ck_small hv0 hv1
    simp only [List.cons_append] at N2
    have hq1 : (q.toNat : Int) < 256 := by have := q.toNat_lt; omega
    k_unmd
    k_fold
    k_steps
    refine ⟨?_⟩
    have hstep : sumStep v (q.toNat : Int) = ckStep v (q.toNat : Int) := (ck_eq hv0 hv1 (by omega) hq1).symm
    refine ⟨_, _, _, (I, instObj 223 d) :: (d, eightD w t1 t2 t3 (.ref a) y0 ty true) :: (a, BA.O b) :: news, rfl, ‹Fr g' L' _ _›, ‹News g' L' _ _›, hap, (ckStep v (q.toNat : Int), _), rfl, ⟨List.forall_mem_singleton.mpr rfl, ?_⟩, ?_⟩
    · intro z h1 h2
      simp only [List.forall_mem_singleton] at h1
      have h3 : ¬ z = "c" := by simpa using h2
      simp only [if_neg h1, if_neg h3, h2, Bool.false_eq_true, if_false]
    · dsimp only
      rw [← hstep, sum_take (bI_at hq), ← hvs]
      exact ⟨ck_in.1, ck_in.2, rfl⟩
  case done =>
    rintro ⟨v, tv⟩ u h1 tk1 ⟨hv0, hv1, hvs⟩ F2 N2
    dsimp only [mm, kstB] at F2
    k_steps
    have e : v = sumOf (bI b) := by
      have h := hvs
      rw [← bI_len, List.take_length] at h
      exact h
    rw [← e] at ret
    exact ret _ _ _ (by k_asm) (fun p hp => (show News h₀ L _ _ by assumption) p (.tail _ (.tail _ (.tail _ hp))))
end

-- 33_pure
theorem part33 : True := by
  w_top off
  trivial
-- the plain law: what the project computes and what the law computes agree on the law's signs
theorem alph_sign : ∀ c ∈ alph, (Builtin.Str.tooLong (Unicode.upperOf c).length = false ∧ 1 ≤ (Unicode.upperOf c).length) ∧ (Unicode.isSpace c = decide (c = 32)) ∧
    okSign c = (decide (Unicode.upperOf c = [c]) && okC c) := by decide +kernel
theorem flat_len {f : Nat → List Nat} : ∀ {l : List Nat}, (∀ c ∈ l, 1 ≤ (f c).length) → l.length ≤ (l.flatMap f).length
  | [], _ => Nat.le_refl _
  | c :: l, h => by
    have h1 := h c (.head _)
    have h2 := flat_len (l := l) fun d hd => h d (.tail _ hd)
    simp only [List.flatMap_cons, List.length_append, List.length_cons]
    omega
theorem flat_eq {f : Nat → List Nat} : ∀ {l : List Nat}, (∀ c ∈ l, 1 ≤ (f c).length) → l.flatMap f = l → ∀ c ∈ l, f c = [c]
  | [], _, _, _, hc => nomatch hc
  | a :: l, h, e, c, hc => by
    have h1 := h a (.head _)
    have h2 := flat_len (l := l) fun d hd => h d (.tail _ hd)
    rw [List.flatMap_cons] at e
    have hl : (f a).length + (l.flatMap f).length = l.length + 1 := by
      have := congrArg List.length e
      simpa using this
    have hf : (f a).length = 1 := by omega
    obtain ⟨d, hd⟩ := List.length_eq_one_iff.mp hf
    rw [hd] at e
    have e' : d = a ∧ l.flatMap f = l := by simpa using e
    rcases List.mem_cons.mp hc with rfl | hc
    · rw [hd, e'.1]
    · exact flat_eq (fun d hd => h d (.tail _ hd)) e'.2 c hc
theorem flat_id {f : Nat → List Nat} : ∀ {l : List Nat}, (∀ c ∈ l, f c = [c]) → l.flatMap f = l
  | [], _ => rfl
  | a :: l, h => by rw [List.flatMap_cons, h a (.head _), flat_id fun d hd => h d (.tail _ hd)]; rfl
theorem upper_list (x : Str) : (Txt.upper x).cps.toList = x.cps.toList.flatMap Unicode.upperOf := by
  unfold Txt.upper placed
  obtain ⟨⟨l⟩⟩ := x
  simp only [Array.toList_flatten, List.flatMap]
  congr 1
  apply List.ext_getElem
  · simp
  · intro i h1 h2
    simp
theorem upper_iff {x : Str} (ha : ∀ c ∈ x.cps.toList, c ∈ alph) : (x != Txt.upper x) = false ↔ ∀ c ∈ x.cps.toList, Unicode.upperOf c = [c] := by
  have hne : (x != Txt.upper x) = false ↔ x = Txt.upper x := by simp
  rw [hne]
  constructor
  · intro e
    have e' : x.cps.toList.flatMap Unicode.upperOf = x.cps.toList := by rw [← upper_list, ← e]
    exact flat_eq (fun c hc => (alph_sign c (ha c hc)).1.2) e'
  · intro h
    refine str_ext ?_
    rw [upper_list, flat_id h]
theorem lastTo_none {c : Nat} {l : List Nat} (h : c ∉ l) : lastTo c l l.length = -1 := by
  rcases lastTo_spec c l l.length with ⟨h1, _⟩ | ⟨i, _, _, h2, _⟩
  · exact h1
  · exact absurd (List.mem_of_getElem? h2) h
/-- the two ways to part a text, where no slash stands in it -/
theorem split_parts {l : List Nat} (h : 47 ∉ l) : (splitOf l).1 = (partsOf l).1 ∧ (splitOf l).2.drop 1 = (partsOf l).2 := by
  unfold splitOf partsOf
  dsimp only
  rw [lastTo_none h]
  have e : ((l.drop ((-1 : Int) + 1).toNat).take (lastTo 46 l l.length - (-1 + 1)).toNat) = l.take (lastTo 46 l l.length).toNat := by
    rw [show ((-1 : Int) + 1).toNat = 0 from rfl, List.drop_zero]
    congr 1
    omega
  rw [e]
  split
  · exact ⟨rfl, rfl⟩
  · exact ⟨rfl, by rw [List.drop_drop]⟩
theorem dot_at {l : List Nat} (h : 0 ≤ lastTo 46 l l.length) : l.drop (lastTo 46 l l.length).toNat = 46 :: l.drop ((lastTo 46 l l.length).toNat + 1) := by
  rcases lastTo_spec 46 l l.length with ⟨h1, _⟩ | ⟨i, hi, h1, h2, _⟩
  · omega
  · rw [h1, Int.toNat_natCast]
    obtain ⟨hlt, he⟩ := List.getElem?_eq_some_iff.mp h2
    rw [List.drop_eq_getElem_cons hlt, he]
theorem mem_drop1 {l : List Nat} {c : Nat} {d : Nat} (hd : l.drop d = 46 :: l.drop (d + 1)) (hc : c ∈ l) (hdot : c ≠ 46) : c ∈ l.take d ++ l.drop (d + 1) := by
  have h1 : c ∈ l.take d ++ l.drop d := by rw [List.take_append_drop]; exact hc
  rcases List.mem_append.mp h1 with h | h
  · exact List.mem_append_left _ h
  · rw [hd] at h
    rcases List.mem_cons.mp h with h | h
    · exact absurd h hdot
    · exact List.mem_append_right _ h
theorem mem_parts {l : List Nat} {c : Nat} (hc : c ∈ l) (hdot : c ≠ 46) : c ∈ (partsOf l).1 ++ (partsOf l).2 := by
  cases h : (l.take (lastTo 46 l l.length).toNat).all (· == 46) with
  | true => rw [parts_one h]; exact List.mem_append_left _ hc
  | false =>
    obtain ⟨h0, e⟩ := parts_two h
    rw [e]
    dsimp only
    rw [show (lastTo 46 l l.length + 1).toNat = (lastTo 46 l l.length).toNat + 1 by omega]
    exact mem_drop1 (dot_at h0) hc hdot
theorem mem_split {l : List Nat} {c : Nat} (hc : c ∈ l) (hdot : c ≠ 46) : c ∈ (splitOf l).1 ++ (splitOf l).2.drop 1 := by
  unfold splitOf
  dsimp only
  split
  · exact List.mem_append_left _ hc
  · rename_i hn
    have h0 : 0 ≤ lastTo 46 l l.length := by
      refine Classical.byContradiction fun h => hn ?_
      have h1 := lastTo_le (c := 47) (l := l) l.length
      rw [show (lastTo 46 l l.length - (lastTo 47 l l.length + 1)).toNat = 0 by omega]
      simp
    rw [List.drop_drop]
    exact mem_drop1 (dot_at h0) hc hdot
theorem parts_mem {l : List Nat} {c : Nat} (h : c ∈ (partsOf l).1 ++ (partsOf l).2) : c ∈ l := by
  unfold partsOf at h
  dsimp only at h
  split at h
  · simpa using h
  · rcases List.mem_append.mp h with h | h
    · exact List.mem_of_mem_take h
    · exact List.mem_of_mem_drop h
theorem up_dot : Unicode.upperOf 46 = [46] := by decide +kernel
theorem slash_no : okC 47 = false ∧ okSign 47 = false := by decide +kernel
/-- the project's word on a text is the law's -/
theorem pconf_eq {x : Str} (ha : ∀ c ∈ x.cps.toList, c ∈ alph) : pconfOf x = confOf x.cps.toList := by
  by_cases h47 : 47 ∈ x.cps.toList
  · have h1 : confOf x.cps.toList = false := conf_s rfl rfl (mem_parts h47 (by decide)) slash_no.2
    have h2 : pconfOf x = false := by
      unfold pconfOf
      rcases List.mem_append.mp (mem_split h47 (by decide)) with h | h
      · rw [all_ko ⟨47, h, slash_no.1⟩]; simp
      · rw [all_ko ⟨47, h, slash_no.1⟩]; simp
    rw [h1, h2]
  · obtain ⟨e1, e2⟩ := split_parts h47
    refine Bool.eq_iff_iff.mpr ?_
    unfold pconfOf confOf
    rw [e1, e2]
    simp only [Bool.and_eq_true, Bool.not_eq_true', decide_eq_true_eq, List.all_eq_true, upper_iff ha]
    constructor
    · rintro ⟨⟨⟨⟨⟨hu, _⟩, h8⟩, h3⟩, hr⟩, he⟩
      refine ⟨⟨h8, h3⟩, fun c hc => ?_⟩
      have hcl := parts_mem hc
      rw [(alph_sign c (ha c hcl)).2.2, hu c hcl]
      rcases List.mem_append.mp hc with h | h
      · rw [hr c h]; simp
      · rw [he c h]; simp
    · rintro ⟨⟨h8, h3⟩, hs⟩
      have hk : ∀ c ∈ (partsOf x.cps.toList).1 ++ (partsOf x.cps.toList).2, Unicode.upperOf c = [c] ∧ okC c = true := fun c hc => by
        have := hs c hc
        rw [(alph_sign c (ha c (parts_mem hc))).2.2] at this
        simpa using this
      refine ⟨⟨⟨⟨⟨fun c hc => ?_, by omega⟩, h8⟩, h3⟩, fun c hc => (hk c (List.mem_append_left _ hc)).2⟩, fun c hc => (hk c (List.mem_append_right _ hc)).2⟩
      by_cases hd : c = 46
      · rw [hd]; exact up_dot
      · exact (hk c (mem_parts hc hd)).1

-- 34_pure2
theorem part34 : True := by
  w_top off
  trivial
theorem dropWhile_map {p : Nat → Bool} {q : Int → Bool} : ∀ {l : List Nat}, (∀ c ∈ l, p c = q (c : Int)) → (l.dropWhile p).map Int.ofNat = (l.map Int.ofNat).dropWhile q
  | [], _ => rfl
  | c :: l, h => by
    have hc : p c = q (c : Int) := h c (.head _)
    have hc' : q (Int.ofNat c) = p c := hc.symm
    rw [List.map_cons, List.dropWhile_cons, List.dropWhile_cons, hc']
    cases p c with
    | true => exact dropWhile_map fun d hd => h d (.tail _ hd)
    | false => rfl
theorem space_int (c : Nat) : decide (c = 32) = decide ((c : Int) = 32) := by
  by_cases h : c = 32
  · subst h; rfl
  · rw [decide_eq_false h, decide_eq_false (by omega)]
theorem trimE_map {l : List Nat} (h : ∀ c ∈ l, Unicode.isSpace c = decide (c = 32)) : (trimE Unicode.isSpace l).map Int.ofNat = bareL (l.map Int.ofNat) := by
  unfold trimE bareL
  rw [List.map_reverse, dropWhile_map (q := fun x => decide (x = 32)) fun c hc => (h c (List.mem_reverse.mp hc)).trans (space_int c), List.map_reverse]
theorem trimL_map {l : List Nat} (h : ∀ c ∈ l, Unicode.isSpace c = decide (c = 32)) : (trimL Unicode.isSpace l).map Int.ofNat = bareL (leadL (l.map Int.ofNat)) := by
  unfold trimL leadL
  rw [trimE_map fun c hc => h c ((List.dropWhile_suffix _).subset hc), dropWhile_map (q := fun x => decide (x = 32)) fun c hc => (h c hc).trans (space_int c)]
theorem lay_map {l : List Nat} {z : Nat} (h : ∀ c ∈ l, Unicode.isSpace c = decide (c = 32)) : (trimL Unicode.isSpace l ++ List.replicate (z - (trimL Unicode.isSpace l).length) 32).map Int.ofNat = layOf l z := by
  unfold layOf
  rw [List.map_append, trimL_map h, List.map_replicate]
  have e : (trimL Unicode.isSpace l).length = (bareL (leadL (l.map Int.ofNat))).length := by rw [← trimL_map h, List.length_map]
  rw [e]
  rfl
/-- the project lays a text as the law does -/
theorem pad_eq {l : List Nat} (ha : ∀ c ∈ l, c ∈ alph) (h47 : 47 ∉ l) : (padOf l).map Int.ofNat = laidOf l := by
  obtain ⟨e1, e2⟩ := split_parts h47
  unfold padOf laidOf
  dsimp only
  rw [e1, e2, List.map_append, lay_map fun c hc => (alph_sign c (ha c (parts_mem (List.mem_append_left _ hc)))).2.1, lay_map fun c hc => (alph_sign c (ha c (parts_mem (List.mem_append_right _ hc)))).2.1]
theorem conf_slash {l : List Nat} (h : confOf l = true) : 47 ∉ l := fun hm => by
  rw [conf_s rfl rfl (mem_parts hm (by decide)) slash_no.2] at h; cases h
theorem conf_len {l : List Nat} (h : confOf l = true) : (partsOf l).1.length ≤ 8 ∧ (partsOf l).2.length ≤ 3 := by
  unfold confOf at h
  simp only [Bool.and_eq_true, decide_eq_true_eq] at h
  exact h.1
theorem conf_signs {l : List Nat} (h : confOf l = true) : ∀ c ∈ (partsOf l).1 ++ (partsOf l).2, okSign c = true := by
  unfold confOf at h
  simp only [Bool.and_eq_true, List.all_eq_true] at h
  exact h.2
theorem laid_len {l : List Nat} (h : confOf l = true) : (laidOf l).length = 11 := by
  obtain ⟨h1, h2⟩ := conf_len h
  unfold laidOf
  rw [List.length_append, layOf_len h1, layOf_len h2]
theorem okI_space : ∀ n : Nat, n < 256 → (n = 0 ∨ 32 ≤ n) → n ≠ 133 → n ≠ 160 → Unicode.isSpace n = decide (n = 32) := by decide +kernel
theorem okI_isSpace {n : Nat} (h : okI (n : Int)) : Unicode.isSpace n = decide (n = 32) := by
  unfold okI at h
  exact okI_space n (by omega) (by omega) (by omega) (by omega)
theorem told_eq {b : Array UInt8} (h : ∀ n ∈ bI b, okI n) : asTextOf (bN b) = toldOf (bI b) := by
  have hsp : ∀ c ∈ bN b, Unicode.isSpace c = decide (c = 32) := fun c hc => by
    obtain ⟨n, hn, rfl⟩ := List.mem_map.mp hc
    have h0 := (bI_in hn).1
    refine okI_isSpace ?_
    rw [Int.toNat_of_nonneg h0]
    exact h n hn
  have e : ∀ l : List Nat, (∀ c ∈ l, Unicode.isSpace c = decide (c = 32)) → trimE Unicode.isSpace l = (bareL (l.map Int.ofNat)).map Int.toNat := fun l hl => by
    rw [← trimE_map hl, List.map_map]
    exact (List.map_id'' (fun _ => rfl) _).symm
  have back : (bN b).map Int.ofNat = bI b := by
    unfold bN
    rw [List.map_map]
    conv => rhs; rw [← List.map_id (bI b)]
    refine List.map_congr_left fun n hn => ?_
    exact Int.toNat_of_nonneg (bI_in hn).1
  unfold asTextOf toldOf
  rw [e _ fun c hc => hsp c (List.mem_of_mem_take hc), e _ fun c hc => hsp c (List.mem_of_mem_drop hc), List.map_take, List.map_drop, back]
theorem alph_okI : ∀ c ∈ alph, okSign c = true → okI (c : Int) := by
  have : ∀ c ∈ alph, okSign c = true → (c = 0 ∨ 32 ≤ c) ∧ c < 256 ∧ c ≠ 133 ∧ c ≠ 160 := by decide +kernel
  intro c hc h
  obtain ⟨h1, h2, h3, h4⟩ := this c hc h
  unfold okI
  omega

-- 35_holds
theorem part35 : True := by
  w_top off
  trivial
theorem words35a : True := by
  (k_with "call ref" => (k_here; (with_reducible show wpAny _ _ (call (Value.ref 134) _ _) _ _ _); k_dflt (refine asbytes_spec (by walk_at "my_cx") (by k_asm) (by k_asm) (by k_mem) (by k_mem) (by k_mem) (by first | assumption | omega) ?_; intros; (try k_sweep))))
  (k_with "call ref" => (k_here; (with_reducible show wpAny _ _ (call (Value.ref 141) _ _) _ _ _); k_dflt (refine unpadded_spec (by walk_at "my_cx") (by k_asm) (by k_asm) (by k_mem) (by k_mem) (by k_mem) (by first | assumption | omega) (by assumption) ?_; intros; (try k_sweep))))
  (k_with "call ref" => (k_here; (with_reducible show wpAny _ _ (call (Value.ref 179) _ _) _ _ _); k_dflt (refine cksum_spec (by walk_at "my_cx") (by k_asm) (by k_asm) (by k_mem) (by k_mem) (by k_mem) (by first | assumption | omega) ?_; intros; (try k_sweep))))
  (k_with "call type:bytes" => (k_here; (with_reducible show wpAny _ _ (call (Value.type "bytes") [Value.ref _]) _ _ _); k_dflt (refine bytes_K (by k_asm) (by k_asm) (by is_list) (by l_ints) (by assumption) (by (rw [sizeLine_eq]; omega)) (by rfl) ?_); intro _ _ _ _ _ _; (try k_sweep)))
  trivial
theorem told_same {b : Array UInt8} {x y : Str} (hok : ∀ n ∈ bI b, okI n) (hx : x.cps.toList = asTextOf (bN b)) (hy : y.cps.toList = toldOf (bI b)) (h : (x != y) = true) : False := by
  have e : x = y := str_ext (by rw [hx, hy, told_eq hok])
  subst e
  simp at h
theorem bI_back (b : Array UInt8) : (bI b).map (fun n => n.toNat.toUInt8) = b.toList := by
  unfold bI
  rw [List.map_map]
  conv => rhs; rw [← List.map_id b.toList]
  refine List.map_congr_left fun c _ => ?_
  show ((c.toNat : Int).toNat).toUInt8 = c
  rw [Int.toNat_natCast]
  show UInt8.ofNat c.toNat = c
  exact UInt8.ofNat_toNat
section
variable {w : World} {mean : ExcName → Option Value} {mg mb : Str → Option Value} {dp un : Nat} {env : Env} {outer : List Env} {A₀ : Around} {base h₀ : Heap} {L : Addr} {m : Str → Option Value} {s : Shared} {Q E : Value → Shared → Prop}
theorem holds_spec {I d a r : Addr} {t1 t2 t3 ty : Tok} {y0 : Str} {b : Array UInt8} {vs : List Value} {n : Nat} {news : List (Addr × Obj)}
  (C : Cx w mean mg mb 4 dp un env outer A₀ base h₀ L) (F : Fr h₀ L s.heap m)
  (N : News h₀ L s.heap news) (hI : (I, instObj 223 d) ∈ news) (hd : (d, eightD w t1 t2 t3 (.ref a) y0 ty true) ∈ news) (ha : (a, BA.O b) ∈ news) (hz : b.size = 11) (h5 : ∀ c, b[0]? = some c → c.toNat ≠ 5)
  (hr : (r, W.listOf vs.toArray n) ∈ news) (hi : IntsAre vs (bI b)) (hok : ∀ q ∈ bI b, okI q)
  (ret : ∀ h' tk', Fr h₀ L h' m → News h₀ L h' news → Q (.bool true) {s with heap := h', toks := tk'}) :
  wpAny (model PR w) (Ar dp un env outer) (call (.ref 312) [.ref I, .ref r]) Q E s := by
  obtain ⟨B, X, T, hf, hke, hdp, hu⟩ := C
  unfold PR
  refine wpAny_call ?_
  k_dflt walk_at "my_enter"
  intro g' L' h' FG' F' N' B' X' T'
  replace F' : Fr g' L' h' (lk [("row", .ref r), ("one", .ref I)]) := F'
  replace N' : News g' L' h' ((I, instObj 223 d) :: (d, eightD w t1 t2 t3 (.ref a) y0 ty true) :: (a, BA.O b) :: (r, W.listOf vs.toArray n) :: news) := inN (inN (inN (inN N' hr) (.tail _ ha)) (.tail _ (.tail _ hd))) (.tail _ (.tail _ (.tail _ hI)))
  have hbl := bI_len b
  have hbz : (bI b).length = 11 := by omega
  have hvl : vs.length = 11 := by rw [hi.length]; exact hbz
  have hby : ∀ q ∈ bI b, 0 ≤ q ∧ q < 256 := fun q hq => bI_in hq
  show wpAny _ _ (execs _ _) _ _ _
  k_fold
  k_steps
  · exact (told_same hok (by assumption) (by assumption) (by assumption)).elim
  · have h : (b.toList != (List.map (fun n => n.toNat.toUInt8) (bI b)).toArray.toList) = true := by assumption
    rw [List.toList_toArray, bI_back] at h
    simp at h
  · have e : (sumOf (bI b) == sumOf (bI b)) = true := by simp
    rw [e]
    exact ret _ _ (by k_asm) (fun p hp => (show News h₀ L _ _ by assumption) p (.tail _ (.tail _ (.tail _ (.tail _ hp)))))
end

-- 36_raise
theorem part36 : True := by
  w_top off
  trivial
section
variable {M : Model} {A : Around} {E : Value → Shared → Prop} {env : Env}
variable {nm q : Str} {C N : Addr} {bs bm : List Value} {hdct : Bool} {sn : List Str} {sub : List Value} {ab : Bool} {col : Option Bool} {dd : Option Addr} {k0 k1 k2 k3 k5 : Option Value} {newId : String}
/-- an exception of an own class, with a dict of its own, is raised -/
theorem raiseStmt_own {s : Shared} {x : Sem Value} {Q : Flow → Shared → Prop} (hbase : bm.contains (.type "BaseException") = true) (hh : A.handled = none)
    (h : wpAny M A x (fun v s₁ => ∃ e de t, v = .ref e ∧ s₁.heap.get? C = some (excClassObj nm q C N bs bm hdct sn sub ab col dd k0 k1 k2 k3 k5 newId) ∧
      s₁.heap.get? e = some { cls := .ref C, dict := some de, data := .fields #[.ref t, .none, .none, .none, .bool false, .none] } ∧ E (.ref e) s₁) E s) :
    wpAny M A (raiseStmt env (some x) none) Q E s := by
  have hcB : (Value.ref C :: bm).contains (.type "BaseException") = true := by rw [List.contains_cons, hbase, Bool.or_true]
  unfold raiseStmt
  refine wpAny_bind (wpAny_mono h (fun v s₁ h₁ => ?_) fun _ _ x => x)
  obtain ⟨e, de, t, rfl, hC, he, hE⟩ := h₁
  obtain ⟨hp, g, d, tk, os⟩ := s₁
  repeat (first | with_reducible refine wpAny_loadPart_at he ?_ | with_reducible refine wpAny_loadPart_at hC ?_ | (with_reducible refine wpAny_isSubtype_exc hC ?_; rw [hcB]) | wp_step)
  exact wpAny_raiseNew_none hh hE
end

-- 37_exckw
theorem part37 : True := by
  w_top off
  trivial
section
variable {M : Model} {A : Around} {E : Value → Shared → Prop} {h : Heap} {g : Array GenState} {d : Drawn} {t : Nat} {os : OsState}
variable {nm q : Str} {C N : Addr} {bs bm : List Value} {hdct : Bool} {sn : List Str} {sub : List Value} {ab : Bool} {col : Option Bool} {dd : Option Addr} {k0 k1 k2 k3 k5 : Option Value} {B newId initId : String}
theorem check_new_kw (F : ExcBaseFacts B newId initId bm) {rest : List Value} {kw : List (Str × Value)} {Q : Unit → Shared → Prop} (hC : h.get? C = some (excClassObj nm q C N bs bm hdct sn sub ab col dd k0 k1 k2 k3 k5 newId))
    (hq : Q () ⟨h, g, d, t, os⟩) : wpAny M A (checkBuiltinCall newId ⟨.ref C :: rest, kw⟩) Q E ⟨h, g, d, t, os⟩ := by
  have hcont : (Value.ref C :: bm).contains (.type B) = true := by rw [List.contains_cons, F.hasB, Bool.or_true]
  have hstar := F.noStar
  simp only [checkBuiltinCall, F.newKind, F.newSplit, F.newRow]
  repeat (first | refine wpAny_loadPart_at hC ?_ | (refine wpAny_isSubtype_exc hC ?_; rw [hcont]) | refine wpAny_staticBase_exc hC ?_ | refine wpAny_madeBy_exc hC ?_ | simp only [bne_self_eq_false, Bool.false_eq_true, if_false] | wp_step)
  exact hq
theorem check_call_kw {rest : List Value} {kw : List (Str × Value)} {Q : Unit → Shared → Prop} (hC : h.get? C = some (excClassObj nm q C N bs bm hdct sn sub ab col dd k0 k1 k2 k3 k5 newId))
    (hq : Q () ⟨h, g, d, t, os⟩) : wpAny M A (checkBuiltinCall "type.__call__" ⟨.ref C :: rest, kw⟩) Q E ⟨h, g, d, t, os⟩ := by
  have f3 := tc_sub
  have hT : (⟨h, g, d, t, os⟩ : Shared).TypeIs (.ref C) "type" := ⟨_, hC, rfl⟩
  simp only [checkBuiltinCall, tc_kind, tc_split]
  repeat (any_goals (first | assumption | with_reducible refine wpAny_loadPart_at hC ?_ | with_reducible refine wpAny_onRaise ?_ | with_reducible refine wpAny_map ?_ | wp_step))
end
section
variable {prog : Program} {w : World} {A : Around} {R : Result → Shared → Prop} {h : Heap} {g : Array GenState} {d : Drawn} {t : Nat} {os : OsState}
variable {nm q : Str} {C N : Addr} {bs bm : List Value} {hdct : Bool} {sn : List Str} {sub : List Value} {ab : Bool} {col : Option Bool} {dd : Option Addr} {k0 k1 k2 k3 k5 : Option Value} {B newId initId : String}
theorem exc_new_kw (F : ExcBaseFacts B newId initId bm) {rest : List Value} {kw : List (Str × Value)} (hC : h.get? C = some (excClassObj nm q C N bs bm hdct sn sub ab col dd k0 k1 k2 k3 k5 newId))
    (hq : R (.ok (.ret (.ref (h.objs.size + 1)))) ⟨(h.push { cls := .type "tuple", data := .seq rest.toArray }).push
      { cls := .ref C, data := .fields #[.ref h.objs.size, .none, .none, .none, .bool false, .none] }, g, d, t, os⟩) (hrest : rest.length ≤ sizeLine) :
    codeAny (model prog w) A (.builtin newId ⟨.ref C :: rest, kw⟩) R ⟨h, g, d, t, os⟩ := by
  have hends := F.ends
  have hcB : (Value.ref C :: bm).contains (.type B) = true := by rw [List.contains_cons, F.hasB, Bool.or_true]
  have hcA : (Value.ref C :: bm).contains (.type "AttributeError") = false := by rw [List.contains_cons, F.noAttr]; rfl
  have hcN : (Value.ref C :: bm).contains (.type "NameError") = false := by rw [List.contains_cons, F.noName]; rfl
  refine codeAny_builtinAt F.entry ?_
  unfold Builtin.«BaseException.__new__»
  refine PySem.wpAt_bind ?_
  show PySem.wpAt _ _ _ (stack >>= _) _ _ _
  refine PySem.wpAt_bind (PySem.wpAt_stack fun p below => PySem.wpAt_of_wpAny ?_)
  wp_walk
  refine PySem.wpAt_of_wpAny ?_
  rw [F.owner]
  repeat (first | with_reducible refine wpAny_madeHere_exc F.canon hC ?_ | with_reducible refine wpAny_loadPart_at hC ?_ | (with_reducible refine wpAny_isSubtype_exc hC ?_; first | rw [hcB] | rw [hcA] | rw [hcN]) | wp_step)
  show R _ _
  rw [Heap.size_push]
  exact hq
end

-- 38_exccall
theorem part38 : True := by
  w_top off
  trivial
section
variable {prog : Program} {w : World} {A : Around} {E : Value → Shared → Prop} {h : Heap} {g : Array GenState} {d : Drawn} {t : Nat} {os : OsState}
variable {nm q : Str} {C N : Addr} {bs bm : List Value} {hdct : Bool} {sn : List Str} {sub : List Value} {ab : Bool} {col : Option Bool} {dd : Option Addr} {k0 k1 k2 k3 k5 : Option Value} {B newId initId : String}
/-- a class of our own among the exceptions is called: its __init__ with the made object, then the object -/
theorem type_call_exc (F : ExcBaseFacts B newId initId bm) {mN : Str → Option Value} {rest : List Value} {kw : List (Str × Value)} {fI : Addr} {oI : Obj} {Q : Fin → Shared → Prop}
    (hC : h.get? C = some (excClassObj nm q C N bs bm hdct sn sub ab col dd k0 k1 k2 k3 k5 newId)) (hn : h.Ns N mN) (hi : mN "__init__" = some (.ref fI))
    (hfI : h.get? fI = some oI) (hfc : oI.cls = .type "function")
    (hq : ∀ h' e, Heap.MadeExcOf h h' e (.ref C) rest →
      wpAny (model prog w) A (call (.ref fI) (.ref e :: rest) kw) (fun r s' => r = .none ∧ Q (.done (.ret (.ref e))) s') E ⟨h', g, d, t, os⟩) (hrest : rest.length ≤ sizeLine) :
    wpAny (model prog w) A (Builtin.«type.__call__» ⟨.ref C :: rest, kw⟩) Q E ⟨h, g, d, t, os⟩ := by
  repeat (first | with_reducible refine wpAny_loadPart_at hC ?_ | with_reducible refine wpAny_madeBy_exc hC ?_ | wp_step)
  refine codeAny_call_builtin_code (Code.quiet_builtin _ F.quiet) (check_new_kw F hC ?_)
  refine exc_new_kw F hC ?_ hrest
  show wpAny _ _ _ _ _ _
  have up : ∀ b o, h.get? b = some o → ((h.push { cls := .type "tuple", data := .seq rest.toArray }).push { cls := .ref C, data := .fields #[.ref h.objs.size, .none, .none, .none, .bool false, .none] }).get? b = some o :=
    fun b o e => Heap.get?_push_of_some _ (Heap.get?_push_of_some _ e)
  have hn₁ : ((h.push { cls := .type "tuple", data := .seq rest.toArray }).push { cls := .ref C, data := .fields #[.ref h.objs.size, .none, .none, .none, .bool false, .none] }).Ns N mN :=
    let ⟨o, es, ep, e, r⟩ := hn; ⟨o, es, ep, up _ _ e, r⟩
  have hC₁ := up _ _ hC
  have hfI₁ := up _ _ hfI
  have hget : ((h.push { cls := .type "tuple", data := .seq rest.toArray }).push { cls := .ref C, data := .fields #[.ref h.objs.size, .none, .none, .none, .bool false, .none] }).get? (h.objs.size + 1) = some
      { cls := .ref C, data := .fields #[.ref h.objs.size, .none, .none, .none, .bool false, .none] } := by heap_get
  have hcC : (Value.ref C :: bm).contains (.ref C) = true := by simp
  unfold isInstance
  repeat (first | with_reducible refine wpAny_loadPart_at hget ?_ | (with_reducible refine wpAny_isSubtype_exc hC₁ ?_; rw [hcC]) | wp_step)
  show wpAny _ _ (typeLookup (.ref C) _) _ _ _
  refine wpAny_typeLookup_exc hC₁ hn₁ F.mroIs F.init.lookup ?_
  rw [hi]
  refine wpAny_holding (wpAny_bind ?_)
  unfold bindSpecial
  refine wpAny_bind (wpAny_typeOf (T := "function") ⟨_, hfI₁, hfc⟩ ?_)
  rw [if_pos (by decide)]
  have made : Heap.MadeExcOf h _ (h.objs.size + 1) (.ref C) rest := ⟨up, Heap.get?_none_of_le (Nat.le_succ _), h.objs.size, hget, Heap.get?_none_of_le (Nat.le_refl _), Heap.get?_push_of_some _ (Heap.get?_push_at rfl rfl)⟩
  refine wpAny_pure (wpAny_bind (wpAny_mono (hq _ _ made) (fun r s' hr => ?_) fun _ _ x => x))
  obtain ⟨rfl, hQ⟩ := hr
  wp_walk
  exact hQ
end

-- 39_exccall2
theorem part39 : True := by
  w_top off
  trivial
section
variable {prog : Program} {w : World} {A : Around} {E : Value → Shared → Prop} {h : Heap} {g : Array GenState} {d : Drawn} {t : Nat} {os : OsState}
variable {nm q : Str} {C N : Addr} {bs bm : List Value} {hdct : Bool} {sn : List Str} {sub : List Value} {ab : Bool} {col : Option Bool} {dd : Option Addr} {k0 k1 k2 k3 k5 : Option Value} {B newId initId : String}
theorem call_exc (F : ExcBaseFacts B newId initId bm) {mN : Str → Option Value} {rest : List Value} {kw : List (Str × Value)} {fI : Addr} {oI : Obj} {Q : Value → Shared → Prop}
    (hC : h.get? C = some (excClassObj nm q C N bs bm hdct sn sub ab col dd k0 k1 k2 k3 k5 newId)) (hn : h.Ns N mN) (hi : mN "__init__" = some (.ref fI))
    (hfI : h.get? fI = some oI) (hfc : oI.cls = .type "function")
    (hq : ∀ h' e, Heap.MadeExcOf h h' e (.ref C) rest →
      wpAny (model prog w) (A.under (.builtin "type.__call__" ⟨.ref C :: rest, kw⟩)) (call (.ref fI) (.ref e :: rest) kw) (fun r s' => r = .none ∧ Q (.ref e) s') E ⟨h', g, d, t, os⟩) (hrest : rest.length ≤ sizeLine) :
    wpAny (model prog w) A (call (.ref C) rest kw) Q E ⟨h, g, d, t, os⟩ := by
  have f1 := tc_lookup
  have f2 := tc_bind (.ref C)
  have hT : (⟨h, g, d, t, os⟩ : Shared).TypeIs (.ref C) "type" := ⟨_, hC, rfl⟩
  refine wpAny_call (codeAny_of_tree ?_)
  show wpAny _ _ (callAny (.ref C) _) _ _ _
  repeat (any_goals (first | assumption | with_reducible refine wpAny_loadPart_at hC ?_ | wp_step))
  refine ⟨rfl, ?_⟩
  refine codeAny_call_builtin_at (Code.quiet_builtin _ (by decide +kernel)) entry_typeCall (check_call_kw hC (type_call_exc F hC hn hi hfI hfc (fun h' e hm => ?_) hrest))
  exact hq h' e hm
end

-- 40_tame
theorem part40 : True := by
  w_top off
  trivial
/-- a tree that calls nothing and leaves every object its dict -/
def tame {α : Type} : Sem α → Prop
  | .pure _ => True
  | .raise _ => True
  | .unsupported _ => True
  | .finish _ => True
  | .rule _ k => tame (k ())
  | .at _ k => tame (k ())
  | .point _ k => tame (k ())
  | .load _ _ k => ∀ o, tame (k o)
  | .update _ _ f k => (∀ o, (f o).dict = o.dict ∧ (f o).isFreed = o.isFreed) ∧ tame (k ())
  | .alloc _ k => ∀ a, tame (k a)
  | .loadIfAlive _ k => ∀ o, tame (k o)
  | .fresh k => ∀ t, tame (k t)
  | .ask k => ∀ t, tame (k t)
  | .handled _ k => ∀ t, tame (k t)
  | .stack k => ∀ t, tame (k t)
  | _ => False
/-- every object has its dict still -/
def DK (h h' : Heap) : Prop := ∀ a d, (∃ o, h.get? a = some o ∧ o.dict = d) → ∃ o, h'.get? a = some o ∧ o.dict = d
theorem DK.refl {h : Heap} : DK h h := fun _ _ x => x
theorem DK.trans {h h₁ h₂ : Heap} (a : DK h h₁) (b : DK h₁ h₂) : DK h h₂ := fun x d e => b x d (a x d e)
theorem DK.keeps {h h' : Heap} (k : ∀ b o, h.get? b = some o → h'.get? b = some o) : DK h h' := fun _ _ ⟨o, ho, hd⟩ => ⟨o, k _ _ ho, hd⟩
theorem DK.upd {h : Heap} {a : Addr} {f : Obj → Obj} (hf : ∀ o, (f o).dict = o.dict ∧ (f o).isFreed = o.isFreed) : DK h (h.update a f) := fun b d ⟨o, ho, hd⟩ => by
  by_cases q : a = b
  · subst q
    exact ⟨_, Heap.get?_update_self f ho ((hf o).2.trans (Heap.get?_some_iff.mp ho).2), (hf o).1.trans hd⟩
  · exact ⟨o, (Heap.get?_update_other _ _ q).trans ho, hd⟩
section
variable {α β : Type}
theorem tame_bind {m : Sem α} {f : α → Sem β} (hm : tame m) (hf : ∀ a, tame (f a)) : tame (m >>= f) := by
  show tame (m.bind f)
  induction m with
  | pure a => exact hf a
  | raise e => trivial
  | unsupported e => trivial
  | finish e => trivial
  | rule t k ih => exact ih () hm
  | «at» t k ih => exact ih () hm
  | point t k ih => exact ih () hm
  | load a p k ih => exact fun o => ih o (hm o)
  | update a p g k ih => exact ⟨hm.1, ih () hm.2⟩
  | alloc a k ih => exact fun o => ih o (hm o)
  | loadIfAlive a k ih => exact fun o => ih o (hm o)
  | fresh k ih => exact fun o => ih o (hm o)
  | ask k ih => exact fun o => ih o (hm o)
  | handled o k ih => exact fun o => ih o (hm o)
  | stack k ih => exact fun o => ih o (hm o)
  | _ => exact hm.elim
theorem tame_pure {a : α} : tame (Pure.pure a : Sem α) := trivial
theorem tame_map {f : α → β} {m : Sem α} (hm : tame m) : tame (f <$> m) := tame_bind (f := fun a => Pure.pure (f a)) hm fun _ => trivial
theorem wp_tame {M : Model} {Γ : Ctx} {t : Sem α} (ht : tame t) : ∀ {Q : α → Pos → Shared → Prop} {E : Value → Pos → Shared → Prop} {p : Pos} {s : Shared},
    wp M Γ t Q E p s → wp M Γ t (fun a p' s' => Q a p' s' ∧ DK s.heap s'.heap) (fun e p' s' => E e p' s' ∧ DK s.heap s'.heap) p s := by
  induction t with
  | pure a => intro Q E p s h; exact ⟨h, .refl⟩
  | raise e => intro Q E p s h; exact ⟨h, .refl⟩
  | unsupported e => intro Q E p s h; exact h
  | finish e => intro Q E p s h; exact h
  | rule t k ih => intro Q E p s h; exact ih () ht h
  | «at» t k ih => intro Q E p s h; exact ih () ht h
  | point t k ih => intro Q E p s h; exact ih () ht h
  | load a p k ih => intro Q E p s h; obtain ⟨o, ho, h⟩ := h; exact ⟨o, ho, ih o (ht o) h⟩
  | update a p g k ih =>
    intro Q E p s h
    obtain ⟨ho, h⟩ := h
    exact ⟨ho, Sem.wp_mono M Γ _ (fun _ _ _ x => ⟨x.1, (DK.upd ht.1).trans x.2⟩) (fun _ _ _ x => ⟨x.1, (DK.upd ht.1).trans x.2⟩) _ _ (ih () ht.2 h)⟩
  | alloc o k ih =>
    intro Q E p s h
    have kp : DK s.heap (s.heap.push o) := .keeps fun _ _ e => Heap.get?_push_of_some _ e
    exact Sem.wp_mono M Γ _ (fun _ _ _ x => ⟨x.1, kp.trans x.2⟩) (fun _ _ _ x => ⟨x.1, kp.trans x.2⟩) _ _ (ih _ (ht _) h)
  | loadIfAlive a k ih => intro Q E p s h; exact ih _ (ht _) h
  | fresh k ih => intro Q E p s h; exact ih _ (ht _) h
  | ask k ih => intro Q E p s h; exact ih _ (ht _) h
  | handled o k ih => intro Q E p s h; exact ih _ (ht _) h
  | stack k ih => intro Q E p s h; exact ih _ (ht _) h
  | _ => exact ht.elim
theorem wpAny_tame {M : Model} {A : Around} {t : Sem α} (ht : tame t) {Q : α → Shared → Prop} {E : Value → Shared → Prop} {s : Shared} (h : wpAny M A t Q E s) :
    wpAny M A t (fun a s' => Q a s' ∧ DK s.heap s'.heap) (fun e s' => E e s' ∧ DK s.heap s'.heap) s := fun Γ p hΓ => wp_tame ht (h Γ p hΓ)
theorem wpAny_tameQ {M : Model} {A : Around} {t : Sem α} (ht : tame t) {Q : α → Shared → Prop} {E : Value → Shared → Prop} {s : Shared} (h : wpAny M A t Q (fun _ _ => False) s)
    {Q' : α → Shared → Prop} (hQ : ∀ a s', Q a s' → DK s.heap s'.heap → Q' a s') : wpAny M A t Q' E s :=
  wpAny_mono (wpAny_tame ht h) (fun a s' x => hQ a s' x.1 x.2) fun _ _ x => x.1.elim
end
theorem tame_field {v : Value} {i : Nat} : tame (field v i) := by
  unfold field fieldsOf
  refine tame_bind ?_ fun vs => ?_
  · cases v <;> first | trivial | skip
    exact tame_bind (fun o => trivial) fun o => by split <;> trivial
  · split <;> trivial
theorem mapF_dict (o : Obj) (f : Array Value → Array Value) : (o.mapFields f).dict = o.dict ∧ (o.mapFields f).isFreed = o.isFreed := by
  obtain ⟨c, d, dt, sl⟩ := o
  cases dt <;> exact ⟨rfl, rfl⟩
theorem tame_setField {v : Value} {i : Nat} {x : Value} : tame (setField v i x) := by
  unfold setField
  cases v <;> first | trivial | skip
  unfold updateField
  refine tame_bind (fun o => trivial) fun o => ?_
  split
  · split
    · exact ⟨fun o => mapF_dict o _, trivial⟩
    · trivial
  · trivial
theorem tame_ite {α : Type} {c : Prop} [Decidable c] {a b : Sem α} (ha : tame a) (hb : tame b) : tame (if c then a else b) := by split <;> assumption
theorem tame_newFields {ty : String} {vs : List Value} : tame (newFields ty vs) := by
  unfold newFields newObj
  dsimp only
  have last : tame (newObjAsIs (.type ty) (.fields vs.toArray)) := by
    unfold newObjAsIs
    exact tame_bind (fun _ => trivial) fun _ => trivial
  split
  · exact tame_bind trivial fun _ => last
  · exact last
theorem tame_entryPlaceOf {f : Addr} {b : Bool} : tame (entryPlaceOf f b) := by
  unfold entryPlaceOf
  refine tame_bind (fun _ => trivial) fun _ => ?_
  split <;> trivial
theorem tame_behind {env : Env} {outer : List Env} : tame (behindIsImport env outer) := by
  unfold behindIsImport
  split
  · trivial
  split
  · trivial
  · exact tame_bind tame_field fun _ => trivial
theorem tame_kept {env : Env} {b : Bool} {outer : List Env} : tame (keptBack env b outer) := by
  unfold keptBack
  split
  · split
    · trivial
    · unfold underTheClaimsCaller
      exact tame_bind (tame_bind (fun _ => trivial) fun _ => trivial) fun _ => trivial
  · trivial
theorem tame_ready : ∀ {l : List Env}, tame (readyFrames l)
  | [] => trivial
  | env :: outer => by
    unfold readyFrames
    split
    · refine tame_bind (fun _ => trivial) fun _ => ?_
      split
      · trivial
      · refine tame_bind tame_behind fun _ => tame_bind tame_kept fun _ => tame_bind (m := update _ _) ⟨fun o => ⟨rfl, ?_⟩, trivial⟩ fun _ => tame_ready
        obtain ⟨c, d, dt, sl⟩ := o
        cases dt <;> rfl
    · trivial
theorem tame_frameOf {env : Env} : tame (PySem.frameOf env) := by
  unfold PySem.frameOf
  refine tame_bind (by unfold frameEnvs; exact tame_bind (fun _ => trivial) fun _ => trivial) fun l => tame_bind ?_ fun _ => by split <;> trivial
  unfold frameObject
  split
  · trivial
  · exact tame_bind tame_ready fun _ => trivial
theorem tame_setFlight {e : Value} {f : Option Addr} : tame (setFlight e f) := by
  unfold setFlight
  refine tame_bind tame_field fun tb => ?_
  split
  · exact tame_setField
  · trivial
theorem tame_noteFrame {e : Value} {env : Env} : tame (noteFrame e env) := by
  unfold noteFrame
  split
  · refine tame_bind tame_field fun head => ?_
    have last : ∀ f, tame (do setField e 1 (← EntryCells.newEntry head (← PySem.frameOf env) .none (rawInt f) .none (← entryPlaceOf f (head != .none)))) :=
      fun _ => tame_bind tame_frameOf fun _ => tame_bind tame_entryPlaceOf fun _ => tame_bind tame_newFields fun _ => tame_setField
    split
    · refine tame_bind tame_field fun h3 => ?_
      split
      · trivial
      · exact tame_bind tame_setField fun _ => last _
    · exact last _
  · trivial
theorem tame_leaving {e : Value} {env : Env} : tame (leaving env e) := by
  unfold leaving
  exact tame_bind tame_noteFrame fun _ => tame_setFlight
/-- e's dict is d -/
def HasD (e d : Addr) (h : Heap) : Prop := ∃ o, h.get? e = some o ∧ o.dict = some d
theorem HasD.dk {e d : Addr} {h h' : Heap} (x : HasD e d h) (k : DK h h') : HasD e d h' := k e (some d) x

-- 41_excsuper
theorem part41 : True := by
  w_top off
  trivial
-- super().__init__(msg) of an exception of our own
/-- an exception's object of a class of our own -/
abbrev excO (C : Addr) (d : Option Addr) (t : Addr) : Obj := { cls := .ref C, dict := d, data := .fields #[.ref t, .none, .none, .none, .bool false, .none] }
abbrev wrapO (i : String) (x : Value) : Obj := { cls := .type "method-wrapper", data := .fields #[.builtin i, x] }
namespace XS
open Builtin
theorem slot_get : Slot "wrapper_descriptor" "__get__" "wrapper_descriptor.__get__" :=
  .of (owner := "wrapper_descriptor") (n := "__get__") (by rw [typeLookup_type, builtinLookup_eq_fast]; kernel_rfl) (by decide +kernel) (by decide +kernel) (by decide +kernel)
    (by first | exact .inl (by decide +kernel) | exact .inr (by decide +kernel)) (by rw [isSubtype_type]; kernel_rfl)
theorem entry_get : entryFor table "wrapper_descriptor.__get__" = some Builtin.«wrapper_descriptor.__get__» := entryFor_of_tree (by kernel_rfl)
theorem args_get (a b c : Value) : argsOk "wrapper_descriptor.__get__" ⟨[a, b, c], []⟩ := by unfold argsOk; kernel_rfl
theorem type_init : typeOf (.builtin "Exception.__init__") = pure (.type "wrapper_descriptor") := by show builtinType _ = _; rw [builtinType_eq_fast]; kernel_rfl
section
variable {prog : Program} {w : World} {A : Around} {E : Value → Shared → Prop} {h : Heap} {g : Array GenState} {d : Drawn} {t : Nat} {os : OsState} {K : Frag} {x C : Addr} {ox : Obj}
theorem get_run {s : Shared} {Q : Fin → Shared → Prop} (hx : s.heap.get? x = some ox) (hc : ox.cls = .ref C) (hsub : Looks (model prog w) s.heap (isSubtype (.ref C) (.type "Exception")) true)
    (hq : Q (.done (.ret (.ref s.heap.objs.size))) { s with heap := s.heap.push (wrapO "Exception.__init__" (.ref x)) }) :
    wpAny (model prog w) A (Builtin.«wrapper_descriptor.__get__» ⟨[.builtin "Exception.__init__", .ref x, .ref C], []⟩) Q E s := by
  obtain ⟨hh, g, d, t, os⟩ := s
  have L0 : Looks (model prog w) hh (typeOf (.ref x)) (.ref C) := hc ▸ (Looks.ld hx).andThen .now
  have e : (".".intercalate ("Exception.__init__".cutAt '.').dropLast) = "Exception" := by decide +kernel
  repeat (first | (rw [e]) | lk)
  exact hq
theorem super_ga {so D C x : Addr} {ox : Obj} {l₀ l : List Value} {K : Frag} {tk : Tok} {Q : Fin → Shared → Prop}
    (hso : h.get? so = some (ks_superObj D x C)) (hno : Looks (model prog w) h (opaqueClassAbove (.ref C)) none)
    (hC : Looks (model prog w) h (mroOf (.ref C)) l₀) (hl : (l₀.dropWhile (· != .ref D)).drop 1 = l) (X : K.In h)
    (hf : alongIn K "__init__" l = some (some (.builtin "Exception.__init__"))) (hx : h.get? x = some ox) (hxc : ox.cls = .ref C) (hxC : x ≠ C)
    (hsub : Looks (model prog w) h (isSubtype (.ref C) (.type "Exception")) true)
    (hq : Q (.done (.ret (.ref h.objs.size))) ⟨h.push (wrapO "Exception.__init__" (.ref x)), g, d, t, os⟩) :
    wpAny (model prog w) A (Builtin.«super.__getattribute__» ⟨[.ref so, .str "__init__" tk], []⟩) Q E ⟨h, g, d, t, os⟩ := by
  have hlk := slot_get.lookup
  have hne : (Value.ref x == Value.ref C) = false := by simp [hxC]
  have hn : (("__init__" : Str) == ("__class__" : Str)) = false := by decide
  have hdt : (ks_superObj D x C).data = .fields #[.ref D, .ref x, .ref C] := rfl
  have f0 : (#[.ref D, .ref x, .ref C] : Array Value)[0]? = some (.ref D) := rfl
  have f1 : (#[.ref D, .ref x, .ref C] : Array Value)[1]? = some (.ref x) := rfl
  have f2 : (#[.ref D, .ref x, .ref C] : Array Value)[2]? = some (.ref C) := rfl
  have hTf : (⟨h, g, d, t, os⟩ : Shared).TypeIs (.builtin "Exception.__init__") "wrapper_descriptor" := type_init
  unfold Builtin.«super.__getattribute__»
  repeat (first
    | (with_reducible refine wpAny_field hso hdt f0 ?_) | (with_reducible refine wpAny_field hso hdt f1 ?_) | (with_reducible refine wpAny_field hso hdt f2 ?_)
    | (with_reducible refine ks_wpAny_notOpaque hno ?_)
    | (with_reducible refine Looks.at hC ?_; rw [hl])
    | (refine ks_forIn_along X (fun _ _ => rfl) rfl ?_ hf)
    | (with_reducible refine wpAny_typeOf hTf ?_)
    | (with_reducible refine wpAny_call_entry slot_get hTf entry_get ?_ (args_get _ _ _))
    | (with_reducible refine get_run hx hxc hsub ?_)
    | (with_reducible refine ⟨_, rfl, ?_⟩)
    | (simp only [hn, hne, Bool.or_false, Bool.false_eq_true, if_false])
    | wp_step
    | dsimp only)
  all_goals exact hq
theorem get_method {so D C x : Addr} {ox : Obj} {l₀ l : List Value} {K : Frag} {pl : Sem Bool} {Q : Value × List Value → Shared → Prop}
    (hso : h.get? so = some (ks_superObj D x C)) (hno : Looks (model prog w) h (opaqueClassAbove (.ref C)) none)
    (hC : Looks (model prog w) h (mroOf (.ref C)) l₀) (hl : (l₀.dropWhile (· != .ref D)).drop 1 = l) (X : K.In h)
    (hf : alongIn K "__init__" l = some (some (.builtin "Exception.__init__"))) (hx : h.get? x = some ox) (hxc : ox.cls = .ref C) (hxC : x ≠ C)
    (hsub : Looks (model prog w) h (isSubtype (.ref C) (.type "Exception")) true)
    (hq : Q (.ref h.objs.size, []) ⟨h.push (wrapO "Exception.__init__" (.ref x)), g, d, t + 1, os⟩) :
    wpAny (model prog w) A (getMethod (.ref so) "__init__" pl) Q E ⟨h, g, d, t, os⟩ := by
  have hlk := F.ks_slot_super_ga.lookup
  have hT : ∀ t', (⟨h, g, d, t', os⟩ : Shared).TypeIs (.ref so) "super" := fun _ => ⟨_, hso, rfl⟩
  unfold getMethod
  refine wpAny_bind (wpAny_specialOf (hT _) hlk ?_)
  show wpAny _ _ (if (Manifest.canonical "super.__getattribute__" != "object.__getattribute__") = true then _ else _) _ _ _
  rw [if_pos F.ks_canon_super_ga]
  unfold getAttr getAttrBy
  refine wpAny_bind (wpAny_bind (wpAny_mkText (wpAny_holding (wpAny_bind (wpAny_typeOf (hT _) (wpAny_bind (wpAny_of_eq hlk ?_)))))))
  show wpAny _ _ (getAttrByItsOwn (.ref so) (.str "__init__" t) (.type "super") (.builtin "super.__getattribute__") true false) _ _ _
  unfold getAttrByItsOwn hookBefore callGetattribute boundAndCalled
  refine wpAny_bind (wpAny_of_eq (show (if onTheHeap (.type "super") then typeLookup (.type "super") "__getattr__" else pure none) = pure none from rfl) ?_)
  refine wpAny_bind (wpAny_attempt (wpAny_holding ?_))
  show wpAny _ _ (bindSpecial (.builtin "super.__getattribute__") (.ref so) >>= _) _ _ _
  refine wpAny_bind (wpAny_of_eq (F.ks_slot_super_ga.bind _) ?_)
  refine wpAny_mono (Q := fun v s' => v = .ref h.objs.size ∧ s' = ⟨h.push (wrapO "Exception.__init__" (.ref x)), g, d, t + 1, os⟩) (E := fun _ _ => False)
    (wpAny_call_entry F.ks_slot_super_ga (hT _) F.ks_entry_super_ga (super_ga hso hno hC hl X hf hx hxc hxC hsub ⟨_, rfl, rfl, rfl⟩) (F.ks_gaArgs_super _ _)) (fun v s' hv => ?_) fun _ _ z => z.elim
  obtain ⟨rfl, rfl⟩ := hv
  exact wpAny_pure (wpAny_pure hq)
end
end XS

-- 42_excset
theorem part42 : True := by
  w_top off
  trivial
namespace XS
open Builtin Builtin.ObjectAttr
section
variable {M : Model} {A : Around} {E : Value → Shared → Prop} {h : Heap} {g : Array GenState} {d : Drawn} {t : Nat} {os : OsState}
variable {nm qn : Str} {C N : Addr} {bs bm : List Value} {hdct : Bool} {sn : List Str} {sub : List Value} {ab : Bool} {col : Option Bool} {dd : Option Addr} {k0 k1 k2 k3 k5 : Option Value} {newId : String}
/-- the exception's __init__ of the language, bound -/
theorem check_bound {e v : Value} {a : Addr} {oe : Obj} {Q : Unit → Shared → Prop} (hea : e = .ref a) (hC : h.get? C = some (excClassObj nm qn C N bs bm hdct sn sub ab col dd k0 k1 k2 k3 k5 newId)) (he : h.get? a = some oe) (hcls : oe.cls = .ref C) (hq : Q () ⟨h, g, d, t, os⟩) :
    wpAny M A (checkBoundCall "Exception.__init__" ⟨[e, v], []⟩) Q E ⟨h, g, d, t, os⟩ := by
  subst hea
  have F := F.excBase_Exception
  have hshort := F.noStar
  simp only [checkBoundCall, F.initKind, F.initRow]
  repeat (first | (with_reducible refine wpAny_loadPart_at he ?_; rw [hcls]) | with_reducible refine wpAny_loadPart_at hC ?_ | wp_step)
  exact hq
end
theorem entry_init : entryFor table "Exception.__init__" = some Builtin.«BaseException.__init__» := F.excBase_Exception.initEntry
section
variable {prog : Program} {w : World} {A : Around} {E : Value → Shared → Prop} {s : Shared} {K : Frag} {C L e t0 : Addr} {h₀ : Heap} {m : Str → Option Value} {news : List (Addr × Obj)} {cd : ClassData}
variable {nm qn : Str} {Nn : Addr} {bs bm : List Value} {hdct : Bool} {sn : List Str} {sub : List Value} {ab : Bool} {col : Option Bool} {dd : Option Addr} {k0 k1 k2 k3 k5 : Option Value} {newId : String}
theorem call_wrap {q : Addr} {v : Value} {Q : Value → Shared → Prop} (F : Fr h₀ L s.heap m) (N : News h₀ L s.heap ((e, excO C none t0) :: news)) (hne : ∀ p ∈ news, p.1 ≠ e)
    (hC : s.heap.get? C = some (excClassObj nm qn C Nn bs bm hdct sn sub ab col dd k0 k1 k2 k3 k5 newId)) (hq : s.heap.get? q = some (wrapO "Exception.__init__" (.ref e)))
    (h : ∀ t' h', Fr h₀ L h' m → News h₀ L h' ((e, excO C none t') :: news) → Q .none { s with heap := h' }) :
    wpAny (model prog w) A (call (.ref q) [v]) Q E s := by
  have he : s.heap.get? e = some (excO C none t0) := (N _ (.head _)).1
  refine wpAny_call (codeAny_of_tree ?_)
  show wpAny _ A.in1 (callAny (.ref q) ⟨[v], []⟩) _ _ s
  unfold callAny
  refine wpAny_bind (wpAny_load hq ?_)
  show wpAny _ _ (checkBoundCall "Exception.__init__" ⟨[.ref e, v], []⟩ >>= fun _ => again (.builtin "Exception.__init__" ⟨[.ref e, v], []⟩)) _ _ _
  refine wpAny_bind (check_bound (h := s.heap) rfl hC he rfl ?_)
  refine wpAny_pure ⟨Code.quiet_builtin _ (by decide +kernel), codeAny_builtin entry_init ?_⟩
  unfold Builtin.«BaseException.__init__» newTuple BaseException.bexcPut
  show wpAny _ _ (newObj _ _ >>= _) _ _ _
  refine wpAny_bind ?_
  refine wpAny_newObj_type ?_ (by show (#[v] : Array Value).size ≤ sizeLine; rw [sizeLine_eq]; exact Nat.le_of_ble_eq_true rfl)
  have he' : (s.heap.push { cls := .type "tuple", data := .seq [v].toArray }).get? e = some (excO C none t0) := Heap.get?_push_of_some _ he
  refine wpAny_bind (wpAny_bind (wpAny_field he' rfl (x := .ref t0) rfl (wpAny_bind (wpAny_setField he' rfl (Nat.le_of_ble_eq_true rfl) ?_))))
  refine wpAny_letGo (wpAny_pure ?_)
  have U := news_upd (pre := []) (F.push { cls := .type "tuple", data := .seq [v].toArray }) (N.grown fun _ _ z => Heap.get?_push_of_some _ z) (fun _ hp => nomatch hp) hne (f := Obj.mapFields (·.setIfInBounds 0 (.ref s.heap.objs.size))) (o' := excO C none s.heap.objs.size) rfl rfl
  exact h _ _ U.1 U.2
theorem set_exc {name : Str} {v : Value} {Q : Unit → Shared → Prop} (F : Fr h₀ L s.heap m) (X₀ : K.In h₀) (N : News h₀ L s.heap ((e, excO C none t0) :: news)) (hne : ∀ p ∈ news, p.1 ≠ e)
    (hc : clsIn K C = some cd) (hm : cd.mro = [.ref C, .type "Exception", .type "BaseException", .type "object"]) (hd : cd.hasDict = true) (ht : takerIn K C name = some none)
    (hs : findIn K (.ref C) "__setattr__" = some (some (.builtin "object.__setattr__")))
    (h : ∀ D h', Fr h₀ L h' m → News h₀ L h' ((e, excO C (some D) t0) :: (D, dictOf [⟨PyData.keyHash w.params name, .str name (s.toks + 1), v⟩] 1) :: news) → (∀ p ∈ news, p.1 < D) → Q () { s with heap := h', toks := s.toks + 2 }) :
    wpAny (model prog w) A (setAttr (.ref e) name v) Q E s := by
  have X : K.In s.heap := X₀.keeps F.keep
  have he : s.heap.get? e = some (excO C none t0) := (N _ (.head _)).1
  have I : InstAt s.heap e (excO C none t0) C none := ⟨he, rfl, rfl, trivial⟩
  refine set_plain X I hs ?_
  have SF := PySem.F.store_Exception
  have SO := PySem.F.store_object
  have sub : Looks (model prog w) s.heap (isInstance (.ref e) (.type "object")) true := I.type.andThen (looks_mroIn X (by unfold mroIn; rw [hc, Option.bind_some, hm]; rfl))
  refine codeAny_call_builtin SO.slot.plain SO.entry (@check_slot (model prog w) _ _ { s with toks := s.toks + 1 } "object.__setattr__" "object" "__setattr__" (.ref e) [.str name s.toks, v] [] _ SO.kind SO.split sub (SO.args (.ref e) (.str name s.toks) v) ?_)
  obtain ⟨attr, ha, hr⟩ := Option.bind_eq_some_iff.mp ht
  have hmro : Looks (model prog w) s.heap (mroOf (.ref C)) cd.mro := (looks_clsIn X hc).andThen .now
  have L3 : Looks (model prog w) s.heap (storeTaker? attr) none := by
    cases attr with
    | none => exact .now
    | some a =>
      obtain ⟨b, hb, hbn⟩ := Option.map_eq_some_iff.mp hr
      refine (looks_takesIn X hb).andThen ?_
      cases b with
      | true => cases hbn
      | false => exact .now
  rw [osa_eq, refuse_eq]
  refine wpAny_bind (wpAny_bind (I.type.here (s := { s with toks := s.toks + 1 }) (wpAny_bind (hmro.here (s := { s with toks := s.toks + 1 }) ?_))))
  rw [hm, refuseLoop_ref, SF.passes]
  refine wpAny_pure (wpAny_bind (I.type.here (s := { s with toks := s.toks + 1 }) (wpAny_bind ((looks_findIn X ha).here (s := { s with toks := s.toks + 1 }) (wpAny_bind (L3.here (s := { s with toks := s.toks + 1 }) ?_))))))
  show wpAny _ _ (storeInOwnDict (.ref e) (.ref C) (.str name s.toks) name v _) _ _ _
  unfold storeInOwnDict
  show wpAny _ _ (pure () >>= _) _ _ _
  refine wpAny_bind (wpAny_pure ?_)
  rw [if_neg (show ¬ ((Value.ref C == Value.type "module") = true) from Bool.false_ne_true)]
  show wpAny _ _ (instanceDict e true >>= _) _ _ _
  refine wpAny_bind ?_
  unfold instanceDict
  refine wpAny_bind (wpAny_loadPart he ?_)
  show wpAny _ _ (classData C >>= _) _ _ _
  refine wpAny_bind ((looks_clsIn X hc).here (s := { s with toks := s.toks + 1 }) ?_)
  rw [hd]
  show wpAny _ _ (do let D ← alloc { cls := .type "dict", data := .dict #[] }; update e (fun o => { o with dict := some D }); dictMade (.ref C) e D) _ _ _
  refine wpAny_bind (wpAny_alloc ?_)
  have N1 := News.push F N { cls := .type "dict", data := .dict #[] }
  have F1 := F.push { cls := .type "dict", data := .dict #[] }
  have he1 : (s.heap.push { cls := .type "dict", data := .dict #[] }).get? e = some (excO C none t0) := Heap.get?_push_of_some _ he
  refine wpAny_bind (wpAny_update he1 ?_)
  have hDe : s.heap.objs.size ≠ e := Nat.ne_of_gt (Heap.lt_size he)
  have U := news_upd (pre := [(s.heap.objs.size, dictOf [] 0)]) (d := e) (o := excO C none t0) (post := news) F1 N1 (fun p hp => by rw [List.mem_singleton.mp hp]; exact hDe) hne (f := fun o => { o with dict := some s.heap.objs.size }) (o' := excO C (some s.heap.objs.size) t0) rfl rfl
  refine wpAny_pure ?_
  show wpAny _ _ (storeInDict s.heap.objs.size (.str name s.toks) name v) _ _ _
  have hnD : ∀ p ∈ (e, excO C (some s.heap.objs.size) t0) :: news, p.1 ≠ s.heap.objs.size := fun p hp => by
    rcases List.mem_cons.mp hp with rfl | hp
    · exact Ne.symm hDe
    · exact Nat.ne_of_lt (Heap.lt_size (N p (.tail _ hp)).1)
  have V := news_upd (pre := []) (d := s.heap.objs.size) (o := dictOf [] 0) (post := (e, excO C (some s.heap.objs.size) t0) :: news) U.1 U.2 (fun _ hp => nomatch hp) hnD
    (f := Obj.putName name (PyData.keyHash w.params name) (.str name (s.toks + 1)) v) (o' := dictOf [⟨PyData.keyHash w.params name, .str name (s.toks + 1), v⟩] 1) (putName_dict _ _ _ _ _ _) rfl
  have D0 := (U.2 (s.heap.objs.size, dictOf [] 0) (.head _)).1
  have D1 := (V.2 (_, _) (.head _)).1
  unfold storeInDict
  refine wpAny_bind (wpAny_pure (wpAny_bind ?_))
  unfold nsSet
  refine wpAny_bind (wpAny_bind (wpAny_askSetting (wpAny_pure (wpAny_bind (wpAny_mkText (wpAny_bind (wpAny_loadPart D0 ?_)))))))
  dsimp only
  have c : (!(([] : List DictEntry).toArray.any (·.key.isStr name)) && ([] : List DictEntry).toArray.any (·.refKey)) = false := by simp
  rw [aRefKeyMayBeTheName_at, c]
  refine wpAny_updatePart D0 ?_
  refine wpAny_bind (wpAny_lookBehind D1 (pastItsLine_dict (by rw [List.size_toArray, sizeLine_eq]; exact Nat.le_of_ble_eq_true rfl)) ?_)
  refine wpAny_pure (h s.heap.objs.size _ V.1 (fun p hp => ?_) fun p hp => Heap.lt_size (N p (.tail _ hp)).1)
  rcases List.mem_cons.mp hp with rfl | hp
  · exact V.2 _ (.tail _ (.head _))
  rcases List.mem_cons.mp hp with rfl | hp
  · exact V.2 _ (.head _)
  · exact V.2 _ (.tail _ (.tail _ hp))
end
end XS

-- 43_excget
theorem part43 : True := by
  w_top off
  trivial
namespace XS
open Builtin Builtin.ObjectAttr
theorem ga_kind : builtinKind "BaseException.__getattribute__" = some .slot := by decide +kernel
theorem ga_split : splitId "BaseException.__getattribute__" = some ("BaseException", "__getattribute__") := by decide +kernel
section
variable {prog : Program} {w : World} {A : Around} {E : Value → Shared → Prop} {s : Shared} {K : Frag} {C e : Addr} {ox : Obj} {od : Option Obj} {cd : ClassData}
theorem get_exc {name : Str} {v : Value} {expr : Bool} {Q : Value → Shared → Prop} (X : K.In s.heap) (I : InstAt s.heap e ox C od) (hc : clsIn K C = some cd) (hm : cd.mro = [.ref C, .type "Exception", .type "BaseException", .type "object"])
    (hga : findIn K (.ref C) "__getattribute__" = some (some (.builtin "BaseException.__getattribute__"))) (hk : findIn K (.ref C) "__getattr__" = some none)
    (hf : findObj K C od name = some (.value v)) (hh : handedIn v = true) (h : Q v { s with toks := s.toks + 1 }) : wpAny (model prog w) A (getAttr (.ref e) name expr) Q E s := by
  obtain ⟨hp, g, d, t, os⟩ := s
  have L0 := I.type (M := model prog w)
  have L1 := looks_findIn (M := model prog w) X hga
  have L2 := looks_findIn (M := model prog w) X hk
  have L3 := looks_find (M := model prog w) X I hf
  have sub : Looks (model prog w) hp (isInstance (.ref e) (.type "BaseException")) true := I.type.andThen (looks_mroIn X (by unfold mroIn; rw [hc, Option.bind_some, hm]; rfl))
  unfold getAttr getAttrBy
  refine wpAny_bind (wpAny_mkText (wpAny_holding (wpAny_bind (L0.at (wpAny_bind (L1.at ?_))))))
  show wpAny _ _ (getAttrByItsOwn _ _ _ _ _ _) _ _ _
  unfold getAttrByItsOwn hookBefore
  refine wpAny_bind (L2.at (wpAny_bind ?_))
  refine wpAny_attempt (wpAny_holding ?_)
  have hx0 : (expr && onTheHeap (Value.builtin "BaseException.__getattribute__")) = false := by cases expr <;> rfl
  unfold callGetattribute
  rw [hx0]
  show wpAny _ _ (boundAndCalled _ _ _) _ _ _
  unfold boundAndCalled
  refine wpAny_bind (wpAny_of_eq ((PySem.F.attr_Exception).ga.bind (.ref e)) ?_)
  show wpAny _ _ (call (.builtin "BaseException.__getattribute__") [.ref e, .str name t]) _ _ _
  refine wpAny_call (codeAny_call_builtin (PySem.F.attr_Exception).ga.plain F.entry_bexc_ga (@check_slot (model prog w) _ _ _ "BaseException.__getattribute__" "BaseException" "__getattribute__" (.ref e) [.str name t] [] _ ga_kind ga_split sub (F.args_bexc_ga (.ref e) (.str name t)) ?_))
  unfold Builtin.«object.__getattribute__»
  refine wpAny_bind (wpAny_pure (wpAny_bind (wpAny_pure (wpAny_bind (L0.at (wpAny_bind (L3.at ?_)))))))
  refine wpAny_pure ?_
  show wpAny _ _ (handedOut v) _ _ _
  rw [handedOut_of hh]; exact wpAny_pure h
end
end XS

-- 44_excinit
theorem part44 : True := by
  w_top off
  trivial
-- the __init__ of PyFATException
theorem XS.callWith_W {M : Model} {A : Around} {E : Value → Shared → Prop} {s : Shared} {env : Env} {pos : Pos} {first : List Value} {Q : Value → Shared → Prop} {q : Addr} {i : String} {x : Value} {e : Expr} {rest : List Expr}
    (h : wpAny M A (spliced (backTo pos (starEach (e :: rest) env))) (fun vs s₁ => s₁.heap.get? q = some (wrapO i x) ∧ wpAny M A (call (.ref q) (first ++ vs)) Q E s₁) E s)
    (he : starEach (e :: rest) env = (false, eval e env) :: starEach rest env := by rfl) (hplain : (backTo pos (starEach rest env)).any (·.1) = false := by rfl) :
    wpAny M A (callWith pos (.ref q) first (backTo pos (starEach (e :: rest) env)) []) Q E s := by
  rw [he] at h ⊢
  exact callWith_of (P := fun h => h.get? q = some (wrapO i x)) (by show ((false || (backTo pos (starEach rest env)).any (·.1)) || false) = false; rw [hplain]; rfl)
    (fun h hP => ⟨.machine, .inr (.inl rfl), (Looks.ld (part := none) hP).andThen .now⟩) (evalArgs_plain h)
section
variable {w : World} {mean : ExcName → Option Value} {mg mb : Str → Option Value} {A A₀ : Around} {env : Env} {outer : List Env} {base h₀ : Heap} {L : Addr} {m : Str → Option Value} {s : Shared} {Q E : Value → Shared → Prop}
abbrev excTail : List Value := [.type "Exception", .type "BaseException", .type "object"]
theorem fat_obj {h : Heap} (X : (hd.heap_39 w.params).In h) : ∃ nm qn N bs hdct sn sub ab col dd k0 k1 k2 k3 k5, h.get? 41 = some (excClassObj nm qn 41 N bs excTail hdct sn sub ab col dd k0 k1 k2 k3 k5 "Exception.__new__") :=
  ⟨_, _, _, _, _, _, _, _, _, _, _, _, _, _, _, X _ _ (by k_is)⟩
theorem naf_obj {h : Heap} (X : (hd.heap_39 w.params).In h) : ∃ nm qn N bs hdct sn sub ab col dd k0 k1 k2 k3 k5, h.get? 63 = some (excClassObj nm qn 63 N bs excTail hdct sn sub ab col dd k0 k1 k2 k3 k5 "Exception.__new__") :=
  ⟨_, _, _, _, _, _, _, _, _, _, _, _, _, _, _, X _ _ (by k_is)⟩
theorem fat_init {e t0 : Addr} {msg : Str} {tm : Tok} {v : Value} {news : List (Addr × Obj)}
  (B : Below A₀ base outer h₀) (X : (hd.heap_39 w.params).In h₀) (T : Top hd.view_39 LO mean mg mb h₀) (hA : A.frames = some (env :: outer)) (hf : env.frame = some L) (hke : env.scope.kind = .function) (hroom : A.depth < 900)
  (F : Fr h₀ L s.heap m) (N : News h₀ L s.heap ((e, excO 41 none t0) :: news)) (hne : ∀ p ∈ news, p.1 ≠ e)
  (ret : ∀ t D th h' tk', Fr h₀ L h' m → News h₀ L h' ((e, excO 41 (some D) t) :: (D, dictOf [⟨PyData.keyHash w.params "errno", .str "errno" th, v⟩] 1) :: news) → (∀ p ∈ news, p.1 < D) → Q .none {s with heap := h', toks := tk'}) :
  wpAny (model PR w) A (call (.ref 38) [.ref e, .str msg tm] [("errno", v)]) Q E s := by
  unfold PR
  refine wpAny_call ?_
  k_dflt (refine' ks_code_super ?k1 ?k2 ?k3 ?k4 ?k5 ?kA ?kF ?kK ?k6 ?k7 ?k8 ?k9 ?kB ?_ ?c1 ?c2 ?c3 ?c4; (case kA => assumption); (case kF => assumption); (case kK => assumption); (case k1 => k_asm); (case k2 => k_asm); (case k3 => k_asm); (case k4 => k_asm); (case k5 => k_asm); (case k6 => k_is); (case k7 => k_is); (case k8 => (show _ < 1000; omega)); (case k9 => first | exact BindsTo.of_eq rfl | exact binds_K (by k_in) rfl (by k_is) rfl rfl rfl); (case kB => exact locs rfl); (case c1 => decide); (case c2 => exact rfl); (case c3 => exact rfl); (case c4 => exact rfl))
  intro g' L' h' FG' F' N' B' X' T' l1
  replace F' : Fr g' L' h' (lk [("errno", v), ("msg", .str msg tm), ("self", .ref e)]) := F'
  refine ks_wpAt_execs_cons (ks_wpAt_Expr_any (ks_wpAt_MethodCall ?_))
  have hx : h'.get? e = some (excO 41 none t0) := (N' _ (.head _)).1
  refine ks_node (s := ⟨_, _, _, _, _⟩) (C := 41) (x := e) (D := 41) (odx := none) F' X' N' T' (by k_is) (by rfl) (by rfl) ⟨hx, rfl, rfl, trivial⟩ (by k_is) (by rfl) (by first | rfl | decide +kernel) (by k_is) (by k_is) (by k_is) (by k_is) (by decide) (by rfl) (by rfl) (by rfl) (by rfl) (by decide +kernel) (by first | boot_by_name | rfl | kernel_rfl) ?_
  intro so h1 F1 N1 l2
  generalize (_ + _ : Tok) = tk1 at *
  have X1 : (hd.heap_39 w.params).In h1 := X'.keeps F1.keep
  obtain ⟨nm, qn, Nn, bs, hdct, sn, sub, ab, col, dd, k0, k1, k2, k3, k5, hC⟩ := fat_obj X1
  have hsub : Looks (model PR w) h1 (isSubtype (.ref 41) (.type "Exception")) true := looks_mroIn X1 (by k_is)
  refine XS.get_method (K := hd.heap_39 w.params) (N1 _ (.head _)).1 (looks_opaque X1 (by k_is)) (l₀ := .ref 41 :: excTail) ?hm rfl X1 (by kernel_rfl) (N1 _ (.tail _ (.head _))).1 rfl ?hne hsub ?_
  case hm => exact fun A Q E s k q => wpAny_bind ((looks_clsIn X1 (by k_is)) A _ E s k (wpAny_pure q))
  case hne =>
    have h2 := (N1 _ (.tail _ (.head _))).1
    rintro rfl
    rw [hC] at h2
    cases h2
  have N2 := News.push F1 N1 (wrapO "Exception.__init__" (.ref e))
  have F2 := F1.push (wrapO "Exception.__init__" (.ref e))
  have hC2 := Heap.get?_push_of_some (wrapO "Exception.__init__" (.ref e)) hC
  generalize hh2 : h1.push (wrapO "Exception.__init__" (.ref e)) = h2 at *
  generalize hq : h1.objs.size = q at *
  clear hh2 hq
  refine XS.callWith_W (i := "Exception.__init__") (x := .ref e) ?_
  k_steps
  all_goals first | exact (N2 _ (.head _)).1 | skip
  have N2e : News g' L' h2 ((e, excO 41 none t0) :: news) := fun p hp => N2 p (.tail _ (.tail _ hp))
  have hqq : h2.get? q = some (wrapO "Exception.__init__" (.ref e)) := (N2 _ (.head _)).1
  refine XS.call_wrap (s := ⟨h2, _, _, _, _⟩) F2 N2e hne hC2 hqq ?_
  intro t1 h3 F3 N3
  clear N2 N2e hqq N1 F1 F2 hC2 hC hsub hx
  k_steps
  k_dflt (refine' XS.set_exc (s := ⟨h3, _, _, _, _⟩) ?F ?X ?N ?ne ?c ?m ?d ?t ?s ?_; (case F => exact F3); (case X => exact X'); (case N => exact N3); (case ne => exact hne); (case c => k_is); (case m => rfl); (case d => rfl); (case t => k_is); (case s => k_is))
  intro D h4 F4 N4 l4
  clear F3 N3 l2 l1 F' N'
  k_steps
  exact ret _ _ _ _ _ (by assumption) (by assumption) l4
theorem fat_init0 {e t0 : Addr} {msg : Str} {tm : Tok} {news : List (Addr × Obj)}
  (B : Below A₀ base outer h₀) (X : (hd.heap_39 w.params).In h₀) (T : Top hd.view_39 LO mean mg mb h₀) (hA : A.frames = some (env :: outer)) (hf : env.frame = some L) (hke : env.scope.kind = .function) (hroom : A.depth < 900)
  (F : Fr h₀ L s.heap m) (N : News h₀ L s.heap ((e, excO 41 none t0) :: news)) (hne : ∀ p ∈ news, p.1 ≠ e)
  (ret : ∀ t D th h' tk', Fr h₀ L h' m → News h₀ L h' ((e, excO 41 (some D) t) :: (D, dictOf [⟨PyData.keyHash w.params "errno", .str "errno" th, .none⟩] 1) :: news) → (∀ p ∈ news, p.1 < D) → Q .none {s with heap := h', toks := tk'}) :
  wpAny (model PR w) A (call (.ref 38) [.ref e, .str msg tm]) Q E s := by
  unfold PR
  refine wpAny_call ?_
  k_dflt (refine' ks_code_super ?k1 ?k2 ?k3 ?k4 ?k5 ?kA ?kF ?kK ?k6 ?k7 ?k8 ?k9 ?kB ?_ ?c1 ?c2 ?c3 ?c4; (case kA => assumption); (case kF => assumption); (case kK => assumption); (case k1 => k_asm); (case k2 => k_asm); (case k3 => k_asm); (case k4 => k_asm); (case k5 => k_asm); (case k6 => k_is); (case k7 => k_is); (case k8 => (show _ < 1000; omega)); (case k9 => first | exact BindsTo.of_eq rfl | exact binds_K (by k_in) rfl (by k_is) rfl rfl rfl); (case kB => exact locs rfl); (case c1 => decide); (case c2 => exact rfl); (case c3 => exact rfl); (case c4 => exact rfl))
  intro g' L' h' FG' F' N' B' X' T' l1
  replace F' : Fr g' L' h' (lk [("errno", .none), ("msg", .str msg tm), ("self", .ref e)]) := F'
  refine ks_wpAt_execs_cons (ks_wpAt_Expr_any (ks_wpAt_MethodCall ?_))
  have hx : h'.get? e = some (excO 41 none t0) := (N' _ (.head _)).1
  refine ks_node (s := ⟨_, _, _, _, _⟩) (C := 41) (x := e) (D := 41) (odx := none) F' X' N' T' (by k_is) (by rfl) (by rfl) ⟨hx, rfl, rfl, trivial⟩ (by k_is) (by rfl) (by first | rfl | decide +kernel) (by k_is) (by k_is) (by k_is) (by k_is) (by decide) (by rfl) (by rfl) (by rfl) (by rfl) (by decide +kernel) (by first | boot_by_name | rfl | kernel_rfl) ?_
  intro so h1 F1 N1 l2
  generalize (_ + _ : Tok) = tk1 at *
  have X1 : (hd.heap_39 w.params).In h1 := X'.keeps F1.keep
  obtain ⟨nm, qn, Nn, bs, hdct, sn, sub, ab, col, dd, k0, k1, k2, k3, k5, hC⟩ := fat_obj X1
  have hsub : Looks (model PR w) h1 (isSubtype (.ref 41) (.type "Exception")) true := looks_mroIn X1 (by k_is)
  refine XS.get_method (K := hd.heap_39 w.params) (N1 _ (.head _)).1 (looks_opaque X1 (by k_is)) (l₀ := .ref 41 :: excTail) ?hm rfl X1 (by kernel_rfl) (N1 _ (.tail _ (.head _))).1 rfl ?hne hsub ?_
  case hm => exact fun A Q E s k q => wpAny_bind ((looks_clsIn X1 (by k_is)) A _ E s k (wpAny_pure q))
  case hne =>
    have h2 := (N1 _ (.tail _ (.head _))).1
    rintro rfl
    rw [hC] at h2
    cases h2
  have N2 := News.push F1 N1 (wrapO "Exception.__init__" (.ref e))
  have F2 := F1.push (wrapO "Exception.__init__" (.ref e))
  have hC2 := Heap.get?_push_of_some (wrapO "Exception.__init__" (.ref e)) hC
  generalize hh2 : h1.push (wrapO "Exception.__init__" (.ref e)) = h2 at *
  generalize hq : h1.objs.size = q at *
  clear hh2 hq
  refine XS.callWith_W (i := "Exception.__init__") (x := .ref e) ?_
  k_steps
  all_goals first | exact (N2 _ (.head _)).1 | skip
  have N2e : News g' L' h2 ((e, excO 41 none t0) :: news) := fun p hp => N2 p (.tail _ (.tail _ hp))
  have hqq : h2.get? q = some (wrapO "Exception.__init__" (.ref e)) := (N2 _ (.head _)).1
  refine XS.call_wrap (s := ⟨h2, _, _, _, _⟩) F2 N2e hne hC2 hqq ?_
  intro t1 h3 F3 N3
  clear N2 N2e hqq N1 F1 F2 hC2 hC hsub hx
  k_steps
  k_dflt (refine' XS.set_exc (s := ⟨h3, _, _, _, _⟩) ?F ?X ?N ?ne ?c ?m ?d ?t ?s ?_; (case F => exact F3); (case X => exact X'); (case N => exact N3); (case ne => exact hne); (case c => k_is); (case m => rfl); (case d => rfl); (case t => k_is); (case s => k_is))
  intro D h4 F4 N4 l4
  clear F3 N3 l2 l1 F' N'
  k_steps
  exact ret _ _ _ _ _ (by assumption) (by assumption) l4
theorem naf_init {e t0 : Addr} {msg : Str} {tm : Tok} {v : Value} {news : List (Addr × Obj)}
  (B : Below A₀ base outer h₀) (X : (hd.heap_39 w.params).In h₀) (T : Top hd.view_39 LO mean mg mb h₀) (hA : A.frames = some (env :: outer)) (hf : env.frame = some L) (hke : env.scope.kind = .function) (hroom : A.depth < 900)
  (F : Fr h₀ L s.heap m) (N : News h₀ L s.heap ((e, excO 63 none t0) :: news)) (hne : ∀ p ∈ news, p.1 ≠ e)
  (ret : ∀ t D th h' tk', Fr h₀ L h' m → News h₀ L h' ((e, excO 63 (some D) t) :: (D, dictOf [⟨PyData.keyHash w.params "free_type", .str "free_type" th, v⟩] 1) :: news) → (∀ p ∈ news, p.1 < D) → Q .none {s with heap := h', toks := tk'}) :
  wpAny (model PR w) A (call (.ref 60) [.ref e, .str msg tm] [("free_type", v)]) Q E s := by
  unfold PR
  refine wpAny_call ?_
  k_dflt (refine' ks_code_super ?k1 ?k2 ?k3 ?k4 ?k5 ?kA ?kF ?kK ?k6 ?k7 ?k8 ?k9 ?kB ?_ ?c1 ?c2 ?c3 ?c4; (case kA => assumption); (case kF => assumption); (case kK => assumption); (case k1 => k_asm); (case k2 => k_asm); (case k3 => k_asm); (case k4 => k_asm); (case k5 => k_asm); (case k6 => k_is); (case k7 => k_is); (case k8 => (show _ < 1000; omega)); (case k9 => first | exact BindsTo.of_eq rfl | exact binds_K (by k_in) rfl (by k_is) rfl rfl rfl); (case kB => exact locs rfl); (case c1 => decide); (case c2 => exact rfl); (case c3 => exact rfl); (case c4 => exact rfl))
  intro g' L' h' FG' F' N' B' X' T' l1
  replace F' : Fr g' L' h' (lk [("free_type", v), ("msg", .str msg tm), ("self", .ref e)]) := F'
  refine ks_wpAt_execs_cons (ks_wpAt_Expr_any (ks_wpAt_MethodCall ?_))
  have hx : h'.get? e = some (excO 63 none t0) := (N' _ (.head _)).1
  refine ks_node (s := ⟨_, _, _, _, _⟩) (C := 63) (x := e) (D := 63) (odx := none) F' X' N' T' (by k_is) (by rfl) (by rfl) ⟨hx, rfl, rfl, trivial⟩ (by k_is) (by rfl) (by first | rfl | decide +kernel) (by k_is) (by k_is) (by k_is) (by k_is) (by decide) (by rfl) (by rfl) (by rfl) (by rfl) (by decide +kernel) (by first | boot_by_name | rfl | kernel_rfl) ?_
  intro so h1 F1 N1 l2
  generalize (_ + _ : Tok) = tk1 at *
  have X1 : (hd.heap_39 w.params).In h1 := X'.keeps F1.keep
  obtain ⟨nm, qn, Nn, bs, hdct, sn, sub, ab, col, dd, k0, k1, k2, k3, k5, hC⟩ := naf_obj X1
  have hsub : Looks (model PR w) h1 (isSubtype (.ref 63) (.type "Exception")) true := looks_mroIn X1 (by k_is)
  refine XS.get_method (K := hd.heap_39 w.params) (N1 _ (.head _)).1 (looks_opaque X1 (by k_is)) (l₀ := .ref 63 :: excTail) ?hm rfl X1 (by kernel_rfl) (N1 _ (.tail _ (.head _))).1 rfl ?hne hsub ?_
  case hm => exact fun A Q E s k q => wpAny_bind ((looks_clsIn X1 (by k_is)) A _ E s k (wpAny_pure q))
  case hne =>
    have h2 := (N1 _ (.tail _ (.head _))).1
    rintro rfl
    rw [hC] at h2
    cases h2
  have N2 := News.push F1 N1 (wrapO "Exception.__init__" (.ref e))
  have F2 := F1.push (wrapO "Exception.__init__" (.ref e))
  have hC2 := Heap.get?_push_of_some (wrapO "Exception.__init__" (.ref e)) hC
  generalize hh2 : h1.push (wrapO "Exception.__init__" (.ref e)) = h2 at *
  generalize hq : h1.objs.size = q at *
  clear hh2 hq
  refine XS.callWith_W (i := "Exception.__init__") (x := .ref e) ?_
  k_steps
  all_goals first | exact (N2 _ (.head _)).1 | skip
  have N2e : News g' L' h2 ((e, excO 63 none t0) :: news) := fun p hp => N2 p (.tail _ (.tail _ hp))
  have hqq : h2.get? q = some (wrapO "Exception.__init__" (.ref e)) := (N2 _ (.head _)).1
  refine XS.call_wrap (s := ⟨h2, _, _, _, _⟩) F2 N2e hne hC2 hqq ?_
  intro t1 h3 F3 N3
  clear N2 N2e hqq N1 F1 F2 hC2 hC hsub hx
  k_steps
  k_dflt (refine' XS.set_exc (s := ⟨h3, _, _, _, _⟩) ?F ?X ?N ?ne ?c ?m ?d ?t ?s ?_; (case F => exact F3); (case X => exact X'); (case N => exact N3); (case ne => exact hne); (case c => k_is); (case m => rfl); (case d => rfl); (case t => k_is); (case s => k_is))
  intro D h4 F4 N4 l4
  clear F3 N3 l2 l1 F' N'
  k_steps
  exact ret _ _ _ _ _ (by assumption) (by assumption) l4
end

-- 45_flying
theorem part45 : True := by
  w_top off
  trivial
/-- an exception of our own class C with the dict de is in flight -/
structure RaisedD (base G : Heap) (l : List Env) (e C de : Addr) (news : List (Addr × Obj)) (h : Heap) : Prop where
  R : RaisedSN base G l e (.ref C) news h
  H : HasD e de h
theorem rd_sub {base G : Heap} {l : List Env} {e C de : Addr} {news news' : List (Addr × Obj)} {h : Heap} (R : RaisedD base G l e C de news h) (hs : ∀ p ∈ news', p ∈ news) : RaisedD base G l e C de news' h := ⟨rsn_sub R.R hs, R.H⟩
section
variable {M : Model} {A : Around} {E : Value → Shared → Prop} {s' : Shared} {base g g₂ h : Heap} {outer : List Env} {L a e C de t : Addr} {m : Str → Option Value} {name : Str} {scope : Scope} {cd : Value} {Q : Unit → Shared → Prop} {news news' : List (Addr × Obj)}
theorem leave_ownD (K : Below A base outer g) (F : Fr g L s'.heap m) (N : News g L s'.heap news) (he : (e, excO C (some de) t) ∈ news)
    (hs : ∀ p ∈ news', p ∈ news) (hne : ∀ p ∈ news', p.1 ≠ e)
    (hQ : ∀ h', RaisedD base g outer e C de news' h' → g.UpToSlots h' → Q () { s' with heap := h' }) (hk : scope.kind = .function := by rfl) :
    wpAny M (A.deeper (envOf name scope L a cd)) (leaving (envOf name scope L a cd) (.ref e)) Q E s' := by
  have K' := K.push (name := name) (a := a) (cd := cd) F hk
  have hin : ∀ env ∈ (envOf name scope L a cd :: outer), ∀ b, env.frame = some b → b ∈ e :: (envOf name scope L a cd :: outer).filterMap (·.frame) := fun env he b hb => .tail _ (List.mem_filterMap.mpr ⟨env, he, hb⟩)
  have hge : g.get? e = none := (N _ he).2.2
  have st : base.StaysIn (hideAll s'.heap (e :: (envOf name scope L a cd :: outer).filterMap (·.frame))) := fun b o q => hideAll_get _ (K'.stays b o q) fun hm => by
    rcases List.mem_cons.mp hm with rfl | hm
    · rw [fresh_of_stays K.stays hge] at q; cases q
    · rw [(K'.frames.mem hm).1] at q; cases q
  have sg : ∀ b o, g.get? b = some o → b ∉ outer.filterMap (·.frame) → (hideAll s'.heap (e :: (envOf name scope L a cd :: outer).filterMap (·.frame))).get? b = some o := fun b o q nm => hideAll_get _ (F.keep b o q) fun hm => by
    rcases List.mem_cons.mp hm with rfl | hm
    · rw [hge] at q; cases q
    rcases kts_mem hm with z | z
    · rw [z, kts_self F] at q
      cases q
    · exact nm z
  have hl : ∀ q ∈ news', (hideAll s'.heap (e :: (envOf name scope L a cd :: outer).filterMap (·.frame))).get? q.1 = some q.2 ∧ g.get? q.1 = none ∧ base.get? q.1 = none := fun q hq => by
    have hq' := hs q hq
    refine ⟨hideAll_get _ (N q hq').1 fun hm => ?_, (N q hq').2.2, fresh_of_stays K.stays (N q hq').2.2⟩
    rcases List.mem_cons.mp hm with z | hm
    · exact hne q hq z
    obtain ⟨env, he, hf⟩ := List.mem_filterMap.mp hm
    rcases List.mem_cons.mp he with rfl | he
    · exact (N q hq').2.1 (Option.some.inj hf).symm
    · obtain ⟨o, ho, _⟩ := (K.frames.mem (List.mem_filterMap.mpr ⟨env, he, hf⟩)).2
      rw [(N q hq').2.2] at ho; cases ho
  have hen : (hideAll s'.heap (e :: (envOf name scope L a cd :: outer).filterMap (·.frame))).get? e = none := hideAll_none _ (.head _)
  have hh : HasD e de s'.heap := ⟨_, (N _ he).1, rfl⟩
  refine wpAny_tameQ tame_leaving (wpAny_leaving_firstW (a0 := .ref t) (oe := excO C (some de) t) (Q := fun _ s'' => ∃ h', s'' = { s' with heap := h' } ∧ Heap.LeftW _ _ e (.ref C) (.ref t) s'.heap h') K'.stack (funFrames_hide K'.frames hin) rfl (N _ he).1 (fun b o hb => of_hideAll _ hb) hen rfl rfl rfl fun h' hL => ⟨h', rfl, hL⟩) ?_
  rintro _ s'' ⟨h', rfl, k1, ⟨_, _, k2⟩, k3, k4⟩ dk
  exact hQ h' ⟨⟨_, .ref t, st, sg, hl, k1, hen, k2, k3⟩, hh.dk dk⟩ ((Heap.UpToSlots.of_keeps F.keep).trans k4)
theorem leave_onD (K : Below A base outer g) (F : Fr g L g₂ m) (R : RaisedD base g₂ (envOf name scope L a cd :: outer) e C de news s'.heap) (hsm : g₂.UpToSlots s'.heap)
    (hQ : ∀ h', RaisedD base g outer e C de news h' → g.UpToSlots h' → Q () { s' with heap := h' }) :
    wpAny M (A.deeper (envOf name scope L a cd)) (leaving (envOf name scope L a cd) (.ref e)) Q E s' := by
  refine wpAny_tameQ tame_leaving (leave_onSN (Q := fun _ s'' => ∃ h', s'' = { s' with heap := h' } ∧ RaisedSN base g outer e (.ref C) news h' ∧ g.UpToSlots h') K F R.R hsm fun h' r _ u => ⟨h', rfl, r, u⟩) ?_
  rintro _ s'' ⟨h', rfl, r, u⟩ dk
  exact hQ h' ⟨r, R.H.dk dk⟩ u
/-- the catcher's frame notes the exception and takes it out of flight -/
theorem landed {cls : Value} {P : Shared → Prop} (R : RaisedSN base g₂ (envOf name scope L a cd :: outer) e cls news s'.heap) (K : Below A base outer g) (hsm : g₂.UpToSlots s'.heap)
    (hP : ∀ h', RaisedSN base g₂ (envOf name scope L a cd :: outer) e cls news h' → g₂.UpToSlots h' → DK s'.heap h' → P { s' with heap := h' }) :
    wpAny M (A.deeper (envOf name scope L a cd)) (noteFrame (.ref e) (envOf name scope L a cd))
      (fun _ s₂ => wpAny M (A.deeper (envOf name scope L a cd)) (setFlight (.ref e) none) (fun _ s₃ => P s₃) E s₂) E s' := by
  obtain ⟨B, a0, hB, hBG, hl, hfl⟩ := R
  refine wpAny_tameQ tame_noteFrame (wpAny_looks_onW (Q := fun _ s'' => ∃ h', s'' = { s' with heap := h' } ∧ Heap.HeldW _ _ e cls a0 L h' ∧ s'.heap.UpToSlots h') (Around.frames_deeper K.stack) rfl hfl fun h₄ x1 x2 => ⟨h₄, rfl, x1, x2⟩) ?_
  rintro _ s'' ⟨h₄, rfl, hheld, u₄⟩ dk
  refine wpAny_tameQ (s := { s' with heap := h₄ }) tame_setFlight (wpAny_landsW (s := { s' with heap := h₄ }) (Q := fun _ s'' => ∃ h', s'' = { s' with heap := h' } ∧ Heap.FlyingW _ _ e cls a0 h' ∧ h₄.UpToSlots h') hheld fun h₅ x1 x2 => ⟨h₅, rfl, x1, x2⟩) ?_
  rintro _ s'' ⟨h₅, rfl, hfl₅, u₅⟩ dk₅
  exact hP h₅ ⟨B, a0, hB, hBG, hl, hfl₅⟩ (hsm.trans (u₄.trans u₅)) (dk.trans dk₅)
end

-- 46_caught
theorem part46 : True := by
  w_top off
  trivial
section
variable {M : Model} {A : Around} {E : Value → Shared → Prop} {h : Heap} {g : Array GenState} {d : Drawn} {t : Nat} {os : OsState}
variable {nm q nm2 q2 : Str} {C C2 N N2 : Addr} {bs bm bs2 bm2 : List Value} {hdct hdct2 : Bool} {sn sn2 : List Str} {sub sub2 : List Value} {ab ab2 : Bool} {col col2 : Option Bool} {dd dd2 : Option Addr} {k0 k1 k2 k3 k5 r0 r1 r2 r3 r5 : Option Value} {newId newId2 : String}
/-- an exception of a class of the language's does not match a class of our own -/
theorem em_type_own {e : Addr} {oe : Obj} {X : String} {Q : Bool → Shared → Prop} (hC : h.get? C = some (excClassObj nm q C N bs bm hdct sn sub ab col dd k0 k1 k2 k3 k5 newId)) (hbase : bm.contains (.type "BaseException") = true)
    (he : h.get? e = some oe) (hcls : oe.cls = .type X) (hsub : isSubtype (.type X) (.ref C) = pure false) (hq : Q false ⟨h, g, d, t, os⟩) : wpAny M A (excMatches (.ref e) (.ref C)) Q E ⟨h, g, d, t, os⟩ := by
  have hcB : (Value.ref C :: bm).contains (.type "BaseException") = true := by rw [List.contains_cons, hbase, Bool.or_true]
  have f := tc_notTuple
  unfold excMatches
  repeat (first | (with_reducible refine wpAny_loadPart_at he ?_; rw [hcls]) | with_reducible refine wpAny_loadPart_at hC ?_ | (with_reducible refine wpAny_isSubtype_exc hC ?_; first | rw [hcB]) | rw [hsub] | wp_step)
  exact hq
/-- nor does one of another class of our own -/
theorem em_own_own {e : Addr} {oe : Obj} {Q : Bool → Shared → Prop} (hC : h.get? C = some (excClassObj nm q C N bs bm hdct sn sub ab col dd k0 k1 k2 k3 k5 newId)) (hbase : bm.contains (.type "BaseException") = true)
    (hC2 : h.get? C2 = some (excClassObj nm2 q2 C2 N2 bs2 bm2 hdct2 sn2 sub2 ab2 col2 dd2 r0 r1 r2 r3 r5 newId2)) (hno : (Value.ref C2 :: bm2).contains (.ref C) = false)
    (he : h.get? e = some oe) (hcls : oe.cls = .ref C2) (hq : Q false ⟨h, g, d, t, os⟩) : wpAny M A (excMatches (.ref e) (.ref C)) Q E ⟨h, g, d, t, os⟩ := by
  have hcB : (Value.ref C :: bm).contains (.type "BaseException") = true := by rw [List.contains_cons, hbase, Bool.or_true]
  have f := tc_notTuple
  unfold excMatches
  repeat (first | (with_reducible refine wpAny_loadPart_at he ?_; rw [hcls]) | with_reducible refine wpAny_loadPart_at hC ?_ | (with_reducible refine wpAny_isSubtype_exc hC ?_; first | rw [hcB]) | (with_reducible refine wpAny_isSubtype_exc hC2 ?_; rw [hno]) | wp_step)
  exact hq
end
section
variable {A₀ : Around} {base g G h : Heap} {outer : List Env} {L a e : Addr} {m : Str → Option Value} {name : Str} {scope : Scope} {cd cls : Value} {news : List (Addr × Obj)}
/-- what the catcher's frame knows while it looks for its clause -/
theorem ground5 (R : RaisedSN base G (envOf name scope L a cd :: outer) e cls news h) (F : Fr g L G m) (K : Below A₀ base outer g) (hsm : G.UpToSlots h) :
    ∃ g' oe ws, KtsTurn (outer.filterMap (·.frame)) g g' ∧ Fr g' L h m ∧ Below A₀ base outer g' ∧ News g' L h ((e, oe) :: news) ∧ oe.cls = cls ∧ oe.data = .fields ws := by
  obtain ⟨B, a0, hB, hBG, hl, hfl⟩ := R
  have hL : B.get? L = none := by
    obtain ⟨_, ⟨L', _, hf, hn', _⟩, _⟩ := hfl.2.2.1
    obtain rfl : L = L' := Option.some.inj hf
    exact hn'
  obtain ⟨g', T', F', K'⟩ := kts_ground K F hBG hfl.1 hsm
  obtain ⟨oe, ws, hoe, hoec, hoed, hoe0⟩ := hfl.first
  have ne : g'.get? e = none := T'.none_ _ (kts_fresh F hBG hfl.2.1 fun o ho m => by
    obtain ⟨_, o', ho', hd⟩ := K.frames.mem m
    rw [ho] at ho'
    cases ho'
    obtain ⟨sl, hs⟩ := hsm _ _ (F.keep _ _ ho) hd
    rw [hoe] at hs
    cases hs
    exact hd _ hoed)
  have Nl : News g' L h news := fun q hq => ⟨hfl.1 _ _ (hl q hq).1, (fun z => by have := (hl q hq).1; rw [z, hL] at this; cases this), T'.none_ _ (kts_none F.keep (hl q hq).2.1)⟩
  exact ⟨g', oe, ws, T', F', K', News.more F' Nl hoe (fun es n q => by rw [hoed] at q; cases q) ne, hoec, hoed⟩
end
section
variable {prog : Program} {w : World} {A₀ : Around} {E : Value → Shared → Prop} {s' : Shared} {base g g₀ G : Heap} {outer : List Env} {L a e C de : Addr} {m : Str → Option Value} {name : Str} {scope : Scope} {cd cls : Value}
  {n : Str} {b₀ : Stmt} {body suite : List Stmt} {pos np : Pos} {rest : List ExceptHandler} {Q : Flow → Shared → Prop} {news : List (Addr × Obj)} {KF : Frag} {nmo : Option Str}
  {p : Program} {loose : List Str} {mean : ExcName → Option Value} {mg mb : Str → Option Value} {x : Str} {X T' : String}
/-- a clause that names a class of our own and does not match -/
theorem miss_own (R : RaisedSN base G (envOf name scope L a cd :: outer) e cls news s'.heap) (F : Fr g L G m) (K : Below A₀ base outer g) (hsm : G.UpToSlots s'.heap) (XB : KF.In base) (TB : Top p loose mean mg mb base)
    (ex : nsIn KF mainGlobals x = some (some (.ref C)))
    (hmatch : ∀ {Q' : Bool → Shared → Prop} {E' : Value → Shared → Prop} {A' : Around} {oe : Obj}, KF.In s'.heap → s'.heap.get? e = some oe → oe.cls = cls → Q' false s' → wpAny (model prog w) A' (excMatches (.ref e) (.ref C)) Q' E' s')
    (k : wpAny (model prog w) (A₀.deeper (envOf name scope L a cd)) (handleBy (.ref e) (envOf name scope L a cd) rest) Q E s')
    (hk : scope.kind = .function := by rfl) (hx : (envOf name scope L a cd).kindOf x = some .globalImplicit := by rfl) (hd : (x == ("__debug__" : Str)) = false := by decide) :
    wpAny (model prog w) (A₀.deeper (envOf name scope L a cd)) (handleBy (.ref e) (envOf name scope L a cd) (.ExceptHandler (some (.Name x np)) nmo body pos :: rest)) Q E s' := by
  obtain ⟨g', oe, ws, T', F', K', N', hc, hdt⟩ := ground5 R F K hsm
  have X' : KF.In g' := XB.keeps K'.stays
  refine wpAny_handleBy_cons (codeAny_handlers_test (name_K F' X' (topRead_of (TB.keeps K'.stays)) ex ?_ hk hx hd)) (by intro q; cases q)
  exact hmatch (X'.keeps F'.keep) (N' _ (.head _)).1 hc k
/-- a clause that names a class of the language's and does not match -/
theorem miss_type (R : RaisedSN base G (envOf name scope L a cd :: outer) e (.type X) news s'.heap) (F : Fr g L G m) (K : Below A₀ base outer g) (hsm : G.UpToSlots s'.heap) (XB : KF.In base) (TB : Top p loose mean mg mb base)
    (ex : nsIn KF mainGlobals x = some none) (hv : bootBuiltins x = some (.type T')) (hn' : x ≠ "__name__")
    (hexc : isSubtype (.type T') (.type "BaseException") = pure true) (hnt : isSubtype (.type ((Manifest.find? T').elim "type" fun y => y.metatype)) (.type "tuple") = pure false) (hsub : isSubtype (.type X) (.type T') = pure false)
    (k : wpAny (model prog w) (A₀.deeper (envOf name scope L a cd)) (handleBy (.ref e) (envOf name scope L a cd) rest) Q E s')
    (hk : scope.kind = .function := by rfl) (hx : (envOf name scope L a cd).kindOf x = some .globalImplicit := by rfl) (hd : (x == ("__debug__" : Str)) = false := by decide) :
    wpAny (model prog w) (A₀.deeper (envOf name scope L a cd)) (handleBy (.ref e) (envOf name scope L a cd) (.ExceptHandler (some (.Name x np)) nmo body pos :: rest)) Q E s' := by
  obtain ⟨g', oe, ws, T', F', K', N', hc, hdt⟩ := ground5 R F K hsm
  have X' : KF.In g' := XB.keeps K'.stays
  refine wpAny_handleBy_cons (codeAny_handlers_test (name_B F' X' (topRead_of (TB.keeps K'.stays)) ex hv hn' ?_ hk hx hd)) (by intro q; cases q)
  exact wpAny_excMatches_type (X := X) ⟨oe, (N' _ (.head _)).1, hc⟩ hexc hnt hsub k
/-- a clause that matches, without a name -/
theorem hit_type (R : RaisedSN base G (envOf name scope L a cd :: outer) e (.type X) news s'.heap) (F : Fr g L G m) (K : Below A₀ base outer g) (hsm : G.UpToSlots s'.heap) (XB : KF.In base) (TB : Top p loose mean mg mb base)
    (D : KtsDicts (outer.filterMap (·.frame)) g) (T0 : KtsTurn (outer.filterMap (·.frame)) g₀ g)
    (ex : nsIn KF mainGlobals x = some none) (hv : bootBuiltins x = some (.type T')) (hn' : x ≠ "__name__")
    (hexc : isSubtype (.type T') (.type "BaseException") = pure true) (hnt : isSubtype (.type ((Manifest.find? T').elim "type" fun y => y.metatype)) (.type "tuple") = pure false) (hsub : isSubtype (.type X) (.type T') = pure true)
    (k : ∀ h' g', KtsTurn (outer.filterMap (·.frame)) g₀ g' → Fr g' L h' m → News g' L h' news → Below A₀ base outer g' → KF.In g' → Top p loose mean mg mb g' → KtsDicts (outer.filterMap (·.frame)) g' →
      wpAny (model prog w) ((A₀.deeper (envOf name scope L a cd)).mark (some (.ref e))) (execs (b₀ :: suite) (envOf name scope L a cd)) Q E { s' with heap := h' })
    (hk : scope.kind = .function := by rfl) (hx : (envOf name scope L a cd).kindOf x = some .globalImplicit := by rfl) (hd : (x == ("__debug__" : Str)) = false := by decide)
    (hE : PassesOwnAt (model prog w) ((A₀.deeper (envOf name scope L a cd)).mark (some (.ref e))) (A₀.deeper (envOf name scope L a cd)) (envOf name scope L a cd) E := by passes_own) :
    wpAny (model prog w) (A₀.deeper (envOf name scope L a cd)) (handleBy (.ref e) (envOf name scope L a cd) (.ExceptHandler (some (.Name x np)) none (b₀ :: suite) pos :: rest)) Q E s' := by
  obtain ⟨g', oe, ws, T', F', K', N', hc, hdt⟩ := ground5 R F K hsm
  have X' : KF.In g' := XB.keeps K'.stays
  refine wpAny_handleBy_builtin (X := X) (T := _) (b := true) hexc hnt hsub (name_B F' X' (topRead_of (TB.keeps K'.stays)) ex hv hn' ⟨rfl, ⟨oe, (N' _ (.head _)).1, hc⟩, ?_⟩ hk hx hd)
  obtain ⟨B, a0, hB, hBG, hl, hfl⟩ := R
  refine lands_againW hfl fun h₆ hfl₆ hsm₆ => ?_
  have R₆ : RaisedSN base G (envOf name scope L a cd :: outer) e (.type X) news h₆ := ⟨B, a0, hB, hBG, hl, hfl₆⟩
  obtain ⟨g₆, oe₆, ws₆, T₆, F₆, K₆, N₆, _, _⟩ := ground5 R₆ F K (hsm.trans hsm₆)
  exact wpAny_passesOwnAt hE (k h₆ g₆ (T0.trans T₆) F₆ (fun p hp => N₆ p (.tail _ hp)) K₆ (XB.keeps K₆.stays) (TB.keeps K₆.stays) (D.turn T₆))
theorem hit_own (R : RaisedSN base G (envOf name scope L a cd :: outer) e (.ref C) news s'.heap) (F : Fr g L G m) (K : Below A₀ base outer g) (hsm : G.UpToSlots s'.heap) (XB : KF.In base) (TB : Top p loose mean mg mb base)
    (D : KtsDicts (outer.filterMap (·.frame)) g) (T0 : KtsTurn (outer.filterMap (·.frame)) g₀ g)
    (ex : nsIn KF mainGlobals x = some (some (.ref C)))
    (hmatch : ∀ {Q' : Bool → Shared → Prop} {E' : Value → Shared → Prop} {A' : Around} {oe : Obj}, KF.In s'.heap → s'.heap.get? e = some oe → oe.cls = .ref C → Q' true s' → wpAny (model prog w) A' (excMatches (.ref e) (.ref C)) Q' E' s')
    (k : ∀ h' g', KtsTurn (outer.filterMap (·.frame)) g₀ g' → Fr g' L h' m → News g' L h' news → Below A₀ base outer g' → KF.In g' → Top p loose mean mg mb g' → KtsDicts (outer.filterMap (·.frame)) g' →
      wpAny (model prog w) ((A₀.deeper (envOf name scope L a cd)).mark (some (.ref e))) (execs (b₀ :: suite) (envOf name scope L a cd)) Q E { s' with heap := h' })
    (hk : scope.kind = .function := by rfl) (hx : (envOf name scope L a cd).kindOf x = some .globalImplicit := by rfl) (hd : (x == ("__debug__" : Str)) = false := by decide)
    (hE : PassesOwnAt (model prog w) ((A₀.deeper (envOf name scope L a cd)).mark (some (.ref e))) (A₀.deeper (envOf name scope L a cd)) (envOf name scope L a cd) E := by passes_own) :
    wpAny (model prog w) (A₀.deeper (envOf name scope L a cd)) (handleBy (.ref e) (envOf name scope L a cd) (.ExceptHandler (some (.Name x np)) none (b₀ :: suite) pos :: rest)) Q E s' := by
  obtain ⟨g', oe, ws, T', F', K', N', hc, hdt⟩ := ground5 R F K hsm
  have X' : KF.In g' := XB.keeps K'.stays
  refine wpAny_handleBy_cons (codeAny_handlers_test (name_K F' X' (topRead_of (TB.keeps K'.stays)) ex ?_ hk hx hd)) (by intro q; cases q)
  refine hmatch (X'.keeps F'.keep) (N' _ (.head _)).1 hc (codeAny_handlers_suite ?_)
  obtain ⟨B, a0, hB, hBG, hl, hfl⟩ := R
  refine lands_againW hfl fun h₆ hfl₆ hsm₆ => ?_
  have R₆ : RaisedSN base G (envOf name scope L a cd :: outer) e (.ref C) news h₆ := ⟨B, a0, hB, hBG, hl, hfl₆⟩
  obtain ⟨g₆, oe₆, ws₆, T₆, F₆, K₆, N₆, _, _⟩ := ground5 R₆ F K (hsm.trans hsm₆)
  exact wpAny_passesOwnAt hE (k h₆ g₆ (T0.trans T₆) F₆ (fun p hp => N₆ p (.tail _ hp)) K₆ (XB.keeps K₆.stays) (TB.keeps K₆.stays) (D.turn T₆))
/-- a clause that matches and binds the exception, whose dict is known -/
theorem hit_as (R : RaisedD base G (envOf name scope L a cd :: outer) e C de news s'.heap) (F : Fr g L G m) (K : Below A₀ base outer g) (hsm : G.UpToSlots s'.heap) (XB : KF.In base) (TB : Top p loose mean mg mb base)
    (D : KtsDicts (outer.filterMap (·.frame)) g) (T0 : KtsTurn (outer.filterMap (·.frame)) g₀ g)
    (ex : nsIn KF mainGlobals x = some (some (.ref C)))
    (hmatch : ∀ {Q' : Bool → Shared → Prop} {E' : Value → Shared → Prop} {A' : Around} {oe : Obj}, KF.In s'.heap → s'.heap.get? e = some oe → oe.cls = .ref C → Q' true s' → wpAny (model prog w) A' (excMatches (.ref e) (.ref C)) Q' E' s')
    (k : ∀ h' g' oe ws tk, KtsTurn (outer.filterMap (·.frame)) g₀ g' → Fr g' L h' (fun y => if y = n then some (.ref e) else m y) → News g' L h' ((e, oe) :: news) → oe.cls = .ref C → oe.data = .fields ws → oe.dict = some de → Below A₀ base outer g' → KF.In g' → Top p loose mean mg mb g' → KtsDicts (outer.filterMap (·.frame)) g' →
      wpAny (model prog w) ((A₀.deeper (envOf name scope L a cd)).mark (some (.ref e))) (execs (b₀ :: suite) (envOf name scope L a cd))
        (fun f s₄ => wpAny (model prog w) (A₀.deeper (envOf name scope L a cd)) (do bindName (envOf name scope L a cd) n .none; unbindBehindTheSuite (envOf name scope L a cd) n pos) (fun _ s₅ => Q f s₅) E s₄)
        (AsSuiteRaised (model prog w) ((A₀.deeper (envOf name scope L a cd)).mark (some (.ref e))) (envOf name scope L a cd) n pos (notedBy (model prog w) ((A₀.deeper (envOf name scope L a cd)).mark (some (.ref e))) (envOf name scope L a cd) (cameBackBy (model prog w) (A₀.deeper (envOf name scope L a cd)) (envOf name scope L a cd) E)))
        { s' with heap := h', toks := tk })
    (hk : scope.kind = .function := by rfl) (hlo : (envOf name scope L a cd).kindOf n = some .local := by rfl) (hx : (envOf name scope L a cd).kindOf x = some .globalImplicit := by rfl) (hd : (x == ("__debug__" : Str)) = false := by decide) :
    wpAny (model prog w) (A₀.deeper (envOf name scope L a cd)) (handleBy (.ref e) (envOf name scope L a cd) (.ExceptHandler (some (.Name x np)) (some n) (b₀ :: suite) pos :: rest)) Q E s' := by
  obtain ⟨g', oe, ws, T', F', K', N', hc, hdt⟩ := ground5 R.R F K hsm
  have X' : KF.In g' := XB.keeps K'.stays
  refine wpAny_handleBy_cons (codeAny_handlers_test (name_K F' X' (topRead_of (TB.keeps K'.stays)) ex ?_ hk hx hd)) (by intro q; cases q)
  refine hmatch (X'.keeps F'.keep) (N' _ (.head _)).1 hc (codeAny_handlers_suite_as ?_)
  obtain ⟨⟨B, a0, hB, hBG, hl, hfl⟩, hD⟩ := R
  refine wpAny_tameQ tame_setFlight (lands_againW (Q := fun _ s'' => ∃ h', s'' = { s' with heap := h' } ∧ Heap.FlyingW _ _ e (.ref C) a0 h' ∧ s'.heap.UpToSlots h') hfl fun h₆ x1 x2 => ⟨h₆, rfl, x1, x2⟩) ?_
  rintro _ s'' ⟨h₆, rfl, hfl₆, hsm₆⟩ dk
  have R₆ : RaisedSN base G (envOf name scope L a cd :: outer) e (.ref C) news h₆ := ⟨B, a0, hB, hBG, hl, hfl₆⟩
  obtain ⟨g₆, oe₆, ws₆, T₆, F₆, K₆, N₆, hc₆, hd₆⟩ := ground5 R₆ F K (hsm.trans hsm₆)
  have hdict : oe₆.dict = some de := by
    obtain ⟨o, ho, hod⟩ := hD.dk dk
    have := (N₆ _ (.head _)).1
    have e' : some oe₆ = some o := this.symm.trans ho
    cases e'
    exact hod
  refine stN (s := { s' with heap := h₆ }) F₆ N₆ (fun h₇ F₇ N₇ => ?_) hk hlo
  exact k h₇ g₆ _ _ _ (T0.trans T₆) F₇ N₇ hc₆ hd₆ hdict K₆ (XB.keeps K₆.stays) (TB.keeps K₆.stays) (D.turn T₆)
end

-- 47_excmake
theorem part47 : True := by
  w_top off
  trivial
theorem ns_some_of {K : Frag} {h : Heap} {N : Addr} {mg : Str → Option Value} {n : Str} {v : Value} (X : K.In h) (G : h.Ns N mg) (e : nsIn K N n = some (some v)) : mg n = some v := by
  obtain ⟨o, es, ep, ho, hd, _, hf⟩ := G
  unfold nsIn at e
  split at e
  · rename_i c d es' n' sl q
    have := X _ _ q
    rw [ho] at this
    cases this
    cases hd
    split at e
    · rename_i en he
      cases e
      rw [← hf]
      unfold nsFind findBy
      rw [← Array.find?_toList, he]
      rfl
    · split at e <;> cases e
  · cases e
section
variable {w : World} {h : Heap}
theorem fat_lk (w : World) : ∃ nm qn bs hdct sn sub ab col dd k0 k1 k2 k3 k5, (hd.heap_39 w.params).lookup 41 = some (excClassObj nm qn 41 40 bs excTail hdct sn sub ab col dd k0 k1 k2 k3 k5 "Exception.__new__") :=
  ⟨_, _, _, _, _, _, _, _, _, _, _, _, _, _, by k_is⟩
theorem naf_lk (w : World) : ∃ nm qn bs hdct sn sub ab col dd k0 k1 k2 k3 k5, (hd.heap_39 w.params).lookup 63 = some (excClassObj nm qn 63 62 bs excTail hdct sn sub ab col dd k0 k1 k2 k3 k5 "Exception.__new__") :=
  ⟨_, _, _, _, _, _, _, _, _, _, _, _, _, _, by k_is⟩
theorem fat_ns (X : (hd.heap_39 w.params).In h) : ∃ mN, h.Ns 40 mN ∧ mN "__init__" = some (.ref 38) := by
  have hN : h.Ns 40 (h.nsMap 40) := .of_isNs (by unfold Heap.isNs; rw [X 40 _ (by k_is)]; simp)
  exact ⟨_, hN, ns_some_of X hN (by k_is)⟩
theorem naf_ns (X : (hd.heap_39 w.params).In h) : ∃ mN, h.Ns 62 mN ∧ mN "__init__" = some (.ref 60) := by
  have hN : h.Ns 62 (h.nsMap 62) := .of_isNs (by unfold Heap.isNs; rw [X 62 _ (by k_is)]; simp)
  exact ⟨_, hN, ns_some_of X hN (by k_is)⟩
theorem fat_fn (X : (hd.heap_39 w.params).In h) : ∃ o, h.get? 38 = some o ∧ o.cls = .type "function" := ⟨_, X _ _ (by k_is), rfl⟩
theorem naf_fn (X : (hd.heap_39 w.params).In h) : ∃ o, h.get? 60 = some o ∧ o.cls = .type "function" := ⟨_, X _ _ (by k_is), rfl⟩
end
/-- an exception of our own was made and is to be raised -/
def OwnMade (w : World) (C : Addr) (E : Value → Shared → Prop) (v : Value) (s₁ : Shared) : Prop :=
  ∃ e de t, v = .ref e ∧ (hd.heap_39 w.params).In s₁.heap ∧ s₁.heap.get? e = some (excO C (some de) t) ∧ E (.ref e) s₁
section
variable {w : World} {A : Around} {E : Value → Shared → Prop} {s : Shared} {env : Env} {x : Expr} {pos : Pos} {Q : Flow → Shared → Prop}
theorem Raise_fat (hh : A.handled = none) (h : wpAny (model PR w) A (eval x env) (OwnMade w 41 E) E s) : wpAny (model PR w) A (exec (.Raise (some x) none pos) env) Q E s := by
  obtain ⟨nm, qn, bs, hdct, sn, sub, ab, col, dd, k0, k1, k2, k3, k5, hl⟩ := fat_lk w
  rw [arm_exec_Raise]
  refine wpAny_bind (wpAny_standAt ?_)
  show wpAny _ _ (raiseStmt env (some (do let v ← eval x env; standAt pos; pure v)) none) _ _ _
  refine raiseStmt_own (C := 41) (N := 40) (nm := nm) (q := qn) (bs := bs) (bm := excTail) (hdct := hdct) (sn := sn) (sub := sub) (ab := ab) (col := col) (dd := dd) (k0 := k0) (k1 := k1) (k2 := k2) (k3 := k3) (k5 := k5) (newId := "Exception.__new__") rfl hh ?_
  refine wpAny_bind (wpAny_mono h (fun v s₁ h₁ => ?_) fun _ _ x => x)
  obtain ⟨e, de, t, rfl, X, he, hE⟩ := h₁
  exact wpAny_bind (wpAny_standAt (wpAny_pure ⟨e, de, t, rfl, X _ _ hl, he, hE⟩))
theorem Raise_naf (hh : A.handled = none) (h : wpAny (model PR w) A (eval x env) (OwnMade w 63 E) E s) : wpAny (model PR w) A (exec (.Raise (some x) none pos) env) Q E s := by
  obtain ⟨nm, qn, bs, hdct, sn, sub, ab, col, dd, k0, k1, k2, k3, k5, hl⟩ := naf_lk w
  rw [arm_exec_Raise]
  refine wpAny_bind (wpAny_standAt ?_)
  show wpAny _ _ (raiseStmt env (some (do let v ← eval x env; standAt pos; pure v)) none) _ _ _
  refine raiseStmt_own (C := 63) (N := 62) (nm := nm) (q := qn) (bs := bs) (bm := excTail) (hdct := hdct) (sn := sn) (sub := sub) (ab := ab) (col := col) (dd := dd) (k0 := k0) (k1 := k1) (k2 := k2) (k3 := k3) (k5 := k5) (newId := "Exception.__new__") rfl hh ?_
  refine wpAny_bind (wpAny_mono h (fun v s₁ h₁ => ?_) fun _ _ x => x)
  obtain ⟨e, de, t, rfl, X, he, hE⟩ := h₁
  exact wpAny_bind (wpAny_standAt (wpAny_pure ⟨e, de, t, rfl, X _ _ hl, he, hE⟩))
end
section
variable {w : World} {mean : ExcName → Option Value} {mg mb : Str → Option Value} {dp un : Nat} {env : Env} {outer : List Env} {A₀ : Around} {base h₀ : Heap} {L : Addr} {m : Str → Option Value} {s : Shared} {Q E : Value → Shared → Prop}
theorem made_news {h h' : Heap} {e C : Addr} {news : List (Addr × Obj)} {rest : List Value} (F : Fr h₀ L h m) (N : News h₀ L h news) (M : Heap.MadeExcOf h h' e (.ref C) rest) :
    ∃ t, Fr h₀ L h' m ∧ News h₀ L h' ((e, excO C none t) :: news) ∧ ∀ p ∈ news, p.1 ≠ e := by
  obtain ⟨t, he, _, _⟩ := M.there
  have F' := F.keeps M.keeps
  have hn : h₀.get? e = none := by
    cases q : h₀.get? e with
    | none => rfl
    | some o => have := F.keep _ _ q; rw [M.new] at this; cases this
  refine ⟨t, F', News.more F' (N.grown M.keeps) he (fun es n q => by cases q) hn, fun p hp q => ?_⟩
  have := (N p hp).1
  rw [q, M.new] at this; cases this
theorem fat_make {msg : Str} {tm : Tok} {v : Value} {news : List (Addr × Obj)}
  (C : Cx w mean mg mb 2 dp un env outer A₀ base h₀ L) (F : Fr h₀ L s.heap m) (N : News h₀ L s.heap news)
  (ret : ∀ e t D th h' tk', Fr h₀ L h' m → News h₀ L h' ((e, excO 41 (some D) t) :: (D, dictOf [⟨PyData.keyHash w.params "errno", .str "errno" th, v⟩] 1) :: news) → (∀ p ∈ news, p.1 ≠ e) → Q (.ref e) {s with heap := h', toks := tk'}) :
  wpAny (model PR w) (Ar dp un env outer) (call (.ref 41) [.str msg tm] [("errno", v)]) Q E s := by
  obtain ⟨B, X, T, hf, hke, hd, hu⟩ := C
  have Xs := X.keeps F.keep
  obtain ⟨nm, qn, bs, hdct, sn, sub, ab, col, dd, k0, k1, k2, k3, k5, hl⟩ := fat_lk w
  obtain ⟨mN, hN, hi⟩ := fat_ns Xs
  obtain ⟨oI, hfI, hfc⟩ := fat_fn Xs
  obtain ⟨hp, g, d, t, os⟩ := s
  refine call_exc PySem.F.excBase_Exception (Xs _ _ hl) hN hi hfI hfc (fun h' e M => ?_) (by rw [sizeLine_eq]; exact Nat.le_of_ble_eq_true rfl)
  obtain ⟨t0, F', N', hne⟩ := made_news F N M
  refine fat_init (B) X T rfl hf hke ?_ (s := ⟨h', _, _, _, _⟩) F' N' hne ?_
  · rw [depth_under_kw]; show dp + _ < 900; omega
  intro t D th h2 tk2 F2 N2 l2
  exact ⟨rfl, ret _ _ _ _ _ _ F2 N2 hne⟩
theorem fat_make0 {msg : Str} {tm : Tok} {news : List (Addr × Obj)}
  (C : Cx w mean mg mb 2 dp un env outer A₀ base h₀ L) (F : Fr h₀ L s.heap m) (N : News h₀ L s.heap news)
  (ret : ∀ e t D th h' tk', Fr h₀ L h' m → News h₀ L h' ((e, excO 41 (some D) t) :: (D, dictOf [⟨PyData.keyHash w.params "errno", .str "errno" th, .none⟩] 1) :: news) → (∀ p ∈ news, p.1 ≠ e) → Q (.ref e) {s with heap := h', toks := tk'}) :
  wpAny (model PR w) (Ar dp un env outer) (call (.ref 41) [.str msg tm]) Q E s := by
  obtain ⟨B, X, T, hf, hke, hd, hu⟩ := C
  have Xs := X.keeps F.keep
  obtain ⟨nm, qn, bs, hdct, sn, sub, ab, col, dd, k0, k1, k2, k3, k5, hl⟩ := fat_lk w
  obtain ⟨mN, hN, hi⟩ := fat_ns Xs
  obtain ⟨oI, hfI, hfc⟩ := fat_fn Xs
  obtain ⟨hp, g, d, t, os⟩ := s
  refine call_exc PySem.F.excBase_Exception (Xs _ _ hl) hN hi hfI hfc (fun h' e M => ?_) (by rw [sizeLine_eq]; exact Nat.le_of_ble_eq_true rfl)
  obtain ⟨t0, F', N', hne⟩ := made_news F N M
  refine fat_init0 (B) X T rfl hf hke ?_ (s := ⟨h', _, _, _, _⟩) F' N' hne ?_
  · rw [depth_under_kw]; show dp + _ < 900; omega
  intro t D th h2 tk2 F2 N2 l2
  exact ⟨rfl, ret _ _ _ _ _ _ F2 N2 hne⟩
theorem naf_make {msg : Str} {tm : Tok} {v : Value} {news : List (Addr × Obj)}
  (C : Cx w mean mg mb 2 dp un env outer A₀ base h₀ L) (F : Fr h₀ L s.heap m) (N : News h₀ L s.heap news)
  (ret : ∀ e t D th h' tk', Fr h₀ L h' m → News h₀ L h' ((e, excO 63 (some D) t) :: (D, dictOf [⟨PyData.keyHash w.params "free_type", .str "free_type" th, v⟩] 1) :: news) → (∀ p ∈ news, p.1 ≠ e) → Q (.ref e) {s with heap := h', toks := tk'}) :
  wpAny (model PR w) (Ar dp un env outer) (call (.ref 63) [.str msg tm] [("free_type", v)]) Q E s := by
  obtain ⟨B, X, T, hf, hke, hd, hu⟩ := C
  have Xs := X.keeps F.keep
  obtain ⟨nm, qn, bs, hdct, sn, sub, ab, col, dd, k0, k1, k2, k3, k5, hl⟩ := naf_lk w
  obtain ⟨mN, hN, hi⟩ := naf_ns Xs
  obtain ⟨oI, hfI, hfc⟩ := naf_fn Xs
  obtain ⟨hp, g, d, t, os⟩ := s
  refine call_exc PySem.F.excBase_Exception (Xs _ _ hl) hN hi hfI hfc (fun h' e M => ?_) (by rw [sizeLine_eq]; exact Nat.le_of_ble_eq_true rfl)
  obtain ⟨t0, F', N', hne⟩ := made_news F N M
  refine naf_init (B) X T rfl hf hke ?_ (s := ⟨h', _, _, _, _⟩) F' N' hne ?_
  · rw [depth_under_kw]; show dp + _ < 900; omega
  intro t D th h2 tk2 F2 N2 l2
  exact ⟨rfl, ret _ _ _ _ _ _ F2 N2 hne⟩
end

-- 48_raise8
theorem part48 : True := by
  w_top off
  trivial
theorem leave_ownN {M : Model} {A : Around} {E : Value → Shared → Prop} {s' : Shared} {base g : Heap} {outer : List Env} {L a e C D t : Addr} {es : List DictEntry} {n : Nat} {m : Str → Option Value} {name : Str} {scope : Scope} {cd : Value} {Q : Unit → Shared → Prop} {news : List (Addr × Obj)}
    (K : Below A base outer g) (F : Fr g L s'.heap m) (N : News g L s'.heap ((e, excO C (some D) t) :: (D, dictOf es n) :: news)) (hne : ∀ p ∈ news, p.1 ≠ e)
    (hQ : ∀ h', RaisedD base g outer e C D ((D, dictOf es n) :: news) h' → g.UpToSlots h' → Q () { s' with heap := h' }) (hk : scope.kind = .function) :
    wpAny M (A.deeper (envOf name scope L a cd)) (leaving (envOf name scope L a cd) (.ref e)) Q E s' := by
  have h1 := (N _ (.head _)).1
  have h2 := (N _ (.tail _ (.head _))).1
  refine leave_ownD K F N (.head _) (fun p hp => .tail _ hp) (fun p hp => ?_) hQ hk
  rcases List.mem_cons.mp hp with rfl | hp
  · intro z
    dsimp only at z h1 h2
    rw [z, h1] at h2
    cases h2
  · exact hne p hp
theorem ownMade {w : World} {C : Addr} {E : Value → Shared → Prop} {s : Shared} {g : Heap} {L e D t : Addr} {m : Str → Option Value} {news : List (Addr × Obj)} (N : News g L s.heap ((e, excO C (some D) t) :: news)) (F : Fr g L s.heap m) (X : (hd.heap_39 w.params).In g) (h : E (.ref e) s) : OwnMade w C E (.ref e) s :=
  ⟨e, D, t, rfl, X.keeps F.keep, (N _ (.head _)).1, h⟩
local macro_rules | `(tactic| walk_at "leaving ref") => `(tactic| (k_here; k_dflt (first | (refine' leave_ownN ?K ?F ?N ?ne ?_ ?hk; (case N => assumption); (case F => assumption); (case K => assumption); (case ne => assumption); (case hk => rfl)) | (refine' leave_onD ?K ?F ?R ?U ?_; (case R => assumption); (case F => assumption); (case K => assumption); (case U => assumption))); k_whole; intro h' R' U'; (try dsimp only at R' U' ⊢)))
local macro_rules | `(tactic| walk_at "my_own") => `(tactic| (refine' ownMade ?N ?F ?X ?_; (case N => assumption); (case F => assumption); (case X => k_asm); k_whole))
theorem lit_a : (Str.ofString "Given directory name ").cps.size = 21 := by decide +kernel
theorem lit_b : (Str.ofString " is not conform to 8.3 file naming convention.").cps.size = 46 := by decide +kernel
theorem lit_e : Str.empty.cps.size = 0 := by decide +kernel
local macro_rules | `(tactic| walk_at "And") => `(tactic| (k_here; k_dflt (refine And.intro (?a : _ ≤ sizeLine) ?_; (case a => (rw [sizeLine_eq]; show (PySem.Str.cps _).size ≤ _; simp only [sz_app, lit_a, lit_b, lit_e]; omega)))))
local macro_rules | `(tactic| walk_at "joinParts") => `(tactic| (k_here; (first | (with_reducible show wpAny _ _ (joinParts _ []) _ _ _) | (with_reducible show wpAny _ _ (joinParts _ (evalEach [] _)) _ _ _)); k_dflt (refine joinParts_nil ?_ ?b; (case b => (rw [sizeLine_eq]; show (PySem.Str.cps _).size ≤ _; simp only [sz_app, lit_a, lit_b, lit_e]; omega)))))
theorem words48a : True := by
  (k_with "exec Raise some none" => (k_here; first | ((with_reducible show wpAny _ _ (exec (Stmt.Raise (some (Expr.Call (Expr.Name ("PyFATException" : Str) _) _ _ _)) none _) _) _ _ _); refine Raise_fat rfl ?_) | ((with_reducible show wpAny _ _ (exec (Stmt.Raise (some (Expr.Call (Expr.Name ("NotAFatEntryException" : Str) _) _ _ _)) none _) _) _ _ _); refine Raise_naf rfl ?_)))
  (k_with "call ref" => (k_here; (with_reducible show wpAny _ _ (call (Value.ref 41) _ _) (OwnMade _ _ _) _ _); k_dflt (first | (refine fat_make (by walk_at "my_cx") (by k_asm) (by k_asm) ?_) | (refine fat_make0 (by walk_at "my_cx") (by k_asm) (by k_asm) ?_)); k_whole; intro _ _ _ _ _ _ _ _ _))
  (k_with "call ref" => (k_here; (with_reducible show wpAny _ _ (call (Value.ref 63) _ _) (OwnMade _ _ _) _ _); k_dflt (refine naf_make (by walk_at "my_cx") (by k_asm) (by k_asm) ?_); k_whole; intro _ _ _ _ _ _ _ _ _))
  trivial
section
variable {w : World} {mean : ExcName → Option Value} {mg mb : Str → Option Value} {dp un : Nat} {cn : Str} {cs : Scope} {ca : Addr} {ccd : Value} {outer : List Env} {A₀ : Around} {base g₀ h₀ : Heap} {L : Addr} {m : Str → Option Value} {s : Shared} {Q E : Value → Shared → Prop}
theorem raise8_spec {x : Str} {t1 : Tok} {news : List (Addr × Obj)}
  (CS : Cs w mean mg mb 3 dp un cn cs ca ccd outer A₀ base g₀ h₀ L) (F : Fr h₀ L s.heap m)
  (N : News h₀ L s.heap news) (hx : x.cps.size ≤ 19)
  (raise : ∀ e de th ti g h' tk', Fr h₀ L g m → RaisedD base g (envOf cn cs L ca ccd :: outer) e 41 de ((de, dictOf [⟨PyData.keyHash w.params "errno", .str "errno" th, .int 22 ti⟩] 1) :: news) h' → g.UpToSlots h' → E (.ref e) {s with heap := h', toks := tk'}) :
  wpAny (model PR w) (Ar dp un (envOf cn cs L ca ccd) outer) (call (.ref 148) [.str x t1]) Q E s := by
  obtain ⟨⟨B, X, T, hf, hke, hd, hu⟩, XB, TB, D, T0⟩ := CS
  replace hke : cs.kind = .function := hke
  unfold PR
  refine wpAny_call ?_
  k_dflt walk_at "my_enterS"
  intro g' L' h' FG' F' N' B' X' T' D'
  replace F' : Fr g' L' h' (lk [("name", .str x t1)]) := F'
  show wpAny _ _ (execs _ _) _ _ _
  k_fold
  k_steps
  walk_at "my_own"
  k_steps
  exact raise _ _ _ _ _ _ _ FG' (by assumption) (by assumption)
theorem initno_spec {I d : Addr} {t1 t2 t3 ty : Tok} {y0 : Str} {nv : Value} {news : List (Addr × Obj)}
  (CS : Cs w mean mg mb 3 dp un cn cs ca ccd outer A₀ base g₀ h₀ L) (F : Fr h₀ L s.heap m)
  (N : News h₀ L s.heap news) (hI : (I, instObj 223 d) ∈ news) (hdd : (d, eightD w t1 t2 t3 nv y0 ty false) ∈ news)
  (raise : ∀ e de g h' tk', Fr h₀ L g m → RaisedD base g (envOf cn cs L ca ccd :: outer) e 41 de news h' → g.UpToSlots h' → E (.ref e) {s with heap := h', toks := tk'}) :
  wpAny (model PR w) (Ar dp un (envOf cn cs L ca ccd) outer) (call (.ref 104) [.ref I]) Q E s := by
  obtain ⟨⟨B, X, T, hf, hke, hd, hu⟩, XB, TB, D, T0⟩ := CS
  replace hke : cs.kind = .function := hke
  unfold PR
  refine wpAny_call ?_
  k_dflt walk_at "my_enterS"
  intro g' L' h' FG' F' N' B' X' T' D'
  replace F' : Fr g' L' h' (lk [("one", .ref I)]) := F'
  replace N' : News g' L' h' ((I, instObj 223 d) :: (d, eightD w t1 t2 t3 nv y0 ty false) :: news) := inN (inN N' hdd) (.tail _ hI)
  show wpAny _ _ (execs _ _) _ _ _
  k_fold
  k_steps
  walk_at "my_own"
  k_steps
  rename_i R3 U3
  exact raise _ _ _ _ _ FG' (rd_sub R3 fun p hp => .tail _ (.tail _ (.tail _ hp))) U3
end

-- 49_unset
theorem part49 : True := by
  w_top off
  trivial
theorem words49a : True := by
  (k_with "call ref" => (k_here; (with_reducible show wpAny _ _ (call (Value.ref 104) _ _) _ _ _); refine Stop.out ?_))
  trivial
section
variable {w : World} {mean : ExcName → Option Value} {mg mb : Str → Option Value} {dp un : Nat} {cn : Str} {cs : Scope} {ca : Addr} {ccd : Value} {outer : List Env} {A₀ : Around} {base g₀ h₀ : Heap} {L : Addr} {m : Str → Option Value} {s : Shared} {Q E : Value → Shared → Prop}
theorem unpno_spec {I d : Addr} {t1 t2 t3 ty : Tok} {y0 : Str} {nv : Value} {news : List (Addr × Obj)}
  (CS : Cs w mean mg mb 4 dp un cn cs ca ccd outer A₀ base g₀ h₀ L) (F : Fr h₀ L s.heap m)
  (N : News h₀ L s.heap news) (hI : (I, instObj 223 d) ∈ news) (hdd : (d, eightD w t1 t2 t3 nv y0 ty false) ∈ news)
  (raise : ∀ e de g h' tk', Fr h₀ L g m → RaisedD base g (envOf cn cs L ca ccd :: outer) e 41 de news h' → g.UpToSlots h' → E (.ref e) {s with heap := h', toks := tk'}) :
  wpAny (model PR w) (Ar dp un (envOf cn cs L ca ccd) outer) (call (.ref 141) [.ref I]) Q E s := by
  obtain ⟨⟨B, X, T, hf, hke, hd, hu⟩, XB, TB, D, T0⟩ := CS
  replace hke : cs.kind = .function := hke
  unfold PR
  refine wpAny_call ?_
  k_dflt walk_at "my_enterS"
  intro g' L' h' FG' F' N' B' X' T' D'
  replace F' : Fr g' L' h' (lk [("self", .ref I)]) := F'
  replace N' : News g' L' h' ((I, instObj 223 d) :: (d, eightD w t1 t2 t3 nv y0 ty false) :: news) := inN (inN N' hdd) (.tail _ hI)
  show wpAny _ _ (execs _ _) _ _ _
  k_fold
  k_steps
  refine ⟨?_⟩
  refine initno_spec (by walk_at "my_cs") (by k_asm) (by k_asm) (.head _) (.tail _ (.head _)) ?_
  intro e de g h2 tk2 F2 R2 U2
  k_steps
  rename_i R3 U3
  exact raise _ _ _ _ _ FG' (rd_sub R3 fun p hp => .tail _ (.tail _ hp)) U3
theorem cksno_spec {I d : Addr} {t1 t2 t3 ty : Tok} {y0 : Str} {nv : Value} {news : List (Addr × Obj)}
  (CS : Cs w mean mg mb 4 dp un cn cs ca ccd outer A₀ base g₀ h₀ L) (F : Fr h₀ L s.heap m)
  (N : News h₀ L s.heap news) (hI : (I, instObj 223 d) ∈ news) (hdd : (d, eightD w t1 t2 t3 nv y0 ty false) ∈ news)
  (raise : ∀ e de g h' tk', Fr h₀ L g m → RaisedD base g (envOf cn cs L ca ccd :: outer) e 41 de news h' → g.UpToSlots h' → E (.ref e) {s with heap := h', toks := tk'}) :
  wpAny (model PR w) (Ar dp un (envOf cn cs L ca ccd) outer) (call (.ref 179) [.ref I]) Q E s := by
  obtain ⟨⟨B, X, T, hf, hke, hd, hu⟩, XB, TB, D, T0⟩ := CS
  replace hke : cs.kind = .function := hke
  unfold PR
  refine wpAny_call ?_
  k_dflt walk_at "my_enterS"
  intro g' L' h' FG' F' N' B' X' T' D'
  replace F' : Fr g' L' h' (lk [("self", .ref I)]) := F'
  replace N' : News g' L' h' ((I, instObj 223 d) :: (d, eightD w t1 t2 t3 nv y0 ty false) :: news) := inN (inN N' hdd) (.tail _ hI)
  show wpAny _ _ (execs _ _) _ _ _
  k_fold
  k_steps
  refine ⟨?_⟩
  refine initno_spec (by walk_at "my_cs") (by k_asm) (by k_asm) (.head _) (.tail _ (.head _)) ?_
  intro e de g h2 tk2 F2 R2 U2
  k_steps
  rename_i R3 U3
  exact raise _ _ _ _ _ FG' (rd_sub R3 fun p hp => .tail _ (.tail _ hp)) U3
end

-- 50_bald
theorem part50 : True := by
  w_top off
  trivial
theorem landedD {M : Model} {A : Around} {E : Value → Shared → Prop} {s' : Shared} {base g g₂ : Heap} {outer : List Env} {L a e C de : Addr} {name : Str} {scope : Scope} {cd : Value} {news : List (Addr × Obj)} {P : Shared → Prop}
    (R : RaisedD base g₂ (envOf name scope L a cd :: outer) e C de news s'.heap) (K : Below A base outer g) (hsm : g₂.UpToSlots s'.heap)
    (hP : ∀ h', RaisedD base g₂ (envOf name scope L a cd :: outer) e C de news h' → g₂.UpToSlots h' → P { s' with heap := h' }) :
    wpAny M (A.deeper (envOf name scope L a cd)) (noteFrame (.ref e) (envOf name scope L a cd))
      (fun _ s₂ => wpAny M (A.deeper (envOf name scope L a cd)) (setFlight (.ref e) none) (fun _ s₃ => P s₃) E s₂) E s' :=
  landed R.R K hsm fun h' r u dk => hP h' ⟨r, R.H.dk dk⟩ u
section
variable {w : World} {prog : Program} {A' : Around} {E' : Value → Shared → Prop} {Q' : Bool → Shared → Prop} {s' : Shared} {e : Addr} {oe : Obj}
theorem m_fat_fat (X : (hd.heap_39 w.params).In s'.heap) (he : s'.heap.get? e = some oe) (hc : oe.cls = .ref 41) (h : Q' true s') : wpAny (model prog w) A' (excMatches (.ref e) (.ref 41)) Q' E' s' := by
  obtain ⟨nm, qn, bs, hdct, sn, sub, ab, col, dd, k0, k1, k2, k3, k5, hl⟩ := fat_lk w
  exact wpAny_excMatches_sub_self (h := s'.heap) (X _ _ hl) he hc rfl h
theorem m_naf_naf (X : (hd.heap_39 w.params).In s'.heap) (he : s'.heap.get? e = some oe) (hc : oe.cls = .ref 63) (h : Q' true s') : wpAny (model prog w) A' (excMatches (.ref e) (.ref 63)) Q' E' s' := by
  obtain ⟨nm, qn, bs, hdct, sn, sub, ab, col, dd, k0, k1, k2, k3, k5, hl⟩ := naf_lk w
  exact wpAny_excMatches_sub_self (h := s'.heap) (X _ _ hl) he hc rfl h
theorem m_naf_fat (X : (hd.heap_39 w.params).In s'.heap) (he : s'.heap.get? e = some oe) (hc : oe.cls = .ref 63) (h : Q' false s') : wpAny (model prog w) A' (excMatches (.ref e) (.ref 41)) Q' E' s' := by
  obtain ⟨nm, qn, bs, hdct, sn, sub, ab, col, dd, k0, k1, k2, k3, k5, hl⟩ := fat_lk w
  obtain ⟨nm2, qn2, bs2, hdct2, sn2, sub2, ab2, col2, dd2, r0, r1, r2, r3, r5, hl2⟩ := naf_lk w
  exact em_own_own (h := s'.heap) (X _ _ hl) rfl (X _ _ hl2) (by decide) he hc h
theorem m_type_fat {T : String} (hs : isSubtype (.type T) (.ref 41) = pure false) (X : (hd.heap_39 w.params).In s'.heap) (he : s'.heap.get? e = some oe) (hc : oe.cls = .type T) (h : Q' false s') : wpAny (model prog w) A' (excMatches (.ref e) (.ref 41)) Q' E' s' := by
  obtain ⟨nm, qn, bs, hdct, sn, sub, ab, col, dd, k0, k1, k2, k3, k5, hl⟩ := fat_lk w
  exact em_type_own (h := s'.heap) (X _ _ hl) rfl he hc hs h
theorem m_type_naf {T : String} (hs : isSubtype (.type T) (.ref 63) = pure false) (X : (hd.heap_39 w.params).In s'.heap) (he : s'.heap.get? e = some oe) (hc : oe.cls = .type T) (h : Q' false s') : wpAny (model prog w) A' (excMatches (.ref e) (.ref 63)) Q' E' s' := by
  obtain ⟨nm, qn, bs, hdct, sn, sub, ab, col, dd, k0, k1, k2, k3, k5, hl⟩ := naf_lk w
  exact em_type_own (h := s'.heap) (X _ _ hl) rfl he hc hs h
end
theorem words50a : True := by
  (k_with "call ref" => (k_here; (first | (with_reducible show wpAny _ _ (call (Value.ref 141) _ _) _ _ _) | (with_reducible show wpAny _ _ (call (Value.ref 179) _ _) _ _ _)); refine Stop.out ?_))
  (k_with "handleBy ref" => (k_here; refine Stop.out ?_))
  trivial
local macro_rules | `(tactic| walk_at "noteFrame ref") => `(tactic| (k_here; (rename RaisedD _ _ _ _ _ _ _ _ => rkX); k_dflt (refine' landedD ?R ?K ?U ?_; (case R => exact rkX); (case K => assumption); (case U => assumption)); k_whole; intro h' R' U'))
local macro_rules | `(tactic| walk_at "my_hit") => `(tactic| (k_dflt (refine' hit_own ?R ?F ?K ?U ?XB ?TB ?D ?T0 ?ex ?hm ?_ ?hk ?hx ?hd ?hE; (case R => exact RaisedD.R (by assumption)); (case F => assumption); (case K => assumption); (case U => assumption); (case XB => assumption); (case TB => assumption); (case D => assumption); (case T0 => first | assumption | exact KtsTurn.refl); (case ex => k_is); (case hm => exact fun X he hc h => m_fat_fat X he hc h); (case hk => rfl); (case hx => rfl); (case hd => decide); (case hE => passes_own)); k_whole; intro h' g' T' F' N' K' X' P' D'; (try k_lift K'); (try k_sweep)))
section
variable {w : World} {mean : ExcName → Option Value} {mg mb : Str → Option Value} {dp un : Nat} {cn : Str} {cs : Scope} {ca : Addr} {ccd : Value} {outer : List Env} {A₀ : Around} {base g₀ h₀ : Heap} {L : Addr} {m : Str → Option Value} {s : Shared} {Q E : Value → Shared → Prop}
theorem bald_spec {I d : Addr} {t1 t2 t3 ty : Tok} {y0 : Str} {nv : Value} {news : List (Addr × Obj)}
  (CS : Cs w mean mg mb 5 dp un cn cs ca ccd outer A₀ base g₀ h₀ L) (F : Fr h₀ L s.heap m)
  (N : News h₀ L s.heap news) (hI : (I, instObj 223 d) ∈ news) (hdd : (d, eightD w t1 t2 t3 nv y0 ty false) ∈ news)
  (ret : ∀ h₀' h' tk', KtsTurn (outer.filterMap (·.frame)) g₀ h₀' → Fr h₀' L h' m → News h₀' L h' news → Below A₀ base outer h₀' → (hd.heap_39 w.params).In h₀' → Top hd.view_39 LO mean mg mb h₀' → KtsDicts (outer.filterMap (·.frame)) h₀' → Q (.bool true) {s with heap := h', toks := tk'}) :
  wpAny (model PR w) (Ar dp un (envOf cn cs L ca ccd) outer) (call (.ref 305) [.ref I]) Q E s := by
  obtain ⟨⟨B, X, T, hf, hke, hd, hu⟩, XB, TB, D, T0⟩ := CS
  replace hke : cs.kind = .function := hke
  unfold PR
  refine wpAny_call ?_
  k_dflt walk_at "my_enterS"
  intro g' L' h' FG' F' N' B' X' T' D'
  replace F' : Fr g' L' h' (lk [("one", .ref I)]) := F'
  replace N' : News g' L' h' ((I, instObj 223 d) :: (d, eightD w t1 t2 t3 nv y0 ty false) :: news) := inN (inN N' hdd) (.tail _ hI)
  show wpAny _ _ (execs _ _) _ _ _
  k_fold
  k_steps
  refine ⟨?_⟩
  refine unpno_spec (by walk_at "my_cs") (by k_asm) (by k_asm) (.head _) (.tail _ (.head _)) ?_
  intro e de g h2 tk2 F2 R2 U2
  k_steps
  refine ⟨?_⟩
  walk_at "my_hit"
  k_fold
  k_steps
  refine ⟨?_⟩
  refine cksno_spec (by walk_at "my_cs") (by k_asm) (by k_asm) (.head _) (.tail _ (.head _)) ?_
  intro e' de' g3 h3 tk3 F3 R3 U3
  k_steps
  refine ⟨?_⟩
  walk_at "my_hit"
  k_fold
  k_steps
  show Q (.bool true) _
  exact ret _ _ _ (by assumption) (by assumption) (tlN (tlN (by assumption))) (by assumption) (by assumption) (by assumption) (by assumption)
end

-- 51_none
theorem part51 : True := by
  w_top off
  trivial
theorem words51a : True := by
  (k_with "call ref" => (k_here; (with_reducible show wpAny _ _ (call (Value.ref 305) _ _) _ _ _); refine Stop.out ?_))
  trivial
section
variable {w : World} {mean : ExcName → Option Value} {mg mb : Str → Option Value} {dp un : Nat} {cn : Str} {cs : Scope} {ca : Addr} {ccd : Value} {outer : List Env} {A₀ : Around} {base g₀ h₀ : Heap} {L : Addr} {m : Str → Option Value} {s : Shared} {Q E : Value → Shared → Prop}
theorem none_spec {I d : Addr} {t1 t2 t3 ty : Tok} {y0 : Str} {nv : Value} {news : List (Addr × Obj)}
  (CS : Cs w mean mg mb 6 dp un cn cs ca ccd outer A₀ base g₀ h₀ L) (F : Fr h₀ L s.heap m)
  (N : News h₀ L s.heap news) (hI : (I, instObj 223 d) ∈ news) (hdd : (d, eightD w t1 t2 t3 nv y0 ty false) ∈ news)
  (ret : ∀ h₀' h' tk', KtsTurn (outer.filterMap (·.frame)) g₀ h₀' → Fr h₀' L h' m → News h₀' L h' news → Below A₀ base outer h₀' → (hd.heap_39 w.params).In h₀' → Top hd.view_39 LO mean mg mb h₀' → KtsDicts (outer.filterMap (·.frame)) h₀' → Q (.bool true) {s with heap := h', toks := tk'}) :
  wpAny (model PR w) (Ar dp un (envOf cn cs L ca ccd) outer) (call (.ref 312) [.ref I, .none]) Q E s := by
  obtain ⟨⟨B, X, T, hf, hke, hd, hu⟩, XB, TB, D, T0⟩ := CS
  replace hke : cs.kind = .function := hke
  unfold PR
  refine wpAny_call ?_
  k_dflt walk_at "my_enterS"
  intro g' L' h' FG' F' N' B' X' T' D'
  replace F' : Fr g' L' h' (lk [("row", .none), ("one", .ref I)]) := F'
  replace N' : News g' L' h' ((I, instObj 223 d) :: (d, eightD w t1 t2 t3 nv y0 ty false) :: news) := inN (inN N' hdd) (.tail _ hI)
  show wpAny _ _ (execs _ _) _ _ _
  k_fold
  k_steps
  refine ⟨?_⟩
  refine bald_spec (by walk_at "my_cs") (by k_asm) (by k_asm) (.head _) (.tail _ (.head _)) ?_
  intro h2 h3 tk3 T2 F2 N2 B2 X2 P2 D2
  k_steps
  exact ret _ _ _ (by assumption) (by assumption) (tlN (tlN (by assumption))) (by assumption) (by assumption) (by assumption) (by assumption)
end

-- 52_bamake
theorem part52 : True := by
  w_top off
  trivial
-- bytearray(bytes), above a stack without decoders
namespace BM
open Builtin
theorem mro : mroOf (.type "bytearray") = pure [.type "bytearray", .type "object"] := by rw [mroOf_type]; kernel_rfl
theorem look_new : typeLookup (.type "bytearray") "__new__" = pure (some (.builtin "bytearray.__new__")) := by rw [typeLookup_type, builtinLookup_eq_fast]; kernel_rfl
theorem slot_init : Slot "bytearray" "__init__" "bytearray.__init__" :=
  .of (owner := "bytearray") (n := "__init__") (by rw [typeLookup_type, builtinLookup_eq_fast]; kernel_rfl) (by decide +kernel) (by decide +kernel) (by decide +kernel)
    (by first | exact .inl (by decide +kernel) | exact .inr (by decide +kernel)) (by rw [isSubtype_type]; kernel_rfl)
theorem typeCall (a : Value) : checkTypeCall "bytearray" ⟨[a], []⟩ = pure () := by kernel_rfl
theorem newCall (a : Value) : checkBuiltinCall "bytearray.__new__" ⟨[.type "bytearray", a], []⟩ = pure () := by kernel_rfl
theorem entry_new : entryFor table "bytearray.__new__" = some Builtin.«list.__new__» :=
  entryFor_alias (id' := "list.__new__") (by kernel_rfl) (by first | rfl | decide +kernel) (by decide +kernel) (by kernel_rfl)
theorem entry_init : entryFor table "bytearray.__init__" = some Builtin.«bytearray.__init__» := entryFor_of_tree (by kernel_rfl)
theorem plain_new : plainId "bytearray.__new__" = true := by decide +kernel
theorem made : Bind.madeBy (.type "bytearray") = pure (some "bytearray.__new__") := madeBy_type mro look_new (by decide +kernel)
theorem init_args (o a : Value) : argsOk "bytearray.__init__" ⟨[o, a], []⟩ := by unfold argsOk; kernel_rfl
set_option maxRecDepth 1000000 in
theorem owner_new : ("bytearray.__new__".splitOn ".__new__").headD "" = "bytearray" := by simp +decide [String.splitOn, String.splitOnAux]
section
variable {prog : Program} {w : World} {A : Around} {E : Value → Shared → Prop} {s : Shared}
theorem code_new (a : Value) {Q₁ : Value → Shared → Prop} (h : Q₁ (.ref s.heap.objs.size) { s with heap := s.heap.push (BA.O #[]) }) :
    codeAny (model prog w) A (.call (.builtin "bytearray.__new__") ⟨[.type "bytearray", a], []⟩) (wants Q₁ E) s := by
  refine codeAny_of_tree ?_
  show wpAny _ A.in1 (do checkBuiltinCall "bytearray.__new__" ⟨[.type "bytearray", a], []⟩; again (.builtin "bytearray.__new__" ⟨[.type "bytearray", a], []⟩)) _ _ s
  refine wpAny_bind (wpAny_of_eq (newCall a) (wpAny_pure ⟨plainId_quiet plain_new _, codeAny_builtin_stack entry_new rfl fun p st => ?_⟩))
  rw [Around.under_plainId plain_new _]
  have hsub := BA.sub_self
  have hown := owner_new
  obtain ⟨hp, g, d, tk, os⟩ := s
  simp only [hown]
  wp_walk
  exact h
end
theorem codeN_builtin {prog : Program} {w : World} {A : Around} {s : Shared} {id : String} {args : Args} {b : Builtin} {R : Result → Shared → Prop} (hb : entryFor table id = some b)
    (h : wpN (model prog w) (A.under (.builtin id args)) (b args) (fun fin s' => match fin with | .done f => R (.ok f) s' | .again c' => c'.quiet = true ∧ dec c' = false ∧ codeN (model prog w) A c' R s') (fun e s' => R (.error e) s') s) :
    codeN (model prog w) A (.builtin id args) R s := by
  refine codeN.of_tree ?_
  show wpN _ _ (match entryFor table id with | some b => b args | none => unsupported ((withoutEnding? id "#data").getD id)) _ _ s
  rw [hb]
  exact h
theorem held_none {self : Value} {c : Code} {q : Pos} (g : c.isGuard = false) (d : dec c = false) :
    Bytes.exported.match_1 (fun _ => Bool) (c, q) (fun v _ _ _ => Bytes.sameRef v self) (fun v _ _ _ => Bytes.sameRef v self) (fun _ v _ _ _ => Bytes.sameRef v self)
      (fun v _ _ _ => Bytes.sameRef v self) (fun _ _ held _ _ => held.any (Bytes.sameRef self)) (fun id v _ _ _ => Bytes.sameRef v self && Bytes.decodersThatHold.contains id) (fun _ => false) = false := by
  cases c with
  | builtin id args =>
    have no : ∀ y : String, guardIds.contains y = true → id ≠ y := fun y hy e => by
      have g' : guardIds.contains id = false := g
      rw [e, hy] at g'; cases g'
    have d' : Bytes.decodersThatHold.contains id = false := d
    delta Bytes.exported.match_1 Bytes.exported._sparseCasesOn_1
    dsimp only
    rw [dif_neg (no "bytearray.__contains__" (by decide +kernel))]
    rw [dif_neg (no "bytearray.__mod__" (by decide +kernel))]
    rw [dif_neg (no "bytearray.__rmod__" (by decide +kernel))]
    rw [dif_neg (no "_struct.pack_into.held" (by decide +kernel))]
    rw [dif_neg (no "bytearray.find.held" (by decide +kernel))]
    obtain ⟨pos, kw⟩ := args
    cases pos with
    | nil => rfl
    | cons v tail =>
      show (_ && Bytes.decodersThatHold.contains id) = false
      rw [d', Bool.and_false]
  | _ => rfl
theorem wpN_exported {M : Model} {A : Around} {E : Value → Shared → Prop} {s : Shared} {self : Value} {Q : Bool → Shared → Prop} (hA : A.guards = some []) (h : Q false s) : wpN M A (Bytes.exported self) Q E s := by
  intro Γ p hΓ hN
  have hg : ∀ x ∈ (Γ.code, p) :: Γ.below, x.1.isGuard = false := by
    have e := hΓ.2.2.2.1 _ hA
    intro x hx
    cases hq : x.1.isGuard with
    | false => rfl
    | true =>
      have e2 : guardsOf ((Γ.code, p) :: Γ.below) = [] := by rw [guardsOf_cons]; exact e
      have : x.1 ∈ guardsOf ((Γ.code, p) :: Γ.below) := List.mem_filter.mpr ⟨List.mem_map_of_mem hx, hq⟩
      rw [e2] at this; cases this
  have hd : ∀ x ∈ (Γ.code, p) :: Γ.below, dec x.1 = false := fun x hx => by
    rcases List.mem_cons.mp hx with rfl | hx
    · exact hN.1
    · exact hN.2 x hx
  unfold Bytes.exported
  rw [Sem.wp_bind']
  show Q (List.any ((Γ.code, p) :: Γ.below) _) s
  have e : ∀ f : Code × Pos → Bool, (∀ x ∈ (Γ.code, p) :: Γ.below, f x = false) → List.any ((Γ.code, p) :: Γ.below) f = false := fun f hf => by
    rw [List.any_eq_false]
    intro x hx hc
    rw [hf x hx] at hc; cases hc
  rw [e]
  · exact h
  · exact fun x hx => held_none (hg x hx) (hd x hx)
end BM

-- 53_bacall
theorem part53 : True := by
  w_top off
  trivial
namespace BM
open Builtin
theorem init_bind (v : Value) : Bytes.bindOptional "bytearray.__init__" "bytearray" ["source", "encoding", "errors"] [v] [] = pure [some v, none, none] := by kernel_rfl
theorem noIndex : typeLookup (.type "bytes") "__index__" = pure none := by rw [typeLookup_type, builtinLookup_eq_fast]; kernel_rfl
theorem has_buffer : typeLookup (.type "bytes") "__buffer__" = pure (some (.builtin "bytes.__buffer__")) := by rw [typeLookup_type, builtinLookup_eq_fast]; kernel_rfl
theorem no_release : typeLookup (.type "bytes") "__release_buffer__" = pure none := by rw [typeLookup_type, builtinLookup_eq_fast]; kernel_rfl
theorem sub_bytes : isSubtype (.type "bytes") (.type "bytes") = pure true := by rw [isSubtype_type]; kernel_rfl
section
variable {M : Model} {A : Around} {E : Value → Shared → Prop} {s : Shared} {b : Array UInt8} {t : Tok}
theorem own_buffer {Q : Bool → Shared → Prop} (h : Q true s) : wpAny M A (Bytes.slotIsOwn (.bytes b t) "__buffer__") Q E s := by
  have hT : s.TypeIs (.bytes b t) "bytes" := PySem.W.typeIs_bytes _ _ _
  unfold Bytes.slotIsOwn
  refine wpAny_bind (wpAny_specialOf hT has_buffer ?_)
  dsimp only
  refine bm_if_false (by decide +kernel) ?_
  have e : ("bytes.__buffer__" : String).dropRight (("__buffer__" : String).length + 1) = "bytes" := by decide +kernel
  rw [e]
  exact wpAny_isInstance hT sub_bytes h
theorem own_release {Q : Bool → Shared → Prop} (h : Q false s) : wpAny M A (Bytes.ownRelease (.bytes b t)) Q E s := by
  have hT : s.TypeIs (.bytes b t) "bytes" := PySem.W.typeIs_bytes _ _ _
  unfold Bytes.ownRelease Bytes.slotIsOwn
  exact wpAny_bind (wpAny_bind (wpAny_specialOf hT no_release (wpAny_pure (wpAny_pure h))))
end
section
variable {prog : Program} {w : World} {A : Around} {E : Value → Shared → Prop} {s : Shared} {h₀ : Heap} {L D : Addr} {m : Str → Option Value} {news : List (Addr × Obj)}
theorem write_of {M : Model} {b b' : Array UInt8} {f : Array UInt8 → Array UInt8} {Q : Unit → Shared → Prop} (F : Fr h₀ L s.heap m) (N : News h₀ L s.heap ((D, BA.O b) :: news)) (hne : ∀ p ∈ news, p.1 ≠ D) (e : f b = b') (hz : b'.size ≤ 1000)
    (h : ∀ h', Fr h₀ L h' m → News h₀ L h' ((D, BA.O b') :: news) → Q () { s with heap := h' }) : wpAny M A (Bytes.write (.ref D) f) Q E s := by
  have hD : s.heap.get? D = some (BA.O b) := (N _ (.head _)).1
  have U := news_upd (pre := []) F N (fun _ hp => nomatch hp) hne (f := Obj.mapBytearray f) (o' := BA.O b') (by rw [← e]; rfl) rfl
  show wpAny _ _ (updateBytearray D f) _ _ _
  unfold updateBytearray
  refine wpAny_bind (wpAny_load hD ?_)
  refine wpAny_bind (wpAny_update hD ?_)
  refine wpAny_lookBehind (U.2 _ (.head _)).1 ?_ (h _ U.1 U.2)
  have : ¬ (b'.size > sizeLine) := by rw [sizeLine_eq]; omega
  simp [Data.pastItsLine, this]
theorem init_run {b : Array UInt8} {t : Tok} {Q : Shared → Prop} (hA : A.guards = some []) (F : Fr h₀ L s.heap m) (N : News h₀ L s.heap ((D, BA.O #[]) :: news)) (hne : ∀ p ∈ news, p.1 ≠ D) (hz : b.size ≤ 1000)
    (h : ∀ h', Fr h₀ L h' m → News h₀ L h' ((D, BA.O b) :: news) → Q { s with heap := h' }) :
    wpN (model prog w) A (Builtin.«bytearray.__init__» ⟨[.ref D, .bytes b t], []⟩) (fun fin s' => fin = .done (.ret .none) ∧ Q s') E s := by
  have hD : BA.Is s.heap D #[] := (N _ (.head _)).1
  unfold Builtin.«bytearray.__init__»
  show wpN _ _ (Bytes.ownRelease (.ref D) >>= _) _ _ _
  refine wpN.leaf (BA.own_release hD ?_)
  show wpN _ _ (Bytes.bindOptional _ _ _ _ _ >>= _) _ _ _
  rw [init_bind]
  refine wpN.leaf (wpAny_pure ?_)
  show wpN _ _ (Bytes.checkCodecArg _ _ _ none >>= _) _ _ _
  refine wpN.leaf (wpAny_pure ?_)
  show wpN _ _ (Bytes.checkCodecArg _ _ _ none >>= _) _ _ _
  refine wpN.leaf (wpAny_pure ?_)
  refine wpN.bind ?_
  show wpN _ _ (Bytes.exported (.ref D) >>= _) _ _ _
  refine wpN.bind (wpN_exported hA ?_)
  show wpN _ _ (Bytes.exportsOf (.ref D) >>= _) _ _ _
  refine wpN.leaf ?_
  unfold Bytes.exportsOf
  refine wpAny_bind (wpAny_load hD (wpAny_pure ?_))
  refine wpN.pure ?_
  show wpN _ _ (Bytes.write (.ref D) _ >>= _) _ _ _
  refine wpN.leaf (write_of F N hne (b' := #[]) rfl (Nat.zero_le _) fun h1 F1 N1 => ?_)
  have hT : ∀ s' : Shared, s'.TypeIs (.bytes b t) "bytes" := fun s' => PySem.W.typeIs_bytes _ _ _
  refine wpN.of ?_
  show wpAny _ _ (asStr? (.bytes b t) >>= _) _ _ _
  refine wpAny_bind (wpAny_of_eq (a := none) rfl ?_)
  show wpAny _ _ (pure () >>= _) _ _ _
  refine wpAny_bind (wpAny_pure ?_)
  refine wpAny_bind (wpAny_specialOf (hT _) noIndex ?_)
  refine bm_if_false rfl ?_
  show wpAny _ _ (Bytes.buffer? "bytearray.__init__" (.bytes b t) true >>= _) _ _ _
  refine wpAny_bind ?_
  unfold Bytes.buffer?
  refine wpAny_bind (wpAny_specialOf (hT _) has_buffer ?_)
  (try dsimp only)
  refine wpAny_bind (own_buffer (bm_if_false rfl ?_))
  refine wpAny_bind (wpAny_specialOf (hT _) has_buffer ?_)
  (try dsimp only)
  refine wpAny_bind (own_release (bm_if_false rfl ?_))
  show wpAny _ _ (Bytes.payload (.bytes b t) >>= _) _ _ _
  refine wpAny_bind (wpAny_of_eq (a := b) rfl (wpAny_pure ?_))
  (try dsimp only)
  refine wpAny_bind (wpAny_rule ?_)
  refine wpAny_bind (write_of F1 N1 hne (b' := b) rfl hz fun h2 F2 N2 => ?_)
  exact wpAny_pure ⟨rfl, h h2 F2 N2⟩
end
end BM

-- 54_bacall2
theorem part54 : True := by
  w_top off
  trivial
namespace BM
open Builtin
theorem canCreate : ((Manifest.find? "bytearray").bind fun x => List.findSome? (fun t => (Manifest.find? t).bind fun b => if b.noNew = true then some true else if (b.attrs.any fun x => x.fst == "__new__") = true then some false else none) x.mro).getD false = false := by decide +kernel
section
variable {prog : Program} {w : World} {A : Around} {E : Value → Shared → Prop} {s : Shared} {h₀ : Heap} {L : Addr} {m : Str → Option Value} {news : List (Addr × Obj)}
theorem call_run {b : Array UInt8} {t : Tok} {Q : Value → Shared → Prop} (hA : A.guards = some []) (F : Fr h₀ L s.heap m) (N : News h₀ L s.heap news) (hz : b.size ≤ 1000)
    (h : ∀ D h', Fr h₀ L h' m → News h₀ L h' ((D, BA.O b) :: news) → (∀ p ∈ news, p.1 < D) → Q (.ref D) { s with heap := h' }) :
    wpN (model prog w) A (call (.type "bytearray") [.bytes b t]) Q E s := by
  refine wpN.call (codeN.of_tree ?_)
  show wpN _ _ (callAny (.type "bytearray") ⟨[.bytes b t], []⟩) _ _ _
  refine wpN.pure ⟨Code.quiet_builtin _ (by decide +kernel), by rfl, codeN_builtin PySem.F.entry_type_call ?_⟩
  rw [Around.under_plain (weight_type_call_type "bytearray" [.bytes b t] []) rfl]
  unfold Builtin.«type.__call__»
  dsimp only
  rw [if_neg (by decide)]
  simp only [canCreate]
  rw [if_neg Bool.false_ne_true, typeCall]
  refine wpN.leaf (wpAny_pure ?_)
  rw [mro]
  refine wpN.leaf (wpAny_pure ?_)
  rw [if_neg (by decide), made]
  refine wpN.leaf (wpAny_pure ?_)
  dsimp only
  refine wpN.leaf (wpAny_pure ?_)
  have F1 := F.push (BA.O #[])
  have N1 := News.push F N (BA.O #[])
  have hl : ∀ p ∈ news, p.1 < s.heap.objs.size := fun p hp => Heap.lt_size (N p hp).1
  have hne : ∀ p ∈ news, p.1 ≠ s.heap.objs.size := fun p hp => Nat.ne_of_lt (hl p hp)
  refine wpN.leaf (wpAny_holding (wpAny_call (codeAny_mono (code_new (E := fun _ _ => False) (Q₁ := fun obj s₁ => obj = .ref s.heap.objs.size ∧ s₁ = { s with heap := s.heap.push (BA.O #[]) }) _ ⟨rfl, rfl⟩) fun r s₁ hr => ?_)))
  rcases r with e | (v | _ | _ | _) <;> first | exact False.elim hr | skip
  obtain ⟨rfl, rfl⟩ := hr
  dsimp only
  have hT : Shared.TypeIs { s with heap := s.heap.push (BA.O #[]) } (.ref s.heap.objs.size) "bytearray" := ⟨_, (N1 _ (.head _)).1, rfl⟩
  refine wpN.leaf (wpAny_isInstance hT BA.sub_self ?_)
  rw [if_neg (by decide)]
  refine wpN.bind (wpN.holding ?_)
  unfold callSpecial?
  refine wpN.leaf (wpAny_specialOf hT slot_init.lookup ?_)
  dsimp only
  refine wpN.holding ?_
  rw [slot_init.bind]
  refine wpN.leaf (wpAny_pure ?_)
  dsimp only
  refine wpN.bind (wpN.call (codeN.of_tree ?_))
  show wpN _ _ (checkBuiltinCall "bytearray.__init__" ⟨[.ref s.heap.objs.size, .bytes b t], []⟩ >>= fun _ => again (.builtin "bytearray.__init__" ⟨[.ref s.heap.objs.size, .bytes b t], []⟩)) _ _ _
  refine wpN.leaf (slot_init.check _ _ _ _ _ _ _ _ hT (init_args _ _) ?_)
  refine wpN.pure ⟨Code.quiet_builtin _ (by decide +kernel), by rfl, codeN_builtin entry_init ?_⟩
  rw [Around.under_plainId slot_init.plain _]
  refine wpN.mono (init_run (s := { s with heap := s.heap.push (BA.O #[]) }) (by exact hA) F1 N1 hne hz (Q := fun s' => ∃ h', s' = { s with heap := h' } ∧ Fr h₀ L h' m ∧ News h₀ L h' ((s.heap.objs.size, BA.O b) :: news)) fun h2 F2 N2 => ⟨h2, rfl, F2, N2⟩) (fun fin s' hf => ?_) fun _ _ x => x
  obtain ⟨rfl, h2, rfl, F2, N2⟩ := hf
  dsimp only
  refine wpN.pure ?_
  dsimp only
  rw [if_neg (by decide)]
  exact wpN.pure (h _ h2 F2 N2 hl)
end
end BM

-- 55_setname
theorem part55 : True := by
  w_top off
  trivial
/-- more entries that lie in the ledger already, behind its first -/
theorem inN2 {h₀ h : Heap} {L : Addr} {e f : Addr × Obj} {l : List (Addr × Obj)} (N : News h₀ L h (e :: l)) (hf : f ∈ l) : News h₀ L h (e :: f :: l) := fun p hp => by
  rcases List.mem_cons.mp hp with rfl | hp
  · exact N _ (.head _)
  rcases List.mem_cons.mp hp with rfl | hp
  · exact N _ (.tail _ hf)
  · exact N _ (.tail _ hp)
theorem inN3 {h₀ h : Heap} {L : Addr} {e : Addr × Obj} {k l : List (Addr × Obj)} (N : News h₀ L h (e :: (k ++ l))) : News h₀ L h (e :: l) := fun p hp => (List.mem_cons.mp hp).elim (fun q => q ▸ N _ (.head _)) fun hp => N _ (.tail _ (List.mem_append_right _ hp))
theorem words55a : True := by
  (k_with "getMethod ref" => (k_here; (first | (with_reducible show wpAny _ _ (getMethod (Value.ref _) "_raise_8dot3_nonconformant" _) _ _ _) | (with_reducible show wpAny _ _ (getMethod (Value.ref _) "is_8dot3_conform" _) _ _ _) | (with_reducible show wpAny _ _ (getMethod (Value.ref _) "_pad_8dot3_name" _) _ _ _)); k_dflt (refine kmu_sm (by k_asm) (by k_asm) (by k_inst) (by k_is) (by k_is) (by k_is) (by k_is) (by k_is) (by k_is) (by decide +kernel) (by k_get) (by k_is) (by k_handed) ?_; k_whole)))
  (k_with "call builtin:len" => (k_here; (with_reducible show wpAny _ _ (call (Value.builtin "len") [Value.ref _]) _ _ _); k_dflt (refine BA.len (by exact News.get (by k_asm) (by k_mem)) (by omega) ?_)))
  trivial
section
variable {w : World} {mean : ExcName → Option Value} {mg mb : Str → Option Value} {dp un : Nat} {env : Env} {outer : List Env} {A₀ : Around} {base h₀ : Heap} {L : Addr} {m : Str → Option Value} {s : Shared} {Q E : Value → Shared → Prop}
theorem setname_spec {I d a : Addr} {t1 t2 t3 ty : Tok} {y0 : Str} {nv : Value} {ini : Bool} {b : Array UInt8} {news : List (Addr × Obj)}
  (C : Cx w mean mg mb 2 dp un env outer A₀ base h₀ L) (F : Fr h₀ L s.heap m)
  (N : News h₀ L s.heap ((d, eightD w t1 t2 t3 nv y0 ty ini) :: news)) (hne : ∀ p ∈ news, p.1 ≠ d) (hI : (I, instObj 223 d) ∈ news) (ha : (a, BA.O b) ∈ news) (hz : b.size = 11)
  (ret : ∀ h' tk', Fr h₀ L h' m → News h₀ L h' ((d, eightD w t1 t2 t3 (.ref a) y0 ty true) :: news) → Q .none {s with heap := h', toks := tk'}) :
  wpAny (model PR w) (Ar dp un env outer) (call (.ref 158) [.ref I, .ref a]) Q E s := by
  obtain ⟨B, X, T, hf, hke, hdp, hu⟩ := C
  unfold PR
  refine wpAny_call ?_
  k_dflt walk_at "my_enter"
  intro g' L' h' FG' F' N' B' X' T'
  replace F' : Fr g' L' h' (lk [("name", .ref a), ("self", .ref I)]) := F'
  have hdI : @Ne Nat I d := hne _ hI
  have hda : @Ne Nat a d := hne _ ha
  replace N' : News g' L' h' ((d, eightD w t1 t2 t3 nv y0 ty ini) :: (I, instObj 223 d) :: (a, BA.O b) :: news) := inN2 (inN2 N' ha) (.tail _ hI)
  show wpAny _ _ (execs _ _) _ _ _
  k_fold
  k_steps
  all_goals first
    | (exfalso; omega)
    | exact ret _ _ (by k_asm) (inN3 (k := [_, _]) (by assumption))
end

-- 56_sbn
theorem part56 : True := by
  w_top off
  trivial
/-- a def among frames that may catch, entered above a stack without decoders -/
theorem codeN_defS {prog : Program} {w : World} {A₀ A : Around} {s : Shared} {base h₀ g₀ : Heap} {outer : List Env} {L a : Addr} {m : Str → Option Value} {cn : Str} {cs : Scope} {ccd : Value} {news : List (Addr × Obj)} {K : Frag} {p : Program} {loose : List Str} {mean : ExcName → Option Value} {mg mb : Str → Option Value}
    {R : Result → Shared → Prop} {name qual : Str} {params : Arguments} {body : List Stmt} {scope : Scope} {dV kV doc pm cdv ct oc : Value} {an od : Option Addr} {osl : Array (Option Value)} {f : Addr} {args : Args} {binds : List (Str × Value)}
    (B : Below A₀ base outer h₀) (F : Fr h₀ L s.heap m) (X₀ : K.In h₀) (N : News h₀ L s.heap news) (T : Top p loose mean mg mb h₀) (XB : K.In base) (TB : Top p loose mean mg mb base) (D : KtsDicts (outer.filterMap (·.frame)) h₀)
    (T0 : KtsTurn (outer.filterMap (·.frame)) g₀ h₀) (hA : A.frames = some (envOf cn cs L a ccd :: outer))
    (ho : K.lookup f = some ⟨oc, od, .func (fnOf name qual params body scope dV kV doc pm an cdv ct), osl⟩) (hcd : codeIn K cdv qual = true) (hroom : A.depth < recursionLimit)
    (hbind : BindsTo s (fnOf name qual params body scope dV kV doc pm an cdv ct) args binds) (hloc : ∀ y ∈ binds, scope.names.lookup y.1 = some .local)
    (h : ∀ g L' h₁, Fr h₀ L g m → Fr g L' h₁ (fun y => binds.reverse.lookup y) → News g L' h₁ news → Below A base (envOf cn cs L a ccd :: outer) g → K.In g → Top p loose mean mg mb g → KtsDicts ((envOf cn cs L a ccd :: outer).filterMap (·.frame)) g →
      wpN (model prog w) (A.deeper (envOf qual scope L' f cdv)) (execs body (envOf qual scope L' f cdv))
        (fun fl s' => LeaveS ((envOf cn cs L a ccd :: outer).filterMap (·.frame)) A₀ base outer K p loose mean mg mb g₀ h₀ L m g R (match fl with | .ret v => v | _ => .none) s')
        (fun e s' => wpAny (model prog w) (A.deeper (envOf qual scope L' f cdv)) (leaving (envOf qual scope L' f cdv) e) (fun _ s'' => R (.error e) s'') (fun e' s'' => R (.error e') s'') s')
        { s with heap := h₁, toks := s.toks + binds.length })
    (hck : cs.kind = .function) (hco : scope.isCoroutine = false) (hgen : scope.isGenerator = false) (hk : scope.kind = .function)
    (hcell : ∀ x ∈ scope.names, x.2 ≠ .cell) : codeN (model prog w) A (.call (.ref f) args) R s := by
  have X := X₀.keeps F.keep
  obtain ⟨oL, es, ep, hLg, hLd, hN, hNs, st, B₂⟩ := kts_enter B F N hA hck
  have nL₀ : h₀.get? L = none := kts_self F
  refine codeN_call_function (fd := fnOf name qual params body scope dV kV doc pm an cdv ct) (body := body) hroom (X _ _ ho) rfl hco hgen rfl (codeRec_of X hcd) (hbind _ _ _ _ ?_)
  refine wpAny_newFunctionEnv hcell hloc (fun h₁ hns hsb => ⟨(T.nolimit.keeps F.keep).fresh _ hsb, ?_⟩) hk
  have hk₁ : ∀ b o, s.heap.get? b = some o → h₁.get? b = some o := fun b o e => hsb.extBut b o (Nat.ne_of_lt (Heap.lt_size e)) (Heap.get?_push_of_some _ e)
  show codeN _ _ (.func body (envOf qual scope s.heap.objs.size f cdv)) _ _
  refine codeN_func (wpN.mono (h _ s.heap.objs.size h₁ ⟨hN _ hLg, st, F.above⟩ ⟨hns, fun b o e => hk₁ b o (of_hideAll _ e), Nat.le_of_eq (hideAll_size _ _)⟩
    (fun p hp => ⟨hk₁ _ _ (N p hp).1, Nat.ne_of_lt (Heap.lt_size (N p hp).1), hideAll_none _ (List.mem_map_of_mem hp)⟩) B₂ (X₀.keeps st) (T.keeps st) (fun b hb => by
      rcases kts_mem hb with rfl | hb
      · exact ⟨oL, es, ep, hLg, hLd⟩
      · obtain ⟨o, es', n', ho', hd'⟩ := D b hb
        exact ⟨o, es', n', st b o ho', hd'⟩)) (fun fl s' hl => ?_) fun _ _ y => y)
  rcases hl with ⟨L', m', news', F', N', k⟩ | ⟨g', L', m', news', T', F', N', k⟩
  · refine k ⟨hN _ (F'.keep _ _ hLg), fun b o e => F'.keep b o (st b o e), F.above⟩ fun p hp => ⟨(N' p hp).1, fun q => ?_, ?_⟩
    · have := (N' p hp).2.2; rw [q, hLg] at this; cases this
    · cases q : h₀.get? p.1 with
      | none => rfl
      | some o => have := (N' p hp).2.2; rw [st _ _ q] at this; cases this
  obtain ⟨sl, hs⟩ := T'.up hLg
  obtain ⟨T₁, S₁⟩ := kts_turn_at (h := s'.heap) (fs := outer.filterMap (·.frame)) (g := h₀)
    (fun b hb => by
      obtain ⟨_, o, ho', _⟩ := B.frames.mem hb
      exact ⟨o, ho'⟩)
    (fun b o e nmem => F'.keep b o (T'.other b o (st b o e) (fun q => by
      rcases kts_mem q with z | z
      · rw [z, nL₀] at e
        cases e
      · exact nmem z)))
    (fun b o e hm => by
      obtain ⟨sl', hs'⟩ := T'.up (st b o e)
      exact ⟨sl', F'.keep _ _ hs'⟩)
  have B₃ : Below A₀ base outer (ktsHeap s'.heap (outer.filterMap (·.frame)) h₀) := ⟨B.stack, fun b o e => T₁.other b o (B.stays b o e) (fun hm => by
    rw [(B.frames.mem hm).1] at e
    cases e), B.frames.of_keeps fun b o e _ => by
    obtain ⟨sl', hs'⟩ := T₁.up e
    exact ⟨_, hs', rfl⟩⟩
  refine k _ (T0.trans T₁) ⟨hNs sl _ (F'.keep _ _ hs), S₁, by rw [T₁.size]; exact F.above⟩ (fun p hp => ⟨(N' p hp).1, fun q => ?_, ?_⟩) B₃ (XB.keeps B₃.stays) (TB.keeps B₃.stays) (D.turn T₁)
  · have := (N' p hp).2.2; rw [q, hs] at this; cases this
  · refine T₁.none_ _ ?_
    cases q : h₀.get? p.1 with
    | none => rfl
    | some o =>
      obtain ⟨sl', hs'⟩ := T'.up (st _ _ q)
      have := (N' p hp).2.2
      rw [hs'] at this
      cases this
theorem words56a : True := by
  (k_with "my_enterN" => (refine codeN_defS (by k_asm) (by k_asm) (by k_asm) (by k_asm) (by k_asm) (by assumption) (by assumption) (by assumption) (by assumption) (by exact rfl) (by k_is) (by k_is) (by (show _ < 1000; dsimp only; omega)) (by first | exact BindsTo.of_eq rfl | exact binds_K (by k_in) rfl (by k_is) rfl rfl rfl) (by exact locs rfl) ?_ (by assumption) (by exact rfl) (by exact rfl) (by exact rfl) (by decide); k_whole))
  (k_with "call ref" => (k_here; (with_reducible show wpAny _ _ (call (Value.ref 158) _ _) _ _ _); refine Stop.out ?_))
  trivial
theorem callWithN_T {M : Model} {A : Around} {E : Value → Shared → Prop} {s : Shared} {env : Env} {pos : Pos} {T : String} {first : List Value} {e : Expr} {rest : List Expr} {Q : Value → Shared → Prop}
    (h : wpAny M A (spliced (backTo pos (starEach (e :: rest) env))) (fun vs s₁ => wpN M A (PySem.call (.type T) (first ++ vs)) Q E s₁) E s)
    (he : starEach (e :: rest) env = (false, eval e env) :: starEach rest env := by rfl) (hplain : (backTo pos (starEach rest env)).any (·.1) = false := by rfl) :
    wpN M A (callWith pos (.type T) first (backTo pos (starEach (e :: rest) env)) []) Q E s := by
  rw [he] at h ⊢
  refine callWithN (P := fun _ => True) (by show ((false || (backTo pos (starEach rest env)).any (·.1)) || false) = false; rw [hplain]; rfl) (fun _ _ => ⟨.machine, .inr (.inl rfl), Looks.of_pure rfl⟩) (wpN.of (evalArgs_plain ?_))
  exact wpAny_mono h (fun vs s₁ x => ⟨trivial, x⟩) fun _ _ x => x
theorem sub3 {x y z : Addr × Obj} {l : List (Addr × Obj)} : ∀ p ∈ x :: l, p ∈ y :: x :: z :: l := fun p hp => by
  rcases List.mem_cons.mp hp with rfl | hp
  · exact .tail _ (.head _)
  · exact .tail _ (.tail _ (.tail _ hp))
theorem sub4 {u x y z : Addr × Obj} {l : List (Addr × Obj)} : ∀ p ∈ u :: x :: l, p ∈ u :: y :: x :: z :: l := fun p hp => by
  rcases List.mem_cons.mp hp with rfl | hp
  · exact .head _
  · exact .tail _ (sub3 p hp)
section
variable {w : World} {mean : ExcName → Option Value} {mg mb : Str → Option Value} {dp un : Nat} {cn : Str} {cs : Scope} {ca : Addr} {ccd : Value} {outer : List Env} {A₀ : Around} {base g₀ h₀ : Heap} {L : Addr} {m : Str → Option Value} {s : Shared} {Q E : Value → Shared → Prop}
theorem sbn_bytes {I d : Addr} {t1 t2 t3 ty t : Tok} {y0 : Str} {nv : Value} {ini : Bool} {b : Array UInt8} {news : List (Addr × Obj)}
  (CS : Cs w mean mg mb 4 dp un cn cs ca ccd outer A₀ base g₀ h₀ L) (F : Fr h₀ L s.heap m)
  (N : News h₀ L s.heap ((d, eightD w t1 t2 t3 nv y0 ty ini) :: news)) (hne : ∀ p ∈ news, p.1 ≠ d) (hI : (I, instObj 223 d) ∈ news) (hz : b.size ≤ 13)
  (good : b.size = 11 → (∀ c, b[0]? = some c → c.toNat ≠ 0 ∧ c.toNat ≠ 229) → ∀ a h' tk', Fr h₀ L h' m → News h₀ L h' ((d, eightD w t1 t2 t3 (.ref a) y0 ty true) :: (a, BA.O b) :: news) → Q .none {s with heap := h', toks := tk'})
  (size : b.size ≠ 11 → ∀ e g h' tk', Fr h₀ L g m → RaisedSN base g (envOf cn cs L ca ccd :: outer) e (.type "ValueError") ((d, eightD w t1 t2 t3 nv y0 ty ini) :: news) h' → g.UpToSlots h' → E (.ref e) {s with heap := h', toks := tk'})
  (mark : b.size = 11 → ∀ c, b[0]? = some c → (c.toNat = 0 ∨ c.toNat = 229) → ∀ e de th ti g h' tk', Fr h₀ L g m →
    RaisedD base g (envOf cn cs L ca ccd :: outer) e 63 de ((de, dictOf [⟨PyData.keyHash w.params "free_type", .str "free_type" th, .int (c.toNat : Int) ti⟩] 1) :: (d, eightD w t1 t2 t3 nv y0 ty ini) :: news) h' → g.UpToSlots h' → E (.ref e) {s with heap := h', toks := tk'}) :
  wpN (model PR w) (Ar dp un (envOf cn cs L ca ccd) outer) (call (.ref 165) [.ref I, .bytes b t]) Q E s := by
  obtain ⟨⟨B, X, T, hf, hke, hdp, hu⟩, XB, TB, D, T0⟩ := CS
  replace hke : cs.kind = .function := hke
  unfold PR
  refine wpN.call ?_
  k_dflt walk_at "my_enterN"
  intro g' L' h' FG' F' N' B' X' T' D'
  replace F' : Fr g' L' h' (lk [("name", .bytes b t), ("self", .ref I)]) := F'
  have hdI : @Ne Nat I d := hne _ hI
  replace N' : News g' L' h' ((d, eightD w t1 t2 t3 nv y0 ty ini) :: (I, instObj 223 d) :: news) := inN2 N' hI
  show wpN _ _ (execs _ _) _ _ _
  refine execsN_cons (wpN.of ?_)
  k_fold
  k_steps
  refine execsN_cons (execN_Assign_Name (evalN_call ?_))
  k_steps
  refine callWithN_T ?_
  k_steps
  refine BM.call_run rfl (by k_asm) (by k_asm) (by omega) ?_
  intro D h2 F2 N2 l2
  k_steps
  refine wpN.of ?_
  k_steps
  · exact size (by omega) _ _ _ _ (by assumption) (rsn_sub (rs_sn (by assumption)) sub3) (by assumption)
  · rename_i c1 hc1 hc0 c2 hc2 _ _ _ _ _ _ _ _ _
    walk_at "my_own"
    k_steps
    rename_i R3 U3
    obtain rfl : c1 = c2 := Option.some.inj (hc1.symm.trans hc2)
    exact mark (by omega) c1 hc1 (.inl (by omega)) _ _ _ _ _ _ _ FG' (rd_sub R3 sub4) U3
  · rename_i c1 hc1 n0 c3 hc3 hc0 c2 hc2 _ _ _ _ _ _ _ _ _
    walk_at "my_own"
    k_steps
    rename_i R3 U3
    obtain rfl : c1 = c2 := Option.some.inj (hc1.symm.trans hc2)
    obtain rfl : c1 = c3 := Option.some.inj (hc1.symm.trans hc3)
    exact mark (by omega) c1 hc1 (.inr (by omega)) _ _ _ _ _ _ _ FG' (rd_sub R3 sub4) U3
  · rename_i h3 F3 N3 _ h11 _ c1 hc1 n0 c2 hc2 n1
    refine ⟨?_⟩
    have hdD : @Ne Nat D d := Nat.ne_of_gt (l2 _ (.head _))
    have N3' : News g' L' h3 ((d, eightD w t1 t2 t3 nv y0 ty ini) :: (D, BA.O b) :: (I, instObj 223 d) :: news) := fun p hp => by
      rcases List.mem_cons.mp hp with rfl | hp
      · exact N3 _ (.tail _ (.head _))
      rcases List.mem_cons.mp hp with rfl | hp
      · exact N3 _ (.head _)
      · exact N3 _ (.tail _ (.tail _ hp))
    have hne' : ∀ p ∈ (D, BA.O b) :: (I, instObj 223 d) :: news, p.1 ≠ d := fun p hp => by
      rcases List.mem_cons.mp hp with rfl | hp
      · exact hdD
      rcases List.mem_cons.mp hp with rfl | hp
      · exact hdI
      · exact hne p hp
    refine setname_spec (by walk_at "my_cx") (by k_asm) N3' hne' (.tail _ (.head _)) (.head _) (by omega) ?_
    intro h4 tk4 F4 N4
    k_steps
    refine good (by omega) (fun c hc => ?_) D _ _ (by k_asm) (fun p hp => ?_)
    · obtain rfl : c1 = c := Option.some.inj (hc1.symm.trans hc)
      obtain rfl : c1 = c2 := Option.some.inj (hc1.symm.trans hc2)
      constructor <;> omega
    · rename_i kN _ _
      rcases List.mem_cons.mp hp with rfl | hp
      · exact kN _ (.head _)
      rcases List.mem_cons.mp hp with rfl | hp
      · exact kN _ (.tail _ (.head _))
      · exact kN _ (.tail _ (.tail _ (.tail _ hp)))
end

-- 57_other
theorem part57 : True := by
  w_top off
  trivial
/-- a value that is no bytes -/
def NotBytes (news : List (Addr × Obj)) (v : Value) : Prop := v = .none ∨ (∃ i t, v = .int i t) ∨ (∃ b, v = .bool b) ∨ (∃ x t, v = .str x t) ∨ ∃ r items n, v = .ref r ∧ (r, W.listOf items n) ∈ news
/-- a value that is no str -/
def NotStr (news : List (Addr × Obj)) (v : Value) : Prop := v = .none ∨ (∃ i t, v = .int i t) ∨ (∃ b, v = .bool b) ∨ (∃ x t, v = .bytes x t) ∨ ∃ r items n, v = .ref r ∧ (r, W.listOf items n) ∈ news
section
variable {w : World} {mean : ExcName → Option Value} {mg mb : Str → Option Value} {dp un : Nat} {cn : Str} {cs : Scope} {ca : Addr} {ccd : Value} {outer : List Env} {A₀ : Around} {base g₀ h₀ : Heap} {L : Addr} {m : Str → Option Value} {s : Shared} {Q E : Value → Shared → Prop}
theorem sbn_other {I : Addr} {v : Value} {news : List (Addr × Obj)}
  (CS : Cs w mean mg mb 4 dp un cn cs ca ccd outer A₀ base g₀ h₀ L) (F : Fr h₀ L s.heap m)
  (N : News h₀ L s.heap news) (hv : NotBytes news v)
  (raise : ∀ e g h' tk', Fr h₀ L g m → RaisedSN base g (envOf cn cs L ca ccd :: outer) e (.type "TypeError") news h' → g.UpToSlots h' → E (.ref e) {s with heap := h', toks := tk'}) :
  wpAny (model PR w) (Ar dp un (envOf cn cs L ca ccd) outer) (call (.ref 165) [.ref I, v]) Q E s := by
  obtain ⟨⟨B, X, T, hf, hke, hdp, hu⟩, XB, TB, D, T0⟩ := CS
  replace hke : cs.kind = .function := hke
  unfold PR
  rcases hv with rfl | ⟨i, t, rfl⟩ | ⟨b, rfl⟩ | ⟨x, t, rfl⟩ | ⟨r, items, n, rfl, hr⟩
  all_goals (
    refine wpAny_call ?_
    k_dflt walk_at "my_enterS"
    intro g' L' h' FG' F' N' B' X' T' D'
    first
      | replace F' : Fr g' L' h' (lk [("name", .none), ("self", .ref I)]) := F'
      | replace F' : Fr g' L' h' (lk [("name", .int i t), ("self", .ref I)]) := F'
      | replace F' : Fr g' L' h' (lk [("name", .bool b), ("self", .ref I)]) := F'
      | replace F' : Fr g' L' h' (lk [("name", .str x t), ("self", .ref I)]) := F'
      | (replace F' : Fr g' L' h' (lk [("name", .ref r), ("self", .ref I)]) := F'; have hr2 := News.get N' hr)
    show wpAny _ _ (execs _ _) _ _ _
    k_fold
    k_steps
    exact raise _ _ _ _ (by assumption) (rs_sn (by assumption)) (by assumption))
end

-- 58_ssn
theorem part58 : True := by
  w_top off
  trivial
/-- the ground of a caller whose callee caught -/
theorem kts_back {A₀ : Around} {base h₀ g₀ g g' : Heap} {outer : List Env} {L a : Addr} {m : Str → Option Value} {cn : Str} {cs : Scope} {ccd : Value} {K : Frag} {p : Program} {loose : List Str} {mean : ExcName → Option Value} {mg mb : Str → Option Value}
    (B : Below A₀ base outer h₀) (F : Fr h₀ L g m) (XB : K.In base) (TB : Top p loose mean mg mb base) (D : KtsDicts (outer.filterMap (·.frame)) h₀)
    (T0 : KtsTurn (outer.filterMap (·.frame)) g₀ h₀) (T' : KtsTurn ((envOf cn cs L a ccd :: outer).filterMap (·.frame)) g g') :
    ∃ h₁, KtsTurn (outer.filterMap (·.frame)) g₀ h₁ ∧ Fr h₁ L g' m ∧ Below A₀ base outer h₁ ∧ K.In h₁ ∧ Top p loose mean mg mb h₁ ∧ KtsDicts (outer.filterMap (·.frame)) h₁ := by
  have nL₀ : h₀.get? L = none := kts_self F
  obtain ⟨oL, es, ep, hL, hLd, hLk⟩ := F.ns
  obtain ⟨sl, hs⟩ := T'.up hL
  obtain ⟨T₁, S₁⟩ := kts_turn_at (h := g') (fs := outer.filterMap (·.frame)) (g := h₀)
    (fun b hb => by
      obtain ⟨_, o, ho', _⟩ := B.frames.mem hb
      exact ⟨o, ho'⟩)
    (fun b o e nmem => T'.other b o (F.keep b o e) (fun q => by
      rcases kts_mem q with z | z
      · rw [z, nL₀] at e
        cases e
      · exact nmem z))
    (fun b o e hm => T'.up (F.keep b o e))
  have B₃ : Below A₀ base outer (ktsHeap g' (outer.filterMap (·.frame)) h₀) := ⟨B.stack, fun b o e => T₁.other b o (B.stays b o e) (fun hm => by
    rw [(B.frames.mem hm).1] at e
    cases e), B.frames.of_keeps fun b o e _ => by
    obtain ⟨sl', hs'⟩ := T₁.up e
    exact ⟨_, hs', rfl⟩⟩
  exact ⟨_, T0.trans T₁, ⟨⟨_, es, ep, hs, hLd, hLk⟩, S₁, by rw [T₁.size]; exact F.above⟩, B₃, XB.keeps B₃.stays, TB.keeps B₃.stays, D.turn T₁⟩
section
variable {w : World} {mean : ExcName → Option Value} {mg mb : Str → Option Value} {dp un : Nat} {cn : Str} {cs : Scope} {ca : Addr} {ccd : Value} {outer : List Env} {A₀ : Around} {base g₀ h₀ : Heap} {L : Addr} {m : Str → Option Value} {s : Shared} {Q E : Value → Shared → Prop}
theorem ssn_other {I : Addr} {v : Value} {news : List (Addr × Obj)}
  (CS : Cs w mean mg mb 4 dp un cn cs ca ccd outer A₀ base g₀ h₀ L) (F : Fr h₀ L s.heap m)
  (N : News h₀ L s.heap news) (hv : NotStr news v)
  (raise : ∀ e g h' tk', Fr h₀ L g m → RaisedSN base g (envOf cn cs L ca ccd :: outer) e (.type "TypeError") news h' → g.UpToSlots h' → E (.ref e) {s with heap := h', toks := tk'}) :
  wpAny (model PR w) (Ar dp un (envOf cn cs L ca ccd) outer) (call (.ref 172) [.ref I, v]) Q E s := by
  obtain ⟨⟨B, X, T, hf, hke, hdp, hu⟩, XB, TB, D, T0⟩ := CS
  replace hke : cs.kind = .function := hke
  unfold PR
  rcases hv with rfl | ⟨i, t, rfl⟩ | ⟨b, rfl⟩ | ⟨x, t, rfl⟩ | ⟨r, items, n, rfl, hr⟩
  all_goals (
    refine wpAny_call ?_
    k_dflt walk_at "my_enterS"
    intro g' L' h' FG' F' N' B' X' T' D'
    first
      | replace F' : Fr g' L' h' (lk [("name", .none), ("self", .ref I)]) := F'
      | replace F' : Fr g' L' h' (lk [("name", .int i t), ("self", .ref I)]) := F'
      | replace F' : Fr g' L' h' (lk [("name", .bool b), ("self", .ref I)]) := F'
      | replace F' : Fr g' L' h' (lk [("name", .bytes x t), ("self", .ref I)]) := F'
      | (replace F' : Fr g' L' h' (lk [("name", .ref r), ("self", .ref I)]) := F'; have hr2 := News.get N' hr)
    show wpAny _ _ (execs _ _) _ _ _
    k_fold
    k_steps
    exact raise _ _ _ _ (by assumption) (rs_sn (by assumption)) (by assumption))
end

-- 59_ssn2
theorem part59 : True := by
  w_top off
  trivial
theorem trimL_sub {p : Nat → Bool} {l : List Nat} {c : Nat} (h : c ∈ trimL p l) : c ∈ l := by
  unfold trimL trimE at h
  exact (List.dropWhile_suffix _).subset (List.mem_reverse.mp ((List.dropWhile_suffix _).subset (List.mem_reverse.mp h)))
theorem pad_sub {l : List Nat} {c : Nat} (h : c ∈ padOf l) : c = 32 ∨ c ∈ (splitOf l).1 ++ (splitOf l).2.drop 1 := by
  unfold padOf at h
  simp only [List.mem_append, List.mem_replicate] at h
  rcases h with (h | ⟨_, h⟩) | (h | ⟨_, h⟩)
  · exact .inr (List.mem_append_left _ (trimL_sub h))
  · exact .inl h
  · exact .inr (List.mem_append_right _ (trimL_sub h))
  · exact .inl h
theorem pad_ok {l : List Nat} (ha : ∀ c ∈ l, c ∈ alph) (hc : confOf l = true) : ∀ c ∈ padOf l, okI (c : Int) ∧ c < 256 ∧ c ≠ 229 ∧ c ≠ 5 := by
  intro c h
  obtain ⟨e1, e2⟩ := split_parts (conf_slash hc)
  have key : c = 32 ∨ (c ∈ alph ∧ okSign c = true) := by
    rcases pad_sub h with h | h
    · exact .inl h
    · rw [e1, e2] at h
      exact .inr ⟨ha c (parts_mem h), conf_signs hc c h⟩
  have no : (229 : Nat) ∉ alph := by decide +kernel
  rcases key with rfl | ⟨h1, h2⟩
  · exact ⟨.inr ⟨by omega, by omega, by omega, by omega⟩, by omega, by omega, by omega⟩
  · have h3 := alph_okI c h1 h2
    refine ⟨h3, ?_, fun e => no (e ▸ h1), ?_⟩ <;> (unfold okI at h3; omega)
theorem pad_len {l : List Nat} (ha : ∀ c ∈ l, c ∈ alph) (hc : confOf l = true) : (padOf l).length = 11 := by
  have := laid_len hc
  rw [← pad_eq ha (conf_slash hc), List.length_map] at this
  exact this
/-- the octets that a text is kept as -/
def octOf (l : List Nat) : Array UInt8 := ((padOf l).map fun q => q.toUInt8).toArray
theorem oct_size {l : List Nat} (ha : ∀ c ∈ l, c ∈ alph) (hc : confOf l = true) : (octOf l).size = 11 := by
  unfold octOf
  simpa using pad_len ha hc
theorem oct_bI {l : List Nat} (ha : ∀ c ∈ l, c ∈ alph) (hc : confOf l = true) : bI (octOf l) = laidOf l := by
  rw [← pad_eq ha (conf_slash hc)]
  unfold bI octOf
  rw [List.toList_toArray, List.map_map]
  refine List.map_congr_left fun c h => ?_
  show (((UInt8.ofNat c).toNat : Nat) : Int) = (c : Int)
  rw [UInt8.toNat_ofNat']
  have := (pad_ok ha hc c h).2.1
  omega
theorem oct_at {l : List Nat} (ha : ∀ c ∈ l, c ∈ alph) (hc : confOf l = true) {i : Nat} {c : UInt8} (h : (octOf l)[i]? = some c) : c.toNat ≠ 229 ∧ c.toNat ≠ 5 := by
  have h' : ((padOf l).map fun q => q.toUInt8)[i]? = some c := by simpa [octOf] using h
  rw [List.getElem?_map] at h'
  cases hq : (padOf l)[i]? with
  | none => rw [hq] at h'; simp at h'
  | some q =>
    rw [hq] at h'
    have e : q.toUInt8 = c := by simpa using h'
    have hk := pad_ok ha hc q (List.mem_of_getElem? hq)
    rw [← e]
    have : q.toUInt8.toNat = q := by
      show (UInt8.ofNat q).toNat = q
      rw [UInt8.toNat_ofNat']
      have := hk.2.1
      omega
    rw [this]
    exact ⟨hk.2.2.1, hk.2.2.2⟩
theorem oct_okI {l : List Nat} (ha : ∀ c ∈ l, c ∈ alph) (hc : confOf l = true) : ∀ n ∈ bI (octOf l), okI n := by
  rw [oct_bI ha hc, ← pad_eq ha (conf_slash hc)]
  intro n hn
  obtain ⟨c, h, rfl⟩ := List.mem_map.mp hn
  exact (pad_ok ha hc c h).1

-- 60_ssn3
theorem part60 : True := by
  w_top off
  trivial
theorem words60a : True := by
  (k_with "setItem ref int" => (k_here; refine Stop.out ?_))
  (k_with "call ref" => (k_here; (first | (with_reducible show wpAny _ _ (call (Value.ref 197) _ _) _ _ _) | (with_reducible show wpAny _ _ (call (Value.ref 148) _ _) _ _ _) | (with_reducible show wpAny _ _ (call (Value.ref 207) _ _) _ _ _) | (with_reducible show wpAny _ _ (call (Value.ref 85) _ _) _ _ _)); refine Stop.out ?_))
  trivial
theorem sub5 {u x z : Addr × Obj} {l : List (Addr × Obj)} : ∀ p ∈ u :: x :: l, p ∈ u :: x :: z :: l := fun p hp => by
  rcases List.mem_cons.mp hp with rfl | hp
  · exact .head _
  rcases List.mem_cons.mp hp with rfl | hp
  · exact .tail _ (.head _)
  · exact .tail _ (.tail _ (.tail _ hp))
section
variable {w : World} {mean : ExcName → Option Value} {mg mb : Str → Option Value} {dp un : Nat} {cn : Str} {cs : Scope} {ca : Addr} {ccd : Value} {outer : List Env} {A₀ : Around} {base g₀ h₀ : Heap} {L : Addr} {m : Str → Option Value} {s : Shared} {Q E : Value → Shared → Prop}
theorem ssn_str {I d : Addr} {t1 t2 t3 ty t : Tok} {y0 x : Str} {nv : Value} {ini : Bool} {news : List (Addr × Obj)}
  (CS : Cs w mean mg mb 5 dp un cn cs ca ccd outer A₀ base g₀ h₀ L) (F : Fr h₀ L s.heap m)
  (N : News h₀ L s.heap ((d, eightD w t1 t2 t3 nv y0 ty ini) :: news)) (hne : ∀ p ∈ news, p.1 ≠ d) (hI : (I, instObj 223 d) ∈ news) (hx : x.cps.size ≤ 19) (ha : ∀ c ∈ x.cps.toList, c ∈ alph)
  (good : confOf x.cps.toList = true → ∀ a h₀' h' tk', KtsTurn (outer.filterMap (·.frame)) g₀ h₀' → Fr h₀' L h' m → News h₀' L h' ((d, eightD w t1 t2 t3 (.ref a) y0 ty true) :: (a, BA.O (octOf x.cps.toList)) :: news) → Below A₀ base outer h₀' → (hd.heap_39 w.params).In h₀' → Top hd.view_39 LO mean mg mb h₀' → KtsDicts (outer.filterMap (·.frame)) h₀' → Q .none {s with heap := h', toks := tk'})
  (bad : confOf x.cps.toList = false → ∀ h₀' e de th ti g h' tk', KtsTurn (outer.filterMap (·.frame)) g₀ h₀' → Fr h₀' L g m →
    RaisedD base g (envOf cn cs L ca ccd :: outer) e 41 de ((de, dictOf [⟨PyData.keyHash w.params "errno", .str "errno" th, .int 22 ti⟩] 1) :: (d, eightD w t1 t2 t3 nv y0 ty ini) :: news) h' → g.UpToSlots h' →
    Below A₀ base outer h₀' → (hd.heap_39 w.params).In h₀' → Top hd.view_39 LO mean mg mb h₀' → KtsDicts (outer.filterMap (·.frame)) h₀' → E (.ref e) {s with heap := h', toks := tk'}) :
  wpN (model PR w) (Ar dp un (envOf cn cs L ca ccd) outer) (call (.ref 172) [.ref I, .str x t]) Q E s := by
  obtain ⟨⟨B, X, T, hf, hke, hdp, hu⟩, XB, TB, D, T0⟩ := CS
  replace hke : cs.kind = .function := hke
  rw [← pconf_eq ha] at good bad
  unfold PR
  refine wpN.call ?_
  k_dflt walk_at "my_enterN"
  intro g' L' h' FG' F' N' B' X' T' D'
  replace F' : Fr g' L' h' (lk [("name", .str x t), ("self", .ref I)]) := F'
  have hdI : @Ne Nat I d := hne _ hI
  replace N' : News g' L' h' ((d, eightD w t1 t2 t3 nv y0 ty ini) :: (I, instObj 223 d) :: news) := inN2 N' hI
  show wpN _ _ (execs _ _) _ _ _
  refine execsN_cons (wpN.of ?_)
  k_fold
  k_steps
  refine execsN_cons (wpN.of ?_)
  k_fold
  k_steps
  refine ⟨?_⟩
  refine pconf_spec (by walk_at "my_cs") (by k_asm) (by k_asm) hx ?_
  intro g2 h2 tk2 T2 F2 N2 B2 X2 P2 D2
  cases hc : pconfOf x with
  | false =>
    k_fold
    k_steps
    refine ⟨?_⟩
    refine raise8_spec (by walk_at "my_cs") (by k_asm) (by k_asm) hx ?_
    intro e de th ti g3 h3 tk3 F3 R3 U3
    k_steps
    rename_i R4 U4
    obtain ⟨h₁, T₁, F₁, B₁, X₁, P₁, D₁⟩ := kts_back (K := hd.heap_39 w.params) B FG' XB TB D T0 T2
    exact bad hc h₁ _ _ _ _ _ _ _ T₁ F₁ (rd_sub R4 sub5) U4 B₁ X₁ P₁ D₁
  | true =>
    k_fold
    k_steps
    have hcl : confOf x.cps.toList = true := by rw [← pconf_eq ha]; exact hc
    have hsz : (octOf x.cps.toList).size = 11 := oct_size ha hcl
    refine execsN_cons (execN_Assign_Name (evalN_call ?_))
    k_steps
    refine callWithN_T ?_
    k_steps
    refine ⟨?_⟩
    refine pad_spec (by walk_at "my_cx") (by k_asm) (by k_asm) hx ?_
    intro y ty' h3 tk3 hy F3 N3
    have hyz : y.cps.size ≤ 19 := by rw [← Array.length_toList, hy, pad_len ha hcl]; decide
    k_steps
    refine ⟨?_⟩
    refine enc_spec (by walk_at "my_cs") (by k_asm) (by k_asm) hyz ?_ ?_
    rotate_left
    · intro hq
      obtain ⟨q, h1, h2⟩ := hq
      rw [hy] at h1
      exact absurd (pad_ok ha hcl q h1).2.1 (by omega)
    intro hq tb h4 tk4 F4 N4
    have hb : (y.cps.toList.map fun q => q.toUInt8).toArray = octOf x.cps.toList := by rw [hy]; rfl
    rw [hb]
    k_steps
    refine BM.call_run rfl (by k_asm) (by k_asm) (by omega) ?_
    intro a h5 F5 N5 l5
    have hda : @Ne Nat a d := Nat.ne_of_gt (l5 _ (.head _))
    k_steps
    refine wpN.of ?_
    k_steps
    · rename_i c1 hc1 h229
      exact absurd (oct_at ha hcl hc1).1 (by omega)
    · rename_i kg kT kF kN kB kX kP kD kX2
      refine good hc a kg _ _ kT kF (fun p hp => ?_) kB kX kP kD
      rcases List.mem_cons.mp hp with rfl | hp
      · exact kN _ (.tail _ (.head _))
      rcases List.mem_cons.mp hp with rfl | hp
      · exact kN _ (.head _)
      · exact kN _ (.tail _ (.tail _ (.tail _ hp)))
end

-- 61_lawset
theorem part61 : True := by
  w_top off
  trivial
theorem subG {x y z i : Addr × Obj} {l : List (Addr × Obj)} : ∀ p ∈ x :: y :: z :: l, p ∈ x :: y :: z :: i :: l := fun p hp => by
  rcases List.mem_cons.mp hp with rfl | hp
  · exact .head _
  · exact .tail _ (sub5 p hp)
theorem subM {r e f d i : Addr × Obj} {l : List (Addr × Obj)} : ∀ p ∈ r :: d :: l, p ∈ r :: e :: f :: d :: i :: l := fun p hp => by
  rcases List.mem_cons.mp hp with rfl | hp
  · exact .head _
  rcases List.mem_cons.mp hp with rfl | hp
  · exact .tail _ (.tail _ (.tail _ (.head _)))
  · exact .tail _ (.tail _ (.tail _ (.tail _ (.tail _ hp))))
section
variable {w : World} {A : Around} {E : Value → Shared → Prop} {s : Shared} {h₀ : Heap} {L e D : Addr} {m : Str → Option Value} {news : List (Addr × Obj)} {ws : Array Value} {sl : Array (Option Value)} {hsh : Int} {th : Tok} {v : Value} {expr : Bool} {Q : Value → Shared → Prop}
theorem errno_get (F : Fr h₀ L s.heap m) (X₀ : (hd.heap_39 w.params).In h₀) (N : News h₀ L s.heap news) (h1 : (e, (⟨.ref 41, some D, .fields ws, sl⟩ : Obj)) ∈ news) (h2 : (D, dictOf [⟨hsh, .str "errno" th, v⟩] 1) ∈ news) (hv : handedIn v = true)
    (h : Q v { s with toks := s.toks + 1 }) : wpAny (model PR w) A (getAttr (.ref e) "errno" expr) Q E s := by
  have I : InstAt s.heap e (⟨.ref 41, some D, .fields ws, sl⟩ : Obj) 41 (some (dictOf [⟨hsh, .str "errno" th, v⟩] 1)) := ⟨(N _ h1).1, rfl, rfl, (N _ h2).1⟩
  have hf : findObj (hd.heap_39 w.params) 41 (some (dictOf [⟨hsh, .str "errno" th, v⟩] 1)) "errno" = some (.value v) := findObj_own (attr := none) (by k_is) (by k_is) (by k_is) rfl
  k_dflt (refine' XS.get_exc ?X ?I ?c ?m ?g ?k ?f ?h ?_; (case X => exact X₀.keeps F.keep); (case I => exact I); (case f => exact hf); (case c => k_is); (case m => rfl); (case g => k_is); (case k => k_is); (case h => exact hv))
  exact h
theorem free_get (F : Fr h₀ L s.heap m) (X₀ : (hd.heap_39 w.params).In h₀) (N : News h₀ L s.heap news) (h1 : (e, (⟨.ref 63, some D, .fields ws, sl⟩ : Obj)) ∈ news) (h2 : (D, dictOf [⟨hsh, .str "free_type" th, v⟩] 1) ∈ news) (hv : handedIn v = true)
    (h : Q v { s with toks := s.toks + 1 }) : wpAny (model PR w) A (getAttr (.ref e) "free_type" expr) Q E s := by
  have I : InstAt s.heap e (⟨.ref 63, some D, .fields ws, sl⟩ : Obj) 63 (some (dictOf [⟨hsh, .str "free_type" th, v⟩] 1)) := ⟨(N _ h1).1, rfl, rfl, (N _ h2).1⟩
  have hf : findObj (hd.heap_39 w.params) 63 (some (dictOf [⟨hsh, .str "free_type" th, v⟩] 1)) "free_type" = some (.value v) := findObj_own (attr := none) (by k_is) (by k_is) (by k_is) rfl
  k_dflt (refine' XS.get_exc ?X ?I ?c ?m ?g ?k ?f ?h ?_; (case X => exact X₀.keeps F.keep); (case I => exact I); (case f => exact hf); (case c => k_is); (case m => rfl); (case g => k_is); (case k => k_is); (case h => exact hv))
  exact h
end
theorem words61a : True := by
  (k_with "getAttr ref" => (k_here; (with_reducible show wpAny _ _ (getAttr (Value.ref _) "errno" _) _ _ _); k_dflt (refine errno_get (by k_asm) (by k_asm) (by k_asm) (by k_mem) (by k_mem) (by rfl) ?_)))
  (k_with "getAttr ref" => (k_here; (with_reducible show wpAny _ _ (getAttr (Value.ref _) "free_type" _) _ _ _); k_dflt (refine free_get (by k_asm) (by k_asm) (by k_asm) (by k_mem) (by k_mem) (by rfl) ?_)))
  trivial
section
variable {w : World} {mean : ExcName → Option Value} {mg mb : Str → Option Value} {dp un : Nat} {cn : Str} {cs : Scope} {ca : Addr} {ccd : Value} {outer : List Env} {A₀ : Around} {base g₀ h₀ : Heap} {L : Addr} {m : Str → Option Value} {s : Shared} {Q E : Value → Shared → Prop}
theorem lawset_bytes {I d : Addr} {t1 t2 t3 ty t : Tok} {y0 : Str} {nv : Value} {ini : Bool} {b : Array UInt8} {news : List (Addr × Obj)}
  (CS : Cs w mean mg mb 7 dp un cn cs ca ccd outer A₀ base g₀ h₀ L) (F : Fr h₀ L s.heap m)
  (N : News h₀ L s.heap ((d, eightD w t1 t2 t3 nv y0 ty ini) :: news)) (hne : ∀ p ∈ news, p.1 ≠ d) (hI : (I, instObj 223 d) ∈ news) (hz : b.size ≤ 13)
  (good : b.size = 11 → (∀ c, b[0]? = some c → c.toNat ≠ 0 ∧ c.toNat ≠ 229) → ∀ r tr ti a h₀' h' tk', KtsTurn (outer.filterMap (·.frame)) g₀ h₀' → Fr h₀' L h' m → News h₀' L h' ((r, tupO #[.str "good" tr, .int 0 ti]) :: (d, eightD w t1 t2 t3 (.ref a) y0 ty true) :: (a, BA.O b) :: news) → Below A₀ base outer h₀' → (hd.heap_39 w.params).In h₀' → Top hd.view_39 LO mean mg mb h₀' → KtsDicts (outer.filterMap (·.frame)) h₀' → Q (.ref r) {s with heap := h', toks := tk'})
  (size : b.size ≠ 11 → ∀ r tr ti h₀' h' tk', KtsTurn (outer.filterMap (·.frame)) g₀ h₀' → Fr h₀' L h' m → News h₀' L h' ((r, tupO #[.str "size" tr, .int 0 ti]) :: (d, eightD w t1 t2 t3 nv y0 ty ini) :: news) → Below A₀ base outer h₀' → (hd.heap_39 w.params).In h₀' → Top hd.view_39 LO mean mg mb h₀' → KtsDicts (outer.filterMap (·.frame)) h₀' → Q (.ref r) {s with heap := h', toks := tk'})
  (mark : b.size = 11 → ∀ c, b[0]? = some c → (c.toNat = 0 ∨ c.toNat = 229) → ∀ r tr ti h₀' h' tk', KtsTurn (outer.filterMap (·.frame)) g₀ h₀' → Fr h₀' L h' m → News h₀' L h' ((r, tupO #[.str "mark" tr, .int (c.toNat : Int) ti]) :: (d, eightD w t1 t2 t3 nv y0 ty ini) :: news) → Below A₀ base outer h₀' → (hd.heap_39 w.params).In h₀' → Top hd.view_39 LO mean mg mb h₀' → KtsDicts (outer.filterMap (·.frame)) h₀' → Q (.ref r) {s with heap := h', toks := tk'}) :
  wpN (model PR w) (Ar dp un (envOf cn cs L ca ccd) outer) (call (.ref 298) [.ref I, .bool true, .bytes b t]) Q E s := by
  obtain ⟨⟨B, X, T, hf, hke, hdp, hu⟩, XB, TB, D, T0⟩ := CS
  replace hke : cs.kind = .function := hke
  unfold PR
  refine wpN.call ?_
  k_dflt walk_at "my_enterN"
  intro g' L' h' FG' F' N' B' X' T' D'
  replace F' : Fr g' L' h' (lk [("value", .bytes b t), ("octets", .bool true), ("one", .ref I)]) := F'
  have hdI : @Ne Nat I d := hne _ hI
  replace N' : News g' L' h' ((d, eightD w t1 t2 t3 nv y0 ty ini) :: (I, instObj 223 d) :: news) := inN2 N' hI
  have hne2 : ∀ p ∈ (I, instObj 223 d) :: news, p.1 ≠ d := fun p hp => (List.mem_cons.mp hp).elim (fun e => by rw [e]; exact hdI) (hne p)
  show wpN _ _ (execs _ _) _ _ _
  refine execsN_cons (execN_Try (execsN_cons (execN_If (wpN.of ?_))))
  k_fold
  k_steps
  refine execsN_cons (execN_Expr (evalN_method ?_))
  k_steps
  show wpN _ _ (callWith _ (Value.ref 165) [Value.ref I] (backTo _ (starEach [_] _)) []) _ _ _
  k_dflt (refine' callWithN_K (K := hd.heap_39 w.params) ?k ?_ ?he ?hp; (case k => k_is); (case he => rfl); (case hp => rfl))
  k_steps
  refine sbn_bytes (by walk_at "my_cs") (by k_asm) (by k_asm) hne2 (.head _) hz ?_ ?_ ?_
  · intro h11 hc a h2 tk2 F2 N2
    show wpN _ _ (execs [] _) _ _ _
    refine wpN.of ?_
    k_steps
    refine wpN.of ?_
    k_steps
    refine wpN.of ?_
    k_steps
    rename_i kF kN _ _
    exact good h11 hc _ _ _ a h₀ _ _ T0 kF (fun p hp => kN p (subG p hp)) B X T D
  · intro h11 e g h2 tk2 F2 R2 U2
    refine landed R2 B' U2 fun h3 R3 U3 _ => ?_
    k_dflt (refine' miss_own (KF := hd.heap_39 w.params) (C := 41) R3 F2 B' U3 XB TB ?ex ?hm ?_ ?hk ?hx ?hd; (case ex => k_is); (case hm => exact fun X he hc h => m_type_fat (by rw [isSubtype_type]; kernel_rfl) X he hc h); (case hk => rfl); (case hx => rfl); (case hd => decide))
    k_dflt (refine' miss_own (KF := hd.heap_39 w.params) (C := 63) R3 F2 B' U3 XB TB ?ex ?hm ?_ ?hk ?hx ?hd; (case ex => k_is); (case hm => exact fun X he hc h => m_type_naf (by rw [isSubtype_type]; kernel_rfl) X he hc h); (case hk => rfl); (case hx => rfl); (case hd => decide))
    k_dflt (refine' miss_type (KF := hd.heap_39 w.params) R3 F2 B' U3 XB TB ?ex PyProof.Rows.Boot.«TypeError» ?hn PySem.F.isExc_TypeError PySem.F.notTuple_TypeError ?hs ?_ ?hk ?hx ?hd; (case ex => k_is); (case hn => decide); (case hs => rw [isSubtype_type]; kernel_rfl); (case hk => rfl); (case hx => rfl); (case hd => decide))
    k_dflt (refine' hit_type (KF := hd.heap_39 w.params) R3 F2 B' U3 XB TB D' KtsTurn.refl ?ex PyProof.Rows.Boot.«ValueError» ?hn PySem.F.isExc_ValueError PySem.F.notTuple_ValueError ?hs ?_ ?hk ?hx ?hd ?hE; (case ex => k_is); (case hn => decide); (case hs => rw [isSubtype_type]; kernel_rfl); (case hk => rfl); (case hx => rfl); (case hd => decide); (case hE => passes_own))
    intro h4 g4 T4 F4 N4 B4 X4 P4 D4
    k_steps
    rename_i kg kT kF kN kB kX kP kD _
    exact size h11 _ _ _ kg _ _ kT kF (fun p hp => kN p (sub5 p hp)) kB kX kP kD
  · intro h11 c hc hcc e de th ti g h2 tk2 F2 R2 U2
    refine landedD R2 B' U2 fun h3 R3 U3 => ?_
    k_dflt (refine' miss_own (KF := hd.heap_39 w.params) (C := 41) R3.R F2 B' U3 XB TB ?ex ?hm ?_ ?hk ?hx ?hd; (case ex => k_is); (case hm => exact fun X he hc h => m_naf_fat X he hc h); (case hk => rfl); (case hx => rfl); (case hd => decide))
    k_dflt (refine' hit_as (KF := hd.heap_39 w.params) R3 F2 B' U3 XB TB D' KtsTurn.refl ?ex ?hm ?_ ?hk ?hlo ?hx ?hd; (case ex => k_is); (case hm => exact fun X he hc h => m_naf_naf X he hc h); (case hk => rfl); (case hlo => rfl); (case hx => rfl); (case hd => decide))
    intro h4 g4 oe ws tk4 T4 F4 N4 hoc hod hoe B4 X4 P4 D4
    obtain ⟨oc, odt, oda, osl⟩ := oe
    dsimp only at hoc hod hoe
    subst hoc hod hoe
    k_steps
    rename_i kg kT kF kN kB kX kP kD _
    exact mark h11 c hc hcc _ _ _ kg _ _ kT kF (fun p hp => kN p (subM p hp)) kB kX kP kD
end

-- 62_lawset2
theorem part62 : True := by
  w_top off
  trivial
section
variable {w : World} {mean : ExcName → Option Value} {mg mb : Str → Option Value} {dp un : Nat} {cn : Str} {cs : Scope} {ca : Addr} {ccd : Value} {outer : List Env} {A₀ : Around} {base g₀ h₀ : Heap} {L : Addr} {m : Str → Option Value} {s : Shared} {Q E : Value → Shared → Prop}
theorem lawset_str {I d : Addr} {t1 t2 t3 ty t : Tok} {y0 x : Str} {nv : Value} {ini : Bool} {news : List (Addr × Obj)}
  (CS : Cs w mean mg mb 7 dp un cn cs ca ccd outer A₀ base g₀ h₀ L) (F : Fr h₀ L s.heap m)
  (N : News h₀ L s.heap ((d, eightD w t1 t2 t3 nv y0 ty ini) :: news)) (hne : ∀ p ∈ news, p.1 ≠ d) (hI : (I, instObj 223 d) ∈ news) (hx : x.cps.size ≤ 19) (ha : ∀ c ∈ x.cps.toList, c ∈ alph)
  (good : confOf x.cps.toList = true → ∀ r tr ti a h₀' h' tk', KtsTurn (outer.filterMap (·.frame)) g₀ h₀' → Fr h₀' L h' m → News h₀' L h' ((r, tupO #[.str "good" tr, .int 0 ti]) :: (d, eightD w t1 t2 t3 (.ref a) y0 ty true) :: (a, BA.O (octOf x.cps.toList)) :: news) → Below A₀ base outer h₀' → (hd.heap_39 w.params).In h₀' → Top hd.view_39 LO mean mg mb h₀' → KtsDicts (outer.filterMap (·.frame)) h₀' → Q (.ref r) {s with heap := h', toks := tk'})
  (bad : confOf x.cps.toList = false → ∀ r tr ti h₀' h' tk', KtsTurn (outer.filterMap (·.frame)) g₀ h₀' → Fr h₀' L h' m → News h₀' L h' ((r, tupO #[.str "form" tr, .int 22 ti]) :: (d, eightD w t1 t2 t3 nv y0 ty ini) :: news) → Below A₀ base outer h₀' → (hd.heap_39 w.params).In h₀' → Top hd.view_39 LO mean mg mb h₀' → KtsDicts (outer.filterMap (·.frame)) h₀' → Q (.ref r) {s with heap := h', toks := tk'}) :
  wpN (model PR w) (Ar dp un (envOf cn cs L ca ccd) outer) (call (.ref 298) [.ref I, .bool false, .str x t]) Q E s := by
  obtain ⟨⟨B, X, T, hf, hke, hdp, hu⟩, XB, TB, D, T0⟩ := CS
  replace hke : cs.kind = .function := hke
  unfold PR
  refine wpN.call ?_
  k_dflt walk_at "my_enterN"
  intro g' L' h' FG' F' N' B' X' T' D'
  replace F' : Fr g' L' h' (lk [("value", .str x t), ("octets", .bool false), ("one", .ref I)]) := F'
  have hdI : @Ne Nat I d := hne _ hI
  replace N' : News g' L' h' ((d, eightD w t1 t2 t3 nv y0 ty ini) :: (I, instObj 223 d) :: news) := inN2 N' hI
  have hne2 : ∀ p ∈ (I, instObj 223 d) :: news, p.1 ≠ d := fun p hp => (List.mem_cons.mp hp).elim (fun e => by rw [e]; exact hdI) (hne p)
  show wpN _ _ (execs _ _) _ _ _
  refine execsN_cons (execN_Try (execsN_cons (execN_If (wpN.of ?_))))
  k_fold
  k_steps
  refine execsN_cons (execN_Expr (evalN_method ?_))
  k_steps
  show wpN _ _ (callWith _ (Value.ref 172) [Value.ref I] (backTo _ (starEach [_] _)) []) _ _ _
  k_dflt (refine' callWithN_K (K := hd.heap_39 w.params) ?k ?_ ?he ?hp; (case k => k_is); (case he => rfl); (case hp => rfl))
  k_steps
  refine ssn_str (by walk_at "my_cs") (by k_asm) (by k_asm) hne2 (.head _) hx ha ?_ ?_
  · intro hc a g2 h2 tk2 T2 F2 N2 B2 X2 P2 D2
    show wpN _ _ (execs [] _) _ _ _
    refine wpN.of ?_
    k_steps
    refine wpN.of ?_
    k_steps
    refine wpN.of ?_
    k_steps
    rename_i kg kT kF kN kB kX kP kD _
    exact good hc _ _ _ a kg _ _ kT kF (fun p hp => kN p (subG p hp)) kB kX kP kD
  · intro hc g2 e de th ti g h2 tk2 T2 F2 R2 U2 B2 X2 P2 D2
    refine landedD R2 B2 U2 fun h3 R3 U3 => ?_
    k_dflt (refine' hit_as (KF := hd.heap_39 w.params) R3 F2 B2 U3 XB TB D2 T2 ?ex ?hm ?_ ?hk ?hlo ?hx ?hd; (case ex => k_is); (case hm => exact fun X he hc h => m_fat_fat X he hc h); (case hk => rfl); (case hlo => rfl); (case hx => rfl); (case hd => decide))
    intro h4 g4 oe ws tk4 T4 F4 N4 hoc hod hoe B4 X4 P4 D4
    obtain ⟨oc, odt, oda, osl⟩ := oe
    dsimp only at hoc hod hoe
    subst hoc hod hoe
    k_steps
    rename_i kg kT kF kN kB kX kP kD _
    exact bad hc _ _ _ kg _ _ kT kF (fun p hp => kN p (subM p hp)) kB kX kP kD
end

-- 63_lawset3
theorem part63 : True := by
  w_top off
  trivial
theorem subT {x y z : Addr × Obj} {l : List (Addr × Obj)} : ∀ p ∈ x :: l, p ∈ x :: y :: z :: l := fun p hp => by
  rcases List.mem_cons.mp hp with rfl | hp
  · exact .head _
  · exact .tail _ (.tail _ (.tail _ hp))
theorem notbytes_sub {a b : Addr × Obj} {l : List (Addr × Obj)} {v : Value} (h : NotBytes l v) : NotBytes (a :: b :: l) v := by
  rcases h with h | h | h | h | ⟨r, items, n, h, hr⟩
  · exact .inl h
  · exact .inr (.inl h)
  · exact .inr (.inr (.inl h))
  · exact .inr (.inr (.inr (.inl h)))
  · exact .inr (.inr (.inr (.inr ⟨r, items, n, h, .tail _ (.tail _ hr)⟩)))
theorem notstr_sub {a b : Addr × Obj} {l : List (Addr × Obj)} {v : Value} (h : NotStr l v) : NotStr (a :: b :: l) v := by
  rcases h with h | h | h | h | ⟨r, items, n, h, hr⟩
  · exact .inl h
  · exact .inr (.inl h)
  · exact .inr (.inr (.inl h))
  · exact .inr (.inr (.inr (.inl h)))
  · exact .inr (.inr (.inr (.inr ⟨r, items, n, h, .tail _ (.tail _ hr)⟩)))
section
variable {w : World} {mean : ExcName → Option Value} {mg mb : Str → Option Value} {dp un : Nat} {cn : Str} {cs : Scope} {ca : Addr} {ccd : Value} {outer : List Env} {A₀ : Around} {base g₀ h₀ : Heap} {L : Addr} {m : Str → Option Value} {s : Shared} {Q E : Value → Shared → Prop}
theorem lawset_nb {I d : Addr} {t1 t2 t3 ty : Tok} {y0 : Str} {nv : Value} {ini : Bool} {v : Value} {news : List (Addr × Obj)}
  (CS : Cs w mean mg mb 7 dp un cn cs ca ccd outer A₀ base g₀ h₀ L) (F : Fr h₀ L s.heap m)
  (N : News h₀ L s.heap news) (hI : (I, instObj 223 d) ∈ news) (hdd : (d, eightD w t1 t2 t3 nv y0 ty ini) ∈ news) (hv : NotBytes news v)
  (ret : ∀ r tr ti h₀' h' tk', KtsTurn (outer.filterMap (·.frame)) g₀ h₀' → Fr h₀' L h' m → News h₀' L h' ((r, tupO #[.str "type" tr, .int 0 ti]) :: news) → Below A₀ base outer h₀' → (hd.heap_39 w.params).In h₀' → Top hd.view_39 LO mean mg mb h₀' → KtsDicts (outer.filterMap (·.frame)) h₀' → Q (.ref r) {s with heap := h', toks := tk'}) :
  wpN (model PR w) (Ar dp un (envOf cn cs L ca ccd) outer) (call (.ref 298) [.ref I, .bool true, v]) Q E s := by
  obtain ⟨⟨B, X, T, hf, hke, hdp, hu⟩, XB, TB, D, T0⟩ := CS
  replace hke : cs.kind = .function := hke
  unfold PR
  refine wpN.call ?_
  k_dflt walk_at "my_enterN"
  intro g' L' h' FG' F' N' B' X' T' D'
  replace F' : Fr g' L' h' (lk [("value", v), ("octets", .bool true), ("one", .ref I)]) := F'
  replace N' : News g' L' h' ((I, instObj 223 d) :: (d, eightD w t1 t2 t3 nv y0 ty ini) :: news) := inN (inN N' hdd) (.tail _ hI)
  show wpN _ _ (execs _ _) _ _ _
  refine execsN_cons (execN_Try (execsN_cons (execN_If (wpN.of ?_))))
  k_fold
  k_steps
  refine execsN_cons (execN_Expr (evalN_method ?_))
  k_steps
  show wpN _ _ (callWith _ (Value.ref 165) [Value.ref I] (backTo _ (starEach [_] _)) []) _ _ _
  k_dflt (refine' callWithN_K (K := hd.heap_39 w.params) ?k ?_ ?he ?hp; (case k => k_is); (case he => rfl); (case hp => rfl))
  k_steps
  refine wpN.of ?_
  refine sbn_other (by walk_at "my_cs") (by k_asm) N' (notbytes_sub hv) ?_
  intro e g h2 tk2 F2 R2 U2
  refine landed R2 B' U2 fun h3 R3 U3 _ => ?_
  k_dflt (refine' miss_own (KF := hd.heap_39 w.params) (C := 41) R3 F2 B' U3 XB TB ?ex ?hm ?_ ?hk ?hx ?hd; (case ex => k_is); (case hm => exact fun X he hc h => m_type_fat (by rw [isSubtype_type]; kernel_rfl) X he hc h); (case hk => rfl); (case hx => rfl); (case hd => decide))
  k_dflt (refine' miss_own (KF := hd.heap_39 w.params) (C := 63) R3 F2 B' U3 XB TB ?ex ?hm ?_ ?hk ?hx ?hd; (case ex => k_is); (case hm => exact fun X he hc h => m_type_naf (by rw [isSubtype_type]; kernel_rfl) X he hc h); (case hk => rfl); (case hx => rfl); (case hd => decide))
  k_dflt (refine' hit_type (KF := hd.heap_39 w.params) R3 F2 B' U3 XB TB D' KtsTurn.refl ?ex PyProof.Rows.Boot.«TypeError» ?hn PySem.F.isExc_TypeError PySem.F.notTuple_TypeError ?hs ?_ ?hk ?hx ?hd ?hE; (case ex => k_is); (case hn => decide); (case hs => rw [isSubtype_type]; kernel_rfl); (case hk => rfl); (case hx => rfl); (case hd => decide); (case hE => passes_own))
  intro h4 g4 T4 F4 N4 B4 X4 P4 D4
  k_steps
  rename_i kg kT kF kN kB kX kP kD _
  exact ret _ _ _ kg _ _ kT kF (fun p hp => kN p (subT p hp)) kB kX kP kD
theorem lawset_ns {I d : Addr} {t1 t2 t3 ty : Tok} {y0 : Str} {nv : Value} {ini : Bool} {v : Value} {news : List (Addr × Obj)}
  (CS : Cs w mean mg mb 7 dp un cn cs ca ccd outer A₀ base g₀ h₀ L) (F : Fr h₀ L s.heap m)
  (N : News h₀ L s.heap news) (hI : (I, instObj 223 d) ∈ news) (hdd : (d, eightD w t1 t2 t3 nv y0 ty ini) ∈ news) (hv : NotStr news v)
  (ret : ∀ r tr ti h₀' h' tk', KtsTurn (outer.filterMap (·.frame)) g₀ h₀' → Fr h₀' L h' m → News h₀' L h' ((r, tupO #[.str "type" tr, .int 0 ti]) :: news) → Below A₀ base outer h₀' → (hd.heap_39 w.params).In h₀' → Top hd.view_39 LO mean mg mb h₀' → KtsDicts (outer.filterMap (·.frame)) h₀' → Q (.ref r) {s with heap := h', toks := tk'}) :
  wpN (model PR w) (Ar dp un (envOf cn cs L ca ccd) outer) (call (.ref 298) [.ref I, .bool false, v]) Q E s := by
  obtain ⟨⟨B, X, T, hf, hke, hdp, hu⟩, XB, TB, D, T0⟩ := CS
  replace hke : cs.kind = .function := hke
  unfold PR
  refine wpN.call ?_
  k_dflt walk_at "my_enterN"
  intro g' L' h' FG' F' N' B' X' T' D'
  replace F' : Fr g' L' h' (lk [("value", v), ("octets", .bool false), ("one", .ref I)]) := F'
  replace N' : News g' L' h' ((I, instObj 223 d) :: (d, eightD w t1 t2 t3 nv y0 ty ini) :: news) := inN (inN N' hdd) (.tail _ hI)
  show wpN _ _ (execs _ _) _ _ _
  refine execsN_cons (execN_Try (execsN_cons (execN_If (wpN.of ?_))))
  k_fold
  k_steps
  refine execsN_cons (execN_Expr (evalN_method ?_))
  k_steps
  show wpN _ _ (callWith _ (Value.ref 172) [Value.ref I] (backTo _ (starEach [_] _)) []) _ _ _
  k_dflt (refine' callWithN_K (K := hd.heap_39 w.params) ?k ?_ ?he ?hp; (case k => k_is); (case he => rfl); (case hp => rfl))
  k_steps
  refine wpN.of ?_
  refine ssn_other (by walk_at "my_cs") (by k_asm) N' (notstr_sub hv) ?_
  intro e g h2 tk2 F2 R2 U2
  refine landed R2 B' U2 fun h3 R3 U3 _ => ?_
  k_dflt (refine' miss_own (KF := hd.heap_39 w.params) (C := 41) R3 F2 B' U3 XB TB ?ex ?hm ?_ ?hk ?hx ?hd; (case ex => k_is); (case hm => exact fun X he hc h => m_type_fat (by rw [isSubtype_type]; kernel_rfl) X he hc h); (case hk => rfl); (case hx => rfl); (case hd => decide))
  k_dflt (refine' miss_own (KF := hd.heap_39 w.params) (C := 63) R3 F2 B' U3 XB TB ?ex ?hm ?_ ?hk ?hx ?hd; (case ex => k_is); (case hm => exact fun X he hc h => m_type_naf (by rw [isSubtype_type]; kernel_rfl) X he hc h); (case hk => rfl); (case hx => rfl); (case hd => decide))
  k_dflt (refine' hit_type (KF := hd.heap_39 w.params) R3 F2 B' U3 XB TB D' KtsTurn.refl ?ex PyProof.Rows.Boot.«TypeError» ?hn PySem.F.isExc_TypeError PySem.F.notTuple_TypeError ?hs ?_ ?hk ?hx ?hd ?hE; (case ex => k_is); (case hn => decide); (case hs => rw [isSubtype_type]; kernel_rfl); (case hk => rfl); (case hx => rfl); (case hd => decide); (case hE => passes_own))
  intro h4 g4 T4 F4 N4 B4 X4 P4 D4
  k_steps
  rename_i kg kT kF kN kB kX kP kD _
  exact ret _ _ _ kg _ _ kT kF (fun p hp => kN p (subT p hp)) kB kX kP kD
end

-- 64_forn
theorem part64 : True := by
  w_top off
  trivial
section
variable {prog : Program} {w : World} {A : Around} {E : Value → Shared → Prop} {s : Shared} {env : Env} {h₀ : Heap}
theorem codeN_forLoop {R : Result → Shared → Prop} {target it : _} {body : List Stmt} (I : Nat → Shared → Prop)
    (turn : ∀ n s, I n s → wpAny (model prog w) A (pyNext it) (fun r s₁ => match r with
      | none => R (.ok .next) s₁
      | some v => wpAny (model prog w) A (assign target env v) (fun _ s₂ => wpN (model prog w) A (execs body env) (fun f s₃ => match f with
          | .next | .cont => ∃ m, m < n ∧ I m s₃
          | .brk => R (.ok .next) s₃
          | .ret v => R (.ok (.ret v)) s₃) (fun _ _ => False) s₂) (fun _ _ => False) s₁) (fun _ _ => False) s)
    (n : Nat) (h : I n s) (ht : ∀ v, letOwnedTupleGo target it v = pure () := by intro _; rfl) : codeN (model prog w) A (.forLoop target it body [] env) R s := by
  refine codeN.loop rfl rfl I (fun n s hI => ?_) n h
  show wpN _ _ ((forTurn target it body [] env).onRaise (fun x => do noteFrame x env; theTreesLotGoes x)) _ _ s
  refine wpN.onRaise (wpN.mono (E := fun _ _ => False) ?_ (fun _ _ x => x) fun _ _ x => x.elim)
  simp only [forTurn]
  refine wpN.leaf (wpAny_standAt (wpN.leaf (wpAny_onRaise (wpAny_mono (turn n s hI) (fun r s₁ h₁ => ?_) fun _ _ h' => h'.elim))))
  cases r with
  | none => exact wpN.pure (.inr ⟨rfl, rfl, codeN.of (codeAny_block (by rw [execs_nil]; exact wpAny_pure h₁))⟩)
  | some v =>
    refine wpN.leaf (wpAny_of_eq (ht v) ?_)
    refine wpN.leaf (wpAny_mono h₁ (fun _ s₂ h₂ => wpN.bind (wpN.mono h₂ (fun f s₃ h₃ => ?_) fun _ _ h' => h')) fun _ _ h' => h')
    cases f with
    | next => exact wpN.pure (.inl ⟨rfl, h₃⟩)
    | cont => exact wpN.pure (.inl ⟨rfl, h₃⟩)
    | brk => exact wpN.pure h₃
    | ret v => exact wpN.pure h₃
end
section
variable {M : Model} {A : Around} {E : Value → Shared → Prop} {s : Shared} {env : Env}
theorem execN_For {target iter body pos} {Q : Flow → Shared → Prop}
    (h : wpAny M A (eval iter env) (fun x s₁ => wpAny M A (pyIter x) (fun it s₂ =>
      codeN M A (.forLoop target it body [] env) (fun r s' => match r with | .ok f => Q f s' | .error e => cameBackBy M A env E e s') s₂) E s₁) E s)
    (hs : ∀ x, foldedSetIterable iter env x = pure x := by intro _; rfl) :
    wpN M A (exec (.For target iter body [] pos) env) Q E s := by
  rw [exec_For]
  exact wpN.leaf (wpAny_standAt (wpN.leaf (wpAny_mono h (fun x s₁ h₁ => wpN.leaf (wpAny_of_eq (hs x) (wpN.leaf (wpAny_standAt (wpN.leaf (wpAny_holding
    (wpAny_mono h₁ (fun it s₂ h₂ => wpN.runOwn h₂) fun _ _ h' => h'))))))) fun _ _ h' => h')))
end
section
variable {prog : Program} {w : World} {A : Around} {E : Value → Shared → Prop} {s : Shared} {env : Env} {h₀ : Heap} {x : Str} {px : Pos} {body : List Stmt} {Q : Flow → Shared → Prop}
theorem loopN {L a : Addr} {vs : List Value} {k : Nat} {m₀ : Str → Option Value} {news : List (Addr × Obj)} (J : Nat → (Str → Option Value) → List (Addr × Obj) → Prop)
    (hL : env.locals = L) (hx : env.kindOf x = some .local)
    (hp : (env.scope.kind == .class || (env.scope.kind == .module && env.locals != env.globals)) = false) (hh : A.handled = none)
    (F : Fr h₀ L s.heap m₀) (N : News h₀ L s.heap news) (hm : (a, W.listOf vs.toArray k) ∈ news) (hj : J 0 m₀ news) (hJf : ∀ i m nx, J i m nx → (a, W.listOf vs.toArray k) ∈ nx)
    (turn : ∀ i v m₁ nx h tk own E', vs[i]? = some v → J i m₁ nx → (∀ q ∈ own, q.2.cls = .type "list_iterator") → Fr h₀ L h (fun y => if y = x then some v else m₁ y) → News h₀ L h (nx ++ own) →
      wpN (model prog w) A (execs body env) (PostX h₀ L own (J (i + 1)) { s with heap := h, toks := tk } Q) E' { s with heap := h, toks := tk })
    (done : ∀ m₁ nx h tk, J vs.length m₁ nx → Fr h₀ L h m₁ → News h₀ L h nx → Q .next { s with heap := h, toks := tk }) :
    wpAny (model prog w) A (pyIter (.ref a)) (fun it s₂ => codeN (model prog w) A (.forLoop (.Name x px) it body [] env) (fun r s' => match r with | .ok f => Q f s' | .error e => cameBackBy (model prog w) A env E e s') s₂) E s := by
  subst hL
  have ha := N _ hm
  have hl : s.heap.IsList a vs.toArray := ⟨_, ha.1, rfl, k, rfl⟩
  have hne : a ≠ s.heap.objs.size := Nat.ne_of_lt (Heap.lt_size ha.1)
  refine wpAny_pyIter_list hl ?_
  have W := Walks.list (prog := prog) (w := w) hh s.heap.objs.size a hne vs.toArray
  refine codeN_forLoop (fun j s' => ∃ h' tk m' nx i, s' = { s with heap := h', toks := tk } ∧ (h'.IsListIter s.heap.objs.size a i ∧ h'.IsList a vs.toArray) ∧ Fr h₀ env.locals h' m' ∧ News h₀ env.locals h' nx ∧ (∀ p ∈ nx, p.1 ≠ s.heap.objs.size) ∧ J i m' nx ∧ i ≤ vs.length ∧ j = vs.length + 1 - i) ?_ (vs.length + 1)
    ⟨_, _, m₀, news, 0, rfl, ⟨⟨_, Heap.get?_push_size _ rfl, rfl, rfl⟩, hl.at fun o e => Heap.get?_push_of_some _ e⟩, F.push _, fun p hp => ⟨Heap.get?_push_of_some _ (N p hp).1, (N p hp).2⟩, fun p hp => Nat.ne_of_lt (Heap.lt_size (N p hp).1), hj, Nat.zero_le _, rfl⟩
  rintro j s' ⟨h', tk, m', nx, i, rfl, st, F', N', hnw, hJ, hi, rfl⟩
  have hLI : env.locals ≠ s.heap.objs.size := fun e => absurd F.ns.lt (e ▸ Nat.lt_irrefl _)
  have hI0 : h₀.get? s.heap.objs.size = none := next_is_new F
  have old : ∀ b o, h₀.get? b = some o → b ≠ s.heap.objs.size := fun b o e q => by rw [q, hI0] at e; cases e
  have next : ∀ h₁ : Heap, (∀ b o, b ∉ [s.heap.objs.size] → h'.get? b = some o → h₁.get? b = some o) → Fr h₀ env.locals h₁ m' ∧ News h₀ env.locals h₁ nx := fun h₁ hk =>
    ⟨⟨F'.ns.at' fun o e => hk _ o (by simpa using hLI) e, fun b o e => hk b o (by simpa using old b o e) (F'.keep b o e), F'.above⟩, fun p hp => ⟨hk _ _ (by simpa using hnw p hp) (N' p hp).1, (N' p hp).2⟩⟩
  by_cases hlt : i < vs.length
  · refine W.item i _ _ _ (by simpa using hlt) st fun v h₁ tk₁ hP st₁ hk₁ => ?_
    obtain ⟨F₁, N₁⟩ := next h₁ hk₁
    refine wpAny_assign_Name (wpAny_storeName_local hx F₁.ns (fun h₂ hn₂ hs₂ => ?_) hp)
    have F₂ := F₁.set hn₂ hs₂
    obtain ⟨oI, hoI, hI1⟩ := st₁.1
    have hoI2 : h₂.get? s.heap.objs.size = some oI := (hs₂.2 _ fun q => hLI q.symm).trans hoI
    have N₂ : News h₀ env.locals h₂ (nx ++ [(s.heap.objs.size, oI)]) := fun p hp => by
      rcases List.mem_append.mp hp with hp | hp
      · exact (N₁.set hs₂) p hp
      · rw [List.mem_singleton.mp hp]; exact ⟨hoI2, fun q => hLI q.symm, hI0⟩
    have hv : vs[i]? = some v := by simpa using hP
    refine wpN.mono (turn i v m' nx h₂ _ [(s.heap.objs.size, oI)] _ hv hJ (fun q hq => by rw [List.mem_singleton.mp hq]; exact hI1.1) F₂ N₂) (fun f s₃ h₃ => ?_) fun _ _ e => e
    have goOn : ∀ tkx : Nat, EndX h₀ env.locals [(s.heap.objs.size, oI)] (J (i + 1)) { s with heap := h₂, toks := tkx } s₃ → ∃ m, m < vs.length + 1 - i ∧ ∃ h' tk m' nx i, s₃ = { s with heap := h', toks := tk } ∧ (h'.IsListIter s.heap.objs.size a i ∧ h'.IsList a vs.toArray) ∧ Fr h₀ env.locals h' m' ∧ News h₀ env.locals h' nx ∧ (∀ p ∈ nx, p.1 ≠ s.heap.objs.size) ∧ J i m' nx ∧ i ≤ vs.length ∧ m = vs.length + 1 - i := by
      rintro tkx ⟨h₃', tk₃, m₃, nx₃, rfl, F₃, N₃, hap, hJ₃⟩
      refine ⟨vs.length + 1 - (i + 1), by omega, h₃', tk₃, m₃, nx₃, i + 1, rfl, ⟨?_, ?_⟩, F₃, fun p hp => N₃ p (List.mem_append_left _ hp), fun p hp => hap p hp _ (.head _), hJ₃, hlt, rfl⟩
      · exact ⟨oI, (N₃ _ (List.mem_append_right _ (.head _))).1, hI1⟩
      · exact ⟨_, (N₃ _ (List.mem_append_left _ (hJf _ _ _ hJ₃))).1, rfl, k, rfl⟩
    cases f with
    | ret v => exact h₃
    | brk => exact h₃
    | cont => exact goOn _ h₃
    | next => exact goOn _ h₃
  · have hin : i = vs.length := Nat.le_antisymm hi (Nat.le_of_not_lt hlt)
    subst hin
    refine W.done _ _ _ (by simpa using st) fun h₁ tk₁ hk₁ => ?_
    obtain ⟨F₁, N₁⟩ := next h₁ hk₁
    exact done m' nx h₁ tk₁ hJ F₁ N₁
end
local macro_rules | `(tactic| walk_at "pyIter ref") => `(tactic| (k_here; (with_reducible show wpAny _ _ (pyIter (Value.ref _)) (fun it s₂ => codeN _ _ (Code.forLoop _ _ _ _ _) _ s₂) _ _); refine Stop.out ?_))

-- 65_back
theorem part65 : True := by
  w_top off
  trivial
theorem kts0_fr {h₀ h₁ g : Heap} {L : Addr} {m : Str → Option Value} (T : KtsTurn [] h₀ h₁) (F : Fr h₁ L g m) : Fr h₀ L g m :=
  ⟨F.ns, fun b o e => F.keep b o (T.other b o e (fun x => nomatch x)), T.size ▸ F.above⟩
theorem kts0_news {h₀ h₁ g : Heap} {L : Addr} {news : List (Addr × Obj)} (T : KtsTurn [] h₀ h₁) (N : News h₁ L g news) : News h₀ L g news := fun p hp =>
  ⟨(N p hp).1, (N p hp).2.1, by
    cases e : h₀.get? p.1 with
    | none => rfl
    | some o => have := T.other _ o e (fun x => nomatch x); rw [(N p hp).2.2] at this; cases this⟩
section
variable {w : World} {mean : ExcName → Option Value} {mg mb : Str → Option Value} {dp un : Nat} {cn : Str} {cs : Scope} {ca : Addr} {ccd : Value} {A₀ : Around} {base h₀ : Heap} {L : Addr} {m : Str → Option Value} {s : Shared} {Q E : Value → Shared → Prop}
theorem none_law {I d : Addr} {t1 t2 t3 ty : Tok} {y0 : Str} {nv : Value} {news : List (Addr × Obj)}
  (CS : Cs w mean mg mb 6 dp un cn cs ca ccd [] A₀ base h₀ h₀ L) (F : Fr h₀ L s.heap m)
  (N : News h₀ L s.heap news) (hI : (I, instObj 223 d) ∈ news) (hdd : (d, eightD w t1 t2 t3 nv y0 ty false) ∈ news)
  (ret : ∀ h' tk', Fr h₀ L h' m → News h₀ L h' news → Q (.bool true) {s with heap := h', toks := tk'}) :
  wpAny (model PR w) (Ar dp un (envOf cn cs L ca ccd) []) (call (.ref 312) [.ref I, .none]) Q E s :=
  none_spec CS F N hI hdd fun h₁ h' tk' T F' N' _ _ _ _ => ret h' tk' (kts0_fr T F') (kts0_news T N')
theorem pconf1_law {x : Str} {t1 : Tok} {news : List (Addr × Obj)}
  (CS : Cs w mean mg mb 3 dp un cn cs ca ccd [] A₀ base h₀ h₀ L) (F : Fr h₀ L s.heap m)
  (N : News h₀ L s.heap news) (hx : x.cps.size ≤ 19)
  (ret : ∀ h' tk', Fr h₀ L h' m → News h₀ L h' news → Q (.bool (pconfOf x)) {s with heap := h', toks := tk'}) :
  wpAny (model PR w) (Ar dp un (envOf cn cs L ca ccd) []) (call (.ref 197) [.str x t1]) Q E s :=
  pconf1_spec CS F N hx fun h₁ h' tk' T F' N' _ _ _ _ => ret h' tk' (kts0_fr T F') (kts0_news T N')
theorem bytes_law {I d : Addr} {t1 t2 t3 ty t : Tok} {y0 : Str} {nv : Value} {ini : Bool} {b : Array UInt8} {news : List (Addr × Obj)}
  (CS : Cs w mean mg mb 7 dp un cn cs ca ccd [] A₀ base h₀ h₀ L) (F : Fr h₀ L s.heap m)
  (N : News h₀ L s.heap ((d, eightD w t1 t2 t3 nv y0 ty ini) :: news)) (hne : ∀ p ∈ news, p.1 ≠ d) (hI : (I, instObj 223 d) ∈ news) (hz : b.size ≤ 13)
  (good : b.size = 11 → (∀ c, b[0]? = some c → c.toNat ≠ 0 ∧ c.toNat ≠ 229) → ∀ r tr ti a h' tk', Fr h₀ L h' m → News h₀ L h' ((r, tupO #[.str "good" tr, .int 0 ti]) :: (d, eightD w t1 t2 t3 (.ref a) y0 ty true) :: (a, BA.O b) :: news) → Q (.ref r) {s with heap := h', toks := tk'})
  (size : b.size ≠ 11 → ∀ r tr ti h' tk', Fr h₀ L h' m → News h₀ L h' ((r, tupO #[.str "size" tr, .int 0 ti]) :: (d, eightD w t1 t2 t3 nv y0 ty ini) :: news) → Q (.ref r) {s with heap := h', toks := tk'})
  (mark : b.size = 11 → ∀ c, b[0]? = some c → (c.toNat = 0 ∨ c.toNat = 229) → ∀ r tr ti h' tk', Fr h₀ L h' m → News h₀ L h' ((r, tupO #[.str "mark" tr, .int (c.toNat : Int) ti]) :: (d, eightD w t1 t2 t3 nv y0 ty ini) :: news) → Q (.ref r) {s with heap := h', toks := tk'}) :
  wpN (model PR w) (Ar dp un (envOf cn cs L ca ccd) []) (call (.ref 298) [.ref I, .bool true, .bytes b t]) Q E s :=
  lawset_bytes CS F N hne hI hz
    (fun h1 h2 r tr ti a h₁ h' tk' T F' N' _ _ _ _ => good h1 h2 r tr ti a h' tk' (kts0_fr T F') (kts0_news T N'))
    (fun h1 r tr ti h₁ h' tk' T F' N' _ _ _ _ => size h1 r tr ti h' tk' (kts0_fr T F') (kts0_news T N'))
    (fun h1 c h2 h3 r tr ti h₁ h' tk' T F' N' _ _ _ _ => mark h1 c h2 h3 r tr ti h' tk' (kts0_fr T F') (kts0_news T N'))
theorem str_law {I d : Addr} {t1 t2 t3 ty t : Tok} {y0 x : Str} {nv : Value} {ini : Bool} {news : List (Addr × Obj)}
  (CS : Cs w mean mg mb 7 dp un cn cs ca ccd [] A₀ base h₀ h₀ L) (F : Fr h₀ L s.heap m)
  (N : News h₀ L s.heap ((d, eightD w t1 t2 t3 nv y0 ty ini) :: news)) (hne : ∀ p ∈ news, p.1 ≠ d) (hI : (I, instObj 223 d) ∈ news) (hx : x.cps.size ≤ 19) (ha : ∀ c ∈ x.cps.toList, c ∈ alph)
  (good : confOf x.cps.toList = true → ∀ r tr ti a h' tk', Fr h₀ L h' m → News h₀ L h' ((r, tupO #[.str "good" tr, .int 0 ti]) :: (d, eightD w t1 t2 t3 (.ref a) y0 ty true) :: (a, BA.O (octOf x.cps.toList)) :: news) → Q (.ref r) {s with heap := h', toks := tk'})
  (bad : confOf x.cps.toList = false → ∀ r tr ti h' tk', Fr h₀ L h' m → News h₀ L h' ((r, tupO #[.str "form" tr, .int 22 ti]) :: (d, eightD w t1 t2 t3 nv y0 ty ini) :: news) → Q (.ref r) {s with heap := h', toks := tk'}) :
  wpN (model PR w) (Ar dp un (envOf cn cs L ca ccd) []) (call (.ref 298) [.ref I, .bool false, .str x t]) Q E s :=
  lawset_str CS F N hne hI hx ha
    (fun h1 r tr ti a h₁ h' tk' T F' N' _ _ _ _ => good h1 r tr ti a h' tk' (kts0_fr T F') (kts0_news T N'))
    (fun h1 r tr ti h₁ h' tk' T F' N' _ _ _ _ => bad h1 r tr ti h' tk' (kts0_fr T F') (kts0_news T N'))
theorem nb_law {I d : Addr} {t1 t2 t3 ty : Tok} {y0 : Str} {nv : Value} {ini : Bool} {v : Value} {news : List (Addr × Obj)}
  (CS : Cs w mean mg mb 7 dp un cn cs ca ccd [] A₀ base h₀ h₀ L) (F : Fr h₀ L s.heap m)
  (N : News h₀ L s.heap news) (hI : (I, instObj 223 d) ∈ news) (hdd : (d, eightD w t1 t2 t3 nv y0 ty ini) ∈ news) (hv : NotBytes news v)
  (ret : ∀ r tr ti h' tk', Fr h₀ L h' m → News h₀ L h' ((r, tupO #[.str "type" tr, .int 0 ti]) :: news) → Q (.ref r) {s with heap := h', toks := tk'}) :
  wpN (model PR w) (Ar dp un (envOf cn cs L ca ccd) []) (call (.ref 298) [.ref I, .bool true, v]) Q E s :=
  lawset_nb CS F N hI hdd hv fun r tr ti h₁ h' tk' T F' N' _ _ _ _ => ret r tr ti h' tk' (kts0_fr T F') (kts0_news T N')
theorem ns_law {I d : Addr} {t1 t2 t3 ty : Tok} {y0 : Str} {nv : Value} {ini : Bool} {v : Value} {news : List (Addr × Obj)}
  (CS : Cs w mean mg mb 7 dp un cn cs ca ccd [] A₀ base h₀ h₀ L) (F : Fr h₀ L s.heap m)
  (N : News h₀ L s.heap news) (hI : (I, instObj 223 d) ∈ news) (hdd : (d, eightD w t1 t2 t3 nv y0 ty ini) ∈ news) (hv : NotStr news v)
  (ret : ∀ r tr ti h' tk', Fr h₀ L h' m → News h₀ L h' ((r, tupO #[.str "type" tr, .int 0 ti]) :: news) → Q (.ref r) {s with heap := h', toks := tk'}) :
  wpN (model PR w) (Ar dp un (envOf cn cs L ca ccd) []) (call (.ref 298) [.ref I, .bool false, v]) Q E s :=
  lawset_ns CS F N hI hdd hv fun r tr ti h₁ h' tk' T F' N' _ _ _ _ => ret r tr ti h' tk' (kts0_fr T F') (kts0_news T N')
end

-- 66_enter
theorem part66 : True := by
  w_top off
  trivial
theorem codeN_lawEnter {prog : Program} {w : World} {A : Around} {s : Shared} {K : Frag} {p : Program} {loose : List Str} {mean : ExcName → Option Value} {mg mb : Str → Option Value}
    {R : Result → Shared → Prop} {name qual : Str} {params : Arguments} {body : List Stmt} {scope : Scope} {dV kV doc pm cdv ct oc : Value} {an od : Option Addr} {osl : Array (Option Value)} {f : Addr} {args : Args} {binds : List (Str × Value)}
    (X : K.In s.heap) (T : Top p loose mean mg mb s.heap)
    (ho : K.lookup f = some ⟨oc, od, .func (fnOf name qual params body scope dV kV doc pm an cdv ct), osl⟩) (hcd : codeIn K cdv qual = true) (hroom : A.depth < recursionLimit)
    (hbind : BindsTo s (fnOf name qual params body scope dV kV doc pm an cdv ct) args binds) (hloc : ∀ y ∈ binds, scope.names.lookup y.1 = some .local)
    (h : ∀ L' h₁ tk E', Fr s.heap L' h₁ (fun y => binds.reverse.lookup y) →
      wpN (model prog w) (A.deeper (envOf qual scope L' f cdv)) (execs body (envOf qual scope L' f cdv))
        (fun fl s' => R (.ok (.ret (match fl with | .ret v => v | _ => .none))) s') E'
        { s with heap := h₁, toks := tk })
    (hco : scope.isCoroutine = false) (hgen : scope.isGenerator = false) (hk : scope.kind = .function)
    (hcell : ∀ x ∈ scope.names, x.2 ≠ .cell) : codeN (model prog w) A (.call (.ref f) args) R s := by
  refine codeN_call_function (fd := fnOf name qual params body scope dV kV doc pm an cdv ct) (body := body) hroom (X _ _ ho) rfl hco hgen rfl (codeRec_of X hcd) (hbind _ _ _ _ ?_)
  refine wpAny_newFunctionEnv hcell hloc (fun h₁ hns hsb => ⟨T.nolimit.fresh _ hsb, ?_⟩) hk
  show codeN _ _ (.func body (envOf qual scope s.heap.objs.size f cdv)) _ _
  refine codeN_func (wpN.mono (h s.heap.objs.size h₁ _ (fun _ _ => False) ⟨hns, fun b o e => hsb.extBut b o (Nat.ne_of_lt (Heap.lt_size e)) (Heap.get?_push_of_some _ e), Nat.le_refl _⟩) (fun fl s' hl => hl) fun _ _ y => y.elim)
section
variable {M : Model} {A : Around} {E : Value → Shared → Prop} {s : Shared} {env : Env}
theorem execsN_consS {st : Stmt} {rest : List Stmt} {Q : Flow → Shared → Prop}
    (h : wpN M A (exec st env) (fun f s' => match f with | .next => Stop (wpN M A (execs rest env) Q E s') | f => Q f s') E s) : wpN M A (execs (st :: rest) env) Q E s :=
  execsN_cons (wpN.mono h (fun f s' h' => by cases f <;> first | exact h'.out | exact h') fun _ _ e => e)
theorem execsN_consW {st : Stmt} {rest : List Stmt} {Q : Flow → Shared → Prop}
    (h : wpAny M A (exec st env) (fun f s' => match f with | .next => Stop (wpN M A (execs rest env) Q E s') | f => Q f s') E s) : wpN M A (execs (st :: rest) env) Q E s :=
  execsN_consS (wpN.of h)
end
theorem news_sub {h₀ h : Heap} {L : Addr} {news news' : List (Addr × Obj)} (N : News h₀ L h news) (sub : ∀ p ∈ news', p ∈ news) : News h₀ L h news' := fun p hp => N p (sub p hp)
theorem ne_ref {a b : Addr} {o : Obj} {l : List (Addr × Obj)} (h : @Ne Nat a b) (r : ∀ p ∈ l, p.1 ≠ b) : ∀ p ∈ (a, o) :: l, p.1 ≠ b := fun p hp => (List.mem_cons.mp hp).elim (fun e => by rw [e]; exact h) (r p)
theorem ne_nil {b : Addr} : ∀ p ∈ ([] : List (Addr × Obj)), p.1 ≠ b := fun p hp => nomatch hp
theorem besideB : ((([79, 84, 72, 69, 82, 32, 32, 32, 84, 88, 84] : List Int).map fun n => n.toNat.toUInt8).toArray).size = 11 := by decide +kernel
theorem besideI : bI ((([79, 84, 72, 69, 82, 32, 32, 32, 84, 88, 84] : List Int).map fun n => n.toNat.toUInt8).toArray) = [79, 84, 72, 69, 82, 32, 32, 32, 84, 88, 84] := by decide +kernel
theorem beside0 : ∀ c, ((([79, 84, 72, 69, 82, 32, 32, 32, 84, 88, 84] : List Int).map fun n => n.toNat.toUInt8).toArray)[0]? = some c → c.toNat = 79 := by
  intro c h
  have : (79 : UInt8) = c := Option.some.inj h
  rw [← this]; rfl
theorem besideOk : ∀ q ∈ ([79, 84, 72, 69, 82, 32, 32, 32, 84, 88, 84] : List Int), okI q := by
  unfold okI
  decide
-- 67_turn
theorem part67 : True := by
  w_top off
  trivial
theorem news_ne {h₀ h : Heap} {L : Addr} {news : List (Addr × Obj)} (N : News h₀ L h news) {p q : Addr × Obj} (hp : p ∈ news) (hq : q ∈ news) (hc : p.2.cls ≠ q.2.cls) : p.1 ≠ q.1 := fun e => by
  have h1 := (N _ hp).1
  rw [e, (N _ hq).1] at h1
  exact hc (by rw [Option.some.inj h1])
/-- what the law holds of `one` -/
def HeldIs (nv : Value) (ini : Bool) (held : Value) (extra : List (Addr × Obj)) : Prop :=
  (ini = false ∧ held = .none ∧ extra = []) ∨
  (∃ a b r vs n, nv = .ref a ∧ ini = true ∧ held = .ref r ∧ extra = [(a, BA.O b), (r, W.listOf vs.toArray n)] ∧ b.size = 11 ∧ IntsAre vs (bI b) ∧ ∀ q ∈ bI b, okI q)
theorem HeldIs.cls {nv : Value} {ini : Bool} {held : Value} {extra : List (Addr × Obj)} (H : HeldIs nv ini held extra) : ∀ p ∈ extra, p.2.cls ≠ .type "list_iterator" ∧ p.2.cls ≠ .type "dict" := by
  rcases H with ⟨_, _, rfl⟩ | ⟨a, b, r, vs, n, _, _, _, rfl, _⟩
  · intro p hp; cases hp
  · intro p hp
    simp only [List.mem_cons, List.not_mem_nil, or_false] at hp
    rcases hp with rfl | rfl
    · exact ⟨by show Value.type "bytearray" ≠ _; decide, by show Value.type "bytearray" ≠ _; decide⟩
    · exact ⟨by show Value.type "list" ≠ _; decide, by show Value.type "list" ≠ _; decide⟩
theorem no5 {b : Array UInt8} (h : ∀ q ∈ bI b, okI q) : ∀ c, b[0]? = some c → c.toNat ≠ 5 := by
  intro c hc e
  have hm : ((c.toNat : Nat) : Int) ∈ bI b := by
    unfold bI
    exact List.mem_map_of_mem (by
      have := List.mem_of_getElem? (l := b.toList) (i := 0) (a := c) (by simpa using hc)
      exact this)
  have := h _ hm
  unfold okI at this
  omega
/-- the names and the ledger of a turn -/
def TurnK (w : World) (d I d2 I2 a2 bs D : Addr) (t1 t2 t3 u1 u2 u3 ty1 ty2 : Tok) (y1 y2 : Str) (bb : Array UInt8) (bv ws : List Value) (m : Str → Option Value) (nx : List (Addr × Obj)) : Prop :=
  ∃ nv ini held extra, HeldIs nv ini held extra ∧ (m "held" = some held ∧ m "one" = some (.ref I) ∧ m "other" = some (.ref I2) ∧ m "beside" = some (.ref bs)) ∧
    nx = (d, eightD w t1 t2 t3 nv y1 ty1 ini) :: (I, instObj 223 d) :: (I2, instObj 223 d2) :: (d2, eightD w u1 u2 u3 (.ref a2) y2 ty2 true) :: (a2, BA.O bb) :: (bs, W.listOf bv.toArray 0) :: (D, W.listOf ws.toArray 0) :: extra
theorem names_eq {m : Str → Option Value} {held o t b : Value} (h : m "held" = some held ∧ m "one" = some o ∧ m "other" = some t ∧ m "beside" = some b) : m = fun y : Str => if y = "held" then some held else if y = "one" then some o else if y = "other" then some t else if y = "beside" then some b else m y := by
  funext y
  split
  · rename_i e; rw [e]; exact h.1
  split
  · rename_i e; rw [e]; exact h.2.1
  split
  · rename_i e; rw [e]; exact h.2.2.1
  split
  · rename_i e; rw [e]; exact h.2.2.2
  · rfl
theorem turn_end {w : World} {d I d2 I2 a2 bs D L : Addr} {t1 t2 t3 u1 u2 u3 ty1 ty2 : Tok} {y1 y2 : Str} {bb : Array UInt8} {bv ws : List Value} {h₀ h' : Heap} {tk' : Nat} {s₁ : Shared} {own extra : List (Addr × Obj)} {m' : Str → Option Value} {nv held : Value} {ini : Bool}
    (F : Fr h₀ L h' m') (N : News h₀ L h' ((d, eightD w t1 t2 t3 nv y1 ty1 ini) :: (I, instObj 223 d) :: (I2, instObj 223 d2) :: (d2, eightD w u1 u2 u3 (.ref a2) y2 ty2 true) :: (a2, BA.O bb) :: (bs, W.listOf bv.toArray 0) :: (D, W.listOf ws.toArray 0) :: (extra ++ own)))
    (hown : ∀ q ∈ own, q.2.cls = .type "list_iterator") (H : HeldIs nv ini held extra) (hm : m' "held" = some held ∧ m' "one" = some (.ref I) ∧ m' "other" = some (.ref I2) ∧ m' "beside" = some (.ref bs)) :
    EndX h₀ L own (TurnK w d I d2 I2 a2 bs D t1 t2 t3 u1 u2 u3 ty1 ty2 y1 y2 bb bv ws) s₁ { s₁ with heap := h', toks := tk' } := by
  refine ⟨h', tk', m', _, rfl, F, N, fun p hp q hq => ?_, nv, ini, held, extra, H, hm, rfl⟩
  have hc : p.2.cls ≠ .type "list_iterator" := by
    simp only [List.mem_cons] at hp
    rcases hp with rfl | rfl | rfl | rfl | rfl | rfl | rfl | hp
    · show Value.type "dict" ≠ _; decide
    · show Value.ref 223 ≠ _; intro x; cases x
    · show Value.ref 223 ≠ _; intro x; cases x
    · show Value.type "dict" ≠ _; decide
    · show Value.type "bytearray" ≠ _; decide
    · show Value.type "list" ≠ _; decide
    · show Value.type "list" ≠ _; decide
    · exact (H.cls p hp).1
  exact news_ne N (List.mem_append_left own hp) (by simp only [List.mem_cons, List.mem_append]; simp [hq]) (by rw [hown q hq]; exact hc)
section
variable {M : Model} {A : Around} {E : Value → Shared → Prop} {s : Shared} {env : Env}
/-- the end of a part of the turn, as a predicate of its own -/
theorem mid_abs {Mid : Shared → Prop} {t : Sem Flow} {Q : Flow → Shared → Prop} (hc : ∀ s', Mid s' → Q .cont s')
    (h : ∀ Q0 : Flow → Shared → Prop, (∀ s', Mid s' → Q0 .next s') → (∀ s', Mid s' → Q0 .cont s') → wpN M A t Q0 E s) : wpN M A t (fun f s' => match f with | .next => Mid s' | f => Q f s') E s := h _ (fun _ h => h) hc
theorem execsN_mid {Mid : Shared → Prop} {st : Stmt} {rest : List Stmt} {Q : Flow → Shared → Prop}
    (h : wpN M A (exec st env) (fun f s' => match f with | .next => Mid s' | f => Q f s') E s) (hr : ∀ s', Mid s' → wpN M A (execs rest env) Q E s') : wpN M A (execs (st :: rest) env) Q E s :=
  execsN_cons (wpN.mono h (fun f s' h' => by cases f <;> first | exact hr _ h' | exact h') fun _ _ e => e)
end
section
variable {M : Model} {A : Around} {E : Value → Shared → Prop} {s : Shared} {env : Env}
theorem execN_IfS {test : Expr} {body orelse : List Stmt} {pos : Pos} {Q : Flow → Shared → Prop}
    (h : wpN M A (isTrue test env (eval test env)) (fun b s₂ => if b then Stop (wpN M A (execs body env) Q E s₂) else Stop (wpN M A (execs orelse env) Q E s₂)) E s) :
    wpN M A (exec (.If test body orelse pos) env) Q E s :=
  execN_If (wpN.mono h (fun b s₂ h₂ => by cases b <;> exact h₂.out) fun _ _ e => e)
theorem execN_IfW {test : Expr} {body orelse : List Stmt} {pos : Pos} {Q : Flow → Shared → Prop}
    (h : wpAny M A (isTrue test env (eval test env)) (fun b s₂ => if b then Stop (wpN M A (execs body env) Q E s₂) else Stop (wpN M A (execs orelse env) Q E s₂)) E s) :
    wpN M A (exec (.If test body orelse pos) env) Q E s := execN_IfS (wpN.of h)
end
section
variable {M : Model} {A : Around} {E : Value → Shared → Prop} {s : Shared} {env : Env}
theorem evalN_methodS {name : Str} {o : Expr} {apos pos : Pos} {args : List Expr} {kws : List Keyword} {pl : Sem Bool} {Q : Value → Shared → Prop}
    (h : wpAny M A (eval o env) (fun ov s₁ => Stop (wpAny M A (getMethod ov name pl) (fun fx s₂ => Stop (wpN M A (callWith pos fx.1 fx.2 (backTo pos (starEach args env)) (backToKw pos (keywordEach kws env))) Q E s₂)) E s₁)) E s)
    (he : eval (.Call (.Attribute o name apos) args kws pos) env = (do
      let ov ← eval o env
      standAt apos.atName
      let (f, first) ← PySem.holding [ov] (getMethod ov name pl)
      callWith pos f first (backTo pos (starEach args env)) (backToKw pos (keywordEach kws env))) := by rfl) :
    wpN M A (eval (.Call (.Attribute o name apos) args kws pos) env) Q E s :=
  evalN_method (wpAny_mono h (fun _ _ h1 => wpAny_mono h1.out (fun _ _ h2 => h2.out) fun _ _ e => e) fun _ _ e => e) he
end
theorem news_swap {h₀ h : Heap} {L : Addr} {x y : Addr × Obj} {l : List (Addr × Obj)} (N : News h₀ L h (x :: y :: l)) : News h₀ L h (y :: x :: l) := news_sub N fun p hp => by
  simp only [List.mem_cons] at hp ⊢
  rcases hp with h | h | h
  · exact .inr (.inl h)
  · exact .inl h
  · exact .inr (.inr h)
theorem news_swap3 {h₀ h : Heap} {L : Addr} {x y z : Addr × Obj} {l : List (Addr × Obj)} (N : News h₀ L h (x :: y :: z :: l)) : News h₀ L h (z :: x :: y :: l) := news_sub N fun p hp => by
  simp only [List.mem_cons] at hp ⊢
  rcases hp with h | h | h | h
  · exact .inr (.inr (.inl h))
  · exact .inl h
  · exact .inr (.inl h)
  · exact .inr (.inr (.inr h))
theorem news_swap4 {h₀ h : Heap} {L : Addr} {x y z u : Addr × Obj} {l : List (Addr × Obj)} (N : News h₀ L h (x :: y :: z :: u :: l)) : News h₀ L h (u :: x :: y :: z :: l) := news_sub N fun p hp => by
  simp only [List.mem_cons] at hp ⊢
  rcases hp with h | h | h | h | h
  · exact .inr (.inr (.inr (.inl h)))
  · exact .inl h
  · exact .inr (.inl h)
  · exact .inr (.inr (.inl h))
  · exact .inr (.inr (.inr (.inr h)))
theorem mark_good : (("mark" : Str) == ("good" : Str)) = false := by decide
theorem size_good : (("size" : Str) == ("good" : Str)) = false := by decide

-- 68_listb
theorem part68 : True := by
  w_top off
  trivial
namespace LB
/-- the sign at i, as an int -/
def ByteAt (b : Array UInt8) (i : Nat) (v : Value) : Prop := ∃ c u, b[i]? = some c ∧ v = .int (c.toNat : Int) u
theorem bytes_len_slot : Slot "bytes" "__len__" "bytes.__len__" :=
  .of (owner := "bytes") (n := "__len__") (by rw [typeLookup_type, builtinLookup_eq_fast]; kernel_rfl) (by decide +kernel) (by decide +kernel) (by decide +kernel)
    (by first | exact .inl (by decide +kernel) | exact .inr (by decide +kernel)) (by rw [isSubtype_type]; kernel_rfl)
section
variable {prog : Program} {w : World} {A : Around} {E : Value → Shared → Prop} {s : Shared}
theorem extend_bytes {R : Result → Shared → Prop} (hh : A.handled = none) (b : Array UInt8) (t : Tok) (S : Addr) (res : Value) (c₀ : Nat) (hS : s.heap.get? S = some { cls := .type "list", data := .seq #[] c₀ })
    (hR : ∀ h' tk acc' c', (∀ b o, b ≠ S → s.heap.get? b = some o → h'.get? b = some o) → h'.get? S = some { cls := .type "list", dict := none, data := .seq acc' c', slots := #[] } →
      ItemsOf (ByteAt b) acc' b.size → R (.ok (.ret res)) { s with heap := h', toks := tk }) (hn : b.size ≤ sizeLine) :
    wpAny (model prog w) A.in1 (Builtin.List.listExtendWith (.ref S) (.bytes b t) res)
      (fun fin s' => match fin with | .done f => R (.ok f) s' | .again c' => c'.quiet = true ∧ codeAny (model prog w) A c' R s') (fun e s' => R (.error e) s') s := by
  have hSI : S ≠ s.heap.objs.size := Nat.ne_of_lt (Heap.lt_size hS)
  have hSf : S ∉ [s.heap.objs.size] := fun hm => hSI (List.mem_singleton.mp hm)
  unfold Builtin.List.listExtendWith
  refine wpAny_bind (wpAny_typeOf (T := "bytes") (v := .bytes b t) rfl ?_)
  have h1 : Builtin.List.listSameRef (.ref S) (.bytes b t) = false := rfl
  have h2 : (Value.type "bytes" == Value.type "list") = false := by decide
  have h3 : (Value.type "bytes" == Value.type "tuple") = false := by decide
  simp only [h1, h2, h3, Bool.or_false, Bool.false_eq_true, if_false]
  refine wpAny_bind (PySem.W.KBw.pyIter_bytes ?_)
  refine wpAny_bind (wpAny_holding ?_)
  unfold Builtin.List.listLengthHint
  refine wpAny_bind (wpAny_specialOf (T := "bytes") (v := .bytes b t) rfl bytes_len_slot.lookup ?_)
  wp_delta
  refine wpAny_bind (wpAny_isInstance (T := "bytes") (v := .bytes b t) (b := true) rfl (by rw [isSubtype_type]; kernel_rfl) ?_)
  show wpAny _ _ (typeOf (Value.bytes b t) >>= _) _ _ _
  refine wpAny_bind (wpAny_typeOf (T := "bytes") (v := .bytes b t) rfl ?_)
  refine wpAny_pure ?_
  rw [if_neg (by decide)]
  refine wpAny_pure ⟨plainId_quiet F.plain_extend_loop _, codeAny_extend_loopS (PySem.W.KBw.walks (A := A.in1) hh s.heap.objs.size b t).toS hn _ hSf _ b.size 0 _ _ _ rfl (Nat.zero_le _) ⟨_, Heap.get?_push_size _ rfl, rfl, rfl⟩ (Heap.get?_push_of_some _ hS) (ItemsOf.nil _) fun s' acc' c' hm hS' hacc => ?_⟩
  rw [Moved.eq_with hm]
  refine hR s'.heap s'.toks acc' c' (fun b ob hb e => hm.heap b ob (fun hmem => ?_) (Heap.get?_push_of_some _ e)) hS' hacc
  rcases List.mem_cons.mp hmem with e' | hmem
  · exact hb e'
  · exact absurd (Heap.lt_size e) (by rw [List.mem_singleton.mp hmem]; exact Nat.lt_irrefl _)
theorem list_init_bytes {R : Result → Shared → Prop} (hh : A.handled = none) (b : Array UInt8) (t : Tok) (S : Addr) (hS : s.heap.get? S = some { cls := .type "list", data := .seq #[] })
    (hR : ∀ h' tk acc' c', (∀ b o, b ≠ S → s.heap.get? b = some o → h'.get? b = some o) → h'.get? S = some { cls := .type "list", dict := none, data := .seq acc' c', slots := #[] } →
      ItemsOf (ByteAt b) acc' b.size → R (.ok (.ret .none)) { s with heap := h', toks := tk }) (hn : b.size ≤ sizeLine) :
    wpAny (model prog w) A.in1 (Builtin.«list.__init__» ⟨[.ref S, .bytes b t], []⟩)
      (fun fin s' => match fin with | .done f => R (.ok f) s' | .again c' => c'.quiet = true ∧ codeAny (model prog w) A c' R s') (fun e s' => R (.error e) s') s := by
  show wpAny _ _ (do let old ← Builtin.List.listItems (.ref S); Builtin.List.listUpdate (.ref S) (fun _ => #[]); letGo old.toList.reverse; Builtin.List.listExtendWith (.ref S) (.bytes b t) .none) _ _ s
  refine wpAny_bind ?_
  unfold Builtin.List.listItems
  refine wpAny_bind (wpAny_seqItems hS rfl (wpAny_pure ?_))
  show wpAny _ _ (updateSeq S (fun _ => #[]) >>= fun _ => letGo (#[] : Array Value).toList.reverse >>= fun _ => Builtin.List.listExtendWith (.ref S) (.bytes b t) .none) _ _ s
  refine wpAny_bind (wpAny_updateSeq hS rfl ?_)
  have hS₂ := Heap.get?_update_self (Obj.mapSeq (fun _ => (#[] : Array Value))) hS rfl
  have oth : ∀ b o, b ≠ S → s.heap.get? b = some o → (s.heap.update S (Obj.mapSeq (fun _ => (#[] : Array Value)))).get? b = some o :=
    fun b o hb e => (Heap.get?_update_other _ _ (Ne.symm hb)).trans e
  refine wpAny_bind (wpAny_letGo ?_)
  refine extend_bytes (hn := hn) hh b t S .none _ hS₂ fun h' tk acc' c' hk hS' hacc => ?_
  exact hR h' tk acc' c' (fun b o hb e => hk b o hb (oth b o hb e)) hS' hacc
theorem call_list_bytes {Q : Value → Shared → Prop} (hh : A.handled = none) (b : Array UInt8) (t : Tok)
    (hQ : ∀ h' tk acc' c', (∀ b o, s.heap.get? b = some o → h'.get? b = some o) →
      h'.get? s.heap.objs.size = some { cls := .type "list", dict := none, data := .seq acc' c', slots := #[] } → ItemsOf (ByteAt b) acc' b.size → Q (.ref s.heap.objs.size) { s with heap := h', toks := tk }) (hn : b.size ≤ sizeLine) :
    wpAny (model prog w) A (call (.type "list") [.bytes b t]) Q E s := by
  refine callType_codes (Q₁ := fun obj s₁ => obj = .ref s.heap.objs.size ∧ s₁ = { s with heap := s.heap.push { cls := .type "list", data := .seq #[] } }) F.called_list (F.typeCall_list_1 _) F.entry_list_init
    (code_list_new _ ⟨rfl, rfl⟩) fun obj s₁ h₁ => ?_
  obtain ⟨rfl, rfl⟩ := h₁
  have hS : (s.heap.push { cls := .type "list", data := .seq #[] }).get? s.heap.objs.size = some { cls := .type "list", data := .seq #[] } := Heap.get?_push_size _ rfl
  refine ⟨⟨_, hS, rfl⟩, F.args_list_init_2 _ _, list_init_bytes (A := A.in1) (hn := hn) hh b t _ hS fun h' tk acc' c' hk hS' hacc => ?_⟩
  exact ⟨rfl, hQ h' tk acc' c' (fun b o e => hk b o (Nat.ne_of_lt (Heap.lt_size e)) (Heap.get?_push_of_some _ e)) hS' hacc⟩
end
theorem ints_of : ∀ {vs : List Value} {ns : List Int}, vs.length = ns.length → (∀ (i : Nat) (v : Value), vs[i]? = some v → ∃ (n : Int) (t : Tok), ns[i]? = some n ∧ v = Value.int n t) → IntsAre vs ns
  | [], [], _, _ => .nil
  | v :: vs, n :: ns, hl, h => by
    obtain ⟨n', t, h1, rfl⟩ := h 0 v rfl
    obtain rfl : n = n' := by simpa using h1
    exact .cons _ _ (ints_of (by simpa using hl) fun i v hv => h (i + 1) v hv)
theorem ints_items {b : Array UInt8} {acc : Array Value} (h : ItemsOf (ByteAt b) acc b.size) : IntsAre acc.toList (bI b) := by
  refine ints_of (by rw [Array.length_toList, h.1, bI_len]) fun i v hv => ?_
  obtain ⟨c, u, hc, rfl⟩ := h.2 i v (by simpa using hv)
  exact ⟨_, u, by unfold bI; rw [List.getElem?_map]; simp [hc], rfl⟩
section
variable {prog : Program} {w : World} {A : Around} {E : Value → Shared → Prop} {s : Shared} {h₀ : Heap} {L : Addr} {m : Str → Option Value} {news : List (Addr × Obj)}
theorem listb {Q : Value → Shared → Prop} (hh : A.handled = none) (F : Fr h₀ L s.heap m) (N : News h₀ L s.heap news) (b : Array UInt8) (t : Tok) (hn : b.size ≤ 13)
    (h : ∀ r vs k h' tk', IntsAre vs (bI b) → Fr h₀ L h' m → News h₀ L h' ((r, W.listOf vs.toArray k) :: news) → Q (.ref r) { s with heap := h', toks := tk' }) :
    wpAny (model prog w) A (call (.type "list") [.bytes b t]) Q E s := by
  refine call_list_bytes hh b t (fun h' tk acc' c' hk hS hacc => ?_) (by rw [sizeLine_eq]; omega)
  refine h _ acc'.toList c' h' tk (ints_items hacc) (F.keeps hk) fun p hp => ?_
  rcases List.mem_cons.mp hp with rfl | hp
  · exact ⟨hS, fun e => absurd F.ns.lt (by rw [← e]; exact Nat.lt_irrefl _), next_is_new F⟩
  · exact ⟨hk _ _ (N p hp).1, (N p hp).2⟩
end
end LB

-- 69_law
theorem part69 : True := by
  w_top off
  trivial
theorem words69a : True := by
  (k_with "my_cx" => exact ⟨by k_asm, by k_asm, by k_asm, by first | exact rfl | assumption, by first | exact rfl | assumption, by first | omega | decide, by first | omega | decide⟩)
  (k_with "call ref" => (k_here; (with_reducible show wpAny _ _ (call (Value.ref 223) _ _) _ _ _); refine Stop.out ?_))
  (k_with "call ref" => (k_here; (with_reducible show wpAny _ _ (call (Value.ref 312) _ _) _ _ _); refine Stop.out ?_))
  (k_with "call ref" => (k_here; (with_reducible show wpAny _ _ (call (Value.ref 248) _ _) _ _ _); refine Stop.out ?_))
  (k_with "call ref" => (k_here; (with_reducible show wpAny _ _ (call (Value.ref 255) _ _) _ _ _); refine Stop.out ?_))
  (k_with "call ref" => (k_here; (with_reducible show wpAny _ _ (call (Value.ref 267) _ _) _ _ _); refine Stop.out ?_))
  (k_with "call ref" => (k_here; (with_reducible show wpAny _ _ (call (Value.ref 279) _ _) _ _ _); refine Stop.out ?_))
  (k_with "call ref" => (k_here; (with_reducible show wpAny _ _ (call (Value.ref 197) _ _) _ _ _); refine Stop.out ?_))
  (k_with "getAttr ref" => (k_here; (with_reducible show wpAny _ _ (getAttr (Value.ref 223) _ _) _ _ _); k_dflt (refine cls_sm (by k_asm) (by k_asm) (by k_is) (by k_is) (by k_is) (by k_is) (by k_handed) ?_; k_whole)))
  (k_with "subscriptTail" => (k_here; (with_reducible show wpAny _ _ (subscriptTail _ _ (Value.bytes (List.toArray (_ :: _)) _) (Value.int 0 _)) _ _ _); k_dflt (refine bytes_item_K (by omega) (by decide) (by omega) (by (show ((UInt8.toNat _ : Nat) : Int) = _; exact rfl)) ?_; k_whole)))
  (k_with "call type:list" => (k_here; (with_reducible show wpAny _ _ (call (Value.type "list") [Value.bytes _ _]) _ _ _); refine Stop.out ?_))
  trivial
section
variable {prog : Program} {w : World} {A : Around} {E : Value → Shared → Prop} {s : Shared} {h₀ : Heap} {L l : Addr} {news : List (Addr × Obj)} {vs : List Value}
theorem item_mem {value slice : PySem.Expr} {n : Nat} {k : Int} {u : Tok} {Q : Value → Shared → Prop} (N : News h₀ L s.heap news) (hm : (l, W.listOf vs.toArray n) ∈ news)
    (h0 : 0 ≤ k) (h1 : k < (vs.length : Int)) (hfit : k < 2 ^ 63) (h : ∀ v ∈ vs, Q v s)
    (hs : subscripted slice false (.ref l) (.int k u) = operate [.ref l, .int k u] (getItem (.ref l) (.int k u)) := by with_unfolding_all rfl) :
    wpAny (model prog w) A (subscriptTail value slice (.ref l) (.int k u)) Q E s := by
  have hl : s.heap.IsList l vs.toArray := ⟨_, (N _ hm).1, rfl, n, rfl⟩
  have hlt : k.toNat < vs.length := by omega
  exact tail_any hl.typeIs slot_list_getitem.lookup (wpAny_getItem_list hl h0 hfit (x := vs[k.toNat]) (by simp [hlt]) (h _ (List.getElem_mem hlt))) hs
end
theorem words69b : True := by
  (k_with "subscriptTail" => (k_here; (with_reducible show wpAny _ _ (subscriptTail _ (Expr.Call _ _ _ _) (Value.ref _) (Value.int _ _)) _ _ _); k_dflt (refine item_mem (by k_asm) (by k_mem) (by omega) (by (simp only [List.length_cons, List.length_nil]; omega)) (by omega) ?_; intro _ _; k_whole)))
  trivial
theorem nb_of {news : List (Addr × Obj)} {v : Value} {t t' : Tok} {l : Addr} {x : Str} {items : Array Value} {n : Nat} (hm : (l, W.listOf items n) ∈ news) (h : v ∈ [Value.none, .int 5 t, .bool true, .ref l, .str x t']) : NotBytes news v := by
  simp only [List.mem_cons, List.not_mem_nil, or_false] at h
  rcases h with rfl | rfl | rfl | rfl | rfl
  · exact .inl rfl
  · exact .inr (.inl ⟨_, _, rfl⟩)
  · exact .inr (.inr (.inl ⟨_, rfl⟩))
  · exact .inr (.inr (.inr (.inr ⟨_, _, _, rfl, hm⟩)))
  · exact .inr (.inr (.inr (.inl ⟨_, _, rfl⟩)))
theorem ns_of {news : List (Addr × Obj)} {v : Value} {t t' : Tok} {l : Addr} {x : Array UInt8} {items : Array Value} {n : Nat} (hm : (l, W.listOf items n) ∈ news) (h : v ∈ [Value.none, .int 5 t, .bool true, .ref l, .bytes x t']) : NotStr news v := by
  simp only [List.mem_cons, List.not_mem_nil, or_false] at h
  rcases h with rfl | rfl | rfl | rfl | rfl
  · exact .inl rfl
  · exact .inr (.inl ⟨_, _, rfl⟩)
  · exact .inr (.inr (.inl ⟨_, rfl⟩))
  · exact .inr (.inr (.inr (.inr ⟨_, _, _, rfl, hm⟩)))
  · exact .inr (.inr (.inr (.inl ⟨_, _, rfl⟩)))
theorem bw_true {r : Int} (h : r = 1) : (r == 1) = true := by rw [h]; rfl
theorem bw_false {r : Int} (h : r ≠ 1) : (r == 1) = false := by simpa using h
section
variable {w : World} {mean : ExcName → Option Value} {mg mb : Str → Option Value} {dp un : Nat} {cn : Str} {cs : Scope} {ca : Addr} {ccd : Value} {A₀ : Around} {base h₀ : Heap} {L : Addr} {m : Str → Option Value} {s : Shared} {Q E : Value → Shared → Prop}
theorem nb_lawB {b : Bool} {I d : Addr} {t1 t2 t3 ty : Tok} {y0 : Str} {nv : Value} {ini : Bool} {v : Value} {news : List (Addr × Obj)} (hb : b = true)
  (CS : Cs w mean mg mb 7 dp un cn cs ca ccd [] A₀ base h₀ h₀ L) (F : Fr h₀ L s.heap m)
  (N : News h₀ L s.heap news) (hI : (I, instObj 223 d) ∈ news) (hdd : (d, eightD w t1 t2 t3 nv y0 ty ini) ∈ news) (hv : NotBytes news v)
  (ret : ∀ r tr ti h' tk', Fr h₀ L h' m → News h₀ L h' ((r, tupO #[.str "type" tr, .int 0 ti]) :: news) → Q (.ref r) {s with heap := h', toks := tk'}) :
  wpN (model PR w) (Ar dp un (envOf cn cs L ca ccd) []) (call (.ref 298) [.ref I, .bool b, v]) Q E s := by
  subst hb; exact nb_law CS F N hI hdd hv ret
theorem ns_lawB {b : Bool} {I d : Addr} {t1 t2 t3 ty : Tok} {y0 : Str} {nv : Value} {ini : Bool} {v : Value} {news : List (Addr × Obj)} (hb : b = false)
  (CS : Cs w mean mg mb 7 dp un cn cs ca ccd [] A₀ base h₀ h₀ L) (F : Fr h₀ L s.heap m)
  (N : News h₀ L s.heap news) (hI : (I, instObj 223 d) ∈ news) (hdd : (d, eightD w t1 t2 t3 nv y0 ty ini) ∈ news) (hv : NotStr news v)
  (ret : ∀ r tr ti h' tk', Fr h₀ L h' m → News h₀ L h' ((r, tupO #[.str "type" tr, .int 0 ti]) :: news) → Q (.ref r) {s with heap := h', toks := tk'}) :
  wpN (model PR w) (Ar dp un (envOf cn cs L ca ccd) []) (call (.ref 298) [.ref I, .bool b, v]) Q E s := by
  subst hb; exact ns_law CS F N hI hdd hv ret
end
section
variable {p : Addr × Obj} {l l' : List (Addr × Obj)}
theorem sub_c (h : p ∈ l) (t : ∀ q ∈ l', q ∈ l) : ∀ q ∈ p :: l', q ∈ l := List.forall_mem_cons.mpr ⟨h, t⟩
theorem sub_t (a : Addr × Obj) (t : ∀ q ∈ l', q ∈ l) : ∀ q ∈ l', q ∈ a :: l := fun q hq => .tail _ (t q hq)
theorem sub_a (e : List (Addr × Obj)) (t : ∀ q ∈ l', q ∈ l) : ∀ q ∈ l', q ∈ e ++ l := fun q hq => List.mem_append_right e (t q hq)
theorem sub_r : ∀ q ∈ l, q ∈ l := fun _ h => h
theorem sub_n : ∀ q ∈ ([] : List (Addr × Obj)), q ∈ l := fun _ h => nomatch h
end
theorem words69c : True := by
  (k_with "my_sub" => ((repeat (refine sub_c ?_ ?_; (focus ((repeat (first | exact List.Mem.head _ | refine List.Mem.tail _ ?_)); done)))); first | exact sub_n | (repeat (first | exact sub_r | refine sub_t _ ?_ | refine sub_a _ ?_))))
  trivial
section
variable {w : World} {mean : ExcName → Option Value} {mg mb : Str → Option Value} {s : Shared} {Q E : Value → Shared → Prop}
set_option maxHeartbeats 800000 in
theorem law_walk {sc : Addr} {vs : List Value} {ns : List Int} {h₀ : Heap} (hs : s.heap = h₀)
  (X : (hd.heap_39 w.params).In h₀) (T : Top hd.view_39 LO mean mg mb h₀) (hl : h₀.IsList sc vs.toArray) (hI : IntsAre vs ns) (hlen : ns.length ≤ 63)
  (ret : ∀ L' m' h' tk', Fr h₀ L' h' m' → Q (.bool true) {s with heap := h', toks := tk'}) :
  wpN (model PR w) callerA (call (.ref 319) [.ref sc]) Q E s := by
  unfold PR
  refine wpN.call ?_
  have X' := X
  have T' := T
  rw [← hs] at X' T'
  k_dflt (refine' codeN_lawEnter X' T' ?k6 ?k7 ?k8 ?k9 ?kB ?_ ?c2 ?c3 ?c4 ?c5; (case k6 => k_is); (case k7 => k_is); (case k8 => decide); (case k9 => exact BindsTo.of_eq rfl); (case kB => exact locs rfl); (case c2 => exact rfl); (case c3 => exact rfl); (case c4 => exact rfl); (case c5 => decide))
  intro L' h' tk0 E' F'
  refine wpN.mono (Q := fun fl s' => match fl with | .ret v => Q v s' | _ => Q .none s') (E := E') ?_ (fun fl s' h => by cases fl <;> exact h) (fun _ _ h => h)
  rw [hs] at F'
  clear X' T'
  replace F' : Fr h₀ L' h' (lk [("script", .ref sc)]) := F'
  have N' : News h₀ L' h' [] := .nil
  have B' : Below callerA h₀ [] h₀ := below_caller h₀
  have D' : KtsDicts (([] : List Env).filterMap (·.frame)) h₀ := ktsDicts_nil
  show wpN _ (Ar 302 7 _ []) (execs _ _) _ _ _
  refine execsN_consW ?_
  k_fold
  k_steps
  refine ⟨?_⟩
  refine make_spec (by walk_at "my_cx") (by k_asm) (by k_asm) ?_
  intro I d t1 t2 t3 y1 ty1 h1 tk1 F1 N1 _ hdI
  k_steps
  refine ⟨?_⟩
  refine execsN_consW ?_
  k_steps
  refine ⟨?_⟩
  refine make_spec (by walk_at "my_cx") (by k_asm) (by k_asm) ?_
  intro I2 d2 u1 u2 u3 y2 ty2 h2 tk2 F2 N2 hlt2 hdI2
  have e1 : @Ne Nat d d2 := Nat.ne_of_lt (hlt2 _ (.tail _ (.head _)))
  have e2 : @Ne Nat I d2 := Nat.ne_of_lt (hlt2 _ (.head _))
  have e3 : @Ne Nat d I := Nat.ne_of_lt hdI
  have e4 : @Ne Nat d I2 := Nat.ne_of_lt (Nat.lt_trans (hlt2 _ (.tail _ (.head _))) hdI2)
  have e5 : @Ne Nat d2 I2 := Nat.ne_of_lt hdI2
  clear hlt2
  k_steps
  refine ⟨?_⟩
  refine execsN_consW ?_
  k_fold
  k_steps
  refine ⟨?_⟩
  rename_i bs _ hbl _ Fb Nb
  obtain ⟨bv, hbv, N3⟩ : ∃ bv : List Value, IntsAre bv [79, 84, 72, 69, 82, 32, 32, 32, 84, 88, 84] ∧ News h₀ L' _ ((bs, W.listOf bv.toArray 0) :: (I2, instObj 223 d2) :: (d2, eightD w u1 u2 u3 .none y2 ty2 false) :: (I, instObj 223 d) :: (d, eightD w t1 t2 t3 .none y1 ty1 false) :: []) := ⟨_, by l_ints, Nb⟩
  have hbr : ∀ q ∈ ([79, 84, 72, 69, 82, 32, 32, 32, 84, 88, 84] : List Int), 0 ≤ q ∧ q < 256 := by decide
  have hbl2 : bv.length = 11 := hbv.length
  clear Nb
  refine execsN_consS ?_
  refine execN_Expr ?_
  refine evalN_method ?_
  k_steps
  show wpN _ _ (callWith _ (Value.ref 165) [Value.ref I2] (backTo _ (starEach [_] _)) []) _ _ _
  k_dflt (refine' callWithN_K (K := hd.heap_39 w.params) ?k ?_ ?he ?hp; (case k => k_is); (case he => rfl); (case hp => rfl))
  k_steps
  rename_i F3 N4 _
  obtain ⟨bb, hbb⟩ : ∃ bb : Array UInt8, bb = ((([79, 84, 72, 69, 82, 32, 32, 32, 84, 88, 84] : List Int).map fun n => n.toNat.toUInt8).toArray) := ⟨_, rfl⟩
  have hb1 := besideB
  have hb2 := besideI
  have hb3 := beside0
  rw [← hbb] at hb1 hb2 hb3
  rw [← hbb]
  clear hbb
  obtain ⟨hbl1, hbl3, hbl4, hbl5⟩ := hbl
  replace hbl1 : @LT.lt Nat _ I2 bs := hbl1
  replace hbl3 : @LT.lt Nat _ d2 bs := hbl3
  have N5 : News h₀ L' _ ((d2, eightD w u1 u2 u3 .none y2 ty2 false) :: (bs, W.listOf bv.toArray 0) :: (I2, instObj 223 d2) :: (I, instObj 223 d) :: (d, eightD w t1 t2 t3 .none y1 ty1 false) :: []) := news_sub N4 (by walk_at "my_sub")
  refine sbn_bytes (by walk_at "my_cs") F3 N5 (ne_ref (Nat.ne_of_gt hbl3) (ne_ref e5.symm (ne_ref e2 (ne_ref e1 ne_nil)))) (.tail _ (.head _)) (by omega) ?_ ?_ ?_
  · intro _ _ a2 h4 tk4 F4 N6
    show Stop (wpN _ _ (execs _ _) _ _ _)
    refine ⟨?_⟩
    refine execsN_consW ?_
    k_fold
    k_steps
    refine ⟨?_⟩
    refine execsN_consW ?_
    k_steps
    refine ⟨?_⟩
    refine none_law (by walk_at "my_cs") (by k_asm) (by k_asm) (by k_mem) (by k_mem) ?_
    intro h5 tk5 F5 N7
    k_steps
    refine ⟨?_⟩
    refine execsN_consS ?_
    refine execN_For ?_
    k_fold
    k_steps
    refine ⟨?_⟩
    rename_i D wsv h6 F6 N8 hI6 hC6 hL6 l6
    have hlD : wsv.length ≤ 10 := by rw [hI6.length]; omega
    have ha2d : @Ne Nat a2 d := news_ne N8 (p := (a2, BA.O bb)) (q := (d, eightD w t1 t2 t3 .none y1 ty1 false)) (by simp) (by simp) (by show Value.type "bytearray" ≠ .type "dict"; decide)
    have hDd : @Ne Nat D d := Nat.ne_of_gt l6.2.2.2.2.2
    refine loopN (L := L') (vs := wsv) (k := 0) (fun _ m nx => TurnK w d I d2 I2 a2 bs D t1 t2 t3 u1 u2 u3 ty1 ty2 y1 y2 bb bv wsv m nx) rfl rfl rfl rfl F6
      (news := (d, eightD w t1 t2 t3 .none y1 ty1 false) :: (I, instObj 223 d) :: (I2, instObj 223 d2) :: (d2, eightD w u1 u2 u3 (.ref a2) y2 ty2 true) :: (a2, BA.O bb) :: (bs, W.listOf bv.toArray 0) :: (D, W.listOf wsv.toArray 0) :: [])
      (news_sub N8 (by walk_at "my_sub")) (by simp) ?start ?keep ?turn ?done
    case start => exact ⟨_, _, _, _, .inl ⟨rfl, rfl, rfl⟩, ⟨rfl, rfl, rfl, rfl⟩, rfl⟩
    case keep => rintro _ m nx ⟨_, _, _, _, _, _, rfl⟩; simp
    case done =>
      rintro m9 nx9 h9 tk9 ⟨nv, ini, held, extra, hH, hM, rfl⟩ F9 N9
      rw [names_eq hM] at F9
      show Stop _
      refine ⟨?_⟩
      refine execsN_consW ?_
      k_fold
      k_steps
      refine ⟨?_⟩
      refine holds_spec (by walk_at "my_cx") (by k_asm) (by k_asm) (I := I2) (d := d2) (a := a2) (b := bb) (by k_mem) (by k_mem) (by k_mem) hb1 (fun c hc => by have := hb3 c hc; omega) (by k_mem) (by rw [hb2]; exact hbv) (by rw [hb2]; exact besideOk) ?_
      intro h10 tk10 F10 N10
      k_steps
      exact ret _ _ _ _ F10
    case turn =>
      rintro i v0 m9 nx9 h9 tk9 own E9 hv0 ⟨nv, ini, held, extra, hH, hM, rfl⟩ hown F9 N9
      obtain ⟨q, tq, rfl, hq⟩ := IntsAre.at hI6 i v0 hv0
      rw [names_eq hM] at F9
      simp only [List.cons_append] at N9
      dsimp only at F9
      have hzd : ∀ p ∈ extra ++ own, p.1 ≠ d := fun p hp => news_ne N9 (q := (d, eightD w t1 t2 t3 nv y1 ty1 ini)) (by simp only [List.mem_cons]; simp only [hp, or_true]) (.head _) (by
        show p.2.cls ≠ .type "dict"
        rcases List.mem_append.mp hp with h | h
        · exact (hH.cls p h).2
        · rw [hown p h]; decide)
      have hrest : ∀ p ∈ (I, instObj 223 d) :: (I2, instObj 223 d2) :: (d2, eightD w u1 u2 u3 (.ref a2) y2 ty2 true) :: (a2, BA.O bb) :: (bs, W.listOf bv.toArray 0) :: (D, W.listOf wsv.toArray 0) :: (extra ++ own), p.1 ≠ d :=
        ne_ref e3.symm (ne_ref e4.symm (ne_ref e1.symm (ne_ref ha2d (ne_ref (Nat.ne_of_gt hbl5) (ne_ref hDd hzd)))))
      refine execsN_consW ?_
      k_fold
      k_steps
      refine ⟨?_⟩
      rename_i bx X11 lX h11 F11 N11
      have hbx : ∀ (o : Obj), ∀ p ∈ (d, o) :: (I, instObj 223 d) :: (I2, instObj 223 d2) :: (d2, eightD w u1 u2 u3 (.ref a2) y2 ty2 true) :: (a2, BA.O bb) :: (bs, W.listOf bv.toArray 0) :: (D, W.listOf wsv.toArray 0) :: (extra ++ own), p.1 ≠ bx := fun o =>
        ne_ref (Nat.ne_of_lt lX.1) (ne_ref (Nat.ne_of_lt lX.2.1) (ne_ref (Nat.ne_of_lt lX.2.2.1) (ne_ref (Nat.ne_of_lt lX.2.2.2.1) (ne_ref (Nat.ne_of_lt lX.2.2.2.2.1) (ne_ref (Nat.ne_of_lt lX.2.2.2.2.2.1) (ne_ref (Nat.ne_of_lt lX.2.2.2.2.2.2.1) (fun p hp => Nat.ne_of_lt (ktn_ltOf lX.2.2.2.2.2.2.2 p hp))))))))
      have hbxd : @Ne Nat bx d := Nat.ne_of_gt lX.1
      have hx0 : 0 ≤ (if q < 0 then -q else q).fmod (10 ^ Int.toNat 60) := Int.fmod_nonneg_of_pos _ (by decide)
      generalize (if q < 0 then -q else q).fmod (10 ^ Int.toNat 60) = x0 at hx0 N11
      refine execsN_consW ?_
      k_fold
      k_steps
      refine ⟨?_⟩
      refine execsN_mid (Mid := EndX h₀ L' own (TurnK w d I d2 I2 a2 bs D t1 t2 t3 u1 u2 u3 ty1 ty2 y1 y2 bb bv wsv) s) ?_ ?_
      · refine mid_abs (fun _ h => h) fun Q0 hN hC => ?_
        refine execN_IfW ?_
        k_fold
        k_steps
        · refine ⟨?_⟩
          refine execsN_consW ?_
          k_fold
          k_steps
          refine ⟨?_⟩
          refine text_spec (by walk_at "my_cx") (by k_asm) (by k_asm) (hbx _) (by assumption) ?_
          intro tx tt h12 tk12 x2 bt2 hts hta hx2 F12 N12
          k_steps
          refine ⟨?_⟩
          refine execsN_consW ?_
          k_fold
          k_steps
          refine ⟨?_⟩
          refine conform_spec (by walk_at "my_cx") (by k_asm) (by k_asm) hts ?_
          intro h13 tk13 F13 N13
          cases hcf : confOf tx.cps.toList
          · k_steps
            refine ⟨?_⟩
            refine execsN_consW ?_
            k_fold
            k_steps
            refine ⟨?_⟩
            refine pconf1_law (by walk_at "my_cs") (by k_asm) (by k_asm) hts ?_
            intro h14 tk14 F14 N14
            rw [pconf_eq hta, hcf]
            k_steps
            refine ⟨?_⟩
            refine execsN_consW ?_
            k_fold
            k_steps
            refine ⟨?_⟩
            refine execsN_consW ?_
            k_fold
            k_steps
            refine ⟨?_⟩
            refine execsN_consW ?_
            k_fold
            k_steps
            refine ⟨?_⟩
            refine execsN_consS ?_
            refine execN_IfS ?_
            refine isTrueN_Compare1 ?_
            refine evalN_call ?_
            k_fold
            k_steps
            show wpN _ _ (callWith _ (Value.ref 298) [] (backTo _ (starEach [_, _, _] _)) []) _ _ _
            k_dflt (refine' callWithN_K (K := hd.heap_39 w.params) ?k ?_ ?he ?hp; (case k => k_is); (case he => rfl); (case hp => rfl))
            k_steps
            refine str_law (by walk_at "my_cs") (by k_asm) (news_swap (by k_asm)) (ne_ref hbxd hrest) (by k_mem) hts hta ?_ ?_
            · intro hx; rw [hcf] at hx; cases hx
            · intro _ rr tr ti h16 tk16 F16 N16
              k_steps
              refine ⟨?_⟩
              refine wpN.of ?_
              k_steps
              refine ⟨?_⟩
              refine execsN_consW ?_
              k_fold
              k_steps
              refine ⟨?_⟩
              refine wpN.of ?_
              k_steps
              exact hN _ (turn_end ‹Fr h₀ L' _ _› (news_sub ‹News h₀ L' _ _› (by walk_at "my_sub")) hown hH ⟨rfl, rfl, rfl, rfl⟩)
          · k_steps
            refine ⟨?_⟩
            refine execsN_consW ?_
            k_fold
            k_steps
            refine ⟨?_⟩
            refine pconf1_law (by walk_at "my_cs") (by k_asm) (by k_asm) hts ?_
            intro h14 tk14 F14 N14
            rw [pconf_eq hta, hcf]
            k_steps
            refine ⟨?_⟩
            refine execsN_consW ?_
            k_fold
            k_steps
            refine ⟨?_⟩
            refine execsN_consW ?_
            k_fold
            k_steps
            refine ⟨?_⟩
            refine laid_spec (by walk_at "my_cx") (by k_asm) (by k_asm) hts (conf_len hcf).1 (conf_len hcf).2 ?_
            intro r1 vs1 n1 h15 tk15 hI15 F15 N15
            have hr1d : @Ne Nat r1 d := news_ne N15 (p := (r1, W.listOf vs1.toArray n1)) (q := (d, eightD w t1 t2 t3 nv y1 ty1 ini)) (.head _) (.tail _ (.tail _ (.head _))) (by show Value.type "list" ≠ .type "dict"; decide)
            have hl15 : vs1.length = 11 := by rw [hI15.length]; exact laid_len hcf
            have hl16 := laid_len hcf
            k_steps
            refine ⟨?_⟩
            refine execsN_consW ?_
            k_fold
            k_steps
            · exact hC _ (turn_end ‹Fr h₀ L' _ _› (news_sub ‹News h₀ L' _ _› (by walk_at "my_sub")) hown hH ⟨rfl, rfl, rfl, rfl⟩)
            · refine ⟨?_⟩
              refine execsN_consS ?_
              refine execN_IfS ?_
              refine isTrueN_Compare1 ?_
              refine evalN_call ?_
              k_fold
              k_steps
              show wpN _ _ (callWith _ (Value.ref 298) [] (backTo _ (starEach [_, _, _] _)) []) _ _ _
              k_dflt (refine' callWithN_K (K := hd.heap_39 w.params) ?k ?_ ?he ?hp; (case k => k_is); (case he => rfl); (case hp => rfl))
              k_steps
              refine str_law (by walk_at "my_cs") (by k_asm) (news_swap3 (by k_asm)) (ne_ref hr1d (ne_ref hbxd hrest)) (by k_mem) hts hta ?_ ?_
              · intro _ rr tr ti a1 h16 tk16 F16 N16
                k_steps
                refine ⟨?_⟩
                refine wpN.of ?_
                k_steps
                refine ⟨?_⟩
                refine execsN_consW ?_
                k_fold
                k_steps
                refine ⟨?_⟩
                refine wpN.of ?_
                k_steps
                exact hN _ (turn_end (extra := [(a1, BA.O (octOf tx.cps.toList)), (r1, W.listOf vs1.toArray n1)]) ‹Fr h₀ L' _ _› (news_sub ‹News h₀ L' _ _› (by walk_at "my_sub")) hown (.inr ⟨_, _, _, _, _, rfl, rfl, rfl, rfl, oct_size hta hcf, by rw [oct_bI hta hcf]; exact hI15, oct_okI hta hcf⟩) ⟨rfl, rfl, rfl, rfl⟩)
              · intro hx; rw [hcf] at hx; cases hx
        · refine ⟨?_⟩
          refine execsN_consS ?_
          refine execN_IfW ?_
          k_fold
          k_steps
          · refine ⟨?_⟩
            refine execsN_consW ?_
            k_fold
            k_steps
            refine ⟨?_⟩
            refine octets_spec (by walk_at "my_cx") (by k_asm) (by k_asm) (hbx _) (by assumption) ?_
            intro arr at1 h12 tk12 x2 bt2 ha9 ha13 haok hx2 F12 N12
            obtain ⟨c0, cr, rfl⟩ : ∃ c0 cr, arr = (c0 :: cr : List UInt8).toArray := by
              cases hal : arr.toList with
              | nil => rw [← Array.length_toList, hal] at ha9; simp at ha9
              | cons c r => exact ⟨c, r, by rw [← hal]⟩
            have hsz : (c0 :: cr : List UInt8).toArray.size = (c0 :: cr).length := rfl
            k_steps
            refine ⟨?_⟩
            refine execsN_consW ?_
            k_fold
            k_steps
            refine ⟨?_⟩
            refine execsN_consW ?_
            k_fold
            k_steps
            · rename_i hn11 _ D2 _ l1 _ F13 N13
              have hD2d : @Ne Nat D2 d := Nat.ne_of_gt l1.2.2.1
              have hD1d := news_ne N13 (q := (d, eightD w t1 t2 t3 nv y1 ty1 ini)) (.tail _ (.head _)) (.tail _ (.tail _ (.tail _ (.head _)))) (by show Value.type "tuple" ≠ .type "dict"; decide)
              refine ⟨?_⟩
              refine execsN_consS ?_
              refine execN_IfS ?_
              refine isTrueN_Compare1 ?_
              refine evalN_call ?_
              k_fold
              k_steps
              show wpN _ _ (callWith _ (Value.ref 298) [] (backTo _ (starEach [_, _, _] _)) []) _ _ _
              k_dflt (refine' callWithN_K (K := hd.heap_39 w.params) ?k ?_ ?he ?hp; (case k => k_is); (case he => rfl); (case hp => rfl))
              k_steps
              refine bytes_law (by walk_at "my_cs") (by k_asm) (news_swap4 (by k_asm)) (ne_ref hD2d (ne_ref hD1d (ne_ref hbxd hrest))) (by k_mem) (by omega) ?_ ?_ ?_
              · intro hx; exact absurd hx (by omega)
              · intro _ rr tr ti h16 tk16 F16 N16
                k_steps
                repeat (refine ⟨?_⟩; refine wpN.of ?_; (try k_fold); k_steps)
                exact hN _ (turn_end ‹Fr h₀ L' _ _› (news_sub ‹News h₀ L' _ _› (by walk_at "my_sub")) hown hH ⟨rfl, rfl, rfl, rfl⟩)
              · intro hx; exact absurd hx (by omega)
            · rename_i h11c _ h0c _ D2 _ l1 _ F13 N13
              have hD2d : @Ne Nat D2 d := Nat.ne_of_gt l1.2.2.1
              have hD1d := news_ne N13 (q := (d, eightD w t1 t2 t3 nv y1 ty1 ini)) (.tail _ (.head _)) (.tail _ (.tail _ (.tail _ (.head _)))) (by show Value.type "tuple" ≠ .type "dict"; decide)
              have hg0 : ((c0 :: cr : List UInt8).getD (Int.toNat 0) 0) = c0 := rfl
              simp only [hg0] at N13 h0c
              refine ⟨?_⟩
              refine execsN_consS ?_
              refine execN_IfS ?_
              refine isTrueN_Compare1 ?_
              refine evalN_call ?_
              k_fold
              k_steps
              show wpN _ _ (callWith _ (Value.ref 298) [] (backTo _ (starEach [_, _, _] _)) []) _ _ _
              k_dflt (refine' callWithN_K (K := hd.heap_39 w.params) ?k ?_ ?he ?hp; (case k => k_is); (case he => rfl); (case hp => rfl))
              k_steps
              refine bytes_law (by walk_at "my_cs") (by k_asm) (news_swap4 (by k_asm)) (ne_ref hD2d (ne_ref hD1d (ne_ref hbxd hrest))) (by k_mem) (by omega) ?_ ?_ ?_
              · intro _ hx
                have := hx c0 rfl
                omega
              · intro hx; exact absurd hx (by omega)
              · intro _ c hc hx rr tr ti h16 tk16 F16 N16
                obtain rfl : c0 = c := Option.some.inj hc
                k_steps
                refine ⟨?_⟩
                refine wpN.of ?_
                k_steps
                refine ⟨?_⟩
                refine wpN.of ?_
                k_fold
                k_steps
                · rename_i hX
                  rw [mark_good] at hX
                  cases hX
                · repeat (refine ⟨?_⟩; refine wpN.of ?_; (try k_fold); k_steps)
                  exact hN _ (turn_end ‹Fr h₀ L' _ _› (news_sub ‹News h₀ L' _ _› (by walk_at "my_sub")) hown hH ⟨rfl, rfl, rfl, rfl⟩)
            · rename_i h11c _ hne0 h0c _ D2 _ l1 _ F13 N13
              have hD2d : @Ne Nat D2 d := Nat.ne_of_gt l1.2.2.1
              have hD1d := news_ne N13 (q := (d, eightD w t1 t2 t3 nv y1 ty1 ini)) (.tail _ (.head _)) (.tail _ (.tail _ (.tail _ (.head _)))) (by show Value.type "tuple" ≠ .type "dict"; decide)
              have hg0 : ((c0 :: cr : List UInt8).getD (Int.toNat 0) 0) = c0 := rfl
              simp only [hg0] at N13 h0c
              refine ⟨?_⟩
              refine execsN_consS ?_
              refine execN_IfS ?_
              refine isTrueN_Compare1 ?_
              refine evalN_call ?_
              k_fold
              k_steps
              show wpN _ _ (callWith _ (Value.ref 298) [] (backTo _ (starEach [_, _, _] _)) []) _ _ _
              k_dflt (refine' callWithN_K (K := hd.heap_39 w.params) ?k ?_ ?he ?hp; (case k => k_is); (case he => rfl); (case hp => rfl))
              k_steps
              refine bytes_law (by walk_at "my_cs") (by k_asm) (news_swap4 (by k_asm)) (ne_ref hD2d (ne_ref hD1d (ne_ref hbxd hrest))) (by k_mem) (by omega) ?_ ?_ ?_
              · intro _ hx
                have := hx c0 rfl
                omega
              · intro hx; exact absurd hx (by omega)
              · intro _ c hc hx rr tr ti h16 tk16 F16 N16
                obtain rfl : c0 = c := Option.some.inj hc
                k_steps
                refine ⟨?_⟩
                refine wpN.of ?_
                k_steps
                refine ⟨?_⟩
                refine wpN.of ?_
                k_fold
                k_steps
                · rename_i hX
                  rw [mark_good] at hX
                  cases hX
                · repeat (refine ⟨?_⟩; refine wpN.of ?_; (try k_fold); k_steps)
                  exact hN _ (turn_end ‹Fr h₀ L' _ _› (news_sub ‹News h₀ L' _ _› (by walk_at "my_sub")) hown hH ⟨rfl, rfl, rfl, rfl⟩)
            · rename_i D1 _ l1 _ F13 N13 h11c _ hne0 hn229
              have hD1d : @Ne Nat D1 d := Nat.ne_of_gt l1.2.1
              have hg0 : ((c0 :: cr : List UInt8).getD (Int.toNat 0) 0) = c0 := rfl
              simp only [hg0] at hne0 hn229
              refine ⟨?_⟩
              refine execsN_consS ?_
              refine execN_IfS ?_
              refine isTrueN_Compare1 ?_
              refine evalN_call ?_
              k_fold
              k_steps
              show wpN _ _ (callWith _ (Value.ref 298) [] (backTo _ (starEach [_, _, _] _)) []) _ _ _
              k_dflt (refine' callWithN_K (K := hd.heap_39 w.params) ?k ?_ ?he ?hp; (case k => k_is); (case he => rfl); (case hp => rfl))
              k_steps
              refine bytes_law (by walk_at "my_cs") (by k_asm) (news_swap3 (by k_asm)) (ne_ref hD1d (ne_ref hbxd hrest)) (by k_mem) (by omega) ?_ ?_ ?_
              · intro _ _ rr tr ti a1 h16 tk16 F16 N16
                k_steps
                refine ⟨?_⟩
                refine wpN.of ?_
                k_steps
                refine ⟨?_⟩
                refine wpN.of ?_
                k_fold
                k_steps
                refine ⟨?_⟩
                refine LB.listb rfl (by k_asm) (by k_asm) _ _ (by omega) ?_
                intro rl vl nl h17 tk17 hIl F17 N17
                k_steps
                repeat (refine ⟨?_⟩; refine wpN.of ?_; (try k_fold); k_steps)
                exact hN _ (turn_end (extra := [(a1, BA.O (c0 :: cr).toArray), (rl, W.listOf vl.toArray nl)]) ‹Fr h₀ L' _ _› (news_sub ‹News h₀ L' _ _› (by walk_at "my_sub")) hown (.inr ⟨_, _, _, _, _, rfl, rfl, rfl, rfl, by omega, hIl, fun q hq => by obtain ⟨c, hc, rfl⟩ := List.mem_map.mp hq; exact haok c hc⟩) ⟨rfl, rfl, rfl, rfl⟩)
              · intro hx; exact absurd hx (by omega)
              · intro _ c hc hx
                obtain rfl : c0 = c := Option.some.inj hc
                omega
          · refine ⟨?_⟩
            refine execsN_consW ?_
            k_fold
            k_steps
            refine ⟨?_⟩
            refine execsN_consW ?_
            k_fold
            k_steps
            · refine ⟨?_⟩
              refine execsN_consS ?_
              refine execN_IfS ?_
              refine isTrueN_Compare1 ?_
              refine evalN_call ?_
              k_fold
              k_steps
              show wpN _ _ (callWith _ (Value.ref 298) [] (backTo _ (starEach [_, _, _] _)) []) _ _ _
              k_dflt (refine' callWithN_K (K := hd.heap_39 w.params) ?k ?_ ?he ?hp; (case k => k_is); (case he => rfl); (case hp => rfl))
              k_steps
              refine' nb_lawB ?hb (by walk_at "my_cs") (by k_asm) (by k_asm) (by k_mem) (by k_mem) (nb_of ?hm ?hv) ?_
              case hb => exact bw_true (by assumption)
              case hv => assumption
              case hm => k_mem
              intro r9 tr9 ti9 h16 tk16 F16 N16
              · k_steps
                repeat (refine ⟨?_⟩; refine wpN.of ?_; (try k_fold); k_steps)
                exact hN _ (turn_end ‹Fr h₀ L' _ _› (news_sub ‹News h₀ L' _ _› (by walk_at "my_sub")) hown hH ⟨rfl, rfl, rfl, rfl⟩)
            · refine ⟨?_⟩
              refine execsN_consS ?_
              refine execN_IfS ?_
              refine isTrueN_Compare1 ?_
              refine evalN_call ?_
              k_fold
              k_steps
              show wpN _ _ (callWith _ (Value.ref 298) [] (backTo _ (starEach [_, _, _] _)) []) _ _ _
              k_dflt (refine' callWithN_K (K := hd.heap_39 w.params) ?k ?_ ?he ?hp; (case k => k_is); (case he => rfl); (case hp => rfl))
              k_steps
              refine' ns_lawB ?hb (by walk_at "my_cs") (by k_asm) (by k_asm) (by k_mem) (by k_mem) (ns_of ?hm ?hv) ?_
              case hb => exact bw_false (by assumption)
              case hv => assumption
              case hm => k_mem
              intro r9 tr9 ti9 h16 tk16 F16 N16
              · k_steps
                repeat (refine ⟨?_⟩; refine wpN.of ?_; (try k_fold); k_steps)
                exact hN _ (turn_end ‹Fr h₀ L' _ _› (news_sub ‹News h₀ L' _ _› (by walk_at "my_sub")) hown hH ⟨rfl, rfl, rfl, rfl⟩)
      · rintro s' ⟨h20, tk20, m20, nx20, rfl, F20, N20, hap20, nv', ini', held', extra', hH', hM', rfl⟩
        rw [names_eq hM'] at F20
        (try dsimp only at F20)
        simp only [List.cons_append] at N20
        refine execsN_consW ?_
        k_fold
        rcases hH' with ⟨rfl, rfl, rfl⟩ | ⟨a', b', r', vs', n', rfl, rfl, rfl, rfl, hz', hi', hok'⟩
        · k_steps
          refine ⟨?_⟩
          refine none_law (by walk_at "my_cs") (by k_asm) (by k_asm) (by k_mem) (by k_mem) ?_
          intro h21 tk21 F21 N21
          k_steps
          refine ⟨?_⟩
          refine wpN.of ?_
          k_steps
          refine ⟨?_⟩
          exact turn_end F21 N21 hown (.inl ⟨rfl, rfl, rfl⟩) ⟨rfl, rfl, rfl, rfl⟩
        · simp only [List.cons_append, List.nil_append] at N20
          k_steps
          refine ⟨?_⟩
          refine holds_spec (by walk_at "my_cx") (by k_asm) (by k_asm) (I := I) (d := d) (a := a') (b := b') (by k_mem) (by k_mem) (by k_mem) hz' (no5 hok') (by k_mem) hi' hok' ?_
          intro h21 tk21 F21 N21
          k_steps
          refine ⟨?_⟩
          refine wpN.of ?_
          k_steps
          refine ⟨?_⟩
          exact turn_end (extra := [(a', BA.O b'), (r', W.listOf vs'.toArray n')]) F21 N21 hown (.inr ⟨_, _, _, _, _, rfl, rfl, rfl, rfl, hz', hi', hok'⟩) ⟨rfl, rfl, rfl, rfl⟩
  · intro hne
    exact absurd hb1 hne
  · intro _ c hc hm
    have := hb3 c hc
    omega
end

-- 70_head
theorem part70 : True := by
  w_top off
  trivial
-- the twins named here are the library's own, of the law's look, of stepOk, stepT, denote and treeTable
theorem saidRow : PySem.W.Fast.tw17960256430627541270 (PySem.W.Fast.tw2368527892694137696 PySem.Challenge.rw_kx0068_01) = true := by
  kernel_rfl
theorem said0 : PySem.Challenge.rw_kx0068_01.wellSaid = true := by
  rw [PySem.W.Fast.te9446332074065402090]
  delta PySem.W.Fast.tw9446332074065402090
  rw [saidRow]
  kernel_rfl
theorem left_of_run {p q : Program} {loose : List Str} {Xt : Shared → Bool} {α : Type} {Yf : Shared → α} {Ya : World → α} {N : Nat} {g0 : Bool} {H₀ : Params → Heap} {gs₀ : Array GenState} {d₀ : Drawn} {k₀ m₀ : Nat} {ann : Option Value}
    (open_ : ∀ w : World, (fencedOpening treeTable p w N).map (fun s => (s.heap, s.gens, s.drawn, s.toks)) = some (H₀ w.params, gs₀, d₀, k₀))
    (size : ∀ w : World, ((H₀ w.params).isNs mainGlobals && gs₀.size == 0, (H₀ w.params).objs.size, (H₀ w.params).nsMap mainGlobals "__annotations__") = (true, m₀, ann))
    (run : ∀ (w : World) (os : OsState), (topRun treeTable p w m₀ ann N ⟨H₀ w.params, gs₀, d₀, k₀, os⟩ (topStub p)).map (fun s =>
        (staticsOk (importedModules p.main.body) (H₀ w.params) s.heap && namesBound p s.heap && gensDone s && laidKept (H₀ w.params) s.heap,
          openSeen q loose (importedModules p.main.body) Xt g0 s, Yf s)) = some (true, openGood q loose, Ya w)) : LeftO p q loose Xt Yf Ya N g0 := fun w => by
  obtain ⟨⟨h, gs, d, k, os⟩, e, e'⟩ := Option.map_eq_some_iff.mp (open_ w)
  obtain ⟨rfl, rfl, rfl, rfl⟩ : h = H₀ w.params ∧ gs = gs₀ ∧ d = d₀ ∧ k = k₀ := by simpa using e'
  obtain ⟨z1, z2, z3⟩ : _ ∧ _ ∧ _ := by simpa only [Prod.mk.injEq] using size w
  obtain ⟨s, hs, es⟩ := Option.map_eq_some_iff.mp (run w os)
  obtain ⟨l1, l2, l3⟩ : _ ∧ _ ∧ _ := by simpa only [Prod.mk.injEq] using es
  have t : topFrom treeTable p w N ⟨H₀ w.params, gs, d, k, os⟩ = some s := by
    unfold topFrom
    dsimp only
    rw [z1, z2, z3, hs]
    show (match staticsOk (importedModules p.main.body) (H₀ w.params) s.heap && namesBound p s.heap && gensDone s && laidKept (H₀ w.params) s.heap with | true => _ | false => _) = _
    rw [l1]
  unfold openEnds
  rw [e]
  show (topFrom treeTable p w N _).map _ = _
  rw [t]
  show some (_, _) = _
  rw [l2, l3]
noncomputable abbrev PW : Program := PySem.Challenge.pw_kx0068_01
theorem open0 : ∀ w : World, (fencedOpening treeTable PW w 5704).map (fun s => (s.heap, s.gens, s.drawn, s.toks)) = some (boot_heap w.params, ⟨[]⟩, boot_drawn, boot_toks) :=
  boot_open (by rfl) (by decide) (fun s => by rfl)
theorem size0 : ∀ w : World, ((boot_heap w.params).isNs mainGlobals && (⟨[]⟩ : Array GenState).size == 0, (boot_heap w.params).objs.size, (boot_heap w.params).nsMap mainGlobals "__annotations__") = (true, 11, some (.ref 6)) := fun w => by kernel_rfl
abbrev LL : List Str := [Str.ofString "PyFATException", Str.ofString "errno", Str.ofString "EightDotThree"]
noncomputable def HK : Hook := kHook hd.heap_39 [2, 3, 15, 17, 18, 20, 21, 22, 25, 30, 31, 32, 34, 35, 37, 38, 39, 40, 41, 42, 45, 48, 53, 54, 56, 57, 59, 60, 61, 62, 63, 64, 74, 75, 76, 77, 78, 81, 84, 85, 86, 89, 90, 91, 93, 94, 96, 97, 98, 100, 101, 103, 104, 112, 113, 114, 116, 117, 119, 120, 121, 123, 124, 126, 127, 128, 130, 131, 133, 134, 135, 137, 138, 140, 141, 142, 144, 145, 147, 148, 149, 150, 151, 152, 154, 155, 157, 158, 159, 161, 162, 164, 165, 166, 168, 169, 171, 172, 173, 175, 176, 178, 179, 180, 182, 183, 185, 186, 187, 188, 189, 190, 191, 193, 194, 196, 197, 198, 199, 200, 201, 203, 204, 206, 207, 208, 209, 210, 211, 213, 214, 216, 217, 218, 219, 220, 221, 222, 223, 224, 225, 228, 230, 231, 233, 234, 235, 237, 238, 240, 241, 242, 244, 245, 247, 248, 249, 251, 252, 254, 255, 256, 259, 260, 261, 263, 264, 266, 267, 268, 270, 271, 273, 274, 275, 278, 279, 280, 283, 284, 285, 287, 288, 290, 291, 292, 294, 295, 297, 298, 299, 301, 302, 304, 305, 306, 308, 309, 311, 312, 313, 315, 316, 318, 319] (fun _ => by kernel_rfl)
noncomputable abbrev XT : Shared → Bool := fun s => xlAt hd.view_39 [] s && recOk (RowW.records PySem.Challenge.rw_kx0068_01.row.toRowW) s
/-- the top's run over a heap that is a tree -/
noncomputable def runF (ok : Thread → Bool) (st : SharedT → Thread → Option (SharedT × Thread)) (n : Nat) : SharedT → Thread → Option SharedT :=
  Nat.rec (motive := fun _ => SharedT → Thread → Option SharedT) (fun _ _ => none) (fun _ ih s t => match through t with
    | true => some s
    | false => match ok t with
      | false => none
      | true => match st s t with
        | some (s', t') => ih s' t'
        | none => none) n
theorem runF_of {tb : String → Option Builtin} {p : Program} {w : World} {n₀ : Nat} {ann : Option Value} : ∀ {n : Nat} {s s' : SharedT} {t : Thread}, runF (stepOk n₀ ann) (stepT (denote tb) p w) n s t = some s' → topRun tb p w n₀ ann n s.abs t = some s'.abs
  | 0, _, _, _, h => by cases h
  | n + 1, s, s', t, h => by
    change (match through t with
    | true => some s
    | false => match stepOk n₀ ann t with
      | false => none
      | true => match stepT (denote tb) p w s t with
        | some (s', t') => runF (stepOk n₀ ann) (stepT (denote tb) p w) n s' t'
        | none => none) = some s' at h
    unfold topRun
    cases ht : through t with
    | true => rw [ht] at h; cases h; rfl
    | false =>
      rw [ht] at h
      cases hk : stepOk n₀ ann t with
      | false => rw [hk] at h; cases h
      | true =>
        rw [hk] at h
        cases hs : stepT (denote tb) p w s t with
        | none => rw [hs] at h; cases h
        | some r => obtain ⟨s₂, t₂⟩ := r; rw [hs] at h; dsimp only at h ⊢; rw [stepT_spec hs]; exact runF_of h
noncomputable def T0 (P : Params) : BT :=
  .node (boot_o_0 P)
    (.node (boot_o_1 P) (.node (boot_o_3 P) (.node (boot_o_7 P) .nil .nil) .nil) (.node (boot_o_5 P) (.node (boot_o_9 P) .nil .nil) .nil))
    (.node (boot_o_2 P) (.node (boot_o_4 P) (.node (boot_o_8 P) .nil .nil) .nil) (.node (boot_o_6 P) (.node (boot_o_10 P) .nil .nil) .nil))
theorem abs0 (w : World) (os : OsState) : SharedT.abs ⟨T0 w.params, 11, {}, ⟨[]⟩, boot_drawn, boot_toks, os⟩ = ⟨boot_heap w.params, ⟨[]⟩, boot_drawn, boot_toks, os⟩ := by kernel_rfl
/-- the top's run: looked at twice, so that no look is large -/
noncomputable def RT (w : World) (os : OsState) : Option SharedT := runF (stepOk 11 (some (.ref 6))) (stepT (denote treeTable) PW w) 5704 ⟨T0 w.params, 11, {}, ⟨[]⟩, boot_drawn, boot_toks, os⟩ (topStub PW)
theorem runA (w : World) (os : OsState) : (RT w os).map (fun s => (staticsOk (importedModules PW.main.body) (boot_heap w.params) s.abs.heap && namesBound PW s.abs.heap && gensDone s.abs && laidKept (boot_heap w.params) s.abs.heap, HK.obs s.abs)) = some (true, HK.val w) := by
  unfold RT
  rw [PySem.W.Fast.te6613529449190102663, PySem.W.Fast.te10156331382660048174, PySem.W.Fast.te11892475500146522536, PySem.W.Fast.te14364793385576792824]
  kernel_rfl
theorem runB (w : World) (os : OsState) : (RT w os).map (fun s => openSeen hd.view_39 LL (importedModules PW.main.body) XT true s.abs) = some (openGood hd.view_39 LL) := by
  unfold RT
  rw [PySem.W.Fast.te6613529449190102663, PySem.W.Fast.te10156331382660048174, PySem.W.Fast.te11892475500146522536, PySem.W.Fast.te14364793385576792824]
  kernel_rfl
theorem run0 : ∀ (w : World) (os : OsState), (topRun treeTable PW w 11 (some (.ref 6)) 5704 ⟨boot_heap w.params, ⟨[]⟩, boot_drawn, boot_toks, os⟩ (topStub PW)).map (fun s =>
        (staticsOk (importedModules PW.main.body) (boot_heap w.params) s.heap && namesBound PW s.heap && gensDone s && laidKept (boot_heap w.params) s.heap,
          openSeen hd.view_39 LL (importedModules PW.main.body) XT true s, HK.obs s)) = some (true, openGood hd.view_39 LL, HK.val w) := fun w os => by
  obtain ⟨s, hs, ha⟩ := Option.map_eq_some_iff.mp (runA w os)
  have hb := runB w os
  rw [hs] at hb
  obtain ⟨ha, hc⟩ := Prod.mk.inj ha
  have t := runF_of hs
  rw [abs0] at t
  rw [t]
  show some (_, _, _) = _
  have hb' : openSeen hd.view_39 LL (importedModules PW.main.body) XT true s.abs = openGood hd.view_39 LL := Option.some.inj hb
  rw [ha, hb', hc]
theorem left0 : LeftO PW hd.view_39 LL XT HK.obs HK.val 5704 := left_of_run open0 size0 run0
/-- the head: what is left is the law's call -/
theorem hd (hc : ∀ d kwd, defOf hd.view_39 (Str.ofString "law") = some (d, kwd) → WalkD hd.view_39 LL (XL hd.view_39 []) HK.says PySem.Challenge.rw_kx0068_01.row.toRowW d kwd) : PySem.Challenge.rw_kx0068_01.Holds := holds_law said0 fun said => by
  refine holds_openD (q := hd.view_39) (loose := LL) (Xt := XT) (XP := XL hd.view_39 []) (Yf := HK.obs) (Ya := HK.val) (YP := HK.says) (N := 5704) left0 HK.of HK.keeps (fun s e => xl_of s (Bool.and_eq_true_iff.mp e).1) XL.keeps (by rfl) (by rfl) (by rfl) (fun s e => recFacts_of (Bool.and_eq_true_iff.mp e).2) (by rfl) said (by decide +kernel) ⟨rfl, rfl, rfl, rfl, rfl, by decide +kernel⟩ ?hw ?hc
  case hw => w_witness2
  case hc => exact hc _ _ (by rfl)

-- 71_end
theorem part71 : True := by
  w_top off
  trivial
theorem law_holds : PySem.Challenge.rw_kx0068_01.Holds := hd (by
  intro d kwd hdef
  obtain ⟨rfl, rfl⟩ := Prod.mk.inj (Option.some.inj hdef)
  clear hdef
  intro w s₀ s₁ mg mb G Y fa o pm cd doc dV kV ho hd hcd hD hmg hg args vals as hpre hlay hrd hwl hlo
  have KX := kIn_of Y
  refine Ground.open G ?_
  intro T _ _ _ _
  have h2 : mg "law" = some (.ref 319) := mg_of KX T.g (by k_is)
  have h3 : mg "law" = some (.ref fa) := hmg
  obtain rfl : fa = 319 := by
    rw [h2] at h3
    exact (Value.ref.inj (Option.some.inj h3)).symm
  clear h3 h2 hmg hD hcd hd ho Y
  wrow_args hpre hlay hrd hwl hlo
  rename_i hI _ hc _
  refine law_walk rfl KX T (by assumption) hI (by omega) (fun L' m' h' tk' F => ?_)
  refine GoodW.toG ?_
  refine goodW_bool F hg (raisesW_false ?_) ?_
  · wrow_none_raised
  · wrow_post)

end Mine
theorem PySem.Challenge.cw_kx0068_01_holds : PySem.Challenge.rw_kx0068_01.Holds :=
  Mine.law_holds
