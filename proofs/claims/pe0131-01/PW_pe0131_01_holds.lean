import PyProof.Rows.All
import Wide.All
import OpenK.AllK
import Wide.FinOn
import PySem.Challenge.RW_pe0131_01
set_option Elab.async false

-- O1
section
open PySem PySem.W PyProof.Rows PySem.Calls
namespace Mine

/-- the claim's caller lies below -/
def Blw (Γ : Ctx) : Prop := (Γ.below.any fun x => x.1.isCaller) = true
/-- the claim's caller is in the stack -/
def Has (Γ : Ctx) : Prop := Γ.code.isCaller = true ∨ Blw Γ
theorem Blw.has {Γ : Ctx} (h : Blw Γ) : Has Γ := .inr h
theorem Blw.goto {Γ : Ctx} (h : Blw Γ) (c : Code) : Blw (Γ.goto c) := h
theorem Has.enter {Γ : Ctx} (h : Has Γ) (c : Code) (hd : Option Value) (p : Pos) : Blw (Γ.enter c hd p) := by
  show (((Γ.code, p) :: Γ.below).any fun x => x.1.isCaller) = true
  rw [List.any_cons, Bool.or_eq_true]
  exact h

def wpOn {α : Type} (M : Model) (A : Around) (t : Sem α) (Q : α → Shared → Prop) (E : Value → Shared → Prop) (s : Shared) : Prop :=
  ∀ Γ p, Γ.In A → Has Γ → Sem.wp M Γ t (fun a _ s' => Q a s') (fun e _ s' => E e s') p s
def codeOn (M : Model) (A : Around) (c : Code) (R : Result → Shared → Prop) (s : Shared) : Prop :=
  ∀ Γ p, Γ.code = c → Γ.Below A → Blw Γ → wpCode M Γ R p s

section
variable {α β : Type} {M : Model} {A : Around} {E : Value → Shared → Prop} {s : Shared}
theorem wpOn_of {t : Sem α} {Q : α → Shared → Prop} (h : wpAny M A t Q E s) : wpOn M A t Q E s := fun Γ p hΓ _ => h Γ p hΓ
theorem codeOn_of {c : Code} {R : Result → Shared → Prop} (h : codeAny M A c R s) : codeOn M A c R s := fun Γ p hc hΓ _ => h Γ p hc hΓ
theorem wpOn_mono {t : Sem α} {Q Q' : α → Shared → Prop} {E' : Value → Shared → Prop} (h : wpOn M A t Q E s)
    (hQ : ∀ a s, Q a s → Q' a s) (hE : ∀ e s, E e s → E' e s) : wpOn M A t Q' E' s :=
  fun Γ p hΓ hh => Sem.wp_mono M Γ t (fun a _ s => hQ a s) (fun e _ s => hE e s) p s (h Γ p hΓ hh)
theorem wpOn_bind {m : Sem α} {f : α → Sem β} {Q : β → Shared → Prop} (h : wpOn M A m (fun a s' => wpOn M A (f a) Q E s') E s) :
    wpOn M A (m >>= f) Q E s := fun Γ p hΓ hh => by
  rw [Sem.wp_bind']
  exact Sem.wp_mono M Γ m (fun a p' s' h' => h' Γ p' hΓ hh) (fun _ _ _ h' => h') p s (h Γ p hΓ hh)
/-- the first step by any rule -/
theorem wpOn_bindA {m : Sem α} {f : α → Sem β} {Q : β → Shared → Prop} (h : wpAny M A m (fun a s' => wpOn M A (f a) Q E s') E s) :
    wpOn M A (m >>= f) Q E s := wpOn_bind (wpOn_of h)
theorem wpOn_pure {a : α} {Q : α → Shared → Prop} (h : Q a s) : wpOn M A (pure a) Q E s := wpOn_of (wpAny_pure h)
theorem wpOn_standAt {pos : Pos} {Q : Unit → Shared → Prop} (h : Q () s) : wpOn M A (standAt pos) Q E s := wpOn_of (wpAny_standAt h)
theorem wpOn_holding {vs : List Value} {m : Sem α} {Q : α → Shared → Prop} (h : wpOn M A m Q E s) : wpOn M A (holding vs m) Q E s :=
  fun Γ p hΓ hh => by rw [Sem.wp_holding]; exact h Γ p hΓ hh
theorem wpOn_tryCatch {m : Sem α} {k : Value → Sem α} {Q : α → Shared → Prop} (h : wpOn M A m Q (fun e s' => wpOn M A (k e) Q E s') s) :
    wpOn M A (tryCatch m k) Q E s := fun Γ p hΓ hh => by
  rw [Sem.wp_tryCatch']
  exact Sem.wp_mono M Γ m (fun _ _ _ h' => h') (fun e p' s' h' => h' Γ p' hΓ hh) p s (h Γ p hΓ hh)
theorem wpOn_onRaise {m : Sem α} {k : Value → Sem Unit} {Q : α → Shared → Prop}
    (h : wpOn M A m Q (fun e s' => wpAny M A (k e) (fun _ s'' => E e s'') E s') s) : wpOn M A (m.onRaise k) Q E s := fun Γ p hΓ hh => by
  rw [Sem.wp_onRaise]
  exact Sem.wp_mono M Γ m (fun _ _ _ h' => h') (fun e p' s' h' => h' Γ p' hΓ) p s (h Γ p hΓ hh)
theorem wpOn_attempt {m : Sem α} {Q : Except Value α → Shared → Prop} (h : wpOn M A m (fun a => Q (.ok a)) (fun e => Q (.error e)) s) :
    wpOn M A m.attempt Q E s := fun Γ p hΓ hh => by rw [Sem.wp_attempt]; exact h Γ p hΓ hh
theorem wpOn_run {c : Code} {h : Option Value} {Q : Flow → Shared → Prop}
    (hc : codeOn M (A.mark h) c (fun r s' => match r with | .ok f => Q f s' | .error e => E e s') s) (hnb : h ≠ some byPass := by intro x; cases x) :
    wpOn M A (run c h) Q E s :=
  fun Γ p hΓ hh => by rw [Sem.wp_run]; exact hc _ p rfl (hΓ.enter c h p hnb) (hh.enter c h p)
theorem wpOn_runValue {c : Code} {Q : Value → Shared → Prop}
    (hc : codeOn M A c (fun r s' => match r with | .ok (.ret v) => Q v s' | .ok _ => False | .error e => E e s') s) :
    wpOn M A (runValue c) Q E s := fun Γ p hΓ hh => by rw [Sem.wp_runValue]; exact hc _ p rfl (hΓ.enter c none p (by intro x; cases x)) (hh.enter c none p)
theorem wpOn_call {f : Value} {pos : List Value} {kw : List (Str × Value)} {Q : Value → Shared → Prop}
    (hc : codeOn M A (.call f ⟨pos, kw⟩) (fun r s' => match r with | .ok (.ret v) => Q v s' | .ok _ => False | .error e => E e s') s) :
    wpOn M A (call f pos kw) Q E s := wpOn_runValue hc
theorem codeOn_mono {c : Code} {R R' : Result → Shared → Prop} (h : codeOn M A c R s) (hR : ∀ r s, R r s → R' r s) : codeOn M A c R' s :=
  fun Γ p hc hΓ hh => wpCode_mono hR (h Γ p hc hΓ hh)
theorem codeOn_of_tree {c : Code} {R : Result → Shared → Prop}
    (h : wpOn M (A.under c) (M.den c) (fun fin s' => match fin with | .done f => R (.ok f) s' | .again c' => c'.quiet = true ∧ codeOn M A c' R s')
      (fun e s' => R (.error e) s') s) : codeOn M A c R s := fun Γ p hc hΓ hh => by
  rw [wpCode_iff_wp, hc]
  refine Sem.wp_mono M Γ _ (fun fin p' s' h' => ?_) (fun _ _ _ h' => h') p s (h Γ p (hc ▸ hΓ.in) hh.has)
  cases fin with
  | done f => exact h'
  | again c' => exact ⟨h'.1, h'.2 (Γ.goto c') p' rfl (hΓ.goto c') (hh.goto c')⟩
theorem codeOn_loop {c : Code} {R : Result → Shared → Prop} (hq : c.quiet = true) (I : Nat → Shared → Prop)
    (turn : ∀ n s, I n s → wpOn M (A.under c) (M.den c)
      (fun fin s' => match fin with | .done f => R (.ok f) s' | .again c' => c' = c ∧ ∃ m, m < n ∧ I m s') (fun e s' => R (.error e) s') s)
    (n : Nat) (h : I n s) : codeOn M A c R s := by
  have step : ∀ k s, I k s → (∀ m, m < k → ∀ s', I m s' → codeOn M A c R s') → codeOn M A c R s := fun k s here less =>
    codeOn_of_tree (wpOn_mono (turn k s here) (fun fin s' e => match fin, e with
      | .done _, e => e
      | .again _, ⟨same, m, lt, next⟩ => same ▸ ⟨hq, less m lt s' next⟩) fun _ _ e => e)
  exact Nat.strongRecOn (motive := fun k => ∀ s, I k s → codeOn M A c R s) n (fun k ih s here => step k s here fun m lt s' => ih m lt s') s h
end

section
variable {M : Model} {A : Around} {E : Value → Shared → Prop} {s : Shared} {env : Env}
/-- what follows a statement -/
def Nxt (M : Model) (A : Around) (rest : List Stmt) (env : Env) (Q : Flow → Shared → Prop) (E : Value → Shared → Prop) (f : Flow) (s' : Shared) : Prop :=
  match f with | .next => wpOn M A (execs rest env) Q E s' | f => Q f s'
theorem execsOn_nil {Q : Flow → Shared → Prop} (h : Q .next s) : wpOn M A (execs [] env) Q E s := fun _ _ _ _ => h
theorem execsOn_cons {st rest} {Q : Flow → Shared → Prop} (h : wpOn M A (exec st env) (Nxt M A rest env Q E) E s) :
    wpOn M A (execs (st :: rest) env) Q E s := fun Γ p hΓ hh => by
  rw [execs_cons, Sem.wp_bind']
  refine Sem.wp_mono M Γ _ (fun f p' s' h' => ?_) (fun _ _ _ h' => h') _ _ (h Γ p hΓ hh)
  cases f <;> first | exact h' Γ p' hΓ hh | exact h'
theorem execsOn_consA {st rest} {Q : Flow → Shared → Prop} (h : wpAny M A (exec st env) (Nxt M A rest env Q E) E s) :
    wpOn M A (execs (st :: rest) env) Q E s := execsOn_cons (wpOn_of h)
theorem assignOn_Name {x pos' value pos} {Q : Flow → Shared → Prop}
    (h : wpOn M A (eval value env) (fun v s₁ => wpAny M A (storeName env x v) (fun _ => Q .next) E s₁) E s)
    (hs : swapsWith value (some (.Name x pos')) pos.line env = pure false := by rfl) :
    wpOn M A (exec (.Assign [.Name x pos'] value pos) env) Q E s := fun Γ p hΓ hh => by
  simp only [exec_Assign_Name env x pos' value pos hs, Sem.wp_bind', Sem.wp_cmd_standAt, Sem.wp_bindName, Sem.wp_pure']
  exact Sem.wp_mono M Γ _ (fun v _ s₁ h₁ => h₁ Γ _ hΓ) (fun _ _ _ h' => h') _ _ (h Γ _ hΓ hh)
theorem returnOn {e pos} {Q : Flow → Shared → Prop} (h : wpOn M A (eval e env) (fun v s' => Q (.ret v) s') E s) : wpOn M A (exec (.Return (some e) pos) env) Q E s := by
  rw [exec_Return_some]
  exact wpOn_bind (wpOn_standAt (wpOn_bind (wpOn_mono h (fun _ _ x => wpOn_pure x) fun _ _ x => x)))
theorem compareOn {l op r pos} {Q : Value → Shared → Prop}
    (h : wpOn M A (eval l env) (fun a s₁ => wpOn M A (eval r env) (fun b s₂ => wpAny M A (compareOp op a b) Q E s₂) E s₁) E s)
    (hm : behindInMarks op r = false := by with_unfolding_all rfl) :
    wpOn M A (eval (.Compare l [op] [r] pos) env) Q E s := fun Γ p hΓ hh => by
  simp only [eval_Compare1, markedBehindIn_of_false hm, Sem.wp_bind', Sem.wp_holding, Sem.wp_cmd_standAt, Sem.wp_operate]
  exact Sem.wp_mono M Γ _ (fun a p₁ s₁ h₁ => Sem.wp_mono M Γ _ (fun b _ s₂ h₂ => h₂ Γ _ hΓ) (fun _ _ _ h' => h') _ _ (h₁ Γ p₁ hΓ hh))
    (fun _ _ _ h' => h') _ _ (h Γ p hΓ hh)
theorem binOpOn {l op r pos} {Q : Value → Shared → Prop}
    (h : wpAny M A (eval l env) (fun a s₁ => wpOn M A (eval r env) (fun b s₂ => wpAny M A (binaryOp op a b) Q E s₂) E s₁) E s) :
    wpOn M A (eval (.BinOp l op r pos) env) Q E s := fun Γ p hΓ hh => by
  simp only [eval_BinOp, Sem.wp_bind', Sem.wp_holding, Sem.wp_cmd_standAt, Sem.wp_operate]
  exact Sem.wp_mono M Γ _ (fun a p₁ s₁ h₁ => Sem.wp_mono M Γ _ (fun b _ s₂ h₂ => h₂ Γ _ hΓ) (fun _ _ _ h' => h') _ _ (h₁ Γ p₁ hΓ hh))
    (fun _ _ _ h' => h') _ _ (h Γ p hΓ)
end

section
variable {prog : Program} {w : World} {A : Around} {s : Shared} {R : Result → Shared → Prop}
theorem codeOn_func {body env}
    (h : wpOn (model prog w) (A.deeper env) (execs body env) (fun f s' => R (.ok (.ret (match f with | .ret v => v | _ => .none))) s')
      (fun e s' => wpAny (model prog w) (A.deeper env) (leaving env e) (fun _ s'' => R (.error e) s'') (fun e' s'' => R (.error e') s'') s') s) :
    codeOn (model prog w) A (.func body env) R s := by
  refine codeOn_of_tree ?_
  show wpOn _ (A.deeper env) (do point; match ← (execs body env).onRaise (leaving env) with | .ret v => ret v | _ => ret .none) _ _ s
  refine wpOn_bindA (wpAny_point (wpOn_bind (wpOn_onRaise (wpOn_mono h (fun f s' h' => ?_) fun _ _ h' => h'))))
  cases f <;> exact wpOn_pure h'
theorem codeOn_call_def {a : Addr} {o : Obj} {fd : FuncData} {body : List Stmt} {args : Args} {binds : List (Str × Value)}
    (hroom : A.depth < recursionLimit) (ho : s.heap.get? a = some o) (hdata : o.data = .func fd) (hlim : s.heap.NoLimit) (hcd : s.heap.CodeRec fd.code fd.qualname)
    (hbody : fd.body = .stmts body) (hbind : BindsTo s fd args binds)
    (hcell : ∀ x ∈ fd.scope.names, x.2 ≠ .cell) (hloc : ∀ x ∈ binds, fd.scope.names.lookup x.1 = some .local)
    (h : ∀ h₀, h₀.Ns s.heap.objs.size (fun x => binds.reverse.lookup x) → (∀ b o, s.heap.get? b = some o → h₀.get? b = some o) →
      wpOn (model prog w) (A.deeper (callEnv fd s.heap.objs.size a)) (execs body (callEnv fd s.heap.objs.size a)) (fun f s' => R (.ok (.ret (match f with | .ret v => v | _ => .none))) s')
        (fun e s' => wpAny (model prog w) (A.deeper (callEnv fd s.heap.objs.size a)) (leaving (callEnv fd s.heap.objs.size a) e) (fun _ s'' => R (.error e) s'') (fun e' s'' => R (.error e') s'') s')
        { s with heap := h₀, toks := s.toks + binds.length })
    (hco : fd.scope.isCoroutine = false := by rfl) (hgen : fd.scope.isGenerator = false := by rfl) (hk : fd.scope.kind = .function := by rfl) :
    codeOn (model prog w) A (.call (.ref a) args) R s := by
  obtain ⟨c, oc, vs, tq, isC, there, fields, named⟩ := hcd
  refine codeOn_of_tree (wpOn_of (?_ : wpAny (model prog w) A.in1 (callAny (.ref a) args) _ _ s))
  unfold callAny
  refine wpAny_bind (wpAny_load ho ?_)
  simp only [hdata, callFunction, hco, hgen, hbody, isC]
  refine wpAny_bind (m := field (.ref c) 1) (wpAny_field there fields named (wpAny_bind (wpAny_pure (wpAny_bind (hbind _ _ _ _ (wpAny_bind (wpAny_newFunctionEnv hcell hloc (fun h₁ own up => ?_) hk)))))))
  have grown : ∀ b o, s.heap.get? b = some o → h₁.get? b = some o := fun b o e => up.extBut b o (Nat.ne_of_lt (Heap.lt_size e)) (Heap.get?_push_of_some _ e)
  rw [← isC]
  exact wpAny_bind (wpAny_enterFrame (hlim.fresh _ up) hroom (wpAny_pure (And.intro rfl (codeOn_func (h h₁ own grown)))))
end

section
variable {prog : Program} {w : World} {A₀ A : Around} {s : Shared} {base h₀ : Heap} {outer : List Env} {L : Addr} {m : Str → Option Value} {env : Env} {news : List (Addr × Obj)} {K : Frag} {p : Program} {loose : List Str} {mean : ExcName → Option Value} {mg mb : Str → Option Value}
  {R : Result → Shared → Prop} {name qual : Str} {params : Arguments} {body : List Stmt} {scope : Scope} {dV kV doc pm cdv ct oc : Value} {an od : Option Addr} {osl : Array (Option Value)} {f : Addr} {args : Args} {binds : List (Str × Value)}
/-- the entry of a def with no cells, under the caller -/
theorem on_def
    (B : Below A₀ base outer h₀) (F : Fr h₀ L s.heap m) (X₀ : K.In h₀) (N : News h₀ L s.heap news) (T : Top p loose mean mg mb h₀) (hA : A.frames = some (env :: outer)) (hf : env.frame = some L) (hke : env.scope.kind = .function)
    (ho : K.lookup f = some ⟨oc, od, .func (fnOf name qual params body scope dV kV doc pm an cdv ct), osl⟩) (hcd : codeIn K cdv qual = true) (hroom : A.depth < recursionLimit)
    (hbind : BindsTo s (fnOf name qual params body scope dV kV doc pm an cdv ct) args binds) (hloc : ∀ y ∈ binds, scope.names.lookup y.1 = some .local)
    (h : ∀ g L' h₁, Fr h₀ L g m → Fr g L' h₁ (fun y => binds.reverse.lookup y) → News g L' h₁ news → Below A base (env :: outer) g → K.In g → Top p loose mean mg mb g →
      wpOn (model prog w) (A.deeper (envOf qual scope L' f cdv)) (execs body (envOf qual scope L' f cdv))
        (fun fl s' => LeaveK h₀ L m g R (match fl with | .ret v => v | _ => .none) s')
        (fun e s' => wpAny (model prog w) (A.deeper (envOf qual scope L' f cdv)) (leaving (envOf qual scope L' f cdv) e) (fun _ s'' => R (.error e) s'') (fun e' s'' => R (.error e') s'') s')
        { s with heap := h₁, toks := s.toks + binds.length })
    (hco : scope.isCoroutine = false) (hgen : scope.isGenerator = false) (hk : scope.kind = .function)
    (hcell : ∀ x ∈ scope.names, x.2 ≠ .cell) : codeOn (model prog w) A (.call (.ref f) args) R s := by
  obtain ⟨FG, BG, st, lv⟩ := groundX (R := R) B F N hA hf hke
  refine codeOn_call_def (fd := fnOf name qual params body scope dV kV doc pm an cdv ct) (body := body) (binds := binds) hroom ((X₀.keeps F.keep) _ _ ho) rfl (T.nolimit.keeps F.keep) (codeRec_of (X₀.keeps F.keep) hcd) rfl hbind hcell hloc (fun h₁ hns hk₁ => ?_) hco hgen hk
  exact wpOn_mono (h _ s.heap.objs.size h₁ FG ⟨hns, fun b o e => hk₁ b o (of_hideAll _ e), Nat.le_of_eq (hideAll_size _ _)⟩
    (fun p hp => ⟨hk₁ _ _ (N p hp).1, Nat.ne_of_lt (Heap.lt_size (N p hp).1), hideAll_none _ (List.mem_map_of_mem hp)⟩) BG (X₀.keeps st) (T.keeps st)) (fun fl s' hl => lv _ _ hl) fun _ _ y => y
end
end Mine
end

-- O2
section
open PySem PySem.W PyProof.Rows PySem.Calls
namespace Mine
theorem caller_has : Has (⟨.builtin "claim.caller" {}, none, none, [], none⟩ : Ctx) := .inl rfl

/-- a thread that begins as the claim's caller comes to its end, and what was said of the end is so; what is said looks at the heap and the world alone -/
theorem caller_run {prog : Program} {w : World} {t : Sem Fin} {s : Shared} {P : Result → Shared → Prop} (z : s.asleep)
    (like : ∀ (r : Result) (a b : Shared), a.heap = b.heap → a.os = b.os → P r b → P r a)
    (h : wpOn (model prog w) callerA t (fun fin s' => ∃ f, fin = .done f ∧ P (.ok f) s' ∧ AllBare s'.gens) (fun e s' => P (.error e) s' ∧ AllBare s'.gens) s) :
    ∃ n r s', schedN (denote table) prog w n (.single s ⟨t, .builtin "claim.caller" {}, default, []⟩) = .halted (outcomeOf r) s' ∧ s'.heap.life = s.heap.life ∧ P r s' := by
  have go := h _ default caller_in caller_has
  obtain ⟨n, r, b, a, sched, run, alike, q⟩ := wp_halts_full (M := model prog w) (R := P) z (Sem.wp_mono (model prog w) _ t
    (fun fin _ s' ⟨_, e, q, g⟩ => by subst e; exact ⟨q, leftWithCleanup_false_of_bare g⟩) (fun _ _ _ q => ⟨q.1, leftWithCleanup_false_of_bare q.2⟩) default s go)
  have ab := Shared.forget_eq alike
  exact ⟨n, r, a, sched, runN_life _ _ _ run, like r a b ab.1 ab.2.2.2.1 q⟩

/-- what the claim asks of an end -/
def Stands (c : ClaimW) (s : Shared) (args : List WData) (vs : List Value) (s₁ : Shared) (kept : Heap → Prop) (r : Result) (s' : Shared) : Prop :=
  c.Ends s args vs s₁ r s' ∧ s'.os = s.os ∧ kept s'.heap

/-- the claim's call, whatever is laid out for it -/
theorem caller_calls {c : ClaimW} {tree : List Value → Sem Fin} {w : World} {s : Shared} {free : Addr → Prop} {gens : Prop} {kept : Heap → Prop} (z : s.asleep) (g0 : s.gens = #[])
    (each : ∀ args, c.pre args = true → WData.layableAll args = true → ∀ ord : List DictEntry → List DictEntry, (∀ l, (ord l).Perm l) →
      ∃ vs s₁, layAllW c.records (classAt s.heap) w.params ord args s = some (vs, s₁) ∧ wpOn (model c.prog w) callerA (tree vs)
        (fun fin s' => ∃ f, fin = .done f ∧ Stands c s args vs s₁ kept (.ok f) s' ∧ AllBare s'.gens) (fun e s' => Stands c s args vs s₁ kept (.error e) s' ∧ AllBare s'.gens) s₁) :
    c.CallFrom (fun vs => ⟨tree vs, .builtin "claim.caller" {}, default, []⟩) w free gens kept s := fun args pre lay ord perm => by
  obtain ⟨vs, s₁, laid, walk⟩ := each args pre lay ord perm
  have same := layAllW_rest _ _ _ laid
  obtain ⟨n, r, s', sched, life, E, os, k⟩ := caller_run (Shared.asleep_of_life same.2.2.2 z) (fun _ _ _ eh eo q => ⟨q.1.congr eh, eo.trans q.2.1, eh ▸ q.2.2⟩) walk
  refine ⟨vs, s₁, laid, n, outcomeOf r, s', sched, Or.imp (fun ⟨v, e, q⟩ => ⟨v, congrArg outcomeOf e, q.1, q.2.1, q.2.2.1, fun b o y _ => q.2.2.2.1 b o y, q.2.2.2.2⟩)
    (fun ⟨x, ob, cls, e, q⟩ => ⟨x, ob, cls, congrArg outcomeOf e, q.1, q.2.1, q.2.2.1, q.2.2.2.1, fun b o y _ => q.2.2.2.2 b o y⟩) E, fun _ i x hx => ?_, k, congrArg Life.seen (life.trans same.2.2.2), Shared.rest_eq os⟩
  rw [g0] at hx
  cases hx

abbrev WalkOn (q : Program) (loose : List Str) (XP : (Str → Option Value) → Heap → Prop) (YP : World → Heap → Prop) (r : RowW) (d : DefRec) (kwd : List (Str × Expr)) (run : Value → List Value → Sem Value) : Prop :=
  ∀ (w : World) (s₀ s₁ : Shared) (mg mb : Str → Option Value), Ground q loose r.records XP w s₀ mg mb s₁.heap → YP w s₁.heap → ∀ (a : Addr) (o : Obj) (pm cd doc dV kV : Value), s₁.heap.get? a = some o →
    o.data = .func { docDef d.name d.params d.body d.scope pm cd doc with defaults := dV, kwdefaults := kV } → s₁.heap.CodeRec cd d.name → Dflts mg s₁.heap d.params kwd dV kV → mg d.name = some (.ref a) → s₁.gens = #[] →
    ∀ (args : List WData) (vals : List Value) (as : List Addr), r.claim.pre args = true → WData.layableAll args = true → ReadsAllW r.records (classAt s₀.heap) s₁.heap vals args as → WellAll w.params s₁.heap vals args → (∀ a ∈ as, (a == sysModules) = false) →
      wpOn (model r.prog w) callerA (run (.ref a) vals) (fun v s' => GoodWG r.claim (classAt s₀.heap) (ExcName.means s₀.heap) args s₁ (.ok (.ret v)) s')
        (fun e s' => GoodWG r.claim (classAt s₀.heap) (ExcName.means s₀.heap) args s₁ (.error e) s') s₁

/-- the head, for a walk under the caller alone -/
theorem PySem.W.holds_open {r : OpenRow} {q : Program} {loose : List Str} {Xt : Shared → Bool} {XP : (Str → Option Value) → Heap → Prop} {α : Type} {Yf : Shared → α} {Ya : World → α} {YP : World → Heap → Prop} {d : DefRec} {kwd : List (Str × Expr)} {N : Nat}
    (left : LeftO r.prog q loose Xt Yf Ya N) (hY : ∀ w s, Yf s = Ya w → YP w s.heap) (hYk : ∀ w h h', YP w h → (∀ b o, h.get? b = some o → h'.get? b = some o) → YP w h')
    (hX : ∀ s, Xt s = true → XP (s.heap.nsMap mainGlobals) s.heap) (hXk : ∀ mg h h', XP mg h → (∀ b o, h.get? b = some o → h'.get? b = some o) → XP mg h')
    (hdef : defOf q r.name = some (d, kwd)) (hp : r.prog.theDef r.name = some (d.params, d.body, d.scope)) (hk : kwWritten? d.params.kwonlyargs d.params.kw_defaults = some kwd) (hRf : ∀ s, Xt s = true → RecFacts r.records s.heap) (hwr : (!r.writes || r.records.isEmpty) = true)
    (k1 : r.wellSaid = true) (ok : (chainsOk q && opensWell r.prog && (frees r.toRowW && r.within.isEmpty)) = true) (hb : r.prog.bare) (hw : r.toRowW.promised)
    (call : WalkOn q loose XP YP r.toRowW d kwd fun f vs => PySem.call f vs) : r.Holds := by
  simp only [Bool.and_eq_true] at ok
  obtain ⟨⟨chains, opens⟩, free, inside⟩ := ok
  obtain ⟨hsame, hu, ha, hap, hm⟩ := frees_parts free
  have nowhere : r.claim.within = [] := List.isEmpty_iff.mp inside
  refine ⟨k1, hw, ⟨hb, opens, congrArg (List.map _) hm⟩, hw.witness, fun w => ?_⟩
  have top := left.behind (XP := fun mg h => XP mg h ∧ RecFacts r.records h) (fun s e => ⟨hX s e, hRf s e⟩) chains w
  refine ⟨top.1, fun s' after => ?_⟩
  obtain ⟨s₀, fence, none₀, s, ran, z, gens, isNs, both, says⟩ := top.2 s' after
  have tables := both.X.2
  have plain : Ground q loose [] XP w s (s.heap.nsMap mainGlobals) (s.heap.nsMap builtinsNs) s.heap := { both with X := both.X.1 }
  have G := tables.ground plain
  have g0 : s.gens = #[] := Array.eq_empty_of_size_eq_zero (by simpa using gens)
  refine ⟨s₀, fence, none₀, s, ran, fun n hn => ?_, tables.1, tables.2.1, caller_calls (c := r.claim) (tree := fun vs => do match ← nsGet mainNs r.name with
      | some f => do ret (← PySem.call f vs)
      | none => unsupported "claim.caller:no-such-global") z g0 fun args pre lay ord perm => ?_⟩
  · have one : n = r.name := by split at hn <;> simp_all
    exact one ▸ pinned_of_view isNs plain hdef hp hk
  · obtain ⟨x, laid⟩ := Option.isSome_iff_exists.mp (layAllW_isSome (P := w.params) (ord := ord) G.has args r.args s (pre_splitW pre).1)
    have old := layAllW_keeps _ _ _ laid
    have same := layAllW_rest _ _ _ laid
    obtain ⟨as, reads, inn, stand⟩ := reads_layAllW perm _ _ _ laid lay x.2.heap fun _ _ e => e
    have L : Laid r.records w s x.2 args x.1 as := { laid := ⟨ord, perm, laid⟩, reads := reads, within := inn, old := stand, keeps := old, gens := same.1.trans g0, os := same.2.2.1 }
    have G₁ := G.keeps hXk old
    obtain ⟨a, o, pm, cd, doc, dV, kV, h1, h2, h3, h4, h5⟩ := G₁.fn hdef
    have walk := call w s x.2 _ _ G₁ (hYk _ _ _ (hY w s says) old) a o pm cd doc dV kV h2 h3 h4 h5 (defOf_name hdef ▸ h1) L.gens args x.1 as pre lay L.reads L.well (L.low G.low)
    refine ⟨x.1, x.2, laid, wpOn_bindA (wpAny_nsGet G₁.T.g ?_)⟩
    rw [h1]
    have said : ∀ {kept : Heap → Prop} {res : Result} {s' : Shared}, GoodWG r.claim (classAt s.heap) (ExcName.means s.heap) args x.2 res s' → (kept s'.heap) → Stands r.claim s args x.1 x.2 kept res s' ∧ AllBare s'.gens := fun g k =>
      have e := g.laid (c := r.claim) hsame nowhere (ident_freeW hu ha hap) L
      ⟨⟨e.1, e.2.1, k⟩, e.2.2⟩
    exact wpOn_bind (wpOn_mono walk (fun _ _ g => wpOn_pure ⟨_, rfl, said g fun q => ⟨namesKept_of ran isNs _ old g.2.1.old, noTable hwr q⟩⟩)
      fun _ _ g => said g fun q => ⟨namesKept_of ran isNs _ old g.2.1.old, noTable hwr q⟩)
end Mine
end

-- H1
section
open PySem PySem.W PyProof.Rows
namespace Mine
set_option maxRecDepth 100000
set_option maxHeartbeats 8000000
open_top hd for PySem.Challenge.rw_pe0131_01
end Mine
end

theorem Mine.top_off : True := by
  w_top off
  trivial

-- A1
section
open PySem PySem.W PyProof.Rows PySem.Calls
set_option maxRecDepth 100000
namespace Mine

/-- a text of these signs -/
def S (l : List Nat) : Str := ⟨l.toArray⟩
theorem S_toList (l : List Nat) : (S l).cps.toList = l := rfl
theorem S_len (l : List Nat) : (S l).length = l.length := by simp [S, Str.length]
theorem S_of (x : Str) : S x.cps.toList = x := Str.ext' (by simp [S])
theorem S_app (a b : List Nat) : S a ++ S b = S (a ++ b) := Str.ext' (by simp [S, Str.cps_append])
theorem S_inj {a b : List Nat} (h : S a = S b) : a = b := by have := congrArg (fun x => x.cps.toList) h; simpa [S] using this
theorem len_toList (x : Str) : x.length = x.cps.toList.length := by simp [Str.length]

/-- one sign written as others -/
def rep1 (c : Nat) (z : List Nat) (l : List Nat) : List Nat := l.flatMap fun d => if d = c then z else [d]
theorem rep1_free (c : Nat) (z : List Nat) : ∀ l : List Nat, c ∉ l → rep1 c z l = l
  | [], _ => rfl
  | k :: r, h => by
    have h1 : k ≠ c := fun e => h (e ▸ List.mem_cons_self ..)
    have h2 := rep1_free c z r fun m => h (List.mem_cons_of_mem _ m)
    unfold rep1 at h2 ⊢
    rw [List.flatMap_cons, if_neg h1, h2]; rfl
theorem rep1_app (c : Nat) (z a b : List Nat) : rep1 c z (a ++ b) = rep1 c z a ++ rep1 c z b := by simp [rep1]
theorem rep1_join (c : Nat) (z : Str) : ∀ parts : List Str, (∀ p ∈ parts, c ∉ p.cps.toList) → rep1 c z.cps.toList (Str.join ⟨#[c]⟩ parts).cps.toList = (Str.join z parts).cps.toList
  | [], _ => rfl
  | [p], h => rep1_free c _ _ (h p (List.mem_singleton.mpr rfl))
  | p :: q :: r, h => by
    have ih := rep1_join c z (q :: r) fun a ha => h a (List.mem_cons_of_mem _ ha)
    show rep1 c z.cps.toList (p ++ ⟨#[c]⟩ ++ Str.join ⟨#[c]⟩ (q :: r)).cps.toList = (p ++ z ++ Str.join z (q :: r)).cps.toList
    simp only [Str.cps_append, Array.toList_append, rep1_app]
    rw [ih, rep1_free c _ _ (h p (List.mem_cons_self ..))]
    simp [rep1]
theorem replace_rep1 (x z : Str) (c : Nat) : (Txt.replace x ⟨#[c]⟩ z).cps.toList = rep1 c z.cps.toList x.cps.toList := by
  rw [StrLaws.replace_one, ← rep1_join c z _ (StrLaws.split_free x c), StrLaws.join_split]
theorem replace_S (l z : List Nat) (c : Nat) : Txt.replace (S l) (S [c]) (S z) = S (rep1 c z l) := by
  rw [← S_of (Txt.replace (S l) (S [c]) (S z))]
  show S (Txt.replace (S l) ⟨#[c]⟩ (S z)).cps.toList = _
  rw [replace_rep1]; rfl
theorem in_S (l : List Nat) (c : Nat) : (!(Builtin.Str.occurrences (S l) (S [c]) 0 (S l).length 1).isEmpty) = decide (c ∈ l) := StrLaws.found_one (S l) c
theorem rep1_len (c : Nat) (z : List Nat) (k : Nat) (hz : z.length ≤ k) (h1 : 1 ≤ k) : ∀ l : List Nat, (rep1 c z l).length ≤ k * l.length
  | [] => by simp [rep1]
  | d :: r => by
    have ih := rep1_len c z k hz h1 r
    unfold rep1 at ih ⊢
    rw [List.flatMap_cons, List.length_append, List.length_cons, Nat.mul_succ]
    split
    · omega
    · simp only [List.length_singleton]; omega

section
variable {prog : Program} {w : World} {A : Around} {E : Value → Shared → Prop} {s : Shared} {name : Str} {scope : Scope} {L a : Addr} {cd : Value} {h₀ : Heap} {m : Str → Option Value} {news : List (Addr × Obj)}
variable {v cs zs : Str} {l : List Nat} {t : Tok} {k1 k2 k3 : Nat} {p1 p2 p3 p4 p5 p6 p7 p8 p9 p10 p11 : Pos} {pl : Sem Bool} {Q : Flow → Shared → Prop}
/-- «if c in v: v = v.replace(c, z)» is v told anew -/
theorem if_rep (c : Nat) (z : List Nat) (ec : cs = S [c]) (ez : zs = S z) (F : Fr h₀ L s.heap m) (N : News h₀ L s.heap news) (hv : m v = some (.str (S l) t)) (hl : l.length ≤ 100000) (hz : z.length ≤ 14) (hcz : [c] ≠ z)
    (h : ∀ h' tk' t', Fr h₀ L h' (fun y => if y = v then some (.str (S (rep1 c z l)) t') else m y) → News h₀ L h' news → Q .next { s with heap := h', toks := tk' })
    (hk : scope.kind = .function) (hkv : (envOf name scope L a cd).kindOf v = some .local) (hd : (v == ("__debug__" : Str)) = false)
    (b1 : behindInMarks .In (.Name v p2) = false)
    (b2 : swapsWith (.Call (.Attribute (.Name v p5) "replace" p6) [.Constant (.str cs) k2 p7, .Constant (.str zs) k3 p8] [] p9) (some (.Name v p4)) p10.line (envOf name scope L a cd) = pure false)
    (he : eval (.Call (.Attribute (.Name v p5) "replace" p6) [.Constant (.str cs) k2 p7, .Constant (.str zs) k3 p8] [] p9) (envOf name scope L a cd) = (do
      let ov ← eval (.Name v p5) (envOf name scope L a cd)
      standAt p6.atName
      let (f, first) ← holding [ov] (getMethod ov "replace" pl)
      callWith p9 f first (backTo p9 (starEach [.Constant (.str cs) k2 p7, .Constant (.str zs) k3 p8] (envOf name scope L a cd))) [])) :
    wpAny (model prog w) A (exec (.If (.Compare (.Constant (.str cs) k1 p1) [.In] [.Name v p2] p3)
      [.Assign [.Name v p4] (.Call (.Attribute (.Name v p5) "replace" p6) [.Constant (.str cs) k2 p7, .Constant (.str zs) k3 p8] [] p9) p10] [] p11) (envOf name scope L a cd)) Q E s := by
  refine wpAny_If (wpAny_isTrue_Compare1 (Calls.Constant_str (ld F hv (in_str (wpAny_truthy_bool ?_)) hk hkv hd)) b1)
  rw [ec, in_S]
  by_cases hc : c ∈ l
  · rw [decide_eq_true hc, if_pos rfl, ← ec]
    refine wpAny_execs_cons (wpAny_Assign_Name (MethodCall_ (ld F hv (GM.replace (callWith_method1 (args_cons (Calls.Constant_str (args_cons (Calls.Constant_str (args_nil ?_))))))) hk hkv hd) he) b2)
    show wpAny (model prog w) A (call (.builtin "str.replace") [.str (S l) t, .str cs (s.toks + 1), .str zs (s.toks + 1 + 1)]) _ _ _
    rw [ec, ez]
    refine SC.replaceW (Nat.succ_ne_zero _) (Nat.succ_ne_zero _) (Nat.ne_of_lt (Nat.lt_succ_self _)) (beq_eq_false_iff_ne.mpr fun e => hcz (S_inj e)) (by rw [S_len]; omega) (by rw [S_len]; exact hz) fun t' k => ?_
    refine stN F N (fun h' F' N' => ?_) hk hkv
    refine wpAny_execs_nil ?_
    rw [replace_S] at F'
    exact h h' _ t' F' N'
  · rw [decide_eq_false hc, if_neg Bool.false_ne_true]
    refine wpAny_execs_nil ?_
    have e : (fun y => if y = v then some (.str (S (rep1 c z l)) t) else m y) = m := by
      funext y
      by_cases hy : y = v
      · rw [if_pos hy, hy, hv, rep1_free c z l hc]
      · rw [if_neg hy]
    exact h s.heap (s.toks + 1) t (by rw [e]; exact F) N

end

/-- a sign as a table of pairs tells it -/
def tab (al : List (Nat × List Nat)) (d : Nat) : List Nat := (al.lookup d).getD [d]
theorem tab_nil (d : Nat) : tab [] d = [d] := rfl
theorem flat_nil (l : List Nat) : l.flatMap (tab []) = l := by
  induction l with
  | nil => rfl
  | cons d r ih => rw [List.flatMap_cons, ih]; rfl
theorem rep1_flat (c : Nat) (z : List Nat) (f : Nat → List Nat) : ∀ l : List Nat, rep1 c z (l.flatMap f) = l.flatMap fun d => rep1 c z (f d)
  | [] => rfl
  | d :: r => by rw [List.flatMap_cons, rep1_app, rep1_flat c z f r, List.flatMap_cons]
theorem rep1_tab (c : Nat) (z : List Nat) (d : Nat) : ∀ al : List (Nat × List Nat), (al.all fun p => p.1 != c && !p.2.contains c) = true → rep1 c z (tab al d) = tab (al ++ [(c, z)]) d
  | [], _ => by
    by_cases h : d = c
    · subst h; simp [rep1, tab, List.lookup]
    · have : (d == c) = false := by simpa using h
      simp [rep1, tab, List.lookup, h, this]
  | (a, b) :: r, h => by
    rw [List.all_cons, Bool.and_eq_true] at h
    have ih := rep1_tab c z d r h.2
    by_cases hd : d = a
    · subst hd
      have hb : c ∉ b := by have := h.1; simp at this; exact this.2
      simp only [tab, List.cons_append, List.lookup, beq_self_eq_true, Option.getD_some]
      exact rep1_free c z b hb
    · have e : (d == a) = false := by simpa using hd
      simp only [tab, List.cons_append, List.lookup, e] at ih ⊢
      exact ih
theorem rep1_tabs (c : Nat) (z : List Nat) (al : List (Nat × List Nat)) (h : (al.all fun p => p.1 != c && !p.2.contains c) = true) (l : List Nat) : rep1 c z (l.flatMap (tab al)) = l.flatMap (tab (al ++ [(c, z)])) := by
  rw [rep1_flat]
  congr 1
  funext d
  exact rep1_tab c z d al h
theorem tab_len (k : Nat) (h1 : 1 ≤ k) (d : Nat) : ∀ al : List (Nat × List Nat), (al.all fun p => decide (p.2.length ≤ k)) = true → (tab al d).length ≤ k
  | [], _ => by simpa [tab, List.lookup] using h1
  | (a, b) :: r, h => by
    rw [List.all_cons, Bool.and_eq_true] at h
    have ih := tab_len k h1 d r h.2
    by_cases hd : d = a
    · subst hd; simp only [tab, List.lookup, beq_self_eq_true, Option.getD_some]; exact of_decide_eq_true h.1
    · have e : (d == a) = false := by simpa using hd
      simp only [tab, List.lookup, e] at ih ⊢
      exact ih
theorem flat_len (k : Nat) (f : Nat → List Nat) (hf : ∀ d, (f d).length ≤ k) : ∀ l : List Nat, (l.flatMap f).length ≤ k * l.length
  | [] => by simp
  | d :: r => by
    have ih := flat_len k f hf r
    have := hf d
    rw [List.flatMap_cons, List.length_append, List.length_cons, Nat.mul_succ]; omega

section
variable {prog : Program} {w : World} {A : Around} {E : Value → Shared → Prop} {s : Shared} {name : Str} {scope : Scope} {L a : Addr} {cd : Value} {h₀ : Heap} {m : Str → Option Value} {news : List (Addr × Obj)}
variable {v cs zs : Str} {l : List Nat} {al : List (Nat × List Nat)} {t : Tok} {k1 k2 k3 : Nat} {p1 p2 p3 p4 p5 p6 p7 p8 p9 p10 p11 : Pos} {pl : Sem Bool} {Q : Flow → Shared → Prop}
theorem if_tab (c : Nat) (z : List Nat) (ec : cs = S [c]) (ez : zs = S z) (F : Fr h₀ L s.heap m) (N : News h₀ L s.heap news) (hv : m v = some (.str (S (l.flatMap (tab al))) t)) (hl : l.length ≤ 10000)
    (hal : ((al.all fun p => p.1 != c && !p.2.contains c) && (al.all fun p => decide (p.2.length ≤ 6)) && decide (z.length ≤ 6) && decide ([c] ≠ z)) = true)
    (h : ∀ h' tk' t', Fr h₀ L h' (fun y => if y = v then some (.str (S (l.flatMap (tab (al ++ [(c, z)])))) t') else m y) → News h₀ L h' news → Q .next { s with heap := h', toks := tk' })
    (hk : scope.kind = .function) (hkv : (envOf name scope L a cd).kindOf v = some .local) (hd : (v == ("__debug__" : Str)) = false)
    (b1 : behindInMarks .In (.Name v p2) = false)
    (b2 : swapsWith (.Call (.Attribute (.Name v p5) "replace" p6) [.Constant (.str cs) k2 p7, .Constant (.str zs) k3 p8] [] p9) (some (.Name v p4)) p10.line (envOf name scope L a cd) = pure false)
    (he : eval (.Call (.Attribute (.Name v p5) "replace" p6) [.Constant (.str cs) k2 p7, .Constant (.str zs) k3 p8] [] p9) (envOf name scope L a cd) = (do
      let ov ← eval (.Name v p5) (envOf name scope L a cd)
      standAt p6.atName
      let (f, first) ← holding [ov] (getMethod ov "replace" pl)
      callWith p9 f first (backTo p9 (starEach [.Constant (.str cs) k2 p7, .Constant (.str zs) k3 p8] (envOf name scope L a cd))) [])) :
    wpAny (model prog w) A (exec (.If (.Compare (.Constant (.str cs) k1 p1) [.In] [.Name v p2] p3)
      [.Assign [.Name v p4] (.Call (.Attribute (.Name v p5) "replace" p6) [.Constant (.str cs) k2 p7, .Constant (.str zs) k3 p8] [] p9) p10] [] p11) (envOf name scope L a cd)) Q E s := by
  simp only [Bool.and_eq_true, decide_eq_true_eq] at hal
  obtain ⟨⟨⟨h1, h2⟩, h3⟩, h4⟩ := hal
  have hlen := flat_len 6 (tab al) (fun d => tab_len 6 (by omega) d al h2) l
  refine if_rep c z ec ez F N hv (by omega) (by omega) h4 (fun h' tk' t' F' N' => ?_) hk hkv hd b1 b2 he
  rw [rep1_tabs c z al h1] at F'
  exact h h' tk' t' F' N'
end
end Mine
end

-- B1
section
open PySem PySem.W PyProof.Rows PySem.Calls
namespace Mine
set_option maxRecDepth 100000
set_option maxHeartbeats 4000000

/-- the five hands' tables -/
def tabs (hand : Int) : List (Nat × List Nat) :=
  if hand = 0 then [(38, [38, 97, 109, 112, 59]), (60, [38, 108, 116, 59]), (62, [38, 103, 116, 59])]
  else if hand = 1 then [(38, [38, 97, 109, 112, 59]), (60, [38, 108, 116, 59]), (62, [38, 103, 116, 59]), (34, [38, 113, 117, 111, 116, 59]), (13, [38, 35, 49, 51, 59]), (10, [38, 35, 49, 48, 59]), (9, [38, 35, 48, 57, 59])]
  else if hand = 2 then [(38, [38, 97, 109, 112, 59]), (62, [38, 103, 116, 59]), (34, [38, 113, 117, 111, 116, 59])]
  else if hand = 3 then [(38, [38, 97, 109, 112, 59]), (60, [38, 108, 116, 59]), (62, [38, 103, 116, 59]), (13, [38, 35, 120, 68, 59])]
  else [(38, [38, 97, 109, 112, 59]), (60, [38, 108, 116, 59]), (34, [38, 113, 117, 111, 116, 59]), (9, [38, 35, 120, 57, 59]), (10, [38, 35, 120, 65, 59]), (13, [38, 35, 120, 68, 59])]

/-- def f, called upon vs from a def's frame over any ledger, hands back the text x and leaves no object behind -/
def TelS (w : World) (mean : ExcName → Option Value) (mg mb : Str → Option Value) (news : List (Addr × Obj)) (n : Nat) (f : Addr) (vs : List Value) (x : Str) : Prop :=
  ∀ (dp un : Nat) (gd : Option (List Code)) (cn : Str) (cs : Scope) (a : Addr) (ccd : Value) (cl : List (Str × Addr)) (outer : List Env) (A₀ : Around) (base h₀ : Heap) (L : Addr) (m : Str → Option Value) (s : Shared) (Q E : Value → Shared → Prop),
    Below A₀ base outer h₀ → Fr h₀ L s.heap m → (hd.heap_39 w.params).In h₀ → News h₀ L s.heap news → Top hd.view_39 (looseW hd.view_39 []) mean mg mb h₀ → cs.kind = .function →
    dp + n < recursionLimit → un + 8 * n < cLine →
    (∀ (t : Tok) (h' : Heap) (tk' : Nat), Fr h₀ L h' m → News h₀ L h' news → Q (.str x t) { s with heap := h', toks := tk' }) →
    wpAny (model Challenge.rw_pe0131_01.row.prog w) (ktrTop dp un gd cn cs L a ccd cl outer) (call (.ref f) vs) Q E s

theorem TelS.use {w : World} {mean : ExcName → Option Value} {mg mb : Str → Option Value} {n : Nat} {f : Addr} {vs : List Value} {x : Str} {news : List (Addr × Obj)} {dp un : Nat} {gd : Option (List Code)} {cn : Str} {cs : Scope} {a : Addr} {ccd : Value} {cl : List (Str × Addr)} {outer : List Env} {A₀ : Around} {base h₀ : Heap} {L : Addr} {m : Str → Option Value} {s : Shared} {Q E : Value → Shared → Prop}
    (C : TelS w mean mg mb news n f vs x) (B : Below A₀ base outer h₀) (F : Fr h₀ L s.heap m) (X : (hd.heap_39 w.params).In h₀) (N : News h₀ L s.heap news) (T : Top hd.view_39 (looseW hd.view_39 []) mean mg mb h₀) (hk : cs.kind = .function)
    (hd : dp + n < recursionLimit) (hu : un + 8 * n < cLine)
    (ret : ∀ (t : Tok) (h' : Heap) (tk' : Nat), Fr h₀ L h' m → News h₀ L h' news → Q (.str x t) { s with heap := h', toks := tk' }) :
    wpAny (model Challenge.rw_pe0131_01.row.prog w) (ktrTop dp un gd cn cs L a ccd cl outer) (call (.ref f) vs) Q E s := C _ _ _ _ _ _ _ _ _ _ _ _ _ _ _ _ _ B F X N T hk hd hu ret

local macro_rules | `(tactic| walk_at $s:str) => `(tactic| k_extra $s)
theorem rules_B1 : True := by
  w_top off
  k_with_none
  (k_with "exec If" => ((k_here; (with_reducible rename Fr _ _ _ _ => zzkF); (with_reducible rename News _ _ _ _ => zzkN); k_dflt ((first | ((with_reducible show wpAny _ _ (exec (Stmt.If (Expr.Compare (Expr.Constant (Const.str (Str.ofString "&")) _ _) _ _ _) [Stmt.Assign _ (Expr.Call _ [_, Expr.Constant (Const.str (Str.ofString "&amp;")) _ _] _ _) _] _ _) _) _ _ _); refine' if_tab 38 [38, 97, 109, 112, 59] (by decide +kernel) (by decide +kernel) zzkF zzkN ?zzhv ?zzhl ?zzhal ?_ rfl rfl (by decide) (by rfl) (by rfl) (by rfl)) | ((with_reducible show wpAny _ _ (exec (Stmt.If (Expr.Compare (Expr.Constant (Const.str (Str.ofString "<")) _ _) _ _ _) [Stmt.Assign _ (Expr.Call _ [_, Expr.Constant (Const.str (Str.ofString "&lt;")) _ _] _ _) _] _ _) _) _ _ _); refine' if_tab 60 [38, 108, 116, 59] (by decide +kernel) (by decide +kernel) zzkF zzkN ?zzhv ?zzhl ?zzhal ?_ rfl rfl (by decide) (by rfl) (by rfl) (by rfl)) | ((with_reducible show wpAny _ _ (exec (Stmt.If (Expr.Compare (Expr.Constant (Const.str (Str.ofString ">")) _ _) _ _ _) [Stmt.Assign _ (Expr.Call _ [_, Expr.Constant (Const.str (Str.ofString "&gt;")) _ _] _ _) _] _ _) _) _ _ _); refine' if_tab 62 [38, 103, 116, 59] (by decide +kernel) (by decide +kernel) zzkF zzkN ?zzhv ?zzhl ?zzhal ?_ rfl rfl (by decide) (by rfl) (by rfl) (by rfl)) | ((with_reducible show wpAny _ _ (exec (Stmt.If (Expr.Compare (Expr.Constant (Const.str (Str.ofString "\"")) _ _) _ _ _) [Stmt.Assign _ (Expr.Call _ [_, Expr.Constant (Const.str (Str.ofString "&quot;")) _ _] _ _) _] _ _) _) _ _ _); refine' if_tab 34 [38, 113, 117, 111, 116, 59] (by decide +kernel) (by decide +kernel) zzkF zzkN ?zzhv ?zzhl ?zzhal ?_ rfl rfl (by decide) (by rfl) (by rfl) (by rfl)) | ((with_reducible show wpAny _ _ (exec (Stmt.If (Expr.Compare (Expr.Constant (Const.str (Str.ofString "\r")) _ _) _ _ _) [Stmt.Assign _ (Expr.Call _ [_, Expr.Constant (Const.str (Str.ofString "&#13;")) _ _] _ _) _] _ _) _) _ _ _); refine' if_tab 13 [38, 35, 49, 51, 59] (by decide +kernel) (by decide +kernel) zzkF zzkN ?zzhv ?zzhl ?zzhal ?_ rfl rfl (by decide) (by rfl) (by rfl) (by rfl)) | ((with_reducible show wpAny _ _ (exec (Stmt.If (Expr.Compare (Expr.Constant (Const.str (Str.ofString "\r")) _ _) _ _ _) [Stmt.Assign _ (Expr.Call _ [_, Expr.Constant (Const.str (Str.ofString "&#xD;")) _ _] _ _) _] _ _) _) _ _ _); refine' if_tab 13 [38, 35, 120, 68, 59] (by decide +kernel) (by decide +kernel) zzkF zzkN ?zzhv ?zzhl ?zzhal ?_ rfl rfl (by decide) (by rfl) (by rfl) (by rfl)) | ((with_reducible show wpAny _ _ (exec (Stmt.If (Expr.Compare (Expr.Constant (Const.str (Str.ofString "\n")) _ _) _ _ _) [Stmt.Assign _ (Expr.Call _ [_, Expr.Constant (Const.str (Str.ofString "&#10;")) _ _] _ _) _] _ _) _) _ _ _); refine' if_tab 10 [38, 35, 49, 48, 59] (by decide +kernel) (by decide +kernel) zzkF zzkN ?zzhv ?zzhl ?zzhal ?_ rfl rfl (by decide) (by rfl) (by rfl) (by rfl)) | ((with_reducible show wpAny _ _ (exec (Stmt.If (Expr.Compare (Expr.Constant (Const.str (Str.ofString "\n")) _ _) _ _ _) [Stmt.Assign _ (Expr.Call _ [_, Expr.Constant (Const.str (Str.ofString "&#xA;")) _ _] _ _) _] _ _) _) _ _ _); refine' if_tab 10 [38, 35, 120, 65, 59] (by decide +kernel) (by decide +kernel) zzkF zzkN ?zzhv ?zzhl ?zzhal ?_ rfl rfl (by decide) (by rfl) (by rfl) (by rfl)) | ((with_reducible show wpAny _ _ (exec (Stmt.If (Expr.Compare (Expr.Constant (Const.str (Str.ofString "\t")) _ _) _ _ _) [Stmt.Assign _ (Expr.Call _ [_, Expr.Constant (Const.str (Str.ofString "&#09;")) _ _] _ _) _] _ _) _) _ _ _); refine' if_tab 9 [38, 35, 48, 57, 59] (by decide +kernel) (by decide +kernel) zzkF zzkN ?zzhv ?zzhl ?zzhal ?_ rfl rfl (by decide) (by rfl) (by rfl) (by rfl)) | ((with_reducible show wpAny _ _ (exec (Stmt.If (Expr.Compare (Expr.Constant (Const.str (Str.ofString "\t")) _ _) _ _ _) [Stmt.Assign _ (Expr.Call _ [_, Expr.Constant (Const.str (Str.ofString "&#x9;")) _ _] _ _) _] _ _) _) _ _ _); refine' if_tab 9 [38, 35, 120, 57, 59] (by decide +kernel) (by decide +kernel) zzkF zzkN ?zzhv ?zzhl ?zzhal ?_ rfl rfl (by decide) (by rfl) (by rfl) (by rfl))); (case zzhv => exact rfl); (case zzhl => assumption); (case zzhal => decide)); intro zzh' zztk' zzt' zzF' zzN'; (try k_sweep))))
  trivial

section
variable (w : World) (mean : ExcName → Option Value) (mg mb : Str → Option Value) (news : List (Addr × Obj)) (l : List Nat) (t : Tok)

theorem esc0 (hl : l.length ≤ 10000) : TelS w mean mg mb news 1 79 [.str (S l) t] (S (l.flatMap (tab (tabs 0)))) := by
  suffices h : TelS w mean mg mb news 1 79 [.str (S (l.flatMap (tab []))) t] (S (l.flatMap (tab (tabs 0)))) by rw [flat_nil] at h; exact h
  unfold TelS
  k_fill
  intros; rename_i hret
  refine wpAny_call ?_
  (k_dflt cell_enter)
  k_steps
  exact hret _ _ _ (by assumption) (by assumption)

theorem esc1 (hl : l.length ≤ 10000) : TelS w mean mg mb news 1 86 [.str (S l) t] (S (l.flatMap (tab (tabs 1)))) := by
  suffices h : TelS w mean mg mb news 1 86 [.str (S (l.flatMap (tab []))) t] (S (l.flatMap (tab (tabs 1)))) by rw [flat_nil] at h; exact h
  unfold TelS
  k_fill
  intros; rename_i hret
  refine wpAny_call ?_
  (k_dflt cell_enter)
  k_steps
  exact hret _ _ _ (by assumption) (by assumption)

theorem esc2 (hl : l.length ≤ 10000) : TelS w mean mg mb news 1 93 [.str (S l) t] (S (l.flatMap (tab (tabs 2)))) := by
  suffices h : TelS w mean mg mb news 1 93 [.str (S (l.flatMap (tab []))) t] (S (l.flatMap (tab (tabs 2)))) by rw [flat_nil] at h; exact h
  unfold TelS
  k_fill
  intros; rename_i hret
  refine wpAny_call ?_
  (k_dflt cell_enter)
  k_steps
  exact hret _ _ _ (by assumption) (by assumption)

theorem esc3 (hl : l.length ≤ 10000) : TelS w mean mg mb news 1 100 [.str (S l) t] (S (l.flatMap (tab (tabs 3)))) := by
  suffices h : TelS w mean mg mb news 1 100 [.str (S (l.flatMap (tab []))) t] (S (l.flatMap (tab (tabs 3)))) by rw [flat_nil] at h; exact h
  unfold TelS
  k_fill
  intros; rename_i hret
  refine wpAny_call ?_
  (k_dflt cell_enter)
  k_steps
  exact hret _ _ _ (by assumption) (by assumption)

theorem esc4 (hl : l.length ≤ 10000) : TelS w mean mg mb news 1 107 [.str (S l) t] (S (l.flatMap (tab (tabs 4)))) := by
  suffices h : TelS w mean mg mb news 1 107 [.str (S (l.flatMap (tab []))) t] (S (l.flatMap (tab (tabs 4)))) by rw [flat_nil] at h; exact h
  unfold TelS
  k_fill
  intros; rename_i hret
  refine wpAny_call ?_
  (k_dflt cell_enter)
  k_steps
  exact hret _ _ _ (by assumption) (by assumption)

end
end Mine
end

-- B2
section
open PySem PySem.W PyProof.Rows PySem.Calls
namespace Mine
set_option maxRecDepth 100000
set_option maxHeartbeats 4000000
local macro_rules | `(tactic| walk_at $s:str) => `(tactic| k_extra $s)
theorem rules_B2 : True := by
  w_top off
  k_with_none
  (k_with "call ref" => ((k_here; (with_reducible show wpAny _ _ (call (Value.ref 79) _) _ _ _); k_dflt ((refine' TelS.use (esc0 _ _ _ _ _ _ _ ?zzhl) ?zzk1 ?zzk2 ?zzk3 ?zzk4 ?zzk5 ?zzkK ?zzkd ?zzku ?_); (case zzk1 => k_asm); (case zzk2 => k_asm); (case zzk3 => k_asm); (case zzk4 => k_asm); (case zzk5 => k_asm); (case zzkK => first | exact rfl | assumption); (case zzhl => assumption); (case zzkd => ktr_room); (case zzku => ktr_units)); intro zzt9 zzh9 zztk9 zzF9 zzN9; (try dsimp only); (try k_fold))))
  (k_with "call ref" => ((k_here; (with_reducible show wpAny _ _ (call (Value.ref 86) _) _ _ _); k_dflt ((refine' TelS.use (esc1 _ _ _ _ _ _ _ ?zzhl) ?zzk1 ?zzk2 ?zzk3 ?zzk4 ?zzk5 ?zzkK ?zzkd ?zzku ?_); (case zzk1 => k_asm); (case zzk2 => k_asm); (case zzk3 => k_asm); (case zzk4 => k_asm); (case zzk5 => k_asm); (case zzkK => first | exact rfl | assumption); (case zzhl => assumption); (case zzkd => ktr_room); (case zzku => ktr_units)); intro zzt9 zzh9 zztk9 zzF9 zzN9; (try dsimp only); (try k_fold))))
  (k_with "call ref" => ((k_here; (with_reducible show wpAny _ _ (call (Value.ref 93) _) _ _ _); k_dflt ((refine' TelS.use (esc2 _ _ _ _ _ _ _ ?zzhl) ?zzk1 ?zzk2 ?zzk3 ?zzk4 ?zzk5 ?zzkK ?zzkd ?zzku ?_); (case zzk1 => k_asm); (case zzk2 => k_asm); (case zzk3 => k_asm); (case zzk4 => k_asm); (case zzk5 => k_asm); (case zzkK => first | exact rfl | assumption); (case zzhl => assumption); (case zzkd => ktr_room); (case zzku => ktr_units)); intro zzt9 zzh9 zztk9 zzF9 zzN9; (try dsimp only); (try k_fold))))
  (k_with "call ref" => ((k_here; (with_reducible show wpAny _ _ (call (Value.ref 100) _) _ _ _); k_dflt ((refine' TelS.use (esc3 _ _ _ _ _ _ _ ?zzhl) ?zzk1 ?zzk2 ?zzk3 ?zzk4 ?zzk5 ?zzkK ?zzkd ?zzku ?_); (case zzk1 => k_asm); (case zzk2 => k_asm); (case zzk3 => k_asm); (case zzk4 => k_asm); (case zzk5 => k_asm); (case zzkK => first | exact rfl | assumption); (case zzhl => assumption); (case zzkd => ktr_room); (case zzku => ktr_units)); intro zzt9 zzh9 zztk9 zzF9 zzN9; (try dsimp only); (try k_fold))))
  (k_with "call ref" => ((k_here; (with_reducible show wpAny _ _ (call (Value.ref 107) _) _ _ _); k_dflt ((refine' TelS.use (esc4 _ _ _ _ _ _ _ ?zzhl) ?zzk1 ?zzk2 ?zzk3 ?zzk4 ?zzk5 ?zzkK ?zzkd ?zzku ?_); (case zzk1 => k_asm); (case zzk2 => k_asm); (case zzk3 => k_asm); (case zzk4 => k_asm); (case zzk5 => k_asm); (case zzkK => first | exact rfl | assumption); (case zzhl => assumption); (case zzkd => ktr_room); (case zzku => ktr_units)); intro zzt9 zzh9 zztk9 zzF9 zzN9; (try dsimp only); (try k_fold))))
  trivial

section
variable (w : World) (mean : ExcName → Option Value) (mg mb : Str → Option Value) (news : List (Addr × Obj)) (l : List Nat) (t u : Tok)
theorem written (hand : Int) (hl : l.length ≤ 10000) : TelS w mean mg mb news 2 119 [.str (S l) t, .int hand u] (S (l.flatMap (tab (tabs hand)))) := by
  unfold TelS
  k_fill
  intros; rename_i hret
  refine wpAny_call ?_
  (k_dflt cell_enter)
  k_steps
  · have e : tabs hand = tabs 0 := by subst_vars; rfl
    rw [← e]; exact hret _ _ _ (by assumption) (by assumption)
  · have e : tabs hand = tabs 1 := by subst_vars; rfl
    rw [← e]; exact hret _ _ _ (by assumption) (by assumption)
  · have e : tabs hand = tabs 2 := by subst_vars; rfl
    rw [← e]; exact hret _ _ _ (by assumption) (by assumption)
  · have e : tabs hand = tabs 3 := by subst_vars; rfl
    rw [← e]; exact hret _ _ _ (by assumption) (by assumption)
  · have e : tabs hand = tabs 4 := by unfold tabs; simp_all
    rw [← e]; exact hret _ _ _ (by assumption) (by assumption)
end
end Mine
end

-- A3
section
open PySem PySem.W PyProof.Rows PySem.Calls PyProof.Rows.LCg PyProof.Rows.LCt
set_option maxRecDepth 100000
namespace Mine
section
variable {prog : Program} {w : World} {A : Around} {E : Value → Shared → Prop} {s : Shared} {h₀ : Heap} {L : Addr} {m : Str → Option Value} {env : Env}

/-- the state behind a pure step -/
def Still (h₀ : Heap) (L : Addr) (m : Str → Option Value) (news : List (Addr × Obj)) (s s' : Shared) : Prop :=
  ∃ h tk, s' = { s with heap := h, toks := tk } ∧ Fr h₀ L h m ∧ News h₀ L h news

theorem rest_pure {elt : Expr} {x : Str} {scope : Scope} {cl : List (Str × Addr)} {St : List (Addr × Obj) → Prop} {P : Nat → Value → Prop} {Fin : List Value → List (Addr × Obj) → Prop} {n : Nat} {news : List (Addr × Obj)} (g : Nat → Value → Prop)
    (step : ∀ i v I oI C oC D ys m₂ h tk (E' : Value → Shared → Prop), i < n → P i v → NsObj oC m₂ → m₂ x = some v → Fr h₀ L h m → News h₀ L h ((I, oI) :: (C, oC) :: (D, lst ys) :: news) →
      wpAny (model prog w) A (eval elt (compEnvC scope cl C env)) (fun y s' => g i y ∧ Still h₀ L m ((I, oI) :: (C, oC) :: (D, lst ys) :: news) { s with heap := h, toks := tk } s') E' { s with heap := h, toks := tk })
    (hS : St news) (fin : ∀ ys, ys.length = n → (∀ i y, ys[i]? = some y → g i y) → Fin ys news) : CompRest prog w A h₀ L m env elt x scope cl s St P Fin n 0 [] news := by
  suffices H : ∀ k i ys, i + k = n → ys.length = i → (∀ j y, ys[j]? = some y → g j y) → CompRest prog w A h₀ L m env elt x scope cl s St P Fin k i ys news from H n 0 [] (Nat.zero_add n) rfl (by simp)
  intro k
  induction k with
  | zero => intro i ys e hl hg; exact CompRest.zero (fin ys (by omega) hg)
  | succ k ih =>
    intro i ys e hl hg
    refine CompRest.succ ?_
    intro v I oI C oC D m₂ h tk E' hP hC hx F N off ne
    refine wpAny_mono (step i v I oI C oC D ys m₂ h tk E' (by omega) hP hC hx F N) (fun y s' q => ?_) fun _ _ e => e
    obtain ⟨hgy, h', tk', rfl, F', N'⟩ := q
    refine CompEnd.intro F' N' news (fun p hp => hp) off hS (ih (i + 1) (ys ++ [y]) (by omega) (by simp [hl]) ?_)
    intro j z hz
    rcases Nat.lt_or_ge j ys.length with hj | hj
    · rw [List.getElem?_append_left hj] at hz; exact hg j z hz
    · rw [List.getElem?_append_right hj] at hz
      cases hq : j - ys.length with
      | zero => rw [hq] at hz; simp at hz; subst hz; rw [show j = i by omega]; exact hgy
      | succ r => rw [hq] at hz; simp at hz

/-- the items that pass a test, in their order -/
def kept (p : Nat → Bool) (n : Nat) : List Nat := (List.range n).filter p
theorem kept_succ (p : Nat → Bool) (n : Nat) : kept p (n + 1) = kept p n ++ if p n then [n] else [] := by
  unfold kept
  rw [List.range_succ, List.filter_append]
  congr 1
  cases h : p n <;> simp [h]

theorem rest_pureT {ct elt : Expr} {x : Str} {scope : Scope} {cl : List (Str × Addr)} {St : List (Addr × Obj) → Prop} {P : Nat → Value → Prop} {Fin : List Value → List (Addr × Obj) → Prop} {n : Nat} {news : List (Addr × Obj)} (p : Nat → Bool) (g : Nat → Value → Prop)
    (test : ∀ i v I oI C oC D ys m₂ h tk (E' : Value → Shared → Prop), i < n → P i v → NsObj oC m₂ → m₂ x = some v → Fr h₀ L h m → News h₀ L h ((I, oI) :: (C, oC) :: (D, lst ys) :: news) →
      wpAny (model prog w) A (isTrue ct (compEnvC scope cl C env) (eval ct (compEnvC scope cl C env))) (fun ok s' => ok = p i ∧ Still h₀ L m ((I, oI) :: (C, oC) :: (D, lst ys) :: news) { s with heap := h, toks := tk } s') E' { s with heap := h, toks := tk })
    (step : ∀ i v I oI C oC D ys m₂ h tk (E' : Value → Shared → Prop), i < n → P i v → NsObj oC m₂ → m₂ x = some v → Fr h₀ L h m → News h₀ L h ((I, oI) :: (C, oC) :: (D, lst ys) :: news) → p i = true →
      wpAny (model prog w) A (eval elt (compEnvC scope cl C env)) (fun y s' => g i y ∧ Still h₀ L m ((I, oI) :: (C, oC) :: (D, lst ys) :: news) { s with heap := h, toks := tk } s') E' { s with heap := h, toks := tk })
    (hS : St news) (fin : ∀ ys : List Value, ys.length = (kept p n).length → (∀ (j i : Nat) (y : Value), (kept p n)[j]? = some i → ys[j]? = some y → g i y) → Fin ys news) : CompRestT prog w A h₀ L m env ct elt x scope cl s St P Fin n 0 [] news := by
  suffices H : ∀ (k i : Nat) (ys : List Value), i + k = n → ys.length = (kept p i).length → (∀ (j i' : Nat) (y : Value), (kept p i)[j]? = some i' → ys[j]? = some y → g i' y) → CompRestT prog w A h₀ L m env ct elt x scope cl s St P Fin k i ys news from
    H n 0 [] (Nat.zero_add n) rfl (by simp [kept])
  intro k
  induction k with
  | zero => intro i ys e hl hg; obtain rfl : i = n := by omega
            exact CompRestT.zero (fin ys hl hg)
  | succ k ih =>
    intro i ys e hl hg
    refine CompRestT.succ ?_
    intro v I oI C oC D m₂ h tk E' hP hC hx F N off ne
    refine wpAny_mono (test i v I oI C oC D ys m₂ h tk E' (by omega) hP hC hx F N) (fun ok s' q => ?_) fun _ _ e => e
    obtain ⟨rfl, h', tk', rfl, F', N'⟩ := q
    have hks := kept_succ p i
    cases hp : p i with
    | true =>
      rw [hp, if_pos rfl] at hks
      rw [if_pos rfl]
      refine wpAny_mono (step i v I oI C oC D ys m₂ h' tk' E' (by omega) hP hC hx F' N' hp) (fun y s' q => ?_) fun _ _ e => e
      obtain ⟨hgy, h₂, tk₂, rfl, F₂, N₂⟩ := q
      refine CompEnd.intro F₂ N₂ news (fun p hp => hp) off hS (ih (i + 1) (ys ++ [y]) (by omega) (by rw [hks]; simp [hl]) ?_)
      intro j i' z hi' hz
      rw [hks] at hi'
      rcases Nat.lt_or_ge j ys.length with hj | hj
      · rw [List.getElem?_append_left hj] at hz
        rw [List.getElem?_append_left (by omega)] at hi'
        exact hg j i' z hi' hz
      · rw [List.getElem?_append_right hj] at hz
        rw [List.getElem?_append_right (by omega), ← hl] at hi'
        cases hq : j - ys.length with
        | zero => rw [hq] at hz hi'; simp at hz hi'; subst hz; subst hi'; exact hgy
        | succ r => rw [hq] at hz; simp at hz
    | false =>
      rw [hp, if_neg Bool.false_ne_true] at hks
      rw [if_neg Bool.false_ne_true]
      refine CompEnd.intro F' N' news (fun p hp => hp) off hS (ih (i + 1) ys (by omega) (by rw [hks]; simp [hl]) ?_)
      rw [hks, List.append_nil]
      exact hg

theorem str_io {I : Addr} {c : String} {x : Str} {t : Tok} : ∀ i (h : Heap), h.IsStrIter I c x t i → ∃ o, h.get? I = some o := fun _ _ st => let ⟨o, e, _⟩ := st; ⟨o, e⟩
theorem str_st {I : Addr} {c : String} {x : Str} {t : Tok} : ∀ i (h h' : Heap) (o : Obj) (nw : List (Addr × Obj)), h.IsStrIter I c x t i → h.get? I = some o → h'.get? I = some o → (∀ b o, h₀.get? b = some o → h'.get? b = some o) → News h₀ L h' nw → True → h'.IsStrIter I c x t i :=
  fun _ _ _ _ _ st e e' _ _ _ => by obtain ⟨o', q, r⟩ := st; rw [e] at q; cases q; exact ⟨_, e', r⟩

def StrSrc (prog : Program) (w : World) (A : Around) (h₀ : Heap) (L : Addr) (m : Str → Option Value) (env : Env) (elt : Expr) (x : Str) (scope : Scope) (cl : List (Str × Addr)) (Q : Value → Shared → Prop) (xv : Value) (s₁ : Shared) : Prop :=
  ∃ l t news, xv = .str (S l) t ∧ A.handled = none ∧ Fr h₀ L s₁.heap m ∧ News h₀ L s₁.heap news ∧ l.length ≤ sizeLine ∧
    ∀ s₂ : Shared, (∃ h, s₂ = { s₁ with heap := h }) → CompRest prog w A h₀ L m env elt x scope cl s₂ (fun _ => True) (SignAt (S l)) (FinE h₀ L m s₂ Q) l.length 0 [] news
def StrSrcT (prog : Program) (w : World) (A : Around) (h₀ : Heap) (L : Addr) (m : Str → Option Value) (env : Env) (ct elt : Expr) (x : Str) (scope : Scope) (cl : List (Str × Addr)) (Q : Value → Shared → Prop) (xv : Value) (s₁ : Shared) : Prop :=
  ∃ l t news, xv = .str (S l) t ∧ A.handled = none ∧ Fr h₀ L s₁.heap m ∧ News h₀ L s₁.heap news ∧ l.length ≤ sizeLine ∧
    ∀ s₂ : Shared, (∃ h, s₂ = { s₁ with heap := h }) → CompRestT prog w A h₀ L m env ct elt x scope cl s₂ (fun _ => True) (SignAt (S l)) (FinE h₀ L m s₂ Q) l.length 0 [] news
/-- over a text's signs, each element a pure value -/
theorem StrSrc.pure {elt : Expr} {x : Str} {scope : Scope} {cl : List (Str × Addr)} {Q : Value → Shared → Prop} {l : List Nat} {t : Tok} {news : List (Addr × Obj)} {s₁ : Shared} (g : Nat → Value → Prop) (hh : A.handled = none) (F : Fr h₀ L s₁.heap m) (N : News h₀ L s₁.heap news) (hl : l.length ≤ sizeLine)
    (step : ∀ c u I oI C oC D ys m₂ h tk (E' : Value → Shared → Prop), c ∈ l → NsObj oC m₂ → m₂ x = some (.str (S [c]) u) → Fr h₀ L h m → News h₀ L h ((I, oI) :: (C, oC) :: (D, lst ys) :: news) →
      wpAny (model prog w) A (eval elt (compEnvC scope cl C env)) (fun y s' => g c y ∧ Still h₀ L m ((I, oI) :: (C, oC) :: (D, lst ys) :: news) { s₁ with heap := h, toks := tk } s') E' { s₁ with heap := h, toks := tk })
    (fin : ∀ D ys h tk, ys.length = l.length → (∀ (i : Nat) (y : Value) (c : Nat), ys[i]? = some y → l[i]? = some c → g c y) → Fr h₀ L h m → News h₀ L h ((D, lst ys) :: news) → Off1 D news → Q (.ref D) { s₁ with heap := h, toks := tk }) :
    StrSrc prog w A h₀ L m env elt x scope cl Q (.str (S l) t) s₁ := by
  refine ⟨l, t, news, rfl, hh, F, N, hl, ?_⟩
  rintro s₂ ⟨h₂, rfl⟩
  have key : ∀ i v, SignAt (S l) i v → ∃ c u, l[i]? = some c ∧ v = .str (S [c]) u := by
    rintro i v ⟨c, u, hc, rfl⟩
    exact ⟨c, u, by simpa [S] using hc, rfl⟩
  refine rest_pure (fun i y => ∀ c, l[i]? = some c → g c y) ?_ trivial ?_
  · intro i v I oI C oC D ys m₂ h tk E' hi hP hC hx F' N'
    obtain ⟨c, u, hc, rfl⟩ := key i v hP
    refine wpAny_mono (step c u I oI C oC D ys m₂ h tk E' (List.mem_of_getElem? hc) hC hx F' N') (fun y s' q => ⟨fun c' hc' => ?_, q.2⟩) fun _ _ e => e
    rw [hc] at hc'; cases hc'; exact q.1
  · intro ys hy hg D h tk F' N' o1
    exact fin D ys h tk hy (fun i y c e1 e2 => hg i y e1 c e2) F' N' o1
theorem StrSrcT.pure {ct elt : Expr} {x : Str} {scope : Scope} {cl : List (Str × Addr)} {Q : Value → Shared → Prop} {l : List Nat} {t : Tok} {news : List (Addr × Obj)} {s₁ : Shared} (p : Nat → Bool) (hh : A.handled = none) (F : Fr h₀ L s₁.heap m) (N : News h₀ L s₁.heap news) (hl : l.length ≤ sizeLine)
    (test : ∀ c u I oI C oC D ys m₂ h tk (E' : Value → Shared → Prop), c ∈ l → NsObj oC m₂ → m₂ x = some (.str (S [c]) u) → Fr h₀ L h m → News h₀ L h ((I, oI) :: (C, oC) :: (D, lst ys) :: news) →
      wpAny (model prog w) A (isTrue ct (compEnvC scope cl C env) (eval ct (compEnvC scope cl C env))) (fun ok s' => ok = p c ∧ Still h₀ L m ((I, oI) :: (C, oC) :: (D, lst ys) :: news) { s₁ with heap := h, toks := tk } s') E' { s₁ with heap := h, toks := tk })
    (step : ∀ c u I oI C oC D ys m₂ h tk (E' : Value → Shared → Prop), c ∈ l → NsObj oC m₂ → m₂ x = some (.str (S [c]) u) → Fr h₀ L h m → News h₀ L h ((I, oI) :: (C, oC) :: (D, lst ys) :: news) → p c = true →
      wpAny (model prog w) A (eval elt (compEnvC scope cl C env)) (fun _ s' => Still h₀ L m ((I, oI) :: (C, oC) :: (D, lst ys) :: news) { s₁ with heap := h, toks := tk } s') E' { s₁ with heap := h, toks := tk })
    (fin : ∀ D ys h tk, (ys.length = 0 ↔ ∀ c ∈ l, p c = false) → ys.length ≤ l.length → Fr h₀ L h m → News h₀ L h ((D, lst ys) :: news) → Off1 D news → Q (.ref D) { s₁ with heap := h, toks := tk }) :
    StrSrcT prog w A h₀ L m env ct elt x scope cl Q (.str (S l) t) s₁ := by
  refine ⟨l, t, news, rfl, hh, F, N, hl, ?_⟩
  rintro s₂ ⟨h₂, rfl⟩
  have key : ∀ i v, SignAt (S l) i v → ∃ c u, l[i]? = some c ∧ v = .str (S [c]) u := by
    rintro i v ⟨c, u, hc, rfl⟩
    exact ⟨c, u, by simpa [S] using hc, rfl⟩
  refine rest_pureT (fun i => p (l.getD i 0)) (fun _ _ => True) ?_ ?_ trivial ?_
  · intro i v I oI C oC D ys m₂ h tk E' hi hP hC hx F' N'
    obtain ⟨c, u, hc, rfl⟩ := key i v hP
    have e : l.getD i 0 = c := by rw [List.getD_eq_getElem?_getD, hc]; rfl
    rw [e]
    exact test c u I oI C oC D ys m₂ h tk E' (List.mem_of_getElem? hc) hC hx F' N'
  · intro i v I oI C oC D ys m₂ h tk E' hi hP hC hx F' N' hp
    obtain ⟨c, u, hc, rfl⟩ := key i v hP
    have e : l.getD i 0 = c := by rw [List.getD_eq_getElem?_getD, hc]; rfl
    rw [e] at hp
    exact wpAny_mono (step c u I oI C oC D ys m₂ h tk E' (List.mem_of_getElem? hc) hC hx F' N' hp) (fun y s' q => ⟨trivial, q⟩) fun _ _ e => e
  · intro ys hy _ D h tk F' N' o1
    refine fin D ys h tk ?_ ?_ F' N' o1
    · rw [hy]
      constructor
      · intro h0 c hc
        obtain ⟨i, hi⟩ := List.getElem?_of_mem hc
        have hlt : i < l.length := (List.getElem?_eq_some_iff.mp hi).1
        cases hp : p c with
        | false => rfl
        | true =>
          exfalso
          have hm : i ∈ kept (fun i => p (l.getD i 0)) l.length := by
            unfold kept
            rw [List.mem_filter]
            refine ⟨List.mem_range.mpr hlt, ?_⟩
            show p (l.getD i 0) = true
            rw [List.getD_eq_getElem?_getD, hi]; exact hp
          rw [List.length_eq_zero_iff] at h0
          rw [h0] at hm; cases hm
      · intro hall
        rw [List.length_eq_zero_iff]
        unfold kept
        rw [List.filter_eq_nil_iff]
        intro i hi
        have hlt := List.mem_range.mp hi
        have : l.getD i 0 ∈ l := by rw [List.getD_eq_getElem?_getD, List.getElem?_eq_getElem hlt]; exact List.getElem_mem hlt
        show ¬ (p (l.getD i 0) = true)
        rw [hall _ this]; exact Bool.false_ne_true
    · rw [hy]
      unfold kept
      exact Nat.le_trans (List.length_filter_le _ _) (by simp)
/-- the names' object is given up: the frame and the ledger stand -/
theorem shut {h h' : Heap} {C D : Addr} {oD : Obj} {nw : List (Addr × Obj)} (hs : Heap.SameBut C h h') (F : Fr h₀ L h m) (N : News h₀ L h ((D, oD) :: nw)) (hL : C ≠ L) (hD : C ≠ D) (h0 : h₀.get? C = none) (off : ∀ p ∈ nw, p.1 ≠ C) :
    Fr h₀ L h' m ∧ News h₀ L h' ((D, oD) :: nw) := by
  have apart : ∀ p ∈ (D, oD) :: nw, p.1 ≠ C := List.forall_mem_cons.mpr ⟨hD.symm, off⟩
  exact ⟨F.change hs hL h0, fun p hp => have z := N p hp; ⟨hs.extBut p.1 p.2 (apart p hp) z.1, z.2⟩⟩
/-- a text's iterator, of either kind, lies at the next address -/
theorem text_iter {l : List Nat} {t : Tok} {s₁ : Shared} {Q : Value → Shared → Prop} (hh : A.handled = none)
    (go : ∀ (c : String) (o : Obj), Walks prog w A s₁.heap.objs.size [s₁.heap.objs.size] [s₁.heap.objs.size] l.length (SignAt (S l)) (fun i h => h.IsStrIter s₁.heap.objs.size c (S l) t i) →
      (s₁.heap.push o).IsStrIter s₁.heap.objs.size c (S l) t 0 → (∀ b ∈ [s₁.heap.objs.size], @LT.lt Nat _ b (s₁.heap.push o).objs.size) → Q (.ref s₁.heap.objs.size) { s₁ with heap := s₁.heap.push o }) :
    wpAny (model prog w) A (pyIter (.str (S l) t)) Q E s₁ := by
  have size : (S l).cps.size = l.length := by simp [S]
  have next : ∀ o : Obj, ∀ b ∈ [s₁.heap.objs.size], @LT.lt Nat _ b (s₁.heap.push o).objs.size := fun o => List.forall_mem_singleton.mpr (by rw [Heap.size_push]; exact Nat.lt_succ_self _)
  cases kind : (S l).cps.all (· < 128) with
  | true => exact wpAny_pyIter_ascii kind (go _ _ (size ▸ Walks.strAscii (prog := prog) (w := w) hh s₁.heap.objs.size (S l) t) ⟨_, Heap.get?_push_size _ rfl, rfl, rfl⟩ (next _))
  | false => exact wpAny_pyIter_wide kind (go _ _ (size ▸ Walks.strWide (prog := prog) (w := w) hh s₁.heap.objs.size (S l) t) ⟨_, Heap.get?_push_size _ rfl, rfl, rfl⟩ (next _))
/-- a comprehension over a text's signs -/
theorem comp_str {elt iter : Expr} {x : Str} {px : Pos} {scope : Scope} {cl : List (Str × Addr)} {pos : Pos} {Q : Value → Shared → Prop} (_F₀ : Fr h₀ L s.heap m)
    (hclos : closureFor scope env = pure cl) (hcell : ∀ y ∈ scope.names, y.2 ≠ .cell) (hkind : scope.kind = .function)
    (hnames : ∀ y ∈ scope.names, y.2 = .local → scope.names.lookup y.1 = some .local) (hx : scope.names.lookup x = some .local) (hs : ∀ x, foldedSetIterable iter env x = pure x)
    (h : wpAny (model prog w) A (eval iter env) (StrSrc prog w A h₀ L m env elt x scope cl Q) E s) :
    wpAny (model prog w) A (eval (.ListComp elt [⟨.Name x px, iter, [], 0⟩] scope pos) env) Q E s := by
  rw [eval_ListComp]
  refine wpAny_comprehension_free (use := none) rfl hs hclos hkind hnames (wpAny_mono h (fun _ s₁ src => ?_) fun _ _ e => e)
  obtain ⟨l, t, news, rfl, hh, F, N, size, rest⟩ := src
  exact text_iter hh fun c o W st next => block_U W size str_io str_st hcell hkind hx st next (F.push o) (fun p hp => ⟨Heap.get?_push_of_some o (N p hp).1, (N p hp).2⟩) (Nat.ne_of_lt F.ns.lt) (next_is_new F)
    (fun p hp => Nat.ne_of_lt (Heap.lt_size (N p hp).1)) trivial (rest _ ⟨_, rfl⟩) fun D C g tk m' ys nw F' N' one hn hC _ hCL _ hCD off fin =>
      ⟨m', hn, fun g' hs' => have z := shut hs' F' N' hCL hCD hC off; fin D g' tk z.1 z.2 one⟩
/-- .. with a test -/
theorem comp_strT {ct elt iter : Expr} {x : Str} {px : Pos} {scope : Scope} {cl : List (Str × Addr)} {pos : Pos} {Q : Value → Shared → Prop} (_F₀ : Fr h₀ L s.heap m)
    (hclos : closureFor scope env = pure cl) (hcell : ∀ y ∈ scope.names, y.2 ≠ .cell) (hkind : scope.kind = .function)
    (hnames : ∀ y ∈ scope.names, y.2 = .local → scope.names.lookup y.1 = some .local) (hx : scope.names.lookup x = some .local) (hs : ∀ x, foldedSetIterable iter env x = pure x)
    (h : wpAny (model prog w) A (eval iter env) (StrSrcT prog w A h₀ L m env ct elt x scope cl Q) E s) :
    wpAny (model prog w) A (eval (.ListComp elt [⟨.Name x px, iter, [ct], 0⟩] scope pos) env) Q E s := by
  rw [eval_ListComp]
  refine wpAny_comprehension_free (use := none) rfl hs hclos hkind hnames (wpAny_mono h (fun _ s₁ src => ?_) fun _ _ e => e)
  obtain ⟨l, t, news, rfl, hh, F, N, size, rest⟩ := src
  exact text_iter hh fun c o W st next => block_T W size str_io str_st hcell hkind hx st next (F.push o) (fun p hp => ⟨Heap.get?_push_of_some o (N p hp).1, (N p hp).2⟩) (Nat.ne_of_lt F.ns.lt) (next_is_new F)
    (fun p hp => Nat.ne_of_lt (Heap.lt_size (N p hp).1)) trivial (rest _ ⟨_, rfl⟩) fun D C g tk m' ys nw F' N' one hn hC _ hCL _ hCD off fin =>
      ⟨m', hn, fun g' hs' => have z := shut hs' F' N' hCL hCD hC off; fin D g' tk z.1 z.2 one⟩
end
end Mine
end

-- A4
section
open PySem PySem.W PyProof.Rows PySem.Calls PyProof.Rows.LCg PyProof.Rows.LCt
set_option maxRecDepth 100000
namespace Mine
/-- a table as a dict's data -/
def alD (al : List (Nat × List Nat)) : List (PyData × PyData) := al.map fun p => (.str (S [p.1]), .str (S p.2))
theorem lookup_alD (d : Nat) : ∀ al : List (Nat × List Nat), PySem.Spec.lookup (.str (S [d])) (alD al) = (al.lookup d).map fun z => .str (S z)
  | [] => rfl
  | (c, z) :: r => by
    show (if PySem.Spec.same (.str (S [c])) (.str (S [d])) then some (.str (S z)) else PySem.Spec.lookup (.str (S [d])) (alD r)) = _
    rw [show PySem.Spec.same (.str (S [c])) (.str (S [d])) = decide (S [c] = S [d]) from by by_cases h : S [c] = S [d] <;> simp [PySem.Spec.same, h], lookup_alD d r]
    by_cases h : d = c
    · subst h; simp [List.lookup]
    · have h1 : ¬ S [c] = S [d] := fun e => h (by have := S_inj e; simpa using this.symm)
      have h2 : (d == c) = false := by simpa using h
      simp [List.lookup, h1, h2]
section
variable {prog : Program} {w : World} {A : Around} {E : Value → Shared → Prop} {s : Shared} {h₀ : Heap} {L d : Addr} {m : Str → Option Value} {env : Env} {news : List (Addr × Obj)}
def IsTab (prog : Program) (w : World) (al : List (Nat × List Nat)) (o : Obj) : Prop := TabObj (PySem.strKind prog w) PyData.str (alD al) o
theorem dict_tab (al : List (Nat × List Nat)) {keys : List (Option Expr)} {values : List Expr} {pos : Pos} {Q : Value → Shared → Prop} (F : Fr h₀ L s.heap m) (N : News h₀ L s.heap news) (hbig : h₀.NoLimit)
    (hD : litPairs keys values = some (alD al)) (hs : strKeyed (alD al) = true) (hn : (strKeysOf (alD al)).Nodup)
    (hall : keys.all (·.isSome) = true) (hl : keys.length = values.length) (h0 : keys ≠ []) (hlen : keys.length ≤ 15)
    (h : ∀ a o h' tk, Fr h₀ L h' m → News h₀ L h' ((a, o) :: news) → (∀ p ∈ news, p.1 < a) → (a == sysModules) = false → IsTab prog w al o → Q (.ref a) { s with heap := h', toks := tk }) :
    wpAny (model prog w) A (eval (.Dict keys values pos) env) Q E s := by
  refine Dict_lits_str hD hs hn hall hl h0 hlen fun a o h₁ tk ha ho ht hk => ?_
  have hL : L < s.heap.objs.size := F.ns.lt
  have h0n : h₀.get? a = none := Heap.get?_none_of_le (Nat.le_trans (Nat.le_of_lt (Nat.lt_of_le_of_lt F.above hL)) ha)
  refine h a o h₁ tk (F.keeps hk) (fun p hp => ?_) (fun p hp => Nat.lt_of_lt_of_le (Heap.lt_size (N p hp).1) ha) ?_ ht
  · rcases List.mem_cons.mp hp with rfl | hp
    · exact ⟨ho, Nat.ne_of_gt (Nat.lt_of_lt_of_le hL ha), h0n⟩
    · exact (N.grown hk) p hp
  · have h1 : sysModules < h₀.objs.size := modules_low hbig
    have h2 : a ≠ sysModules := Nat.ne_of_gt (Nat.lt_of_lt_of_le (Nat.lt_of_lt_of_le h1 (Nat.le_trans F.above (Nat.le_of_lt hL))) ha)
    simpa using h2
theorem get_tab {al : List (Nat × List Nat)} {o : Obj} {c : Nat} {t t' : Tok} {Q : Value → Shared → Prop} (N : News h₀ L s.heap news) (hm : (d, o) ∈ news) (lo : (d == sysModules) = false) (ht : IsTab prog w al o)
    (h : ∀ u tk, Q (.str (S (tab al c)) u) { s with toks := tk }) : wpAny (model prog w) A (call (.builtin "dict.get") [.ref d, .str (S [c]) t, .str (S [c]) t']) Q E s := by
  obtain ⟨kvs, hd, hf⟩ := ht
  have T : StrTab prog w s.heap d (alD al) := TabAt.ofNews N hm lo hd hf
  refine call_get2_strTab T (PyProof.V.Flat.str _ _) fun v hv => ?_
  rw [lookup_alD] at hv
  unfold tab at h
  cases e : al.lookup c with
  | none => rw [e] at hv h; obtain ⟨u, rfl⟩ := PyProof.V.Flat.str_inv hv; exact h u _
  | some z => rw [e] at hv h; obtain ⟨u, rfl⟩ := PyProof.V.Flat.str_inv hv; exact h u _
theorem get_method {al : List (Nat × List Nat)} {o : Obj} {pl : Sem Bool} {Q : Value × List Value → Shared → Prop} (N : News h₀ L s.heap news) (hm : (d, o) ∈ news) (ht : IsTab prog w al o)
    (h : Q (.builtin "dict.get", [.ref d]) s) : wpAny (model prog w) A (getMethod (.ref d) "get" pl) Q E s := by
  obtain ⟨kvs, hd, hf⟩ := ht
  exact kdg_method N hm hd h

theorem strsAre_of {f : Nat → List Nat} : ∀ {ys : List Value} {l : List Nat}, ys.length = l.length → (∀ (i : Nat) (y : Value) (c : Nat), ys[i]? = some y → l[i]? = some c → ∃ u, y = .str (S (f c)) u) → StrsAre ys (l.map fun c => S (f c))
  | [], [], _, _ => .nil
  | [], _ :: _, h, _ => by cases h
  | _ :: _, [], h, _ => by cases h
  | y :: ys, c :: l, h, hg => by
    obtain ⟨u, rfl⟩ := hg 0 y c rfl rfl
    exact .cons _ u (strsAre_of (by simpa using h) fun i y c e1 e2 => hg (i + 1) y c (by simpa using e1) (by simpa using e2))
theorem join_S (f : Nat → List Nat) : ∀ l : List Nat, Txt.join (S []) (l.map fun c => S (f c)) = S (l.flatMap f) := by
  have key : ∀ xs : List (List Nat), Str.join (S []) (xs.map S) = S xs.flatten := by
    intro xs
    induction xs with
    | nil => rfl
    | cons a r ih =>
      cases r with
      | nil => simp [Str.join]
      | cons b r' =>
        show S a ++ S [] ++ Str.join (S []) ((b :: r').map S) = _
        rw [ih, S_app, S_app]; simp
  intro l
  have h := key (l.map f)
  rw [List.map_map] at h
  rw [show (l.map fun c => S (f c)) = l.map (S ∘ f) from rfl]
  unfold Txt.join
  first | exact h.trans (by rw [List.flatMap_def]) | (rw [StrLaws.glued_eq_join]; exact h.trans (by rw [List.flatMap_def]))
theorem sum_len (f : Nat → List Nat) (hf : ∀ d, (f d).length ≤ 6) : ∀ l : List Nat, ((l.map fun c => S (f c)).map (·.length)).sum ≤ 6 * l.length
  | [] => by simp
  | c :: r => by
    have ih := sum_len f hf r
    have h1 := hf c
    rw [List.map_cons, List.map_cons, List.sum_cons, List.length_cons, S_len]; omega
theorem join_flat (f : Nat → List Nat) {x : Str} {t : Tok} {D : Addr} {ys : List Value} {l : List Nat} {Q : Value → Shared → Prop} (N : News h₀ L s.heap news) (hm : (D, lst ys) ∈ news) (hx : x = S []) (hlen : ys.length = l.length)
    (hg : ∀ (i : Nat) (y : Value) (c : Nat), ys[i]? = some y → l[i]? = some c → ∃ u, y = .str (S (f c)) u) (hf : ∀ d, (f d).length ≤ 6) (hl : l.length ≤ 100000)
    (h : ∀ t' k, Q (.str (S (l.flatMap f)) t') { s with toks := k }) : wpAny (model prog w) A (call (.builtin "str.join") [.str x t, .ref D]) Q E s := by
  subst hx
  have hL : s.heap.IsList D ys.toArray := ⟨_, (N _ hm).1, rfl, _, rfl⟩
  refine join_list hL (by simpa using strsAre_of hlen hg) ?_ fun t' k => by rw [join_S]; exact h t' k
  have e := sum_len f hf l
  rw [S_len]
  simp only [List.length_map, List.length_nil, Nat.mul_zero, Nat.add_zero]
  omega
end
end Mine
end

-- A5
section
open PySem PySem.W PyProof.Rows PySem.Calls PyProof.Rows.LCg PyProof.Rows.LCt
set_option maxRecDepth 100000
namespace Mine
/-- hand after hand -/
def spell (hs : List Int) (l : List Nat) : List Nat := hs.foldl (fun l h => l.flatMap (tab (tabs h))) l
theorem tabs_len (h : Int) : ((tabs h).all fun p => decide (p.2.length ≤ 6)) = true := by
  unfold tabs; repeat' split
  all_goals decide
theorem one_len (h : Int) (l : List Nat) : (l.flatMap (tab (tabs h))).length ≤ 6 * l.length := flat_len 6 _ (fun d => tab_len 6 (by omega) d _ (tabs_len h)) l
theorem spell_snoc (hs : List Int) (h : Int) (l : List Nat) : spell (hs ++ [h]) l = (spell hs l).flatMap (tab (tabs h)) := by simp [spell]
theorem spell_len1 {hs : List Int} (h : hs.length ≤ 1) (l : List Nat) : (spell hs l).length ≤ 6 * l.length := by
  match hs with
  | [] => simp [spell]; omega
  | [a] => exact one_len a l
  | _ :: _ :: _ => simp at h
theorem spell_len2 {hs : List Int} (h : hs.length ≤ 2) (l : List Nat) : (spell hs l).length ≤ 36 * l.length := by
  match hs with
  | [] => simp [spell]; omega
  | [a] => have := one_len a l; show ((l.flatMap (tab (tabs a)))).length ≤ _; omega
  | [a, b] => have h1 := one_len a l; have h2 := one_len b (l.flatMap (tab (tabs a))); show ((l.flatMap (tab (tabs a))).flatMap (tab (tabs b))).length ≤ _; omega
  | _ :: _ :: _ :: _ => simp at h

section
variable {prog : Program} {w : World} {A : Around} {E : Value → Shared → Prop} {s : Shared} {env : Env} {h₀ : Heap} {xh xt : Str} {body : List Stmt} {Q : Flow → Shared → Prop}
/-- the loop over the hands: a text is written anew, turn by turn -/
theorem hands_iter (G : List (Addr × Obj) → Prop) {ah : Addr} {vs : List Value} {k : Nat} {hs : List Int} {l : List Nat} {t : Tok} {m₀ : Str → Option Value} {news : List (Addr × Obj)}
    (hG : ∀ nx, G nx → (ah, listOf vs.toArray k) ∈ nx) (hh : A.handled = none) (hi : IntsAre vs hs) (hn : hs.length ≤ 2) (F : Fr h₀ env.locals s.heap m₀) (N : News h₀ env.locals s.heap news) (g0 : G news) (ht : m₀ xt = some (.str (S l) t))
    (turn : ∀ h l' t' u tu nx H tk own, h ∈ hs → l'.length ≤ 6 * l.length → G nx → OwnOff own (nx.map (·.1)) →
      Fr h₀ env.locals H (fun y => if y = xh then some (.int h u) else if y = xt then some (.str (S l') t') else if y = xh then tu else m₀ y) → News h₀ env.locals H (nx ++ own) →
      wpAny (model prog w) A (execs body env) (fun f s' => f = .next ∧ ∃ H' tk' t'' nx' all, s' = { s with heap := H', toks := tk' } ∧ G nx' ∧ nx'.map (·.1) = nx.map (·.1) ∧
        Fr h₀ env.locals H' (fun y => if y = xt then some (.str (S (l'.flatMap (tab (tabs h)))) t'') else if y = xh then some (.int h u) else if y = xt then some (.str (S l') t') else if y = xh then tu else m₀ y) ∧
        News h₀ env.locals H' all ∧ (∀ p ∈ nx', p ∈ all) ∧ ∀ p ∈ own, p ∈ all) E { s with heap := H, toks := tk })
    (done : ∀ t' tu nx H tk, G nx → Fr h₀ env.locals H (fun y => if y = xt then some (.str (S (spell hs l)) t') else if y = xh then tu else m₀ y) → News h₀ env.locals H nx → Q .next { s with heap := H, toks := tk }) :
    wpAny (model prog w) A (pyIter (.ref ah)) (fun it s₂ => LoopAtV prog w A h₀ env xh body Q E it s₂) E s := by
  have hlen : vs.length = hs.length := hi.length
  refine kdl_iter (fun i m nx => G nx ∧ ∃ t' tu, m = fun y => if y = xt then some (.str (S (spell (hs.take i) l)) t') else if y = xh then tu else m₀ y) hh (hG _ g0) F N ⟨g0, t, m₀ xh, ?_⟩ ?_ ?_
  · funext y
    by_cases h1 : y = xt
    · rw [if_pos h1, h1, ht]; rfl
    · rw [if_neg h1]
      by_cases h2 : y = xh
      · rw [if_pos h2, h2]
      · rw [if_neg h2]
  · rintro i v m₁ nx H tk own hv hoff _ ⟨g, t', tu, rfl⟩ F₁ N₁
    have hi' : i < hs.length := by rw [← hlen]; exact (List.getElem?_eq_some_iff.mp hv).1
    obtain ⟨u, hx⟩ := hi.get i (hs[i]'hi') (List.getElem?_eq_getElem hi')
    have ev : v = .int (hs[i]'hi') u := by rw [hx] at hv; exact (Option.some.inj hv).symm
    subst ev
    have hs' : hs.take (i + 1) = hs.take i ++ [hs[i]'hi'] := by rw [List.take_add_one, List.getElem?_eq_getElem hi'] <;> rfl
    refine wpAny_mono (turn _ (spell (hs.take i) l) t' u tu nx H tk own (List.getElem_mem hi') (spell_len1 (by rw [List.length_take]; omega) l) g hoff F₁ N₁) (fun f s₂ q => ?_) fun _ _ e => e
    obtain ⟨rfl, H', tk', t'', nx', all, rfl, g', ea, F', N', hn', ho'⟩ := q
    refine InvEndG.intro F' N' ⟨hG _ g', g', t'', some (.int (hs[i]'hi') u), ?_⟩ (ea ▸ hoff) hn' ho'
    funext y
    rw [hs', spell_snoc]
    by_cases h1 : y = xt
    · simp only [if_pos h1]
    · simp only [if_neg h1]
      by_cases h2 : y = xh
      · simp only [if_pos h2]
      · simp only [if_neg h2]
  · rintro m₁ nx H tk ⟨g, t', tu, rfl⟩ F₁ N₁
    rw [hlen, List.take_length] at F₁
    exact done t' tu nx H tk g F₁ N₁

theorem sub5 {p p0 p1 p2 p3 p4 : Addr × Obj} {N : List (Addr × Obj)} (h : p ∈ [p0, p1, p2, p3, p4]) (h0 : p0 ∈ N) (h1 : p1 ∈ N) (h2 : p2 ∈ N) (h3 : p3 ∈ N) (h4 : p4 ∈ N) : p ∈ N := by
  simp only [List.mem_cons, List.not_mem_nil, or_false] at h
  rcases h with rfl | rfl | rfl | rfl | rfl <;> assumption
/-- the hands' tables in a list, at a hand -/
theorem item_tabs {L D a0 a1 a2 a3 a4 : Addr} {o0 o1 o2 o3 o4 : Obj} {n : Nat} {h : Int} {u : Tok} {news : List (Addr × Obj)} {value slice : Expr} {Q : Value → Shared → Prop} (N : News h₀ L s.heap news)
    (hm : (D, listOf #[.ref a0, .ref a1, .ref a2, .ref a3, .ref a4] n) ∈ news) (h0 : 0 ≤ h) (h5 : h < 5)
    (t0 : IsTab prog w (tabs 0) o0) (t1 : IsTab prog w (tabs 1) o1) (t2 : IsTab prog w (tabs 2) o2) (t3 : IsTab prog w (tabs 3) o3) (t4 : IsTab prog w (tabs 4) o4)
    (l0 : (a0 == sysModules) = false) (l1 : (a1 == sysModules) = false) (l2 : (a2 == sysModules) = false) (l3 : (a3 == sysModules) = false) (l4 : (a4 == sysModules) = false)
    (hq : ∀ dd od, (dd, od) ∈ [(a0, o0), (a1, o1), (a2, o2), (a3, o3), (a4, o4)] → (dd == sysModules) = false → IsTab prog w (tabs h) od → Q (.ref dd) s)
    (hs : subscripted slice false (.ref D) (.int h u) = operate [.ref D, .int h u] (getItem (.ref D) (.int h u))) :
    wpAny (model prog w) A (subscriptTail value slice (.ref D) (.int h u)) Q E s := by
  have hl : s.heap.IsList D #[.ref a0, .ref a1, .ref a2, .ref a3, .ref a4] := ⟨_, (N _ hm).1, rfl, n, rfl⟩
  have go : ∀ dd od, (dd, od) ∈ [(a0, o0), (a1, o1), (a2, o2), (a3, o3), (a4, o4)] → (dd == sysModules) = false → IsTab prog w (tabs h) od → (#[Value.ref a0, .ref a1, .ref a2, .ref a3, .ref a4] : Array Value)[h.toNat]? = some (.ref dd) →
      wpAny (model prog w) A (subscriptTail value slice (.ref D) (.int h u)) Q E s := fun dd od hmem hlo ht hx =>
    tail_any hl.typeIs slot_list_getitem.lookup (wpAny_getItem_list hl h0 (by omega) hx (hq dd od hmem hlo ht)) hs
  have hc : h = 0 ∨ h = 1 ∨ h = 2 ∨ h = 3 ∨ h = 4 := by omega
  rcases hc with rfl | rfl | rfl | rfl | rfl
  · exact go a0 o0 (by simp) l0 t0 rfl
  · exact go a1 o1 (by simp) l1 t1 rfl
  · exact go a2 o2 (by simp) l2 t2 rfl
  · exact go a3 o3 (by simp) l3 t3 rfl
  · exact go a4 o4 (by simp) l4 t4 rfl

def HandEndC (h₀ : Heap) (L : Addr) (s : Shared) (xt : Str) (l : List Nat) (mo : Str → Option Value) (p1 p2 p3 p4 p5 : Addr × Obj) (c : Addr) (rest : List (Addr × Obj)) (f : Flow) (s' : Shared) : Prop :=
  f = .next ∧ ∃ H' tk' t'' oc' v' tl, s' = { s with heap := H', toks := tk' } ∧ oc'.data = .cell v' ∧ Fr h₀ L H' (fun y => if y = xt then some (.str (S l) t'') else mo y) ∧ News h₀ L H' (tl ++ p1 :: p2 :: p3 :: p4 :: p5 :: (c, oc') :: rest)
/-- the loop, where five objects and a cell lie ahead of the rest -/
theorem hands_iterC {p1 p2 p3 p4 p5 : Addr × Obj} {c : Addr} {oc : Obj} {v₀ : Option Value} {ah : Addr} {vs : List Value} {k : Nat} {hs : List Int} {l : List Nat} {t : Tok} {m₀ : Str → Option Value} {news : List (Addr × Obj)}
    (N : News h₀ env.locals s.heap (p1 :: p2 :: p3 :: p4 :: p5 :: (c, oc) :: news)) (F : Fr h₀ env.locals s.heap m₀) (hoc : oc.data = .cell v₀) (hm : (ah, listOf vs.toArray k) ∈ news) (hh : A.handled = none) (hi : IntsAre vs hs) (hn : hs.length ≤ 2) (hcn : ∀ p ∈ news, p.1 < c) (ht : m₀ xt = some (.str (S l) t))
    (turn : ∀ h l' t' u tu oc v₀ H tk own, h ∈ hs → l'.length ≤ 6 * l.length → oc.data = .cell v₀ → (∀ p ∈ news ++ own, p.1 ≠ c) →
      Fr h₀ env.locals H (fun y => if y = xh then some (.int h u) else if y = xt then some (.str (S l') t') else if y = xh then tu else m₀ y) → News h₀ env.locals H (p1 :: p2 :: p3 :: p4 :: p5 :: (c, oc) :: (news ++ own)) →
      wpAny (model prog w) A (execs body env) (HandEndC h₀ env.locals s xt (l'.flatMap (tab (tabs h))) (fun y => if y = xh then some (.int h u) else if y = xt then some (.str (S l') t') else if y = xh then tu else m₀ y) p1 p2 p3 p4 p5 c (news ++ own)) E { s with heap := H, toks := tk })
    (done : ∀ t' tu oc H tk, Fr h₀ env.locals H (fun y => if y = xt then some (.str (S (spell hs l)) t') else if y = xh then tu else m₀ y) → News h₀ env.locals H (p1 :: p2 :: p3 :: p4 :: p5 :: (c, oc) :: news) → Q .next { s with heap := H, toks := tk }) :
    wpAny (model prog w) A (pyIter (.ref ah)) (fun it s₂ => LoopAtV prog w A h₀ env xh body Q E it s₂) E s := by
  refine hands_iter (xt := xt) (k := k) (fun nx => ∃ oc v₀, oc.data = .cell v₀ ∧ nx = p1 :: p2 :: p3 :: p4 :: p5 :: (c, oc) :: news) ?_ hh hi hn F N ⟨oc, v₀, hoc, rfl⟩ ht ?_ ?_
  · rintro nx ⟨oc, v₀, _, rfl⟩
    exact .tail _ (.tail _ (.tail _ (.tail _ (.tail _ (.tail _ hm)))))
  · rintro h l' t' u tu nx H tk own hh' hl ⟨oc, v₀, hoc, rfl⟩ hoff F' N'
    have hc : ∀ p ∈ news ++ own, p.1 ≠ c := fun p hp => by
      rcases List.mem_append.mp hp with hp | hp
      · exact Nat.ne_of_lt (hcn p hp)
      · exact hoff p hp c (by simp)
    refine wpAny_mono (turn h l' t' u tu oc v₀ H tk own hh' hl hoc hc F' (by simpa using N')) (fun f s' q => ?_) fun _ _ e => e
    obtain ⟨rfl, H', tk', t'', oc', v', tl, rfl, hoc', F'', N''⟩ := q
    refine ⟨rfl, H', tk', t'', _, _, rfl, ⟨oc', v', hoc', rfl⟩, rfl, F'', N'', fun p hp => ?_, fun p hp => ?_⟩
    · refine List.mem_append_right _ ?_
      simp only [List.mem_cons, List.mem_append] at hp ⊢
      rcases hp with h | h | h | h | h | h | h
      all_goals simp [h]
    · refine List.mem_append_right _ ?_
      simp [hp]
  · rintro t' tu nx H tk ⟨oc, v₀, _, rfl⟩ F' N'
    exact done t' tu oc H tk F' N'
end
end Mine
end

-- C2
section
open PySem PySem.W PyProof.Rows PySem.Calls PyProof.Rows.LCg PyProof.Rows.LCt
namespace Mine
set_option maxRecDepth 100000
set_option maxHeartbeats 4000000
local macro_rules | `(tactic| k_updF) => `(tactic| (refine' UpdF.head ?a; (case a => assumption)))
local macro_rules | `(tactic| walk_at $s:str) => `(tactic| k_extra $s)
theorem rules_C2 : True := by
  w_top off
  k_with_none
  (k_with "eval Dict" => ((k_here; (with_reducible rename Fr _ _ _ _ => zzkF); (with_reducible rename News _ _ _ _ => zzkN); (with_reducible first | ((show wpAny _ _ (eval (Expr.Dict _ [_, Expr.Constant (Const.str (Str.ofString "&lt;")) _ _, _] _) _) _ _ _); refine' dict_tab (tabs 0) zzkF zzkN ?zzz1 ?zzz2 ?zzz3 ?zzz4 ?zzz5 ?zzz6 ?zzz7 ?zzz8 ?_) | ((show wpAny _ _ (eval (Expr.Dict _ [_, _, _, _, _, _, _] _) _) _ _ _); refine' dict_tab (tabs 1) zzkF zzkN ?zzz1 ?zzz2 ?zzz3 ?zzz4 ?zzz5 ?zzz6 ?zzz7 ?zzz8 ?_) | ((show wpAny _ _ (eval (Expr.Dict _ [_, Expr.Constant (Const.str (Str.ofString "&gt;")) _ _, _] _) _) _ _ _); refine' dict_tab (tabs 2) zzkF zzkN ?zzz1 ?zzz2 ?zzz3 ?zzz4 ?zzz5 ?zzz6 ?zzz7 ?zzz8 ?_) | ((show wpAny _ _ (eval (Expr.Dict _ [_, _, _, _] _) _) _ _ _); refine' dict_tab (tabs 3) zzkF zzkN ?zzz1 ?zzz2 ?zzz3 ?zzz4 ?zzz5 ?zzz6 ?zzz7 ?zzz8 ?_) | ((show wpAny _ _ (eval (Expr.Dict _ [_, _, _, _, _, _] _) _) _ _ _); refine' dict_tab (tabs 4) zzkF zzkN ?zzz1 ?zzz2 ?zzz3 ?zzz4 ?zzz5 ?zzz6 ?zzz7 ?zzz8 ?_)); (case zzz1 => exact (Top.nolimit (by k_asm))); (case zzz2 => kernel_rfl); (case zzz3 => kernel_rfl); (case zzz4 => decide +kernel); (case zzz5 => kernel_rfl); (case zzz6 => kernel_rfl); (case zzz7 => exact List.cons_ne_nil _ _); (case zzz8 => decide +kernel); intro zza' zzo' zzh' zztk' zzF' zzN' zzl1 zzlo' zzit'; (try k_lt zzl1); (try k_sweep))))
  (k_with "subscriptTail" => ((k_here; (with_reducible show wpAny _ _ (subscriptTail _ _ (Value.ref _) (Value.int _ _)) _ _ _); (with_reducible rename News _ _ _ _ => zzkN); (with_reducible refine' item_tabs zzkN ?zzm ?zzh0 ?zzh5 ?zzt0 ?zzt1 ?zzt2 ?zzt3 ?zzt4 ?zzl0 ?zzl1 ?zzl2 ?zzl3 ?zzl4 ?_ ?zzhs); k_dflt ((case zzm => k_mem); (case zzh0 => assumption); (case zzh5 => assumption); (case zzt0 => assumption); (case zzt1 => assumption); (case zzt2 => assumption); (case zzt3 => assumption); (case zzt4 => assumption); (case zzl0 => assumption); (case zzl1 => assumption); (case zzl2 => assumption); (case zzl3 => assumption); (case zzl4 => assumption); (case zzhs => rfl)); intro zzdd' zzod' zzhm5' zzlo5' zzit5')))
  (k_with "eval ListComp" => ((k_here; (with_reducible rename Fr _ _ _ _ => zzkF); (with_reducible refine' comp_str zzkF ?zzc1 ?zzc2 ?zzc3 ?zzc4 ?zzc5 ?zzc6 ?_); k_dflt ((case zzc1 => with_unfolding_all rfl); (case zzc2 => decide); (case zzc3 => rfl); (case zzc4 => decide); (case zzc5 => rfl); (case zzc6 => intro _; rfl)))))
  (k_with "getMethod ref" => ((k_here; (with_reducible rename News _ _ _ _ => zzkN); (with_reducible refine' get_method zzkN ?zzm ?zzt ?_); k_dflt ((case zzt => assumption); (case zzm => refine' sub5 (by assumption) ?zzx0 ?zzx1 ?zzx2 ?zzx3 ?zzx4; (case zzx0 => k_mem); (case zzx1 => k_mem); (case zzx2 => k_mem); (case zzx3 => k_mem); (case zzx4 => k_mem))))))
  (k_with "call builtin:dict.get" => ((k_here; (with_reducible rename News _ _ _ _ => zzkN); (with_reducible refine' get_tab zzkN ?zzm ?zzl ?zzt ?_); k_dflt ((case zzt => assumption); (case zzl => assumption); (case zzm => refine' sub5 (by assumption) ?zzx0 ?zzx1 ?zzx2 ?zzx3 ?zzx4; (case zzx0 => k_mem); (case zzx1 => k_mem); (case zzx2 => k_mem); (case zzx3 => k_mem); (case zzx4 => k_mem))); intro zzu' zztk')))
  (k_with "call builtin:str.join" => ((k_here; (with_reducible rename News _ _ _ _ => zzkN); (with_reducible refine' join_flat (tab (tabs _)) zzkN ?zzm ?zzx ?zzl ?zzg ?zzf ?zzb ?_); k_dflt ((case zzm => k_mem); (case zzx => decide +kernel); (case zzl => assumption); (case zzg => assumption); (case zzf => exact fun d => tab_len 6 (by omega) d _ (tabs_len _)); (case zzb => omega)); intro zzt' zztk')))
  trivial

section
variable (w : World) (mean : ExcName → Option Value) (mg mb : Str → Option Value) (news : List (Addr × Obj)) (l : List Nat) (t u : Tok)
theorem spelled {ah : Addr} {vs : List Value} {k : Nat} {hs : List Int} (hm : (ah, listOf vs.toArray k) ∈ news) (hi : IntsAre vs hs) (hr : ∀ h ∈ hs, 0 ≤ h ∧ h < 5) (hn : hs.length ≤ 2) (hl : l.length ≤ 200) : TelS w mean mg mb news 2 124 [.str (S l) t, .ref ah] (S (spell hs l)) := by
  unfold TelS
  k_fill
  intros; rename_i hret
  refine wpAny_call ?_
  (k_dflt (refine' code_defC ?k1 ?k2 ?k3 ?k4 ?k5 ?kA ?kF ?kK ?k6 ?k7 ?k8 ?k9 ?kB ?kD ?_ ?c2 ?c3 ?c4; (case kA => exact rfl); (case kF => exact rfl); (case kK => assumption); (case k1 => k_asm); (case k2 => k_asm); (case k3 => k_asm); (case k4 => k_asm); (case k5 => k_asm); (case k6 => k_is); (case k7 => k_is); (case k8 => ktr_room); (case k9 => first | exact BindsTo.of_eq rfl); (case kB => exact rfl); (case kD => decide +kernel); (case c2 => exact rfl); (case c3 => exact rfl); (case c4 => exact rfl); k_whole; intro g' L' h' tk' cells' FG' F' N' Y' B' X' T' l1; (try k_lt l1); k_cells Y'; (try simp only [List.cons_append, List.nil_append] at N'); (try dsimp only); (try k_lift B'); (try k_fold)))
  k_steps
  (rename Fr _ _ _ _ => F0); (rename News _ _ _ _ => N0)
  refine' hands_iterC (xt := Str.ofString "text") N0 F0 ?hoc hm ?hh (by assumption) hn ?hcn ?ht ?turn ?done
  case hoc => assumption
  case hh => rfl
  case hcn => exact fun p hp => Nat.lt_succ_of_lt (l1 p hp)
  case ht => exact rfl
  case done =>
    intro t9 tu9 oc9 H9 tk9 F9 N9
    clear F0 N0
    (try dsimp only)
    k_steps
    refine hret _ _ _ (by assumption) ?_
    exact fun p hp => (by assumption : News _ _ _ _) p (.tail _ (.tail _ (.tail _ (.tail _ (.tail _ (.tail _ hp))))))
  case turn =>
    intro h9 l9 t9 u9 tu9 oc9 v9 H9 tk9 own9 hh9 hl9 hoc9 hcn9 F9 N9
    clear F0 N0
    obtain ⟨hlo9, hhi9⟩ := hr h9 hh9
    have hl10 : l9.length ≤ 1200 := by omega
    clear hl9
    k_steps
    (rename Fr _ _ _ _ => F1); (rename News _ _ _ _ => N1)
    refine' StrSrc.pure (fun c y => ∃ u, y = .str (S (tab (tabs h9) c)) u) ?_ F1 N1 ?_ ?_ ?_
    · rfl
    · rw [sizeLine_eq]; omega
    · intro c8 u8 I8 oI8 C8 oC8 D8 ys8 m8 H8 tk8 E8 hc8 hC8 hx8 F8 N8
      k_steps
      exact ⟨_, _, rfl, by assumption, by assumption⟩
    · intro D8 ys8 H8 tk8 hy8 hg8 F8 N8 o8
      clear F1 N1
      (try dsimp only)
      k_steps
      exact ⟨rfl, _, _, _, _, _, [_, _, _], rfl, by assumption, by assumption, by assumption⟩
end
end Mine
end

-- A6
section
open PySem PySem.W PyProof.Rows PySem.Calls PyProof.Rows.LCg PyProof.Rows.LCt
set_option maxRecDepth 100000
namespace Mine
/-- a goal that the walk is to leave alone -/
def Hold (P : Prop) : Prop := P
theorem hold_in {P : Prop} (h : Hold P) : P := h
/-- a text's signs -/
abbrev cs (x : Str) : List Nat := x.cps.toList
theorem cs_S (l : List Nat) : cs (S l) = l := rfl
theorem eq_cs {x y : Str} : x = y ↔ cs x = cs y := ⟨fun h => h ▸ rfl, fun h => by rw [← S_of x, ← S_of y]; exact congrArg S h⟩
theorem beq_cs (x y : Str) : (x == y) = decide (cs x = cs y) := by
  by_cases h : x = y
  · rw [decide_eq_true (eq_cs.mp h)]; exact beq_iff_eq.mpr h
  · rw [decide_eq_false fun e => h (eq_cs.mpr e)]; exact beq_eq_false_iff_ne.mpr h
theorem slice_S (l : List Nat) {a b : Nat} (hab : a ≤ b) (hb : b ≤ l.length) : Txt.slice (S l) (some (a : Int)) (some (b : Int)) = S ((l.drop a).take (b - a)) :=
  StrLaws.sliceText_nat (S l) hab (by rw [S_len]; exact hb)
theorem slice_to (l : List Nat) {b : Nat} (hb : b ≤ l.length) : Txt.slice (S l) none (some (b : Int)) = S (l.take b) := by
  have h := StrLaws.sliceText_to (x := S l) (j := (b : Int)) ⟨by omega, by rw [S_toList]; omega⟩
  have e : Txt.slice (S l) none (some (b : Int)) = StrLaws.sliceText (S l) none (some (b : Int)) := rfl
  rw [e, h, S_toList]
  simp [S]
section
variable {prog : Program} {w : World} {A : Around} {E : Value → Shared → Prop} {s : Shared} {h₀ : Heap} {L d : Addr} {m : Str → Option Value} {env : Env} {news : List (Addr × Obj)} {value slice : Expr} {l : List Nat} {x y : Str} {t u : Tok} {Q : Value → Shared → Prop}
theorem eq_S (h : Q (.bool (decide (cs x = cs y))) s) : wpAny (model prog w) A (compareOp .Eq (.str x t) (.str y u)) Q E s := eq_str (by rw [beq_cs]; exact h)
theorem ne_S (h : Q (.bool (!decide (cs x = cs y))) s) : wpAny (model prog w) A (compareOp .NotEq (.str x t) (.str y u)) Q E s := ne_str (by rw [show (x != y) = !(x == y) from rfl, beq_cs]; exact h)
theorem add_S (hsz : (cs x).length + (cs y).length ≤ 16777216) (h : ∀ t' k, Q (.str (S (cs x ++ cs y)) t') { s with toks := k }) : wpAny (model prog w) A (binaryOp .Add (.str x t) (.str y u)) Q E s := by
  refine add_str (fun t' k => ?_) (by rw [sizeLine_eq, len_toList, len_toList]; exact hsz)
  have := h t' k
  rw [← S_app, S_of, S_of] at this
  exact this
theorem len_S (hl : l.length ≤ 16777216) (h : ∀ t' k, Q (.int l.length t') { s with toks := k }) : wpAny (model prog w) A (call (.builtin "len") [.str (S l) t]) Q E s :=
  len_str (by rw [S_len]; omega) (by rw [S_len]; exact h _ _)
theorem cut_ns {j : Int} {uj : Tok} (F : Fr h₀ L s.heap m) (N : News h₀ L s.heap news) (h0 : 0 ≤ j) (hk : j ≤ l.length) (hl : l.length ≤ 100000) (h : ∀ h' t' tk, Fr h₀ L h' m → News h₀ L h' news → Q (.str (S (l.take j.toNat)) t') { s with heap := h', toks := tk })
    (hs : subscripted slice false (.str (S l) t) (.ref s.heap.objs.size) = operate [.ref s.heap.objs.size, .str (S l) t] (getItem (.str (S l) t) (.ref s.heap.objs.size))) (ht : ∀ r, letTemporaryGo value (.str (S l) t) r = pure ()) :
    wpAny (model prog w) A (subscriptTail value slice (.str (S l) t) (.ref s.heap.objs.size)) Q E { s with heap := s.heap.push { cls := .type "slice", data := .fields #[.none, .int j uj, .none] } } := by
  obtain ⟨k, rfl⟩ := Int.eq_ofNat_of_zero_le h0
  refine slice_strN_ns F N (fun h' t' tk F' N' => ?_) hs ht (by rw [S_len, sizeLine_eq]; omega)
  have := h h' t' tk F' N'
  rw [Int.toNat_natCast] at this
  rw [slice_to l (by omega)]; exact this
theorem cut_ss {i j : Int} {ui uj : Tok} (F : Fr h₀ L s.heap m) (N : News h₀ L s.heap news) (h0 : 0 ≤ i) (hij : i ≤ j) (hb : j ≤ l.length) (hl : l.length ≤ 100000) (h : ∀ h' t' tk, Fr h₀ L h' m → News h₀ L h' news → Q (.str (S ((l.drop i.toNat).take (j.toNat - i.toNat))) t') { s with heap := h', toks := tk })
    (hs : subscripted slice false (.str (S l) t) (.ref s.heap.objs.size) = operate [.ref s.heap.objs.size, .str (S l) t] (getItem (.str (S l) t) (.ref s.heap.objs.size))) (ht : ∀ r, letTemporaryGo value (.str (S l) t) r = pure ()) :
    wpAny (model prog w) A (subscriptTail value slice (.str (S l) t) (.ref s.heap.objs.size)) Q E { s with heap := s.heap.push { cls := .type "slice", data := .fields #[.int i ui, .int j uj, .none] } } := by
  obtain ⟨a, rfl⟩ := Int.eq_ofNat_of_zero_le h0
  obtain ⟨b, rfl⟩ := Int.eq_ofNat_of_zero_le (Int.le_trans h0 hij)
  refine slice_strN_ss F N (fun h' t' tk F' N' => ?_) hs ht (by rw [S_len, sizeLine_eq]; omega)
  have := h h' t' tk F' N'
  rw [Int.toNat_natCast, Int.toNat_natCast] at this
  rw [slice_S l (by omega) (by omega)]; exact this
theorem item_S {i : Int} {v : Tok} (h0 : 0 ≤ i) (h1 : i < l.length) (hl : l.length ≤ 100000) (h : ∀ t' k, Q (.str (S [l.getD i.toNat 0]) t') { s with toks := k })
    (hs : subscripted slice false (.str (S l) t) (.int i v) = operate [.str (S l) t, .int i v] (getItem (.str (S l) t) (.int i v))) (ht : ∀ r, letTemporaryGo value (.str (S l) t) r = pure ()) :
    wpAny (model prog w) A (subscriptTail value slice (.str (S l) t) (.int i v)) Q E s := by
  refine item_str (by unfold fitsSsize; simp; omega) (by rw [S_len]; omega) (by rw [S_len]; exact h1) (fun _ => ?_) hs ht
  have e : Txt.item (S l) i = S [l.getD i.toNat 0] := by
    obtain ⟨a, rfl⟩ := Int.eq_ofNat_of_zero_le h0
    have ha : a < l.length := by omega
    have hc : (S l).cps[((a : Nat) : Int).toNat]? = some (l[a]'ha) := by simp [S, ha]
    have := StrLaws.at_nonneg (x := S l) (i := (a : Int)) (by omega) hc
    unfold Txt.item Txt.charAt
    rw [this, Int.toNat_natCast, List.getD_eq_getElem?_getD, List.getElem?_eq_getElem ha]
    rfl
  rw [e]; exact h _ _
end
end Mine
end

-- A7
section
open PySem PySem.W PyProof.Rows PySem.Calls PyProof.Rows.LCg PyProof.Rows.LCt
set_option maxRecDepth 100000
namespace Mine
/-- what stands within quotes, a quote told twice -/
def unq : List Nat → List Nat
  | [] => []
  | [c] => if c = 34 then [] else [c]
  | c :: d :: r => if c = 34 then (if d = 34 then 34 :: unq r else []) else c :: unq (d :: r)
def p257 (l : List Nat) : List Nat := if l.take 2 = [32, 34] then unq (l.drop 2) else []
theorem unq_ne {c : Nat} (h : c ≠ 34) (r : List Nat) : unq (c :: r) = c :: unq r := by
  cases r with
  | nil => simp [unq, h]
  | cons d r => simp [unq, h]
theorem unq_two (r : List Nat) : unq (34 :: 34 :: r) = 34 :: unq r := by simp [unq]
theorem unq_end {r : List Nat} (h : ∀ r', r ≠ 34 :: r') : unq (34 :: r) = [] := by
  cases r with
  | nil => simp [unq]
  | cons d r =>
    have : d ≠ 34 := fun e => h r (by rw [e])
    simp [unq, this]
theorem drop_getD {l : List Nat} {k : Nat} (h : k < l.length) : l.drop k = l.getD k 0 :: l.drop (k + 1) := by
  rw [List.drop_eq_getElem_cons h, List.getD_eq_getElem?_getD, List.getElem?_eq_getElem h]; rfl
theorem getD3 (a b c k : Nat) (l : List Nat) : (a :: b :: c :: l).getD (((k + 3 : Nat) : Int)).toNat 0 = l.getD k 0 := by
  rw [Int.toNat_natCast]; rfl
theorem getD4 (a b c k : Nat) (l : List Nat) : (a :: b :: c :: l).getD ((((k + 3 : Nat) : Int)) + 1).toNat 0 = l.getD (k + 1) 0 := by
  rw [show (((k + 3 : Nat) : Int) + 1).toNat = k + 1 + 3 from by omega]; rfl

section
variable {prog : Program} {w : World} {A : Around} {E : Value → Shared → Prop} {s : Shared} {env : Env} {h₀ : Heap} {L : Addr} {Q : Flow → Shared → Prop} {xd xi xc : Str} {l : List Nat} {news : List (Addr × Obj)} {m₀ : Str → Option Value}
def QuoteEnd (h₀ : Heap) (L : Addr) (s : Shared) (xd xi xc : Str) (l : List Nat) (news : List (Addr × Obj)) (m₀ : Str → Option Value) (Q : Flow → Shared → Prop) (k : Nat) (f : Flow) (s' : Shared) : Prop :=
  match f with
  | .next | .cont => ∃ h' tk' k' acc' ti td tc, s' = { s with heap := h', toks := tk' } ∧ k < k' ∧ k' ≤ l.length ∧ acc' ++ unq (l.drop k') = unq (l.drop 2) ∧ acc'.length ≤ k' ∧
      Fr h₀ L h' (fun y => if y = xd then some (.str (S acc') td) else if y = xi then some (.int ((k' + 3 : Nat) : Int) ti) else if y = xc then tc else m₀ y) ∧ News h₀ L h' news
  | .brk => Q .next s'
  | .ret v => Q (.ret v) s'
/-- the loop that takes a quoted name's signs -/
theorem while_unq {test : Expr} {body : List Stmt} {pos : Pos} {td ti : Tok} (hl : 2 ≤ l.length) (F : Fr h₀ L s.heap m₀) (N : News h₀ L s.heap news) (hd : m₀ xd = some (.str (S []) td)) (hi : m₀ xi = some (.int 5 ti))
    (turn : ∀ k acc ti td tc h tk, 2 ≤ k → k ≤ l.length → acc ++ unq (l.drop k) = unq (l.drop 2) → acc.length ≤ k →
      Fr h₀ L h (fun y => if y = xd then some (.str (S acc) td) else if y = xi then some (.int ((k + 3 : Nat) : Int) ti) else if y = xc then tc else m₀ y) → News h₀ L h news →
      wpAny (model prog w) A (isTrue test env (eval test env)) (fun b s₂ => if b = true then wpAny (model prog w) A (execs body env) (QuoteEnd h₀ L s xd xi xc l news m₀ Q k) E s₂ else Q .next s₂) E { s with heap := h, toks := tk })
    (hE : PassesOwn (model prog w) A env E) : wpAny (model prog w) A (exec (.While test body [] pos) env) Q E s := by
  refine While_inv2 (n₀ := l.length - 2) (fun n m nx => nx = news ∧ ∃ k acc ti td tc, n = l.length - k ∧ 2 ≤ k ∧ k ≤ l.length ∧ acc ++ unq (l.drop k) = unq (l.drop 2) ∧ acc.length ≤ k ∧ m = fun y => if y = xd then some (.str (S acc) td) else if y = xi then some (.int ((k + 3 : Nat) : Int) ti) else if y = xc then tc else m₀ y)
    F N ⟨rfl, 2, [], ti, td, m₀ xc, rfl, Nat.le_refl _, hl, rfl, Nat.zero_le _, ?_⟩ ?_ hE
  · funext y
    by_cases h1 : y = xd
    · simp only [if_pos h1]; rw [h1, hd]
    · simp only [if_neg h1]
      by_cases h2 : y = xi
      · simp only [if_pos h2]; rw [h2, hi]; rfl
      · simp only [if_neg h2]
        by_cases h3 : y = xc
        · simp only [if_pos h3]; rw [h3]
        · simp only [if_neg h3]
  · rintro n m₁ nx h tk F₁ N₁ ⟨rfl, k, acc, ti, td, tc, rfl, hk2, hkl, hacc, hal, rfl⟩
    refine wpAny_mono (turn k acc ti td tc h tk hk2 hkl hacc hal F₁ N₁) (fun b s₂ q => ?_) fun _ _ e => e
    cases b with
    | false => simpa using q
    | true =>
      simp only [if_true] at q ⊢
      refine wpAny_mono q (fun f s₃ q => ?_) fun _ _ e => e
      cases f with
      | ret v => exact q
      | brk => exact q
      | next =>
        obtain ⟨h', tk', k', acc', ti', td', tc', rfl, hlt, hle, ha, hal', F', N'⟩ := q
        exact ⟨h', tk', _, _, l.length - k', rfl, F', N', by omega, rfl, k', acc', ti', td', tc', rfl, by omega, hle, ha, hal', rfl⟩
      | cont =>
        obtain ⟨h', tk', k', acc', ti', td', tc', rfl, hlt, hle, ha, hal', F', N'⟩ := q
        exact ⟨h', tk', _, _, l.length - k', rfl, F', N', by omega, rfl, k', acc', ti', td', tc', rfl, by omega, hle, ha, hal', rfl⟩

theorem quote_next {h' : Heap} {tk' : Nat} {m' : Str → Option Value} {td ti : Tok} {j : Int} {k : Nat} (k' : Nat) (acc' : List Nat) (hlt : k < k') (hle : k' ≤ l.length) (ha : acc' ++ unq (l.drop k') = unq (l.drop 2)) (hal : acc'.length ≤ k')
    (F : Fr h₀ L h' m') (N : News h₀ L h' news) (hd : m' xd = some (.str (S acc') td)) (hi : m' xi = some (.int j ti)) (hj : j = ((k' + 3 : Nat) : Int)) (hr : ∀ y, y ≠ xd → y ≠ xi → y ≠ xc → m' y = m₀ y) :
    QuoteEnd h₀ L s xd xi xc l news m₀ Q k .next { s with heap := h', toks := tk' } := by
  subst hj
  refine ⟨h', tk', k', acc', ti, td, m' xc, rfl, hlt, hle, ha, hal, ?_, N⟩
  have e : m' = fun y => if y = xd then some (.str (S acc') td) else if y = xi then some (.int ((k' + 3 : Nat) : Int) ti) else if y = xc then m' xc else m₀ y := by
    funext y
    by_cases h1 : y = xd
    · simp only [if_pos h1]; rw [h1, hd]
    · simp only [if_neg h1]
      by_cases h2 : y = xi
      · simp only [if_pos h2]; rw [h2, hi]
      · simp only [if_neg h2]
        by_cases h3 : y = xc
        · simp only [if_pos h3]; rw [h3]
        · simp only [if_neg h3]; exact hr y h1 h2 h3
  rw [e] at F
  exact F
end
end Mine
end

-- D1
section
open PySem PySem.W PyProof.Rows PySem.Calls PyProof.Rows.LCg PyProof.Rows.LCt
namespace Mine
set_option maxRecDepth 100000
set_option maxHeartbeats 4000000

theorem lit257 : cs (Str.ofString "257") = [50, 53, 55] := by decide +kernel
theorem lit229 : cs (Str.ofString "229") = [50, 50, 57] := by decide +kernel
theorem litBQ : cs (Str.ofString " \"") = [32, 34] := by decide +kernel
theorem litQ : cs (Str.ofString "\"") = [34] := by decide +kernel
theorem litE : cs (Str.ofString "") = [] := by decide +kernel
theorem litQB : cs (Str.ofString "\" (") = [34, 32, 40] := by decide +kernel
theorem litEnd : cs (Str.ofString ") at last") = [41, 32, 97, 116, 32, 108, 97, 115, 116] := by decide +kernel
theorem litO : cs (Str.ofString "(") = [40] := by decide +kernel
theorem litC : cs (Str.ofString ")") = [41] := by decide +kernel
theorem ofE : Str.ofString "" = S [] := by decide +kernel


local macro_rules | `(tactic| walk_at $s:str) => `(tactic| k_extra $s)
theorem rules_D1 : True := by
  w_top off
  k_with_none
  (k_with "compareOp Eq str str" => ((k_here; (with_reducible refine eq_S ?_); (simp only [cs_S, lit257, lit229, litBQ, litQ, litE, Int.reduceToNat, List.take_succ_cons, List.take_zero, List.drop_succ_cons, List.drop_zero, Nat.reduceSub, decide_true, Bool.not_true, Bool.not_false]))))
  (k_with "compareOp NotEq str str" => ((k_here; (with_reducible refine ne_S ?_); (simp only [cs_S, lit257, lit229, litBQ, litQ, litE, Int.reduceToNat, List.take_succ_cons, List.take_zero, List.drop_succ_cons, List.drop_zero, Nat.reduceSub, decide_true, Bool.not_true, Bool.not_false]))))
  (k_with "binaryOp Add str str" => ((k_here; (with_reducible refine' add_S ?zzhsz ?_); (case zzhsz => k_dflt ((simp only [cs_S, lit257, lit229, litBQ, litQ, litE, litQB, litEnd, List.length_cons, List.length_nil, List.length_append]); omega)); intro zzt' zztk'; (simp only [cs_S, lit257, lit229, litBQ, litQ, litE, litQB, litEnd]))))
  (k_with "call builtin:len" => ((k_here; (with_reducible refine' len_S ?zzhl ?_); (case zzhl => k_dflt ((try simp only [List.length_cons, List.length_nil, List.length_append] at *); omega)); intro zzt' zztk')))
  (k_with "subscriptTail" => ((k_here; (with_reducible show wpAny _ _ (subscriptTail _ (Expr.Slice none (some _) none _) (Value.str _ _) (Value.ref _)) _ _ _); (with_reducible rename Fr _ _ _ _ => zzkF); (with_reducible rename News _ _ _ _ => zzkN); (refine' cut_ns (s := ⟨_, _, _, _, _⟩) zzkF zzkN ?zzh0 ?zzhk ?zzhl ?_ ?zzhs ?zzht); k_dflt ((case zzh0 => omega); (case zzhk => (try simp only [List.length_cons, List.length_nil, List.length_append] at *); omega); (case zzhl => (try simp only [List.length_cons, List.length_nil, List.length_append] at *); omega); (case zzhs => with_unfolding_all rfl); (case zzht => intro _; with_unfolding_all rfl)); intro zzh' zzt' zztk' zzF' zzN'; (try k_sweep))))
  (k_with "subscriptTail" => ((k_here; (with_reducible show wpAny _ _ (subscriptTail _ (Expr.Slice (some _) (some _) none _) (Value.str _ _) (Value.ref _)) _ _ _); (with_reducible rename Fr _ _ _ _ => zzkF); (with_reducible rename News _ _ _ _ => zzkN); (refine' cut_ss (s := ⟨_, _, _, _, _⟩) zzkF zzkN ?zzh0 ?zzhk ?zzhj ?zzhl ?_ ?zzhs ?zzht); k_dflt ((case zzh0 => omega); (case zzhk => omega); (case zzhj => (try simp only [List.length_cons, List.length_nil, List.length_append] at *); omega); (case zzhl => (try simp only [List.length_cons, List.length_nil, List.length_append] at *); omega); (case zzhs => with_unfolding_all rfl); (case zzht => intro _; with_unfolding_all rfl)); intro zzh' zzt' zztk' zzF' zzN'; (try k_sweep))))
  (k_with "subscriptTail" => ((k_here; (with_reducible show wpAny _ _ (subscriptTail _ _ (Value.str _ _) (Value.int _ _)) _ _ _); (with_reducible refine' item_S ?zzh0 ?zzh1 ?zzhl ?_ ?zzhs ?zzht); k_dflt ((case zzh0 => omega); (case zzh1 => (try simp only [List.length_cons, List.length_nil, List.length_append] at *); omega); (case zzhl => (try simp only [List.length_cons, List.length_nil, List.length_append] at *); omega); (case zzhs => with_unfolding_all rfl); (case zzht => intro _; with_unfolding_all rfl)); intro zzt' zztk')))
  (k_with "subscriptTail Name Name str int" => ((k_here; (with_reducible show wpAny _ _ (subscriptTail _ _ (Value.str _ _) (Value.int _ _)) _ _ _); (with_reducible refine' item_S ?zzh0 ?zzh1 ?zzhl ?_ ?zzhs ?zzht); k_dflt ((case zzh0 => omega); (case zzh1 => (try simp only [List.length_cons, List.length_nil, List.length_append] at *); omega); (case zzhl => (try simp only [List.length_cons, List.length_nil, List.length_append] at *); omega); (case zzhs => with_unfolding_all rfl); (case zzht => intro _; with_unfolding_all rfl)); intro zzt' zztk')))
  (k_with "subscriptTail Name BinOp str int" => ((k_here; (with_reducible show wpAny _ _ (subscriptTail _ _ (Value.str _ _) (Value.int _ _)) _ _ _); (with_reducible refine' item_S ?zzh0 ?zzh1 ?zzhl ?_ ?zzhs ?zzht); k_dflt ((case zzh0 => omega); (case zzh1 => (try simp only [List.length_cons, List.length_nil, List.length_append] at *); omega); (case zzhl => (try simp only [List.length_cons, List.length_nil, List.length_append] at *); omega); (case zzhs => with_unfolding_all rfl); (case zzht => intro _; with_unfolding_all rfl)); intro zzt' zztk')))
  (k_with "subscriptTail Name Constant str int" => ((k_here; (with_reducible show wpAny _ _ (subscriptTail _ _ (Value.str _ _) (Value.int _ _)) _ _ _); (with_reducible refine' item_S ?zzh0 ?zzh1 ?zzhl ?_ ?zzhs ?zzht); k_dflt ((case zzh0 => omega); (case zzh1 => (try simp only [List.length_cons, List.length_nil, List.length_append] at *); omega); (case zzhl => (try simp only [List.length_cons, List.length_nil, List.length_append] at *); omega); (case zzhs => with_unfolding_all rfl); (case zzht => intro _; with_unfolding_all rfl)); intro zzt' zztk')))
  (k_with "subscriptTail Constant BinOp str int" => ((k_here; (with_reducible show wpAny _ _ (subscriptTail _ _ (Value.str _ _) (Value.int _ _)) _ _ _); (with_reducible refine' item_S ?zzh0 ?zzh1 ?zzhl ?_ ?zzhs ?zzht); k_dflt ((case zzh0 => omega); (case zzh1 => (try simp only [List.length_cons, List.length_nil, List.length_append] at *); omega); (case zzhl => (try simp only [List.length_cons, List.length_nil, List.length_append] at *); omega); (case zzhs => with_unfolding_all rfl); (case zzht => intro _; with_unfolding_all rfl)); intro zzt' zztk')))
  (k_with "exec While" => ((k_here; refine hold_in ?_)))
  trivial

section
variable (w : World) (mean : ExcName → Option Value) (mg mb : Str → Option Value) (news : List (Addr × Obj)) (l : List Nat) (t u : Tok)
theorem heard257 (h2 : 2 ≤ l.length) (hl : l.length ≤ 10000) : TelS w mean mg mb news 1 65 [.str (S (50 :: 53 :: 55 :: l)) t] (S (p257 l)) := by
  unfold TelS
  k_fill
  intros; rename_i hret
  refine wpAny_call ?_
  (k_dflt cell_enter)
  k_steps
  · unfold Hold
    (rename Fr _ _ _ _ => F0); (rename News _ _ _ _ => N0)
    have hp : p257 l = unq (l.drop 2) := by unfold p257; rw [if_pos (by assumption)]
    refine' while_unq (xd := Str.ofString "dirname") (xi := Str.ofString "i") (xc := Str.ofString "c") (l := l) h2 F0 N0 ?hd ?hi ?turn ?hE
    case hd => exact rfl
    case hi => exact rfl
    case hE => passes_own
    case turn =>
      intro k9 acc9 ti9 td9 tc9 H9 tk9 hk9 hkl9 hacc9 hal9 F9 N9
      clear F0 N0
      k_steps
      all_goals (simp only [getD3, getD4, List.length_cons, List.cons.injEq, and_true] at *)
      · have e : acc9 = p257 l := by
          rw [drop_getD (by omega), (by assumption : l.getD k9 0 = 34), unq_end (by rw [List.drop_eq_nil_of_le (by omega)]; simp), List.append_nil] at hacc9
          rw [hp, hacc9]
        dsimp only [QuoteEnd]
        k_steps
        rw [e]
        exact hret _ _ _ (by assumption) (by assumption)
      · have e1 : l.getD k9 0 = 34 := by assumption
        have e2 : l.getD (k9 + 1) 0 = 34 := by assumption
        (rename Fr _ _ _ _ => F1); (rename News _ _ _ _ => N1)
        refine quote_next (k9 + 2) (acc9 ++ [34]) (by omega) (by omega) ?_ (by simp; omega) F1 N1 (by rw [← e1]; exact rfl) rfl (by omega) ?_
        · rw [← hacc9, drop_getD (l := l) (k := k9) (by omega), drop_getD (l := l) (k := k9 + 1) (by omega), e1, e2, unq_two]; simp
        · intro y h1 h2 h3; simp only [if_neg h1, if_neg h2, if_neg h3]
      · have e : acc9 = p257 l := by
          rw [drop_getD (by omega), (by assumption : l.getD k9 0 = 34), unq_end (by rw [drop_getD (by omega)]; intro r' hr'; injection hr' with hr' _; contradiction), List.append_nil] at hacc9
          rw [hp, hacc9]
        dsimp only [QuoteEnd]
        k_steps
        rw [e]
        exact hret _ _ _ (by assumption) (by assumption)
      · have e1 : ¬ l.getD k9 0 = 34 := by assumption
        (rename Fr _ _ _ _ => F1); (rename News _ _ _ _ => N1)
        refine quote_next (k9 + 1) (acc9 ++ [l.getD k9 0]) (by omega) (by omega) ?_ (by simp; omega) F1 N1 rfl rfl (by omega) ?_
        · rw [← hacc9, drop_getD (l := l) (k := k9) (by omega), unq_ne e1]; simp
        · intro y h1 h2 h3; simp only [if_neg h1, if_neg h2, if_neg h3]
      · have e : acc9 = p257 l := by
          rw [List.drop_eq_nil_of_le (by omega)] at hacc9
          rw [hp, ← hacc9]; simp [unq]
        rw [e]
        exact hret _ _ _ (by assumption) (by assumption)
  · rw [ofE]
    have hp : p257 l = [] := by unfold p257; rw [if_neg (by assumption)]
    rw [← hp]
    exact hret _ _ _ (by assumption) (by assumption)
end
end Mine
end

-- A8
section
open PySem PySem.W PyProof.Rows PySem.Calls PyProof.Rows.LCg PyProof.Rows.LCt PySem.NumText
set_option maxRecDepth 100000
namespace Mine
def marksL : List Nat := [124, 109, 59, 97, 35, 38, 116, 120]
def othersL : List (List Nat) := [[], [38], [60], [62], [34], [13], [10], [9]]
def nameL : List Nat := [97, 34, 38, 60, 13]
/-- what stands between the brackets -/
def Inner (inner : List Nat) : Prop := ∃ mk o1 r1 o2 r2 ds, inner = [mk] ++ o1 ++ r1 ++ o2 ++ r2 ++ ds ++ [mk] ∧ mk ∈ marksL ∧ o1 ∈ othersL ∧ (r1 = [] ∨ r1 = [mk]) ∧ o2 ∈ othersL ∧ (r2 = [] ∨ r2 = [mk]) ∧ ds ≠ [] ∧ ds.length ≤ 10 ∧ AllDigits ds
theorem inner_eq (mk : Nat) (o1 r1 o2 r2 ds : List Nat) : mk :: (o1 ++ r1 ++ o2 ++ r2 ++ ds ++ [mk]) = [mk] ++ o1 ++ r1 ++ o2 ++ r2 ++ ds ++ [mk] := by simp
structure GoodR (hs : List Int) (nm inner : List Nat) : Prop where
  few : hs.length ≤ 2
  hands : ∀ h ∈ hs, 0 ≤ h ∧ h < 5
  short : nm.length ≤ 3
  name : ∀ c ∈ nm, c ∈ nameL
  inner : Inner inner
def ReplyOut (tl : List (Addr × Obj)) (r : Value) : Prop :=
  ∃ (D ah : Addr) (vs : List Value) (hs : List Int) (nm inner : List Nat) (k1 k2 : Nat) (t1 t2 : Tok), r = .ref D ∧ (D, listOf #[.ref ah, .str (S nm) t1, .str (S inner) t2] k1) ∈ tl ∧ (ah, listOf vs.toArray k2) ∈ tl ∧ IntsAre vs hs ∧ GoodR hs nm inner
theorem others_are {t0 t1 t2 t3 t4 t5 t6 t7 : Tok} : StrsAre [.str (Str.ofString "") t0, .str (Str.ofString "&") t1, .str (Str.ofString "<") t2, .str (Str.ofString ">") t3, .str (Str.ofString "\"") t4, .str (Str.ofString "\r") t5, .str (Str.ofString "\n") t6, .str (Str.ofString "\t") t7] (othersL.map S) := by
  have e : othersL.map S = [Str.ofString "", Str.ofString "&", Str.ofString "<", Str.ofString ">", Str.ofString "\"", Str.ofString "\r", Str.ofString "\n", Str.ofString "\t"] := by decide +kernel
  rw [e]
  exact .cons _ _ (.cons _ _ (.cons _ _ (.cons _ _ (.cons _ _ (.cons _ _ (.cons _ _ (.cons _ _ .nil)))))))
theorem others_len {o : List Nat} (h : o ∈ othersL) : o.length ≤ 1 := by
  simp only [othersL, List.mem_cons, List.not_mem_nil, or_false] at h
  rcases h with rfl | rfl | rfl | rfl | rfl | rfl | rfl | rfl <;> simp
theorem or_len {r : List Nat} {c : Nat} (h : r = [] ∨ r = [c]) : r.length ≤ 1 := by rcases h with rfl | rfl <;> simp
theorem lit_marks : cs (Str.ofString "|m;a#&tx") = marksL := by decide +kernel
theorem lit_name : cs (Str.ofString "a\"&<\r") = nameL := by decide +kernel

/-- def f, called upon vs, hands back a value and new objects tl -/
def TelD (w : World) (mean : ExcName → Option Value) (mg mb : Str → Option Value) (news : List (Addr × Obj)) (n : Nat) (f : Addr) (vs : List Value) (Out : List (Addr × Obj) → Value → Prop) : Prop :=
  ∀ (dp un : Nat) (gd : Option (List Code)) (cn : Str) (cs : Scope) (a : Addr) (ccd : Value) (cl : List (Str × Addr)) (outer : List Env) (A₀ : Around) (base h₀ : Heap) (L : Addr) (m : Str → Option Value) (s : Shared) (Q E : Value → Shared → Prop),
    Below A₀ base outer h₀ → Fr h₀ L s.heap m → (hd.heap_39 w.params).In h₀ → News h₀ L s.heap news → Top hd.view_39 (looseW hd.view_39 []) mean mg mb h₀ → cs.kind = .function →
    dp + n < recursionLimit → un + 8 * n + 64 < cLine →
    (∀ (r : Value) (tl : List (Addr × Obj)) (h' : Heap) (tk' : Nat), Fr h₀ L h' m → News h₀ L h' (tl ++ news) → (∀ p ∈ tl, ∀ q ∈ news, p.1 ≠ q.1) → Out tl r → Q r { s with heap := h', toks := tk' }) →
    wpAny (model Challenge.rw_pe0131_01.row.prog w) (ktrTop dp un gd cn cs L a ccd cl outer) (call (.ref f) vs) Q E s
theorem TelD.use {w : World} {mean : ExcName → Option Value} {mg mb : Str → Option Value} {n : Nat} {f : Addr} {vs : List Value} {Out : List (Addr × Obj) → Value → Prop} {news : List (Addr × Obj)} {dp un : Nat} {gd : Option (List Code)} {cn : Str} {cs : Scope} {a : Addr} {ccd : Value} {cl : List (Str × Addr)} {outer : List Env} {A₀ : Around} {base h₀ : Heap} {L : Addr} {m : Str → Option Value} {s : Shared} {Q E : Value → Shared → Prop}
    (C : TelD w mean mg mb news n f vs Out) (B : Below A₀ base outer h₀) (F : Fr h₀ L s.heap m) (X : (hd.heap_39 w.params).In h₀) (N : News h₀ L s.heap news) (T : Top hd.view_39 (looseW hd.view_39 []) mean mg mb h₀) (hk : cs.kind = .function)
    (hd : dp + n < recursionLimit) (hu : un + 8 * n + 64 < cLine)
    (ret : ∀ (r : Value) (tl : List (Addr × Obj)) (h' : Heap) (tk' : Nat), Fr h₀ L h' m → News h₀ L h' (tl ++ news) → (∀ p ∈ tl, ∀ q ∈ news, p.1 ≠ q.1) → Out tl r → Q r { s with heap := h', toks := tk' }) :
    wpAny (model Challenge.rw_pe0131_01.row.prog w) (ktrTop dp un gd cn cs L a ccd cl outer) (call (.ref f) vs) Q E s := C _ _ _ _ _ _ _ _ _ _ _ _ _ _ _ _ _ B F X N T hk hd hu ret

section
variable {prog : Program} {w : World} {A : Around} {E : Value → Shared → Prop} {s : Shared} {h₀ : Heap} {L d : Addr} {m : Str → Option Value} {env : Env} {news : List (Addr × Obj)} {value slice : Expr} {l : List Nat} {x y : Str} {t u : Tok} {Q : Value → Shared → Prop}
/-- a sign of a text at a place within it -/
theorem item_pick {i : Int} {v : Tok} (h0 : 0 ≤ i) (h1 : i < (cs x).length) (hl : (cs x).length ≤ 100000) (h : ∀ c t' k, c ∈ cs x → Q (.str (S [c]) t') { s with toks := k })
    (hs : subscripted slice false (.str x t) (.int i v) = operate [.str x t, .int i v] (getItem (.str x t) (.int i v))) (ht : ∀ r, letTemporaryGo value (.str x t) r = pure ()) :
    wpAny (model prog w) A (subscriptTail value slice (.str x t) (.int i v)) Q E s := by
  have e := S_of x
  rw [← e] at hs ht ⊢
  refine item_S h0 h1 hl (fun t' k => h _ t' k ?_) hs ht
  have hlt : i.toNat < x.cps.toList.length := by have := h1; show _ < (cs x).length; omega
  rw [List.getD_eq_getElem?_getD, List.getElem?_eq_getElem hlt]
  exact List.getElem_mem hlt
/-- a text of a written list at a place within it -/
theorem item_texts {D : Addr} {vs : List Value} {xs : List (List Nat)} {n : Nat} {i : Int} {v : Tok} (N : News h₀ L s.heap news) (hm : (D, listOf vs.toArray n) ∈ news) (hx : StrsAre vs (xs.map S)) (h0 : 0 ≤ i) (h1 : i < xs.length) (hl : xs.length ≤ 100000)
    (h : ∀ o t', o ∈ xs → Q (.str (S o) t') s)
    (hs : subscripted slice false (.ref D) (.int i v) = operate [.ref D, .int i v] (getItem (.ref D) (.int i v))) :
    wpAny (model prog w) A (subscriptTail value slice (.ref D) (.int i v)) Q E s := by
  have hL : s.heap.IsList D vs.toArray := ⟨_, (N _ hm).1, rfl, n, rfl⟩
  have hlt : i.toNat < xs.length := by omega
  obtain ⟨t', ht'⟩ := hx.at (j := i.toNat) (y := S (xs[i.toNat]'hlt)) (by simp [hlt])
  exact tail_any hL.typeIs slot_list_getitem.lookup (wpAny_getItem_list hL h0 (by omega) (by simpa using ht') (h _ t' (List.getElem_mem hlt))) hs
/-- a text told once or not at all -/
theorem mul01 {n : Int} {v : Tok} (h0 : 0 ≤ n) (h1 : n < 2) (hl : l.length ≤ 100000) (h : ∀ r t' k, r = [] ∨ r = l → Q (.str (S r) t') { s with toks := k }) : wpAny (model prog w) A (binaryOp .Mult (.str (S l) t) (.int n v)) Q E s := by
  refine SB.mul (mulOk_of 100000 2 (by rw [S_len]; exact hl) (by omega) (by omega) (by decide) (by decide)) fun t' k => ?_
  have hc : n = 0 ∨ n = 1 := by omega
  rcases hc with rfl | rfl
  · exact h [] t' k (.inl rfl)
  · exact h l t' k (.inr rfl)
/-- an int's text -/
theorem str_num {n : Int} {v : Tok} (h0 : 0 ≤ n) (h1 : n < 100000) (h : ∀ ds t' k, ds ≠ [] → ds.length ≤ 10 → AllDigits ds → Q (.str (S ds) t') { s with toks := k }) : wpAny (model prog w) A (call (.type "str") [.int n v]) Q E s := by
  have hlen := KT.len_num h0 (by omega : n < 10 ^ 10)
  obtain ⟨k, rfl⟩ := Int.eq_ofNat_of_zero_le h0
  have e : Str.ofString (toString ((k : Nat) : Int)) = S ((Nat.toDigits 10 k).map Char.toNat) := by
    rw [← KIN.signs_num k]; exact (S_of _).symm
  refine P.str_of_int ?_ ?_
  · have h3 : k < 2 ^ 17 := by omega
    have h2 : Nat.log2 k < 17 := by
      by_cases hk : k = 0
      · subst hk; decide
      · exact (Nat.log2_lt hk).mpr h3
    show Nat.log2 (Int.natAbs (k : Int)) < 1920
    rw [Int.natAbs_natCast]; omega
  · show Q (.str (Str.ofString (toString ((k : Nat) : Int))) s.toks) _
    rw [e] at hlen ⊢
    rw [S_len] at hlen
    refine h _ _ _ ?_ hlen ?_
    · intro e0
      have h5 := toDigits_len_ge 10 k
      rw [List.map_eq_nil_iff.mp e0] at h5
      exact absurd h5 (by decide)
    · intro c hc
      obtain ⟨ch, hch, e1⟩ := List.mem_map.mp hc
      have r := digit_range (Nat.isDigit_of_mem_toDigits (by decide) (by decide) hch)
      rw [← e1]
      exact r

theorem str_port {a : Int} {v : Tok} (h : ∀ ds t' k, ds ≠ [] → ds.length ≤ 10 → AllDigits ds → Q (.str (S ds) t') { s with toks := k }) : wpAny (model prog w) A (call (.type "str") [.int (7 + a.fmod 50000) v]) Q E s :=
  str_num (by have q := Int.fmod_nonneg_of_pos a (b := 50000) (by decide); omega) (by have q := Int.fmod_lt_of_pos a (b := 50000) (by decide); omega) h
theorem signs_of {al : List Nat} : ∀ {ys : List Value}, (∀ y ∈ ys, ∃ c u, c ∈ al ∧ y = .str (S [c]) u) → ∃ nm : List Nat, ys.length = nm.length ∧ (∀ c ∈ nm, c ∈ al) ∧ ∀ (i : Nat) (y : Value) (c : Nat), ys[i]? = some y → nm[i]? = some c → ∃ u, y = .str (S [c]) u
  | [], _ => ⟨[], rfl, by simp, by simp⟩
  | y :: ys, h => by
    obtain ⟨c, u, hc, rfl⟩ := h y (.head _)
    obtain ⟨nm, h1, h2, h3⟩ := signs_of (ys := ys) fun z hz => h z (.tail _ hz)
    refine ⟨c :: nm, by simp [h1], ?_, ?_⟩
    · intro d hd
      rcases List.mem_cons.mp hd with rfl | hd
      · exact hc
      · exact h2 d hd
    · intro i z d e1 e2
      cases i with
      | zero => simp at e1 e2; subst e1; subst e2; exact ⟨u, rfl⟩
      | succ i => exact h3 i z d (by simpa using e1) (by simpa using e2)
theorem join_signs {D : Addr} {ys : List Value} {al : List Nat} (N : News h₀ L s.heap news) (hm : (D, lst ys) ∈ news) (hx : x = S []) (hg : ∀ y ∈ ys, ∃ c u, c ∈ al ∧ y = .str (S [c]) u) (hl : ys.length ≤ 1000)
    (h : ∀ nm t' k, nm.length = ys.length → (∀ c ∈ nm, c ∈ al) → Q (.str (S nm) t') { s with toks := k }) : wpAny (model prog w) A (call (.builtin "str.join") [.str x t, .ref D]) Q E s := by
  obtain ⟨nm, h1, h2, h3⟩ := signs_of hg
  refine join_flat (fun c => [c]) N hm hx h1 h3 (by simp) (by omega) fun t' k => ?_
  have e : nm.flatMap (fun c => [c]) = nm := flat_nil nm
  rw [e]
  exact h nm t' k h1.symm h2
theorem pow5 {k : Int} (h0 : 0 ≤ k) (h4 : k < 4) (hq : ∀ d t' k', 1 ≤ d → d ≤ 125 → Q (.int d t') { s with toks := k' }) : wpAny (model prog w) A (binaryOp .Pow (.int 5 t) (.int k u)) Q E s := by
  refine pow_int_small h0 (by omega) (by decide) ?_
  have hc : k = 0 ∨ k = 1 ∨ k = 2 ∨ k = 3 := by omega
  rcases hc with rfl | rfl | rfl | rfl
  all_goals exact hq _ _ _ (by decide) (by decide)
theorem fdiv_small {a d : Int} (h1 : 1 ≤ d) (h2 : d ≤ 125) (h : ∀ t' k', Q (.int (a.fdiv d) t') { s with toks := k' }) : wpAny (model prog w) A (binaryOp .FloorDiv (.int a t) (.int d u)) Q E s :=
  floordiv_int (by omega) (h _ _) (Or.inl (PyProof.noPylong_small (by omega)))
theorem small_up {b : Int} (h0 : 0 ≤ b) (hb : b ≤ 100000) : Builtin.Range.small 0 b 1 = true := by
  unfold Builtin.Range.small
  rw [rangeSize_one]
  simp only [Builtin.Range.rangeFitsLong, Bool.and_eq_true, Bool.or_eq_true, decide_eq_true_eq, beq_iff_eq, show ((1 : Int) > 0) from by decide, if_true]
  split <;> omega
def IsHand (y : Value) : Prop := ∃ n u, 0 ≤ n ∧ n < 5 ∧ y = .int n u
theorem hands_of : ∀ {ys : List Value}, (∀ y ∈ ys, IsHand y) → ∃ hs : List Int, IntsAre ys hs ∧ hs.length = ys.length ∧ ∀ h ∈ hs, 0 ≤ h ∧ h < 5
  | [], _ => ⟨[], .nil, rfl, by simp⟩
  | y :: ys, h => by
    obtain ⟨n, u, h0, h5, rfl⟩ := h y (.head _)
    obtain ⟨hs, h1, h2, h3⟩ := hands_of (ys := ys) fun z hz => h z (.tail _ hz)
    refine ⟨n :: hs, .cons n u h1, by simp [h2], ?_⟩
    intro k hk
    rcases List.mem_cons.mp hk with rfl | hk
    · exact ⟨h0, h5⟩
    · exact h3 k hk
theorem apart_lt {a : Addr} : ∀ {news : List (Addr × Obj)}, AllLt a news → ∀ q ∈ news, a ≠ q.1
  | [], _, _, h => nomatch h
  | _ :: _, ⟨h, r⟩, q, hq => by
    rcases List.mem_cons.mp hq with rfl | hq
    · exact Nat.ne_of_gt h
    · exact apart_lt r q hq
theorem apart_off {a : Addr} : ∀ {news : List (Addr × Obj)}, Off1 a news → ∀ q ∈ news, a ≠ q.1
  | [], _, _, h => nomatch h
  | _ :: _, ⟨h, r⟩, q, hq => by
    rcases List.mem_cons.mp hq with rfl | hq
    · exact Ne.symm h
    · exact apart_off r q hq
theorem apart_L {a L : Addr} {news : List (Addr × Obj)} (h : ∀ p ∈ news, p.1 < L) (ha : L ≤ a) : ∀ q ∈ news, a ≠ q.1 := fun q hq => Nat.ne_of_gt (Nat.lt_of_lt_of_le (h q hq) ha)
theorem leN {a b : Nat} (h : a ≤ b) : a ≤ b := h
theorem apart_cons {p : Addr × Obj} {tl news : List (Addr × Obj)} (h : ∀ q ∈ news, p.1 ≠ q.1) (r : ∀ p ∈ tl, ∀ q ∈ news, p.1 ≠ q.1) : ∀ x ∈ p :: tl, ∀ q ∈ news, x.1 ≠ q.1 := by
  intro x hx
  rcases List.mem_cons.mp hx with rfl | hx
  · exact h
  · exact r x hx
theorem apart_nil {news : List (Addr × Obj)} : ∀ x ∈ ([] : List (Addr × Obj)), ∀ q ∈ news, x.1 ≠ q.1 := fun _ h => nomatch h
/-- over range(b), each element a pure value -/
theorem rng_pure {elt : Expr} {x : Str} {scope : Scope} {cl : List (Str × Addr)} {Q : Value → Shared → Prop} {r : Addr} {b : Int} {t u v : Tok} {s₁ : Shared} (g : Value → Prop) (hh : A.handled = none) (F : Fr h₀ L s₁.heap m) (N : News h₀ L s₁.heap news) (hr : IsRange s₁.heap r 0 b 1 t u v) (h0 : 0 ≤ b) (hb : b ≤ 100000)
    (step : ∀ (i : Nat) u I oI C oC D ys m₂ h tk (E' : Value → Shared → Prop), (i : Int) < b → NsObj oC m₂ → m₂ x = some (.int (i : Int) u) → Fr h₀ L h m → News h₀ L h ((I, oI) :: (C, oC) :: (D, lst ys) :: news) →
      wpAny (model prog w) A (eval elt (compEnvC scope cl C env)) (fun y s' => g y ∧ Still h₀ L m ((I, oI) :: (C, oC) :: (D, lst ys) :: news) { s₁ with heap := h, toks := tk } s') E' { s₁ with heap := h, toks := tk })
    (fin : ∀ D ys h tk, (ys.length : Int) = b → (∀ y ∈ ys, g y) → Fr h₀ L h m → News h₀ L h ((D, lst ys) :: news) → Off1 D news → Q (.ref D) { s₁ with heap := h, toks := tk }) :
    CompSrc prog w A h₀ L m env elt x scope cl (fun s₂ => FinE h₀ L m s₂ Q) (.ref r) s₁ := by
  obtain ⟨n, rfl⟩ := Int.eq_ofNat_of_zero_le h0
  refine CompSrc.range hh F N hr (n := n) ?_ ?_ (by rw [sizeLine_eq]; omega) fun h₂ => rest_pure (fun _ y => g y) ?_ trivial ?_
  · exact small_up h0 hb
  · rw [rangeSize_nat]; omega
  · intro i v I oI C oC D ys m₂ h tk E' hi hP hC hx F' N'
    obtain ⟨u, rfl⟩ := hP
    rw [Int.zero_add] at hx
    exact step i u I oI C oC D ys m₂ h tk E' (by omega) hC hx F' N'
  · intro ys hy hg D h tk F' N' o1
    refine fin D ys h tk (by omega) (fun y hm => ?_) F' N' o1
    obtain ⟨i, hi⟩ := List.getElem?_of_mem hm
    exact hg i y hi
end
end Mine
end

-- E2
section
open PySem PySem.W PyProof.Rows PySem.Calls PyProof.Rows.LCg PyProof.Rows.LCt
namespace Mine
set_option maxRecDepth 100000
set_option maxHeartbeats 4000000



local macro_rules | `(tactic| k_all) => `(tactic| assumption)
local macro_rules | `(tactic| walk_at $s:str) => `(tactic| k_extra $s)
theorem rules_E2 : True := by
  w_top off
  k_with_none
  (k_with "compareOp Eq str str" => ((k_here; (with_reducible refine eq_S ?_); (simp only [cs_S, lit257, lit229, litBQ, litQ, litE, Int.reduceToNat, List.take_succ_cons, List.take_zero, List.drop_succ_cons, List.drop_zero, Nat.reduceSub, decide_true, Bool.not_true, Bool.not_false]))))
  (k_with "compareOp NotEq str str" => ((k_here; (with_reducible refine ne_S ?_); (simp only [cs_S, lit257, lit229, litBQ, litQ, litE, Int.reduceToNat, List.take_succ_cons, List.take_zero, List.drop_succ_cons, List.drop_zero, Nat.reduceSub, decide_true, Bool.not_true, Bool.not_false]))))
  (k_with "binaryOp Add str str" => ((k_here; (with_reducible refine' add_S ?zzhsz ?_); (case zzhsz => k_dflt ((simp only [cs_S, lit257, lit229, litBQ, litQ, litE, litQB, litEnd, List.length_cons, List.length_nil, List.length_append]); omega)); intro zzt' zztk'; (simp only [cs_S, lit257, lit229, litBQ, litQ, litE, litQB, litEnd]))))
  (k_with "call builtin:len" => ((k_here; (with_reducible refine' len_S ?zzhl ?_); (case zzhl => k_dflt ((try simp only [List.length_cons, List.length_nil, List.length_append] at *); omega)); intro zzt' zztk')))
  (k_with "subscriptTail" => ((k_here; (with_reducible show wpAny _ _ (subscriptTail _ (Expr.Slice none (some _) none _) (Value.str _ _) (Value.ref _)) _ _ _); (with_reducible rename Fr _ _ _ _ => zzkF); (with_reducible rename News _ _ _ _ => zzkN); (refine' cut_ns (s := ⟨_, _, _, _, _⟩) zzkF zzkN ?zzh0 ?zzhk ?zzhl ?_ ?zzhs ?zzht); k_dflt ((case zzh0 => omega); (case zzhk => (try simp only [List.length_cons, List.length_nil, List.length_append] at *); omega); (case zzhl => (try simp only [List.length_cons, List.length_nil, List.length_append] at *); omega); (case zzhs => with_unfolding_all rfl); (case zzht => intro _; with_unfolding_all rfl)); intro zzh' zzt' zztk' zzF' zzN'; (try k_sweep))))
  (k_with "subscriptTail" => ((k_here; (with_reducible show wpAny _ _ (subscriptTail _ (Expr.Slice (some _) (some _) none _) (Value.str _ _) (Value.ref _)) _ _ _); (with_reducible rename Fr _ _ _ _ => zzkF); (with_reducible rename News _ _ _ _ => zzkN); (refine' cut_ss (s := ⟨_, _, _, _, _⟩) zzkF zzkN ?zzh0 ?zzhk ?zzhj ?zzhl ?_ ?zzhs ?zzht); k_dflt ((case zzh0 => omega); (case zzhk => omega); (case zzhj => (try simp only [List.length_cons, List.length_nil, List.length_append] at *); omega); (case zzhl => (try simp only [List.length_cons, List.length_nil, List.length_append] at *); omega); (case zzhs => with_unfolding_all rfl); (case zzht => intro _; with_unfolding_all rfl)); intro zzh' zzt' zztk' zzF' zzN'; (try k_sweep))))
  (k_with "subscriptTail" => ((k_here; (with_reducible show wpAny _ _ (subscriptTail _ _ (Value.str _ _) (Value.int _ _)) _ _ _); (with_reducible refine' item_S ?zzh0 ?zzh1 ?zzhl ?_ ?zzhs ?zzht); k_dflt ((case zzh0 => omega); (case zzh1 => (try simp only [List.length_cons, List.length_nil, List.length_append] at *); omega); (case zzhl => (try simp only [List.length_cons, List.length_nil, List.length_append] at *); omega); (case zzhs => with_unfolding_all rfl); (case zzht => intro _; with_unfolding_all rfl)); intro zzt' zztk')))
  (k_with "subscriptTail Name Name str int" => ((k_here; (with_reducible show wpAny _ _ (subscriptTail _ _ (Value.str _ _) (Value.int _ _)) _ _ _); (with_reducible refine' item_S ?zzh0 ?zzh1 ?zzhl ?_ ?zzhs ?zzht); k_dflt ((case zzh0 => omega); (case zzh1 => (try simp only [List.length_cons, List.length_nil, List.length_append] at *); omega); (case zzhl => (try simp only [List.length_cons, List.length_nil, List.length_append] at *); omega); (case zzhs => with_unfolding_all rfl); (case zzht => intro _; with_unfolding_all rfl)); intro zzt' zztk')))
  (k_with "subscriptTail Name BinOp str int" => ((k_here; (with_reducible show wpAny _ _ (subscriptTail _ _ (Value.str _ _) (Value.int _ _)) _ _ _); (with_reducible refine' item_S ?zzh0 ?zzh1 ?zzhl ?_ ?zzhs ?zzht); k_dflt ((case zzh0 => omega); (case zzh1 => (try simp only [List.length_cons, List.length_nil, List.length_append] at *); omega); (case zzhl => (try simp only [List.length_cons, List.length_nil, List.length_append] at *); omega); (case zzhs => with_unfolding_all rfl); (case zzht => intro _; with_unfolding_all rfl)); intro zzt' zztk')))
  (k_with "subscriptTail Name Constant str int" => ((k_here; (with_reducible show wpAny _ _ (subscriptTail _ _ (Value.str _ _) (Value.int _ _)) _ _ _); (with_reducible refine' item_S ?zzh0 ?zzh1 ?zzhl ?_ ?zzhs ?zzht); k_dflt ((case zzh0 => omega); (case zzh1 => (try simp only [List.length_cons, List.length_nil, List.length_append] at *); omega); (case zzhl => (try simp only [List.length_cons, List.length_nil, List.length_append] at *); omega); (case zzhs => with_unfolding_all rfl); (case zzht => intro _; with_unfolding_all rfl)); intro zzt' zztk')))
  (k_with "subscriptTail Constant BinOp str int" => ((k_here; (with_reducible show wpAny _ _ (subscriptTail _ _ (Value.str _ _) (Value.int _ _)) _ _ _); (with_reducible refine' item_S ?zzh0 ?zzh1 ?zzhl ?_ ?zzhs ?zzht); k_dflt ((case zzh0 => omega); (case zzh1 => (try simp only [List.length_cons, List.length_nil, List.length_append] at *); omega); (case zzhl => (try simp only [List.length_cons, List.length_nil, List.length_append] at *); omega); (case zzhs => with_unfolding_all rfl); (case zzht => intro _; with_unfolding_all rfl)); intro zzt' zztk')))
  (k_with "eval ListComp" => ((k_here; (with_reducible rename Fr _ _ _ _ => zzkF); (with_reducible refine' LCg.ListComp_U zzkF ?zzc1 ?zzc2 ?zzc3 ?zzc4 ?zzc5 ?_ ?zzc6); k_dflt ((case zzc1 => with_unfolding_all rfl); (case zzc2 => decide); (case zzc3 => rfl); (case zzc4 => decide); (case zzc5 => rfl); (case zzc6 => intro _; rfl)))))
  (k_with "CompSrc" => ((k_here; refine hold_in ?_)))
  (k_with "subscriptTail" => ((k_here; (with_reducible show wpAny _ _ (subscriptTail (Expr.Constant _ _ _) _ (Value.str _ _) (Value.int _ _)) _ _ _); (with_reducible refine' item_pick ?zzh0 ?zzh1 ?zzhl ?_ ?zzhs ?zzht); k_dflt ((case zzh0 => exact Int.fmod_nonneg_of_pos _ (by decide)); (case zzh1 => simp only [lit_marks, lit_name]; (exact Int.fmod_lt_of_pos _ (by decide))); (case zzhl => simp only [lit_marks, lit_name]; decide); (case zzhs => with_unfolding_all rfl); (case zzht => intro _; with_unfolding_all rfl)); intro zzc' zzt' zztk' zzhc'; (simp only [lit_marks, lit_name] at zzhc'))))
  (k_with "binaryOp Pow int int" => ((k_here; (with_reducible refine' pow5 ?zzh0 ?zzh4 ?_); k_dflt ((case zzh0 => omega); (case zzh4 => omega)); intro zzd' zzt' zztk' zzhd1' zzhd2')))
  (k_with "binaryOp FloorDiv int int" => ((k_here; (with_reducible refine' fdiv_small ?zzh1 ?zzh2 ?_); k_dflt ((case zzh1 => assumption); (case zzh2 => assumption)); intro zzt' zztk')))
  (k_with "subscriptTail" => ((k_here; (with_reducible show wpAny _ _ (subscriptTail _ _ (Value.ref _) (Value.int _ _)) _ _ _); (with_reducible rename News _ _ _ _ => zzkN); (with_reducible refine' item_texts (xs := othersL) zzkN ?zzm ?zzhx ?zzh0 ?zzh1 ?zzhl ?_ ?zzhs); k_dflt ((case zzm => k_mem); (case zzhx => exact others_are); (case zzh0 => exact Int.fmod_nonneg_of_pos _ (by decide)); (case zzh1 => exact Int.fmod_lt_of_pos _ (by decide)); (case zzhl => decide); (case zzhs => with_unfolding_all rfl)); intro zzo' zzt' zzho'; have zzhol' := others_len zzho')))
  (k_with "binaryOp Mult str int" => ((k_here; (with_reducible refine' mul01 ?zzh0 ?zzh1 ?zzhl ?_); k_dflt ((case zzh0 => exact Int.fmod_nonneg_of_pos _ (by decide)); (case zzh1 => exact Int.fmod_lt_of_pos _ (by decide)); (case zzhl => (simp only [List.length_cons, List.length_nil]; omega))); intro zzr' zzt' zztk' zzhr'; have zzhrl' := or_len zzhr')))
  (k_with "call type:str" => ((k_here; (with_reducible refine' str_port ?_); intro zzds' zzt' zztk' zzhds1' zzhds2' zzhds3')))
  (k_with "call builtin:str.join" => ((k_here; (with_reducible rename News _ _ _ _ => zzkN); (with_reducible refine' join_signs zzkN ?zzm ?zzx ?zzg ?zzl ?_); k_dflt ((case zzm => k_mem); (case zzx => decide +kernel); (case zzg => assumption); (case zzl => omega)); intro zznm' zzt' zztk' zzhn1' zzhn2')))
  trivial

section
variable (w : World) (mean : ExcName → Option Value) (mg mb : Str → Option Value) (news : List (Addr × Obj)) (l : List Nat) (t u : Tok)
theorem reply (x : Int) : TelD w mean mg mb news 1 112 [.int x t] ReplyOut := by
  unfold TelD
  k_fill
  intros; rename_i hret
  refine wpAny_call ?_
  (k_dflt (refine' code_defC ?k1 ?k2 ?k3 ?k4 ?k5 ?kA ?kF ?kK ?k6 ?k7 ?k8 ?k9 ?kB ?kD ?_ ?c2 ?c3 ?c4; (case kA => exact rfl); (case kF => exact rfl); (case kK => assumption); (case k1 => k_asm); (case k2 => k_asm); (case k3 => k_asm); (case k4 => k_asm); (case k5 => k_asm); (case k6 => k_is); (case k7 => k_is); (case k8 => ktr_room); (case k9 => first | exact BindsTo.of_eq rfl); (case kB => exact rfl); (case kD => decide +kernel); (case c2 => exact rfl); (case c3 => exact rfl); (case c4 => exact rfl); k_whole; intro g' L' h' tk' cells' FG' F' N' Y' B' X' T' l1; (try k_lt l1); k_cells Y'; (try simp only [List.cons_append, List.nil_append] at N'); (try dsimp only); (try k_lift B'); (try k_fold)))
  have hcA : ∀ p ∈ news, p.1 ≠ L' + 1 := fun p hp => Nat.ne_of_lt (Nat.lt_succ_of_lt (l1 p hp))
  have hcB : ∀ p ∈ news, p.1 ≠ L' + 1 + 1 := fun p hp => Nat.ne_of_lt (Nat.lt_succ_of_lt (Nat.lt_succ_of_lt (l1 p hp)))
  k_steps
  unfold Hold
  (rename IsRange _ _ _ _ _ _ _ _ => R0); (rename Fr _ _ _ _ => F0); (rename News _ _ _ _ => N0)
  refine' rng_pure (fun y => ∃ c u, c ∈ nameL ∧ y = .str (S [c]) u) ?hh F0 N0 R0 ?h0 ?hb ?step ?fin
  case hh => rfl
  case h0 => exact Int.fmod_nonneg_of_pos _ (by decide)
  case hb => have := Int.fmod_lt_of_pos ((x.fdiv 75).fdiv 2048) (b := 4) (by decide); omega
  case step =>
    intro i9 u9 I9 oI9 C9 oC9 D9 ys9 m9 H9 tk9 E9 hi9 hC9 hx9 F9 N9
    have hi10 : (i9 : Int) < 4 := Int.lt_of_lt_of_le hi9 (by have := Int.fmod_lt_of_pos ((x.fdiv 75).fdiv 2048) (b := 4) (by decide); omega)
    clear F0 N0
    k_steps
    all_goals first | assumption | exact ⟨_, _, rfl, by assumption, by assumption⟩
  case fin =>
    intro D9 ys9 H9 tk9 hlen9 hg9 F9 N9 o9
    have hlen10 : (ys9.length : Int) < 4 := hlen9 ▸ Int.fmod_lt_of_pos ((x.fdiv 75).fdiv 2048) (b := 4) (by decide)
    clear F0 N0
    (try dsimp only)
    k_steps
    unfold Hold
    (rename IsRange _ _ _ _ _ _ _ _ => R1); (rename Fr _ _ _ _ => F1); (rename News _ _ _ _ => N1)
    refine' rng_pure IsHand ?hh F1 N1 R1 ?h0 ?hb ?step ?fin
    case hh => rfl
    case h0 => exact Int.fmod_nonneg_of_pos _ (by decide)
    case hb => have := Int.fmod_lt_of_pos x (b := 3) (by decide); omega
    case step =>
      intro i8 u8 I8 oI8 C8 oC8 D8 ys8 m8 H8 tk8 E8 hi8 hC8 hx8 F8 N8
      have hi10 : (i8 : Int) < 4 := Int.lt_of_lt_of_le hi8 (by have := Int.fmod_lt_of_pos x (b := 3) (by decide); omega)
      clear F1 N1
      k_steps
      · exact ⟨_, _, Int.fmod_nonneg_of_pos _ (by decide), Int.fmod_lt_of_pos _ (by decide), rfl⟩
      · exact ⟨_, _, rfl, by assumption, by assumption⟩
    case fin =>
      intro D8 ys8 H8 tk8 hlen8 hg8 F8 N8 o8
      have hlen11 : (ys8.length : Int) < 3 := hlen8 ▸ Int.fmod_lt_of_pos x (b := 3) (by decide)
      clear F1 N1
      (try dsimp only)
      k_steps
      obtain ⟨hs, hI, hL, hH⟩ := hands_of hg8
      refine hret _ [_, _, _, _, _, _, _] _ _ (by assumption) (by assumption) ?_ ⟨_, _, _, hs, _, _, _, _, _, _, rfl, .head _, .tail _ (.head _), hI, ?_⟩
      · refine apart_cons (apart_L l1 (by refine leN ?_; (try dsimp only); omega)) (apart_cons ?_ (apart_cons ?_ (apart_cons (apart_L l1 (by refine leN ?_; (try dsimp only); omega)) (apart_cons (apart_L l1 (by refine leN ?_; (try dsimp only); omega)) (apart_cons (apart_L l1 (by refine leN ?_; (try dsimp only); omega)) (apart_cons (apart_L l1 (by refine leN ?_; (try dsimp only); omega)) apart_nil))))))
        · exact fun q hq => apart_off o8 q (.tail _ (.tail _ (.tail _ (.tail _ (.tail _ hq)))))
        · exact fun q hq => apart_off o9 q (.tail _ (.tail _ (.tail _ (.tail _ hq))))
      · exact ⟨by omega, hH, by omega, by assumption, ⟨_, _, _, _, _, _, inner_eq _ _ _ _ _ _, by assumption, by assumption, by assumption, by assumption, by assumption, by assumption, by assumption, by assumption⟩⟩
end
end Mine
end

-- P1
section
open PySem PySem.W PyProof.Rows PySem.Calls PySem.NumText
set_option maxRecDepth 100000
namespace Mine

/-- the pieces of l between the signs c -/
def segs (c : Nat) : List Nat → List (List Nat)
  | [] => [[]]
  | d :: r => if d = c then [] :: segs c r else match segs c r with
    | [] => [[d]]
    | p :: ps => (d :: p) :: ps
theorem segs_ne (c : Nat) : ∀ l, segs c l ≠ []
  | [] => by simp [segs]
  | d :: r => by
    unfold segs
    split
    · simp
    · split <;> simp
theorem segs_one {c : Nat} : ∀ {l : List Nat} {p : List Nat}, segs c l = [p] → l = p ∧ c ∉ p
  | [], p, h => by simp [segs] at h; subst h; simp
  | d :: r, p, h => by
    unfold segs at h
    split at h
    · rename_i e
      simp only [List.cons.injEq] at h
      exact absurd h.2 (segs_ne c r)
    · rename_i ne
      split at h
      · rename_i e; exact absurd e (segs_ne c r)
      · rename_i p' ps e
        simp only [List.cons.injEq] at h
        obtain ⟨rfl, rfl⟩ := h
        obtain ⟨rfl, hn⟩ := segs_one e
        exact ⟨rfl, by simp [hn, Ne.symm ne]⟩
theorem segs_more {c : Nat} : ∀ {l : List Nat} {p q : List Nat} {qs : List (List Nat)}, segs c l = p :: q :: qs → ∃ r, l = p ++ c :: r ∧ c ∉ p ∧ segs c r = q :: qs
  | [], p, q, qs, h => by simp [segs] at h
  | d :: r, p, q, qs, h => by
    unfold segs at h
    split at h
    · rename_i e
      simp only [List.cons.injEq] at h
      obtain ⟨rfl, h⟩ := h
      exact ⟨r, by simp [e], by simp, h⟩
    · rename_i ne
      split at h
      · rename_i e; exact absurd e (segs_ne c r)
      · rename_i p' ps e
        simp only [List.cons.injEq] at h
        obtain ⟨rfl, rfl⟩ := h
        obtain ⟨r', rfl, hn, e'⟩ := segs_more e
        exact ⟨r', rfl, by simp [hn, Ne.symm ne], e'⟩

/-- the places of c in l -/
def places (c : Nat) : Nat → List Nat → List Nat
  | _, [] => []
  | i, d :: r => if d = c then i :: places c (i + 1) r else places c (i + 1) r
theorem places_free {c : Nat} : ∀ {p : List Nat} {i : Nat} {r : List Nat}, c ∉ p → places c i (p ++ r) = places c (i + p.length) r
  | [], i, r, _ => rfl
  | d :: p, i, r, h => by
    rw [List.cons_append, places, if_neg (by intro e; exact h (by simp [e])), places_free (by intro q; exact h (by simp [q]))]
    congr 1
    simp only [List.length_cons]; omega
theorem places_len (c : Nat) : ∀ (l : List Nat) (i : Nat), (places c i l).length + 1 = (segs c l).length
  | [], _ => rfl
  | d :: r, i => by
    unfold places segs
    split
    · simp [places_len c r (i + 1)]
    · rw [places_len c r (i + 1)]
      split
      · rename_i e; exact absurd e (segs_ne c r)
      · rename_i e; rw [e]; simp
theorem places_range (c : Nat) : ∀ (l : List Nat) (i : Nat) (full : List Nat), full.drop i = l → places c i l = (List.range' i l.length).filter fun k => full.getD k 0 == c
  | [], i, full, _ => rfl
  | d :: r, i, full, h => by
    have hlt : i < full.length := by
      rcases Nat.lt_or_ge i full.length with q | q
      · exact q
      · rw [List.drop_eq_nil_of_le q] at h; cases h
    have hd := drop_getD hlt
    rw [h] at hd
    simp only [List.cons.injEq] at hd
    rw [places, List.length_cons, List.range'_succ, List.filter_cons, ← hd.1, places_range c r (i + 1) full hd.2.symm]
    by_cases e : d = c <;> simp [e]
theorem kept_places (c : Nat) (l : List Nat) : kept (fun k => l.getD k 0 == c) l.length = places c 0 l := by
  rw [places_range c l 0 l rfl, kept, List.range_eq_range']

/-- five pieces -/
theorem five {c : Nat} {l a0 a1 a2 a3 a4 : List Nat} (h : segs c l = [a0, a1, a2, a3, a4]) :
    l = a0 ++ c :: (a1 ++ c :: (a2 ++ c :: (a3 ++ c :: a4))) ∧ c ∉ a0 ∧ c ∉ a1 ∧ c ∉ a2 ∧ c ∉ a3 ∧ c ∉ a4 := by
  obtain ⟨r1, rfl, n0, h⟩ := segs_more h
  obtain ⟨r2, rfl, n1, h⟩ := segs_more h
  obtain ⟨r3, rfl, n2, h⟩ := segs_more h
  obtain ⟨r4, rfl, n3, h⟩ := segs_more h
  obtain ⟨rfl, n4⟩ := segs_one h
  exact ⟨rfl, n0, n1, n2, n3, n4⟩
theorem five_places {c : Nat} {a0 a1 a2 a3 a4 : List Nat} (n0 : c ∉ a0) (n1 : c ∉ a1) (n2 : c ∉ a2) (n3 : c ∉ a3) (n4 : c ∉ a4) :
    places c 0 (a0 ++ c :: (a1 ++ c :: (a2 ++ c :: (a3 ++ c :: a4)))) =
      [a0.length, a0.length + 1 + a1.length, a0.length + 1 + a1.length + 1 + a2.length, a0.length + 1 + a1.length + 1 + a2.length + 1 + a3.length] := by
  have e : ∀ i : Nat, places c i a4 = [] := fun i => by have := places_free (i := i) (r := []) n4; simpa [places] using this
  rw [places_free n0, places, if_pos rfl, places_free n1, places, if_pos rfl, places_free n2, places, if_pos rfl, places_free n3, places, if_pos rfl, e]
  simp only [Nat.zero_add]
theorem five_cut {c : Nat} {a0 a1 a2 a3 a4 : List Nat} {i j : Nat} (hi : i = a0.length + 1 + a1.length + 1 + a2.length + 1) (hj : j = a0.length + 1 + a1.length + 1 + a2.length + 1 + a3.length) :
    ((a0 ++ c :: (a1 ++ c :: (a2 ++ c :: (a3 ++ c :: a4)))).drop i).take (j - i) = a3 := by
  have e : a0 ++ c :: (a1 ++ c :: (a2 ++ c :: (a3 ++ c :: a4))) = (a0 ++ [c] ++ a1 ++ [c] ++ a2 ++ [c]) ++ (a3 ++ c :: a4) := by simp
  rw [e, List.drop_left' (by simp; omega), List.take_left' (by omega)]
/-- the last sign -/
theorem last_app {l : List Nat} {a : Nat} (i : Nat) (hi : i + 1 = (l ++ [a]).length) : (l ++ [a]).getD i 0 = a := by
  simp at hi; subst hi; simp
theorem five_last {c : Nat} {l a0 a1 a2 a3 a4 : List Nat} (h : segs c l = [a0, a1, a2, a3, a4]) : l.getD (l.length - 1) 0 = c ↔ a4 = [] := by
  obtain ⟨rfl, _, _, _, _, n4⟩ := five h
  rcases List.eq_nil_or_concat a4 with rfl | ⟨z, d, rfl⟩
  · have e : a0 ++ c :: (a1 ++ c :: (a2 ++ c :: (a3 ++ [c]))) = (a0 ++ [c] ++ a1 ++ [c] ++ a2 ++ [c] ++ a3) ++ [c] := by simp
    rw [e, last_app _ (by simp; omega)]; simp
  · have e : a0 ++ c :: (a1 ++ c :: (a2 ++ c :: (a3 ++ c :: (z ++ [d])))) = (a0 ++ [c] ++ a1 ++ [c] ++ a2 ++ [c] ++ a3 ++ [c] ++ z) ++ [d] := by simp
    rw [List.concat_eq_append] at n4 ⊢
    rw [e, last_app _ (by simp; omega)]
    have : d ≠ c := fun q => n4 (by simp [q])
    simp [this]

/- the spelling -/
theorem spell_app (hs : List Int) : ∀ a b : List Nat, spell hs (a ++ b) = spell hs a ++ spell hs b := by
  induction hs with
  | nil => intro a b; rfl
  | cons h hs ih => intro a b; simp only [spell, List.foldl_cons, List.flatMap_append] at ih ⊢; exact ih _ _
theorem spell_cons (h : Int) (hs : List Int) (l : List Nat) : spell (h :: hs) l = spell hs (l.flatMap (tab (tabs h))) := rfl
/-- the signs that a table rewrites -/
def told : List Nat := [38, 60, 62, 34, 13, 10, 9]
theorem tabs_keys (h : Int) : ∀ p ∈ tabs h, p.1 ∈ told := by
  unfold tabs
  repeat' split
  all_goals decide
theorem tab_free {c : Nat} : ∀ {al : List (Nat × List Nat)}, (∀ p ∈ al, p.1 ≠ c) → tab al c = [c]
  | [], _ => rfl
  | p :: al, h => by
    have h1 : (c == p.1) = false := by simpa using Ne.symm (h p (.head _))
    have h2 := tab_free fun q hq => h q (.tail _ hq)
    unfold tab at h2 ⊢
    rw [List.lookup_cons, h1]
    exact h2
theorem tab_other {c : Nat} (hc : c ∉ told) (h : Int) : tab (tabs h) c = [c] :=
  tab_free fun p hp e => hc (e ▸ tabs_keys h p hp)
theorem flat_other {l : List Nat} (hl : ∀ c ∈ l, c ∉ told) (h : Int) : l.flatMap (tab (tabs h)) = l := by
  induction l with
  | nil => rfl
  | cons c l ih => rw [List.flatMap_cons, tab_other (hl c (.head _)) h, ih fun d hd => hl d (.tail _ hd)]; rfl
theorem spell_other {l : List Nat} (hl : ∀ c ∈ l, c ∉ told) : ∀ hs : List Int, spell hs l = l
  | [] => rfl
  | h :: hs => by rw [spell_cons, flat_other hl h]; exact spell_other hl hs
end Mine
end

-- P2
section
open PySem PySem.W PyProof.Rows PySem.Calls PySem.NumText
set_option maxRecDepth 100000
namespace Mine
def alph : List Nat := [38, 97, 109, 112, 59, 108, 116, 103, 113, 117, 111, 35, 120, 68, 65, 60, 62, 34, 13, 10, 9, 124, 32, 48, 49, 50, 51, 52, 53, 54, 55, 56, 57]
theorem alph_tab (h : Int) : ∀ c ∈ alph, ∀ d ∈ tab (tabs h) c, d ∈ alph := by
  unfold tabs
  repeat' split
  all_goals decide
theorem alph_spell : ∀ (hs : List Int) {l : List Nat}, (∀ c ∈ l, c ∈ alph) → ∀ c ∈ spell hs l, c ∈ alph
  | [], _, hl => hl
  | h :: hs, l, hl => by
    rw [spell_cons]
    refine alph_spell hs fun c hc => ?_
    obtain ⟨d, hd, hc⟩ := List.mem_flatMap.mp hc
    exact alph_tab h d (hl d hd) c hc
theorem alph_digit {c : Nat} (h : 48 ≤ c ∧ c ≤ 57) : c ∈ alph := by
  have hc : c ∈ List.range' 48 10 := List.mem_range'_1.mpr ⟨h.1, Nat.lt_succ_of_le h.2⟩
  exact (by decide : ∀ d ∈ List.range' 48 10, d ∈ alph) c hc
theorem alph_marks : ∀ c ∈ marksL, c ∈ alph := by decide
theorem alph_others : ∀ o ∈ othersL, ∀ c ∈ o, c ∈ alph := by decide
theorem alph_name : ∀ c ∈ nameL, c ∈ alph := by decide
theorem alph_inner {inner : List Nat} (h : Inner inner) : ∀ c ∈ inner, c ∈ alph := by
  obtain ⟨mk, o1, r1, o2, r2, ds, rfl, hm, h1, hr1, h2, hr2, _, _, hd⟩ := h
  intro c hc
  have hmk := alph_marks mk hm
  have hr : ∀ r : List Nat, (r = [] ∨ r = [mk]) → c ∈ r → c ∈ alph := by
    rintro r (rfl | rfl) hc
    · cases hc
    · rw [List.mem_singleton.mp hc]; exact hmk
  simp only [List.mem_append, List.mem_singleton] at hc
  rcases hc with (((((rfl | hc) | hc) | hc) | hc) | hc) | rfl
  · exact hmk
  · exact alph_others o1 h1 c hc
  · exact hr r1 hr1 hc
  · exact alph_others o2 h2 c hc
  · exact hr r2 hr2 hc
  · exact alph_digit (hd c hc)
  · exact hmk
theorem inner_len {inner : List Nat} (h : Inner inner) : 2 ≤ inner.length ∧ inner.length ≤ 16 := by
  obtain ⟨mk, o1, r1, o2, r2, ds, rfl, hm, h1, hr1, h2, hr2, hne, hl, hd⟩ := h
  have a1 := others_len h1
  have a2 := others_len h2
  have a3 := or_len hr1
  have a4 := or_len hr2
  simp only [List.length_append, List.length_singleton]
  omega
/- the mark, spelled -/
theorem tab_mark (h : Int) : ∀ c ∈ marksL, ∃ z, tab (tabs h) c = c :: z := by
  have e : ∀ c ∈ marksL, (tab (tabs h) c).head? = some c := by
    unfold tabs
    repeat' split
    all_goals decide
  intro c hc
  have q := e c hc
  cases ht : tab (tabs h) c with
  | nil => rw [ht] at q; cases q
  | cons d z => rw [ht] at q; cases q; exact ⟨z, rfl⟩
theorem spell_mark : ∀ (hs : List Int) {c : Nat}, c ∈ marksL → ∃ z, spell hs [c] = c :: z
  | [], c, _ => ⟨[], rfl⟩
  | h :: hs, c, hc => by
    obtain ⟨z, hz⟩ := tab_mark h c hc
    obtain ⟨y, hy⟩ := spell_mark hs hc
    refine ⟨y ++ spell hs z, ?_⟩
    rw [spell_cons, List.flatMap_singleton, hz, show c :: z = [c] ++ z from rfl, spell_app, hy]; rfl
theorem tab_amp (h : Int) : tab (tabs h) 38 = [38, 97, 109, 112] ++ [59] := by
  unfold tabs
  repeat' split
  all_goals rfl
theorem spell_mark_last (hs : List Int) {c : Nat} (hc : c ∈ marksL) : spell hs [c] = [c] ∨ ∃ z d, spell hs [c] = z ++ [d] ∧ d ≠ c := by
  by_cases h : c = 38
  · subst h
    cases hs with
    | nil => exact .inl rfl
    | cons h hs =>
      refine .inr ⟨spell hs [38, 97, 109, 112], 59, ?_, by decide⟩
      rw [spell_cons, List.flatMap_singleton, tab_amp, spell_app, spell_other (l := [59]) (by decide)]
  · refine .inl (spell_other ?_ hs)
    intro d hd
    rw [List.mem_singleton.mp hd]
    exact (by decide : ∀ c ∈ marksL, ¬ c = 38 → c ∉ told) c hc h
theorem digits_told {ds : List Nat} (hd : AllDigits ds) : ∀ c ∈ ds, c ∉ told := by
  intro c hc
  have := hd c hc
  simp only [told, List.mem_cons, List.not_mem_nil, or_false, not_or]
  omega
theorem mark_digit : ∀ c ∈ marksL, ¬ (48 ≤ c ∧ c ≤ 57) := by decide
/-- between the brackets, as written: its first sign; and, where its last sign is the first one, a figure before it -/
theorem inner_spelled {inner : List Nat} (hs : List Int) (h : Inner inner) : ∃ mk z, mk ∈ marksL ∧ spell hs inner = mk :: z ∧
    ((spell hs inner).getD ((spell hs inner).length - 1) 0 = mk → ∃ y d, spell hs inner = y ++ [d] ++ [mk] ∧ 48 ≤ d ∧ d ≤ 57) := by
  obtain ⟨mk, o1, r1, o2, r2, ds, rfl, hm, h1, hr1, h2, hr2, hne, hl, hd⟩ := h
  obtain ⟨z, hz⟩ := spell_mark hs hm
  refine ⟨mk, z ++ spell hs (o1 ++ r1 ++ o2 ++ r2 ++ ds ++ [mk]), hm, ?_, ?_⟩
  · rw [show [mk] ++ o1 ++ r1 ++ o2 ++ r2 ++ ds ++ [mk] = [mk] ++ (o1 ++ r1 ++ o2 ++ r2 ++ ds ++ [mk]) by simp, spell_app, hz]; rfl
  · intro hlast
    obtain ⟨ds', d, rfl⟩ : ∃ ds' d, ds = ds' ++ [d] := by
      rcases List.eq_nil_or_concat ds with e | ⟨a, b, e⟩
      · exact absurd e hne
      · exact ⟨a, b, by rw [e, List.concat_eq_append]⟩
    have hdd := hd d (by simp)
    have e : spell hs ([mk] ++ o1 ++ r1 ++ o2 ++ r2 ++ (ds' ++ [d]) ++ [mk]) = spell hs ([mk] ++ o1 ++ r1 ++ o2 ++ r2) ++ ds' ++ [d] ++ spell hs [mk] := by
      rw [spell_app, spell_app, spell_other (digits_told hd)]; simp
    rcases spell_mark_last hs hm with q | ⟨z', d', q, hne'⟩
    · exact ⟨_, d, by rw [e, q], hdd.1, hdd.2⟩
    · exfalso
      rw [e, q, ← List.append_assoc] at hlast
      rw [last_app _ (by simp; omega)] at hlast
      exact hne' hlast
/-- the piece before the last mark ends with a figure -/
theorem port_last {B y a0 a1 a2 a3 : List Nat} {c d : Nat} (h : segs c B = [a0, a1, a2, a3, []]) (hB : B = y ++ [d] ++ [c]) (hd : d ≠ c) : ∃ z, a3 = z ++ [d] := by
  obtain ⟨e, _⟩ := five h
  rw [hB, show a0 ++ c :: (a1 ++ c :: (a2 ++ c :: (a3 ++ [c]))) = (a0 ++ [c] ++ a1 ++ [c] ++ a2 ++ [c] ++ a3) ++ [c] by simp] at e
  have e' := List.append_cancel_right e
  rcases List.eq_nil_or_concat a3 with rfl | ⟨z, d', rfl⟩
  · rw [List.append_nil] at e'
    have := (List.append_inj' e' rfl).2
    simp only [List.cons.injEq, and_true] at this
    exact absurd this hd
  · rw [List.concat_eq_append] at e' ⊢
    rw [← List.append_assoc] at e'
    have := (List.append_inj' e' rfl).2
    simp only [List.cons.injEq, and_true] at this
    exact ⟨z, by rw [this]⟩

/- the name -/
def bad (h : Int) : Bool := h == 1 || h == 2 || h == 4
def dbl (l : List Nat) : List Nat := rep1 34 [34, 34] l
theorem dbl_cons (c : Nat) (l : List Nat) : dbl (c :: l) = (if c = 34 then [34, 34] else [c]) ++ dbl l := by simp [dbl, rep1]
theorem unq_dbl (r : List Nat) : ∀ z : List Nat, unq (dbl z ++ 34 :: 32 :: r) = z
  | [] => unq_end (by intro r' e; simp at e)
  | c :: z => by
    rw [dbl_cons]
    by_cases h : c = 34
    · subst h
      rw [if_pos rfl]
      show unq (34 :: 34 :: (dbl z ++ 34 :: 32 :: r)) = _
      rw [unq_two, unq_dbl r z]
    · rw [if_neg h]
      show unq (c :: (dbl z ++ 34 :: 32 :: r)) = _
      rw [unq_ne h, unq_dbl r z]
theorem dbl_len (l : List Nat) : (dbl l).length ≤ 2 * l.length := rep1_len 34 [34, 34] 2 (by decide) (by decide) l
theorem dbl_mem {l : List Nat} {c : Nat} (h : c ∈ dbl l) : c ∈ l := by
  obtain ⟨d, hd, hc⟩ := List.mem_flatMap.mp h
  split at hc
  · rename_i e; simp only [List.mem_cons, List.not_mem_nil, or_false, or_self] at hc; rw [hc, ← e]; exact hd
  · rw [List.mem_singleton.mp hc]; exact hd
theorem good_hand {h : Int} (h0 : 0 ≤ h) (h5 : h < 5) (hb : bad h = false) : h = 0 ∨ h = 3 := by
  have : h = 0 ∨ h = 1 ∨ h = 2 ∨ h = 3 ∨ h = 4 := by omega
  rcases this with rfl | rfl | rfl | rfl | rfl
  · exact .inl rfl
  · cases hb
  · cases hb
  · exact .inr rfl
  · cases hb
theorem tab_quote {h : Int} (hg : h = 0 ∨ h = 3) : tab (tabs h) 34 = [34] := by rcases hg with rfl | rfl <;> rfl
theorem tab_val {al : List (Nat × List Nat)} {d c : Nat} (h : c ∈ tab al d) : c = d ∨ ∃ p ∈ al, c ∈ p.2 := by
  induction al with
  | nil => exact .inl (List.mem_singleton.mp h)
  | cons p al ih =>
    unfold tab at h ih
    rw [List.lookup_cons] at h
    cases q : d == p.1 with
    | true => rw [q] at h; exact .inr ⟨p, .head _, h⟩
    | false =>
      rw [q] at h
      rcases ih h with e | ⟨p', hp', hc⟩
      · exact .inl e
      · exact .inr ⟨p', .tail _ hp', hc⟩
theorem tabs_val (h : Int) : ∀ p ∈ tabs h, (34 : Nat) ∉ p.2 := by
  unfold tabs
  repeat' split
  all_goals decide
theorem flat_dbl {h : Int} (hg : h = 0 ∨ h = 3) (l : List Nat) : (dbl l).flatMap (tab (tabs h)) = dbl (l.flatMap (tab (tabs h))) := by
  induction l with
  | nil => rfl
  | cons c l ih =>
    have e : ∀ a b : List Nat, dbl (a ++ b) = dbl a ++ dbl b := rep1_app 34 [34, 34]
    rw [dbl_cons, List.flatMap_append, ih, List.flatMap_cons, e]
    congr 1
    by_cases hc : c = 34
    · subst hc
      rw [if_pos rfl, tab_quote hg]
      simp only [List.flatMap_cons, List.flatMap_nil, tab_quote hg]; rfl
    · rw [if_neg hc, List.flatMap_singleton]
      refine (rep1_free 34 _ _ ?_).symm
      intro hm
      rcases tab_val hm with e | ⟨p, hp, hq⟩
      · exact hc e.symm
      · exact tabs_val h p hp hq
theorem spell_dbl : ∀ {hs : List Int}, (∀ h ∈ hs, 0 ≤ h ∧ h < 5) → hs.any bad = false → ∀ l : List Nat, spell hs (dbl l) = dbl (spell hs l) ∧ spell hs [34] = [34]
  | [], _, _, l => ⟨rfl, rfl⟩
  | h :: hs, hr, hb, l => by
    rw [List.any_cons, Bool.or_eq_false_iff] at hb
    have hg := good_hand (hr h (.head _)).1 (hr h (.head _)).2 hb.1
    have ih := spell_dbl (fun x hx => hr x (.tail _ hx)) hb.2
    exact ⟨by rw [spell_cons, flat_dbl hg, (ih _).1]; rfl, by rw [spell_cons, List.flatMap_singleton, tab_quote hg, (ih []).2]⟩
theorem tab_bad {h : Int} (hb : bad h = true) : tab (tabs h) 34 = [38] ++ [113, 117, 111, 116, 59] := by
  unfold bad at hb
  simp only [Bool.or_eq_true, beq_iff_eq] at hb
  rcases hb with (rfl | rfl) | rfl <;> rfl
theorem spell_bad : ∀ {hs : List Int}, (∀ h ∈ hs, 0 ≤ h ∧ h < 5) → hs.any bad = true → ∃ z, spell hs [34] = 38 :: z
  | [], _, hb => by cases hb
  | h :: hs, hr, hb => by
    rw [List.any_cons] at hb
    cases q : bad h with
    | true =>
      obtain ⟨z, hz⟩ := spell_mark hs (c := 38) (by decide)
      exact ⟨_, by rw [spell_cons, List.flatMap_singleton, tab_bad q, spell_app, hz, List.cons_append]⟩
    | false =>
      rw [q, Bool.false_or] at hb
      have hg := good_hand (hr h (.head _)).1 (hr h (.head _)).2 q
      obtain ⟨z, hz⟩ := spell_bad (fun x hx => hr x (.tail _ hx)) hb
      exact ⟨z, by rw [spell_cons, List.flatMap_singleton, tab_quote hg, hz]⟩

/-- the reply's text -/
def T0 (nm inner : List Nat) : List Nat := [32, 34] ++ dbl nm ++ [34, 32, 40] ++ inner ++ [41, 32, 97, 116, 32, 108, 97, 115, 116]
def front (nm : List Nat) : List Nat := [32, 34] ++ dbl nm ++ [34, 32]
theorem T0_eq (nm inner : List Nat) : T0 nm inner = front nm ++ [40] ++ inner ++ [41, 32, 97, 116, 32, 108, 97, 115, 116] := by simp [T0, front]
def tail9 : List Nat := [41, 32, 97, 116, 32, 108, 97, 115, 116]
theorem spell_T0 (hs : List Int) (nm inner : List Nat) : spell hs (T0 nm inner) = spell hs (front nm) ++ 40 :: (spell hs inner ++ tail9) := by
  rw [T0_eq, spell_app, spell_app, spell_app, spell_other (l := [40]) (by decide), spell_other (l := [41, 32, 97, 116, 32, 108, 97, 115, 116]) (by decide)]
  simp [tail9]
theorem alph_front {nm : List Nat} (h : ∀ c ∈ nm, c ∈ nameL) : ∀ c ∈ front nm, c ∈ alph := by
  intro c hc
  simp only [front, List.mem_append] at hc
  rcases hc with (hc | hc) | hc
  · exact (by decide : ∀ c ∈ ([32, 34] : List Nat), c ∈ alph) c hc
  · exact alph_name c (h c (dbl_mem hc))
  · exact (by decide : ∀ c ∈ ([34, 32] : List Nat), c ∈ alph) c hc
theorem name_told {hs : List Int} (hr : ∀ h ∈ hs, 0 ≤ h ∧ h < 5) (nm inner : List Nat) : p257 (spell hs (T0 nm inner)) = if hs.any bad then [] else spell hs nm := by
  have e : T0 nm inner = [32] ++ ([34] ++ (dbl nm ++ ([34] ++ ([32] ++ ([40] ++ (inner ++ tail9)))))) := by simp [T0, tail9]
  have e32 : spell hs [32] = [32] := spell_other (by decide) hs
  cases hb : hs.any bad with
  | true =>
    obtain ⟨z, hz⟩ := spell_bad hr hb
    rw [e, spell_app, spell_app, e32, hz, if_pos rfl]
    unfold p257
    rw [if_neg (by simp)]
  | false =>
    have q := spell_dbl hr hb
    rw [e, spell_app, spell_app, spell_app, spell_app, spell_app, e32, (q nm).2, (q nm).1, if_neg Bool.false_ne_true]
    unfold p257
    rw [if_pos (by simp)]
    exact unq_dbl _ _
/-- the answer -/
def portDat (p : List Nat) : Dat := if p.dropWhile blank = [] ∨ ¬ (p.dropWhile blank).all (fun c => decide (48 ≤ c ∧ c ≤ 57)) = true then .str (Str.ofString "ValueError") else .tuple [.str (Str.ofString "::1"), .int ((digitsVal (p.dropWhile blank) : Nat) : Int)]
def rest229 (c : Nat) (B T : List Nat) : List Dat :=
  match segs c B with
  | [_, _, _, p, []] => [portDat p]
  | _ => [.str (Str.ofString "error_proto"), .str (S ([50, 50, 57] ++ T))]
def ans (hs : List Int) (nm inner : List Nat) : List Dat :=
  [.str (S (spell hs (T0 nm inner))), .str (S (if hs.any bad then [] else spell hs nm))] ++ rest229 ((spell hs inner).getD 0 0) (spell hs inner) (spell hs (T0 nm inner))
theorem rest_no {c : Nat} {B T : List Nat} (h : (segs c B).length ≠ 5) : rest229 c B T = [.str (Str.ofString "error_proto"), .str (S ([50, 50, 57] ++ T))] := by
  unfold rest229
  split
  · rename_i e; rw [e] at h; exact absurd rfl h
  · rfl
theorem rest_more {c : Nat} {B T a0 a1 a2 a3 a4 : List Nat} (h : segs c B = [a0, a1, a2, a3, a4]) (h4 : a4 ≠ []) : rest229 c B T = [.str (Str.ofString "error_proto"), .str (S ([50, 50, 57] ++ T))] := by
  unfold rest229
  split
  · rename_i e; rw [h] at e; simp only [List.cons.injEq, and_true] at e; exact absurd e.2.2.2.2 h4
  · rfl
theorem rest_port {c : Nat} {B T a0 a1 a2 a3 : List Nat} (h : segs c B = [a0, a1, a2, a3, []]) : rest229 c B T = [portDat a3] := by
  unfold rest229
  rw [h]
end Mine
end

-- A9
section
open PySem PySem.W PyProof.Rows PySem.Calls PyProof.Rows.LCg PyProof.Rows.LCt PySem.NumText
set_option maxRecDepth 100000
namespace Mine
section
variable {prog : Program} {w : World} {A : Around} {E : Value → Shared → Prop} {s : Shared} {h₀ : Heap} {L d : Addr} {m : Str → Option Value} {env : Env} {news : List (Addr × Obj)} {value slice : Expr} {l : List Nat} {x y : Str} {t u : Tok} {Q : Value → Shared → Prop}
theorem litQQ : Str.ofString "\"\"" = S [34, 34] := by decide +kernel
theorem litQ1 : Str.ofString "\"" = S [34] := by decide +kernel
theorem replace_dbl {k : Nat} (hl : l.length ≤ 100000) (h : ∀ t' k', Q (.str (S (dbl l)) t') { s with toks := k' }) :
    wpAny (model prog w) A (call (.builtin "str.replace") [.str (S l) t, .str (Str.ofString "\"") (k + 1), .str (Str.ofString "\"\"") (k + 1 + 1)]) Q E s := by
  rw [litQ1, litQQ]
  refine SC.replaceW (Nat.succ_ne_zero _) (Nat.succ_ne_zero _) (Nat.ne_of_lt (Nat.lt_succ_self _)) (beq_eq_false_iff_ne.mpr fun e => ?_) (by rw [S_len]; omega) (by rw [S_len]; decide) fun t' k' => ?_
  · have := S_inj e; cases this
  · rw [replace_S]; exact h t' k'
theorem datAll_of {ok : Dat → Bool} : ∀ {ys : List Value}, (∀ y ∈ ys, ∃ d, DatIn [] y d ∧ ok d = true) → ∃ ds, DatAll [] ys ds ∧ (∀ d ∈ ds, ok d = true) ∧ (ds = [] ↔ ys = [])
  | [], _ => ⟨[], .nil, by simp, by simp⟩
  | y :: ys, h => by
    obtain ⟨d, h1, h2⟩ := h y (.head _)
    obtain ⟨ds, h3, h4, _⟩ := datAll_of (ys := ys) fun z hz => h z (.tail _ hz)
    refine ⟨d :: ds, .cons h1 h3, ?_, by simp⟩
    intro e he
    rcases List.mem_cons.mp he with rfl | he
    · exact h2
    · exact h4 e he
theorem eq_none {D F : Addr} {ys : List Value} {o : Obj} {k : Nat} (N : News h₀ L s.heap news) (hD : (D, lst ys) ∈ news) (hF : (F, o) ∈ news) (hc : o.cls = .type "list") (hd : o.data = .seq #[] k)
    (hy : ∀ y ∈ ys, ∃ d, DatIn [] y d ∧ kqdOk 8 d = true) (hu : A.units + 64 < cLine) (h : Q (.bool (decide (ys = []))) s) : wpAny (model prog w) A (compareOp .Eq (.ref D) (.ref F)) Q E s := by
  obtain ⟨ds, h1, h2, h3⟩ := datAll_of hy
  refine kqd_eq (ds := ds) (es := []) N hD rfl rfl h1 (by simp) hF hc hd .nil (n₂ := []) (by simp) h2 (by simp) hu ?_
  have e : ∀ i : Decidable (ds = []), @decide (ds = []) i = decide (ys = []) := fun i => by by_cases q : ys = [] <;> simp [q, h3]
  rw [e]; exact h
theorem ne_none {D F : Addr} {ys : List Value} {o : Obj} {k : Nat} (N : News h₀ L s.heap news) (hD : (D, lst ys) ∈ news) (hF : (F, o) ∈ news) (hc : o.cls = .type "list") (hd : o.data = .seq #[] k)
    (hy : ∀ y ∈ ys, ∃ d, DatIn [] y d ∧ kqdOk 8 d = true) (hu : A.units + 64 < cLine) (h : Q (.bool (!decide (ys = []))) s) : wpAny (model prog w) A (compareOp .NotEq (.ref D) (.ref F)) Q E s := by
  obtain ⟨ds, h1, h2, h3⟩ := datAll_of hy
  refine kqd_ne (ds := ds) (es := []) N hD rfl rfl h1 (by simp) hF hc hd .nil (n₂ := []) (by simp) h2 (by simp) hu ?_
  have e : ∀ i : Decidable (ds = []), @decide (ds = []) i = decide (ys = []) := fun i => by by_cases q : ys = [] <;> simp [q, h3]
  rw [e]; exact h
/-- blank or not, over the alphabet -/
theorem space_alph : ∀ c ∈ alph, Unicode.isSpace c = blank c := by decide +kernel
theorem drop_congr {p q : Nat → Bool} : ∀ {l : List Nat}, (∀ c ∈ l, p c = q c) → l.dropWhile p = l.dropWhile q
  | [], _ => rfl
  | c :: l, h => by rw [List.dropWhile_cons, List.dropWhile_cons, h c (.head _), drop_congr fun d hd => h d (.tail _ hd)]
theorem takeWhile_len (p : Nat → Bool) : ∀ l : List Nat, l.drop (l.takeWhile p).length = l.dropWhile p
  | [] => rfl
  | c :: l => by
    rw [List.takeWhile_cons, List.dropWhile_cons]
    cases p c with
    | true => simp [takeWhile_len p l]
    | false => rfl
theorem drop_last {f : Nat → Bool} {dg : Nat} (h : f dg = false) : ∀ p : List Nat, ∃ q, (p ++ [dg]).dropWhile f = q ++ [dg]
  | [] => ⟨[], by simp [h]⟩
  | c :: p => by
    rw [List.cons_append, List.dropWhile_cons]
    cases f c with
    | true => exact drop_last h p
    | false => exact ⟨c :: p, rfl⟩
theorem strip_port {p : List Nat} {dg : Nat} (ha : ∀ c ∈ p ++ [dg], c ∈ alph) (hd : 48 ≤ dg ∧ dg ≤ 57) : Txt.strip (S (p ++ [dg])) = S ((p ++ [dg]).dropWhile blank) := by
  have hsd : Unicode.isSpace dg = false := by rw [space_alph dg (ha dg (by simp))]; exact blank_of (by omega)
  have ec : (p ++ [dg]).dropWhile Unicode.isSpace = (p ++ [dg]).dropWhile blank := drop_congr fun c hc => space_alph c (ha c hc)
  obtain ⟨q, hq⟩ := drop_last hsd p
  have elo : stripLo Unicode.isSpace true (S (p ++ [dg])) = ((p ++ [dg]).takeWhile Unicode.isSpace).length := rfl
  have ed := takeWhile_len Unicode.isSpace (p ++ [dg])
  have ehi : stripHi Unicode.isSpace true (S (p ++ [dg])) ((p ++ [dg]).takeWhile Unicode.isSpace).length = (p ++ [dg]).length := by
    show (S (p ++ [dg])).length - (((p ++ [dg]).drop _).reverse.takeWhile Unicode.isSpace).length = _
    rw [ed, hq, List.reverse_append, List.reverse_singleton, List.singleton_append, List.takeWhile_cons, hsd, S_len]
    rfl
  unfold Txt.strip Txt.stripBy
  split
  · rename_i hs
    unfold stripSame at hs
    rw [Bool.and_eq_true] at hs
    have h0 : ((p ++ [dg]).takeWhile Unicode.isSpace).length = 0 := by rw [← elo]; exact beq_iff_eq.mp hs.1
    rw [h0, List.drop_zero] at ed
    rw [← ec, ← ed]
  · unfold PySem.stripped
    rw [elo, ehi, ← ec, ← ed]
    show (⟨((p ++ [dg]).toArray.extract _ _)⟩ : Str) = S _
    unfold S
    congr 1
    apply Array.toList_inj.mp
    rw [Array.toList_extract, List.extract_eq_take_drop]
    exact List.take_of_length_le (by simp)
end
end Mine
end

-- A10
section
open PySem PySem.W PyProof.Rows PySem.Calls PyProof.Rows.LCg PyProof.Rows.LCt PySem.NumText
set_option maxRecDepth 100000
namespace Mine
theorem ints_get : ∀ {vs : List Value} {hs : List Int}, IntsAre vs hs → ∀ {i : Nat} {v : Value}, vs[i]? = some v → ∃ h u, hs[i]? = some h ∧ v = .int h u
  | _, _, .nil, i, v, e => by simp at e
  | _, _, .cons n t r, i, v, e => by
    cases i with
    | zero => simp at e; exact ⟨n, t, by simp, e.symm⟩
    | succ i => obtain ⟨h, u, h1, h2⟩ := ints_get r (i := i) (v := v) (by simpa using e); exact ⟨h, u, by simpa using h1, h2⟩
theorem ints_len : ∀ {vs : List Value} {hs : List Int}, IntsAre vs hs → vs.length = hs.length
  | _, _, .nil => rfl
  | _, _, .cons _ _ r => by simp [ints_len r]
theorem kept_nil {p : Nat → Bool} {n : Nat} : (kept p n).length = 0 ↔ ∀ i, i < n → p i = false := by
  rw [List.length_eq_zero_iff, kept, List.filter_eq_nil_iff]
  simp
theorem any_getD {p : Int → Bool} {hs : List Int} : hs.any p = false ↔ ∀ i, i < hs.length → p (hs.getD i 0) = false := by
  rw [List.any_eq_false]
  constructor
  · intro h i hi
    have := h hs[i] (List.getElem_mem hi)
    rw [List.getD_eq_getElem?_getD, List.getElem?_eq_getElem hi]
    simpa using this
  · intro h x hx
    obtain ⟨i, hi, rfl⟩ := List.getElem_of_mem hx
    have := h i hi
    rw [List.getD_eq_getElem?_getD, List.getElem?_eq_getElem hi] at this
    simpa using this
section
variable {prog : Program} {w : World} {A : Around} {E : Value → Shared → Prop} {s : Shared} {h₀ : Heap} {L d : Addr} {m : Str → Option Value} {env : Env} {news : List (Addr × Obj)} {Q : Value → Shared → Prop}
/-- over a list of hands, with a test -/
theorem hands_src {ct elt : Expr} {x : Str} {scope : Scope} {cl : List (Str × Addr)} {ah : Addr} {vs : List Value} {k : Nat} {hs : List Int} {s₁ : Shared} (p : Int → Bool) (hh : A.handled = none) (F : Fr h₀ L s₁.heap m) (N : News h₀ L s₁.heap news) (hm : (ah, listOf vs.toArray k) ∈ news) (hi : IntsAre vs hs) (hn : hs.length ≤ 2)
    (test : ∀ i u I oI C oC D ys m₂ h tk (E' : Value → Shared → Prop), i ∈ hs → NsObj oC m₂ → m₂ x = some (.int i u) → Fr h₀ L h m → News h₀ L h ((I, oI) :: (C, oC) :: (D, lst ys) :: news) →
      wpAny (model prog w) A (isTrue ct (compEnvC scope cl C env) (eval ct (compEnvC scope cl C env))) (fun ok s' => ok = p i ∧ Still h₀ L m ((I, oI) :: (C, oC) :: (D, lst ys) :: news) { s₁ with heap := h, toks := tk } s') E' { s₁ with heap := h, toks := tk })
    (step : ∀ i u I oI C oC D ys m₂ h tk (E' : Value → Shared → Prop), i ∈ hs → NsObj oC m₂ → m₂ x = some (.int i u) → Fr h₀ L h m → News h₀ L h ((I, oI) :: (C, oC) :: (D, lst ys) :: news) → p i = true →
      wpAny (model prog w) A (eval elt (compEnvC scope cl C env)) (fun y s' => (∃ n u, y = .int n u) ∧ Still h₀ L m ((I, oI) :: (C, oC) :: (D, lst ys) :: news) { s₁ with heap := h, toks := tk } s') E' { s₁ with heap := h, toks := tk })
    (fin : ∀ D ys h tk, (ys = [] ↔ hs.any p = false) → (∀ y ∈ ys, ∃ d, DatIn [] y d ∧ kqdOk 8 d = true) → Fr h₀ L h m → News h₀ L h ((D, lst ys) :: news) → Off1 D news → Q (.ref D) { s₁ with heap := h, toks := tk }) :
    CompSrcT prog w A h₀ L m env ct elt x scope cl (fun s₂ => FinE h₀ L m s₂ Q) (.ref ah) s₁ := by
  have hvl := ints_len hi
  refine CompSrcT.ledger hh F N hm (by rw [sizeLine_eq]; simp; omega) fun g => ?_
  have key : ∀ i v, vs.toArray[i]? = some v → ∃ h u, h ∈ hs ∧ hs.getD i 0 = h ∧ v = .int h u := by
    intro i v e
    obtain ⟨h, u, h1, h2⟩ := ints_get hi (i := i) (v := v) (by simpa using e)
    exact ⟨h, u, List.mem_of_getElem? h1, by rw [List.getD_eq_getElem?_getD, h1]; rfl, h2⟩
  refine rest_pureT (fun i => p (hs.getD i 0)) (fun _ y => ∃ n u, y = .int n u) ?_ ?_ (.inr ⟨_, hm, rfl, _, rfl⟩) ?_
  · intro i v I oI C oC D ys m₂ h tk E' hlt hP hC hx F' N'
    obtain ⟨n, u, h1, h2, rfl⟩ := key i v hP
    rw [h2]
    exact test n u I oI C oC D ys m₂ h tk E' h1 hC hx F' N'
  · intro i v I oI C oC D ys m₂ h tk E' hlt hP hC hx F' N' hp
    obtain ⟨n, u, h1, h2, rfl⟩ := key i v hP
    rw [h2] at hp
    exact step n u I oI C oC D ys m₂ h tk E' h1 hC hx F' N' hp
  · intro ys hy hg D h tk F' N' o1
    have hsz : vs.toArray.size = hs.length := by simp [hvl]
    refine fin D ys h tk ?_ ?_ F' N' o1
    · rw [← List.length_eq_zero_iff, hy, kept_nil, any_getD, hsz]
    · intro y hm'
      obtain ⟨j, hj⟩ := List.getElem?_of_mem hm'
      have hlt : j < (kept (fun i => p (hs.getD i 0)) vs.toArray.size).length := by rw [← hy]; exact (List.getElem?_eq_some_iff.mp hj).1
      obtain ⟨n, u, rfl⟩ := hg j _ y (List.getElem?_eq_getElem hlt) hj
      exact ⟨_, .int n u, rfl⟩
/-- the places of a sign in a text, as ints -/
theorem ints_of_kept {p : Nat → Bool} {n : Nat} {ys : List Value} : ys.length = (kept p n).length → (∀ (j i : Nat) (y : Value), (kept p n)[j]? = some i → ys[j]? = some y → ∃ u, y = .int ((i : Nat) : Int) u) → IntsAre ys ((kept p n).map fun (i : Nat) => (i : Int)) := by
  generalize kept p n = ks
  induction ks generalizing ys with
  | nil => intro h _; rw [List.length_eq_zero_iff.mp h]; exact .nil
  | cons k ks ih =>
    intro h hg
    cases ys with
    | nil => cases h
    | cons y ys =>
      obtain ⟨u, rfl⟩ := hg 0 k y rfl rfl
      exact .cons _ _ (ih (by simpa using h) fun j i y e1 e2 => hg (j + 1) i y (by simpa using e1) (by simpa using e2))
theorem marks_src {ct elt : Expr} {x z : Str} {scope : Scope} {cl : List (Str × Addr)} {Q : Flow → Shared → Prop} {r : Addr} {t u v : Tok} {n : Nat} {s₁ : Shared} (p : Nat → Bool) (hh : A.handled = none) (F : Fr h₀ L s₁.heap m) (N : News h₀ L s₁.heap news) (hr : IsRange s₁.heap r 0 (n : Int) 1 t u v) (hn : n ≤ 100000)
    (test : ∀ (i : Nat) u I oI C oC D ys m₂ h tk (E' : Value → Shared → Prop), i < n → NsObj oC m₂ → m₂ x = some (.int (i : Int) u) → Fr h₀ L h m → News h₀ L h ((I, oI) :: (C, oC) :: (D, lst ys) :: news) →
      wpAny (model prog w) A (isTrue ct (compEnvC scope cl C env) (eval ct (compEnvC scope cl C env))) (fun ok s' => ok = p i ∧ Still h₀ L m ((I, oI) :: (C, oC) :: (D, lst ys) :: news) { s₁ with heap := h, toks := tk } s') E' { s₁ with heap := h, toks := tk })
    (step : ∀ (i : Nat) u I oI C oC D ys m₂ h tk (E' : Value → Shared → Prop), i < n → NsObj oC m₂ → m₂ x = some (.int (i : Int) u) → Fr h₀ L h m → News h₀ L h ((I, oI) :: (C, oC) :: (D, lst ys) :: news) →
      wpAny (model prog w) A (eval elt (compEnvC scope cl C env)) (fun y s' => (∃ u, y = .int (i : Int) u) ∧ Still h₀ L m ((I, oI) :: (C, oC) :: (D, lst ys) :: news) { s₁ with heap := h, toks := tk } s') E' { s₁ with heap := h, toks := tk })
    (fin : ∀ D ys h tk, IntsAre ys ((kept p n).map fun (i : Nat) => (i : Int)) → Fr h₀ L h (fun y => if y = z then some (.ref D) else m y) → News h₀ L h ((D, lst ys) :: news) → Off1 D news → Q .next { s₁ with heap := h, toks := tk }) :
    CompSrcT prog w A h₀ L m env ct elt x scope cl (fun s₂ => FinA h₀ L m s₂ z Q) (.ref r) s₁ := by
  refine CompSrcT.range hh F N hr (n := n) (small_up (by omega) (by omega)) (by rw [rangeSize_nat]; omega) (by rw [sizeLine_eq]; omega) fun h₂ => rest_pureT p (fun i y => ∃ u, y = .int (i : Int) u) ?_ ?_ trivial ?_
  · intro i v I oI C oC D ys m₂ h tk E' hi hP hC hx F' N'
    obtain ⟨u, rfl⟩ := hP
    rw [Int.zero_add] at hx
    exact test i u I oI C oC D ys m₂ h tk E' hi hC hx F' N'
  · intro i v I oI C oC D ys m₂ h tk E' hi hP hC hx F' N' hp
    obtain ⟨u, rfl⟩ := hP
    rw [Int.zero_add] at hx
    exact step i u I oI C oC D ys m₂ h tk E' hi hC hx F' N'
  · intro ys hy hg D h tk F' N' o1
    exact fin D ys h tk (ints_of_kept hy hg) F' N' o1
end
end Mine
end

-- P3
section
open PySem PySem.W PyProof.Rows PySem.Calls PyProof.Rows.LCg PyProof.Rows.LCt PySem.NumText
set_option maxRecDepth 100000
namespace Mine
section
variable {prog : Program} {w : World} {A : Around} {E : Value → Shared → Prop} {s : Shared} {h₀ : Heap} {L d : Addr} {news : List (Addr × Obj)} {Q : Value → Shared → Prop}
theorem eq_none2 {D F : Addr} {ys : List Value} {o : Obj} {k : Nat} (N : News h₀ L s.heap news) (hD : (D, lst ys) ∈ news) (hF : (F, o) ∈ news) (hc : o.cls = .type "list") (hd : o.data = .seq #[] k)
    (hu : A.units + 64 < cLine) (h : Q (.bool (decide (ys = []))) s) : wpAny (model prog w) A (compareOp .Eq (.ref D) (.ref F)) Q E s := by
  cases ys with
  | nil => exact eq_none N hD hF hc hd (by simp) hu h
  | cons y ys =>
    have h1 : s.heap.IsList D (y :: ys).toArray := ⟨_, (N _ hD).1, rfl, _, rfl⟩
    have h2 : s.heap.IsList F #[] := ⟨_, (N _ hF).1, hc, _, hd⟩
    exact PySem.SeqAt.eq_list_lengthsAt h1 h2 (by simp) (by omega) (by simpa using h)
end
/-- the port's piece: signs of the alphabet, a figure last -/
theorem port_facts {hs : List Int} {inner a0 a1 a2 a3 : List Nat} (hi : Inner inner) (h : segs ((spell hs inner).getD 0 0) (spell hs inner) = [a0, a1, a2, a3, []]) :
    (∀ c ∈ a3, c ∈ alph) ∧ ∃ z d, a3 = z ++ [d] ∧ 48 ≤ d ∧ d ≤ 57 := by
  obtain ⟨mk, z, hmk, hz, hl⟩ := inner_spelled hs hi
  have hc : (spell hs inner).getD 0 0 = mk := by rw [hz]; rfl
  have ha := alph_spell hs (alph_inner hi)
  rw [hc] at h
  have hlast := hl ((five_last h).mpr rfl)
  obtain ⟨y, dg, hB, h1, h2⟩ := hlast
  refine ⟨fun c hc' => ha c ?_, ?_⟩
  · obtain ⟨e, _⟩ := five h
    rw [e]; simp [hc']
  · obtain ⟨z', hz'⟩ := port_last h hB (fun e => mark_digit mk hmk (e ▸ ⟨h1, h2⟩))
    exact ⟨z', dg, hz', h1, h2⟩
theorem port_strip {a3 : List Nat} (ha : ∀ c ∈ a3, c ∈ alph) (hz : ∃ z d, a3 = z ++ [d] ∧ 48 ≤ d ∧ d ≤ 57) : Txt.strip (S a3) = S (a3.dropWhile blank) := by
  obtain ⟨z, d, rfl, h1, h2⟩ := hz
  exact strip_port ha ⟨h1, h2⟩
theorem port_ne {a3 : List Nat} (hz : ∃ z d, a3 = z ++ [d] ∧ 48 ≤ d ∧ d ≤ 57) : a3.dropWhile blank ≠ [] := by
  obtain ⟨z, d, rfl, h1, h2⟩ := hz
  obtain ⟨q, hq⟩ := drop_last (f := blank) (dg := d) (blank_of (by omega)) z
  rw [hq]; simp
theorem port_len (a3 : List Nat) : (a3.dropWhile blank).length ≤ a3.length := len_dropWhile _ _
theorem port_cut {c : Nat} {B a0 a1 a2 a3 : List Nat} (h : segs c B = [a0, a1, a2, a3, []]) {i j : Nat} (hi : i = a0.length + 1 + a1.length + 1 + a2.length + 1) (hj : j = a0.length + 1 + a1.length + 1 + a2.length + 1 + a3.length) : (B.drop i).take (j - i) = a3 := by
  obtain ⟨e, _⟩ := five h
  rw [e]; exact five_cut hi hj
theorem lit_digits : Str.ofString "0123456789" = S [48, 49, 50, 51, 52, 53, 54, 55, 56, 57] := by decide +kernel
theorem digit_in (c : Nat) : decide (c ∈ [48, 49, 50, 51, 52, 53, 54, 55, 56, 57]) = decide (48 ≤ c ∧ c ≤ 57) := by
  have h : c ∈ List.range' 48 10 ↔ 48 ≤ c ∧ c ≤ 57 := List.mem_range'_1.trans (and_congr_right fun _ => Nat.lt_succ_iff)
  exact decide_eq_decide.mpr h
/-- the port's piece, told -/
theorem portDat_num {a3 : List Nat} (hz : ∃ z d, a3 = z ++ [d] ∧ 48 ≤ d ∧ d ≤ 57) (hd : AllDigits (a3.dropWhile blank)) : portDat a3 = .tuple [.str (Str.ofString "::1"), .int ((digitsVal (a3.dropWhile blank) : Nat) : Int)] := by
  unfold portDat
  rw [if_neg]
  rintro (h | h)
  · exact port_ne hz h
  · exact h (List.all_eq_true.mpr fun c hc => decide_eq_true (hd c hc))
theorem portDat_bad {a3 : List Nat} (hd : ¬ AllDigits (a3.dropWhile blank)) : portDat a3 = .str (Str.ofString "ValueError") := by
  unfold portDat
  rw [if_pos]
  refine .inr fun h => hd fun c hc => ?_
  exact of_decide_eq_true (List.all_eq_true.mp h c hc)
end Mine
end

-- F1
section
open PySem PySem.W PyProof.Rows PySem.Calls PyProof.Rows.LCg PyProof.Rows.LCt PySem.NumText
namespace Mine
set_option maxRecDepth 100000
set_option maxHeartbeats 4000000


theorem neN {a b : Nat} (h : a ≠ b) : a ≠ b := h
local macro_rules | `(tactic| k_all) => `(tactic| assumption)
local macro_rules | `(tactic| k_updF) => `(tactic| (refine' UpdF.tail ?p (UpdF.tail ?q (UpdF.tail ?r (UpdF.head ?a))); (case a => assumption); (case p => refine neN ?_; (try dsimp only); omega); (case q => refine neN ?_; (try dsimp only); omega); (case r => assumption)))

theorem any_bad (i : Int) : ([1, 2, 4].any fun x => x == i) = bad i := by
  unfold bad
  simp only [List.any_cons, List.any_nil, Bool.or_false]
  rw [Bool.beq_comm (a := (1 : Int)), Bool.beq_comm (a := (2 : Int)), Bool.beq_comm (a := (4 : Int)), Bool.or_assoc]
theorem sign_eq (a b : Nat) : decide ([a] = [b]) = (a == b) := by
  by_cases h : a = b <;> simp [h]
theorem places_le (c : Nat) : ∀ (l : List Nat) (i : Nat), (places c i l).length ≤ l.length
  | [], _ => Nat.le_refl _
  | d :: r, i => by
    have := places_le c r (i + 1)
    unfold places
    split <;> simp only [List.length_cons] <;> omega
theorem len5 {α : Type} {l : List α} (h : l.length = 5) : ∃ a b c d e, l = [a, b, c, d, e] := by
  match l, h with
  | [a, b, c, d, e], _ => exact ⟨a, b, c, d, e, rfl⟩
theorem ints4 {ys : List Value} {a b c d : Nat} (h : IntsAre ys ([a, b, c, d].map fun (i : Nat) => (i : Int))) : ∃ t0 t1 t2 t3, ys = [.int a t0, .int b t1, .int c t2, .int d t3] := by
  cases h with
  | cons _ t0 h =>
  cases h with
  | cons _ t1 h =>
  cases h with
  | cons _ t2 h =>
  cases h with
  | cons _ t3 h =>
  cases h
  exact ⟨t0, t1, t2, t3, rfl⟩
section
variable {prog : Program} {w : World} {A : Around} {E : Value → Shared → Prop} {s : Shared} {h₀ : Heap} {L D : Addr} {news : List (Addr × Obj)} {Q : Value → Shared → Prop}
theorem len_lst {ys : List Value} (N : News h₀ L s.heap news) (hm : (D, lst ys) ∈ news) (hl : ys.length ≤ 100000) (h : ∀ t' k, Q (.int (ys.length : Int) t') { s with toks := k }) : wpAny (model prog w) A (call (.builtin "len") [.ref D]) Q E s := by
  have hL : s.heap.IsList D ys.toArray := ⟨_, (N _ hm).1, rfl, _, rfl⟩
  exact Calls.call_len_list hL (by show ((ys.length : Nat) : Int) < _; omega) (h _ _)
end

local macro_rules | `(tactic| walk_at $s:str) => `(tactic| k_extra $s)
theorem rules_F1 : True := by
  w_top off
  k_with_none
  (k_with "compareOp Eq str str" => ((k_here; (with_reducible refine eq_S ?_); (simp only [cs_S, lit257, lit229, litBQ, litQ, litE, Int.reduceToNat, List.take_succ_cons, List.take_zero, List.drop_succ_cons, List.drop_zero, Nat.reduceSub, decide_true, Bool.not_true, Bool.not_false]))))
  (k_with "compareOp NotEq str str" => ((k_here; (with_reducible refine ne_S ?_); (simp only [cs_S, lit257, lit229, litBQ, litQ, litE, Int.reduceToNat, List.take_succ_cons, List.take_zero, List.drop_succ_cons, List.drop_zero, Nat.reduceSub, decide_true, Bool.not_true, Bool.not_false]))))
  (k_with "binaryOp Add str str" => ((k_here; (with_reducible refine' add_S ?zzhsz ?_); (case zzhsz => k_dflt ((simp only [cs_S, lit257, lit229, litBQ, litQ, litE, litQB, litEnd, List.length_cons, List.length_nil, List.length_append]); omega)); intro zzt' zztk'; (simp only [cs_S, lit257, lit229, litBQ, litQ, litE, litQB, litEnd]))))
  (k_with "call builtin:len" => ((k_here; (with_reducible refine' len_S ?zzhl ?_); (case zzhl => k_dflt ((try simp only [List.length_cons, List.length_nil, List.length_append] at *); omega)); intro zzt' zztk')))
  (k_with "subscriptTail" => ((k_here; (with_reducible show wpAny _ _ (subscriptTail _ (Expr.Slice none (some _) none _) (Value.str _ _) (Value.ref _)) _ _ _); (with_reducible rename Fr _ _ _ _ => zzkF); (with_reducible rename News _ _ _ _ => zzkN); (refine' cut_ns (s := ⟨_, _, _, _, _⟩) zzkF zzkN ?zzh0 ?zzhk ?zzhl ?_ ?zzhs ?zzht); k_dflt ((case zzh0 => omega); (case zzhk => (try simp only [List.length_cons, List.length_nil, List.length_append] at *); omega); (case zzhl => (try simp only [List.length_cons, List.length_nil, List.length_append] at *); omega); (case zzhs => with_unfolding_all rfl); (case zzht => intro _; with_unfolding_all rfl)); intro zzh' zzt' zztk' zzF' zzN'; (try k_sweep))))
  (k_with "subscriptTail" => ((k_here; (with_reducible show wpAny _ _ (subscriptTail _ (Expr.Slice (some _) (some _) none _) (Value.str _ _) (Value.ref _)) _ _ _); (with_reducible rename Fr _ _ _ _ => zzkF); (with_reducible rename News _ _ _ _ => zzkN); (refine' cut_ss (s := ⟨_, _, _, _, _⟩) zzkF zzkN ?zzh0 ?zzhk ?zzhj ?zzhl ?_ ?zzhs ?zzht); k_dflt ((case zzh0 => omega); (case zzhk => omega); (case zzhj => (try simp only [List.length_cons, List.length_nil, List.length_append] at *); omega); (case zzhl => (try simp only [List.length_cons, List.length_nil, List.length_append] at *); omega); (case zzhs => with_unfolding_all rfl); (case zzht => intro _; with_unfolding_all rfl)); intro zzh' zzt' zztk' zzF' zzN'; (try k_sweep))))
  (k_with "subscriptTail" => ((k_here; (with_reducible show wpAny _ _ (subscriptTail _ _ (Value.str _ _) (Value.int _ _)) _ _ _); (with_reducible refine' item_S ?zzh0 ?zzh1 ?zzhl ?_ ?zzhs ?zzht); k_dflt ((case zzh0 => omega); (case zzh1 => (try simp only [List.length_cons, List.length_nil, List.length_append] at *); omega); (case zzhl => (try simp only [List.length_cons, List.length_nil, List.length_append] at *); omega); (case zzhs => with_unfolding_all rfl); (case zzht => intro _; with_unfolding_all rfl)); intro zzt' zztk')))
  (k_with "subscriptTail Name Name str int" => ((k_here; (with_reducible show wpAny _ _ (subscriptTail _ _ (Value.str _ _) (Value.int _ _)) _ _ _); (with_reducible refine' item_S ?zzh0 ?zzh1 ?zzhl ?_ ?zzhs ?zzht); k_dflt ((case zzh0 => omega); (case zzh1 => (try simp only [List.length_cons, List.length_nil, List.length_append] at *); omega); (case zzhl => (try simp only [List.length_cons, List.length_nil, List.length_append] at *); omega); (case zzhs => with_unfolding_all rfl); (case zzht => intro _; with_unfolding_all rfl)); intro zzt' zztk')))
  (k_with "subscriptTail Name BinOp str int" => ((k_here; (with_reducible show wpAny _ _ (subscriptTail _ _ (Value.str _ _) (Value.int _ _)) _ _ _); (with_reducible refine' item_S ?zzh0 ?zzh1 ?zzhl ?_ ?zzhs ?zzht); k_dflt ((case zzh0 => omega); (case zzh1 => (try simp only [List.length_cons, List.length_nil, List.length_append] at *); omega); (case zzhl => (try simp only [List.length_cons, List.length_nil, List.length_append] at *); omega); (case zzhs => with_unfolding_all rfl); (case zzht => intro _; with_unfolding_all rfl)); intro zzt' zztk')))
  (k_with "subscriptTail Name Constant str int" => ((k_here; (with_reducible show wpAny _ _ (subscriptTail _ _ (Value.str _ _) (Value.int _ _)) _ _ _); (with_reducible refine' item_S ?zzh0 ?zzh1 ?zzhl ?_ ?zzhs ?zzht); k_dflt ((case zzh0 => omega); (case zzh1 => (try simp only [List.length_cons, List.length_nil, List.length_append] at *); omega); (case zzhl => (try simp only [List.length_cons, List.length_nil, List.length_append] at *); omega); (case zzhs => with_unfolding_all rfl); (case zzht => intro _; with_unfolding_all rfl)); intro zzt' zztk')))
  (k_with "subscriptTail Constant BinOp str int" => ((k_here; (with_reducible show wpAny _ _ (subscriptTail _ _ (Value.str _ _) (Value.int _ _)) _ _ _); (with_reducible refine' item_S ?zzh0 ?zzh1 ?zzhl ?_ ?zzhs ?zzht); k_dflt ((case zzh0 => omega); (case zzh1 => (try simp only [List.length_cons, List.length_nil, List.length_append] at *); omega); (case zzhl => (try simp only [List.length_cons, List.length_nil, List.length_append] at *); omega); (case zzhs => with_unfolding_all rfl); (case zzht => intro _; with_unfolding_all rfl)); intro zzt' zztk')))
  (k_with "call ref" => ((k_here; (with_reducible show wpAny _ _ (call (Value.ref 124) _) _ _ _); k_dflt ((refine' TelS.use (spelled _ _ _ _ _ _ _ ?zzhm ?zzhi ?zzhr ?zzhn ?zzhl) ?zzk1 ?zzk2 ?zzk3 ?zzk4 ?zzk5 ?zzkK ?zzkd ?zzku ?_); (case zzk1 => k_asm); (case zzk2 => k_asm); (case zzk3 => k_asm); (case zzk4 => k_asm); (case zzk5 => k_asm); (case zzkK => first | exact rfl | assumption); (case zzhm => repeat' (first | assumption | refine List.mem_cons_of_mem _ ?_)); (case zzhi => assumption); (case zzhr => assumption); (case zzhn => assumption); (case zzhl => first | assumption | ((try simp only [List.length_cons, List.length_nil, List.length_append]); omega)); (case zzkd => ktr_room); (case zzku => ktr_units)); intro zzt9 zzh9 zztk9 zzF9 zzN9; (try dsimp only); (try k_fold))))
  (k_with "call builtin:str.replace" => ((k_here; (with_reducible refine' replace_dbl ?zzhl ?_); k_dflt (case zzhl => omega); intro zzt' zztk')))
  (k_with "eval ListComp" => ((k_here; (with_reducible show wpAny _ _ (eval (Expr.ListComp _ [⟨_, Expr.Name (Str.ofString "hands") _, _, _⟩] _ _) _) _ _ _); (with_reducible rename Fr _ _ _ _ => zzkF); (with_reducible refine' LCt.ListComp_T zzkF ?zzc1 ?zzc2 ?zzc3 ?zzc4 ?zzc5 ?_ ?zzc6); k_dflt ((case zzc1 => with_unfolding_all rfl); (case zzc2 => decide); (case zzc3 => rfl); (case zzc4 => decide); (case zzc5 => rfl); (case zzc6 => intro _; rfl)))))
  (k_with "eval ListComp" => ((k_here; (with_reducible show wpAny _ _ (eval (Expr.ListComp _ [⟨_, Expr.Name (Str.ofString "port") _, _, _⟩] _ _) _) _ _ _); (with_reducible rename Fr _ _ _ _ => zzkF); (with_reducible refine' comp_strT zzkF ?zzc1 ?zzc2 ?zzc3 ?zzc4 ?zzc5 ?zzc6 ?_); k_dflt ((case zzc1 => with_unfolding_all rfl); (case zzc2 => decide); (case zzc3 => rfl); (case zzc4 => decide); (case zzc5 => rfl); (case zzc6 => intro _; rfl)))))
  (k_with "compareOp NotEq ref ref" => ((k_here; (with_reducible rename News _ _ _ _ => zzkN); (with_reducible refine' ne_none zzkN ?zzhD ?zzhF ?zzhc ?zzhd ?zzhy ?zzhu ?_); k_dflt ((case zzhD => k_mem); (case zzhF => k_mem); (case zzhc => rfl); (case zzhd => rfl); (case zzhy => assumption); (case zzhu => ktr_units)))))
  (k_with "compareOp Eq ref ref" => ((k_here; (with_reducible rename News _ _ _ _ => zzkN); (with_reducible refine' eq_none2 zzkN ?zzhD ?zzhF ?zzhc ?zzhd ?zzhu ?_); k_dflt ((case zzhD => k_mem); (case zzhF => k_mem); (case zzhc => rfl); (case zzhd => rfl); (case zzhu => ktr_units)))))
  (k_with "CompSrcT" => ((k_here; refine hold_in ?_)))
  (k_with "exec Assign cons ListComp" => ((k_here; (with_reducible rename Fr _ _ _ _ => zzkF); (with_reducible refine' LCt.Assign_ListComp_T zzkF ?zzhLe ?zzhsw ?zzc1 ?zzc2 ?zzc3 ?zzc4 ?zzc5 ?zzhy ?zzhp ?_ ?zzc6); k_dflt ((case zzhLe => rfl); (case zzhsw => with_unfolding_all rfl); (case zzc1 => with_unfolding_all rfl); (case zzc2 => decide); (case zzc3 => rfl); (case zzc4 => decide); (case zzc5 => rfl); (case zzhy => rfl); (case zzhp => rfl); (case zzc6 => intro _; rfl)))))
  (k_with "subscriptTail" => ((k_here; (with_reducible show wpAny _ _ (subscriptTail _ (Expr.Slice (some _) (some _) none _) (Value.str _ _) (Value.ref _)) _ _ _); (with_reducible rename Fr _ _ _ _ => zzkF); (with_reducible rename News _ _ _ _ => zzkN); (simp only [Int.reduceToNat, List.getD_cons_succ, List.getD_cons_zero]); (refine' cut_ss (s := ⟨_, _, _, _, _⟩) zzkF zzkN ?zzh0 ?zzhk ?zzhj ?zzhl ?_ ?zzhs ?zzht); k_dflt ((case zzh0 => omega); (case zzhk => omega); (case zzhj => omega); (case zzhl => omega); (case zzhs => with_unfolding_all rfl); (case zzht => intro _; with_unfolding_all rfl)); intro zzh' zzt' zztk' zzF' zzN'; (try k_sweep))))
  (k_with "call builtin:len" => ((k_here; (with_reducible rename News _ _ _ _ => zzkN); (with_reducible refine' len_lst zzkN ?zzhm ?zzhl ?_); k_dflt ((case zzhm => k_mem); (case zzhl => omega)); intro zzt' zztk')))
  (k_with "call type:int" => ((k_here; (with_reducible refine' KIN.call_text ?zzhn ?zzhl ?_); k_dflt ((case zzhn => assumption); (case zzhl => (simp only [S_len]; omega))))))
  (k_with "call builtin:str.strip" => ((k_here; refine hold_in ?_)))
  trivial

def AnsOut (hs : List Int) (nm inner : List Nat) (tl : List (Addr × Obj)) (r : Value) : Prop := DatIn tl r (.list (ans hs nm inner))
section
variable (w : World) (mean : ExcName → Option Value) (mg mb : Str → Option Value) (news : List (Addr × Obj)) (t u : Tok)
theorem due {ah : Addr} {vs : List Value} {k : Nat} {hs : List Int} {nm inner : List Nat} (hm : (ah, listOf vs.toArray k) ∈ news) (hi : IntsAre vs hs) (g : GoodR hs nm inner) : TelD w mean mg mb news 3 136 [.ref ah, .str (S nm) t, .str (S inner) u] (AnsOut hs nm inner) := by
  obtain ⟨gfew, ghands, gshort, gname, ginner⟩ := g
  obtain ⟨gl2, gl16⟩ := inner_len ginner
  have gd := dbl_len nm
  have gB := spell_len2 gfew inner
  have gT : (spell hs (32 :: 34 :: (dbl nm ++ [34, 32, 40] ++ inner ++ [41, 32, 97, 116, 32, 108, 97, 115, 116]))).length ≤ 2000 := by
    refine Nat.le_trans (spell_len2 gfew _) ?_
    simp only [List.length_cons, List.length_append, List.length_nil]
    omega
  unfold TelD
  k_fill
  intros; rename_i hret
  refine wpAny_call ?_
  (k_dflt (refine' code_defC ?k1 ?k2 ?k3 ?k4 ?k5 ?kA ?kF ?kK ?k6 ?k7 ?k8 ?k9 ?kB ?kD ?_ ?c2 ?c3 ?c4; (case kA => exact rfl); (case kF => exact rfl); (case kK => assumption); (case k1 => k_asm); (case k2 => k_asm); (case k3 => k_asm); (case k4 => k_asm); (case k5 => k_asm); (case k6 => k_is); (case k7 => k_is); (case k8 => ktr_room); (case k9 => first | exact BindsTo.of_eq rfl); (case kB => exact rfl); (case kD => decide +kernel); (case c2 => exact rfl); (case c3 => exact rfl); (case c4 => exact rfl); k_whole; intro g' L' h' tk' cells' FG' F' N' Y' B' X' T' l1; (try k_lt l1); k_cells Y'; (try simp only [List.cons_append, List.nil_append] at N'); (try dsimp only); (try k_lift B'); (try k_fold)))
  have hcA : ∀ p ∈ news, p.1 ≠ L' + 1 := fun p hp => Nat.ne_of_lt (Nat.lt_succ_of_lt (l1 p hp))
  k_steps
  unfold Hold
  (rename Fr _ _ _ _ => F0); (rename News _ _ _ _ => N0)
  refine' hands_src bad ?hh F0 N0 ?hm hi gfew ?test ?step ?fin
  case hh => rfl
  case hm => repeat' (first | assumption | refine List.mem_cons_of_mem _ ?_)
  case test =>
    intro i9 u9 I9 oI9 C9 oC9 D9 ys9 m9 H9 tk9 E9 hi9 hC9 hx9 F9 N9
    clear F0 N0
    k_steps
    · exact any_bad i9
    · exact ⟨_, _, rfl, by assumption, fun p hp => (by assumption : News _ _ _ _) p (.tail _ hp)⟩
  case step =>
    intro i9 u9 I9 oI9 C9 oC9 D9 ys9 m9 H9 tk9 E9 hi9 hC9 hx9 F9 N9 hp9
    clear F0 N0
    k_steps
    exact ⟨_, _, rfl, by assumption, by assumption⟩
  case fin =>
    intro D9 ys9 H9 tk9 hlen9 hg9 F9 N9 o9
    clear F0 N0
    have hD9 : D9 ≠ L' + 1 := fun e => o9.1 e.symm
    (try dsimp only)
    k_steps
    · unfold Hold
      (rename IsRange _ _ _ _ _ _ _ _ => R1); (rename Fr _ _ _ _ => F1); (rename News _ _ _ _ => N1)
      refine' marks_src (fun k => (spell hs inner).getD k 0 == (spell hs inner).getD 0 0) ?hh F1 N1 R1 ?hn ?test ?step ?fin
      case hh => rfl
      case hn => omega
      case test =>
        intro i8 u8 I8 oI8 C8 oC8 D8 ys8 m8 H8 tk8 E8 hi8 hC8 hx8 F8 N8
        clear F1 N1
        k_steps
        · rw [Int.toNat_natCast]; exact sign_eq _ _
        · exact ⟨_, _, rfl, by assumption, by assumption⟩
      case step =>
        intro i8 u8 I8 oI8 C8 oC8 D8 ys8 m8 H8 tk8 E8 hi8 hC8 hx8 F8 N8
        clear F1 N1
        k_steps
        exact ⟨_, _, rfl, by assumption, by assumption⟩
      case fin =>
        intro D8 ys8 H8 tk8 hI8 F8 N8 o8
        clear F1 N1
        (try dsimp only)
        rw [kept_places] at hI8
        have hif : (if hs.any bad then [] else spell hs nm) = spell hs nm := by rw [hlen9.mp (by assumption)]; rfl
        by_cases h5 : (segs ((spell hs inner).getD 0 0) (spell hs inner)).length = 5
        · obtain ⟨a0, a1, a2, a3, a4, hsg⟩ := len5 h5
          obtain ⟨eB, q0, q1, q2, q3, q4⟩ := five hsg
          have hp := five_places q0 q1 q2 q3 q4
          rw [← eB] at hp
          rw [hp] at hI8
          obtain ⟨t0, t1, t2, t3, rfl⟩ := ints4 hI8
          clear hI8
          have hBl := congrArg List.length eB
          simp only [List.length_append, List.length_cons] at hBl
          cases a4 with
          | nil =>
            simp only [List.length_nil] at hBl
            obtain ⟨hPa, hPz⟩ := port_facts ginner hsg
            have hPs := port_strip hPa hPz
            have hPn := port_ne hPz
            have hPl := port_len a3
            k_steps
            · exfalso; (simp only [Int.reduceToNat, List.getD_cons_succ, List.getD_cons_zero] at *); omega
            · unfold Hold
              refine KXw.strip (y := S (a3.dropWhile blank)) ?_ ?_ ?_
              · rw [port_cut hsg (by omega) (by omega)]; exact hPs
              · rw [port_cut hsg (by omega) (by omega), S_len, sizeLine_eq]
                omega
              intro t7 tk7
              (try dsimp only)
              k_steps
              (rename Fr _ _ _ _ => F2); (rename News _ _ _ _ => N2)
              refine' StrSrcT.pure (fun c => !decide (48 ≤ c ∧ c ≤ 57)) ?hh F2 N2 ?hl ?test ?step ?fin
              case hh => rfl
              case hl => rw [sizeLine_eq]; omega
              case test =>
                intro c6 u6 I6 oI6 C6 oC6 D6 ys6 m6 H6 tk6 E6 hc6 hC6 hx6 F6 N6
                clear F2 N2
                k_steps
                · rw [lit_digits, in_S, digit_in]
                · exact ⟨_, _, rfl, by assumption, by assumption⟩
              case step =>
                intro c6 u6 I6 oI6 C6 oC6 D6 ys6 m6 H6 tk6 E6 hc6 hC6 hx6 F6 N6 hp6
                clear F2 N2
                k_steps
                exact ⟨_, _, rfl, by assumption, by assumption⟩
              case fin =>
                intro D6 ys6 H6 tk6 hy6 hyl6 F6 N6 o6
                clear F2 N2
                have hyd : ys6 = [] ↔ AllDigits (a3.dropWhile blank) := by
                  rw [← List.length_eq_zero_iff, hy6]
                  simp [AllDigits]
                (try dsimp only)
                by_cases hAD : AllDigits (a3.dropWhile blank)
                · have hint := intText_digits (x := S (a3.dropWhile blank)) hAD hPn (by rw [S_len]; omega)
                  k_steps
                  · refine hret _ [_, _, _, _, _, _, _, _, _, _] _ _ (by assumption) (by assumption) ?_ ?_
                    · refine apart_cons (apart_L l1 (by refine leN ?_; (try dsimp only); omega)) (apart_cons (apart_L l1 (by refine leN ?_; (try dsimp only); omega)) (apart_cons (apart_L l1 (by refine leN ?_; (try dsimp only); omega)) (apart_cons (apart_L l1 (by refine leN ?_; (try dsimp only); omega)) (apart_cons (fun q hq => apart_off o6 q (.tail _ (.tail _ (.tail _ (.tail _ (.tail _ hq)))))) (apart_cons (fun q hq => apart_off o8 q (.tail _ (.tail _ (.tail _ (.tail _ hq))))) (apart_cons (apart_L l1 (by refine leN ?_; (try dsimp only); omega)) (apart_cons (apart_L l1 (by refine leN ?_; (try dsimp only); omega)) (apart_cons (fun q hq => apart_off o9 q (.tail _ hq)) (apart_cons (apart_L l1 (by refine leN ?_; (try dsimp only); omega)) apart_nil)))))))))
                    · show DatIn _ _ (.list (ans hs nm inner))
                      unfold ans
                      rw [hif, rest_port hsg, portDat_num hPz hAD]
                      exact .list (vs := [_, _, _]) (.head _) (.cons (.str _ _) (.cons (.str _ _) (.cons (.tuple (vs := [_, _]) (.tail _ (.tail _ (.head _))) (.cons (.str _ _) (.cons (.int _ _) .nil))) .nil)))
                  · exact absurd (hyd.mpr hAD) (by assumption)
                · k_steps
                  · exact absurd (hyd.mp (by assumption)) hAD
                  · refine hret _ [_, _, _, _, _, _, _, _, _] _ _ (by assumption) (by assumption) ?_ ?_
                    · refine apart_cons (apart_L l1 (by refine leN ?_; (try dsimp only); omega)) (apart_cons (apart_L l1 (by refine leN ?_; (try dsimp only); omega)) (apart_cons (apart_L l1 (by refine leN ?_; (try dsimp only); omega)) (apart_cons (fun q hq => apart_off o6 q (.tail _ (.tail _ (.tail _ (.tail _ (.tail _ hq)))))) (apart_cons (fun q hq => apart_off o8 q (.tail _ (.tail _ (.tail _ (.tail _ hq))))) (apart_cons (apart_L l1 (by refine leN ?_; (try dsimp only); omega)) (apart_cons (apart_L l1 (by refine leN ?_; (try dsimp only); omega)) (apart_cons (fun q hq => apart_off o9 q (.tail _ hq)) (apart_cons (apart_L l1 (by refine leN ?_; (try dsimp only); omega)) apart_nil))))))))
                    · show DatIn _ _ (.list (ans hs nm inner))
                      unfold ans
                      rw [hif, rest_port hsg, portDat_bad hAD]
                      exact .list (vs := [_, _, _]) (.head _) (.cons (.str _ _) (.cons (.str _ _) (.cons (.str _ _) .nil)))
          | cons b4 a4 =>
            simp only [List.length_cons] at hBl
            k_steps
            · refine hret _ [_, _, _, _, _, _, _] _ _ (by assumption) (by assumption) ?_ ?_
              · refine apart_cons (apart_L l1 (by refine leN ?_; (try dsimp only); omega)) (apart_cons (apart_L l1 (by refine leN ?_; (try dsimp only); omega)) (apart_cons (fun q hq => apart_off o8 q (.tail _ (.tail _ (.tail _ (.tail _ hq))))) (apart_cons (apart_L l1 (by refine leN ?_; (try dsimp only); omega)) (apart_cons (apart_L l1 (by refine leN ?_; (try dsimp only); omega)) (apart_cons (fun q hq => apart_off o9 q (.tail _ hq)) (apart_cons (apart_L l1 (by refine leN ?_; (try dsimp only); omega)) apart_nil))))))
              · show DatIn _ _ (.list (ans hs nm inner))
                unfold ans
                rw [hif, rest_more hsg (by simp)]
                exact .list (vs := [_, _, _, _]) (.head _) (.cons (.str _ _) (.cons (.str _ _) (.cons (.str _ _) (.cons (.str _ _) .nil))))
            · exfalso; (simp only [Int.reduceToNat, List.getD_cons_succ, List.getD_cons_zero] at *); omega
        · have hne : ys8.length ≠ 4 := by
            have e1 := ints_len hI8
            have e2 := places_len ((spell hs inner).getD 0 0) (spell hs inner) 0
            rw [List.length_map] at e1
            omega
          have hyl : ys8.length ≤ 600 := by
            have e1 := ints_len hI8
            have e2 := places_le ((spell hs inner).getD 0 0) (spell hs inner) 0
            rw [List.length_map] at e1
            omega
          k_steps
          · refine hret _ [_, _, _, _, _, _, _] _ _ (by assumption) (by assumption) ?_ ?_
            · refine apart_cons (apart_L l1 (by refine leN ?_; (try dsimp only); omega)) (apart_cons (apart_L l1 (by refine leN ?_; (try dsimp only); omega)) (apart_cons (fun q hq => apart_off o8 q (.tail _ (.tail _ (.tail _ (.tail _ hq))))) (apart_cons (apart_L l1 (by refine leN ?_; (try dsimp only); omega)) (apart_cons (apart_L l1 (by refine leN ?_; (try dsimp only); omega)) (apart_cons (fun q hq => apart_off o9 q (.tail _ hq)) (apart_cons (apart_L l1 (by refine leN ?_; (try dsimp only); omega)) apart_nil))))))
            · show DatIn _ _ (.list (ans hs nm inner))
              unfold ans
              rw [hif, rest_no h5]
              exact .list (vs := [_, _, _, _]) (.head _) (.cons (.str _ _) (.cons (.str _ _) (.cons (.str _ _) (.cons (.str _ _) .nil))))
          · exfalso; omega
    · unfold Hold
      (rename IsRange _ _ _ _ _ _ _ _ => R1); (rename Fr _ _ _ _ => F1); (rename News _ _ _ _ => N1)
      refine' marks_src (fun k => (spell hs inner).getD k 0 == (spell hs inner).getD 0 0) ?hh F1 N1 R1 ?hn ?test ?step ?fin
      case hh => rfl
      case hn => omega
      case test =>
        intro i8 u8 I8 oI8 C8 oC8 D8 ys8 m8 H8 tk8 E8 hi8 hC8 hx8 F8 N8
        clear F1 N1
        k_steps
        · rw [Int.toNat_natCast]; exact sign_eq _ _
        · exact ⟨_, _, rfl, by assumption, by assumption⟩
      case step =>
        intro i8 u8 I8 oI8 C8 oC8 D8 ys8 m8 H8 tk8 E8 hi8 hC8 hx8 F8 N8
        clear F1 N1
        k_steps
        exact ⟨_, _, rfl, by assumption, by assumption⟩
      case fin =>
        intro D8 ys8 H8 tk8 hI8 F8 N8 o8
        clear F1 N1
        (try dsimp only)
        rw [kept_places] at hI8
        have hif : (if hs.any bad then [] else spell hs nm) = [] := by rw [if_pos]; cases q : hs.any bad with | true => rfl | false => exact absurd (hlen9.mpr q) (by assumption)
        by_cases h5 : (segs ((spell hs inner).getD 0 0) (spell hs inner)).length = 5
        · obtain ⟨a0, a1, a2, a3, a4, hsg⟩ := len5 h5
          obtain ⟨eB, q0, q1, q2, q3, q4⟩ := five hsg
          have hp := five_places q0 q1 q2 q3 q4
          rw [← eB] at hp
          rw [hp] at hI8
          obtain ⟨t0, t1, t2, t3, rfl⟩ := ints4 hI8
          clear hI8
          have hBl := congrArg List.length eB
          simp only [List.length_append, List.length_cons] at hBl
          cases a4 with
          | nil =>
            simp only [List.length_nil] at hBl
            obtain ⟨hPa, hPz⟩ := port_facts ginner hsg
            have hPs := port_strip hPa hPz
            have hPn := port_ne hPz
            have hPl := port_len a3
            k_steps
            · exfalso; (simp only [Int.reduceToNat, List.getD_cons_succ, List.getD_cons_zero] at *); omega
            · unfold Hold
              refine KXw.strip (y := S (a3.dropWhile blank)) ?_ ?_ ?_
              · rw [port_cut hsg (by omega) (by omega)]; exact hPs
              · rw [port_cut hsg (by omega) (by omega), S_len, sizeLine_eq]
                omega
              intro t7 tk7
              (try dsimp only)
              k_steps
              (rename Fr _ _ _ _ => F2); (rename News _ _ _ _ => N2)
              refine' StrSrcT.pure (fun c => !decide (48 ≤ c ∧ c ≤ 57)) ?hh F2 N2 ?hl ?test ?step ?fin
              case hh => rfl
              case hl => rw [sizeLine_eq]; omega
              case test =>
                intro c6 u6 I6 oI6 C6 oC6 D6 ys6 m6 H6 tk6 E6 hc6 hC6 hx6 F6 N6
                clear F2 N2
                k_steps
                · rw [lit_digits, in_S, digit_in]
                · exact ⟨_, _, rfl, by assumption, by assumption⟩
              case step =>
                intro c6 u6 I6 oI6 C6 oC6 D6 ys6 m6 H6 tk6 E6 hc6 hC6 hx6 F6 N6 hp6
                clear F2 N2
                k_steps
                exact ⟨_, _, rfl, by assumption, by assumption⟩
              case fin =>
                intro D6 ys6 H6 tk6 hy6 hyl6 F6 N6 o6
                clear F2 N2
                have hyd : ys6 = [] ↔ AllDigits (a3.dropWhile blank) := by
                  rw [← List.length_eq_zero_iff, hy6]
                  simp [AllDigits]
                (try dsimp only)
                by_cases hAD : AllDigits (a3.dropWhile blank)
                · have hint := intText_digits (x := S (a3.dropWhile blank)) hAD hPn (by rw [S_len]; omega)
                  k_steps
                  · refine hret _ [_, _, _, _, _, _, _, _, _, _] _ _ (by assumption) (by assumption) ?_ ?_
                    · refine apart_cons (apart_L l1 (by refine leN ?_; (try dsimp only); omega)) (apart_cons (apart_L l1 (by refine leN ?_; (try dsimp only); omega)) (apart_cons (apart_L l1 (by refine leN ?_; (try dsimp only); omega)) (apart_cons (apart_L l1 (by refine leN ?_; (try dsimp only); omega)) (apart_cons (fun q hq => apart_off o6 q (.tail _ (.tail _ (.tail _ (.tail _ (.tail _ hq)))))) (apart_cons (fun q hq => apart_off o8 q (.tail _ (.tail _ (.tail _ (.tail _ hq))))) (apart_cons (apart_L l1 (by refine leN ?_; (try dsimp only); omega)) (apart_cons (apart_L l1 (by refine leN ?_; (try dsimp only); omega)) (apart_cons (fun q hq => apart_off o9 q (.tail _ hq)) (apart_cons (apart_L l1 (by refine leN ?_; (try dsimp only); omega)) apart_nil)))))))))
                    · show DatIn _ _ (.list (ans hs nm inner))
                      unfold ans
                      rw [hif, rest_port hsg, portDat_num hPz hAD]
                      exact .list (vs := [_, _, _]) (.head _) (.cons (.str _ _) (.cons (.str _ _) (.cons (.tuple (vs := [_, _]) (.tail _ (.tail _ (.head _))) (.cons (.str _ _) (.cons (.int _ _) .nil))) .nil)))
                  · exact absurd (hyd.mpr hAD) (by assumption)
                · k_steps
                  · exact absurd (hyd.mp (by assumption)) hAD
                  · refine hret _ [_, _, _, _, _, _, _, _, _] _ _ (by assumption) (by assumption) ?_ ?_
                    · refine apart_cons (apart_L l1 (by refine leN ?_; (try dsimp only); omega)) (apart_cons (apart_L l1 (by refine leN ?_; (try dsimp only); omega)) (apart_cons (apart_L l1 (by refine leN ?_; (try dsimp only); omega)) (apart_cons (fun q hq => apart_off o6 q (.tail _ (.tail _ (.tail _ (.tail _ (.tail _ hq)))))) (apart_cons (fun q hq => apart_off o8 q (.tail _ (.tail _ (.tail _ (.tail _ hq))))) (apart_cons (apart_L l1 (by refine leN ?_; (try dsimp only); omega)) (apart_cons (apart_L l1 (by refine leN ?_; (try dsimp only); omega)) (apart_cons (fun q hq => apart_off o9 q (.tail _ hq)) (apart_cons (apart_L l1 (by refine leN ?_; (try dsimp only); omega)) apart_nil))))))))
                    · show DatIn _ _ (.list (ans hs nm inner))
                      unfold ans
                      rw [hif, rest_port hsg, portDat_bad hAD]
                      exact .list (vs := [_, _, _]) (.head _) (.cons (.str _ _) (.cons (.str _ _) (.cons (.str _ _) .nil)))
          | cons b4 a4 =>
            simp only [List.length_cons] at hBl
            k_steps
            · refine hret _ [_, _, _, _, _, _, _] _ _ (by assumption) (by assumption) ?_ ?_
              · refine apart_cons (apart_L l1 (by refine leN ?_; (try dsimp only); omega)) (apart_cons (apart_L l1 (by refine leN ?_; (try dsimp only); omega)) (apart_cons (fun q hq => apart_off o8 q (.tail _ (.tail _ (.tail _ (.tail _ hq))))) (apart_cons (apart_L l1 (by refine leN ?_; (try dsimp only); omega)) (apart_cons (apart_L l1 (by refine leN ?_; (try dsimp only); omega)) (apart_cons (fun q hq => apart_off o9 q (.tail _ hq)) (apart_cons (apart_L l1 (by refine leN ?_; (try dsimp only); omega)) apart_nil))))))
              · show DatIn _ _ (.list (ans hs nm inner))
                unfold ans
                rw [hif, rest_more hsg (by simp)]
                exact .list (vs := [_, _, _, _]) (.head _) (.cons (.str _ _) (.cons (.str _ _) (.cons (.str _ _) (.cons (.str _ _) .nil))))
            · exfalso; (simp only [Int.reduceToNat, List.getD_cons_succ, List.getD_cons_zero] at *); omega
        · have hne : ys8.length ≠ 4 := by
            have e1 := ints_len hI8
            have e2 := places_len ((spell hs inner).getD 0 0) (spell hs inner) 0
            rw [List.length_map] at e1
            omega
          have hyl : ys8.length ≤ 600 := by
            have e1 := ints_len hI8
            have e2 := places_le ((spell hs inner).getD 0 0) (spell hs inner) 0
            rw [List.length_map] at e1
            omega
          k_steps
          · refine hret _ [_, _, _, _, _, _, _] _ _ (by assumption) (by assumption) ?_ ?_
            · refine apart_cons (apart_L l1 (by refine leN ?_; (try dsimp only); omega)) (apart_cons (apart_L l1 (by refine leN ?_; (try dsimp only); omega)) (apart_cons (fun q hq => apart_off o8 q (.tail _ (.tail _ (.tail _ (.tail _ hq))))) (apart_cons (apart_L l1 (by refine leN ?_; (try dsimp only); omega)) (apart_cons (apart_L l1 (by refine leN ?_; (try dsimp only); omega)) (apart_cons (fun q hq => apart_off o9 q (.tail _ hq)) (apart_cons (apart_L l1 (by refine leN ?_; (try dsimp only); omega)) apart_nil))))))
            · show DatIn _ _ (.list (ans hs nm inner))
              unfold ans
              rw [hif, rest_no h5]
              exact .list (vs := [_, _, _, _]) (.head _) (.cons (.str _ _) (.cons (.str _ _) (.cons (.str _ _) (.cons (.str _ _) .nil))))
          · exfalso; omega
end
end Mine
end

-- O3
section
open PySem PySem.W PyProof.Rows PySem.Calls
namespace Mine
section
variable {M : Model} {A : Around} {E : Value → Shared → Prop} {s : Shared} {env : Env}
theorem tryStmtOn {body orelse : Sem Flow} {h₀ : ExceptHandler} {hs : List ExceptHandler} {Q : Flow → Shared → Prop}
    (h : wpOn M A body (fun f s₁ => match f with | .next => wpAny M A orelse Q E s₁ | f => Q f s₁)
      (fun e s₁ => wpAny M A (noteFrame e env) (fun _ s₂ => wpAny M A (setFlight e none) (fun _ s₃ => wpAny M A (handleBy e env (h₀ :: hs)) Q E s₃) E s₂) E s₁) s) :
    wpOn M A (tryStmt false body (h₀ :: hs) orelse [] env) Q E s := by
  unfold tryStmt
  simp only [List.isEmpty_nil, if_true, List.isEmpty_cons, Bool.false_and, Bool.false_eq_true, if_false]
  refine wpOn_bind (wpOn_attempt (wpOn_mono h (fun f s₁ h₁ => ?_) fun e s₁ h₁ => ?_))
  · cases f <;> first | exact wpOn_of h₁ | exact wpOn_pure h₁
  · exact wpOn_of (wpAny_bind (wpAny_mono h₁ (fun _ _ h₂ => wpAny_bind h₂) fun _ _ x => x))
theorem tryOn {body orelse : List Stmt} {h₀ : ExceptHandler} {hs : List ExceptHandler} {pos : Pos} {Q : Flow → Shared → Prop}
    (h : wpOn M A (execs body env) (fun f s₁ => match f with | .next => wpAny M A (execs orelse env) Q E s₁ | f => Q f s₁)
      (fun e s₁ => wpAny M A (noteFrame e env) (fun _ s₂ => wpAny M A (setFlight e none) (fun _ s₃ => wpAny M A (handleBy e env (h₀ :: hs)) Q E s₃) E s₂) E s₁) s) :
    wpOn M A (exec (.Try body (h₀ :: hs) orelse [] pos) env) Q E s := by
  rw [arm_exec_Try]
  exact wpOn_bind (wpOn_standAt (tryStmtOn h))
theorem wpOn_keep {α : Type} {vs : List Value} {m : Sem α} {Q : α → Shared → Prop} (h : wpOn M A m Q E s) : wpOn M A (m.keep vs) Q E s :=
  fun Γ p hΓ hh => by rw [Sem.wp_keep]; exact h Γ p hΓ hh
theorem wpOn_ite {α : Type} {c : Prop} [Decidable c] {a b : Sem α} {Q : α → Shared → Prop} (h : if c then wpOn M A a Q E s else wpOn M A b Q E s) :
    wpOn M A (if c then a else b) Q E s := by split <;> simp_all
theorem callWithOn_type {pos : Pos} {T : String} {first : List Value} {args : List (Bool × Sem Value)} {Q : Value → Shared → Prop}
    (hplain : args.any (·.1) = false)
    (h : wpAny M A (evalArgs (.type T) true args []) (fun a s₁ => wpOn M A (call (.type T) (first ++ a.pos) a.kw) Q E s₁) E s) :
    wpOn M A (callWith pos (.type T) first args []) Q E s := by
  unfold callWith
  refine wpOn_bindA (wpAny_holding (wpAny_mono h (fun a s₁ h₁ => wpOn_bind (wpOn_standAt ?_)) fun _ _ x => x))
  simp only [hplain, List.any_nil, Bool.or_false]
  refine wpOn_bindA (wpAny_pure ?_)
  exact wpOn_bind (wpOn_mono h₁ (fun r s₂ hr => wpOn_of (wpAny_bind (wpAny_holding (wpAny_point (wpAny_pure hr))))) fun _ _ x => x)
theorem evalCallOn {id : Str} {p pos : Pos} {args : List Expr} {keywords : List Keyword} {Q : Value → Shared → Prop}
    (h : wpAny M A (eval (.Name id p) env) (fun f s₁ => wpOn M A (callWith pos f [] (backTo pos (starEach args env)) (backToKw pos (keywordEach keywords env))) Q E s₁) E s) :
    wpOn M A (eval (.Call (.Name id p) args keywords pos) env) Q E s := by
  rw [arm_eval_Call_Name']
  exact wpOn_bindA h
theorem listOn1 {e : Expr} {pos : Pos} {Q : Value → Shared → Prop}
    (h : wpOn M A (eval e env) (fun v s₁ => wpAny M A (newList [v]) Q E s₁) E s)
    (he : starEach [e] env = [(false, eval e env)] := by rfl) : wpOn M A (eval (.List [e] pos) env) Q E s := by
  rw [arm_eval_List, he]
  refine wpOn_bind (wpOn_standAt (wpOn_bind ?_))
  show wpOn M A (spliced [(false, eval e env)]) _ _ _
  rw [spliced]
  refine wpOn_bind (wpOn_mono h (fun v s₁ h₁ => ?_) fun _ _ x => x)
  simp only [Bool.false_eq_true, if_false]
  refine wpOn_of (wpAny_bind (wpAny_pure (wpAny_bind (wpAny_holding (spliced_nil (wpAny_pure ?_))))))
  exact wpOn_of h₁
end
end Mine
end

-- O4
section
open PySem PySem.W PyProof.Rows PySem.Calls PySem.NumText
set_option maxRecDepth 100000
namespace Mine
section
variable {prog : Program} {w : World} {A : Around} {E : Value → Shared → Prop} {s : Shared} {R : Result → Shared → Prop}
theorem codeOn_builtin {id : String} {args : Args} {b : Builtin} (hb : entryFor table id = some b)
    (h : wpOn (model prog w) (A.under (.builtin id args)) (b args)
      (fun fin s' => match fin with | .done f => R (.ok f) s' | .again c' => c'.quiet = true ∧ codeOn (model prog w) A c' R s') (fun e s' => R (.error e) s') s) :
    codeOn (model prog w) A (.builtin id args) R s := by
  refine codeOn_of_tree ?_
  show wpOn _ _ (match entryFor table id with | some b => b args | none => unsupported ((withoutEnding? id "#data").getD id)) _ _ s
  rw [hb]; exact h
theorem codeOn_call_builtin {id : String} {args : Args} {b : Builtin} (hq : plainId id = true) (hb : entryFor table id = some b) (hc : checkBuiltinCall id args = pure ())
    (h : wpOn (model prog w) A.in1 (b args)
      (fun fin s' => match fin with | .done f => R (.ok f) s' | .again c' => c'.quiet = true ∧ codeOn (model prog w) A c' R s') (fun e s' => R (.error e) s') s) : codeOn (model prog w) A (.call (.builtin id) args) R s := by
  refine codeOn_of_tree (wpOn_of ?_)
  show wpAny _ A.in1 (do checkBuiltinCall id args; again (.builtin id args)) _ _ s
  rw [hc]
  refine wpAny_bind (wpAny_pure (wpAny_pure (And.intro (plainId_quiet hq args) (codeOn_builtin hb ?_))))
  rw [Around.under_plainId hq args]; exact h
/-- int(text) that is refused: the call's road -/
theorem callInt_on {v : Value} {Q : Value → Shared → Prop}
    (h : wpOn (model prog w) A.in1.in1 (Builtin.«int.__new__» ⟨[.type "int", v], []⟩) (fun _ _ => False) E s) : wpOn (model prog w) A (call (.type "int") [v]) Q E s := by
  have ft := F.called_int
  obtain ⟨c, tl, hmro⟩ := ft.mro
  have hmade := ft.made
  refine wpOn_call (codeOn_of_tree (wpOn_of ?_))
  show wpAny _ _ (callAny (.type "int") _) _ _ _
  refine wpAny_pure ⟨Code.quiet_builtin _ (by decide +kernel), codeOn_builtin F.entry_type_call ?_⟩
  rw [Around.under_plain (weight_type_call_type "int" [v] []) (units_type_call_type "int" [v] [])]
  have h1 := ft.notType
  have h2 := ft.canCreate
  have h3 := F.typeCall_int_1 v
  unfold Builtin.«type.__call__»
  simp only [h1, h2, h3, hmro, hmade, pure_bind, Bool.false_eq_true, if_false, List.isEmpty_cons]
  exact wpOn_bind (wpOn_holding (wpOn_call (codeOn_call_builtin ft.plain F.entry_int_new (F.newCall_int_1 v) (wpOn_mono h (fun _ _ f => f.elim) fun _ _ x => x))))
end
section
variable {M : Model} {A : Around} {E : Value → Shared → Prop} {s : Shared}
theorem newInt_on {x : PySem.Str} {u : Tok} (h : wpOn M A ((int_private% "intFromObject") (.str x u)) (fun _ _ => False) E s) : wpOn M A (Builtin.«int.__new__» ⟨[.type "int", .str x u], []⟩) (fun _ _ => False) E s := by
  have h1 : isType (.type "int") = pure true := rfl
  unfold Builtin.«int.__new__»
  simp only [h1, F.conv_sub_int, F.madeHere_int, pure_bind, Bool.not_true, Bool.false_eq_true, if_false, List.length_cons, List.length_nil, List.forIn_nil, List.head?_cons]
  show wpOn M A ((int_private% "intFromObject") (.str x u) >>= _) _ _ _
  exact wpOn_bind (wpOn_mono h (fun _ _ f => f.elim) fun _ _ x => x)
theorem objInt_on {x : PySem.Str} {u : Tok} (hx : x.cps.all (· < 128) = true) (h : wpOn M A ((int_private% "intFromText") (.str x u) x.cps.toList 10) (fun _ _ => False) E s) : wpOn M A ((int_private% "intFromObject") (.str x u)) (fun _ _ => False) E s := by
  have f6 : typeOf (.str x u) = pure (.type "str") := rfl
  have f3 := KIN.str_int
  have f4 := KIN.str_idx
  have f5 := KIN.str_trunc
  have s1 : specialOf (.str x u) "__int__" = pure none := by unfold specialOf; simp only [f6, pure_bind, f3]
  have s2 : specialOf (.str x u) "__index__" = pure none := by unfold specialOf; simp only [f6, pure_bind, f4]
  have s3 : specialOf (.str x u) "__trunc__" = pure none := by unfold specialOf; simp only [f6, pure_bind, f5]
  have s4 : callSpecial? (.str x u) "__int__" = pure none := by unfold callSpecial?; simp only [s1, pure_bind]
  have s5 : (int_private% "numeralText?") (.str x u) = pure (some x.cps.toList) := by
    have e : (int_private% "numeralText?") (.str x u) = pure (some (if x.cps.all (· < 128) then x.cps.toList else Unicode.numberText x.cps.toList)) := rfl
    rw [e, if_pos hx]
  show wpOn M A (callSpecial? (.str x u) "__int__" >>= _) _ _ _
  rw [s4]
  show wpOn M A (specialOf (.str x u) "__index__" >>= _) _ _ _
  rw [s2]
  show wpOn M A (specialOf (.str x u) "__trunc__" >>= _) _ _ _
  rw [s3]
  simp only [pure_bind, Option.isSome_none, Bool.false_eq_true, if_false, s5]
  first
    | exact h
    | exact wpOn_bind (wpOn_mono h (fun _ _ f => f.elim) fun _ _ x => x)
end
end Mine
end

-- O5
section
open PySem PySem.W PyProof.Rows PySem.Calls PySem.NumText
set_option maxRecDepth 100000
namespace Mine
section
variable {M : Model} {A : Around} {E : Value → Shared → Prop} {s : Shared}
theorem mark_on {own : List String} {e : Value} {Q : Unit → Shared → Prop} (h : Q () s) : wpOn M A (markTheRefusal own e) Q E s := fun Γ p hΓ hh => by
  have hc : pythonCodeMadeTheCall own (((Γ.code, p) :: Γ.below).map (·.1)) = false := by
    have ha : (((Γ.code, p) :: Γ.below).map (·.1)).any Code.isCaller = true := by
      rw [List.any_map, List.any_cons, Bool.or_eq_true]
      exact hh
    show ((!((((Γ.code, p) :: Γ.below).map (·.1)).any Code.isCaller) && _) && _) = false
    rw [ha]; rfl
  unfold markTheRefusal
  show Sem.wp M Γ (if pythonCodeMadeTheCall own (((Γ.code, p) :: Γ.below).map (·.1)) = true then _ else _) _ _ p s
  rw [hc]
  exact h
end
section
variable {prog : Program} {w : World} {A : Around} {E : Value → Shared → Prop} {s : Shared}
theorem textInt_on {x : PySem.Str} {u : Tok} (hh : A.handled = none) (hl : x.length ≤ 640) (h0 : ∀ c ∈ x.cps.toList, c ≠ 0 ∧ c < 128) (hr : (int_private% "readNumeral") 0 10 x.cps.toList = int_private% "Numeral.invalid")
    (h : ∀ h' e tk args, Heap.MadeExc s.heap h' e "ValueError" args → E (.ref e) { s with heap := h', toks := tk }) :
    wpOn (model prog w) A ((int_private% "intFromText") (.str x u) x.cps.toList 10) (fun _ _ => False) E s := by
  have e1 : x.cps.toList.takeWhile (· != 0) = x.cps.toList := takeWhile_all fun c hc => by simpa using (h0 c hc).1
  have e2 : (int_private% "bytesOf?") (.str x u) = pure none := rfl
  have e3 : ¬ x.cps.toList.length > 640 := by rw [← len_toList x]; omega
  show wpOn _ A (if (x.cps.toList.takeWhile (· != 0)).length ≤ 640 then _ else _) _ _ _
  rw [e1, if_pos (by omega)]
  simp only [pure_bind]
  rw [hr]
  simp only [e2, pure_bind, Option.isSome_none, Bool.false_and, Bool.false_eq_true, if_false]
  have hz : (reprText x).length ≤ sizeLine := by
    have := StrLaws.reprText_len x (fun c hc => Nat.lt_trans (h0 c hc).2 (by decide))
    rw [sizeLine_eq]; omega
  refine wpOn_bindA (wpAny_rule ?_)
  refine wpOn_bindA (wpAny_pyRepr_str ?_ hz)
  refine wpOn_bindA (wpAny_mkStr ?_ ?_)
  · refine wpOn_bindA (wpAny_newExc_plain plainExc_ValueError fun h' e hM => ?_)
    refine wpOn_bind (mark_on ?_)
    exact wpOn_of (wpAny_raiseNew_none hh (h _ _ _ _ hM))
  · rw [Str.length, Str.cps_append, Array.size_append, sizeLine_eq]
    have q1 : (Str.ofString (toString "invalid literal for int() with base " ++ toString 10 ++ toString ": ")).cps.size ≤ 100 := by decide +kernel
    have q2 : ((reprText x).cps.extract 0 200).size ≤ 200 := by rw [Array.size_extract]; omega
    show _ + ((reprText x).cps.extract 0 200).size ≤ _
    omega
end
end Mine
end

-- P4
section
open PySem PySem.W PyProof.Rows PySem.Calls PySem.NumText
set_option maxRecDepth 100000
namespace Mine
theorem step_alph : ∀ c ∈ alph, ¬ (48 ≤ c ∧ c ≤ 57) → ∀ p : Array Nat × Bool, NumText.step 10 p c = none := by
  intro c hc hd p
  have e : (c == 95) = false ∧ (match digit? c with | some d => decide (d < 10) | none => false) = false := by
    revert hd; revert hc; revert c
    decide
  unfold NumText.step
  rw [e.1]
  simp only [Bool.false_eq_true, if_false]
  have e2 := e.2
  split
  · rename_i d hd'
    rw [hd'] at e2
    have : ¬ d < 10 := by simpa using e2
    rw [if_neg this]
  · rfl
theorem fold_bad : ∀ {l : List Nat} (p : Array Nat × Bool), (∀ c ∈ l, c ∈ alph) → ¬ AllDigits l → l.foldlM (NumText.step 10) p = none
  | [], _, _, h => absurd (fun _ h => nomatch h) h
  | c :: l, p, ha, h => by
    rw [List.foldlM_cons]
    by_cases hc : 48 ≤ c ∧ c ≤ 57
    · have h' : ¬ AllDigits l := fun q => h fun d hd => by
        rcases List.mem_cons.mp hd with rfl | hd
        · exact hc
        · exact q d hd
      obtain ⟨ds, b⟩ := p
      rw [step_digit hc]
      exact fold_bad _ (fun d hd => ha d (.tail _ hd)) h'
    · rw [step_alph c (ha c (.head _)) hc p]; rfl
theorem digits_bad {l : List Nat} (ha : ∀ c ∈ l, c ∈ alph) (h : ¬ AllDigits l) : digits? 10 l = none := by
  unfold digits?
  rw [fold_bad _ ha h]; rfl
theorem core_port {a3 : List Nat} (ha : ∀ c ∈ a3, c ∈ alph) (hz : ∃ z d, a3 = z ++ [d] ∧ 48 ≤ d ∧ d ≤ 57) : sign (a3.dropWhile blank) = (false, a3.dropWhile blank) ∧ core a3 = a3.dropWhile blank := by
  obtain ⟨z, d, rfl, h1, h2⟩ := hz
  obtain ⟨q, hq⟩ := drop_last (f := blank) (dg := d) (blank_of (by omega)) z
  have hm : ∀ c ∈ q ++ [d], c ∈ alph := fun c hc => ha c ((List.dropWhile_sublist _).subset (hq ▸ hc))
  have hs : sign (q ++ [d]) = (false, q ++ [d]) := by
    cases q with
    | nil => exact sign_of (by omega) (by omega)
    | cons c q =>
      have hc := hm c (by simp)
      exact sign_of (fun e => by rw [e] at hc; revert hc; decide) (fun e => by rw [e] at hc; revert hc; decide)
  refine ⟨by rw [hq, hs], ?_⟩
  unfold core
  rw [hq, hs]
  simp only [List.reverse_append, List.reverse_singleton, List.singleton_append]
  rw [dropWhile_of (by omega)]
  simp
theorem read_bad {a3 : List Nat} (ha : ∀ c ∈ a3, c ∈ alph) (hz : ∃ z d, a3 = z ++ [d] ∧ 48 ≤ d ∧ d ≤ 57) (hd : ¬ AllDigits (a3.dropWhile blank)) : (int_private% "readNumeral") 0 10 a3 = int_private% "Numeral.invalid" := by
  rw [readNumeral_ten, (core_port ha hz).2, digits_bad (fun c hc => ha c ((List.dropWhile_sublist _).subset hc)) hd]
  exact judge_none
end Mine
end

-- P5
section
open PySem PySem.W PyProof.Rows PySem.Calls PySem.NumText
set_option maxRecDepth 100000
namespace Mine
theorem alph_small : ∀ c ∈ alph, c ≠ 0 ∧ c < 128 := by decide
theorem num_S {l : List Nat} (ha : ∀ c ∈ l, c ∈ alph) : numTextOf (S l) = l ∧ numSeenOf (S l) = l := by
  have h1 : (S l).cps.all (· < 128) = true := by
    rw [Array.all_eq_true']
    intro c hc
    exact decide_eq_true (alph_small c (ha c (by simpa [S] using hc))).2
  have e : numTextOf (S l) = l := by
    unfold numTextOf
    rw [if_pos h1]; rfl
  refine ⟨e, ?_⟩
  unfold numSeenOf
  rw [e]
  exact takeWhile_all fun c hc => by simpa using (alph_small c (ha c hc)).1
theorem int_good {a3 : List Nat} (ha : ∀ c ∈ a3, c ∈ alph) (hz : ∃ z d, a3 = z ++ [d] ∧ 48 ≤ d ∧ d ≤ 57) (hd : AllDigits (a3.dropWhile blank)) (hl : a3.length ≤ 640) : PySem.intText? (S a3) = some ((digitsVal (a3.dropWhile blank) : Nat) : Int) := by
  have hP : ∀ c ∈ a3.dropWhile blank, c ∈ alph := fun c hc => ha c ((List.dropWhile_sublist _).subset hc)
  have e1 := intText_digits (x := S (a3.dropWhile blank)) hd (port_ne hz) (by rw [S_len]; exact Nat.le_trans (port_len a3) (by omega))
  rw [← show (S (a3.dropWhile blank)).cps.toList = a3.dropWhile blank from rfl, ← e1]
  have hz' : ∃ z d, a3.dropWhile blank = z ++ [d] ∧ 48 ≤ d ∧ d ≤ 57 := by
    obtain ⟨z, d, rfl, h1, h2⟩ := hz
    obtain ⟨q, hq⟩ := drop_last (f := blank) (dg := d) (blank_of (by omega)) z
    exact ⟨q, d, hq, h1, h2⟩
  have c1 := core_port ha hz
  have c2 := core_port hP hz'
  have dd : (a3.dropWhile blank).dropWhile blank = a3.dropWhile blank := dropWhile_digits hd
  rw [dd] at c2
  unfold PySem.intText?
  rw [(num_S ha).2, (num_S ha).1, (num_S hP).2, (num_S hP).1, c1.2, c2.2, dd, c1.1]
  simp only [beq_self_eq_true]
section
variable {prog : Program} {w : World} {A : Around} {E : Value → Shared → Prop} {s : Shared} {Q : Value → Shared → Prop} {u : Tok}
/-- int(port) that is refused, under the caller -/
theorem int_bad {a3 : List Nat} (hh : A.handled = none) (ha : ∀ c ∈ a3, c ∈ alph) (hz : ∃ z d, a3 = z ++ [d] ∧ 48 ≤ d ∧ d ≤ 57) (hd : ¬ AllDigits (a3.dropWhile blank)) (hl : a3.length ≤ 640)
    (h : ∀ h' e tk args, Heap.MadeExc s.heap h' e "ValueError" args → E (.ref e) { s with heap := h', toks := tk }) :
    wpOn (model prog w) A (call (.type "int") [.str (S a3) u]) Q E s := by
  refine callInt_on (newInt_on (objInt_on ?_ (textInt_on hh (by rw [S_len]; exact hl) ?_ (read_bad ha hz hd) h)))
  · rw [Array.all_eq_true']
    intro c hc
    exact decide_eq_true (alph_small c (ha c (by simpa [S] using hc))).2
  · intro c hc
    exact alph_small c (ha c hc)
end
end Mine
end

-- P6
section
open PySem PySem.W PyProof.Rows PySem.Calls PySem.NumText
set_option maxRecDepth 100000
namespace Mine
theorem S_getD (l : List Nat) (k : Nat) : (S l).cps.getD k 0 = l.getD k 0 := by
  simp [S, Array.getD, List.getD_eq_getElem?_getD]
  split
  · rename_i h; rw [List.getElem?_eq_getElem h]; rfl
  · rename_i h; rw [List.getElem?_eq_none (by omega)]; rfl
/-- the first c at or behind i -/
theorem find3_at {X Y R : List Nat} {c : Nat} (h : c ∉ Y) : Txt.find3 (S (X ++ (Y ++ c :: R))) ⟨#[c]⟩ (X.length : Int) = ((X.length + Y.length : Nat) : Int) := by
  have hf : fromIndex (S (X ++ (Y ++ c :: R))).length (X.length : Int) = X.length := by
    unfold fromIndex
    rw [if_neg (by omega)]; omega
  have hlen : (S (X ++ (Y ++ c :: R))).length = X.length + (Y.length + (R.length + 1)) := by rw [S_len]; simp
  have hc : (X ++ (Y ++ c :: R)).getD (X.length + Y.length) 0 = c := by
    rw [← List.append_assoc, show X.length + Y.length = (X ++ Y).length by simp]; simp
  have hb : ∀ v, X.length ≤ v → v < X.length + Y.length → (X ++ (Y ++ c :: R)).getD v 0 ≠ c := by
    intro v h1 h2 e
    obtain ⟨d, rfl⟩ : ∃ d, v = X.length + d := ⟨v - X.length, by omega⟩
    have hd : d < Y.length := by omega
    rw [List.getD_eq_getElem?_getD, List.getElem?_append_right (by omega), Nat.add_sub_cancel_left, List.getElem?_append_left hd, List.getElem?_eq_getElem hd] at e
    exact h (e ▸ List.getElem_mem hd)
  rcases StrLaws.find3_spec (S (X ++ (Y ++ c :: R))) c (X.length : Int) with ⟨_, hn⟩ | ⟨k, hk, h1, h2, h3, h4⟩
  · rw [hf] at hn
    exact absurd ((S_getD _ _).trans hc) (hn (X.length + Y.length) (by omega) (by omega))
  · rw [hf] at h1 h4
    rw [S_getD] at h3
    rw [hk]
    congr 1
    rcases Nat.lt_trichotomy k (X.length + Y.length) with q | q | q
    · exact absurd h3 (hb k h1 q)
    · exact q
    · exact absurd ((S_getD _ _).trans hc) (h4 _ (by omega) q)
theorem find_at {Y R : List Nat} {c : Nat} (h : c ∉ Y) : Txt.find (S (Y ++ c :: R)) ⟨#[c]⟩ = ((Y.length : Nat) : Int) := by
  have := find3_at (X := []) (R := R) h
  rw [find_is_find3]
  simpa using this
theorem segs_free {c : Nat} : ∀ {p : List Nat}, c ∉ p → segs c p = [p]
  | [], _ => rfl
  | d :: p, h => by
    unfold segs
    rw [if_neg (by intro e; exact h (by simp [e])), segs_free (by intro q; exact h (by simp [q]))]
theorem segs_cut {c : Nat} (r : List Nat) : ∀ {p : List Nat}, c ∉ p → segs c (p ++ c :: r) = p :: segs c r
  | [], _ => by show segs c (c :: r) = _; rw [segs, if_pos rfl]
  | d :: p, h => by
    rw [List.cons_append, segs, if_neg (by intro e; exact h (by simp [e])), segs_cut r (by intro q; exact h (by simp [q]))]
theorem segs_join {c : Nat} : ∀ {ps : List Str}, ps ≠ [] → (∀ p ∈ ps, c ∉ p.cps.toList) → segs c (Str.join ⟨#[c]⟩ ps).cps.toList = ps.map fun p => p.cps.toList
  | [], h, _ => absurd rfl h
  | [p], _, h => segs_free (h p (List.mem_singleton.mpr rfl))
  | p :: q :: r, _, h => by
    have ih := segs_join (c := c) (ps := q :: r) (by simp) fun a ha => h a (List.mem_cons_of_mem _ ha)
    show segs c (p ++ ⟨#[c]⟩ ++ Str.join ⟨#[c]⟩ (q :: r)).cps.toList = _
    simp only [Str.cps_append, Array.toList_append, List.append_assoc]
    show segs c (p.cps.toList ++ c :: (Str.join ⟨#[c]⟩ (q :: r)).cps.toList) = _
    rw [segs_cut _ (h p (.head _)), ih]; rfl
theorem split_segs (l : List Nat) (c : Nat) : Txt.split (S l) (S [c]) = (segs c l).map S := by
  have hne : Txt.split (S l) ⟨#[c]⟩ ≠ [] := by
    intro e
    have := split_pos (S l) ⟨#[c]⟩
    rw [e] at this; simp at this
  have h := segs_join hne (StrLaws.split_free (S l) c)
  rw [StrLaws.join_split] at h
  show Txt.split (S l) ⟨#[c]⟩ = _
  rw [show segs c l = segs c (S l).cps.toList from rfl, h, List.map_map]
  conv => lhs; rw [← List.map_id (Txt.split (S l) ⟨#[c]⟩)]
  exact List.map_congr_left fun p _ => (S_of p).symm
/-- the reply as parse229 meets it -/
structure R229 (l B : List Nat) (pl : Nat) : Prop where
  find : Txt.find (S (50 :: 50 :: 57 :: l)) (S [40]) = ((pl : Nat) : Int)
  find2 : Txt.find3 (S (50 :: 50 :: 57 :: l)) (S [41]) (((pl : Nat) : Int) + 1) = ((pl + 1 + B.length : Nat) : Int)
  len : pl + 1 + B.length < l.length + 3
  cut : ((50 :: 50 :: 57 :: l).drop (pl + 1)).take (pl + 1 + B.length - (pl + 1)) = B
  fst : (50 :: 50 :: 57 :: l).getD (pl + 1) 0 = B.getD 0 0
  lst : (50 :: 50 :: 57 :: l).getD (pl + 1 + B.length - 1) 0 = B.getD (B.length - 1) 0
theorem r229 {P B R : List Nat} (hP : ∀ c ∈ P, c ∈ alph) (hB : ∀ c ∈ B, c ∈ alph) (hne : 0 < B.length) : R229 (P ++ 40 :: (B ++ 41 :: R)) B (P.length + 3) := by
  have h40 : 40 ∉ P := fun h => absurd (hP 40 h) (by decide)
  have h41 : 41 ∉ B := fun h => absurd (hB 41 h) (by decide)
  have e0 : 50 :: 50 :: 57 :: (P ++ 40 :: (B ++ 41 :: R)) = (50 :: 50 :: 57 :: P) ++ 40 :: (B ++ 41 :: R) := rfl
  have e1 : 50 :: 50 :: 57 :: (P ++ 40 :: (B ++ 41 :: R)) = ((50 :: 50 :: 57 :: P) ++ [40]) ++ (B ++ 41 :: R) := by simp
  have g : ∀ k, k < B.length → (50 :: 50 :: 57 :: (P ++ 40 :: (B ++ 41 :: R))).getD (P.length + 3 + 1 + k) 0 = B.getD k 0 := by
    intro k hk
    rw [e1, List.getD_eq_getElem?_getD, List.getD_eq_getElem?_getD, List.getElem?_append_right (by simp only [List.length_append, List.length_cons, List.length_nil]; omega), List.getElem?_append_left (by simp only [List.length_append, List.length_cons, List.length_nil]; omega)]
    congr 2
    simp only [List.length_append, List.length_cons, List.length_nil]; omega
  refine ⟨?_, ?_, ?_, ?_, ?_, ?_⟩
  · rw [e0]
    have := find_at (Y := 50 :: 50 :: 57 :: P) (R := B ++ 41 :: R) (c := 40) (by simp [h40])
    exact this
  · rw [e1]
    have := find3_at (X := (50 :: 50 :: 57 :: P) ++ [40]) (Y := B) (R := R) (c := 41) h41
    simp only [List.length_append, List.length_cons, List.length_nil] at this
    exact this
  · simp; omega
  · rw [e1, List.drop_left' (by simp), List.take_left' (by omega)]
  · exact g 0 hne
  · rw [show P.length + 3 + 1 + B.length - 1 = P.length + 3 + 1 + (B.length - 1) by omega]
    exact g _ (by omega)
end Mine
end

-- O6
section
open PySem PySem.W PyProof.Rows PySem.Calls
set_option maxRecDepth 100000
namespace Mine
section
variable {prog : Program} {w : World} {A₀ A : Around} {s : Shared} {base h₀ g₀ : Heap} {outer : List Env} {L a : Addr} {m : Str → Option Value} {cn : Str} {cs : Scope} {ccd : Value} {news : List (Addr × Obj)} {K : Frag} {p : Program} {loose : List Str} {mean : ExcName → Option Value} {mg mb : Str → Option Value}
    {R : Result → Shared → Prop} {name qual : Str} {params : Arguments} {body : List Stmt} {scope : Scope} {dV kV doc pm cdv ct oc : Value} {an od : Option Addr} {osl : Array (Option Value)} {f : Addr} {args : Args} {binds : List (Str × Value)}
theorem none_some {α : Type} {x : Option α} {y : α} (h : x = none) (h' : x = some y) : False := by
  rw [h] at h'
  cases h'
/-- a heap before the call that hides the ledger: the frame, the frames below and the dicts lie in it; and whoever leaves from a turn of it comes back to the caller's own frame and ledger -/
theorem groundS0 (B : Below A₀ base [] h₀) (F : Fr h₀ L s.heap m) (N : News h₀ L s.heap news) (hA : A.frames = some [envOf cn cs L a ccd]) (hck : cs.kind = .function) :
    Fr h₀ L (hideAll s.heap (news.map (·.1))) m ∧ Below A base [envOf cn cs L a ccd] (hideAll s.heap (news.map (·.1))) ∧ h₀.StaysIn (hideAll s.heap (news.map (·.1))) ∧ KtsDicts ([envOf cn cs L a ccd].filterMap (·.frame)) (hideAll s.heap (news.map (·.1))) ∧
      ∀ v s', LeaveS0 ([envOf cn cs L a ccd].filterMap (·.frame)) h₀ L m (hideAll s.heap (news.map (·.1))) R v s' → R (.ok (.ret v)) s' := by
  obtain ⟨oL, es, ep, at_L, is_dict, names, names', st, B'⟩ := kts_enter B F N hA hck
  have lone : ∀ b ∈ [envOf cn cs L a ccd].filterMap (·.frame), b = L := fun b hb => by
    rcases kts_mem hb with e | z
    · exact e
    · cases z
  refine ⟨⟨names _ at_L, st, F.above⟩, B', st, fun b hb => lone b hb ▸ ⟨oL, es, ep, at_L, is_dict⟩, ?_⟩
  rintro v s' ⟨g', L', m', nw, turn, F', N', back⟩
  obtain ⟨sl, here⟩ := turn.up at_L
  have old : ∀ b o, h₀.get? b = some o → g'.get? b = some o := fun b o e =>
    turn.other b o (st b o e) fun hb => none_some (kts_self F) (lone b hb ▸ e)
  refine back ⟨names' sl _ (F'.keep L _ here), fun b o e => F'.keep b o (old b o e), F.above⟩ fun p hp => ?_
  obtain ⟨there, _, new⟩ := N' p hp
  exact ⟨there, fun e => none_some (e ▸ new) here, Option.eq_none_iff_forall_not_mem.mpr fun o e => none_some new (old p.1 o e)⟩
/-- the entry of a def that may catch what a callee raises, called from the first frame, under the caller -/
theorem on_defS0 (B : Below A₀ base [] h₀) (F : Fr h₀ L s.heap m) (X₀ : K.In h₀) (N : News h₀ L s.heap news) (T : Top p loose mean mg mb h₀) (hA : A.frames = some [envOf cn cs L a ccd])
    (ho : K.lookup f = some ⟨oc, od, .func (fnOf name qual params body scope dV kV doc pm an cdv ct), osl⟩) (hcd : codeIn K cdv qual = true) (hroom : A.depth < recursionLimit)
    (hbind : BindsTo s (fnOf name qual params body scope dV kV doc pm an cdv ct) args binds) (hloc : ∀ y ∈ binds, scope.names.lookup y.1 = some .local)
    (h : ∀ g L' h₁, Fr h₀ L g m → Fr g L' h₁ (fun y => binds.reverse.lookup y) → News g L' h₁ news → Below A base [envOf cn cs L a ccd] g → K.In g → Top p loose mean mg mb g → KtsDicts ([envOf cn cs L a ccd].filterMap (·.frame)) g →
      wpOn (model prog w) (A.deeper (envOf qual scope L' f cdv)) (execs body (envOf qual scope L' f cdv))
        (fun fl s' => LeaveS0 ([envOf cn cs L a ccd].filterMap (·.frame)) h₀ L m g R (match fl with | .ret v => v | _ => .none) s')
        (fun e s' => wpAny (model prog w) (A.deeper (envOf qual scope L' f cdv)) (leaving (envOf qual scope L' f cdv) e) (fun _ s'' => R (.error e) s'') (fun e' s'' => R (.error e') s'') s')
        { s with heap := h₁, toks := s.toks + binds.length })
    (hck : cs.kind = .function) (hco : scope.isCoroutine = false) (hgen : scope.isGenerator = false) (hk : scope.kind = .function)
    (hcell : ∀ x ∈ scope.names, x.2 ≠ .cell) : codeOn (model prog w) A (.call (.ref f) args) R s := by
  obtain ⟨frame, below, st, dicts, leave⟩ := groundS0 (R := R) B F N hA hck
  refine codeOn_call_def (fd := fnOf name qual params body scope dV kV doc pm an cdv ct) (body := body) (binds := binds) hroom ((X₀.keeps F.keep) _ _ ho) rfl (T.nolimit.keeps F.keep) (codeRec_of (X₀.keeps F.keep) hcd) rfl hbind hcell hloc (fun h₁ own old => ?_) hco hgen hk
  have ledger : News (hideAll s.heap (news.map (·.1))) s.heap.objs.size h₁ news := fun p hp => ⟨old _ _ (N p hp).1, Nat.ne_of_lt (Heap.lt_size (N p hp).1), hideAll_none _ (List.mem_map_of_mem hp)⟩
  exact wpOn_mono (h _ s.heap.objs.size h₁ frame ⟨own, fun b o e => old b o (of_hideAll _ e), Nat.le_of_eq (hideAll_size _ _)⟩ ledger below (X₀.keeps st) (T.keeps st) dicts) (fun _ s' l => leave _ s' l) fun _ _ e => e
end
theorem RaisedS.sub {base G h : Heap} {l : List Env} {e t : Addr} {cls : Value} {vs : List Value} {news news' : List (Addr × Obj)} (R : RaisedS base G l e cls t vs news h) (hs : ∀ p ∈ news', p ∈ news) : RaisedS base G l e cls t vs news' h := by
  obtain ⟨⟨B, hB, hBG, hl, hfl, hnew⟩, htup⟩ := R
  exact ⟨⟨B, hB, hBG, fun q hq => hl q (hs q hq), hfl, hnew⟩, htup⟩
section
variable {M : Model} {A : Around} {E : Value → Shared → Prop} {s : Shared}
/-- a def is called with what the arguments gave -/
def CallAt (M : Model) (A : Around) (a : Addr) (first : List Value) (Q E : Value → Shared → Prop) (x : Args) (s₁ : Shared) : Prop :=
  (∃ o fd, s₁.heap.get? a = some o ∧ o.data = .func fd) ∧ wpOn M A (call (.ref a) (first ++ x.pos) x.kw) Q E s₁
theorem callWithOn_def {pos : Pos} {a : Addr} {first : List Value} {args : List (Bool × Sem Value)} {Q : Value → Shared → Prop}
    (h : wpAny M A (evalArgs (.ref a) true args []) (CallAt M A a first Q E) E s) : wpOn M A (callWith pos (.ref a) first args []) Q E s := by
  unfold callWith
  refine wpOn_bindA (wpAny_holding (wpAny_mono h (fun x s₁ h₁ => wpOn_bind (wpOn_standAt ?_)) fun _ _ x => x))
  obtain ⟨⟨o, fd, ho, hd⟩, h₁⟩ := h₁
  have tail : ∀ {t : Sem Value}, wpOn M A t Q E s₁ → wpOn M A (t >>= fun r => holding [r] point >>= fun _ => pure r) Q E s₁ :=
    fun ht => wpOn_bind (wpOn_mono ht (fun r s₂ hr => wpOn_of (wpAny_bind (wpAny_holding (wpAny_point (wpAny_pure hr))))) fun _ _ x => x)
  cases hs : args.any (·.1) <;> simp only [List.any_nil, Bool.or_false] <;>
    refine wpOn_bindA (m := keeperOf (.ref a)) ?_ <;> unfold keeperOf <;>
    refine wpAny_bind (wpAny_load ho ?_) <;> rw [hd] <;> refine wpAny_pure ?_
  all_goals first
    | exact tail h₁
    | exact tail (by unfold callMarked; exact wpOn_keep h₁)
    | (refine tail (wpOn_ite ?_); split; · exact h₁
       · unfold callMarked; exact wpOn_keep h₁)
    | (dsimp only; split <;> first
        | exact tail h₁
        | exact tail (by unfold callMarked; exact wpOn_keep h₁))
end
end Mine
end

-- A11
section
open PySem PySem.W PyProof.Rows PySem.Calls PyProof.Rows.LCg PyProof.Rows.LCt PySem.NumText
set_option maxRecDepth 100000
namespace Mine
theorem litO1 : Str.ofString "(" = S [40] := by decide +kernel
theorem litC1 : Str.ofString ")" = S [41] := by decide +kernel
def Wrap {α : Type} (P : α → Shared → Prop) : α → Shared → Prop := P
theorem wrap_in {α : Type} {M : Model} {A : Around} {t : Sem α} {Q : α → Shared → Prop} {E : Value → Shared → Prop} {s : Shared} (h : wpAny M A t (Wrap Q) E s) : wpAny M A t Q E s := h
theorem nxt {M : Model} {A : Around} {rest : List Stmt} {env : Env} {Q : Flow → Shared → Prop} {E : Value → Shared → Prop} {s : Shared} (h : wpOn M A (execs rest env) Q E s) : Nxt M A rest env Q E .next s := h
section
variable {prog : Program} {w : World} {A : Around} {E : Value → Shared → Prop} {s : Shared} {h₀ : Heap} {L d : Addr} {m : Str → Option Value} {env : Env} {news : List (Addr × Obj)} {value slice : Expr} {l B : List Nat} {pl : Nat} {x y : Str} {t u : Tok} {Q : Value → Shared → Prop}
theorem find_l (hr : R229 l B pl) (h : ∀ t' k', Q (.int ((pl : Nat) : Int) t') { s with toks := k' }) : wpAny (model prog w) A (call (.builtin "str.find") [.str (S (50 :: 50 :: 57 :: l)) t, .str (Str.ofString "(") u]) Q E s := by
  rw [litO1]
  exact SC.find (by rw [hr.find]; exact h _ _)
theorem find_r {v : Tok} (hr : R229 l B pl) (h : ∀ t' k', Q (.int ((pl + 1 + B.length : Nat) : Int) t') { s with toks := k' }) : wpAny (model prog w) A (call (.builtin "str.find") [.str (S (50 :: 50 :: 57 :: l)) t, .str (Str.ofString ")") u, .int (((pl : Nat) : Int) + 1) v]) Q E s := by
  rw [litC1]
  exact SC.find3 (by rw [hr.find2]; exact h _ _)
theorem item_fst {v : Tok} (hr : R229 l B pl) (hl : l.length ≤ 90000) (h : ∀ t' k, Q (.str (S [B.getD 0 0]) t') { s with toks := k })
    (hs : subscripted slice false (.str (S (50 :: 50 :: 57 :: l)) t) (.int (((pl : Nat) : Int) + 1) v) = operate [.str (S (50 :: 50 :: 57 :: l)) t, .int (((pl : Nat) : Int) + 1) v] (getItem (.str (S (50 :: 50 :: 57 :: l)) t) (.int (((pl : Nat) : Int) + 1) v))) (ht : ∀ r, letTemporaryGo value (.str (S (50 :: 50 :: 57 :: l)) t) r = pure ()) :
    wpAny (model prog w) A (subscriptTail value slice (.str (S (50 :: 50 :: 57 :: l)) t) (.int (((pl : Nat) : Int) + 1) v)) Q E s := by
  have hlen := hr.len
  refine item_S (by omega) (by simp only [List.length_cons]; omega) (by simp only [List.length_cons]; omega) (fun t' k => ?_) hs ht
  rw [show (((pl : Nat) : Int) + 1).toNat = pl + 1 by omega, hr.fst]
  exact h t' k
theorem item_lst {v : Tok} (hr : R229 l B pl) (hB : 0 < B.length) (hl : l.length ≤ 90000) (h : ∀ t' k, Q (.str (S [B.getD (B.length - 1) 0]) t') { s with toks := k })
    (hs : subscripted slice false (.str (S (50 :: 50 :: 57 :: l)) t) (.int (((pl + 1 + B.length : Nat) : Int) - 1) v) = operate [.str (S (50 :: 50 :: 57 :: l)) t, .int (((pl + 1 + B.length : Nat) : Int) - 1) v] (getItem (.str (S (50 :: 50 :: 57 :: l)) t) (.int (((pl + 1 + B.length : Nat) : Int) - 1) v))) (ht : ∀ r, letTemporaryGo value (.str (S (50 :: 50 :: 57 :: l)) t) r = pure ()) :
    wpAny (model prog w) A (subscriptTail value slice (.str (S (50 :: 50 :: 57 :: l)) t) (.int (((pl + 1 + B.length : Nat) : Int) - 1) v)) Q E s := by
  have hlen := hr.len
  refine item_S (by omega) (by simp only [List.length_cons]; omega) (by simp only [List.length_cons]; omega) (fun t' k => ?_) hs ht
  rw [show (((pl + 1 + B.length : Nat) : Int) - 1).toNat = pl + 1 + B.length - 1 by omega, hr.lst]
  exact h t' k
theorem cut_229 {ui uj : Tok} (hr : R229 l B pl) (hl : l.length ≤ 90000) (F : Fr h₀ L s.heap m) (N : News h₀ L s.heap news) (h : ∀ h' t' tk, Fr h₀ L h' m → News h₀ L h' news → Q (.str (S B) t') { s with heap := h', toks := tk })
    (hs : subscripted slice false (.str (S (50 :: 50 :: 57 :: l)) t) (.ref s.heap.objs.size) = operate [.ref s.heap.objs.size, .str (S (50 :: 50 :: 57 :: l)) t] (getItem (.str (S (50 :: 50 :: 57 :: l)) t) (.ref s.heap.objs.size))) (ht : ∀ r, letTemporaryGo value (.str (S (50 :: 50 :: 57 :: l)) t) r = pure ()) :
    wpAny (model prog w) A (subscriptTail value slice (.str (S (50 :: 50 :: 57 :: l)) t) (.ref s.heap.objs.size)) Q E { s with heap := s.heap.push { cls := .type "slice", data := .fields #[.int (((pl : Nat) : Int) + 1) ui, .int ((pl + 1 + B.length : Nat) : Int) uj, .none] } } := by
  have hlen := hr.len
  refine cut_ss F N (by omega) (by omega) (by simp only [List.length_cons]; omega) (by simp only [List.length_cons]; omega) (fun h' t' tk F' N' => ?_) hs ht
  rw [show (((pl : Nat) : Int) + 1).toNat = pl + 1 by omega, Int.toNat_natCast, hr.cut]
  exact h h' t' tk F' N'
/-- a text cut at a sign -/
theorem split_S {c : Nat} (F : Fr h₀ L s.heap m) (N : News h₀ L s.heap news) (hl : B.length ≤ 90000)
    (h : ∀ (D : Addr) (ys : List Value) (k : Nat) h' tk, StrsAre ys ((segs c B).map S) → Fr h₀ L h' m → News h₀ L h' ((D, listOf ys.toArray k) :: news) → (∀ p ∈ news, p.1 < D) → Q (.ref D) { s with heap := h', toks := tk }) :
    wpAny (model prog w) A (call (.builtin "str.split") [.str (S B) t, .str (S [c]) u]) Q E s := by
  refine splitN1A F N rfl (fun ls h' k e hS _ _ F' N' => ?_) (by rw [S_len, sizeLine_eq]; omega)
  rw [e, split_segs] at hS
  exact h _ _ _ h' k hS F' N' fun p hp => Heap.lt_size (N p hp).1
theorem strs_len : ∀ {ys : List Value} {xs : List Str}, StrsAre ys xs → ys.length = xs.length
  | _, _, .nil => rfl
  | _, _, .cons _ _ r => by simp [strs_len r]
theorem len_strs {D : Addr} {ys : List Value} {k : Nat} (N : News h₀ L s.heap news) (hm : (D, listOf ys.toArray k) ∈ news) (hl : ys.length ≤ 100000) (h : ∀ t' k, Q (.int (ys.length : Int) t') { s with toks := k }) : wpAny (model prog w) A (call (.builtin "len") [.ref D]) Q E s := by
  have hL : s.heap.IsList D ys.toArray := ⟨_, (N _ hm).1, rfl, _, rfl⟩
  exact Calls.call_len_list hL (by show ((ys.length : Nat) : Int) < _; omega) (h _ _)
/-- a piece -/
theorem item_piece {D : Addr} {ys : List Value} {xs : List (List Nat)} {n : Nat} {i : Int} {v : Tok} {p : List Nat} (N : News h₀ L s.heap news) (hm : (D, listOf ys.toArray n) ∈ news) (hx : StrsAre ys (xs.map S)) (h0 : 0 ≤ i) (h1 : i < 100) (hp : xs[i.toNat]? = some p)
    (h : ∀ t', Q (.str (S p) t') s)
    (hs : subscripted slice false (.ref D) (.int i v) = operate [.ref D, .int i v] (getItem (.ref D) (.int i v))) :
    wpAny (model prog w) A (subscriptTail value slice (.ref D) (.int i v)) Q E s := by
  have hL : s.heap.IsList D ys.toArray := ⟨_, (N _ hm).1, rfl, n, rfl⟩
  obtain ⟨t', ht'⟩ := hx.at (j := i.toNat) (y := S p) (by simp [hp])
  exact tail_any hL.typeIs slot_list_getitem.lookup (wpAny_getItem_list hL h0 (by omega) (by simpa using ht') (h t')) hs
end
end Mine
end

-- G0
section
open PySem PySem.W PyProof.Rows PySem.Calls PyProof.Rows.LCg PyProof.Rows.LCt PySem.NumText
namespace Mine
set_option maxRecDepth 100000
set_option maxHeartbeats 4000000

def tupO (vs : List Value) : Obj := { cls := .type "tuple", data := .seq vs.toArray }
section
variable {prog : Program} {w : World} {A : Around} {E : Value → Shared → Prop} {s : Shared} {h₀ : Heap} {L : Addr} {news : List (Addr × Obj)} {value slice : Expr} {Q : Value → Shared → Prop}
theorem args_one {M : Model} {A : Around} {env : Env} {s : Shared} {f : Value} {e : Expr} {pos : Pos} {Q : Args → Shared → Prop} (h : wpAny M A (eval e env) (fun v s₁ => Q ⟨[v], []⟩ s₁) E s) (he : starEach [e] env = [(false, eval e env)]) :
    wpAny M A (evalArgs f true (backTo pos (starEach [e] env)) []) Q E s := by
  rw [he]
  exact Calls.evalArgs_plain (Calls.spliced_cons (wpAny_mono h (fun _ _ q => Calls.spliced_nil q) fun _ _ e => e))
theorem args_two {M : Model} {A : Around} {env : Env} {s : Shared} {f : Value} {e e' : Expr} {pos : Pos} {Q : Args → Shared → Prop} (h : wpAny M A (eval e env) (fun v s₁ => wpAny M A (eval e' env) (fun v' s₂ => Q ⟨[v, v'], []⟩ s₂) E s₁) E s) (he : starEach [e, e'] env = [(false, eval e env), (false, eval e' env)]) :
    wpAny M A (evalArgs f true (backTo pos (starEach [e, e'] env)) []) Q E s := by
  rw [he]
  exact Calls.evalArgs_plain (Calls.spliced_cons (wpAny_mono h (fun _ _ q => Calls.spliced_cons (wpAny_mono q (fun _ _ q => Calls.spliced_nil q) fun _ _ e => e)) fun _ _ e => e))
theorem item_peer {tp : Addr} {x y : Value} {v : Tok} (N : News h₀ L s.heap news) (hm : (tp, tupO [x, y]) ∈ news) (h : Q x s)
    (hs : subscripted slice false (.ref tp) (.int 0 v) = operate [.ref tp, .int 0 v] (getItem (.ref tp) (.int 0 v))) :
    wpAny (model prog w) A (subscriptTail value slice (.ref tp) (.int 0 v)) Q E s := by
  have ht : IsTup s.heap tp [x, y].toArray := ⟨_, (N _ hm).1, rfl, _, rfl⟩
  exact tail_any ht.typeIs slot_tuple_getitem.lookup (getItem_tuple (j := 0) ht (by decide) (by decide) (by show seqIndex? 0 2 = some 0; decide) rfl h) hs
end


local macro_rules | `(tactic| k_all) => `(tactic| assumption)


local macro_rules | `(tactic| walk_at $s:str) => `(tactic| k_extra $s)
theorem rules_G0 : True := by
  w_top off
  k_with_none
  (k_with "compareOp Eq str str" => ((k_here; (with_reducible refine eq_S ?_); (simp only [cs_S, lit257, lit229, litBQ, litQ, litE, Int.reduceToNat, List.take_succ_cons, List.take_zero, List.drop_succ_cons, List.drop_zero, Nat.reduceSub, decide_true, Bool.not_true, Bool.not_false]))))
  (k_with "compareOp NotEq str str" => ((k_here; (with_reducible refine ne_S ?_); (simp only [cs_S, lit257, lit229, litBQ, litQ, litE, Int.reduceToNat, List.take_succ_cons, List.take_zero, List.drop_succ_cons, List.drop_zero, Nat.reduceSub, decide_true, Bool.not_true, Bool.not_false]))))
  (k_with "binaryOp Add str str" => ((k_here; (with_reducible refine' add_S ?zzhsz ?_); (case zzhsz => k_dflt ((simp only [cs_S, lit257, lit229, litBQ, litQ, litE, litQB, litEnd, List.length_cons, List.length_nil, List.length_append]); omega)); intro zzt' zztk'; (simp only [cs_S, lit257, lit229, litBQ, litQ, litE, litQB, litEnd]))))
  (k_with "call builtin:len" => ((k_here; (with_reducible refine' len_S ?zzhl ?_); (case zzhl => k_dflt ((try simp only [List.length_cons, List.length_nil, List.length_append] at *); omega)); intro zzt' zztk')))
  (k_with "subscriptTail" => ((k_here; (with_reducible show wpAny _ _ (subscriptTail _ (Expr.Slice none (some _) none _) (Value.str _ _) (Value.ref _)) _ _ _); (with_reducible rename Fr _ _ _ _ => zzkF); (with_reducible rename News _ _ _ _ => zzkN); (refine' cut_ns (s := ⟨_, _, _, _, _⟩) zzkF zzkN ?zzh0 ?zzhk ?zzhl ?_ ?zzhs ?zzht); k_dflt ((case zzh0 => omega); (case zzhk => (try simp only [List.length_cons, List.length_nil, List.length_append] at *); omega); (case zzhl => (try simp only [List.length_cons, List.length_nil, List.length_append] at *); omega); (case zzhs => with_unfolding_all rfl); (case zzht => intro _; with_unfolding_all rfl)); intro zzh' zzt' zztk' zzF' zzN'; (try k_sweep))))
  (k_with "subscriptTail" => ((k_here; (with_reducible show wpAny _ _ (subscriptTail _ (Expr.Slice (some _) (some _) none _) (Value.str _ _) (Value.ref _)) _ _ _); (with_reducible rename Fr _ _ _ _ => zzkF); (with_reducible rename News _ _ _ _ => zzkN); (refine' cut_ss (s := ⟨_, _, _, _, _⟩) zzkF zzkN ?zzh0 ?zzhk ?zzhj ?zzhl ?_ ?zzhs ?zzht); k_dflt ((case zzh0 => omega); (case zzhk => omega); (case zzhj => (try simp only [List.length_cons, List.length_nil, List.length_append] at *); omega); (case zzhl => (try simp only [List.length_cons, List.length_nil, List.length_append] at *); omega); (case zzhs => with_unfolding_all rfl); (case zzht => intro _; with_unfolding_all rfl)); intro zzh' zzt' zztk' zzF' zzN'; (try k_sweep))))
  (k_with "subscriptTail" => ((k_here; (with_reducible show wpAny _ _ (subscriptTail _ _ (Value.str _ _) (Value.int _ _)) _ _ _); (with_reducible refine' item_S ?zzh0 ?zzh1 ?zzhl ?_ ?zzhs ?zzht); k_dflt ((case zzh0 => omega); (case zzh1 => (try simp only [List.length_cons, List.length_nil, List.length_append] at *); omega); (case zzhl => (try simp only [List.length_cons, List.length_nil, List.length_append] at *); omega); (case zzhs => with_unfolding_all rfl); (case zzht => intro _; with_unfolding_all rfl)); intro zzt' zztk')))
  (k_with "subscriptTail Name Name str int" => ((k_here; (with_reducible show wpAny _ _ (subscriptTail _ _ (Value.str _ _) (Value.int _ _)) _ _ _); (with_reducible refine' item_S ?zzh0 ?zzh1 ?zzhl ?_ ?zzhs ?zzht); k_dflt ((case zzh0 => omega); (case zzh1 => (try simp only [List.length_cons, List.length_nil, List.length_append] at *); omega); (case zzhl => (try simp only [List.length_cons, List.length_nil, List.length_append] at *); omega); (case zzhs => with_unfolding_all rfl); (case zzht => intro _; with_unfolding_all rfl)); intro zzt' zztk')))
  (k_with "subscriptTail Name BinOp str int" => ((k_here; (with_reducible show wpAny _ _ (subscriptTail _ _ (Value.str _ _) (Value.int _ _)) _ _ _); (with_reducible refine' item_S ?zzh0 ?zzh1 ?zzhl ?_ ?zzhs ?zzht); k_dflt ((case zzh0 => omega); (case zzh1 => (try simp only [List.length_cons, List.length_nil, List.length_append] at *); omega); (case zzhl => (try simp only [List.length_cons, List.length_nil, List.length_append] at *); omega); (case zzhs => with_unfolding_all rfl); (case zzht => intro _; with_unfolding_all rfl)); intro zzt' zztk')))
  (k_with "subscriptTail Name Constant str int" => ((k_here; (with_reducible show wpAny _ _ (subscriptTail _ _ (Value.str _ _) (Value.int _ _)) _ _ _); (with_reducible refine' item_S ?zzh0 ?zzh1 ?zzhl ?_ ?zzhs ?zzht); k_dflt ((case zzh0 => omega); (case zzh1 => (try simp only [List.length_cons, List.length_nil, List.length_append] at *); omega); (case zzhl => (try simp only [List.length_cons, List.length_nil, List.length_append] at *); omega); (case zzhs => with_unfolding_all rfl); (case zzht => intro _; with_unfolding_all rfl)); intro zzt' zztk')))
  (k_with "subscriptTail Constant BinOp str int" => ((k_here; (with_reducible show wpAny _ _ (subscriptTail _ _ (Value.str _ _) (Value.int _ _)) _ _ _); (with_reducible refine' item_S ?zzh0 ?zzh1 ?zzhl ?_ ?zzhs ?zzht); k_dflt ((case zzh0 => omega); (case zzh1 => (try simp only [List.length_cons, List.length_nil, List.length_append] at *); omega); (case zzhl => (try simp only [List.length_cons, List.length_nil, List.length_append] at *); omega); (case zzhs => with_unfolding_all rfl); (case zzht => intro _; with_unfolding_all rfl)); intro zzt' zztk')))
  (k_with "call builtin:str.find" => ((k_here; (with_reducible refine' find_l ?zzhr ?_); (case zzhr => assumption); intro zzt' zztk')))
  (k_with "call builtin:str.find" => ((k_here; (with_reducible refine' find_r ?zzhr ?_); (case zzhr => assumption); intro zzt' zztk')))
  (k_with "subscriptTail" => ((k_here; (with_reducible refine' item_fst ?zzhr ?zzhl ?_ ?zzhs ?zzht); k_dflt ((case zzhr => assumption); (case zzhl => omega); (case zzhs => with_unfolding_all rfl); (case zzht => intro _; with_unfolding_all rfl)); intro zzt' zztk')))
  (k_with "subscriptTail" => ((k_here; (with_reducible refine' item_lst ?zzhr ?zzhB ?zzhl ?_ ?zzhs ?zzht); k_dflt ((case zzhr => assumption); (case zzhB => assumption); (case zzhl => omega); (case zzhs => with_unfolding_all rfl); (case zzht => intro _; with_unfolding_all rfl)); intro zzt' zztk')))
  (k_with "subscriptTail Name BinOp str int" => ((k_here; (with_reducible refine' item_fst ?zzhr ?zzhl ?_ ?zzhs ?zzht); k_dflt ((case zzhr => assumption); (case zzhl => omega); (case zzhs => with_unfolding_all rfl); (case zzht => intro _; with_unfolding_all rfl)); intro zzt' zztk')))
  (k_with "subscriptTail Name BinOp str int" => ((k_here; (with_reducible refine' item_lst ?zzhr ?zzhB ?zzhl ?_ ?zzhs ?zzht); k_dflt ((case zzhr => assumption); (case zzhB => assumption); (case zzhl => omega); (case zzhs => with_unfolding_all rfl); (case zzht => intro _; with_unfolding_all rfl)); intro zzt' zztk')))
  (k_with "subscriptTail" => ((k_here; (with_reducible show wpAny _ _ (subscriptTail _ (Expr.Slice (some _) (some _) none _) (Value.str _ _) (Value.ref _)) _ _ _); (with_reducible rename Fr _ _ _ _ => zzkF); (with_reducible rename News _ _ _ _ => zzkN); (refine' cut_229 (s := ⟨_, _, _, _, _⟩) ?zzhr ?zzhl zzkF zzkN ?_ ?zzhs ?zzht); k_dflt ((case zzhr => assumption); (case zzhl => omega); (case zzhs => with_unfolding_all rfl); (case zzht => intro _; with_unfolding_all rfl)); intro zzh' zzt' zztk' zzF' zzN'; (try k_sweep))))
  (k_with "call builtin:str.split" => ((k_here; (with_reducible rename Fr _ _ _ _ => zzkF); (with_reducible rename News _ _ _ _ => zzkN); (with_reducible refine' split_S zzkF zzkN ?zzhl ?_); k_dflt ((case zzhl => omega)); intro zzD' zzys' zzk' zzh' zztk' zzhS' zzF' zzN' zzl1; (try k_lt zzl1); (try k_sweep))))
  (k_with "call builtin:len" => ((k_here; (with_reducible rename News _ _ _ _ => zzkN); (with_reducible refine' len_strs zzkN ?zzhm ?zzhl ?_); k_dflt ((case zzhm => repeat' (first | assumption | exact List.Mem.head _ | refine List.mem_cons_of_mem _ ?_)); (case zzhl => (rw [strs_len (by assumption), List.length_map]; omega))); intro zzt' zztk')))
  (k_with "subscriptTail" => ((k_here; (with_reducible show wpAny _ _ (subscriptTail (Expr.Name (Str.ofString "parts") _) _ (Value.ref _) (Value.int _ _)) _ _ _); (with_reducible rename News _ _ _ _ => zzkN); (with_reducible refine' item_piece zzkN ?zzm ?zzhx ?zzh0 ?zzh1 ?zzhp ?_ ?zzhs); k_dflt ((case zzhx => assumption); (case zzm => repeat' (first | assumption | exact List.Mem.head _ | refine List.mem_cons_of_mem _ ?_)); (case zzh0 => decide); (case zzh1 => decide); (case zzhp => rfl); (case zzhs => with_unfolding_all rfl)); intro zzt')))
  (k_with "subscriptTail" => ((k_here; (with_reducible show wpAny _ _ (subscriptTail (Expr.Name (Str.ofString "peer") _) _ (Value.ref _) (Value.int _ _)) _ _ _); (with_reducible rename News _ _ _ _ => zzkN); (with_reducible refine' item_peer zzkN ?zzm ?_ ?zzhs); k_dflt ((case zzm => repeat' (first | assumption | exact List.Mem.head _ | refine List.mem_cons_of_mem _ ?_)); (case zzhs => with_unfolding_all rfl)))))
  (k_with "subscriptTail Name Constant ref int" => ((k_here; (with_reducible show wpAny _ _ (subscriptTail (Expr.Name (Str.ofString "parts") _) _ (Value.ref _) (Value.int _ _)) _ _ _); (with_reducible rename News _ _ _ _ => zzkN); (with_reducible refine' item_piece zzkN ?zzm ?zzhx ?zzh0 ?zzh1 ?zzhp ?_ ?zzhs); k_dflt ((case zzhx => assumption); (case zzm => repeat' (first | assumption | exact List.Mem.head _ | refine List.mem_cons_of_mem _ ?_)); (case zzh0 => decide); (case zzh1 => decide); (case zzhp => rfl); (case zzhs => with_unfolding_all rfl)); intro zzt')))
  (k_with "subscriptTail Name Constant ref int" => ((k_here; (with_reducible show wpAny _ _ (subscriptTail (Expr.Name (Str.ofString "peer") _) _ (Value.ref _) (Value.int _ _)) _ _ _); (with_reducible rename News _ _ _ _ => zzkN); (with_reducible refine' item_peer zzkN ?zzm ?_ ?zzhs); k_dflt ((case zzm => repeat' (first | assumption | exact List.Mem.head _ | refine List.mem_cons_of_mem _ ?_)); (case zzhs => with_unfolding_all rfl)))))
  (k_with "call type:int" => ((k_here; (with_reducible refine' KIN.call_text ?zzhn ?zzhl ?_); k_dflt ((case zzhn => assumption); (case zzhl => (simp only [S_len]; omega))))))
  (k_with "leaving ref" => ((k_here; refine hold_in ?_)))
  trivial

theorem rest_ne {c : Nat} {B T : List Nat} (h : B.getD (B.length - 1) 0 ≠ c) : rest229 c B T = [.str (Str.ofString "error_proto"), .str (S ([50, 50, 57] ++ T))] := by
  by_cases h5 : (segs c B).length = 5
  · match e : segs c B, h5 with
    | [a0, a1, a2, a3, a4], _ => exact rest_more e fun q => h ((five_last e).mpr q)
  · exact rest_no h5
theorem segs_len (c : Nat) : ∀ l : List Nat, (segs c l).length ≤ l.length + 1
  | [] => by simp [segs]
  | d :: r => by
    have := segs_len c r
    unfold segs
    split
    · simp; omega
    · split
      · simp
      · rename_i e; rw [e] at this; simp at this ⊢; omega
section
variable (w : World) (mean : ExcName → Option Value) (mg mb : Str → Option Value) (news : List (Addr × Obj)) (t u1 u2 : Tok)
theorem heard229 {l B : List Nat} {pl : Nat} {tp : Addr} (hm : (tp, tupO [.str (Str.ofString "::1") u1, .int 21 u2]) ∈ news) (hr : R229 l B pl) (hB : 0 < B.length) (hBl : B.length ≤ 600) (hl : l.length ≤ 2000)
    (hfive : ∀ a0 a1 a2 a3, segs (B.getD 0 0) B = [a0, a1, a2, a3, []] → (∀ c ∈ a3, c ∈ alph) ∧ ∃ z d, a3 = z ++ [d] ∧ 48 ≤ d ∧ d ≤ 57)
    (dp un : Nat) (gd : Option (List Code)) (cn : Str) (cs : Scope) (a : Addr) (ccd : Value) (outer : List Env) (A₀ : Around) (base h₀ : Heap) (L : Addr) (m : Str → Option Value) (s : Shared) (Q E : Value → Shared → Prop)
    (B₀ : Below A₀ base outer h₀) (F₀ : Fr h₀ L s.heap m) (X₀ : (hd.heap_39 w.params).In h₀) (N₀ : News h₀ L s.heap news) (T₀ : Top hd.view_39 (looseW hd.view_39 []) mean mg mb h₀) (hk : cs.kind = .function)
    (hdp : dp + 2 < recursionLimit) (hun : un + 64 < cLine)
    (hret : ∀ (D D2 : Addr) (o2 : Obj) (n : Int) (u' : Tok) (h' : Heap) (tk' : Nat), Fr h₀ L h' m → News h₀ L h' ((D, { cls := .type "tuple", data := .seq #[.str (Str.ofString "::1") u1, .int n u'] }) :: (D2, o2) :: news) → (∀ p ∈ news, p.1 < D2) → D2 < D → rest229 (B.getD 0 0) B l = [.tuple [.str (Str.ofString "::1"), .int n]] → Q (.ref D) { s with heap := h', toks := tk' })
    (herr1 : ∀ (e t : Addr) (u : Tok) (G h' : Heap) (tk' : Nat), Fr h₀ L G m → RaisedS base G (envOf cn cs L a ccd :: outer) e (.ref 49) t [.str (S (50 :: 50 :: 57 :: l)) u] news h' → G.UpToSlots h' → rest229 (B.getD 0 0) B l = [.str (Str.ofString "error_proto"), .str (S ([50, 50, 57] ++ l))] → E (.ref e) { s with heap := h', toks := tk' })
    (herr2 : ∀ (e t : Addr) (vs : List Value) (G h' : Heap) (tk' : Nat), Fr h₀ L G m → RaisedS base G (envOf cn cs L a ccd :: outer) e (.type "ValueError") t vs news h' → G.UpToSlots h' → rest229 (B.getD 0 0) B l = [.str (Str.ofString "ValueError")] → E (.ref e) { s with heap := h', toks := tk' }) :
    wpOn (model Challenge.rw_pe0131_01.row.prog w) (ktrTop dp un gd cn cs L a ccd [] outer) (call (.ref 58) [.str (S (50 :: 50 :: 57 :: l)) t, .ref tp]) Q E s := by
  have hlen := hr.len
  revert F₀ X₀ N₀ T₀ B₀
  k_fill
  intro B₀ F₀ X₀ N₀ T₀
  refine wpOn_call ?_
  (k_dflt (refine' on_def ?k1 ?k2 ?k3 ?k4 ?k5 ?kA ?kF ?kK ?k6 ?k7 ?k8 ?k9 ?kB ?_ ?c2 ?c3 ?c4 ?c5; (case kA => exact rfl); (case kF => exact rfl); (case kK => assumption); (case k1 => k_asm); (case k2 => k_asm); (case k3 => k_asm); (case k4 => k_asm); (case k5 => k_asm); (case k6 => k_is); (case k7 => k_is); (case k8 => ktr_room); (case k9 => exact BindsTo.of_eq rfl); (case c5 => decide); (case kB => exact locs rfl); (case c2 => exact rfl); (case c3 => exact rfl); (case c4 => exact rfl); k_whole; intro g' L' h' FG' F' N' B' X' T'; (try dsimp only); (try k_lift B'); (try k_fold)))
  refine execsOn_consA ?_
  k_steps
  refine nxt ?_
  (try dsimp only)
  refine execsOn_consA ?_
  k_steps
  refine nxt ?_
  (try dsimp only)
  refine execsOn_consA ?_
  k_steps
  refine nxt ?_
  (try dsimp only)
  refine execsOn_consA ?_
  k_steps
  refine nxt ?_
  (try dsimp only)
  refine execsOn_consA ?_
  k_steps
  refine nxt ?_
  (try dsimp only)
  refine execsOn_consA ?_
  k_steps
  · refine nxt ?_
    (try dsimp only)
    have hsl := segs_len (B.getD 0 0) B
    refine execsOn_consA ?_
    k_steps
    refine nxt ?_
    (try dsimp only)
    refine execsOn_consA ?_
    k_steps
    · unfold Hold
      (rename Heap.MadeExcOf _ _ _ _ _ => mx)
      refine leave_raiseS B' mx (by assumption) (by assumption) (fun h9 t9 R9 _ U9 => ?_) rfl
      refine herr1 _ _ _ _ _ _ FG' (RaisedS.sub R9 fun p hp => .tail _ hp) U9 (rest_no ?_)
      have e5 := strs_len (by assumption)
      rw [List.length_map] at e5
      omega
    · refine nxt ?_
      (try dsimp only)
      (rename StrsAre _ _ => hS9)
      have e5 := strs_len hS9
      rw [List.length_map] at e5
      obtain ⟨a0, a1, a2, a3, a4, hsg⟩ := len5 (l := segs (B.getD 0 0) B) (by omega)
      have e6 : [B.getD 0 0] = [B.getD (B.length - 1) 0] := of_decide_eq_true (by assumption)
      obtain rfl : a4 = [] := (five_last hsg).mp (List.cons.inj e6).1.symm
      obtain ⟨hPa, hPz⟩ := hfive _ _ _ _ hsg
      have hBe := congrArg List.length (five hsg).1
      simp only [List.length_append, List.length_cons] at hBe
      have hPl : a3.length ≤ 640 := by omega
      rw [hsg] at hS9
      have hrp : rest229 (B.getD 0 0) B l = [portDat a3] := rest_port hsg
      refine execsOn_consA ?_
      k_steps
      refine nxt ?_
      (try dsimp only)
      by_cases hAD : AllDigits (a3.dropWhile blank)
      · have hint := int_good hPa hPz hAD hPl
        rw [portDat_num hPz hAD] at hrp
        refine wpOn_of ?_
        k_steps
        (rename _ ∧ AllLt _ _ => l9); (rename ∀ p ∈ news, p.1 < _ => l8)
        exact hret _ _ _ _ _ _ _ (by assumption) (by assumption) l8 l9.1 hrp
      · rw [portDat_bad hAD] at hrp
        refine execsOn_cons (assignOn_Name (evalCallOn ?_))
        k_steps
        refine callWithOn_type rfl (args_one ?_ rfl)
        k_steps
        (rename Fr g' _ _ _ => F1); (rename News g' _ _ _ => N1)
        refine int_bad ?hh hPa hPz hAD hPl ?_
        case hh => rfl
        intro h9 e9 tk9 args9 mx
        refine leave_raiseS B' (Heap.MadeExc.of mx) F1 N1 (fun h8 t8 R8 _ U8 => ?_) rfl
        exact herr2 _ _ _ _ _ _ FG' (RaisedS.sub R8 fun p hp => .tail _ hp) U8 hrp
  · unfold Hold
    (rename Heap.MadeExcOf _ _ _ _ _ => mx)
    refine leave_raiseS B' mx (by assumption) (by assumption) (fun h9 t9 R9 _ U9 => ?_) rfl
    exact herr1 _ _ _ _ _ _ FG' R9 U9 (rest_ne fun e => absurd (congrArg (fun x => [x]) e.symm) (of_decide_eq_false (by assumption)))
end
end Mine
end

-- A12
section
open PySem PySem.W PyProof.Rows PySem.Calls
set_option maxRecDepth 100000
namespace Mine
open Builtin Builtin.Str Builtin.BaseException
theorem bexc_plain : plainId "BaseException.__str__" = true := by decide +kernel
theorem bexc_bind (self : Value) : bindSpecial (.builtin "BaseException.__str__") self = pure (.builtin "BaseException.__str__", [self]) := by
  have h : typeOf (.builtin "BaseException.__str__") = pure (.type "wrapper_descriptor") := by show builtinType _ = _; rw [builtinType_eq_fast]; kernel_rfl
  unfold bindSpecial
  rw [h]
  rfl
section
variable {prog : Program} {w : World} {A : Around} {E : Value → Shared → Prop} {s : Shared} {K : Frag} {e t0 C : Addr} {oe : Obj} {ws : Array Value} {m : PySem.Str} {tk : Tok} {Q : Value → Shared → Prop}
theorem exc_str_entry {Q : Fin → Shared → Prop} (he : s.heap.get? e = some oe) (hd : oe.data = .fields ws) (h0 : ws[0]? = some (.ref t0)) (ht : s.heap.TupAt t0 [.str m tk]) (hq : Q (.done (.ret (.str m tk))) s) :
    wpAny (model prog w) A (Builtin.«BaseException.__str__» ⟨[.ref e], []⟩) Q E s := by
  unfold Builtin.«BaseException.__str__»
  have ha : ∀ {Q' : Value × List Value → Shared → Prop}, Q' (.ref t0, [.str m tk]) s → wpAny (model prog w) A (bexcArgs (.ref e)) Q' E s := by
    intro Q' hq'
    obtain ⟨ot, k, hto, _, htd⟩ := ht
    unfold bexcArgs
    exact wpAny_bind (wpAny_field he hd h0 (wpAny_bind (wpAny_seqItems hto htd (wpAny_pure hq'))))
  repeat (first | with_reducible refine ha ?_ | wp_step)
  exact hq
theorem exc_str_call (X : K.In s.heap) (he : s.heap.get? e = some oe) (hc : oe.cls = .ref C) (hd : oe.data = .fields ws) (h0 : ws[0]? = some (.ref t0)) (ht : s.heap.TupAt t0 [.str m tk])
    (hm : mroIn K C (.type "BaseException") = some true) (h : Q (.str m tk) s) : wpAny (model prog w) A (call (.builtin "BaseException.__str__") [.ref e]) Q E s := by
  have LT : ∀ M : Model, Looks M s.heap (typeOf (.ref e)) (.ref C) := fun M => by rw [← hc]; exact (Looks.ld he).andThen .now
  refine wpAny_call (codeAny_call_builtin bexc_plain PySem.F.entry_bexc_str (check_slot (i := "BaseException.__str__") (owner := "BaseException") (n := "__str__") (by decide +kernel) (by decide +kernel) ((LT _).andThen (looks_mroIn X hm)) (PySem.F.args_bexc_str _) ?_))
  exact exc_str_entry he hd h0 ht h
theorem exc_strOf (hu : A.units < cLine) (X : K.In s.heap) (he : s.heap.get? e = some oe) (hc : oe.cls = .ref C) (hd : oe.data = .fields ws) (h0 : ws[0]? = some (.ref t0)) (ht : s.heap.TupAt t0 [.str m tk])
    (hs : findIn K (.ref C) "__str__" = some (some (.builtin "BaseException.__str__"))) (hm : mroIn K C (.type "BaseException") = some true) (h : Q (.str m tk) s) : wpAny (model prog w) A (Builtin.Str.strOf (.ref e)) Q E s := by
  have LT : ∀ M : Model, Looks M s.heap (typeOf (.ref e)) (.ref C) := fun M => by rw [← hc]; exact (Looks.ld he).andThen .now
  unfold Builtin.Str.strOf
  rw [show isExactStr (.ref e) = false from rfl]
  refine wpAny_bind (m := cRoomFor _ _) (wpAny_cRoomFor hu ?_)
  refine wpAny_bind (m := callSpecial? (.ref e) (Str.ofString "__str__")) ?_
  refine wpAny_bind (wpAny_bind ((LT _).here ((looks_findIn X hs).here (wpAny_holding (wpAny_bind ((Looks.of_pure (bexc_bind _)).here (wpAny_bind (exc_str_call X he hc hd h0 ht hm (wpAny_pure ?_)))))))))
  exact wpAny_pure h
/-- str of an own exception that bears one text -/
theorem exc_str (hu : A.in1.in1.units < cLine) (X : K.In s.heap) (he : s.heap.get? e = some oe) (hc : oe.cls = .ref C) (hd : oe.data = .fields ws) (h0 : ws[0]? = some (.ref t0)) (ht : s.heap.TupAt t0 [.str m tk])
    (hs : findIn K (.ref C) "__str__" = some (some (.builtin "BaseException.__str__"))) (hm : mroIn K C (.type "BaseException") = some true) (h : Q (.str m tk) s) : wpAny (model prog w) A (call (.type "str") [.ref e]) Q E s := by
  refine callType_codes (T := "str") (Bi := Builtin.«object.__init__») (Q₁ := fun r s₁ => ∃ y u, r = .str y u ∧ Q r s₁) PySem.F.called_str (PySem.F.typeCall_str_1 _) PySem.F.entry_object_init ?_ ?_
  · refine codeAny_of_tree ?_
    show wpAny _ A.in1.in1 (do checkBuiltinCall "str.__new__" ⟨[.type "str", .ref e], []⟩; again (.builtin "str.__new__" ⟨[.type "str", .ref e], []⟩)) _ _ s
    refine wpAny_bind (wpAny_of_eq (PySem.F.newCall_str_1 _) (wpAny_pure ⟨plainId_quiet (by decide +kernel) _, codeAny_builtin PySem.F.entry_str_new ?_⟩))
    rw [Around.under_plainId (by decide +kernel) _]
    rw [str_new_tree]
    refine wpAny_bind (wpAny_pure ?_)
    refine wpAny_bind (wpAny_of_eq isSubtype_str_str ?_)
    exact wpAny_bind (exc_strOf (Q := fun r s₁ => wpAny _ _ _ _ _ _) hu X he hc hd h0 ht hs hm (wpAny_pure ⟨_, _, rfl, h⟩))
  · rintro obj s₁ ⟨y, u, rfl, hq⟩
    exact ⟨typeIs_str _ _ _, PySem.F.args_object_init_2 _ _, object_init_meets PySem.F.called_str.init.lookup PySem.F.called_str.made (by decide) prog w A.in1 _ s₁ ⟨typeIs_str _ _ _, rfl, hq⟩⟩
end
end Mine
end

-- G1
section
open PySem PySem.W PyProof.Rows PySem.Calls PyProof.Rows.LCg PyProof.Rows.LCt PySem.NumText
namespace Mine
set_option maxRecDepth 100000
set_option maxHeartbeats 4000000


section
variable {prog : Program} {w : World} {A : Around} {E : Value → Shared → Prop} {s : Shared} {g : Heap} {L : Addr} {mp : Str → Option Value} {news : List (Addr × Obj)} {Q : Value → Shared → Prop}
/-- str of the error that was caught -/
theorem exc_str_F {K : Frag} {e t C : Addr} {oe ot : Obj} {ws : Array Value} {nt : Nat} {m : Str} {tk : Tok} (F : Fr g L s.heap mp) (X : K.In g) (N : News g L s.heap news) (he : (e, oe) ∈ news) (ht : (t, ot) ∈ news) (hc : oe.cls = .ref C) (hd : oe.data = .fields ws) (h0 : ws[0]? = some (.ref t)) (htc : ot.cls = .type "tuple") (htd : ot.data = .seq [Value.str m tk].toArray nt)
    (hu : A.in1.in1.units < cLine) (hs : findIn K (.ref C) "__str__" = some (some (.builtin "BaseException.__str__"))) (hm : mroIn K C (.type "BaseException") = some true) (h : Q (.str m tk) s) : wpAny (model prog w) A (call (.type "str") [.ref e]) Q E s :=
  exc_str hu (X.keeps F.keep) (N _ he).1 hc hd h0 ⟨ot, nt, (N _ ht).1, htc, htd⟩ hs hm h
end
theorem News.both {g h : Heap} {L : Addr} {n1 n2 : List (Addr × Obj)} {p q : Addr × Obj} (A : News g L h n1) (B : News g L h n2) (hp : p ∈ n1) (hq : q ∈ n1) : News g L h (p :: q :: n2) := fun x hx => by
  rcases List.mem_cons.mp hx with rfl | hx
  · exact A _ hp
  · rcases List.mem_cons.mp hx with rfl | hx
    · exact A _ hq
    · exact B _ hx
theorem News.pick1 {g h : Heap} {L : Addr} {n1 n2 : List (Addr × Obj)} {p : Addr × Obj} (A : News g L h (p :: n1)) (hs : ∀ q ∈ n2, q ∈ n1) : News g L h ([p] ++ n2) := fun x hx => by
  rcases List.mem_cons.mp hx with rfl | hx
  · exact A _ (.head _)
  · exact A _ (.tail _ (hs _ hx))
theorem News.pick2 {g h : Heap} {L : Addr} {n1 n2 : List (Addr × Obj)} {p q : Addr × Obj} (A : News g L h (p :: n1)) (hq : q ∈ n1) (hs : ∀ q ∈ n2, q ∈ p :: n1) : News g L h ([p, q] ++ n2) := fun x hx => by
  rcases List.mem_cons.mp hx with rfl | hx
  · exact A _ (.head _)
  · rcases List.mem_cons.mp hx with rfl | hx
    · exact A _ (.tail _ hq)
    · exact A _ (hs _ hx)
theorem allLt_lt {a : Addr} : ∀ {news : List (Addr × Obj)}, AllLt a news → ∀ q ∈ news, q.1 < a
  | [], _, _, h => nomatch h
  | _ :: _, ⟨h, r⟩, q, hq => by
    rcases List.mem_cons.mp hq with rfl | hq
    · exact h
    · exact allLt_lt r q hq
theorem fn_at {K : Frag} {g h : Heap} {L f : Addr} {m : Str → Option Value} {name qual : Str} {params : Arguments} {body : List Stmt} {scope : Scope} {dV kV doc pm cdv ct oc : Value} {an od : Option Addr} {osl : Array (Option Value)} (X : K.In g) (F : Fr g L h m)
    (ho : K.lookup f = some ⟨oc, od, .func (fnOf name qual params body scope dV kV doc pm an cdv ct), osl⟩) : ∃ o fd, h.get? f = some o ∧ o.data = .func fd := ⟨_, _, (X.keeps F.keep) _ _ ho, rfl⟩
/-- as TelD, under the caller, from the first frame -/
def TelO (w : World) (mean : ExcName → Option Value) (mg mb : Str → Option Value) (news : List (Addr × Obj)) (n : Nat) (f : Addr) (vs : List Value) (Out : List (Addr × Obj) → Value → Prop) : Prop :=
  ∀ (dp un : Nat) (gd : Option (List Code)) (cn : Str) (cs : Scope) (a : Addr) (ccd : Value) (A₀ : Around) (base h₀ : Heap) (L : Addr) (m : Str → Option Value) (s : Shared) (Q E : Value → Shared → Prop),
    Below A₀ base [] h₀ → Fr h₀ L s.heap m → (hd.heap_39 w.params).In h₀ → News h₀ L s.heap news → Top hd.view_39 (looseW hd.view_39 []) mean mg mb h₀ → cs.kind = .function →
    (hd.heap_39 w.params).In base → Top hd.view_39 (looseW hd.view_39 []) mean mg mb base →
    dp + n < recursionLimit → un + 8 * n + 64 < cLine →
    (∀ (r : Value) (tl : List (Addr × Obj)) (h' : Heap) (tk' : Nat), Fr h₀ L h' m → News h₀ L h' (tl ++ news) → (∀ p ∈ tl, ∀ q ∈ news, p.1 ≠ q.1) → Out tl r → Q r { s with heap := h', toks := tk' }) →
    wpOn (model Challenge.rw_pe0131_01.row.prog w) (ktrTop dp un gd cn cs L a ccd [] []) (call (.ref f) vs) Q E s
local macro_rules | `(tactic| walk_at $s:str) => `(tactic| k_extra $s)
theorem rules_G1 : True := by
  w_top off
  k_with_none
  (k_with "compareOp Eq str str" => ((k_here; (with_reducible refine eq_S ?_); (simp only [cs_S, lit257, lit229, litBQ, litQ, litE, Int.reduceToNat, List.take_succ_cons, List.take_zero, List.drop_succ_cons, List.drop_zero, Nat.reduceSub, decide_true, Bool.not_true, Bool.not_false]))))
  (k_with "compareOp NotEq str str" => ((k_here; (with_reducible refine ne_S ?_); (simp only [cs_S, lit257, lit229, litBQ, litQ, litE, Int.reduceToNat, List.take_succ_cons, List.take_zero, List.drop_succ_cons, List.drop_zero, Nat.reduceSub, decide_true, Bool.not_true, Bool.not_false]))))
  (k_with "binaryOp Add str str" => ((k_here; (with_reducible refine' add_S ?zzhsz ?_); (case zzhsz => k_dflt ((simp only [cs_S, lit257, lit229, litBQ, litQ, litE, litQB, litEnd, List.length_cons, List.length_nil, List.length_append]); omega)); intro zzt' zztk'; (simp only [cs_S, lit257, lit229, litBQ, litQ, litE, litQB, litEnd]))))
  (k_with "call builtin:len" => ((k_here; (with_reducible refine' len_S ?zzhl ?_); (case zzhl => k_dflt ((try simp only [List.length_cons, List.length_nil, List.length_append] at *); omega)); intro zzt' zztk')))
  (k_with "subscriptTail" => ((k_here; (with_reducible show wpAny _ _ (subscriptTail _ (Expr.Slice none (some _) none _) (Value.str _ _) (Value.ref _)) _ _ _); (with_reducible rename Fr _ _ _ _ => zzkF); (with_reducible rename News _ _ _ _ => zzkN); (refine' cut_ns (s := ⟨_, _, _, _, _⟩) zzkF zzkN ?zzh0 ?zzhk ?zzhl ?_ ?zzhs ?zzht); k_dflt ((case zzh0 => omega); (case zzhk => (try simp only [List.length_cons, List.length_nil, List.length_append] at *); omega); (case zzhl => (try simp only [List.length_cons, List.length_nil, List.length_append] at *); omega); (case zzhs => with_unfolding_all rfl); (case zzht => intro _; with_unfolding_all rfl)); intro zzh' zzt' zztk' zzF' zzN'; (try k_sweep))))
  (k_with "subscriptTail" => ((k_here; (with_reducible show wpAny _ _ (subscriptTail _ (Expr.Slice (some _) (some _) none _) (Value.str _ _) (Value.ref _)) _ _ _); (with_reducible rename Fr _ _ _ _ => zzkF); (with_reducible rename News _ _ _ _ => zzkN); (refine' cut_ss (s := ⟨_, _, _, _, _⟩) zzkF zzkN ?zzh0 ?zzhk ?zzhj ?zzhl ?_ ?zzhs ?zzht); k_dflt ((case zzh0 => omega); (case zzhk => omega); (case zzhj => (try simp only [List.length_cons, List.length_nil, List.length_append] at *); omega); (case zzhl => (try simp only [List.length_cons, List.length_nil, List.length_append] at *); omega); (case zzhs => with_unfolding_all rfl); (case zzht => intro _; with_unfolding_all rfl)); intro zzh' zzt' zztk' zzF' zzN'; (try k_sweep))))
  (k_with "subscriptTail" => ((k_here; (with_reducible show wpAny _ _ (subscriptTail _ _ (Value.str _ _) (Value.int _ _)) _ _ _); (with_reducible refine' item_S ?zzh0 ?zzh1 ?zzhl ?_ ?zzhs ?zzht); k_dflt ((case zzh0 => omega); (case zzh1 => (try simp only [List.length_cons, List.length_nil, List.length_append] at *); omega); (case zzhl => (try simp only [List.length_cons, List.length_nil, List.length_append] at *); omega); (case zzhs => with_unfolding_all rfl); (case zzht => intro _; with_unfolding_all rfl)); intro zzt' zztk')))
  (k_with "subscriptTail Name Name str int" => ((k_here; (with_reducible show wpAny _ _ (subscriptTail _ _ (Value.str _ _) (Value.int _ _)) _ _ _); (with_reducible refine' item_S ?zzh0 ?zzh1 ?zzhl ?_ ?zzhs ?zzht); k_dflt ((case zzh0 => omega); (case zzh1 => (try simp only [List.length_cons, List.length_nil, List.length_append] at *); omega); (case zzhl => (try simp only [List.length_cons, List.length_nil, List.length_append] at *); omega); (case zzhs => with_unfolding_all rfl); (case zzht => intro _; with_unfolding_all rfl)); intro zzt' zztk')))
  (k_with "subscriptTail Name BinOp str int" => ((k_here; (with_reducible show wpAny _ _ (subscriptTail _ _ (Value.str _ _) (Value.int _ _)) _ _ _); (with_reducible refine' item_S ?zzh0 ?zzh1 ?zzhl ?_ ?zzhs ?zzht); k_dflt ((case zzh0 => omega); (case zzh1 => (try simp only [List.length_cons, List.length_nil, List.length_append] at *); omega); (case zzhl => (try simp only [List.length_cons, List.length_nil, List.length_append] at *); omega); (case zzhs => with_unfolding_all rfl); (case zzht => intro _; with_unfolding_all rfl)); intro zzt' zztk')))
  (k_with "subscriptTail Name Constant str int" => ((k_here; (with_reducible show wpAny _ _ (subscriptTail _ _ (Value.str _ _) (Value.int _ _)) _ _ _); (with_reducible refine' item_S ?zzh0 ?zzh1 ?zzhl ?_ ?zzhs ?zzht); k_dflt ((case zzh0 => omega); (case zzh1 => (try simp only [List.length_cons, List.length_nil, List.length_append] at *); omega); (case zzhl => (try simp only [List.length_cons, List.length_nil, List.length_append] at *); omega); (case zzhs => with_unfolding_all rfl); (case zzht => intro _; with_unfolding_all rfl)); intro zzt' zztk')))
  (k_with "subscriptTail Constant BinOp str int" => ((k_here; (with_reducible show wpAny _ _ (subscriptTail _ _ (Value.str _ _) (Value.int _ _)) _ _ _); (with_reducible refine' item_S ?zzh0 ?zzh1 ?zzhl ?_ ?zzhs ?zzht); k_dflt ((case zzh0 => omega); (case zzh1 => (try simp only [List.length_cons, List.length_nil, List.length_append] at *); omega); (case zzhl => (try simp only [List.length_cons, List.length_nil, List.length_append] at *); omega); (case zzhs => with_unfolding_all rfl); (case zzht => intro _; with_unfolding_all rfl)); intro zzt' zztk')))
  (k_with "call builtin:str.replace" => ((k_here; (with_reducible refine' replace_dbl ?zzhl ?_); k_dflt (case zzhl => omega); intro zzt' zztk')))
  (k_with "call type:str" => ((k_here; (with_reducible rename Fr _ _ _ _ => zzkF); (with_reducible rename News _ _ _ _ => zzkN); (with_reducible refine' exc_str_F zzkF ?zzX zzkN ?zzhe ?zzht ?zzhc ?zzhd ?zzh0 ?zzhtc ?zzhtd ?zzhu ?zzhs ?zzhm ?_); k_dflt ((case zzhtd => assumption); (case zzh0 => assumption); (case zzhd => assumption); (case zzhc => assumption); (case zzhtc => assumption); (case zzX => k_asm); (case zzhe => repeat' (first | assumption | exact List.Mem.head _ | refine List.mem_cons_of_mem _ ?_)); (case zzht => repeat' (first | assumption | exact List.Mem.head _ | refine List.mem_cons_of_mem _ ?_)); (case zzhu => ktr_units); (case zzhs => k_is); (case zzhm => k_is)))))
  (k_with "call ref" => ((k_here; (with_reducible show wpAny _ _ (call (Value.ref 119) _) _ _ _); k_dflt ((refine' TelS.use (written _ _ _ _ _ _ _ _ _ ?zzhl) ?zzk1 ?zzk2 ?zzk3 ?zzk4 ?zzk5 ?zzkK ?zzkd ?zzku ?_); (case zzk1 => k_asm); (case zzk2 => k_asm); (case zzk3 => k_asm); (case zzk4 => k_asm); (case zzk5 => k_asm); (case zzkK => first | exact rfl | assumption); (case zzhl => assumption); (case zzkd => ktr_room); (case zzku => ktr_units)); intro zzt9 zzh9 zztk9 zzF9 zzN9; (try dsimp only); (try k_fold))))
  (k_with "call ref" => ((k_here; (with_reducible show wpAny _ _ (call (Value.ref 65) _) _ _ _); k_dflt ((refine' TelS.use (heard257 _ _ _ _ _ _ _ ?zzh2 ?zzhl) ?zzk1 ?zzk2 ?zzk3 ?zzk4 ?zzk5 ?zzkK ?zzkd ?zzku ?_); (case zzk1 => k_asm); (case zzk2 => k_asm); (case zzk3 => k_asm); (case zzk4 => k_asm); (case zzk5 => k_asm); (case zzkK => first | exact rfl | assumption); (case zzh2 => assumption); (case zzhl => omega); (case zzkd => ktr_room); (case zzku => ktr_units)); intro zzt9 zzh9 zztk9 zzF9 zzN9; (try dsimp only); (try k_fold))))
  trivial

local macro_rules | `(tactic| k_all) => `(tactic| assumption)

section
variable (w : World) (mean : ExcName → Option Value) (mg mb : Str → Option Value) (news : List (Addr × Obj)) (t u : Tok)
theorem heard {ah : Addr} {vs : List Value} {k : Nat} {hs : List Int} {nm inner : List Nat} (hm : (ah, listOf vs.toArray k) ∈ news) (hi : IntsAre vs hs) (g : GoodR hs nm inner) : TelO w mean mg mb news 4 131 [.ref ah, .str (S nm) t, .str (S inner) u] (AnsOut hs nm inner) := by
  obtain ⟨gfew, ghands, gshort, gname, ginner⟩ := g
  obtain ⟨gl2, gl16⟩ := inner_len ginner
  have gd := dbl_len nm
  have gT : (spell hs ([32, 34] ++ dbl nm ++ [34, 32, 40] ++ inner ++ [41, 32, 97, 116, 32, 108, 97, 115, 116])).length ≤ 2000 := by
    refine Nat.le_trans (spell_len2 gfew _) ?_
    simp only [List.length_cons, List.length_append, List.length_nil]
    omega
  have gT2 : 2 ≤ (spell hs ([32, 34] ++ dbl nm ++ [34, 32, 40] ++ inner ++ [41, 32, 97, 116, 32, 108, 97, 115, 116])).length := by
    have e := congrArg List.length (spell_T0 hs nm inner)
    simp only [List.length_append, List.length_cons, tail9, List.length_nil] at e
    show 2 ≤ (spell hs (T0 nm inner)).length
    omega
  have gTc : (spell hs (32 :: 34 :: (dbl nm ++ [34, 32, 40] ++ inner ++ [41, 32, 97, 116, 32, 108, 97, 115, 116]))).length ≤ 2000 := gT
  have gTd : 2 ≤ (spell hs (32 :: 34 :: (dbl nm ++ [34, 32, 40] ++ inner ++ [41, 32, 97, 116, 32, 108, 97, 115, 116]))).length := gT2
  unfold TelO
  k_fill
  intros; rename_i XB TB hdp hun hret
  refine wpOn_call ?_
  (k_dflt (refine' on_defS0 ?k1 ?k2 ?k3 ?k4 ?k5 ?kA ?k6 ?k7 ?k8 ?k9 ?kB ?_ ?cK ?c2 ?c3 ?c4 ?c5; (case kA => exact rfl); (case k2 => k_asm); (case k1 => k_asm); (case k3 => k_asm); (case k4 => k_asm); (case k5 => k_asm); (case k6 => k_is); (case k7 => k_is); (case k8 => ktr_room); (case k9 => exact BindsTo.of_eq rfl); (case kB => exact locs rfl); (case cK => assumption); (case c2 => exact rfl); (case c3 => exact rfl); (case c4 => exact rfl); (case c5 => decide); k_whole; intro g' L' h' FG' F' N' B' X' T' D'; (try dsimp only); (try k_lift B'); (try k_fold)))
  refine execsOn_consA ?_
  k_steps
  refine nxt ?_
  refine execsOn_consA ?_
  k_steps
  (rename Fr _ _ _ _ => F0); (rename News _ _ _ _ => N0)
  refine' hands_iter (xt := Str.ofString "text") (fun nx => nx = news) (fun nx e => e ▸ hm) ?hh (by assumption) gfew F0 N0 rfl ?ht ?turn ?done
  case hh => rfl
  case ht => exact rfl
  case turn =>
    intro h9 l9 t9 u9 tu9 nx9 H9 tk9 own9 hh9 hl9 g9 off9 F9 N9
    subst g9
    clear F0 N0
    have hl10 : l9.length ≤ 10000 := by
      refine Nat.le_trans hl9 ?_
      simp only [List.length_cons, List.length_append, List.length_nil]
      omega
    clear hl9
    refine wrap_in ?_
    k_steps
    exact ⟨rfl, _, _, _, _, _, rfl, rfl, rfl, by assumption, by assumption, fun p hp => List.mem_append_left _ hp, fun p hp => List.mem_append_right _ hp⟩
  case done =>
    intro t9 tu9 nx9 H9 tk9 g9 F9 N9
    subst g9
    clear F0 N0
    (try dsimp only)
    refine nxt ?_
    refine execsOn_consA ?_
    k_steps
    refine nxt ?_
    (try dsimp only)
    refine execsOn_cons (tryOn (execsOn_cons (returnOn (binOpOn ?_))))
    k_steps
    refine listOn1 (evalCallOn ?_)
    k_steps
    refine callWithOn_def (args_two ?_ rfl)
    k_steps
    unfold CallAt
    (rename Fr _ _ _ _ => F2); (rename News _ _ _ _ => N2)
    refine' ⟨fn_at X' F2 ?lk, ?_⟩
    case lk => k_is
    obtain ⟨mk, z, hmk, hz, _⟩ := inner_spelled hs ginner
    have gB := spell_len2 gfew inner
    have gB0 : 0 < (spell hs inner).length := by rw [hz]; simp
    have eT : spell hs (32 :: 34 :: (dbl nm ++ [34, 32, 40] ++ inner ++ [41, 32, 97, 116, 32, 108, 97, 115, 116])) = spell hs (front nm) ++ 40 :: (spell hs inner ++ tail9) := spell_T0 hs nm inner
    have hr : R229 (spell hs (32 :: 34 :: (dbl nm ++ [34, 32, 40] ++ inner ++ [41, 32, 97, 116, 32, 108, 97, 115, 116]))) (spell hs inner) ((spell hs (front nm)).length + 3) := by
      rw [eT]; exact r229 (alph_spell hs (alph_front gname)) (alph_spell hs (alph_inner ginner)) gB0
    have hnt := name_told ghands nm inner
    have eA : ans hs nm inner = [.str (S (spell hs (T0 nm inner))), .str (S (p257 (spell hs (T0 nm inner))))] ++ rest229 ((spell hs inner).getD 0 0) (spell hs inner) (spell hs (T0 nm inner)) := by rw [hnt]; rfl
    k_dflt (refine' heard229 w mean mg mb _ _ _ _ ?hm hr gB0 (by omega) gTc (fun a0 a1 a2 a3 e => port_facts ginner e) _ _ _ _ _ _ _ _ _ _ _ _ _ _ _ _ B' F2 X' N2 T' rfl ?hdp ?hun ?hret ?herr1 ?herr2)
    case hm => exact .head _
    case hdp => ktr_room
    case hun => ktr_units
    case hret =>
      intro D8 D9 o8 n8 u8 h8 tk8 F8 N8 l8 l9 hrest
      clear F2 N2
      (try k_lt l8)
      (try dsimp only)
      k_steps
      dsimp only [Nxt]
      k_steps
      rename_i l7 kF7 kN7 Tc7 kX7
      have hrest' : rest229 ((spell hs inner).getD 0 0) (spell hs inner) (spell hs (T0 nm inner)) = _ := hrest
      refine hret _ [_, _] _ _ kF7 (News.pick2 kN7 (.tail _ (.head _)) fun q hq => .tail _ (.tail _ (.tail _ (.tail _ (.tail _ (.tail _ hq)))))) ?_ ?_
      · exact apart_cons (apart_lt l7.2.2.2.2.2) (apart_cons (fun q hq => Nat.ne_of_gt (Nat.lt_trans (allLt_lt l8.2.2 q hq) l9)) apart_nil)
      · show DatIn _ _ (.list (ans hs nm inner))
        rw [eA, hrest']
        exact .list (vs := [_, _, _]) (.head _) (.cons (.str _ _) (.cons (.str _ _) (.cons (.tuple (vs := [_, _]) (.tail _ (.head _)) (.cons (.str _ _) (.cons (.int _ _) .nil))) .nil)))
    case herr1 =>
      intro e8 t8 u8 G8 h8 tk8 F8 R8 U8 hrest
      clear F2 N2
      (try dsimp only)
      refine kts_lookS R8 F8 B' U8 D' (fun h7 R7 U7 => ?_)
      clear R8 U8
      refine' hit_SB R7 F8 B' U7 XB TB D' KtsTurn.refl ?T ?_ ?hk ?hlo
      case T => kts_test
      case hk => exact rfl
      case hlo => exact rfl
      intro h9 g9 n9 tk9 T9 F9 N9 G9 M9 K9 X9 P9 D9
      obtain ⟨oe, ot, ws, nt, ge, gt, gc, gf, g0, gtc, gtd⟩ := G9
      have NN := News.both N9 M9 ge gt
      clear N9 M9 ge gt R7 U7 F8 B' X' T' D'
      (try dsimp only)
      k_steps
      dsimp only [Nxt]
      k_steps
      rename_i l7 _ _ _ _ kF7 kN7 Tc7 kX7
      have hrest' : rest229 ((spell hs inner).getD 0 0) (spell hs inner) (spell hs (T0 nm inner)) = _ := hrest
      refine hret _ [_] _ _ kF7 (News.pick1 kN7 fun q hq => .tail _ (.tail _ (.tail _ (.tail _ (.tail _ hq))))) ?_ ?_
      · exact apart_cons (apart_lt l7.2.2.2.2.2) apart_nil
      · show DatIn _ _ (.list (ans hs nm inner))
        rw [eA, hrest']
        exact .list (vs := [_, _, _, _]) (.head _) (.cons (.str _ _) (.cons (.str _ _) (.cons (.str _ _) (.cons (.str _ _) .nil))))
    case herr2 =>
      intro e8 t8 vs8 G8 h8 tk8 F8 R8 U8 hrest
      clear F2 N2
      (try dsimp only)
      refine kts_lookS R8 F8 B' U8 D' (fun h7 R7 U7 => ?_)
      clear R8 U8
      refine' pass_S R7 F8 B' U7 XB TB D' ?T ?_
      case T => kts_test
      intro h6 R6 U6
      clear R7 U7
      refine' hit_S0 R6 F8 B' U6 XB TB D' KtsTurn.refl ?T ?_ ?hE
      case T => kts_test
      case hE => passes_own
      intro h9 g9 n9 T9 F9 N9 G9 M9 K9 X9 P9 D9
      clear N9 G9 R6 U6 F8 B' X' T' D'
      (try dsimp only)
      k_steps
      dsimp only [Nxt]
      k_steps
      rename_i l7 kF7 kN7 Tc7 kX7
      have hrest' : rest229 ((spell hs inner).getD 0 0) (spell hs inner) (spell hs (T0 nm inner)) = _ := hrest
      refine hret _ [_] _ _ kF7 (News.pick1 kN7 fun q hq => .tail _ (.tail _ (.tail _ hq))) ?_ ?_
      · exact apart_cons (apart_lt l7.2.2.2) apart_nil
      · show DatIn _ _ (.list (ans hs nm inner))
        rw [eA, hrest']
        exact .list (vs := [_, _, _]) (.head _) (.cons (.str _ _) (.cons (.str _ _) (.cons (.str _ _) .nil)))
end
end Mine
end

-- O7
section
open PySem PySem.W PyProof.Rows PySem.Calls PyProof.Rows.LCg
set_option maxRecDepth 100000
namespace Mine
section
variable {prog : Program} {w : World} {A : Around} {E : Value → Shared → Prop} {s : Shared}
/-- three items of a list, one after another -/
theorem draw3 {I t : Addr} {v1 v2 v3 : Value} {Q : List Value → Shared → Prop} (hh : A.handled = none) (hne : t ≠ I) (hit : s.heap.IsListIter I t 0) (hl : s.heap.IsList t #[v1, v2, v3])
    (hQ : ∀ h' tk, h'.IsListIter I t 3 → h'.IsList t #[v1, v2, v3] → (∀ b o, b ≠ I → s.heap.get? b = some o → h'.get? b = some o) → Q [v1, v2, v3] { s with heap := h', toks := tk }) :
    wpAny (model prog w) A (draw (.ref I) 3) Q E s := by
  have W := Walks.list (prog := prog) (w := w) hh I t hne #[v1, v2, v3]
  have one : ∀ {n : Nat} {c : List Value → Sem (List Value)} {Q' : List Value → Shared → Prop} (i : Nat) (v : Value) (s' : Shared), i < 3 → (#[v1, v2, v3] : Array Value)[i]? = some v → (s'.heap.IsListIter I t i ∧ s'.heap.IsList t #[v1, v2, v3]) →
      (∀ h' tk, (h'.IsListIter I t (i + 1) ∧ h'.IsList t #[v1, v2, v3]) → (∀ b o, b ≠ I → s'.heap.get? b = some o → h'.get? b = some o) → wpAny (model prog w) A (draw (.ref I) n) (fun xs s'' => Q' (v :: xs) s'') E { s' with heap := h', toks := tk }) →
      wpAny (model prog w) A (draw (.ref I) (n + 1)) Q' E s' := by
    intro n c Q' i v s' hi hv st h
    show wpAny _ _ (pyNext (.ref I) >>= _) Q' E s'
    refine wpAny_bind (W.item i s' _ _ hi st fun v' h' tk hv' st' hk => ?_)
    obtain rfl : v = v' := Option.some.inj (hv.symm.trans hv')
    exact wpAny_bind (wpAny_holding (wpAny_mono (h h' tk st' fun b o hb e => hk b o (by simpa using hb) e) (fun xs s'' q => wpAny_pure q) fun _ _ e => e))
  refine one (c := pure) 0 v1 s (by decide) rfl ⟨hit, hl⟩ fun h1 tk1 st1 k1 => ?_
  refine one (c := pure) 1 v2 _ (by decide) rfl st1 fun h2 tk2 st2 k2 => ?_
  refine one (c := pure) 2 v3 _ (by decide) rfl st2 fun h3 tk3 st3 k3 => ?_
  exact wpAny_pure (hQ h3 tk3 st3.1 st3.2 fun b o hb e => k3 b o hb (k2 b o hb (k1 b o hb e)))
theorem unpack3 {t : Addr} {v1 v2 v3 : Value} {Q : List Value → Shared → Prop} (hh : A.handled = none) (hl : s.heap.IsList t #[v1, v2, v3])
    (hQ : ∀ h' tk, (∀ b o, s.heap.get? b = some o → h'.get? b = some o) → Q [v1, v2, v3] { s with heap := h', toks := tk }) : wpAny (model prog w) A (unpackItems (.ref t) 3 none) Q E s := by
  have hlt : t < s.heap.objs.size := by obtain ⟨o, ho, _⟩ := hl; exact Heap.lt_size ho
  unfold unpackItems
  refine wpAny_bind ?_
  unfold notIterableAtAll
  refine wpAny_bind (wpAny_specialOf hl.typeIs slot_list_iter.lookup ?_)
  refine wpAny_pure ?_
  simp only [Bool.false_eq_true, if_false]
  refine wpAny_bind (wpAny_holding (wpAny_pyIter_list hl ?_))
  refine wpAny_bind (wpAny_holding (draw3 hh (Nat.ne_of_lt hlt) ⟨_, Heap.get?_push_size _ rfl, rfl, rfl⟩ (hl.push _) fun h1 tk1 it1 l1 k1 => ?_))
  rw [if_neg (by simp)]
  have W := Walks.list (prog := prog) (w := w) (A := A) hh s.heap.objs.size t (Nat.ne_of_lt hlt) #[v1, v2, v3]
  refine wpAny_bind (wpAny_holding (W.done _ _ _ ⟨it1, l1⟩ fun h2 tk2 k2 => ?_))
  simp only [Option.isSome_none, Bool.false_eq_true, if_false]
  refine wpAny_pure (hQ h2 tk2 fun b o e => ?_)
  have hb : b ≠ s.heap.objs.size := Nat.ne_of_lt (Heap.lt_size e)
  exact k2 b o (by simpa using hb) (k1 b o hb (Heap.get?_push_of_some _ e))
/-- hands, name, inner = a list of three -/
theorem assign3 {env : Env} {x1 x2 x3 : Str} {p1 p2 p3 tp : Pos} {kk : Nat} {t C : Addr} {v1 v2 v3 : Value} {m' : Str → Option Value} {Q : Unit → Shared → Prop} (hh : A.handled = none) (hl : s.heap.IsList t #[v1, v2, v3]) (hC : env.locals = C) (hn : s.heap.Ns C m')
    (k1 : env.kindOf x1 = some .local) (k2 : env.kindOf x2 = some .local) (k3 : env.kindOf x3 = some .local) (hp : (env.scope.kind == .class || (env.scope.kind == .module && env.locals != env.globals)) = false)
    (h : ∀ h' tk, h'.Ns C (fun y => if y = x3 then some v3 else if y = x2 then some v2 else if y = x1 then some v1 else m' y) → (∀ b o, b ≠ C → s.heap.get? b = some o → h'.get? b = some o) → Q () { s with heap := h', toks := tk }) :
    wpAny (model prog w) A (assign (.Tuple [.Name x1 p1, .Name x2 p2, .Name x3 p3] kk tp) env (.ref t)) Q E s := by
  subst hC
  rw [assign_Tuple]
  refine wpAny_bind (wpAny_standAt ?_)
  unfold unpack
  show wpAny _ _ (holding [Value.ref t] (unpackItems (.ref t) 3 none) >>= _) _ _ _
  refine wpAny_bind (wpAny_holding (unpack3 hh hl fun h1 tk1 e1 => ?_))
  refine assignInOrder_cons (wpAny_assign_Name (wpAny_storeName_local k1 (hn.at' fun o e => e1 _ o e) (fun h2 n2 s2 => ?_) hp))
  refine assignInOrder_cons (wpAny_assign_Name (wpAny_storeName_local k2 n2 (fun h3 n3 s3 => ?_) hp))
  refine assignInOrder_cons (wpAny_assign_Name (wpAny_storeName_local k3 n3 (fun h4 n4 s4 => ?_) hp))
  refine assignInOrder_nil (h h4 _ n4 fun b o hb e => ?_)
  exact s4.extBut b o hb (s3.extBut b o hb (s2.extBut b o hb (e1 b o e)))
end
section
variable {M : Model} {A : Around} {E : Value → Shared → Prop} {s : Shared} {env : Env}
theorem standIfOn {α : Type} {c : Prop} [Decidable c] {pos : Pos} {k : PUnit → Sem α} {Q : α → Shared → Prop} (h : wpOn M A (k ()) Q E s) : wpOn M A (if c then (standAt pos >>= k) else k ()) Q E s := by
  split
  · exact wpOn_bind (wpOn_standAt h)
  · exact h
/-- a comprehension under the caller -/
theorem comprehensionOn {e : Expr} {scope : Scope} {pos : Pos} {newAcc first : Sem Value} {g : Comprehension} {gs : List Comprehension} {cl : List (Str × Addr)} {Q : Value → Shared → Prop}
    (hcl : clausesOf e = g :: gs) (hs : ∀ x, foldedSetIterable g.iter env x = pure x) (hclos : closureFor scope env = pure cl)
    (hkind : scope.kind = .function) (hnames : ∀ x ∈ scope.names, x.2 = .local → scope.names.lookup x.1 = some .local)
    (h : wpAny M A first (fun x s₁ => wpAny M A (pyIter x) (fun it s₂ => wpAny M A newAcc (fun acc s₃ =>
      wpAny M A (newFunctionEnv scope env.globals cl [] env.qual none .none (some env)) (fun cenv s₄ =>
        codeOn M A (.compStart e 0 it acc { cenv with scope := relabel scope env }) (fun r s' => match r with
          | .ok _ => ∃ m, s'.heap.Ns cenv.locals m ∧ ∀ h', Heap.SameBut cenv.locals s'.heap h' → Q acc { s' with heap := h' }
          | .error _ => False) s₄) E s₃) E s₂) E s₁) E s) :
    wpOn M A (comprehension e scope env pos newAcc false first none) Q E s := by
  unfold comprehension
  rw [hclos, hcl]
  refine wpOn_bindA (wpAny_mono h (fun x s₁ h₁ => wpOn_bind (wpOn_standAt (wpOn_bindA (wpAny_of_eq (hs x) (wpOn_bindA (wpAny_holding (wpAny_mono h₁ (fun it s₂ h₂ => standIfOn ?_) fun _ _ y => y))))))) fun _ _ y => y)
  refine wpOn_bindA (wpAny_mono h₂ (fun acc s₃ h₃ => wpOn_bindA (wpAny_pure (wpOn_bindA (wpAny_mono h₃ (fun cenv s₄ h₄ => ?_) fun _ _ y => y)))) fun _ _ y => y)
  dsimp only
  have hv : ∀ x ∈ (scope.names.filter fun x => (x.2 == .local || x.2 == .cell) && x.1 != (".0" : Str)).reverse, x.2 = .local →
      Env.kindOf { cenv with scope := relabel scope env } x.1 = some .local := fun x hx hl => lookup_relabel_local (hnames x (List.mem_filter.mp (List.mem_reverse.mp hx)).1 hl)
  refine wpOn_holding (wpOn_bind (wpOn_attempt (wpOn_holding (wpOn_run (codeOn_mono h₄ fun r s' hr => ?_)))))
  cases r with
  | ok f =>
    obtain ⟨m, hn, hr⟩ := hr
    exact wpOn_of (wpAny_bind (wpAny_holding (wpAny_comp_letGo (cenv := { cenv with scope := relabel scope env }) hkind _ s' m hv hn fun h' m' _ hs' => wpAny_pure (hr h' hs'))))
  | error x => exact hr.elim
end
section
variable {prog : Program} {w : World} {A : Around} {E : Value → Shared → Prop} {s : Shared} {R : Result → Shared → Prop}
theorem compStartOn {elt target iter : Expr} {scope : Scope} {pos : Pos} {I l : Addr} {j : Nat} {acc : Value} {env : Env} (hit : s.heap.IsListIter I l j)
    (h : codeOn (model prog w) A (.compLoop (.ListComp elt [⟨target, iter, [], 0⟩] scope pos) 0 (.ref I) acc env) R s) :
    codeOn (model prog w) A (.compStart (.ListComp elt [⟨target, iter, [], 0⟩] scope pos) 0 (.ref I) acc env) R s := by
  refine codeOn_of_tree (wpOn_of ?_)
  show wpAny _ _ ((compStart (.ListComp elt [⟨target, iter, [], 0⟩] scope pos) 0 (.ref I) acc env).onRaise (fun x => do noteFrame x env; standAt theWindowsPlace)) _ _ s
  refine wpAny_notedAt ?_
  unfold compStart
  show wpAny _ _ (ask >>= _) _ _ s
  refine wpAny_bind (wpAny_askSetting (wpAny_ite ?_))
  split
  · first
      | exact wpAny_bind (wpAny_pure (wpAny_pure (And.intro rfl h)))
      | exact wpAny_pure (And.intro rfl h)
  · refine wpAny_bind (wpAny_rule ?_)
    show wpAny _ _ (standAt iter.pos >>= _) _ _ s
    exact wpAny_bind (wpAny_standAt (wpAny_bind (wpAny_pyIter_listiter hit (wpAny_pure (And.intro rfl h)))))
theorem compLoopOn {elt target iter : Expr} {scope : Scope} {pos : Pos} {it acc : Value} {env : Env} (I : Nat → Shared → Prop)
    (turn : ∀ n s, I n s → ∀ E' : Value → Shared → Prop, wpAny (model prog w) A (pyNext it) (fun r s₁ => match r with
      | none => R (.ok .next) s₁
      | some v => wpAny (model prog w) A (letOwnedTupleGo target it v) (fun _ s₂ => wpAny (model prog w) A (assign target env v) (fun _ s₃ =>
          wpOn (model prog w) A (eval elt env) (fun x s₄ => wpAny (model prog w) A (call (.builtin "list.append") [acc, x]) (fun _ s₅ => ∃ m, m < n ∧ I m s₅) E' s₄) E' s₃) E' s₂) E' s₁) E' s)
    (n : Nat) (h : I n s) : codeOn (model prog w) A (.compLoop (.ListComp elt [⟨target, iter, [], 0⟩] scope pos) 0 it acc env) R s := by
  refine codeOn_loop rfl I (fun n s hI => ?_) n h
  show wpOn _ A ((compTurn (.ListComp elt [⟨target, iter, [], 0⟩] scope pos) 0 it acc env).onRaise (fun x => do noteFrame x env; theTreesLotGoes x)) _ _ s
  refine wpOn_onRaise ?_
  rw [compTurn_list1]
  refine wpOn_bind (wpOn_standAt (wpOn_bindA (wpAny_mono (turn n s hI _) (fun r s₁ h₁ => ?_) fun _ _ y => y)))
  cases r with
  | none => exact wpOn_pure h₁
  | some v =>
    refine wpOn_bindA (wpAny_mono h₁ (fun _ s₂ h₂ => wpOn_bindA (wpAny_mono h₂ (fun _ s₃ h₃ => ?_) fun _ _ y => y)) fun _ _ y => y)
    exact wpOn_bind (wpOn_bind (wpOn_mono h₃ (fun x s₄ h₄ => wpOn_bindA (wpAny_mono h₄ (fun _ s₅ h₅ => wpOn_pure (wpOn_pure (And.intro rfl h₅))) fun _ _ y => y)) fun _ _ y => y))
end
end Mine
end

-- O8
section
open PySem PySem.W PyProof.Rows PySem.Calls PyProof.Rows.LCg
set_option maxRecDepth 100000
set_option maxHeartbeats 1000000
namespace Mine
/-- an element is made -/
def End3 (h₀ : Heap) (L : Addr) (m : Str → Option Value) (s₁ : Shared) (I : Addr) (oI : Obj) (C : Addr) (oC : Obj) (D : Addr) (oD : Obj) (news : List (Addr × Obj)) (J : List Value → List (Addr × Obj) → Prop) (ys : List Value) (y : Value) (s' : Shared) : Prop :=
  ∃ h' tk' tl', s' = { s₁ with heap := h', toks := tk' } ∧ Fr h₀ L h' m ∧ News h₀ L h' ((I, oI) :: (C, oC) :: (D, oD) :: (tl' ++ news)) ∧ Off3 I C D (tl' ++ news) ∧ J (ys ++ [y]) tl'
/-- a list of lists of three, and what is made of them -/
def Src3 (prog : Program) (w : World) (A : Around) (h₀ : Heap) (L : Addr) (m : Str → Option Value) (env : Env) (elt : Expr) (x1 x2 x3 : Str) (scope : Scope) (cl : List (Str × Addr)) (Q : Value → Shared → Prop) (xv : Value) (s₁ : Shared) : Prop :=
  ∃ (ax : Addr) (its : Array Value) (k : Nat) (news : List (Addr × Obj)) (J : Nat → List Value → List (Addr × Obj) → Prop), xv = .ref ax ∧ Fr h₀ L s₁.heap m ∧ News h₀ L s₁.heap news ∧ (ax, listOf its k) ∈ news ∧ its.size ≤ 1000 ∧ J 0 [] [] ∧
    (∀ (i : Nat) (v : Value), its[i]? = some v → ∃ (t : Addr) (v1 v2 v3 : Value) (nt : Nat), v = .ref t ∧ (t, listOf #[v1, v2, v3] nt) ∈ news) ∧
    (∀ (i : Nat) (t : Addr) (v1 v2 v3 : Value) (nt : Nat) (ys : List Value) (tl : List (Addr × Obj)) (I : Addr) (oI : Obj) (C : Addr) (oC : Obj) (D : Addr) (m₂ : Str → Option Value) (h : Heap) (tk : Nat) (E' : Value → Shared → Prop),
      its[i]? = some (.ref t) → (t, listOf #[v1, v2, v3] nt) ∈ news → J i ys tl → NsObj oC m₂ → m₂ x1 = some v1 → m₂ x2 = some v2 → m₂ x3 = some v3 → Fr h₀ L h m → News h₀ L h ((I, oI) :: (C, oC) :: (D, lst ys) :: (tl ++ news)) → Off3 I C D (tl ++ news) →
      wpOn (model prog w) A (eval elt (compEnvC scope cl C env)) (End3 h₀ L m s₁ I oI C oC D (lst ys) news (J (i + 1)) ys) E' { s₁ with heap := h, toks := tk }) ∧
    (∀ (D : Addr) (ys : List Value) (tl : List (Addr × Obj)) (h : Heap) (tk : Nat), ys.length = its.size → J its.size ys tl → Fr h₀ L h m → News h₀ L h ((D, lst ys) :: (tl ++ news)) → Off1 D (tl ++ news) → Q (.ref D) { s₁ with heap := h, toks := tk })
theorem neA {a b : Nat} (h : a ≠ b) : @Ne Addr a b := h
section
variable {prog : Program} {w : World} {A : Around} {E : Value → Shared → Prop} {s : Shared} {h₀ : Heap} {L : Addr} {m : Str → Option Value} {env : Env}
/-- [elt for x1, x2, x3 in a list of lists of three], under the caller -/
theorem compOn3 {elt iter : Expr} {x1 x2 x3 : Str} {p1 p2 p3 tp : Pos} {kk : Nat} {scope : Scope} {cl : List (Str × Addr)} {pos : Pos} {Q : Value → Shared → Prop} (_F₀ : Fr h₀ L s.heap m) (hh : A.handled = none)
    (hclos : closureFor scope env = pure cl) (hcell : ∀ y ∈ scope.names, y.2 ≠ .cell) (hkind : scope.kind = .function)
    (hnames : ∀ y ∈ scope.names, y.2 = .local → scope.names.lookup y.1 = some .local) (hx1 : scope.names.lookup x1 = some .local) (hx2 : scope.names.lookup x2 = some .local) (hx3 : scope.names.lookup x3 = some .local)
    (d12 : x1 ≠ x2) (d13 : x1 ≠ x3) (d23 : x2 ≠ x3) (hs : ∀ x, foldedSetIterable iter env x = pure x)
    (h : wpAny (model prog w) A (eval iter env) (Src3 prog w A h₀ L m env elt x1 x2 x3 scope cl Q) E s) :
    wpOn (model prog w) A (eval (.ListComp elt [⟨.Tuple [.Name x1 p1, .Name x2 p2, .Name x3 p3] kk tp, iter, [], 0⟩] scope pos) env) Q E s := by
  rw [eval_ListComp]
  refine comprehensionOn rfl hs hclos hkind hnames (wpAny_mono h (fun xv s₁ h₁ => ?_) fun _ _ y => y)
  obtain ⟨ax, its, k, news, J, rfl, F, N, hax, hsz, j0, items, turn, fin⟩ := h₁
  have hl : s₁.heap.IsList ax its := ⟨_, (N _ hax).1, rfl, k, rfl⟩
  have haxI : ax < s₁.heap.objs.size := Heap.lt_size (N _ hax).1
  refine wpAny_pyIter_list hl ?_
  refine wpAny_newObj_type (wpAny_newFunctionEnv hcell (by intro y hy; simp at hy) (fun h₁ hns hsb => ?_) hkind)
  dsimp only at hns hsb ⊢
  -- the iterator lies at I, the new list at D, the names at C
  generalize hH1 : s₁.heap.push { cls := .type "list_iterator", data := .fields #[.ref ax, .int 0 0] } = H1 at hns hsb ⊢
  generalize hH2 : H1.push { cls := .type "list", dict := none, data := .seq ([] : List Value).toArray } = H2 at hns hsb ⊢
  have eD : H1.objs.size = s₁.heap.objs.size + 1 := by rw [← hH1, Heap.size_push]
  have eC : H2.objs.size = H1.objs.size + 1 := by rw [← hH2, Heap.size_push]
  generalize hI : s₁.heap.objs.size = I at *
  generalize hD : H1.objs.size = D at *
  generalize hC : H2.objs.size = C at *
  have new : ∀ b o, b ≠ C → H2.get? b = some o → h₁.get? b = some o := fun b o hb e => hsb.extBut b o hb (Heap.get?_push_of_some _ e)
  have old : ∀ b o, s₁.heap.get? b = some o → h₁.get? b = some o := fun b o e => by
    have hlt : @LT.lt Nat _ b I := hI ▸ Heap.lt_size e
    exact new b o (neA (by omega)) (hH2 ▸ Heap.get?_push_of_some _ (hH1 ▸ Heap.get?_push_of_some _ e))
  have hit₁ : h₁.IsListIter I ax 0 := ⟨_, new I _ (neA (by omega)) (hH2 ▸ Heap.get?_push_of_some _ (by rw [← hH1, ← hI]; exact Heap.get?_push_size _ rfl)), rfl, rfl⟩
  have hacc : h₁.get? D = some (lst []) := new D _ (neA (by omega)) (by rw [← hH2, ← hD]; exact Heap.get?_push_size _ rfl)
  have fresh : ∀ a : Nat, I ≤ a → h₀.get? a = none := fun a ha => by
    cases e : h₀.get? a with
    | none => rfl
    | some o => exact absurd (show @LT.lt Nat _ a I from hI ▸ Heap.lt_size (F.keep a o e)) (Nat.not_lt.mpr ha)
  have hLI : @LT.lt Nat _ L I := hI ▸ F.ns.lt
  have apart : ∀ p ∈ news, @LT.lt Nat _ p.1 I := fun p hp => hI ▸ Heap.lt_size (N p hp).1
  have W := Walks.list (prog := prog) (w := w) (A := A) hh I ax (Nat.ne_of_lt haxI) its
  refine compStartOn hit₁ (compLoopOn (fun n s' => ∃ (h' : Heap) (tk i : Nat) (ys : List Value) (m' : Str → Option Value) (tl : List (Addr × Obj)), s' = { s₁ with heap := h', toks := tk } ∧ i ≤ its.size ∧ n = its.size + 1 - i ∧ ys.length = i ∧ h'.IsListIter I ax i ∧
    Fr h₀ L h' m ∧ h'.Ns C m' ∧ News h₀ L h' ((D, lst ys) :: (tl ++ news)) ∧ Off3 I C D (tl ++ news) ∧ J i ys tl) ?_ (its.size + 1)
    ⟨h₁, _, 0, [], _, [], rfl, Nat.zero_le _, rfl, rfl, hit₁, F.keeps old, hns, ?_, ?_, j0⟩)
  · rintro n s' ⟨h', tk, i, ys, m', tl, rfl, hi, rfl, hyl, hit', F', hn', N', off', hJ⟩ E'
    have hl' : h'.IsList ax its := ⟨_, (N' _ (.tail _ (List.mem_append_right _ hax))).1, rfl, k, rfl⟩
    have off := off'.mem
    by_cases hlt : i < its.size
    · refine W.item i _ _ _ hlt ⟨hit', hl'⟩ fun v h₂ tk₂ hv st₂ k₂ => ?_
      obtain ⟨t, v1, v2, v3, nt, rfl, hmt⟩ := items i v hv
      have k₂' : ∀ b o, b ≠ I → h'.get? b = some o → h₂.get? b = some o := fun b o hb e => k₂ b o (by simpa using hb) e
      have N₂ : ∀ p ∈ (D, lst ys) :: (tl ++ news), h₂.get? p.1 = some p.2 := fun p hp => by
        refine k₂' _ _ ?_ (N' p hp).1
        rcases List.mem_cons.mp hp with rfl | hp
        · exact neA (a := D) (b := I) (by omega)
        · exact (off p hp).1
      refine wpAny_letOwnedTupleGo_listiter st₂.1 ?_
      refine assign3 (C := C) hh ⟨_, N₂ _ (.tail _ (List.mem_append_right _ hmt)), rfl, nt, rfl⟩ rfl (hn'.at' fun o e => k₂' _ o (neA (by omega)) e) (lookup_relabel_local hx1) (lookup_relabel_local hx2) (lookup_relabel_local hx3) (by simp [compEnvC, relabel, hkind]) fun h₃ tk₃ n₃ k₃ => ?_
      obtain ⟨oI, heI⟩ : ∃ oI, h₃.get? I = some oI := by obtain ⟨o, e, _⟩ := st₂.1; exact ⟨o, k₃ _ _ (neA (by omega)) e⟩
      have hit₃ : h₃.IsListIter I ax (i + 1) := by obtain ⟨o, e, r⟩ := st₂.1; exact ⟨o, k₃ _ _ (neA (by omega)) e, r⟩
      obtain ⟨oC, heC, hoC⟩ := ns_obj n₃
      have F₃ : Fr h₀ L h₃ m := ⟨(F'.ns.at' fun o e => k₂' _ o (neA (by omega)) e).at' fun o e => k₃ _ o (neA (by omega)) e, fun b o e => by
        have hb : b ≠ I ∧ b ≠ C := ⟨fun q => (by rw [q, fresh I (Nat.le_refl _)] at e; cases e), fun q => (by rw [q, fresh C (by omega)] at e; cases e)⟩
        exact k₃ b o hb.2 (k₂' b o hb.1 (F'.keep b o e)), F'.above⟩
      have N₃ : News h₀ L h₃ ((I, oI) :: (C, oC) :: (D, lst ys) :: (tl ++ news)) := fun p hp => by
        rcases List.mem_cons.mp hp with rfl | hp
        · exact ⟨heI, neA (a := I) (b := L) (by omega), fresh I (Nat.le_refl _)⟩
        · rcases List.mem_cons.mp hp with rfl | hp
          · exact ⟨heC, neA (a := C) (b := L) (by omega), fresh C (by omega)⟩
          · refine ⟨k₃ _ _ ?_ (N₂ p hp), (N' p hp).2⟩
            rcases List.mem_cons.mp hp with rfl | hp
            · exact neA (a := D) (b := C) (by omega)
            · exact (off p hp).2.1
      refine wpOn_mono (turn i t v1 v2 v3 nt ys tl I oI C oC D _ h₃ _ E' hv hmt hJ hoC (by simp [d12, d13]) (by simp [d23]) (by simp) F₃ N₃ off') (fun y s₄ h₄ => ?_) fun _ _ e => e
      obtain ⟨h₄, tk₄, tl₄, rfl, F₄, N₄, off₄, J₄⟩ := h₄
      have zI := (N₄ (I, oI) (.head _)).1
      have zC := (N₄ (C, oC) (.tail _ (.head _))).1
      have zD := (N₄ (D, lst ys) (.tail _ (.tail _ (.head _)))).1
      refine append_at (hsz := by show ys.toArray.size ≤ sizeLine; rw [List.size_toArray, hyl, sizeLine_eq]; omega) zD fun h₅ hs₅ hD₅ => ?_
      have off4 := off₄.mem
      refine ⟨its.size + 1 - (i + 1), by omega, h₅, tk₄, i + 1, ys ++ [y], _, tl₄, rfl, hlt, rfl, by rw [List.length_append, List.length_singleton, hyl], ?_, F₄.change hs₅ (neA (a := D) (b := L) (by omega)) (fresh D (by omega)), (hoC.ns zC).sameBut hs₅ (neA (a := C) (b := D) (by omega)), fun p hp => ?_, off₄, J₄⟩
      · obtain ⟨o, e, r⟩ := hit₃
        rw [heI] at e; cases e
        exact ⟨_, hs₅.extBut _ _ (neA (a := I) (b := D) (by omega)) zI, r⟩
      · rcases List.mem_cons.mp hp with rfl | hp
        · exact ⟨hD₅.trans (congrArg some (lst_snoc ys y)), neA (a := D) (b := L) (by omega), fresh D (by omega)⟩
        · have z := N₄ p (.tail _ (.tail _ (.tail _ hp)))
          exact ⟨hs₅.extBut _ _ (off4 p hp).2.2 z.1, z.2⟩
    · obtain rfl : i = its.size := Nat.le_antisymm hi (Nat.not_lt.mp hlt)
      refine W.done _ _ _ ⟨hit', hl'⟩ fun h₂ tk₂ k₂ => ?_
      have k₂' : ∀ b o, b ≠ I → h'.get? b = some o → h₂.get? b = some o := fun b o hb e => k₂ b o (by simpa using hb) e
      refine ⟨m', hn'.at' fun o e => k₂' _ o (by exact neA (a := C) (b := I) (by omega)) e, fun h'' hs'' => ?_⟩
      refine fin D ys tl h'' tk₂ hyl hJ ?_ (fun p hp => ?_) off'.one
      · have F₂ : Fr h₀ L h₂ m := ⟨F'.ns.at' fun o e => k₂' _ o (neA (by omega)) e, fun b o e => k₂' b o (fun q => by rw [q, fresh I (Nat.le_refl _)] at e; cases e) (F'.keep b o e), F'.above⟩
        exact F₂.change hs'' (neA (a := C) (b := L) (by omega)) (fresh C (by omega))
      · refine ⟨hs''.extBut _ _ ?_ (k₂' _ _ ?_ (N' p hp).1), (N' p hp).2⟩
        · rcases List.mem_cons.mp hp with rfl | hp
          · exact neA (a := D) (b := C) (by omega)
          · exact (off p hp).2.1
        · rcases List.mem_cons.mp hp with rfl | hp
          · exact neA (a := D) (b := I) (by omega)
          · exact (off p hp).1
  · intro p hp
    rcases List.mem_cons.mp hp with rfl | hp
    · exact ⟨hacc, neA (a := D) (b := L) (by omega), fresh D (by omega)⟩
    · exact ⟨old _ _ (N p hp).1, (N p hp).2⟩
  · refine Off3.of fun p hp => ?_
    have := apart p hp
    exact ⟨neA (a := p.1) (b := I) (by omega), neA (a := p.1) (b := C) (by omega), neA (a := p.1) (b := D) (by omega)⟩
end
end Mine
end

-- L0
section
open PySem PySem.W PyProof.Rows PySem.Calls PyProof.Rows.LCg
set_option maxRecDepth 100000
namespace Mine
theorem enter_callOn {M : Model} {A : Around} {s : Shared} {f : Value} {pos : List Value} {kw : List (Str × Value)} {c : ClaimW} {cl : Str → Option Addr} {mean : ExcName → Option Value} {args : List WData} {s₁ : Shared}
    (h : codeOn M A (.call f ⟨pos, kw⟩) (GoodWG c cl mean args s₁) s) : wpOn M A (PySem.call f pos kw) (fun v s' => GoodWG c cl mean args s₁ (.ok (.ret v)) s') (fun e s' => GoodWG c cl mean args s₁ (.error e) s') s :=
  wpOn_call (codeOn_mono h fun res s' g => by rcases g.1 with ⟨v, _, _, rfl, _⟩ | ⟨e, _, _, rfl, _⟩ <;> exact g)
theorem call_fullOn {prog : Program} {w : World} {A : Around} {R : Result → Shared → Prop} {s : Shared} {name : Str} {params : Arguments} {body : List Stmt} {scope : Scope}
    {dV kV pm cd doc : Value} {a : Addr} {o : Obj} {args : Args} {binds : List (Str × Value)}
    (hroom : A.depth < recursionLimit) (ho : s.heap.get? a = some o) (hdata : o.data = .func { docDef name params body scope pm cd doc with defaults := dV, kwdefaults := kV }) (hlim : s.heap.NoLimit) (hcd : s.heap.CodeRec cd name)
    (hbind : BindsTo s { docDef name params body scope pm cd doc with defaults := dV, kwdefaults := kV } args binds)
    (hloc : ∀ x ∈ binds, scope.names.lookup x.1 = some .local)
    (h : ∀ h₁, Fr s.heap s.heap.objs.size h₁ (fun x => binds.reverse.lookup x) →
      wpOn (model prog w) (A.deeper (envOf name scope s.heap.objs.size a cd)) (execs body (envOf name scope s.heap.objs.size a cd))
        (fun f s' => R (.ok (.ret (match f with | .ret v => v | _ => .none))) s')
        (fun e s' => wpAny (model prog w) (A.deeper (envOf name scope s.heap.objs.size a cd)) (leaving (envOf name scope s.heap.objs.size a cd) e)
          (fun _ s'' => R (.error e) s'') (fun e' s'' => R (.error e') s'') s')
        { s with heap := h₁, toks := s.toks + binds.length })
    (hco : scope.isCoroutine = false := by rfl) (hgen : scope.isGenerator = false := by rfl) (hk : scope.kind = .function := by rfl)
    (hcell : ∀ x ∈ scope.names, x.2 ≠ .cell := by decide) :
    codeOn (model prog w) A (.call (.ref a) args) R s :=
  codeOn_call_def hroom ho hdata hlim hcd rfl hbind hcell hloc (fun h₁ hns hkeep => h h₁ ⟨hns, hkeep, Nat.le_refl _⟩) hco hgen hk
end Mine
end

-- P7
section
open PySem PySem.W PyProof.Rows PySem.Calls PySem.NumText
set_option maxRecDepth 100000
namespace Mine
theorem tabs_small (h : Int) : ∀ p ∈ tabs h, ∀ c ∈ p.2, c < 128 := by
  unfold tabs
  repeat' split
  all_goals decide
theorem small_spell : ∀ (hs : List Int) {l : List Nat}, (∀ c ∈ l, c < 128) → ∀ c ∈ spell hs l, c < 128
  | [], _, hl => hl
  | h :: hs, l, hl => by
    rw [spell_cons]
    refine small_spell hs fun c hc => ?_
    obtain ⟨d, hd, hc⟩ := List.mem_flatMap.mp hc
    rcases tab_val hc with rfl | ⟨p, hp, hq⟩
    · exact hl _ hd
    · exact tabs_small h p hp c hq
theorem ok_S {l : List Nat} (h : ∀ c ∈ l, c < 128) : PyData.strOk (S l) = true := by
  unfold PyData.strOk
  rw [Array.all_eq_true']
  intro c hc
  exact decide_eq_true (Nat.lt_trans (h c (by simpa [S] using hc)) (by decide))
theorem small_name {nm : List Nat} (h : ∀ c ∈ nm, c ∈ nameL) : ∀ c ∈ nm, c < 128 := fun c hc => (alph_small c (alph_name c (h c hc))).2
theorem small_T0 {nm inner : List Nat} (h : ∀ c ∈ nm, c ∈ nameL) (hi : Inner inner) : ∀ c ∈ T0 nm inner, c < 128 := by
  intro c hc
  simp only [T0, List.mem_append] at hc
  rcases hc with (((hc | hc) | hc) | hc) | hc
  · exact (by decide : ∀ c ∈ ([32, 34] : List Nat), c < 128) c hc
  · exact small_name h c (dbl_mem hc)
  · exact (by decide : ∀ c ∈ ([34, 32, 40] : List Nat), c < 128) c hc
  · exact (alph_small c (alph_inner hi c hc)).2
  · exact (by decide : ∀ c ∈ ([41, 32, 97, 116, 32, 108, 97, 115, 116] : List Nat), c < 128) c hc
theorem ok_lit1 : PyData.strOk (Str.ofString "error_proto") = true := by decide +kernel
theorem ok_lit2 : PyData.strOk (Str.ofString "ValueError") = true := by decide +kernel
theorem ok_lit3 : PyData.strOk (Str.ofString "::1") = true := by decide +kernel
theorem kq_str (n : Nat) (x : Str) : kqdOk n (.str x) = PyData.strOk x := by cases n <;> rfl
theorem port_ok (p : List Nat) : kqdOk 7 (portDat p) = true := by
  unfold portDat
  split
  · rw [kq_str]; exact ok_lit2
  · show [Dat.str (Str.ofString "::1"), Dat.int _].all (kqdOk 6) = true
    rw [List.all_cons, List.all_cons, List.all_nil, kq_str, ok_lit3]; rfl
theorem ans_ok {hs : List Int} {nm inner : List Nat} (g : GoodR hs nm inner) : kqdOk 8 (.list (ans hs nm inner)) = true := by
  have hT := small_spell hs (small_T0 g.name g.inner)
  have hN : ∀ c ∈ (if hs.any bad then [] else spell hs nm), c < 128 := by
    split
    · intro c hc; cases hc
    · exact small_spell hs (small_name g.name)
  show (ans hs nm inner).all (kqdOk 7) = true
  unfold ans
  rw [List.all_append, List.all_cons, List.all_cons, List.all_nil, kq_str, kq_str, ok_S hT, ok_S hN]
  show (rest229 _ _ _).all (kqdOk 7) = true
  unfold rest229
  split
  · rw [List.all_cons, List.all_nil, port_ok]; rfl
  · rw [List.all_cons, List.all_cons, List.all_nil, kq_str, kq_str, ok_lit1, ok_S]
    · rfl
    · intro c hc
      rcases List.mem_append.mp hc with hc | hc
      · exact (by decide : ∀ c ∈ ([50, 50, 57] : List Nat), c < 128) c hc
      · exact hT c hc
end Mine
end

-- L2
section
open PySem PySem.W PyProof.Rows PySem.Calls PyProof.Rows.LCg
set_option maxRecDepth 100000
namespace Mine
/-- a reply as it lies in the ledger -/
def RepOk (tl : List (Addr × Obj)) (y : Value) (r : List Int × List Nat × List Nat) : Prop :=
  ∃ (D ah : Addr) (vs : List Value) (k1 k2 : Nat) (t1 t2 : Tok), y = .ref D ∧ (D, listOf #[.ref ah, .str (S r.2.1) t1, .str (S r.2.2) t2] k1) ∈ tl ∧ (ah, listOf vs.toArray k2) ∈ tl ∧ IntsAre vs r.1 ∧ GoodR r.1 r.2.1 r.2.2
theorem RepOk.mono {tl tl' : List (Addr × Obj)} {y : Value} {r : List Int × List Nat × List Nat} (x : RepOk tl y r) (hs : ∀ p ∈ tl, p ∈ tl') : RepOk tl' y r := by
  obtain ⟨D, ah, vs, k1, k2, t1, t2, e, h1, h2, r⟩ := x
  exact ⟨D, ah, vs, k1, k2, t1, t2, e, hs _ h1, hs _ h2, r⟩
theorem ReplyOut.ok {tl : List (Addr × Obj)} {y : Value} (x : ReplyOut tl y) : ∃ r, RepOk tl y r := by
  obtain ⟨D, ah, vs, hs, nm, inner, k1, k2, t1, t2, e, h1, h2, h3, h4⟩ := x
  exact ⟨(hs, nm, inner), D, ah, vs, k1, k2, t1, t2, e, h1, h2, h3, h4⟩
def RepsOk (tl : List (Addr × Obj)) (ys : List Value) (rs : List (List Int × List Nat × List Nat)) : Prop :=
  rs.length = ys.length ∧ ∀ (i : Nat) (y : Value) (r : List Int × List Nat × List Nat), ys[i]? = some y → rs[i]? = some r → RepOk tl y r
theorem RepsOk.nil {tl : List (Addr × Obj)} : RepsOk tl [] [] := ⟨rfl, by simp⟩
theorem RepsOk.snoc {tl tl' : List (Addr × Obj)} {ys : List Value} {rs : List (List Int × List Nat × List Nat)} {y : Value} {r : List Int × List Nat × List Nat} (x : RepsOk tl ys rs) (hs : ∀ p ∈ tl, p ∈ tl') (hy : RepOk tl' y r) : RepsOk tl' (ys ++ [y]) (rs ++ [r]) := by
  refine ⟨by simp [x.1], fun i z q hz hq => ?_⟩
  rcases Nat.lt_trichotomy i ys.length with h | h | h
  · rw [List.getElem?_append_left h] at hz
    rw [List.getElem?_append_left (by rw [x.1]; exact h)] at hq
    exact (x.2 i z q hz hq).mono hs
  · subst h
    rw [List.getElem?_append_right (Nat.le_refl _), Nat.sub_self] at hz
    rw [List.getElem?_append_right (by rw [x.1]; exact Nat.le_refl _), x.1, Nat.sub_self] at hq
    simp at hz hq
    subst hz; subst hq
    exact hy
  · rw [List.getElem?_eq_none (by simp; omega)] at hz
    cases hz
theorem RepsOk.mono {tl tl' : List (Addr × Obj)} {ys : List Value} {rs : List (List Int × List Nat × List Nat)} (x : RepsOk tl ys rs) (hs : ∀ p ∈ tl, p ∈ tl') : RepsOk tl' ys rs := ⟨x.1, fun i y r h1 h2 => (x.2 i y r h1 h2).mono hs⟩
theorem RepsOk.at {tl : List (Addr × Obj)} {ys : List Value} {rs : List (List Int × List Nat × List Nat)} (x : RepsOk tl ys rs) {i : Nat} {y : Value} (h : ys[i]? = some y) : ∃ r, rs[i]? = some r ∧ RepOk tl y r := by
  have hlt : i < rs.length := by rw [x.1]; exact (List.getElem?_eq_some_iff.mp h).1
  exact ⟨rs[i], List.getElem?_eq_getElem hlt, x.2 i y _ h (List.getElem?_eq_getElem hlt)⟩
/-- the answers -/
def anss (rs : List (List Int × List Nat × List Nat)) : List Dat := rs.map fun r => .list (ans r.1 r.2.1 r.2.2)
def AnsAll (rs : List (List Int × List Nat × List Nat)) (i : Nat) (ys : List Value) (tl : List (Addr × Obj)) : Prop := DatAll tl ys (anss (rs.take i))
theorem AnsAll.snoc {rs : List (List Int × List Nat × List Nat)} {i : Nat} {ys : List Value} {tl tl' : List (Addr × Obj)} {y : Value} {r : List Int × List Nat × List Nat} (x : AnsAll rs i ys tl) (hr : rs[i]? = some r) (hs : ∀ p ∈ tl, p ∈ tl') (hy : AnsOut r.1 r.2.1 r.2.2 tl' y) : AnsAll rs (i + 1) (ys ++ [y]) tl' := by
  unfold AnsAll anss
  rw [List.take_add_one, hr, Option.toList_some, List.map_append]
  exact (x.mono hs).append (.one hy)
theorem anss_ok {tl : List (Addr × Obj)} {ys : List Value} {rs : List (List Int × List Nat × List Nat)} (x : RepsOk tl ys rs) : ∀ d ∈ anss rs, kqdOk 8 d = true := by
  intro d hd
  obtain ⟨r, hr, rfl⟩ := List.mem_map.mp hd
  obtain ⟨i, hi⟩ := List.getElem?_of_mem hr
  have hlt : i < ys.length := by rw [← x.1]; exact (List.getElem?_eq_some_iff.mp hi).1
  obtain ⟨D, ah, vs, k1, k2, t1, t2, _, _, _, _, g⟩ := x.2 i ys[i] r (List.getElem?_eq_getElem hlt) hi
  exact ans_ok g
section
variable {prog : Program} {w : World} {A : Around} {E : Value → Shared → Prop} {s : Shared} {h₀ : Heap} {L : Addr} {m : Str → Option Value} {env : Env}
/-- a comprehension whose elements leave objects behind -/
theorem rest_grow {elt : Expr} {x : Str} {scope : Scope} {cl : List (Str × Addr)} {St : List (Addr × Obj) → Prop} {P : Nat → Value → Prop} {Fin : List Value → List (Addr × Obj) → Prop} {n : Nat} {news : List (Addr × Obj)} (J : Nat → List Value → List (Addr × Obj) → Prop)
    (step : ∀ (i : Nat) (v : Value) (I : Addr) (oI : Obj) (C : Addr) (oC : Obj) (D : Addr) (ys : List Value) (tl : List (Addr × Obj)) (m₂ : Str → Option Value) (h : Heap) (tk : Nat) (E' : Value → Shared → Prop), i < n → P i v → J i ys tl → NsObj oC m₂ → m₂ x = some v → Fr h₀ L h m → News h₀ L h ((I, oI) :: (C, oC) :: (D, lst ys) :: (tl ++ news)) → Off3 I C D (tl ++ news) →
      wpAny (model prog w) A (eval elt (compEnvC scope cl C env)) (End3 h₀ L m s I oI C oC D (lst ys) news (J (i + 1)) ys) E' { s with heap := h, toks := tk })
    (hS : ∀ tl, St (tl ++ news)) (j0 : J 0 [] []) (fin : ∀ ys tl, ys.length = n → J n ys tl → Fin ys (tl ++ news)) : CompRest prog w A h₀ L m env elt x scope cl s St P Fin n 0 [] news := by
  suffices H : ∀ k i ys tl, i + k = n → ys.length = i → J i ys tl → CompRest prog w A h₀ L m env elt x scope cl s St P Fin k i ys (tl ++ news) from H n 0 [] [] (Nat.zero_add n) rfl j0
  intro k
  induction k with
  | zero =>
    intro i ys tl e hl hJ
    obtain rfl : i = n := by omega
    exact CompRest.zero (fin ys tl hl hJ)
  | succ k ih =>
    intro i ys tl e hl hJ
    refine CompRest.succ ?_
    intro v I oI C oC D m₂ h tk E' hP hC hx F N off ne
    refine wpAny_mono (step i v I oI C oC D ys tl m₂ h tk E' (by omega) hP hJ hC hx F N off) (fun y s' q => ?_) fun _ _ e => e
    obtain ⟨h', tk', tl', rfl, F', N', off', J'⟩ := q
    exact CompEnd.intro F' N' (tl' ++ news) (fun p hp => hp) off' (hS tl') (ih (i + 1) (ys ++ [y]) tl' (by omega) (by simp [hl]) J')
theorem args_three {M : Model} {f : Value} {e e' e'' : Expr} {pos : Pos} {Q : Args → Shared → Prop} (h : wpAny M A (eval e env) (fun v s₁ => wpAny M A (eval e' env) (fun v' s₂ => wpAny M A (eval e'' env) (fun v'' s₃ => Q ⟨[v, v', v''], []⟩ s₃) E s₂) E s₁) E s)
    (he : starEach [e, e', e''] env = [(false, eval e env), (false, eval e' env), (false, eval e'' env)]) :
    wpAny M A (evalArgs f true (backTo pos (starEach [e, e', e''] env)) []) Q E s := by
  rw [he]
  exact Calls.evalArgs_plain (Calls.spliced_cons (wpAny_mono h (fun _ _ q => Calls.spliced_cons (wpAny_mono q (fun _ _ q => Calls.spliced_cons (wpAny_mono q (fun _ _ q => Calls.spliced_nil q) fun _ _ e => e)) fun _ _ e => e)) fun _ _ e => e))
/-- the end of an element that a call has made -/
theorem end3_call {I C D : Addr} {oI oC oD : Obj} {news tl tn : List (Addr × Obj)} {J : List Value → List (Addr × Obj) → Prop} {ys : List Value} {y : Value} {h' : Heap} {tk' : Nat} (F : Fr h₀ L h' m) (N : News h₀ L h' (tn ++ ((I, oI) :: (C, oC) :: (D, oD) :: (tl ++ news))))
    (ap : ∀ p ∈ tn, ∀ q ∈ ((I, oI) :: (C, oC) :: (D, oD) :: (tl ++ news)), p.1 ≠ q.1) (off : Off3 I C D (tl ++ news)) (hJ : J (ys ++ [y]) (tn ++ tl)) : End3 h₀ L m s I oI C oC D oD news J ys y { s with heap := h', toks := tk' } := by
  refine ⟨h', tk', tn ++ tl, rfl, F, fun p hp => N p ?_, Off3.of fun p hp => ?_, hJ⟩
  · simp only [List.mem_cons, List.mem_append] at hp ⊢
    rcases hp with h | h | h | (h | h) | h
    · exact .inr (.inl h)
    · exact .inr (.inr (.inl h))
    · exact .inr (.inr (.inr (.inl h)))
    · exact .inl h
    · exact .inr (.inr (.inr (.inr (.inl h))))
    · exact .inr (.inr (.inr (.inr (.inr h))))
  · rcases List.mem_append.mp hp with hp | hp
    · rcases List.mem_append.mp hp with hp | hp
      · exact ⟨ap p hp _ (.head _), ap p hp _ (.tail _ (.head _)), ap p hp _ (.tail _ (.tail _ (.head _)))⟩
      · exact off.mem p (List.mem_append_left _ hp)
    · exact off.mem p (List.mem_append_right _ hp)
end
end Mine
end

-- L1
section
open PySem PySem.W PyProof.Rows PySem.Calls PyProof.Rows.LCg PyProof.Rows.LCt PySem.NumText
namespace Mine
set_option maxRecDepth 100000
set_option maxHeartbeats 8000000

theorem few16 {ws : List Value} {ns cs : List Int} (h : IntsAre ws (List.take 4 ns ++ cs)) (hc : cs.length = 12) : ws.length ≤ 16 := by
  rw [ints_len h, List.length_append, List.length_take, hc]
  exact Nat.add_le_add_right (Nat.min_le_left 4 _) 12
theorem listOf_inj {a b c a' b' c' : Value} {n n' : Nat} (h : listOf #[a, b, c] n = listOf #[a', b', c'] n') : a = a' ∧ b = b' ∧ c = c' := by
  simp only [Obj.mk.injEq, Data.seq.injEq] at h
  have := h.2.2.1.1
  simp at this
  exact this
theorem TelO.use {w : World} {mean : ExcName → Option Value} {mg mb : Str → Option Value} {n : Nat} {f : Addr} {vs : List Value} {Out : List (Addr × Obj) → Value → Prop} {news : List (Addr × Obj)} {dp un : Nat} {gd : Option (List Code)} {cn : Str} {cs : Scope} {a : Addr} {ccd : Value} {A₀ : Around} {base h₀ : Heap} {L : Addr} {m : Str → Option Value} {s : Shared} {Q E : Value → Shared → Prop}
    (C : TelO w mean mg mb news n f vs Out) (B : Below A₀ base [] h₀) (F : Fr h₀ L s.heap m) (X : (hd.heap_39 w.params).In h₀) (N : News h₀ L s.heap news) (T : Top hd.view_39 (looseW hd.view_39 []) mean mg mb h₀) (hk : cs.kind = .function)
    (XB : (hd.heap_39 w.params).In base) (TB : Top hd.view_39 (looseW hd.view_39 []) mean mg mb base) (hd : dp + n < recursionLimit) (hu : un + 8 * n + 64 < cLine)
    (ret : ∀ (r : Value) (tl : List (Addr × Obj)) (h' : Heap) (tk' : Nat), Fr h₀ L h' m → News h₀ L h' (tl ++ news) → (∀ p ∈ tl, ∀ q ∈ news, p.1 ≠ q.1) → Out tl r → Q r { s with heap := h', toks := tk' }) :
    wpOn (model Challenge.rw_pe0131_01.row.prog w) (ktrTop dp un gd cn cs L a ccd [] []) (call (.ref f) vs) Q E s := C _ _ _ _ _ _ _ _ _ _ _ _ _ _ _ B F X N T hk XB TB hd hu ret
theorem News.only {g h : Heap} {L : Addr} {p : Addr × Obj} {r : List (Addr × Obj)} (N : News g L h (p :: r)) : News g L h [p] := fun q hq => N q (by rw [List.mem_singleton.mp hq]; exact .head _)
local macro_rules | `(tactic| k_all) => `(tactic| assumption)
local macro_rules | `(tactic| walk_at $s:str) => `(tactic| k_extra $s)
theorem rules_L1 : True := by
  w_top off
  k_with_none
  (k_with "CompSrc" => ((k_here; refine hold_in ?_)))
  (k_with "call ref" => ((k_here; (with_reducible show wpAny _ _ (call (Value.ref 112) _) _ _ _); k_dflt ((refine' TelD.use (reply _ _ _ _ _ _ _) ?zzk1 ?zzk2 ?zzk3 ?zzk4 ?zzk5 ?zzkK ?zzkd ?zzku ?_); (case zzk1 => k_asm); (case zzk2 => k_asm); (case zzk3 => k_asm); (case zzk4 => k_asm); (case zzk5 => k_asm); (case zzkK => first | exact rfl | assumption); (case zzkd => first | ktr_room | decide); (case zzku => first | ktr_units | decide)); intro zzr9 zztl9 zzh9 zztk9 zzF9 zzN9 zza9 zzo9; (try dsimp only); (try k_fold))))
  trivial

theorem law_walk : PySem.Challenge.rw_pe0131_01.Holds := hd (by
  k_fill
  intro w s₀ s₁ mg mb G Y fa o pm cd doc dV kV ho hd hcd hD hmg hg args vals as hpre hlay hrd hwl hlo
  have KX := kIn_of Y
  have X := (Ground.X G).1
  have V := (Ground.X G).2
  try w_nolog (first | (have GL := glob_more (Ground.glob G (by first | k_qdec | decide +kernel) (by first | k_qdec | decide +kernel)) V) | (have GL := glob_more (Ground.glob G (by decide +kernel)) V))
  refine Ground.open G ?_
  intro T B D TE TW
  try (refine guard_noD D (by decide +kernel) ?_; clear D)
  obtain ⟨_, _, M⟩ := bmod_of_top T
  have TA := at_of_top T
  try (obtain ⟨_, _, he, B0⟩ := based_of_top T rfl hmg ho hd; have he' : cd = _ := he; subst he'; clear he)
  clear hmg
  wrow_args hpre hlay hrd hwl hlo
  all_goals (
    refine enter_callOn ?_
    w_top on
    refine codeOn_mono ?_ (fun _ _ g => GoodW.toG g)
    have K0 := below_caller (Top.heap T)
    have he := Dflts.none hD rfl
    subst he
    refine call_fullOn (by decide) ho hd (Top.nolimit T) hcd (BindsTo.of_eq rfl) (locs rfl) fun h₁ F => ?_
    w_binds F
    have N0 := (News.nil : News _ _ _ []).at F
    clear hd TA
    k_drop
    skip)
  all_goals try k_fold
  refine execsOn_consA ?_
  k_steps
  refine nxt ?_
  (rename Fr _ _ _ _ => F1); (rename News _ _ _ _ => N1); (rename IntsAre _ _ => hI1)
  have N2 := News.only N1
  have K1 : Below callerA s₁.heap [] s₁.heap := below_caller s₁.heap
  clear N1 K0
  have hsz := few16 hI1 rfl
  (try dsimp only)
  refine execsOn_consA ?_
  (with_reducible refine' LCg.Assign_ListComp_U F1 ?hLe ?hsw ?c1 ?c2 ?c3 ?c4 ?c5 ?hy ?hp ?_ ?c6)
  case hLe => rfl
  case hsw => with_unfolding_all rfl
  case c1 => with_unfolding_all rfl
  case c2 => decide
  case c3 => rfl
  case c4 => decide
  case c5 => rfl
  case hy => rfl
  case hp => rfl
  case c6 => intro _; rfl
  k_steps
  unfold Hold
  refine CompSrc.ledger rfl F1 N2 (.head _) (by rw [sizeLine_eq, List.size_toArray]; omega) fun g => rest_grow (fun i ys tl => ∃ rs, RepsOk tl ys rs) ?step ?hS ?j0 ?fin
  case hS => exact fun tl => .inr ⟨_, List.mem_append_right _ (.head _), rfl, _, rfl⟩
  case j0 => exact ⟨[], RepsOk.nil⟩
  case step =>
    intro i9 v9 I9 oI9 C9 oC9 D9 ys9 tl9 m9 H9 tk9 E9 hi9 hP9 hJ9 hC9 hx9 F9 N9 off9
    obtain ⟨n9, u9, _, rfl⟩ := ints_get hI1 (i := i9) (v := v9) (by simpa using hP9)
    clear F1 N2
    k_steps
    obtain ⟨rs, hrs⟩ := hJ9
    obtain ⟨r, hr⟩ := ReplyOut.ok zzo9
    exact end3_call zzF9 zzN9 zza9 off9 ⟨rs ++ [r], RepsOk.snoc hrs (fun p hp => List.mem_append_right _ hp) (hr.mono fun p hp => List.mem_append_left _ hp)⟩
  case fin =>
    intro ys9 tl9 hl9 hJ9
    unfold FinA
    intro D9 H9 tk9 F9 N9 o9
    obtain ⟨rs, hrs⟩ := hJ9
    rw [List.size_toArray] at hl9
    clear F1 N2
    refine nxt ?_
    (try dsimp only)
    refine execsOn_cons (returnOn (compareOn ?_))
    refine' compOn3 F9 ?hh ?c1 ?c2 ?c3 ?c4 ?x1 ?x2 ?x3 ?d12 ?d13 ?d23 ?hs ?_
    case hh => rfl
    case c1 => with_unfolding_all rfl
    case c2 => decide
    case c3 => rfl
    case c4 => decide
    case x1 => rfl
    case x2 => rfl
    case x3 => rfl
    case d12 => decide
    case d13 => decide
    case d23 => decide
    case hs => intro _; rfl
    k_steps
    refine ⟨_, _, _, _, AnsAll rs, rfl, F9, N9, .head _, ?sz, .nil, ?items, ?turn, ?fin⟩
    case sz => rw [List.size_toArray]; omega
    case items =>
      intro i8 v8 hv8
      obtain ⟨r, hr, D8, ah, vs, k1, k2, t1, t2, e, h1, h2, h3, h4⟩ := hrs.at (i := i8) (y := v8) (by simpa using hv8)
      exact ⟨D8, _, _, _, k1, e, (List.mem_cons_of_mem _ (List.mem_append_left _ h1))⟩
    case turn =>
      intro i8 t8 v1 v2 v3 nt8 ys8 tl8 I8 oI8 C8 oC8 D8 m8 H8 tk8 E8 hv8 hm8 hJ8 hC8 hy1 hy2 hy3 F8 N8 off8
      obtain ⟨r, hr, D7, ah, vs, k1, k2, t1, t2, e, h1, h2, h3, h4⟩ := hrs.at (i := i8) (y := .ref t8) (by simpa using hv8)
      cases e
      obtain ⟨rfl, rfl, rfl⟩ := listOf_inj (Option.some.inj ((N8 _ (.tail _ (.tail _ (.tail _ (List.mem_append_right _ hm8))))).1.symm.trans (N8 _ (List.mem_cons_of_mem _ (List.mem_cons_of_mem _ (List.mem_cons_of_mem _ (List.mem_append_right _ (List.mem_cons_of_mem _ (List.mem_append_left _ h1))))))).1))
      clear F9 N9
      refine evalCallOn ?_
      k_steps
      refine callWithOn_def (args_three ?_ rfl)
      k_steps
      unfold CallAt
      (rename Fr _ _ _ _ => F7); (rename News _ _ _ _ => N7)
      refine' ⟨fn_at KX F7 ?lk, ?_⟩
      case lk => k_is
      k_dflt (refine' TelO.use (heard _ _ _ _ _ _ _ (List.mem_cons_of_mem _ (List.mem_cons_of_mem _ (List.mem_cons_of_mem _ (List.mem_append_right _ (List.mem_cons_of_mem _ (List.mem_append_left _ h2)))))) h3 h4) K1 F7 KX N7 T rfl KX T ?kd ?ku ?ret)
      case kd => first | ktr_room | decide
      case ku => first | ktr_units | decide
      case ret =>
        intro r6 tl6 h6 tk6 F6 N6 a6 o6
        exact end3_call F6 N6 a6 off8 (AnsAll.snoc hJ8 hr (fun p hp => List.mem_append_right _ hp) (DatIn.mono (fun p hp => List.mem_append_left _ hp) o6))
    case fin =>
      intro DA ysA tlA HA tkA hlA hJA FA NA oA
      clear F9 N9
      (try dsimp only)
      refine' compOn3 FA ?hh ?c1 ?c2 ?c3 ?c4 ?x1 ?x2 ?x3 ?d12 ?d13 ?d23 ?hs ?_
      case hh => rfl
      case c1 => with_unfolding_all rfl
      case c2 => decide
      case c3 => rfl
      case c4 => decide
      case x1 => rfl
      case x2 => rfl
      case x3 => rfl
      case d12 => decide
      case d13 => decide
      case d23 => decide
      case hs => intro _; rfl
      k_steps
      refine ⟨_, _, _, _, AnsAll rs, rfl, FA, NA, .tail _ (List.mem_append_right _ (.head _)), ?sz, .nil, ?items, ?turn, ?fin⟩
      case sz => rw [List.size_toArray]; omega
      case items =>
        intro i8 v8 hv8
        obtain ⟨r, hr, D8, ah, vs, k1, k2, t1, t2, e, h1, h2, h3, h4⟩ := hrs.at (i := i8) (y := v8) (by simpa using hv8)
        exact ⟨D8, _, _, _, k1, e, (List.mem_cons_of_mem _ (List.mem_append_right _ (List.mem_cons_of_mem _ (List.mem_append_left _ h1))))⟩
      case turn =>
        intro i8 t8 v1 v2 v3 nt8 ys8 tl8 I8 oI8 C8 oC8 D8 m8 H8 tk8 E8 hv8 hm8 hJ8 hC8 hy1 hy2 hy3 F8 N8 off8
        obtain ⟨r, hr, D7, ah, vs, k1, k2, t1, t2, e, h1, h2, h3, h4⟩ := hrs.at (i := i8) (y := .ref t8) (by simpa using hv8)
        cases e
        obtain ⟨rfl, rfl, rfl⟩ := listOf_inj (Option.some.inj ((N8 _ (.tail _ (.tail _ (.tail _ (List.mem_append_right _ hm8))))).1.symm.trans (N8 _ (List.mem_cons_of_mem _ (List.mem_cons_of_mem _ (List.mem_cons_of_mem _ (List.mem_append_right _ (List.mem_cons_of_mem _ (List.mem_append_right _ (List.mem_cons_of_mem _ (List.mem_append_left _ h1))))))))).1))
        clear FA NA
        refine evalCallOn ?_
        k_steps
        refine callWithOn_def (args_three ?_ rfl)
        k_steps
        unfold CallAt
        (rename Fr _ _ _ _ => F7); (rename News _ _ _ _ => N7)
        refine' ⟨fn_at KX F7 ?lk, ?_⟩
        case lk => k_is
        refine wpOn_of ?_
        k_dflt (refine' TelD.use (due _ _ _ _ _ _ _ (List.mem_cons_of_mem _ (List.mem_cons_of_mem _ (List.mem_cons_of_mem _ (List.mem_append_right _ (List.mem_cons_of_mem _ (List.mem_append_right _ (List.mem_cons_of_mem _ (List.mem_append_left _ h2)))))))) h3 h4) K1 F7 KX N7 T rfl ?kd ?ku ?ret)
        case kd => first | ktr_room | decide
        case ku => first | ktr_units | decide
        case ret =>
          intro r6 tl6 h6 tk6 F6 N6 a6 o6
          exact end3_call F6 N6 a6 off8 (AnsAll.snoc hJ8 hr (fun p hp => List.mem_append_right _ hp) (DatIn.mono (fun p hp => List.mem_append_left _ hp) o6))
      case fin =>
        intro DB ysB tlB HB tkB hlB hJB FB NB oB
        clear FA NA
        have eT : anss (rs.take ys9.toArray.size) = anss rs := by rw [List.take_of_length_le (by rw [hrs.1]; simp)]
        have dA : DatAll tlA ysA (anss rs) := eT ▸ hJA
        have dB : DatAll tlB ysB (anss rs) := eT ▸ hJB
        refine kqd_eq (ds := anss rs) (es := anss rs) NB (.tail _ (List.mem_append_right _ (.head _))) rfl rfl dA (fun p hp => .tail _ (List.mem_append_right _ (.tail _ (List.mem_append_left _ hp)))) (.head _) rfl rfl dB (fun p hp => .tail _ (List.mem_append_left _ hp)) (anss_ok hrs) (anss_ok hrs) ?hu ?_
        case hu => first | ktr_units | decide
        have eD : ∀ i : Decidable (anss rs = anss rs), @decide _ i = true := fun i => @decide_eq_true _ i rfl
        rw [eD]
        dsimp only [Nxt]
        k_steps)
end Mine
end

theorem PySem.Challenge.cw_pe0131_01_holds : PySem.Challenge.rw_pe0131_01.Holds :=
  Mine.law_walk
