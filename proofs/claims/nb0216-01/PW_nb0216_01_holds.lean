import PyProof.Rows.All
import Wide.All
import OpenK.AllK
import Wide.FinOn
import Lean
import PySem.Challenge.RW_nb0216_01
set_option Elab.async false
set_option linter.all false

section -- WL
open PySem PySem.W PyProof.Rows
set_option Elab.async false
set_option maxRecDepth 100000
namespace Mine
/-- the claim's caller stands somewhere on the stack -/
def HasC (Γ : Ctx) : Prop := (Γ.code :: Γ.below.map (·.1)).any Code.isCaller = true
def BelC (Γ : Ctx) : Prop := (Γ.below.map (·.1)).any Code.isCaller = true
theorem BelC.has {Γ : Ctx} (h : BelC Γ) : HasC Γ := by
  unfold HasC; unfold BelC at h
  rw [List.any_cons, h, Bool.or_true]
theorem HasC.enter {Γ : Ctx} (h : HasC Γ) (c : Code) (v : Option Value) (p : Pos) : BelC (Γ.enter c v p) := h
def wpC {α : Type} (M : Model) (A : Around) (t : Sem α) (Q : α → Shared → Prop) (E : Value → Shared → Prop) (s : Shared) : Prop :=
  ∀ Γ p, Γ.In A → HasC Γ → Sem.wp M Γ t (fun a _ s' => Q a s') (fun e _ s' => E e s') p s
def codeC (M : Model) (A : Around) (c : Code) (R : Result → Shared → Prop) (s : Shared) : Prop :=
  ∀ Γ p, Γ.code = c → Γ.Below A → BelC Γ → wpCode M Γ R p s
section
variable {α β : Type} {M : Model} {A : Around} {E : Value → Shared → Prop} {s : Shared}
theorem wpC_of {t : Sem α} {Q : α → Shared → Prop} (h : wpAny M A t Q E s) : wpC M A t Q E s := fun Γ p hΓ _ => h Γ p hΓ
theorem codeC_of {c : Code} {R : Result → Shared → Prop} (h : codeAny M A c R s) : codeC M A c R s := fun Γ p hc hΓ _ => h Γ p hc hΓ
theorem wpC_mono {t : Sem α} {Q Q' : α → Shared → Prop} {E' : Value → Shared → Prop} (h : wpC M A t Q E s) (hQ : ∀ a s, Q a s → Q' a s) (hE : ∀ e s, E e s → E' e s) : wpC M A t Q' E' s :=
  fun Γ p hΓ hC => Sem.wp_mono M Γ t (fun a _ s => hQ a s) (fun e _ s => hE e s) p s (h Γ p hΓ hC)
theorem wpC_bind {m : Sem α} {f : α → Sem β} {Q : β → Shared → Prop} (h : wpC M A m (fun a s' => wpC M A (f a) Q E s') E s) : wpC M A (m >>= f) Q E s := fun Γ p hΓ hC => by
  rw [Sem.wp_bind']
  exact Sem.wp_mono M Γ m (fun a p' s' h' => h' Γ p' hΓ hC) (fun _ _ _ h' => h') p s (h Γ p hΓ hC)
/-- what comes first is walked in the kit's own logic -/
theorem wpC_seq {m : Sem α} {f : α → Sem β} {Q : β → Shared → Prop} (h : wpAny M A m (fun a s' => wpC M A (f a) Q E s') E s) : wpC M A (m >>= f) Q E s := wpC_bind (wpC_of h)
theorem wpC_pure {a : α} {Q : α → Shared → Prop} (h : Q a s) : wpC M A (pure a) Q E s := wpC_of (wpAny_pure h)
theorem wpC_holding {vs : List Value} {m : Sem α} {Q : α → Shared → Prop} (h : wpC M A m Q E s) : wpC M A (holding vs m) Q E s :=
  fun Γ p hΓ hC => by rw [Sem.wp_holding]; exact h Γ p hΓ hC
theorem wpC_onRaise {m : Sem α} {k : Value → Sem Unit} {Q : α → Shared → Prop} (h : wpC M A m Q (fun e s' => wpAny M A (k e) (fun _ s'' => E e s'') E s') s) : wpC M A (m.onRaise k) Q E s := fun Γ p hΓ hC => by
  rw [Sem.wp_onRaise]
  exact Sem.wp_mono M Γ m (fun _ _ _ h' => h') (fun e p' s' h' => h' Γ p' hΓ) p s (h Γ p hΓ hC)
theorem wpC_tryCatch {m : Sem α} {k : Value → Sem α} {Q : α → Shared → Prop} (h : wpC M A m Q (fun e s' => wpAny M A (k e) Q E s') s) : wpC M A (tryCatch m k) Q E s := fun Γ p hΓ hC => by
  rw [Sem.wp_tryCatch']
  exact Sem.wp_mono M Γ m (fun _ _ _ h' => h') (fun e p' s' h' => h' Γ p' hΓ) p s (h Γ p hΓ hC)
theorem wpC_attempt {m : Sem α} {Q : Except Value α → Shared → Prop} (h : wpC M A m (fun a => Q (.ok a)) (fun e => Q (.error e)) s) : wpC M A m.attempt Q E s :=
  fun Γ p hΓ hC => by rw [Sem.wp_attempt]; exact h Γ p hΓ hC
theorem wpC_call {f : Value} {pos : List Value} {kw : List (Str × Value)} {Q : Value → Shared → Prop}
    (hc : codeC M A (.call f ⟨pos, kw⟩) (fun r s' => match r with | .ok (.ret v) => Q v s' | .ok _ => False | .error e => E e s') s) : wpC M A (call f pos kw) Q E s := fun Γ p hΓ hC => by
  show Sem.wp M Γ (runValue _) _ _ p s
  rw [Sem.wp_runValue]; exact hc _ p rfl (hΓ.enter _ none p (by intro x; cases x)) (hC.enter _ _ _)
theorem codeC_mono {c : Code} {R R' : Result → Shared → Prop} (h : codeC M A c R s) (hR : ∀ r s, R r s → R' r s) : codeC M A c R' s :=
  fun Γ p hc hΓ hC => wpCode_mono hR (h Γ p hc hΓ hC)
theorem codeC_of_tree {c : Code} {R : Result → Shared → Prop}
    (h : wpC M (A.under c) (M.den c) (fun fin s' => match fin with | .done f => R (.ok f) s' | .again c' => c'.quiet = true ∧ codeC M A c' R s') (fun e s' => R (.error e) s') s) : codeC M A c R s := fun Γ p hc hΓ hC => by
  rw [wpCode_iff_wp, hc]
  refine Sem.wp_mono M Γ _ (fun fin p' s' h' => ?_) (fun _ _ _ h' => h') p s (h Γ p (hc ▸ hΓ.in) hC.has)
  cases fin with
  | done f => exact h'
  | again c' => exact ⟨h'.1, h'.2 (Γ.goto c') p' rfl (hΓ.goto c') hC⟩
/-- the stack, with the caller on it -/
theorem wpC_stack {Q : List (Code × Pos) → Shared → Prop} (h : ∀ st : List (Code × Pos), (st.map (·.1)).any Code.isCaller = true → Q st s) : wpC M A stack Q E s := fun Γ p _ hC => h _ hC
theorem wpC_keep {m : Sem α} {l : List Value} {Q : α → Shared → Prop} (h : wpC M A m Q E s) : wpC M A (m.keep l) Q E s :=
  fun Γ p hΓ hC => by rw [Sem.wp_keep]; exact h Γ p hΓ hC
variable {env : Env}
theorem wpC_execs_cons {st rest} {Q : Flow → Shared → Prop}
    (h : wpC M A (exec st env) (fun f s' => match f with | .next => wpC M A (execs rest env) Q E s' | f => Q f s') E s) : wpC M A (execs (st :: rest) env) Q E s := fun Γ p hΓ hC => by
  rw [execs_cons, Sem.wp_bind']
  refine Sem.wp_mono M Γ _ (fun f p' s' h' => ?_) (fun _ _ _ h' => h') _ _ (h Γ p hΓ hC)
  cases f <;> first | exact h' Γ p' hΓ hC | exact h'
theorem wp_execs_pre {post} {Q : Flow → Shared → Prop} {Γ : Ctx} (hΓ : Γ.In A) (hC : HasC Γ) : ∀ {pre : List Stmt} {p : Pos} {s : Shared},
    Sem.wp M Γ (execs pre env) (fun f _ s' => match f with | .next => wpC M A (execs post env) Q E s' | f => Q f s') (fun e _ s' => E e s') p s → Sem.wp M Γ (execs (pre ++ post) env) (fun f _ s' => Q f s') (fun e _ s' => E e s') p s
  | [], p, s, h => (show wpC M A (execs post env) Q E s from h) Γ p hΓ hC
  | st :: pre, p, s, h => by
    rw [execs_cons, Sem.wp_bind'] at h
    rw [List.cons_append, execs_cons, Sem.wp_bind']
    refine Sem.wp_mono M Γ _ (fun f p' s' h' => ?_) (fun _ _ _ h' => h') _ _ h
    cases f <;> first | exact wp_execs_pre hΓ hC h' | exact h'
/-- a run of statements: the first ones in the kit's logic -/
theorem wpC_execs_pre {pre post : List Stmt} {Q : Flow → Shared → Prop}
    (h : wpAny M A (execs pre env) (fun f s' => match f with | .next => wpC M A (execs post env) Q E s' | f => Q f s') E s) : wpC M A (execs (pre ++ post) env) Q E s :=
  fun Γ p hΓ hC => wp_execs_pre hΓ hC (h Γ p hΓ)
theorem wpC_Return {e pos} {Q : Flow → Shared → Prop} (h : wpC M A (eval e env) (fun v => Q (.ret v)) E s) : wpC M A (exec (.Return (some e) pos) env) Q E s := fun Γ p hΓ hC => by
  simp only [exec_Return_some, Sem.wp_bind', Sem.wp_cmd_standAt, Sem.wp_pure']; exact h Γ _ hΓ hC
theorem wpC_If {test body orelse pos} {Q : Flow → Shared → Prop}
    (h : wpAny M A (isTrue test env (eval test env)) (fun b s₂ => if b then wpC M A (execs body env) Q E s₂ else wpC M A (execs orelse env) Q E s₂) E s) : wpC M A (exec (.If test body orelse pos) env) Q E s := fun Γ p hΓ hC => by
  simp only [exec_If, Sem.wp_bind', Sem.wp_cmd_standAt]
  refine Sem.wp_mono M Γ _ (fun b p₂ s₂ h₂ => ?_) (fun _ _ _ h' => h') _ _ (h Γ _ hΓ)
  cases b <;> exact h₂ Γ p₂ hΓ hC
theorem wpC_Assign {x pos' value pos} {Q : Flow → Shared → Prop} (h : wpC M A (eval value env) (fun v s₁ => wpAny M A (storeName env x v) (fun _ => Q .next) E s₁) E s)
    (hs : swapsWith value (some (.Name x pos')) pos.line env = pure false := by rfl) : wpC M A (exec (.Assign [.Name x pos'] value pos) env) Q E s := fun Γ p hΓ hC => by
  simp only [exec_Assign_Name env x pos' value pos hs, Sem.wp_bind', Sem.wp_cmd_standAt, Sem.wp_bindName, Sem.wp_pure']
  exact Sem.wp_mono M Γ _ (fun v _ s₁ h₁ => h₁ Γ _ hΓ) (fun _ _ _ h' => h') _ _ (h Γ _ hΓ hC)
theorem wpC_Call {func : Expr} {args : List Expr} {pos : Pos} {Q : Value → Shared → Prop}
    (h : wpAny M A (eval func env) (fun f s₁ => wpC M A (callWith pos f [] (backTo pos (starEach args env)) []) Q E s₁) E s)
    (he : eval (.Call func args [] pos) env = (do callWith pos (← eval func env) [] (backTo pos (starEach args env)) (backToKw pos (keywordEach [] env))) := by rfl) : wpC M A (eval (.Call func args [] pos) env) Q E s := by
  rw [he]; exact wpC_seq h
theorem callWith_C {pos : Pos} {f : Value} {first : List Value} {Q : Value → Shared → Prop} {P : Heap → Prop} {args : List (Bool × Sem Value)} {keywords : List (Option Str × Sem Value)} (hplain : (args.any (·.1) || keywords.any (·.1.isNone)) = false)
    (hk : ∀ h, P h → ∃ k, (k = Keeper.frame ∨ k = Keeper.machine ∨ k = Keeper.boundFrame) ∧ Looks M h (keeperOf f) k)
    (h : wpAny M A (evalArgs f true args keywords) (fun a s₁ => P s₁.heap ∧ wpC M A (call f (first ++ a.pos) a.kw) Q E s₁) E s) : wpC M A (callWith pos f first args keywords) Q E s := by
  unfold callWith
  refine wpC_seq (wpAny_holding (wpAny_mono h (fun a s₁ h₁ => wpC_seq (wpAny_standAt ?_)) fun _ _ x => x))
  obtain ⟨k, hk', L⟩ := hk _ h₁.1
  simp only [hplain]
  refine wpC_seq (L.here ?_)
  have tail : ∀ {t : Sem Value}, wpC M A t Q E s₁ → wpC M A (t >>= fun r => holding [r] point >>= fun _ => pure r) Q E s₁ :=
    fun ht => wpC_bind (wpC_mono ht (fun r s₂ hr => wpC_seq (wpAny_holding (wpAny_point (wpC_pure hr)))) fun _ _ x => x)
  have marked (mk : Value) : wpC M A (callMarked mk f (first ++ a.pos) a.kw) Q E s₁ := by unfold callMarked; exact wpC_keep h₁.2
  rcases hk' with rfl | rfl | rfl <;> dsimp only <;> first | exact tail h₁.2 | (split <;> first | exact tail h₁.2 | exact tail (marked _))
theorem wpC_Try {body orelse : List Stmt} {h₀ : ExceptHandler} {hs : List ExceptHandler} {pos : Pos} {Q : Flow → Shared → Prop}
    (h : wpC M A (execs body env) (fun f s₁ => match f with | .next => wpAny M A (execs orelse env) Q E s₁ | f => Q f s₁)
      (fun e s₁ => wpAny M A (noteFrame e env) (fun _ s₂ => wpAny M A (setFlight e none) (fun _ s₃ => wpAny M A (handleBy e env (h₀ :: hs)) Q E s₃) E s₂) E s₁) s) :
    wpC M A (exec (.Try body (h₀ :: hs) orelse [] pos) env) Q E s := by
  rw [arm_exec_Try]
  refine wpC_seq (wpAny_standAt ?_)
  unfold tryStmt
  simp only [List.isEmpty_nil, if_true, List.isEmpty_cons, Bool.false_and, Bool.false_eq_true, if_false]
  refine wpC_bind (wpC_attempt (wpC_mono h (fun f s₁ h₁ => ?_) fun e s₁ h₁ => ?_))
  · cases f <;> first | exact wpC_of h₁ | exact wpC_pure h₁
  · exact wpC_of (wpAny_bind (wpAny_mono h₁ (fun _ _ h₂ => wpAny_bind h₂) fun _ _ x => x))
end
section
variable {prog : Program} {w : World} {A : Around} {s : Shared} {R : Result → Shared → Prop}
theorem codeC_func {body env} (h : wpC (model prog w) (A.deeper env) (execs body env) (fun f s' => R (.ok (.ret (match f with | .ret v => v | _ => .none))) s')
      (fun e s' => wpAny (model prog w) (A.deeper env) (leaving env e) (fun _ s'' => R (.error e) s'') (fun e' s'' => R (.error e') s'') s') s) : codeC (model prog w) A (.func body env) R s := by
  refine codeC_of_tree ?_
  show wpC _ (A.deeper env) (do point; match ← (execs body env).onRaise (leaving env) with | .ret v => ret v | _ => ret .none) _ _ s
  refine wpC_seq (wpAny_point (wpC_bind (wpC_onRaise (wpC_mono h (fun f s' h' => ?_) fun _ _ h' => h'))))
  cases f <;> exact wpC_pure h'
theorem codeC_call_function {a : Addr} {args : Args} {o : Obj} {fd : FuncData} {body : List Stmt} (hroom : A.depth < recursionLimit) (ho : s.heap.get? a = some o)
    (hd' : o.data = .func fd) (hco : fd.scope.isCoroutine = false) (hgen : fd.scope.isGenerator = false) (hbody : fd.body = .stmts body) (hcd : s.heap.CodeRec fd.code fd.qualname)
    (h : wpAny (model prog w) A.in1 (bindArgs fd args) (fun binds s₁ =>
      wpAny (model prog w) A.in1 (newFunctionEnv fd.scope fd.globals fd.closure binds (fd.qualname ++ ".<locals>.") (some a) fd.code none fd.builtins)
        (fun env s₂ => s₂.heap.NoLimit ∧ codeC (model prog w) A (.func body env) R s₂) (fun e s' => R (.error e) s') s₁) (fun e s' => R (.error e) s') s) :
    codeC (model prog w) A (.call (.ref a) args) R s := by
  refine codeC_of_tree (wpC_of ?_)
  show wpAny _ A.in1 (callAny (.ref a) args) _ _ s
  simp only [callAny]
  refine wpAny_bind (wpAny_load ho ?_)
  obtain ⟨c, oc, vs, tq, hc, hoc, hdc, hq⟩ := hcd
  simp only [hd', callFunction, hco, hgen, hbody, hc]
  rw [hc] at h
  refine wpAny_bind (m := field (.ref c) 1) (wpAny_field hoc hdc hq (wpAny_bind (wpAny_pure ?_)))
  exact wpAny_bind (wpAny_mono h (fun binds s₁ h₁ => wpAny_bind (wpAny_mono h₁ (fun env s₂ h₂ => wpAny_bind (wpAny_enterFrame h₂.1 hroom
    (wpAny_pure (And.intro rfl h₂.2)))) fun _ _ h' => h')) fun _ _ h' => h')
end
end Mine
end

section -- TopC
open PySem PySem.W PySem.Calls PyProof.Rows
set_option Elab.async false
set_option maxRecDepth 100000
namespace Mine
theorem wp_of_wpC_done {M : Model} {A : Around} {Γ : Ctx} {t : Sem Fin} {R : Result → Shared → Prop} {s : Shared} (hin : Γ.In A) (hC : HasC Γ)
    (h : wpC M A t (fun fin s' => ∃ f, fin = .done f ∧ R (.ok f) s') (fun e s' => R (.error e) s') s) (p : Pos) : Sem.wp M Γ t (Sem.finPost M Γ R) (fun e _ s' => R (.error e) s') p s := by
  refine Sem.wp_mono M Γ t (fun fin p' s' h' => ?_) (fun _ _ _ h' => h') p s (h Γ p hin hC)
  obtain ⟨f, rfl, hf⟩ := h'
  exact hf
theorem thread_ends_C {prog : Program} {w : World} {t : Sem Fin} {s : Shared} {R : Result → Shared → Prop} (hreg : s.asleep)
    (h : wpC (model prog w) callerA t (fun fin s' => ∃ f, fin = .done f ∧ (R (.ok f) s' ∧ leftWithCleanup s'.gens = false)) (fun e s' => R (.error e) s' ∧ leftWithCleanup s'.gens = false) s) :
    ∃ n r s' s'', runN (denote table) prog w n s ⟨t, .builtin "claim.caller" {}, default, []⟩ = .halted (outcomeOf r) s' ∧
      schedN (denote table) prog w n (.single s ⟨t, .builtin "claim.caller" {}, default, []⟩) = .halted (outcomeOf r) s' ∧ s'.forget = s''.forget ∧ R r s'' := by
  obtain ⟨n, r, s₁, s₂, hs, hn, hfo, hR⟩ := wp_halts_full (M := model prog w) (R := R) hreg (wp_of_wpC_done (R := fun r s' => R r s' ∧ leftWithCleanup s'.gens = false) caller_in rfl h default)
  exact ⟨n, r, s₂, s₁, hn, hs, hfo, hR⟩
theorem callFrom_C {c : ClaimW} {tree : List Value → Sem Fin} {w : World} {s : Shared} {free : Addr → Prop} {gens : Prop} {kept : Heap → Prop} (hz : s.asleep) (hgens : s.gens = #[])
    (hspec : ∀ args, c.pre args = true → WData.layableAll args = true → ∀ ord : List DictEntry → List DictEntry, (∀ l, (ord l).Perm l) →
      ∃ vs s₁, layAllW c.records (classAt s.heap) w.params ord args s = some (vs, s₁) ∧
        wpC (model c.prog w) callerA (tree vs) (fun fin s' => ∃ f, fin = .done f ∧ (c.Ends s args vs s₁ (.ok f) s' ∧ s'.os = s.os ∧ AllBare s'.gens ∧ kept s'.heap))
          (fun e s' => c.Ends s args vs s₁ (.error e) s' ∧ s'.os = s.os ∧ AllBare s'.gens ∧ kept s'.heap) s₁) :
    c.CallFrom (fun vs => ⟨tree vs, .builtin "claim.caller" {}, default, []⟩) w free gens kept s := by
  intro args hpre hlay ord hord
  obtain ⟨vs, s₁, hlaid, hcode⟩ := hspec args hpre hlay ord hord
  have hal := layAllW_rest _ _ _ hlaid
  obtain ⟨k, r, s', s'', hrun, hsched, hfo, hcase, hos, hkp⟩ := thread_ends_C (prog := c.prog) (w := w) (t := tree vs) (s := s₁)
    (R := fun r s' => c.Ends s args vs s₁ r s' ∧ s'.os = s.os ∧ kept s'.heap) (Shared.asleep_of_life hal.2.2.2 hz)
    (wpC_mono hcode (by
      rintro fin s' ⟨f, e, h1, h2, h3, h4⟩
      exact ⟨f, e, ⟨h1, h2, h4⟩, leftWithCleanup_false_of_bare h3⟩) (by
      rintro e s' ⟨h1, h2, h3, h4⟩
      exact ⟨⟨h1, h2, h4⟩, leftWithCleanup_false_of_bare h3⟩))
  obtain ⟨eh, _, _, eo, _⟩ := Shared.forget_eq hfo
  have hcase := hcase.congr eh
  have hkp : kept s'.heap := by first | exact eh ▸ hkp | (rw [eh] at hkp; exact hkp) | (rw [← eh] at hkp; exact hkp)
  rw [← eo] at hos
  have hlife : s'.heap.life = s.heap.life := (runN_life _ _ _ hrun).trans hal.2.2.2
  refine ⟨vs, s₁, hlaid, k, _, s', hsched, ?_, (fun _ i x hx => by rw [hgens] at hx; simp at hx), hkp, by rw [hlife], Shared.rest_eq hos⟩
  rcases hcase with ⟨v, rfl, d1, d2, d3, d4, d5⟩ | ⟨e, ob, cls, rfl, d1, d2, d3, d4, d5⟩
  · exact .inl ⟨v, rfl, d1, d2, d3, fun b o y _ => d4 b o y, d5⟩
  · exact .inr ⟨e, ob, cls, rfl, d1, d2, d3, d4, fun b o y _ => d5 b o y⟩
abbrev WalkC (q : Program) (loose : List Str) (XP : (Str → Option Value) → Heap → Prop) (YP : World → Heap → Prop) (r : RowW) (d : DefRec) (kwd : List (Str × PySem.Expr)) (run : Value → List Value → Sem Value) : Prop :=
  ∀ (w : World) (s₀ s₁ : Shared) (mg mb : Str → Option Value), Ground q loose r.records XP w s₀ mg mb s₁.heap → YP w s₁.heap → ∀ (a : Addr) (o : Obj) (pm cd doc dV kV : Value), s₁.heap.get? a = some o →
    o.data = .func { docDef d.name d.params d.body d.scope pm cd doc with defaults := dV, kwdefaults := kV } → s₁.heap.CodeRec cd d.name → Dflts mg s₁.heap d.params kwd dV kV → mg d.name = some (.ref a) → s₁.gens = #[] →
    ∀ (args : List WData) (vals : List Value) (as : List Addr), r.claim.pre args = true → WData.layableAll args = true → ReadsAllW r.records (classAt s₀.heap) s₁.heap vals args as → WellAll w.params s₁.heap vals args → (∀ a ∈ as, (a == sysModules) = false) →
      wpC (model r.prog w) callerA (run (.ref a) vals) (fun v s' => GoodWG r.claim (classAt s₀.heap) (ExcName.means s₀.heap) args s₁ (.ok (.ret v)) s')
        (fun e s' => GoodWG r.claim (classAt s₀.heap) (ExcName.means s₀.heap) args s₁ (.error e) s') s₁
theorem open_anyC {r : RowW} {run : Value → List Value → Sem Value} {tree : List Value → Sem Fin} {q : Program} {loose defs kps : List Str} {writes : Bool} {Xt : Shared → Bool} {XP : (Str → Option Value) → Heap → Prop} {α : Type} {Yf : Shared → α} {Ya : World → α} {YP : World → Heap → Prop} {N : Nat}
    (left : LeftO r.prog q loose Xt Yf Ya N) (hY : ∀ w s, Yf s = Ya w → YP w s.heap) (hYk : ∀ w h h', YP w h → (∀ b o, h.get? b = some o → h'.get? b = some o) → YP w h') (hX : ∀ s, Xt s = true → XP (s.heap.nsMap mainGlobals) s.heap) (hXk : ∀ mg h h', XP mg h → (∀ b o, h.get? b = some o → h'.get? b = some o) → XP mg h')
    (hRf : ∀ s, Xt s = true → RecFacts r.records s.heap) (hwr : (!writes || r.records.isEmpty) = true) (ok : (chainsOk q && opensWell r.prog && (frees r && r.within.isEmpty)) = true) (hb : r.prog.bare) (hw : r.promised)
    (ht : ∀ vs (w : World) (s : Shared) mg f (Q : Fin → Shared → Prop) (E : Value → Shared → Prop), s.heap.Ns mainGlobals mg → mg r.name = some f → wpC (model r.prog w) callerA (run f vs) (fun v s' => Q (.done (.ret v)) s') E s → wpC (model r.prog w) callerA (tree vs) Q E s)
    (pin : ∀ w s, s.heap.isNs mainGlobals = true → Ground q loose [] XP w s (s.heap.nsMap mainGlobals) (s.heap.nsMap builtinsNs) s.heap → ∀ n ∈ defs, isTheDefsW r.prog s.heap n)
    (call : ∀ (w : World) (s₀ s₁ : Shared) (mg mb : Str → Option Value), Ground q loose r.records XP w s₀ mg mb s₁.heap → YP w s₁.heap → ∀ (args : List WData) (vs : List Value) (as : List Addr),
      r.claim.pre args = true → WData.layableAll args = true → Laid r.records w s₀ s₁ args vs as → sysModules < s₀.heap.objs.size → ∃ f, mg r.name = some f ∧
        wpC (model r.prog w) callerA (run f vs) (fun v s' => GoodWG r.claim (classAt s₀.heap) (ExcName.means s₀.heap) args s₁ (.ok (.ret v)) s')
          (fun e s' => GoodWG r.claim (classAt s₀.heap) (ExcName.means s₀.heap) args s₁ (.error e) s') s₁) : r.claim.HoldsOpenBy (fun vs => ⟨tree vs, .builtin "claim.caller" {}, default, []⟩) defs kps writes := by
  obtain ⟨ok, k5⟩ := Bool.and_eq_true_iff.mp ok
  obtain ⟨hch, o1⟩ := Bool.and_eq_true_iff.mp ok
  obtain ⟨k5, k6⟩ := Bool.and_eq_true_iff.mp k5
  obtain ⟨hsame, hu, ha, hap, hm⟩ := frees_parts k5
  refine ⟨⟨hb, o1, by show r.makers.map _ = []; rw [hm]; rfl⟩, hw.witness, fun w => ⟨(left.behind hX hch w).1, fun s' hs' => ?_⟩⟩
  obtain ⟨s₀, hf, hg0, s, hT, hz, hgens, hg, G00, y⟩ := (left.behind (XP := fun mg h => XP mg h ∧ RecFacts r.records h) (fun s hs => ⟨hX s hs, hRf s hs⟩) hch w).2 s' hs'
  have G0 : Ground q loose [] XP w s (s.heap.nsMap mainGlobals) (s.heap.nsMap builtinsNs) s.heap := ⟨G00.T, G00.B, G00.D, G00.TE, G00.TD, G00.W, G00.X.1, G00.cls, G00.has, G00.apart, G00.once, G00.K⟩
  have RF := G00.X.2
  have hT' := hT
  refine ⟨s₀, hf, hg0, s, hT, pin w s hg G0, RF.1, RF.2.1, ?_⟩
  have hgens : s.gens = #[] := Array.eq_empty_of_size_eq_zero (beq_iff_eq.mp hgens)
  have G : Ground q loose r.records XP w s _ _ s.heap := RF.ground G0
  refine callFrom_C (c := r.claim) hz hgens fun args hpre hlay ord hord => ?_
  obtain ⟨⟨vs, s₁⟩, hlaid⟩ := Option.isSome_iff_exists.mp (layAllW_isSome (P := w.params) (ord := ord) G.has args r.args s (pre_splitW hpre).1)
  have keeps := layAllW_keeps _ _ _ hlaid
  have hal := layAllW_rest _ _ _ hlaid
  obtain ⟨as, hrd, hin, hold⟩ := reads_layAllW hord _ _ _ hlaid hlay s₁.heap (fun _ _ e => e)
  have L : Laid r.records w s s₁ args vs as := ⟨⟨ord, hord, hlaid⟩, hrd, hin, hold, keeps, hal.1.trans hgens, hal.2.2.1⟩
  have G₁ := G.keeps hXk keeps
  obtain ⟨f, hf, h⟩ := call w s s₁ _ _ G₁ (hYk _ _ _ (hY w s y) keeps) args vs as hpre hlay L G.low
  have hi := ident_freeW hu ha hap
  have hwi : r.claim.within = [] := List.isEmpty_iff.mp k6
  exact ⟨vs, s₁, hlaid, ht vs w s₁ _ f _ _ G₁.T.g hf (wpC_mono h (fun v s' g => ⟨_, rfl, have z := g.laid (c := r.claim) hsame hwi hi L; ⟨z.1, z.2.1, z.2.2, fun q => ⟨namesKept_of hT' hg kps keeps g.2.1.old, noTable hwr q⟩⟩⟩) fun e s' g => have z := g.laid (c := r.claim) hsame hwi hi L; ⟨z.1, z.2.1, z.2.2, fun q => ⟨namesKept_of hT' hg kps keeps g.2.1.old, noTable hwr q⟩⟩)⟩
/-- what the top leaves, to be shown at once and not in pieces -/
abbrev LeftV (p q : Program) (loose : List Str) (Xt : Shared → Bool) {α : Type} (Yf : Shared → α) (Ya : World → α) (N : Nat) : Prop := LeftO p q loose Xt Yf Ya N
theorem PySem.W.holds_open {r : OpenRow} {q : Program} {loose : List Str} {Xt : Shared → Bool} {XP : (Str → Option Value) → Heap → Prop} {α : Type} {Yf : Shared → α} {Ya : World → α} {YP : World → Heap → Prop} {d : DefRec} {kwd : List (Str × PySem.Expr)} {N : Nat}
    (left : LeftV r.prog q loose Xt Yf Ya N) (hY : ∀ w s, Yf s = Ya w → YP w s.heap) (hYk : ∀ w h h', YP w h → (∀ b o, h.get? b = some o → h'.get? b = some o) → YP w h')
    (hX : ∀ s, Xt s = true → XP (s.heap.nsMap mainGlobals) s.heap) (hXk : ∀ mg h h', XP mg h → (∀ b o, h.get? b = some o → h'.get? b = some o) → XP mg h')
    (hdef : defOf q r.name = some (d, kwd)) (hp : r.prog.theDef r.name = some (d.params, d.body, d.scope)) (hk : kwWritten? d.params.kwonlyargs d.params.kw_defaults = some kwd) (hRf : ∀ s, Xt s = true → RecFacts r.records s.heap) (hwr : (!r.writes || r.records.isEmpty) = true)
    (k1 : r.wellSaid = true) (ok : (chainsOk q && opensWell r.prog && (frees r.toRowW && r.within.isEmpty)) = true) (hb : r.prog.bare) (hw : r.toRowW.promised)
    (call : WalkC q loose XP YP r.toRowW d kwd fun f vs => PySem.call f vs) : r.Holds := by
  refine ⟨k1, hw, open_anyC (r := r.toRowW) (run := fun f vs => PySem.call f vs) (tree := fun vs => do match ← nsGet mainNs r.name with
      | some f => do ret (← PySem.call f vs)
      | none => unsupported "claim.caller:no-such-global") left hY hYk hX hXk hRf hwr ok hb hw
    (fun vs w s mg f Q E hg hf h => wpC_seq (wpAny_nsGet hg (by rw [hf]; exact wpC_bind (wpC_mono h (fun _ _ x => wpC_pure x) fun _ _ x => x))))
    (fun w s hg G n hn => ?_) fun w s₀ s₁ mg mb G Y args vs as hpre hlay L low => ?_⟩
  · obtain rfl : n = r.name := by split at hn <;> simp_all
    exact pinned_of_view hg G hdef hp hk
  · obtain ⟨a, o, pm, cd, doc, dV, kV, h1, h2, h3, h4, h5⟩ := G.fn hdef
    exact ⟨.ref a, h1, call w s₀ s₁ mg mb G Y a o pm cd doc dV kV h2 h3 h4 h5 (defOf_name hdef ▸ h1) L.gens args vs as hpre hlay L.reads L.well (L.low low)⟩
end Mine
end

section -- Hd
open PySem PySem.W PyProof.Rows
set_option Elab.async false
namespace Mine
set_option maxRecDepth 100000 in
set_option maxHeartbeats 8000000 in
open_top hd for PySem.Challenge.rw_nb0216_01
end Mine
end

section
namespace Mine
/-- the walk goes on as behind a head of another file -/
theorem topOff : True := by
  w_top off
  trivial
end Mine
end

section -- C1
open PySem PySem.W PyProof.Rows PySem.Calls
set_option Elab.async false
set_option maxRecDepth 100000
namespace Mine
theorem fill : ∀ (w : World) (h : Heap), (Mine.hd.heap_39 w.params).In h → PySem.Challenge.rw_nb0216_01.row.prog = PySem.Challenge.rw_nb0216_01.row.prog := by
  k_fill; intros; rfl

/-! plain: the base 16 writing -/
def hx (n : Nat) : UInt8 := if n < 10 then (48 + n).toUInt8 else (55 + n).toUInt8
def places (b : Array UInt8) : List Nat := b.toList.flatMap fun c => [c.toNat / 16, c.toNat % 16]
def wr (b : Array UInt8) : Array UInt8 := ((places b).map hx).toArray
def hexArr (b : Array UInt8) : Array Nat := b.toList.zipIdx.foldl (fun (out : Array Nat) (c, _) => (out.push (Builtin.Bytes.hexDigit (c.toNat / 16))).push (Builtin.Bytes.hexDigit (c.toNat % 16))) #[]
theorem hex_fold (l : List UInt8) : ∀ (k : Nat) (acc : Array Nat), ((l.zipIdx k).foldl (fun (out : Array Nat) (c, _) => (out.push (Builtin.Bytes.hexDigit (c.toNat / 16))).push (Builtin.Bytes.hexDigit (c.toNat % 16))) acc).toList = acc.toList ++ (l.flatMap fun c => [c.toNat / 16, c.toNat % 16]).map Builtin.Bytes.hexDigit := by
  induction l with
  | nil => intro k acc; simp
  | cons c l ih => intro k acc; rw [List.zipIdx_cons, List.foldl_cons, ih]; simp
theorem hexArr_toList (b : Array UInt8) : (hexArr b).toList = (places b).map Builtin.Bytes.hexDigit := by
  unfold hexArr places; rw [hex_fold]; simp
theorem places_lt {b : Array UInt8} {n : Nat} (h : n ∈ places b) : n < 16 := by
  unfold places at h
  obtain ⟨c, _, hc⟩ := List.mem_flatMap.mp h
  have := c.toNat_lt
  simp at hc
  omega
theorem up_hex : ∀ n, n < 16 → Builtin.Bytes.toUpper (Builtin.Bytes.hexDigit n).toUInt8 = hx n := by decide +kernel
theorem hexDigit_lt : ∀ n, n < 16 → Builtin.Bytes.hexDigit n < 128 := by decide +kernel
theorem wr_of (b : Array UInt8) : (((hexArr b).map Nat.toUInt8).toList.map Builtin.Bytes.toUpper).toArray = wr b := by
  unfold wr
  congr 1
  rw [Array.toList_map, hexArr_toList, List.map_map, List.map_map]
  refine List.map_congr_left fun n hn => up_hex n (places_lt hn)
theorem places_length (b : Array UInt8) : (places b).length = 2 * b.size := by
  unfold places
  obtain ⟨l⟩ := b
  induction l with
  | nil => rfl
  | cons c l ih => simp at ih ⊢; omega
theorem hexArr_size (b : Array UInt8) : (hexArr b).size = 2 * b.size := by
  rw [← Array.length_toList, hexArr_toList, List.length_map, places_length]

/-! built-ins that the library has no rule for -/
section
open Builtin
theorem gives_hex (b : Array UInt8) (t : Tok) : Gives («bytes.hex» ⟨[.bytes b t], []⟩) (.str ⟨hexArr b⟩) := .of_eq rfl
theorem gives_upper (b : Array UInt8) (t : Tok) : Gives («bytes.upper» ⟨[.bytes b t], []⟩) (.bytes (b.toList.map Bytes.toUpper).toArray) := .of_eq rfl
theorem loop2 {σ : Type} (body : Nat → σ → Sem (ForInStep σ)) (s0 s1 : σ) (h0 : ∀ k, body k s0 = pure (.yield s1)) (h1 : ∀ k, body k s1 = pure (.done s1)) : ∀ n i d, n ≠ 0 → forIn (List.range' i n d) s0 body = pure s1
  | 0, _, _, h => absurd rfl h
  | 1, i, d, _ => by
    rw [List.range'_succ, List.forIn_cons, h0]; rfl
  | n + 2, i, d, _ => by
    rw [List.range'_succ, List.forIn_cons, h0, List.range'_succ]
    show forIn (_ :: _) s1 body = _
    rw [List.forIn_cons, h1]; rfl
theorem push_fold (l : List Nat) : ∀ acc : Array UInt8, l.foldl (fun acc y => acc ++ [y.toUInt8].toArray) acc = acc ++ (l.map Nat.toUInt8).toArray := by
  induction l with
  | nil => intro acc; simp
  | cons n l ih => intro acc; rw [List.foldl_cons, ih]; simp
theorem narrow_ascii (id : String) (self : Value) (x : Str) (hx : ∀ n ∈ x.cps, n < 128) (hz : x.length ≤ sizeLine) : _codecs.encodeNarrow id _codecs.asciiCodec none self x = pure (x.cps.map Nat.toUInt8) := by
  have hz' : x.cps.size ≤ sizeLine := hz
  unfold _codecs.encodeNarrow
  simp only [Std.Legacy.Range.forIn_eq_forIn_range', Std.Legacy.Range.size]
  by_cases h0 : x.cps.size = 0
  · have hx0 : x.cps = #[] := Array.eq_empty_of_size_eq_zero h0
    have : x.length = 0 := h0
    rw [this, hx0]
    simp only [Nat.sub_self, Nat.zero_add, Nat.sub_self, Nat.zero_div, List.range'_zero, List.forIn_nil, Array.map_empty]
    rfl
  · have hn : (x.length - 0 + 1 - 1) / 1 ≠ 0 := by
      have : x.length = x.cps.size := rfl
      omega
    refine (congrArg (fun z => z >>= _) (loop2 _ _ (x.cps.size, x.cps.map Nat.toUInt8, {}) ?_ ?_ _ _ _ hn)).trans ?_
    rotate_left 2
    · rfl
    · intro k
      have hp : 0 < x.cps.size := Nat.pos_of_ne_zero h0
      have e0 : x.cps[0]? = some x.cps[0] := Array.getElem?_eq_getElem hp
      have hb : _codecs.asciiCodec.bad x.cps[0] = false := by
        have := hx _ (Array.getElem_mem hp)
        show decide (x.cps[0] ≥ 128) = false
        simpa using this
      have hf : Array.findIdx? _codecs.asciiCodec.bad x.cps = none := by
        rw [Array.findIdx?_eq_none_iff]
        intro y hy
        show decide (y ≥ 128) = false
        simpa using hx y hy
      simp only [e0, hb]
      simp only [Array.extract_size, hf]
      simp only [Option.getD_none, Array.extract_size, Bool.not_false, if_true, Nat.zero_add]
      rw [if_neg (by show ¬ 0 > sizeLine; omega)]
      have e : Array.foldl (fun acc y => acc ++ (_codecs.asciiCodec.bytesOf y).toArray) #[] x.cps = x.cps.map Nat.toUInt8 := by
        rw [← Array.foldl_toList]
        have := push_fold x.cps.toList #[]
        rw [Array.empty_append] at this
        refine Eq.trans this ?_
        apply Array.ext'
        simp
      exact congrArg (fun z => pure (ForInStep.yield (x.cps.size, z, _))) e
    · intro k
      have e1 : x.cps[x.cps.size]? = none := Array.getElem?_eq_none (Nat.le_refl _)
      simp only [e1, Array.size_map]
      rw [if_neg (by omega)]

theorem encode_tree2 (x : Str) (t u : Tok) : «str.encode» ⟨[.str x t, .str (PySem.Str.ofString "ascii") u], []⟩ =
    ((_codecs.encodeNarrow "str.encode" _codecs.asciiCodec none (.str x t) x >>= fun b => mkBytes b) >>= fun r => ret r) := by kernel_rfl
theorem gives_encode (x : Str) (t u : Tok) (hx : ∀ n ∈ x.cps, n < 128) (hz : x.length ≤ sizeLine) : Gives («str.encode» ⟨[.str x t, .str (PySem.Str.ofString "ascii") u], []⟩) (.bytes (x.cps.map Nat.toUInt8)) := by
  rw [encode_tree2, narrow_ascii _ _ _ hx hz]
  exact .of_eq rfl
theorem slot_bytes_upper : Slot "bytes" "upper" "bytes.upper" :=
  .of (owner := "bytes") (n := "upper") (by rw [typeLookup_type, builtinLookup_eq_fast]; kernel_rfl) (by decide +kernel) (by decide +kernel) (by decide +kernel)
    (by first | exact .inl (by decide +kernel) | exact .inr (by decide +kernel)) (by rw [isSubtype_type]; kernel_rfl)
theorem type_bytes_upper : typeOf (.builtin "bytes.upper") = pure (.type "method_descriptor") := by show builtinType _ = _; rw [builtinType_eq_fast]; kernel_rfl
theorem entry_bytes_upper : entryFor table "bytes.upper" = some Builtin.«bytes.upper» := entryFor_of_tree (by kernel_rfl)
theorem args_bytes_upper (a : Value) : argsOk "bytes.upper" ⟨[a], []⟩ := by
  unfold argsOk; rw [signature?_of (id := "bytes.upper") (n := ['r', 'e', 'p', 'p', 'u']) (o := ['s', 'e', 't', 'y', 'b']) (by kernel_rfl) FB.owner_bytes]; kernel_rfl
end

section
variable {prog : Program} {w : World} {A : Around} {E : Value → Shared → Prop} {s : Shared} {b : Array UInt8} {t : Tok} {x : Str} {Q : Value → Shared → Prop}
theorem type_bytes (h : Q (.type "bytes") s) : wpAny (model prog w) A (call (.type "type") [.bytes b t]) Q E s :=
  call_type_of (Tx := "bytes") rfl (by decide +kernel) h
theorem meth_hex {M : Model} {pl : Sem Bool} {Q : Value × List Value → Shared → Prop} (h : Q (.builtin "bytes.hex", [.bytes b t]) s) : wpAny M A (getMethod (.bytes b t) "hex" pl) Q E s := by
  with_reducible exact KBd.method_of (.bytes b t) (typeIs_bytes _ _ _) FB.slot_bytes_hex FB.type_bytes_hex KBd.noRef h
theorem meth_upper {M : Model} {pl : Sem Bool} {Q : Value × List Value → Shared → Prop} (h : Q (.builtin "bytes.upper", [.bytes b t]) s) : wpAny M A (getMethod (.bytes b t) "upper" pl) Q E s := by
  with_reducible exact KBd.method_of (.bytes b t) (typeIs_bytes _ _ _) slot_bytes_upper type_bytes_upper KBd.noRef h
theorem hex_fits (hz : b.size ≤ 1000) : (hexArr b).size ≤ sizeLine := by rw [hexArr_size, sizeLine_eq]; omega
theorem call_hex (hz : (hexArr b).size ≤ sizeLine) (h : Q (.str ⟨hexArr b⟩ s.toks) { s with toks := s.toks + 1 }) : wpAny (model prog w) A (call (.builtin "bytes.hex") [.bytes b t]) Q E s :=
  call_gives FB.slot_bytes_hex (typeIs_bytes _ _ _) FB.entry_bytes_hex (FB.args_bytes_hex_1 _) (gives_hex b t) ⟨hz, h⟩
theorem call_upper (hz : b.size ≤ sizeLine) (h : Q (.bytes (b.toList.map Builtin.Bytes.toUpper).toArray s.toks) { s with toks := s.toks + 1 }) : wpAny (model prog w) A (call (.builtin "bytes.upper") [.bytes b t]) Q E s :=
  call_gives slot_bytes_upper (typeIs_bytes _ _ _) entry_bytes_upper (args_bytes_upper _) (gives_upper b t) ⟨by simpa using hz, h⟩
theorem meth_encode {M : Model} {pl : Sem Bool} {Q : Value × List Value → Shared → Prop} (h : Q (.builtin "str.encode", [.str x t]) s) : wpAny M A (getMethod (.str x t) "encode" pl) Q E s :=
  getMethod_builtin (T := "str") rfl PySem.F.plainAttrs_str PySem.F.slot_str_encode PySem.F.type_str_encode (fun _ e => nomatch e) h
theorem call_encode {u : Tok} (hx : ∀ n ∈ x.cps, n < 128) (hz : x.length ≤ sizeLine) (h : Q (.bytes (x.cps.map Nat.toUInt8) s.toks) { s with toks := s.toks + 1 }) : wpAny (model prog w) A (call (.builtin "str.encode") [.str x t, .str (PySem.Str.ofString "ascii") u]) Q E s :=
  call_gives PySem.F.slot_str_encode (T := "str") rfl PySem.F.entry_str_encode (PySem.F.args_str_encode_2 _ _) (gives_encode x t u hx hz) ⟨by rw [Array.size_map]; exact hz, h⟩
theorem hexArr_lt {b : Array UInt8} : ∀ n ∈ (⟨hexArr b⟩ : Str).cps, n < 128 := by
  intro n hn
  have hn' : n ∈ (hexArr b).toList := Array.mem_toList_iff.mpr hn
  rw [hexArr_toList] at hn'
  obtain ⟨k, hk, rfl⟩ := List.mem_map.mp hn'
  exact hexDigit_lt k (places_lt hk)
theorem call_encode_hex {u : Tok} (hz : b.size ≤ 1000) (h : Q (.bytes ((hexArr b).map Nat.toUInt8) s.toks) { s with toks := s.toks + 1 }) : wpAny (model prog w) A (call (.builtin "str.encode") [.str ⟨hexArr b⟩ t, .str (PySem.Str.ofString "ascii") u]) Q E s :=
  call_encode hexArr_lt (hex_fits hz) h
theorem call_upper_hex (hz : b.size ≤ 1000) (h : Q (.bytes (wr b) s.toks) { s with toks := s.toks + 1 }) : wpAny (model prog w) A (call (.builtin "bytes.upper") [.bytes ((hexArr b).map Nat.toUInt8) t]) Q E s :=
  call_upper (by rw [Array.size_map]; exact hex_fits hz) (by rw [wr_of]; exact h)
end
end Mine
end

section -- C2
open PySem PySem.W PyProof.Rows PySem.Calls
set_option Elab.async false
set_option maxRecDepth 100000
namespace Mine
theorem fill2 : ∀ (w : World) (h : Heap), (Mine.hd.heap_39 w.params).In h → PySem.Challenge.rw_nb0216_01.row.prog = PySem.Challenge.rw_nb0216_01.row.prog := by
  k_fill; intros; rfl
local macro_rules | `(tactic| walk_at "call type:type") => `(tactic| ((with_reducible show wpAny _ _ (call _ [Value.bytes _ _]) _ _ _); refine type_bytes ?_))
local macro_rules | `(tactic| walk_at "getMethod bytes") => `(tactic| first | refine meth_hex ?_ | refine meth_upper ?_)
local macro_rules | `(tactic| walk_at "getMethod str") => `(tactic| (refine meth_encode ?_))

section
variable {w : World} {p : Program} {loose : List Str} {mean : ExcName → Option Value} {mg mb : Str → Option Value} {dp un : Nat} {gd : Option (List Code)} {cn : Str} {cs : Scope} {a : Addr} {ccd : Value} {cl : List (Str × Addr)} {outer : List Env} {A₀ : Around} {base h₀ : Heap} {L : Addr} {m : Str → Option Value} {s : Shared} {Q E : Value → Shared → Prop} {news : List (Addr × Obj)}

set_option maxHeartbeats 4000000 in
theorem c_buffer {b : Array UInt8} {t : Tok} (B : Below A₀ base outer h₀) (F : Fr h₀ L s.heap m) (X : (Mine.hd.heap_39 w.params).In h₀) (N : News h₀ L s.heap news) (T : Top p loose mean mg mb h₀) (hcs : cs.kind = .function)
    (hd : dp + 4 < recursionLimit) (hu : un + 40 < cLine)
    (hret : ∀ t' h' tk', Fr h₀ L h' m → News h₀ L h' news → Q (.bytes b t') { s with heap := h', toks := tk' }) :
    wpAny (model PySem.Challenge.rw_nb0216_01.row.prog w) (ktrTop dp un gd cn cs L a ccd cl outer) (call (.ref 92) [.bytes b t]) Q E s := by
  refine wpAny_call ?_
  k_dflt (first | (refine' code_def ?k1 ?k2 ?k3 ?k4 ?k5 ?kA ?kF ?kK ?k6 ?k7 ?k8 ?k9 ?kB ?_ ?c2 ?c3 ?c4 ?c5; (case kA => exact rfl); (case kF => exact rfl); (case kK => assumption); (case k1 => k_asm); (case k2 => k_asm); (case k3 => k_asm); (case k4 => k_asm); (case k5 => k_asm); (case k6 => k_is); (case k7 => k_is); (case k8 => ktr_room); (case k9 => exact binds_K (by k_in) rfl (by k_is) rfl rfl rfl); (case c5 => decide); (case kB => exact locs rfl); (case c2 => exact rfl); (case c3 => exact rfl); (case c4 => exact rfl); k_whole; intro g' L' h' FG' F' N' B' X' T'; (try dsimp only); (try k_lift B'); (try k_fold)) | cell_enter)
  k_steps
  exact hret _ _ _ (by assumption) (by assumption)
local macro_rules | `(tactic| walk_at "call ref") => `(tactic| ((with_reducible show wpAny _ _ (call (Value.ref 92) _) _ _ _); k_dflt (refine' c_buffer ?B ?F ?X ?N ?T ?c ?d ?u ?_; (case B => k_asm); (case F => k_asm); (case X => k_asm); (case N => k_asm); (case T => k_asm); (case c => first | exact rfl | assumption); (case d => ktr_room); (case u => ktr_units); k_whole); intro t9 h9 tk9 F9 N9; (try dsimp only); (try k_sweep); (try k_fold)))
local macro_rules | `(tactic| walk_at "call builtin:bytes.hex") => `(tactic| (refine call_hex (hex_fits (by assumption)) ?_))
local macro_rules | `(tactic| walk_at "call builtin:str.encode") => `(tactic| (refine call_encode_hex (by assumption) ?_))
local macro_rules | `(tactic| walk_at "call builtin:bytes.upper") => `(tactic| (refine call_upper_hex (by assumption) ?_))
set_option maxHeartbeats 4000000 in
theorem c_b2a {b : Array UInt8} {t : Tok} (B : Below A₀ base outer h₀) (F : Fr h₀ L s.heap m) (X : (Mine.hd.heap_39 w.params).In h₀) (N : News h₀ L s.heap news) (T : Top p loose mean mg mb h₀) (hcs : cs.kind = .function)
    (hd : dp + 8 < recursionLimit) (hu : un + 80 < cLine) (hb : b.size ≤ 1000)
    (hret : ∀ t' h' tk', Fr h₀ L h' m → News h₀ L h' news → Q (.bytes ((hexArr b).map Nat.toUInt8) t') { s with heap := h', toks := tk' }) :
    wpAny (model PySem.Challenge.rw_nb0216_01.row.prog w) (ktrTop dp un gd cn cs L a ccd cl outer) (call (.ref 101) [.bytes b t]) Q E s := by
  refine wpAny_call ?_
  k_dflt (first | (refine' code_def ?k1 ?k2 ?k3 ?k4 ?k5 ?kA ?kF ?kK ?k6 ?k7 ?k8 ?k9 ?kB ?_ ?c2 ?c3 ?c4 ?c5; (case kA => exact rfl); (case kF => exact rfl); (case kK => assumption); (case k1 => k_asm); (case k2 => k_asm); (case k3 => k_asm); (case k4 => k_asm); (case k5 => k_asm); (case k6 => k_is); (case k7 => k_is); (case k8 => ktr_room); (case k9 => exact binds_K (by k_in) rfl (by k_is) rfl rfl rfl); (case c5 => decide); (case kB => exact locs rfl); (case c2 => exact rfl); (case c3 => exact rfl); (case c4 => exact rfl); k_whole; intro g' L' h' FG' F' N' B' X' T'; (try dsimp only); (try k_lift B'); (try k_fold)) | cell_enter)
  k_steps
  exact hret _ _ _ (by assumption) (by assumption)
local macro_rules | `(tactic| walk_at "call ref") => `(tactic| ((with_reducible show wpAny _ _ (call (Value.ref 101) _) _ _ _); k_dflt (refine' c_b2a ?B ?F ?X ?N ?T ?c ?d ?u ?z ?_; (case B => k_asm); (case F => k_asm); (case X => k_asm); (case N => k_asm); (case T => k_asm); (case c => first | exact rfl | assumption); (case d => ktr_room); (case u => ktr_units); (case z => assumption); k_whole); intro t9 h9 tk9 F9 N9; (try dsimp only); (try k_sweep); (try k_fold)))
set_option maxHeartbeats 4000000 in
theorem c_b16 {b : Array UInt8} {t : Tok} (B : Below A₀ base outer h₀) (F : Fr h₀ L s.heap m) (X : (Mine.hd.heap_39 w.params).In h₀) (N : News h₀ L s.heap news) (T : Top p loose mean mg mb h₀) (hcs : cs.kind = .function)
    (hd : dp + 16 < recursionLimit) (hu : un + 160 < cLine) (hb : b.size ≤ 1000)
    (hret : ∀ t' h' tk', Fr h₀ L h' m → News h₀ L h' news → Q (.bytes (wr b) t') { s with heap := h', toks := tk' }) :
    wpAny (model PySem.Challenge.rw_nb0216_01.row.prog w) (ktrTop dp un gd cn cs L a ccd cl outer) (call (.ref 108) [.bytes b t]) Q E s := by
  refine wpAny_call ?_
  k_dflt (first | (refine' code_def ?k1 ?k2 ?k3 ?k4 ?k5 ?kA ?kF ?kK ?k6 ?k7 ?k8 ?k9 ?kB ?_ ?c2 ?c3 ?c4 ?c5; (case kA => exact rfl); (case kF => exact rfl); (case kK => assumption); (case k1 => k_asm); (case k2 => k_asm); (case k3 => k_asm); (case k4 => k_asm); (case k5 => k_asm); (case k6 => k_is); (case k7 => k_is); (case k8 => ktr_room); (case k9 => exact binds_K (by k_in) rfl (by k_is) rfl rfl rfl); (case c5 => decide); (case kB => exact locs rfl); (case c2 => exact rfl); (case c3 => exact rfl); (case c4 => exact rfl); k_whole; intro g' L' h' FG' F' N' B' X' T'; (try dsimp only); (try k_lift B'); (try k_fold)) | cell_enter)
  k_steps
  exact hret _ _ _ (by assumption) (by assumption)
end
end Mine
end

section -- C3
open PySem PySem.W PyProof.Rows PySem.Calls
set_option Elab.async false
set_option maxRecDepth 100000
namespace Mine
theorem fill3 : ∀ (w : World) (h : Heap), (Mine.hd.heap_39 w.params).In h → PySem.Challenge.rw_nb0216_01.row.prog = PySem.Challenge.rw_nb0216_01.row.prog := by
  k_fill; intros; rfl
section
variable {prog : Program} {w : World} {A : Around} {E : Value → Shared → Prop} {s₁ : Shared} {h₀ : Heap} {L : Addr} {m : Str → Option Value} {news : List (Addr × Obj)}
/-- a comprehension (no test) over the octets of a bytes -/
theorem srcC_bytes {env : Env} {elt : Expr} {x : Str} {scope : Scope} {Q : Value → Shared → Prop} {b : Array UInt8} {t : Tok} (d : Int → PyData)
    (hh : A.handled = none) (F : Fr h₀ L s₁.heap m) (N : News h₀ L s₁.heap news)
    (g2 : ∀ C (k : Int) u s₂ m₂ E', k ∈ KBw.bInts b → s₂.heap.Ns (compEnv scope C env).locals m₂ → m₂ x = some (.int k u) → (∀ b' o', s₁.heap.get? b' = some o' → s₂.heap.get? b' = some o') →
      wpAny (model prog w) A (eval elt (compEnv scope C env)) (fun r s₃ => Carried r (d k) ∧ Keeps s₂ s₃) E' s₂)
    (g3 : ∀ D (ys : List Value) h' tk, Fr h₀ L h' m → News h₀ L h' news → h₀.get? D = none → h'.IsList D ys.toArray → NewPlain h' news D ys.toArray → CarriedAll ys ((KBw.bInts b).map d) → Q (.ref D) { s₁ with heap := h', toks := tk }) (hsz : b.size ≤ sizeLine := by size_fits) :
    wpAny (model prog w) A (pyIter (.bytes b t)) (CompPost prog w A env scope x [] elt Q) E s₁ := by
  unfold CompPost
  refine KBw.pyIter_bytes ?_
  have W := KBw.walks (prog := prog) (w := w) hh s₁.heap.objs.size b t
  have up : ∀ (h' : Heap), (∀ b' o', b' ∉ [s₁.heap.objs.size] → (s₁.heap.push { cls := .type "bytes_iterator", data := .fields #[.bytes b t, .int 0 0] }).get? b' = some o' → h'.get? b' = some o') → ∀ b' o', s₁.heap.get? b' = some o' → h'.get? b' = some o' :=
    fun h' hk b' o' e => hk b' o' (old_not_new e) (Heap.get?_push_of_some _ e)
  have itm : ∀ (i : Nat) (v : Value), (∃ c u, b[i]? = some c ∧ v = .int (c.toNat : Int) u) → ∃ k u, (KBw.bInts b)[i]? = some k ∧ v = .int k u := by
    rintro i v ⟨c, u, hc, rfl⟩
    exact ⟨_, u, KBw.ints_get hc, rfl⟩
  refine ⟨ItemKind.int.lift (fun _ => true), fun v r => ∃ a, ItemKind.int.is a v ∧ Carried r (d a), s₁.heap.objs.size, [s₁.heap.objs.size], [s₁.heap.objs.size], b.size, _, _, rfl, W, hsz, ⟨_, Heap.get?_push_size _ rfl, rfl, rfl⟩, ?_, ⟨?_, ?_⟩, ?_⟩
  · intro b' hb
    show b' < (s₁.heap.push _).objs.size
    rw [Heap.size_push, List.mem_singleton.mp hb]
    exact Nat.lt_succ_self _
  · intro C i v s₃ m₃ E' hP hn hm _ htk
    obtain ⟨k, u, hk, rfl⟩ := itm i v hP
    have ha : ItemKind.int.is k (.int k u) := ⟨u, rfl⟩
    rw [ItemKind.lift_is ha]
    exact wpAny_pure ⟨rfl, s₃.heap, s₃.toks, rfl, fun _ _ e => e⟩
  · intro C i v s₃ m₃ E' hP hp hn hm hk' htk
    obtain ⟨k, u, hk, rfl⟩ := itm i v hP
    have ha : ItemKind.int.is k (.int k u) := ⟨u, rfl⟩
    exact wpAny_mono (g2 C k u s₃ m₃ E' (List.mem_of_getElem? hk) hn hm (up _ hk')) (fun r s₄ h₄ => ⟨⟨_, ha, h₄.1⟩, h₄.2⟩) fun _ _ e => e
  · intro D h' tk ys vs hnew hlD hplD hlen hP hF hk
    have ar : AreOf .int vs (KBw.bInts b) := areOf_of_get vs _ (by rw [hlen, KBw.ints_length]) fun j v hv => by
      obtain ⟨k, u, hk, rfl⟩ := itm j v (hP j v hv)
      exact ⟨k, hk, u, rfl⟩
    have hc := ar.paired (fun _ => true) d _ hF
    rw [List.filter_eq_self.mpr (fun _ _ => rfl)] at hc
    refine g3 D ys.toList h' tk (F.keeps (up h' hk)) (N.grown (up h' hk)) ?_ (by rw [Array.toArray_toList]; exact hlD) ⟨by rw [Array.toArray_toList]; exact hplD, fun p hp e => by rw [← e, Heap.get?_push_of_some _ (N p hp).1] at hnew; cases hnew⟩ hc
    cases e : h₀.get? D with
    | none => rfl
    | some o' => rw [Heap.get?_push_of_some _ (F.keep _ _ e)] at hnew; cases hnew
end

section
variable {M : Model} {A : Around} {E : Value → Shared → Prop} {s : Shared} {K : Frag} {h₀ : Heap} {L : Addr} {m mg mb : Str → Option Value} {p : Program} {loose : List Str} {env : Env}
theorem nameG_B {x : Str} {pos : Pos} {v : Value} {Q : Value → Shared → Prop} (F : Fr h₀ L s.heap m) (X : K.In h₀) (T : TopRead p loose mg mb h₀) (e : nsIn K mainGlobals x = some none) (hv : bootBuiltins x = some v) (hn : x ≠ "__name__") (h : Q v s)
    (hg : env.globals = mainGlobals) (hb : env.builtins = builtinsNs) (hk : env.scope.kind = .function) (hx : env.kindOf x = some .globalImplicit) (hd : (x == ("__debug__" : Str)) = false) :
    wpAny M A (eval (.Name x pos) env) Q E s :=
  Name_function_global hk hx (loadGlobal_builtin (env := env) (by rw [hg]; exact T.g.keeps F.keep) (mg_none_of X T.g e) (by rw [hb]; exact T.b.keeps F.keep) ((T.builtins x hn).trans hv) h) hd
end
local macro_rules | `(tactic| walk_at "eval Name") => `(tactic| (k_here; k_inBlock; (with_reducible rename Fr _ _ _ _ => kF); k_dflt (refine' nameG_B kF ?k1 ?k2 ?k3 ?kv ?kn ?_ ?k4 ?k4b ?k5 ?k6 ?k7; (case k4 => rfl); (case k4b => rfl); (case k5 => rfl); (case k6 => rfl); (case k7 => decide); (case k1 => k_asm); (case k2 => k_asm); (case k3 => k_is); (case kv => boot_fast); (case kn => decide); k_whole)))

def spell1 (k : Int) : Str := if k < 58 then Str.ofString (toString (k - 48)) else Str.ofString (toString (k - 55))
def spellB (b : Array UInt8) : Str := Txt.join (Str.ofString "") ((KBw.bInts b).map spell1)
theorem carr_lo {k : Int} {t : Tok} (h : k < 58) : Carried (.str (Str.ofString (toString (k - 48))) t) (PyData.str (spell1 k)) := by
  unfold spell1; rw [if_pos h]; exact .str _ _
theorem carr_hi {k : Int} {t : Tok} (h : ¬ k < 58) : Carried (.str (Str.ofString (toString (k - 55))) t) (PyData.str (spell1 k)) := by
  unfold spell1; rw [if_neg h]; exact .str _ _
theorem spell1_len {k : Int} (h : 48 ≤ k ∧ k ≤ 70) : (spell1 k).length ≤ 10 := by
  unfold spell1
  split
  · exact KT.len_num (by omega) (by omega)
  · exact KT.len_num (by omega) (by omega)
section
variable {w : World} {p : Program} {loose : List Str} {mean : ExcName → Option Value} {mg mb : Str → Option Value} {dp un : Nat} {gd : Option (List Code)} {cn : Str} {cs : Scope} {a : Addr} {ccd : Value} {cl : List (Str × Addr)} {outer : List Env} {A₀ : Around} {base h₀ : Heap} {L : Addr} {m : Str → Option Value} {s : Shared} {Q E : Value → Shared → Prop} {news : List (Addr × Obj)}

set_option maxHeartbeats 4000000 in
theorem c_spelled {b : Array UInt8} {t : Tok} (B : Below A₀ base outer h₀) (F : Fr h₀ L s.heap m) (X : (Mine.hd.heap_39 w.params).In h₀) (N : News h₀ L s.heap news) (T : Top p loose mean mg mb h₀) (hcs : cs.kind = .function)
    (hd : dp + 4 < recursionLimit) (hu : un + 40 < cLine) (hb : b.size ≤ 1000) (hr : ∀ k ∈ KBw.bInts b, 48 ≤ k ∧ k ≤ 70)
    (hret : ∀ t' h' tk', Fr h₀ L h' m → News h₀ L h' news → Q (.str (spellB b) t') { s with heap := h', toks := tk' }) :
    wpAny (model PySem.Challenge.rw_nb0216_01.row.prog w) (ktrTop dp un gd cn cs L a ccd cl outer) (call (.ref 113) [.bytes b t]) Q E s := by
  refine wpAny_call ?_
  k_dflt cell_enter
  k_steps
  k_dflt (refine' srcC_bytes (fun k => PyData.str (spell1 k)) rfl ?F ?N (fun C k u s₂ m₂ E' hk hn hm hkeep => ?g2) (fun D ys h' tk F' N' hD hl hpl hc => ?g3) ?z)
  case F => k_asm
  case N => k_asm
  case z => rw [sizeLine_eq]; omega
  case g2 =>
    have F2 := Fr.keeps (by assumption) hkeep
    have hk1 := (KBw.ints_in hk).1
    have hk2 := (KBw.ints_in hk).2
    k_steps
    all_goals first | exact carr_lo (by assumption) | exact carr_hi (by assumption) | exact ⟨_, _, rfl, fun _ _ e => e⟩
  case g3 =>
    walk1
    refine KT.join_B 10 hl hc (fun k hk => spell1_len (hr k hk)) (by rw [KBw.ints_length]; omega) (by decide) ?_
    intro t9 k9
    k_steps
    exact hret _ _ _ (by assumption) (by first | assumption | (refine cb_drop (by assumption) ?_; intro p hp; simp only [List.mem_cons, hp, or_true]))
end
end Mine
end

section -- C4
open PySem PySem.W PyProof.Rows PySem.Calls
set_option Elab.async false
set_option maxRecDepth 100000
namespace Mine
section
variable {prog : Program} {w : World} {A : Around} {E : Value → Shared → Prop} {s s₁ : Shared} {h₀ : Heap} {L : Addr} {m : Str → Option Value} {env : Env} {elt : Expr} {x : Str} {scope : Scope} {cl : List (Str × Addr)} {news : List (Addr × Obj)}
/-- a comprehension's source, any iterator that the library can walk -/
def SrcW (prog : Program) (w : World) (A : Around) (h₀ : Heap) (L : Addr) (m : Str → Option Value) (env : Env) (elt : Expr) (x : Str) (scope : Scope) (cl : List (Str × Addr)) (Fin : Shared → List Value → List (Addr × Obj) → Prop) (it : Value) (s₂ : Shared) : Prop :=
  ∃ I n P St S news, it = .ref I ∧ Walks prog w A I [I] [I] n P St ∧ n ≤ sizeLine ∧ (∀ i h, St i h → ∃ o, h.get? I = some o) ∧ (∀ i h h' o nw, St i h → h.get? I = some o → h'.get? I = some o → (∀ b o, h₀.get? b = some o → h'.get? b = some o) → News h₀ L h' nw → S nw → St i h') ∧
    St 0 s₂.heap ∧ I < s₂.heap.objs.size ∧ Fr h₀ L s₂.heap m ∧ News h₀ L s₂.heap news ∧ L ≠ I ∧ h₀.get? I = none ∧ (∀ p ∈ news, p.1 ≠ I) ∧ S news ∧ LCg.CompRest prog w A h₀ L m env elt x scope cl s₂ S P (Fin s₂) n 0 [] news
theorem ListComp_W {iter : Expr} {px : Pos} {pos : Pos} {Q : Value → Shared → Prop} (_F₀ : Fr h₀ L s.heap m)
    (hclos : closureFor scope env = pure cl) (hcell : ∀ y ∈ scope.names, y.2 ≠ .cell) (hkind : scope.kind = .function)
    (hnames : ∀ y ∈ scope.names, y.2 = .local → scope.names.lookup y.1 = some .local) (hx : scope.names.lookup x = some .local)
    (h : wpAny (model prog w) A (eval iter env) (fun xv s₁ => wpAny (model prog w) A (pyIter xv) (SrcW prog w A h₀ L m env elt x scope cl (fun s₂ => LCg.FinE h₀ L m s₂ Q)) E s₁) E s)
    (hs : ∀ x, foldedSetIterable iter env x = pure x := by intro _; rfl) :
    wpAny (model prog w) A (eval (.ListComp elt [⟨.Name x px, iter, [], 0⟩] scope pos) env) Q E s := by
  rw [eval_ListComp]
  refine wpAny_comprehension_free (use := none) rfl hs hclos hkind hnames (wpAny_mono h (fun xv s₁ h₁ => wpAny_mono h₁ (fun it s₂ h₂ => ?_) fun _ _ e => e) fun _ _ e => e)
  obtain ⟨I, n, P, St, S, news, rfl, W, hsz, hIo, hSt, hst, hI, F, N, hIL, hI₀, off, hS, R⟩ := h₂
  refine LCg.block_U W hsz hIo hSt hcell hkind hx hst (fun b hb => by rw [List.mem_singleton.mp hb]; exact hI) F N hIL hI₀ off hS R ?_
  intro D C h tk m' ys news' F' N' o1 hn hC₀ hD₀ hCL hDL hCD offC fin
  refine ⟨m', hn, fun h'' hs'' => fin D h'' tk (F'.change hs'' hCL hC₀) (fun p hp => ?_) o1⟩
  refine ⟨hs''.extBut _ _ ?_ (N' p hp).1, (N' p hp).2⟩
  rcases List.mem_cons.mp hp with rfl | hp
  · exact Ne.symm hCD
  · exact offC p hp
theorem SrcW.range {Fin : Shared → List Value → List (Addr × Obj) → Prop} {r : Addr} {a b c : Int} {t u v : Tok} {n : Nat}
    (hh : A.handled = none) (F : Fr h₀ L s₁.heap m) (N : News h₀ L s₁.heap news) (hr : IsRange s₁.heap r a b c t u v) (hsm : Builtin.Range.small a b c = true) (hn : Builtin.Range.rangeSize a b c = ((n : Nat) : Int)) (hsz : n ≤ sizeLine)
    (h : ∀ g, LCg.CompRest prog w A h₀ L m env elt x scope cl { s₁ with heap := g } (fun _ => True) (fun i v => ∃ t, v = .int (a + (i : Int) * c) t) (Fin { s₁ with heap := g }) n 0 [] news) :
    wpAny (model prog w) A (pyIter (.ref r)) (SrcW prog w A h₀ L m env elt x scope cl Fin) E s₁ := by
  refine wpAny_pyIter_range hr hsm ?_
  refine ⟨s₁.heap.objs.size, n, _, _, fun _ => True, news, rfl, Walks.range hh _ a c n, hsz, fun i h st => ⟨_, st⟩, ?_, (by show IsRangeIter _ _ _ _ _; rw [hn]; simpa using Heap.get?_push_size _ rfl), ?_, F.keeps fun _ _ e => Heap.get?_push_of_some _ e,
    N.grown fun _ _ e => Heap.get?_push_of_some _ e, Nat.ne_of_lt F.ns.lt, next_is_new F, fun p hp => Nat.ne_of_lt (Heap.lt_size (N p hp).1), trivial, h _⟩
  · intro i h h' o nw st e e' _ _ _
    have st' : h.get? s₁.heap.objs.size = some _ := st
    show h'.get? s₁.heap.objs.size = some _
    rw [e', ← e]; exact st'
  · show s₁.heap.objs.size < (s₁.heap.push _).objs.size
    rw [Heap.size_push]; exact Nat.lt_succ_self _
theorem SrcW.bytes {Fin : Shared → List Value → List (Addr × Obj) → Prop} {b : Array UInt8} {t : Tok}
    (hh : A.handled = none) (F : Fr h₀ L s₁.heap m) (N : News h₀ L s₁.heap news) (hsz : b.size ≤ sizeLine)
    (h : ∀ g, LCg.CompRest prog w A h₀ L m env elt x scope cl { s₁ with heap := g } (fun _ => True) (fun i v => ∃ c u, b[i]? = some c ∧ v = .int (c.toNat : Int) u) (Fin { s₁ with heap := g }) b.size 0 [] news) :
    wpAny (model prog w) A (pyIter (.bytes b t)) (SrcW prog w A h₀ L m env elt x scope cl Fin) E s₁ := by
  refine KBw.pyIter_bytes ?_
  refine ⟨s₁.heap.objs.size, b.size, _, _, fun _ => True, news, rfl, KBw.walks hh _ b t, hsz, fun i h st => by obtain ⟨o, e, _⟩ := st; exact ⟨o, e⟩, ?_, ⟨_, Heap.get?_push_size _ rfl, rfl, rfl⟩, ?_, F.keeps fun _ _ e => Heap.get?_push_of_some _ e,
    N.grown fun _ _ e => Heap.get?_push_of_some _ e, Nat.ne_of_lt F.ns.lt, next_is_new F, fun p hp => Nat.ne_of_lt (Heap.lt_size (N p hp).1), trivial, h _⟩
  · intro i h h' o nw st e e' _ _ _
    obtain ⟨o', q, r⟩ := st
    rw [e] at q; cases q
    exact ⟨o, e', r⟩
  · show s₁.heap.objs.size < (s₁.heap.push _).objs.size
    rw [Heap.size_push]; exact Nat.lt_succ_self _
end
end Mine
end

section -- P0
open PySem PySem.W PyProof.Rows PySem.Calls
set_option Elab.async false
namespace Mine
theorem idx_nat (n : Nat) {a b : Nat} (hab : a ≤ b) : Builtin.Str.strSliceIndices (some (a : Int)) (some (b : Int)) 1 n = (List.range (min b n - min a n)).map fun k => min a n + k := by
  unfold Builtin.Str.strSliceIndices sliceRange
  have e1 : ¬ ((a : Int) < 0) := by omega
  have e2 : ¬ ((b : Int) < 0) := by omega
  simp only [e1, e2, if_false, show (1 : Int) > 0 by decide, if_true]
  have e3 : max (0 : Int) (min (a : Int) (n : Int)) = ((min a n : Nat) : Int) := by omega
  have e4 : max (0 : Int) (min (b : Int) (n : Int)) = ((min b n : Nat) : Int) := by omega
  rw [e3, e4]
  have e5 : (if ((min a n : Nat) : Int) < ((min b n : Nat) : Int) then (((min b n : Nat) : Int) - ((min a n : Nat) : Int) + 1 - 1) / 1 else 0) = (((min b n - min a n : Nat)) : Int) := by
    split
    · rw [Int.ediv_one]; omega
    · omega
  rw [e5, Int.toNat_natCast]
  refine List.map_congr_left fun k _ => ?_
  omega
theorem pick_range (l : List Nat) : ∀ (c d : Nat), c + d ≤ l.length → ((List.range d).map fun k => c + k).filterMap (l[·]?) = (l.drop c).take d := by
  intro c d
  induction d with
  | zero => intro _; simp
  | succ d ih =>
    intro h
    rw [List.range_succ, List.map_append, List.filterMap_append, ih (by omega)]
    have : (l.drop c).length = l.length - c := List.length_drop
    have hx : c + d < l.length := by omega
    simp only [List.map_cons, List.map_nil, List.filterMap_cons, List.filterMap_nil]
    rw [List.getElem?_eq_getElem hx, List.take_add_one]
    congr 1
    rw [List.getElem?_drop, List.getElem?_eq_getElem hx]
    rfl
theorem slice_list (x : Str) {a b : Nat} (hab : a ≤ b) : (Txt.slice x (some (a : Int)) (some (b : Int))).cps.toList = (x.cps.toList.drop a).take (b - a) := by
  have hn : x.cps.toList.length = x.length := Array.length_toList
  have main : ((List.range (min b x.length - min a x.length)).map fun k => min a x.length + k).filterMap (x.cps[·]?) = (x.cps.toList.drop a).take (b - a) := by
    have e := pick_range x.cps.toList (min a x.length) (min b x.length - min a x.length) (by omega)
    simp only [Array.getElem?_toList] at e
    rw [e]
    by_cases ha : a ≤ x.length
    · rw [Nat.min_eq_left ha]
      by_cases hb : b ≤ x.length
      · rw [Nat.min_eq_left hb]
      · rw [Nat.min_eq_right (by omega)]
        rw [List.take_of_length_le (by rw [List.length_drop]; omega), List.take_of_length_le (by rw [List.length_drop]; omega)]
    · rw [List.drop_eq_nil_of_le (by omega), List.drop_eq_nil_of_le (by omega)]; simp
  unfold Txt.slice
  rw [idx_nat _ hab]
  split
  · rename_i h
    simp only [List.length_map, List.length_range, Bool.and_eq_true, beq_iff_eq] at h
    have : min a x.length = 0 ∨ x.length = 0 := by omega
    rw [← main]
    have h' := h.2
    rcases this with h0 | h0
    · rw [h', h0]
      have := pick_range x.cps.toList 0 x.length (by omega)
      simp only [Array.getElem?_toList] at this
      rw [this, List.drop_zero, List.take_of_length_le (by omega)]
    · have : x.cps.toList = [] := List.length_eq_zero_iff.mp (by omega)
      rw [this]
      rw [h', h0]; rfl
  · exact main

/-! the grouped text: chunks of four, an underscore between, a blank behind -/
def ks4 (n : Nat) : List Int := (List.range n).map fun (i : Nat) => ((i : Int) * 4)
theorem ks4_get {n i : Nat} (h : i < n) : (ks4 n)[i]? = some ((0 : Int) + (i : Int) * 4) := by
  simp [ks4, h]
theorem ks4_length (n : Nat) : (ks4 n).length = n := by simp [ks4]
def piece (x : Str) (k : Int) : Str := Txt.slice x (some k) (some (k + 4))
theorem piece_list (x : Str) (i : Nat) : (piece x ((i : Int) * 4)).cps.toList = (x.cps.toList.drop (i * 4)).take 4 := by
  have e1 : ((i : Int) * 4) = ((i * 4 : Nat) : Int) := by omega
  have e2 : ((i : Int) * 4 + 4) = ((i * 4 + 4 : Nat) : Int) := by omega
  unfold piece
  rw [e1]
  have := slice_list x (a := i * 4) (b := i * 4 + 4) (by omega)
  rw [show ((i * 4 + 4 : Nat) : Int) = ((i * 4 : Nat) : Int) + 4 by omega] at this
  rw [this]
  congr 1
  omega
theorem piece_len (x : Str) {n : Nat} {k : Int} (hk : k ∈ ks4 n) : (piece x k).length ≤ 4 := by
  obtain ⟨i, _, rfl⟩ := List.mem_map.mp hk
  have : (piece x ((i : Int) * 4)).cps.toList.length = (piece x ((i : Int) * 4)).length := Array.length_toList
  rw [← this, piece_list, List.length_take]
  omega
def pieces (x : Str) : List Str := (ks4 ((x.length + 3) / 4)).map (piece x)
def grouped (x : Str) : Str := Txt.join (Str.ofString "_") (pieces x) ++ Str.ofString " "
theorem join_none (ps : List Str) : (Str.join ⟨#[]⟩ ps).cps.toList = (ps.map fun p => p.cps.toList).flatten := by
  match ps with
  | [] => rfl
  | [p] => simp [Str.join]
  | p :: q :: r =>
    show (p ++ ⟨#[]⟩ ++ Str.join ⟨#[]⟩ (q :: r)).cps.toList = _
    have := join_none (q :: r)
    simp only [Str.cps_append, Array.toList_append, this]
    simp
theorem take4 (l : List Nat) : ∀ n : Nat, ((List.range n).map fun i => (l.drop (i * 4)).take 4).flatten = l.take (n * 4) := by
  intro n
  induction n with
  | zero => simp
  | succ n ih =>
    rw [List.range_succ, List.map_append, List.flatten_append, ih]
    simp only [List.map_cons, List.map_nil, List.flatten_cons, List.flatten_nil, List.append_nil]
    rw [show (n + 1) * 4 = n * 4 + 4 by omega, List.take_add]
theorem pieces_flat (x : Str) : ((pieces x).map fun p => p.cps.toList).flatten = x.cps.toList := by
  have hn : x.cps.toList.length = x.length := Array.length_toList
  have e : (pieces x).map (fun p => p.cps.toList) = (List.range ((x.length + 3) / 4)).map fun i => (x.cps.toList.drop (i * 4)).take 4 := by
    unfold pieces ks4
    rw [List.map_map, List.map_map]
    refine List.map_congr_left fun i _ => ?_
    exact piece_list x i
  rw [e, take4, List.take_of_length_le (by omega)]
theorem mem_piece {x p : Str} {c : Nat} (hp : p ∈ pieces x) (hc : c ∈ p.cps.toList) : c ∈ x.cps.toList := by
  rw [← pieces_flat x]
  exact List.mem_flatten.mpr ⟨_, List.mem_map_of_mem hp, hc⟩
/-- signs that are neither blank nor underscore -/
def Plain (l : List Nat) : Prop := ∀ c ∈ l, 33 ≤ c ∧ c < 127 ∧ c ≠ 95
theorem strike_join {x : Str} (h : Plain x.cps.toList) : (Txt.join (Str.ofString "_") (pieces x)).cps.toList.filter (· != 95) = x.cps.toList := by
  have e : Txt.join (Str.ofString "_") (pieces x) = Str.join ⟨#[95]⟩ (pieces x) := by
    show Builtin.Str.glued (Str.ofString "_") _ = _
    rw [StrLaws.glued_eq_join]
    rfl
  rw [e, rem_join 95 _ (fun p hp hm => (h 95 (mem_piece hp hm)).2.2 rfl), join_none, pieces_flat]
theorem spaces_not : ∀ c : Nat, c < 127 → 33 ≤ c → spS ⟨#[c]⟩ = false := by decide +kernel
theorem rstrip_end {x : Str} (hA : ∀ c ∈ x.cps.toList, c < 128) {l : List Nat} (n : Nat) (hx : x.cps.toList = l ++ List.replicate n 32) (hl : ∀ c ∈ l, 33 ≤ c ∧ c < 127) : (Txt.rstrip x).cps.toList = l := by
  obtain ⟨hi, h1, h2, h3, h4⟩ := rstrip_cut hA
  have hn : x.cps.toList.length = x.length := Array.length_toList
  have hlen : x.length = l.length + n := by rw [← hn, hx, List.length_append, List.length_replicate]
  have at1 : ∀ k, x.cps.getD k 0 = (x.cps.toList)[k]?.getD 0 := fun k => by simp [Array.getD_eq_getD_getElem?]
  have hk : hi = l.length := by
    rcases Nat.lt_trichotomy hi l.length with q | q | q
    · have := h3 (l.length - 1) (by omega) (by omega)
      rw [at1, hx, List.getElem?_append_left (by omega), List.getElem?_eq_getElem (by omega)] at this
      have hm := hl _ (List.getElem_mem (l := l) (n := l.length - 1) (by omega))
      simp only [Option.getD_some] at this
      rw [spaces_not _ hm.2 hm.1] at this
      cases this
    · exact q
    · rcases h4 with h4 | h4
      · omega
      · rw [at1, hx, List.getElem?_append_right (by omega), List.getElem?_replicate, if_pos (by omega)] at h4
        exact absurd h4 (by decide +kernel)
  rw [h2, StrLaws.strSub_toList, hk, hx]
  simp
/-- what int_from_string reads of the grouped text -/
def cleaned (x : Str) : Str := Txt.replace (Txt.rstrip x) (Str.ofString "_") (Str.ofString "")
theorem cleaned_list (y : Str) : (cleaned y).cps.toList = (Txt.rstrip y).cps.toList.filter (· != 95) := by
  have := replace_strikes (Txt.rstrip y) 95
  exact this
theorem str_ext {x y : Str} (h : x.cps.toList = y.cps.toList) : x = y := Str.ext' (Array.toList_inj.mp h)
theorem join_plain {x : Str} (h : Plain x.cps.toList) : ∀ c ∈ (Txt.join (Str.ofString "_") (pieces x)).cps.toList, 33 ≤ c ∧ c < 127 := by
  intro c hc
  by_cases e : c = 95
  · subst e; decide
  · have : c ∈ (Txt.join (Str.ofString "_") (pieces x)).cps.toList.filter (· != 95) := List.mem_filter.mpr ⟨hc, by simpa using e⟩
    rw [strike_join h] at this
    exact ⟨(h c this).1, (h c this).2.1⟩
theorem cleaned_grouped {x : Str} (h : Plain x.cps.toList) : cleaned (grouped x) = x := by
  refine str_ext ?_
  have hj := join_plain h
  have e : (grouped x).cps.toList = (Txt.join (Str.ofString "_") (pieces x)).cps.toList ++ List.replicate 1 32 := by
    unfold grouped
    rw [Str.cps_append, Array.toList_append]
    rfl
  rw [cleaned_list, rstrip_end (n := 1) (fun c hc => ?_) e hj, strike_join h]
  rw [e] at hc
  rcases List.mem_append.mp hc with hc | hc
  · have := hj c hc; omega
  · rw [List.mem_replicate] at hc; omega
theorem cleaned_plain {x : Str} (h : Plain x.cps.toList) : cleaned x = x := by
  refine str_ext ?_
  rw [cleaned_list, rstrip_end (n := 0) (l := x.cps.toList) (fun c hc => ?_) (by simp) (fun c hc => ⟨(h c hc).1, (h c hc).2.1⟩)]
  · exact List.filter_eq_self.mpr fun c hc => by simpa using (h c hc).2.2
  · have := h c hc; omega
end Mine
end

section -- C5
open PySem PySem.W PyProof.Rows PySem.Calls
set_option Elab.async false
set_option maxRecDepth 100000
namespace Mine
theorem fill5 : ∀ (w : World) (h : Heap), (Mine.hd.heap_39 w.params).In h → PySem.Challenge.rw_nb0216_01.row.prog = PySem.Challenge.rw_nb0216_01.row.prog := by
  k_fill; intros; rfl
theorem range4 (n : Nat) (hn : n ≤ 1000) : Builtin.Range.rangeSize 0 (n : Int) 4 = (((n + 3) / 4 : Nat) : Int) := by
  unfold Builtin.Range.rangeSize
  rw [if_pos (by decide)]
  split <;> omega
theorem join_len (y : Str) (B : Nat) : ∀ ps : List Str, (∀ p ∈ ps, p.length ≤ B) → (Str.join y ps).length ≤ ps.length * (B + y.length)
  | [], _ => Nat.zero_le _
  | [p], h => by
    have := h p (List.mem_cons_self ..)
    show p.length ≤ _
    simp only [List.length_cons, List.length_nil, Nat.zero_add, Nat.one_mul]
    omega
  | p :: q :: r, h => by
    have ih := join_len y B (q :: r) fun a ha => h a (List.mem_cons_of_mem _ ha)
    have hp := h p (List.mem_cons_self ..)
    show (p ++ y ++ Str.join y (q :: r)).length ≤ _
    rw [Str.length_append, Str.length_append]
    have e : (p :: q :: r).length * (B + y.length) = (q :: r).length * (B + y.length) + (B + y.length) := by
      rw [List.length_cons (as := q :: r), Nat.succ_mul]
    rw [e]
    omega
theorem pieces_len (x : Str) : (Txt.join (Str.ofString "_") ((ks4 ((x.length + 3) / 4)).map (piece x))).length ≤ (x.length + 3) / 4 * 5 := by
  show (Builtin.Str.glued (Str.ofString "_") _).length ≤ _
  rw [StrLaws.glued_eq_join]
  have := join_len (Str.ofString "_") 4 ((ks4 ((x.length + 3) / 4)).map (piece x)) fun p hp => by
    obtain ⟨k, hk, rfl⟩ := List.mem_map.mp hp
    exact piece_len x hk
  rw [List.length_map, ks4_length] at this
  exact this
theorem fitsL {x : Int} (h0 : 0 ≤ x) (h1 : x ≤ 100000) : Builtin.Range.rangeFitsLong x = true := by
  have e : (2 : Int) ^ 63 = 9223372036854775808 := by decide
  unfold Builtin.Range.rangeFitsLong
  rw [e]
  simp only [Bool.and_eq_true, decide_eq_true_eq]
  omega
theorem small4 (n : Nat) (hn : n ≤ 600) : Builtin.Range.small 0 (n : Int) 4 = true := by
  unfold Builtin.Range.small
  rw [range4 n (by omega), fitsL (by decide) (by decide), fitsL (x := (n : Int)) (by omega) (by omega), fitsL (x := (4 : Int)) (by decide) (by decide), fitsL (x := (((n + 3) / 4 : Nat) : Int)) (by omega) (by omega), if_pos (by decide), fitsL (by omega) (by omega), Bool.or_true]
  rfl
section
variable {w : World} {p : Program} {loose : List Str} {mean : ExcName → Option Value} {mg mb : Str → Option Value} {dp un : Nat} {gd : Option (List Code)} {cn : Str} {cs : Scope} {a : Addr} {ccd : Value} {cl : List (Str × Addr)} {outer : List Env} {A₀ : Around} {base h₀ : Heap} {L : Addr} {m : Str → Option Value} {s : Shared} {Q E : Value → Shared → Prop} {news : List (Addr × Obj)}

local macro_rules | `(tactic| walk_at "eval ListComp") => `(tactic| (k_dflt (refine ListComp_W (by k_asm) (by with_unfolding_all rfl) (by decide) (by rfl) (by decide) (by rfl) ?_)))
local macro_rules | `(tactic| walk_at "pyIter ref") => `(tactic| ((with_reducible show wpAny _ _ _ (SrcW _ _ _ _ _ _ _ _ _ _ _ _) _ _); fail "here"))

set_option maxHeartbeats 4000000 in
theorem c_grouped {x : Str} {t : Tok} (B : Below A₀ base outer h₀) (F : Fr h₀ L s.heap m) (X : (Mine.hd.heap_39 w.params).In h₀) (N : News h₀ L s.heap news) (T : Top p loose mean mg mb h₀) (hcs : cs.kind = .function)
    (hd : dp + 4 < recursionLimit) (hu : un + 40 < cLine) (hb : x.length ≤ 600)
    (hret : ∀ t' h' tk', Fr h₀ L h' m → News h₀ L h' news → Q (.str (grouped x) t') { s with heap := h', toks := tk' }) :
    wpAny (model PySem.Challenge.rw_nb0216_01.row.prog w) (ktrTop dp un gd cn cs L a ccd cl outer) (call (.ref 118) [.str x t]) Q E s := by
  refine wpAny_call ?_
  k_dflt (first | (refine' code_defC ?k1 ?k2 ?k3 ?k4 ?k5 ?kA ?kF ?kK ?k6 ?k7 ?k8 ?k9 ?kB ?kD ?_ ?c2 ?c3 ?c4; (case kA => exact rfl); (case kF => exact rfl); (case kK => assumption); (case k1 => k_asm); (case k2 => k_asm); (case k3 => k_asm); (case k4 => k_asm); (case k5 => k_asm); (case k6 => k_is); (case k7 => k_is); (case k8 => ktr_room); (case k9 => first | exact BindsTo.of_eq rfl | exact binds_K (by k_in) rfl (by k_is) rfl rfl rfl); (case kB => exact rfl); (case kD => decide +kernel); (case c2 => exact rfl); (case c3 => exact rfl); (case c4 => exact rfl); k_whole; intro g' L' h' tk' cells' FG' F' N' Y' B' X' T' l1; (try k_lt l1); k_cells Y'; (try simp only [List.cons_append, List.nil_append] at N'); (try dsimp only); (try k_lift B'); (try k_fold)) | cell_enter)
  k_steps
  dsimp only
  k_dflt (refine' SrcW.range (n := (x.length + 3) / 4) rfl ?F ?N ?R ?sm ?n ?z (fun g => kct_rest (ks := ks4 ((x.length + 3) / 4)) (piece x) (ks4_length _) (fun i v hi hv => ?P) (fun k' t' I' oI' C' oC' D' m' ys' h' tk' E' hk' hC' hx' F' N' off' ne' hMark' => ?turn) ?fin))
  case F => k_asm
  case N => k_asm
  case R => assumption
  case sm => exact small4 _ hb
  case n => exact range4 _ (by omega)
  case z => rw [sizeLine_eq]; omega
  case P =>
    obtain ⟨t, e⟩ := hv
    exact ⟨_, t, ks4_get hi, e⟩
  case turn =>
    k_steps
    exact LCg.CompEnd.intro (by assumption) (by assumption) _ (fun p hp => hp) off' trivial ⟨rfl, _, rfl⟩
  case fin =>
    unfold KPfDone
    intro ys hc hlen
    unfold LCg.FinE
    intro D h9 tk9 F9 N9 o9
    dsimp only
    walk1
    refine KT.join_B 4 (News.isList N9 (by k_mem)) hc (fun k hk => piece_len x hk) (by rw [hlen]; omega) (by decide) ?_
    intro t8 k8
    walk1
    refine add_str ?_ ?z
    case z => exact Nat.le_trans (Nat.add_le_add_right (pieces_len x) _) (by rw [sizeLine_eq]; show _ + 1 ≤ _; omega)
    intro t7 k7
    k_steps
    exact hret _ _ _ (by assumption) (by first | assumption | (refine cb_drop (by assumption) ?_; intro p hp; simp only [List.mem_cons, hp, or_true]))
end
end Mine
end

section -- C6
open PySem PySem.W PyProof.Rows PySem.Calls PySem.NumText
set_option Elab.async false
set_option maxRecDepth 100000
namespace Mine
theorem fill6 : ∀ (w : World) (h : Heap), (Mine.hd.heap_39 w.params).In h → PySem.Challenge.rw_nb0216_01.row.prog = PySem.Challenge.rw_nb0216_01.row.prog := by
  k_fill; intros; rfl
def paperStep (c : Int × Int) (n : Int) : Int × Int := (c.1 * 10 + Int.fdiv (c.2 * 10 + (n - 48)) 97, Int.fmod (c.2 * 10 + (n - 48)) 97)
def paper (l : List Int) : Int × Int := l.foldl paperStep (0, 0)
section
variable {w : World} {p : Program} {loose : List Str} {mean : ExcName → Option Value} {mg mb : Str → Option Value} {dp un : Nat} {gd : Option (List Code)} {cn : Str} {cs : Scope} {a : Addr} {ccd : Value} {cl : List (Str × Addr)} {outer : List Env} {A₀ : Around} {base h₀ : Heap} {L : Addr} {m : Str → Option Value} {s : Shared} {Q E : Value → Shared → Prop} {news : List (Addr × Obj)}
local macro_rules | `(tactic| walk_at "exec For Name Name cons nil") => `(tactic| (k_here; (rename Fr _ _ _ _ => lF'); (with_unfolding_all refine' For_invVF lF' ?k1 ?k2 ?_; (case k1 => exact rfl); (case k2 => exact rfl); k_whole)))
local macro_rules | `(tactic| walk_at "pyIter str") => `(tactic| fail "here")
abbrev PaperSt := (Int × Int) × (Tok × Tok)
abbrev tup2 (a b : Int) (t1 t2 : Tok) (c : Nat) : Obj := { cls := .type "tuple", data := .seq #[.int a t1, .int b t2] c }
theorem digit1 {n : Nat} (h : 48 ≤ n ∧ n ≤ 57) : PySem.intText? ⟨#[n]⟩ = some ((n : Int) - 48) := by
  have := intText_digits (x := ⟨#[n]⟩) (fun c hc => by
    have : c = n := by simpa using hc
    rw [this]; exact h) (by simp) (by show 1 ≤ 4300; decide)
  rw [this]
  show some (((0 * 10 + (n - 48) : Nat)) : Int) = _
  congr 1
  omega
theorem code_digit {x : Str} (hx : AllDigits x.cps.toList) {pre post : List Int} {n : Nat} (h : KStt.codes x = pre ++ (n : Int) :: post) : 48 ≤ n ∧ n ≤ 57 := by
  have hm : (n : Int) ∈ KStt.codes x := by rw [h]; simp
  unfold KStt.codes at hm
  obtain ⟨c, hc, e⟩ := List.mem_map.mp hm
  have : c = n := by omega
  subst this
  exact hx c hc
local macro_rules | `(tactic| walk_at "call type:int") => `(tactic| (refine KIN.call_text (digit1 (by assumption)) (by show 1 ≤ 640; decide) ?_))
theorem text2 {prog : Program} {A : Around} {Ef : Value → Shared → Prop} {Qf : Flow → Shared → Prop} {env : Env} {z : Str} {body : List Stmt} {xt : Str} {tx : Tok} {m₀ : Str → Option Value} (y1 y2 : Str) (a b : Int) (P : List Int → Int × Int → Prop)
    (hh : A.handled = none) (F : Fr h₀ env.locals s.heap m₀) (N : News h₀ env.locals s.heap news) (hk1 : ∃ t, m₀ y1 = some (.int a t)) (hk2 : ∃ t, m₀ y2 = some (.int b t)) (hp : P [] (a, b))
    (turn : ∀ (c : Int × Int) (t1 t2 : Tok) (pre post : List Int) (n : Nat) t (u : Str → Option Value) h tk own, KStt.codes xt = pre ++ (n : Int) :: post → OwnOff own (news.map (·.1)) → P pre c →
      Fr h₀ env.locals h (fun y => if y = z then some (.str ⟨#[n]⟩ t) else kstB (fun z => if ([] : List Str).contains z then u z else m₀ z) [(y1, .int c.1 t1), (y2, .int c.2 t2)] y) → News h₀ env.locals h (news ++ own) →
      wpAny (model prog w) A (execs body env) (InvPostN h₀ env.locals (KstS (σ := PaperSt) (fun _ => news) (fun c => [(y1, .int c.1.1 c.2.1), (y2, .int c.1.2 c.2.2)]) (fun _ => True) z [] m₀ (fun pre c => P pre c.1) (pre ++ [(n : Int)])) own (news.map (·.1)) { s with heap := h, toks := tk } Qf) Ef { s with heap := h, toks := tk })
    (done : ∀ (c : Int × Int) (t1 t2 : Tok) (u : Str → Option Value) h tk, P (KStt.codes xt) c → Fr h₀ env.locals h (fun y => if y = z then u y else kstB (fun z => if ([] : List Str).contains z then u z else m₀ z) [(y1, .int c.1 t1), (y2, .int c.2 t2)] y) → News h₀ env.locals h news → Qf .next { s with heap := h, toks := tk }) :
    wpAny (model prog w) A (pyIter (.str xt tx)) (fun it s₂ => LoopAtV prog w A h₀ env z body Qf Ef it s₂) Ef s := by
  obtain ⟨t1, h1⟩ := hk1
  obtain ⟨t2, h2⟩ := hk2
  exact KStt.kst_text (σ := PaperSt) (fun _ => news) (fun c => [(y1, .int c.1.1 c.2.1), (y2, .int c.1.2 c.2.2)]) (fun _ => True) [] (fun pre c => P pre c.1) ((a, b), (t1, t2)) hh F N trivial
    (List.forall_mem_cons.mpr ⟨h1, List.forall_mem_cons.mpr ⟨h2, fun _ h => nomatch h⟩⟩) hp (fun c pre post n t u h tk own hc ho _ hP F1 N1 => turn c.1 c.2.1 c.2.2 pre post n t u h tk own hc ho hP F1 N1)
    (fun c u h tk _ hP F1 N1 => done c.1 c.2.1 c.2.2 u h tk hP F1 N1)
theorem text2_end {y1 y2 z : Str} {a b : Int} {P : List Int → Int × Int → Prop} {pre : List Int} {m₀ m' : Str → Option Value} {own : List (Addr × Obj)} {s₁ : Shared} {h' : Heap} {tk : Nat}
    (F : Fr h₀ L h' m') (N : News h₀ L h' (news ++ own)) (h1 : ∃ t, m' y1 = some (.int a t)) (h2 : ∃ t, m' y2 = some (.int b t)) (hr : ∀ v, v ≠ z → v ≠ y1 → v ≠ y2 → m' v = m₀ v) (hp : P pre (a, b)) :
    InvEndN h₀ L (KstS (σ := PaperSt) (fun _ => news) (fun c => [(y1, .int c.1.1 c.2.1), (y2, .int c.1.2 c.2.2)]) (fun _ => True) z [] m₀ (fun pre c => P pre c.1) pre) own (news.map (·.1)) s₁ { s₁ with heap := h', toks := tk } := by
  obtain ⟨t1, h1⟩ := h1
  obtain ⟨t2, h2⟩ := h2
  exact kst_end (σ := PaperSt) ((a, b), (t1, t2)) F N (fun p hp => List.mem_append_left _ hp) (fun p hp => List.mem_append_right _ hp) rfl trivial
    (List.forall_mem_cons.mpr ⟨h1, List.forall_mem_cons.mpr ⟨h2, fun _ h => nomatch h⟩⟩) (fun v hv hq _ => hr v hv (hq _ (List.mem_cons_self ..)) (hq _ (List.mem_cons_of_mem _ (List.mem_cons_self ..)))) hp
theorem paper_snoc (pre : List Int) (n : Int) : paper (pre ++ [n]) = paperStep (paper pre) n := by
  unfold paper; rw [List.foldl_append]; rfl
theorem fmod97 (x : Int) : 0 ≤ Int.fmod x 97 ∧ Int.fmod x 97 < 97 := ⟨Int.fmod_nonneg_of_pos _ (by decide), Int.fmod_lt_of_pos _ (by decide)⟩
set_option maxHeartbeats 4000000 in
theorem c_paper {x : Str} {t : Tok} (B : Below A₀ base outer h₀) (F : Fr h₀ L s.heap m) (X : (Mine.hd.heap_39 w.params).In h₀) (N : News h₀ L s.heap news) (T : Top p loose mean mg mb h₀) (hcs : cs.kind = .function)
    (hd : dp + 4 < recursionLimit) (hu : un + 40 < cLine) (hb : x.length ≤ 600) (hx : AllDigits x.cps.toList)
    (hret : ∀ D t1 t2 h' tk', Fr h₀ L h' m → News h₀ L h' ((D, tup2 (paper (KStt.codes x)).1 (paper (KStt.codes x)).2 t1 t2 0) :: news) → (∀ p ∈ news, p.1 < D) → Q (.ref D) { s with heap := h', toks := tk' }) :
    wpAny (model PySem.Challenge.rw_nb0216_01.row.prog w) (ktrTop dp un gd cn cs L a ccd cl outer) (call (.ref 125) [.str x t]) Q E s := by
  refine wpAny_call ?_
  k_dflt cell_enter
  k_steps
  (rename Fr _ _ _ _ => lF'); (rename News _ _ _ _ => lN')
  with_unfolding_all refine' text2 (Str.ofString "worth") (Str.ofString "rest") 0 0 (fun pre c => c = paper pre ∧ 0 ≤ c.2 ∧ c.2 < 97) (by rfl) lF' lN' ⟨_, rfl⟩ ⟨_, rfl⟩ ⟨rfl, by decide, by decide⟩ (fun c t1 t2 pre post n t u h tk own hcod hoff hP F1 N1 => ?turn) (fun c t1 t2 u h tk hP F1 N1 => ?done)
  case turn =>
    obtain ⟨hP1, hP2, hP3⟩ := hP
    have hdig := code_digit hx hcod
    k_steps
    with_unfolding_all refine' text2_end (P := fun pre c => c = paper pre ∧ 0 ≤ c.2 ∧ c.2 < 97) ?hF ?hN ?h1 ?h2 ?hr ?hp
    case hF => assumption
    case hN => assumption
    case h1 => with_unfolding_all exact ⟨_, rfl⟩
    case h2 => with_unfolding_all exact ⟨_, rfl⟩
    case hr =>
      intro v h1 h2 h3
      simp [h1, h2, h3, kstB]
    case hp =>
      rw [paper_snoc, ← hP1]
      exact ⟨rfl, fmod97 _⟩
  case done =>
    k_steps
    rw [← hP.1] at hret
    exact hret _ _ _ _ _ (by assumption) (by assumption) (by assumption)
end
end Mine
end

section -- C7
open PySem PySem.W PyProof.Rows PySem.Calls PySem.NumText
set_option Elab.async false
set_option maxRecDepth 100000
namespace Mine
theorem fill7 : ∀ (w : World) (h : Heap), (Mine.hd.heap_39 w.params).In h → PySem.Challenge.rw_nb0216_01.row.prog = PySem.Challenge.rw_nb0216_01.row.prog := by
  k_fill; intros; rfl
section
variable {w : World} {p : Program} {loose : List Str} {mean : ExcName → Option Value} {mg mb : Str → Option Value} {dp un : Nat} {gd : Option (List Code)} {cn : Str} {cs : Scope} {a : Addr} {ccd : Value} {cl : List (Str × Addr)} {outer : List Env} {A₀ : Around} {base h₀ : Heap} {L : Addr} {m : Str → Option Value} {s : Shared} {Q E : Value → Shared → Prop} {news : List (Addr × Obj)}
set_option maxHeartbeats 4000000 in
theorem c_div2n1n {i : Int} {t tb tn : Tok} (B : Below A₀ base outer h₀) (F : Fr h₀ L s.heap m) (X : (Mine.hd.heap_39 w.params).In h₀) (N : News h₀ L s.heap news) (T : Top p loose mean mg mb h₀) (hcs : cs.kind = .function)
    (hd : dp + 4 < recursionLimit) (hu : un + 40 < cLine) (h0 : 0 ≤ i) (h1 : i < 2 ^ 30)
    (hret : ∀ D t1 t2 h' tk', Fr h₀ L h' m → News h₀ L h' ((D, tup2 (Int.fdiv i 97) (Int.fmod i 97) t1 t2 0) :: news) → (∀ p ∈ news, p.1 < D) → Q (.ref D) { s with heap := h', toks := tk' }) :
    wpAny (model PySem.Challenge.rw_nb0216_01.row.prog w) (ktrTop dp un gd cn cs L a ccd cl outer) (call (.ref 50) [.int i t, .int 97 tb, .int 7 tn]) Q E s := by
  refine wpAny_call ?_
  k_dflt cell_enter
  have hbits : ((Builtin.Int.intBits i : Nat) : Int) ≤ 30 := by
    have := (intBits_le_iff (m := 30) (x := i)).mpr (by omega)
    omega
  rename News _ _ _ _ => N9
  have hlt := fun p hp => Heap.lt_size (N9 p hp).1
  k_steps
  exact hret _ _ _ _ _ (by assumption) (by assumption) hlt
end
end Mine
end

section -- P1
open PySem PySem.W PyProof.Rows PySem.Calls
set_option Elab.async false
namespace Mine
/-! plain: figures in base 128 -/
def digs : Nat → Nat → List Int
  | 0, _ => []
  | k + 1, x => ((x % 128 : Nat) : Int) :: digs k (x / 128)
theorem digs_length : ∀ k x, (digs k x).length = k
  | 0, _ => rfl
  | k + 1, x => by rw [digs, List.length_cons, digs_length]
theorem digs_split (b : Nat) : ∀ (a x : Nat), digs (a + b) x = digs a (x % 2 ^ (7 * a)) ++ digs b (x / 2 ^ (7 * a))
  | 0, x => by simp [digs]
  | a + 1, x => by
    rw [show a + 1 + b = (a + b) + 1 by omega, digs, digs, digs_split b a (x / 128), List.cons_append]
    have e : 2 ^ (7 * (a + 1)) = 128 * 2 ^ (7 * a) := by
      rw [show 7 * (a + 1) = 7 + 7 * a by omega, Nat.pow_add]
    rw [e]
    congr 1
    · rw [Nat.mod_mul_right_mod]
    · congr 1
      · rw [Nat.mod_mul_right_div_self]
      · rw [Nat.div_div_eq_div_mul]
theorem digs_one (x : Nat) (h : x < 128) : digs 1 x = [(x : Int)] := by
  show [((x % 128 : Nat) : Int)] = _
  rw [Nat.mod_eq_of_lt h]
theorem rsh_nat (x k : Nat) : Int.fdiv (x : Int) (2 ^ k) = ((x / 2 ^ k : Nat) : Int) := by
  rw [Int.fdiv_eq_ediv_of_nonneg _ (by exact Int.pow_nonneg (by decide))]
  push_cast
  rfl
theorem lsh_nat (x k : Nat) : (x : Int) * 2 ^ k = ((x * 2 ^ k : Nat) : Int) := by
  push_cast; rfl
theorem and_high (x k : Nat) : x &&& (x / 2 ^ k * 2 ^ k) = x / 2 ^ k * 2 ^ k := by
  apply Nat.eq_of_testBit_eq
  intro i
  rw [Nat.testBit_and, Nat.mul_comm, Nat.testBit_two_pow_mul, Nat.testBit_div_two_pow]
  by_cases h : k ≤ i
  · simp [h]
  · simp [h]
theorem and_nat (x y : Nat) : Builtin.bitAnd (x : Int) (y : Int) = ((x &&& y : Nat) : Int) := by rfl
theorem xor_low (x k : Nat) : Builtin.bitXor (x : Int) ((x / 2 ^ k * 2 ^ k : Nat) : Int) = ((x % 2 ^ k : Nat) : Int) := by
  rw [bitXor_and, and_nat, and_high]
  have := Nat.div_add_mod x (2 ^ k)
  rw [Nat.mul_comm] at this
  omega
def upd (ds : List Int) (lo hi x : Nat) : List Int := ds.take lo ++ digs (hi - lo) x ++ ds.drop hi
theorem upd_length {ds : List Int} {lo hi : Nat} (x : Nat) (h1 : lo ≤ hi) (h2 : hi ≤ ds.length) : (upd ds lo hi x).length = ds.length := by
  unfold upd; simp [digs_length]; omega
theorem upd_one {ds : List Int} {lo x : Nat} (h : lo < ds.length) (hx : x < 128) : ds.set lo (x : Int) = upd ds lo (lo + 1) x := by
  unfold upd
  rw [show lo + 1 - lo = 1 by omega, digs_one x hx, List.set_eq_take_append_cons_drop, if_pos h]
  simp
theorem upd_two {ds : List Int} {lo mid hi x : Nat} (h1 : lo ≤ mid) (h2 : mid ≤ hi) (h3 : hi ≤ ds.length) :
    upd (upd ds lo mid (x % 2 ^ (7 * (mid - lo)))) mid hi (x / 2 ^ (7 * (mid - lo))) = upd ds lo hi x := by
  have e1 : (upd ds lo mid (x % 2 ^ (7 * (mid - lo)))).take mid = ds.take lo ++ digs (mid - lo) (x % 2 ^ (7 * (mid - lo))) := by
    unfold upd
    rw [List.take_append_of_le_length (by simp [digs_length]; omega), List.take_of_length_le (by simp [digs_length]; omega)]
  have e2 : (upd ds lo mid (x % 2 ^ (7 * (mid - lo)))).drop hi = ds.drop hi := by
    unfold upd
    rw [List.drop_append, List.drop_eq_nil_of_le (by simp [digs_length]; omega), List.nil_append, List.drop_drop]
    congr 1
    simp [digs_length]; omega
  show (upd ds lo mid (x % 2 ^ (7 * (mid - lo)))).take mid ++ _ ++ (upd ds lo mid (x % 2 ^ (7 * (mid - lo)))).drop hi = _
  rw [e1, e2]
  unfold upd
  rw [show hi - lo = (mid - lo) + (hi - mid) by omega, digs_split]
  simp
/-- figures to base 128, the least first -/
def valN : List Nat → Nat
  | [] => 0
  | d :: r => d + 128 * valN r
theorem valN_append : ∀ a b : List Nat, valN (a ++ b) = valN a + 2 ^ (7 * a.length) * valN b
  | [], b => by simp [valN]
  | d :: r, b => by
    rw [List.cons_append, valN, valN, valN_append r b, List.length_cons, show 7 * (r.length + 1) = 7 + 7 * r.length by omega, Nat.pow_add, Nat.mul_add, Nat.mul_assoc]
    show d + (128 * valN r + 128 * (2 ^ (7 * r.length) * valN b)) = d + 128 * valN r + 128 * (2 ^ (7 * r.length) * valN b)
    omega
theorem valN_lt : ∀ (l : List Nat), (∀ d ∈ l, d < 128) → valN l < 2 ^ (7 * l.length)
  | [], _ => by decide
  | d :: r, h => by
    have ih := valN_lt r fun x hx => h x (List.mem_cons_of_mem _ hx)
    have hd := h d (List.mem_cons_self ..)
    rw [valN, List.length_cons, show 7 * (r.length + 1) = 7 + 7 * r.length by omega, Nat.pow_add]
    show d + 128 * valN r < 128 * 2 ^ (7 * r.length)
    omega
def part (qs : List Nat) (lo hi : Nat) : List Nat := (qs.drop lo).take (hi - lo)
theorem part_split (qs : List Nat) {lo mid hi : Nat} (h1 : lo ≤ mid) (h2 : mid ≤ hi) : part qs lo hi = part qs lo mid ++ part qs mid hi := by
  unfold part
  rw [show hi - lo = (mid - lo) + (hi - mid) by omega, List.take_add, List.drop_drop, show lo + (mid - lo) = mid by omega]
theorem part_length (qs : List Nat) {lo hi : Nat} (h1 : lo ≤ hi) (h2 : hi ≤ qs.length) : (part qs lo hi).length = hi - lo := by
  unfold part; simp; omega
theorem part_mem {qs : List Nat} {lo hi d : Nat} (h : d ∈ part qs lo hi) : d ∈ qs := List.mem_of_mem_drop (List.mem_of_mem_take h)
theorem part_one (qs : List Nat) {lo : Nat} (h : lo < qs.length) : valN (part qs lo (lo + 1)) = qs.getD lo 0 := by
  unfold part
  rw [show lo + 1 - lo = 1 by omega, List.drop_eq_getElem_cons h, List.take_succ_cons, List.take_zero, List.getD_eq_getElem?_getD, List.getElem?_eq_getElem h]
  rfl
theorem part_all (qs : List Nat) : part qs 0 qs.length = qs := by unfold part; simp
end Mine
end

section -- C9
open PySem PySem.W PyProof.Rows PySem.Calls PySem.NumText
set_option Elab.async false
set_option maxRecDepth 100000
namespace Mine
theorem fill9 : ∀ (w : World) (h : Heap), (Mine.hd.heap_39 w.params).In h → PySem.Challenge.rw_nb0216_01.row.prog = PySem.Challenge.rw_nb0216_01.row.prog := by
  k_fill; intros; rfl
theorem allLt_ne {d c : Nat} : ∀ {l : List (Addr × Obj)}, AllLt d l → d ≤ c → ∀ p ∈ l, p.1 ≠ c
  | [], _, _, _, h => nomatch h
  | _ :: _, x, y, p, h => by
    rcases List.mem_cons.mp h with rfl | h
    · exact Nat.ne_of_lt (Nat.lt_of_lt_of_le x.1 y)
    · exact allLt_ne x.2 y p h
def fdefOf : Stmt → Option (Str × Arguments × List Stmt × Scope)
  | .FunctionDef nm args body _ _ _ scope _ _ _ => some (nm, args, body, scope)
  | _ => none
/-- a def inside a def of the text: its name, parameters, body, scope -/
def innerOf (i j : Nat) : Option (Str × Arguments × List Stmt × Scope) :=
  (PySem.Challenge.pw_nb0216_01.main.body[i]?).bind fun s => (fdefOf s).bind fun d => (d.2.2.1[j]?).bind fdefOf
local macro_rules | `(tactic| k_all) => `(tactic| first | assumption | exact allLt_ne (by assumption) (by omega))
section
variable {w : World} {p : Program} {loose : List Str} {mean : ExcName → Option Value} {mg mb : Str → Option Value} {dp un : Nat} {gd : Option (List Code)} {cn : Str} {cs : Scope} {a : Addr} {ccd : Value} {cl : List (Str × Addr)} {outer : List Env} {A₀ : Around} {base h₀ : Heap} {L : Addr} {m : Str → Option Value} {s : Shared} {Q E : Value → Shared → Prop} {news : List (Addr × Obj)}
section
variable {prog : Program} {A : Around} {i j y : Int} {t u : Tok}
theorem rsh_as (hn : 0 ≤ j) (e : i.fdiv (2 ^ j.toNat) = y) (h : Q (.int y s.toks) { s with toks := s.toks + 1 }) : wpAny (model prog w) A (binaryOp .RShift (.int i t) (.int j u)) Q E s := by
  subst e; exact rshift_int hn h
theorem lsh_as (hn : 0 ≤ j) (hsz : (Builtin.Int.intBits i : Int) + j ≤ 2 ^ 27) (e : i * 2 ^ j.toNat = y) (h : Q (.int y s.toks) { s with toks := s.toks + 1 }) : wpAny (model prog w) A (binaryOp .LShift (.int i t) (.int j u)) Q E s := by
  subst e; exact lshift_int hn hsz h
theorem xor_as (e : Builtin.bitXor i j = y) (h : Q (.int y s.toks) { s with toks := s.toks + 1 }) : wpAny (model prog w) A (binaryOp .BitXor (.int i t) (.int j u)) Q E s := by
  subst e; exact xor_int h
end
local macro_rules | `(tactic| walk_at "binaryOp RShift int int") => `(tactic| (refine' rsh_as ?hn ?he ?_; (case hn => first | assumption | decide); (case he => assumption)))
local macro_rules | `(tactic| walk_at "binaryOp LShift int int") => `(tactic| (refine' lsh_as ?hn ?hz ?he ?_; (case hn => first | assumption | decide); (case he => assumption); (case hz => assumption)))
local macro_rules | `(tactic| walk_at "binaryOp BitXor int int") => `(tactic| (refine' xor_as ?he ?_; (case he => assumption)))
theorem bits_nat {x m : Nat} (h : x < 2 ^ m) : Builtin.Int.intBits (x : Int) ≤ m := intBits_le_iff.mpr (by simpa using h)
set_option maxHeartbeats 8000000 in
theorem c_innerI {nm qual : Str} {params : Arguments} {body : List Stmt} {scope : Scope} {doc pm ctv : Value} {D f c' cN cI cA : Addr} {oc oN oI oA : Obj} {vC : Array Value} {tq tn : Tok}
    (hfd : some (nm, params, body, scope) = innerOf 8 1)
    (hoc : oc.data = .fields vC) (hvC : vC[1]? = some (.str qual tq)) (hoN : oN.data = .cell (some (.int 7 tn))) (hoI : oI.data = .cell (some (.ref f))) (hoA : oA.data = .cell (some (.ref D)))
    (hne : (@Ne Nat D f) ∧ (@Ne Nat D c') ∧ (@Ne Nat D cN) ∧ (@Ne Nat D cI) ∧ (@Ne Nat D cA)) (hnews : ∀ p ∈ news, p.1 ≠ D) (CH : CodeHd base 63 59) (k : Nat) :
    ∀ {dp un : Nat} {gd : Option (List Code)} {cn : Str} {cs : Scope} {a : Addr} {ccd : Value} {cl : List (Str × Addr)} {outer : List Env} {A₀ : Around} {h₀ : Heap} {L : Addr} {m : Str → Option Value} {s : Shared} {Q E : Value → Shared → Prop} {tx tl th : Tok} {vs : List Value} {ds : List Int} {e : Nat} {x lo hi : Nat}
    (B : Below A₀ base outer h₀) (F : Fr h₀ L s.heap m) (X : (Mine.hd.heap_39 w.params).In h₀)
    (N : News h₀ L s.heap ((D, W.listOf vs.toArray e) :: (f, fnMade nm qual params body scope [(Str.ofString "n", cN), (Str.ofString "inner", cI), (Str.ofString "a_digits", cA)] doc pm c' ctv) :: (c', oc) :: (cN, oN) :: (cI, oI) :: (cA, oA) :: news))
    (T : Top p loose mean mg mb h₀) (hcs : cs.kind = .function)
    (hints : IntsAre vs ds) (hk : hi - lo ≤ k) (h1 : lo < hi) (h2 : hi ≤ ds.length) (h3 : ds.length ≤ 30) (hx1 : x < 2 ^ (7 * (hi - lo)))
    (hd : dp + k + 1 < recursionLimit) (hu : un + 8 * (k + 1) < cLine)
    (hret : ∀ vs' e' h' tk', Fr h₀ L h' m → News h₀ L h' ((D, W.listOf vs'.toArray e') :: (f, fnMade nm qual params body scope [(Str.ofString "n", cN), (Str.ofString "inner", cI), (Str.ofString "a_digits", cA)] doc pm c' ctv) :: (c', oc) :: (cN, oN) :: (cI, oI) :: (cA, oA) :: news) →
      IntsAre vs' (upd ds lo hi x) → Q .none { s with heap := h', toks := tk' }),
    wpAny (model PySem.Challenge.rw_nb0216_01.row.prog w) (ktrTop dp un gd cn cs L a ccd cl outer) (call (.ref f) [.int (x : Int) tx, .int (lo : Int) tl, .int (hi : Int) th]) Q E s := by
  induction k with
  | zero => intros; omega
  | succ k ih =>
  intro dp un gd cn cs a ccd cl outer A₀ h₀ L m s Q E tx tl th vs ds e x lo hi B F X N T hcs hints hk h1 h2 h3 hx1 hd hu hret
  obtain ⟨mid, hmid⟩ : ∃ mid : Nat, mid = (lo + hi) / 2 := ⟨_, rfl⟩
  obtain ⟨sh, hsh⟩ : ∃ sh : Nat, sh = (mid - lo) * 7 := ⟨_, rfl⟩
  obtain ⟨up, hup⟩ : ∃ up : Nat, up = x / 2 ^ sh := ⟨_, rfl⟩
  obtain ⟨lw, hlw⟩ : ∃ lw : Nat, lw = x % 2 ^ sh := ⟨_, rfl⟩
  have eM : Int.fdiv ((lo : Int) + (hi : Int)) (2 ^ (1 : Int).toNat) = (mid : Int) := by
    have := rsh_nat (lo + hi) 1
    push_cast at this
    rw [hmid]
    exact this
  have eSn : (((mid : Int) - (lo : Int)) * 7).toNat = sh := by omega
  have eS0 : 0 ≤ ((mid : Int) - (lo : Int)) * 7 := by omega
  have eU : Int.fdiv (x : Int) (2 ^ (((mid : Int) - (lo : Int)) * 7).toNat) = (up : Int) := by rw [eSn, rsh_nat, hup]
  have eL : (up : Int) * 2 ^ (((mid : Int) - (lo : Int)) * 7).toNat = ((up * 2 ^ sh : Nat) : Int) := by rw [eSn, lsh_nat]
  have eX : Builtin.bitXor (x : Int) ((up * 2 ^ sh : Nat) : Int) = (lw : Int) := by rw [hup, hlw, xor_low]
  have eZ : (Builtin.Int.intBits (up : Int) : Int) + ((mid : Int) - (lo : Int)) * 7 ≤ 2 ^ 27 := by
    have hb : Builtin.Int.intBits (up : Int) ≤ 7 * (hi - lo) := bits_nat (Nat.lt_of_le_of_lt (by rw [hup]; exact Nat.div_le_self ..) hx1)
    have : (2 : Int) ^ 27 = 134217728 := by decide
    omega
  cases hfd
  refine wpAny_call ?_
  k_dflt (refine' code_nest ?k1 ?k2 ?k3 ?k4 ?k5 ?kA ?kF ?kK ?k6 ?k7 ?k8 ?k9 ?kB ?rest ?c2 ?c3 ?c4 ?c5)
  case kA => exact rfl
  case kF => exact rfl
  case kK => assumption
  case k1 => k_asm
  case k2 => k_asm
  case k3 => k_asm
  case k4 => k_asm
  case k5 => k_asm
  case k6 => k_mem
  case k7 => exact codeRec_news (by k_asm) (by k_mem) (by assumption) (by assumption)
  case k8 => ktr_room
  case k9 => exact BindsTo.of_eq rfl
  case c5 => decide
  case kB => exact locs rfl
  case c2 => exact rfl
  case c3 => exact rfl
  case c4 => exact rfl
  case rest =>
    intro g' L' h' FG' F' N' B' X' T'
    (try dsimp only); (try k_lift B'); (try k_fold)
    k_steps
    · have hhi : hi = lo + 1 := by omega
      have hx : x < 128 := by
        rw [hhi, show lo + 1 - lo = 1 by omega] at hx1
        exact hx1
      have heq : upd ds lo hi x = ds.set (lo : Int).toNat (x : Int) := by
        rw [hhi, Int.toNat_natCast]
        exact (upd_one (by omega) hx).symm
      refine hret _ _ _ _ (by assumption) (by assumption) ?_
      rw [heq]
      assumption
    · have hlt : lo + 1 < hi := by omega
      have hm1 : lo < mid := by omega
      have hm2 : mid < hi := by omega
      have esh : sh = 7 * (mid - lo) := by omega
      k_dflt (refine' ih ?B ?F ?X ?N ?T ?c ?I ?ik ?i1 ?i2 ?i3 ?ix ?id ?iu ?ret)
      case B => k_asm
      case F => k_asm
      case X => k_asm
      case N => k_asm
      case T => k_asm
      case c => exact rfl
      case I => assumption
      case ik => omega
      case i1 => exact hm1
      case i2 => omega
      case i3 => exact h3
      case ix => rw [hlw, esh]; exact Nat.mod_lt _ (Nat.two_pow_pos _)
      case id => ktr_room
      case iu => ktr_units
      case ret =>
        intro vs1 e1 h9 tk9 F9 N9 I9
        (try dsimp only); (try k_sweep); (try k_fold)
        k_steps
        have hl1 : (upd ds lo mid lw).length = ds.length := upd_length lw (by omega) (by omega)
        k_dflt (refine' ih ?B ?F ?X ?N ?T ?c ?I ?ik ?i1 ?i2 ?i3 ?ix ?id ?iu ?ret)
        case B => k_asm
        case F => k_asm
        case X => k_asm
        case N => k_asm
        case T => k_asm
        case c => exact rfl
        case I => exact I9
        case ik => omega
        case i1 => exact hm2
        case i2 => omega
        case i3 => omega
        case ix =>
          rw [hup]
          refine Nat.div_lt_of_lt_mul ?_
          rw [← Nat.pow_add]
          exact Nat.lt_of_lt_of_le hx1 (Nat.pow_le_pow_right (by decide) (by omega))
        case id => ktr_room
        case iu => ktr_units
        case ret =>
          intro vs2 e2 h8 tk8 F8 N8 I8
          (try dsimp only); (try k_sweep); (try k_fold)
          k_steps
          refine hret _ _ _ _ (by assumption) (by assumption) ?_
          have heq : upd (upd ds lo mid lw) mid hi up = upd ds lo hi x := by
            rw [hlw, hup, esh]
            exact upd_two (by omega) (by omega) h2
          rw [← heq]
          exact I8
end
end Mine
end

section
open PySem PySem.W PyProof.Rows Mine
local macro_rules | `(tactic| k_all) => `(tactic| first | assumption | exact allLt_ne (by assumption) (by omega))

section -- C10
open PySem PySem.W PyProof.Rows PySem.Calls PySem.NumText
set_option Elab.async false
set_option maxRecDepth 100000
namespace Mine
theorem fill10 : ∀ (w : World) (h : Heap), (Mine.hd.heap_39 w.params).In h → PySem.Challenge.rw_nb0216_01.row.prog = PySem.Challenge.rw_nb0216_01.row.prog := by
  k_fill; intros; rfl
/-- the table of a def's inner code: empty, or with the one code object -/
def Tab1 (P : Addr) (ln col : Nat) (qual : Str) (l : List (Addr × Obj)) : Prop :=
  l = [(P, tabObj #[])] ∨ ∃ c oc vs t, l = [(P, tabObj #[rawInt (ln : Int), rawInt (col : Int), .ref c]), (c, oc)] ∧ oc.data = .fields vs ∧ vs[1]? = some (.str qual t) ∧ (@LT.lt Nat _ 142 c)
theorem frame_gt {w : World} {h₀ h : Heap} {L : Addr} {m : Str → Option Value} (X : (Mine.hd.heap_39 w.params).In h₀) (F : Fr h₀ L h m) {o : Obj} (e : (Mine.hd.heap_39 w.params).lookup 142 = some o) : @LT.lt Nat _ 142 L :=
  Nat.lt_of_lt_of_le (Heap.lt_size (X _ _ e)) F.above
section
variable {prog : Program} {w : World} {A : Around} {E : Value → Shared → Prop} {s : Shared} {l : Addr} {vs : List Value} {n : Nat} {Q : Value → Shared → Prop}
theorem len_as (hl : s.heap.IsList l vs.toArray) (hn : vs.length = n) (hf : n ≤ 1000) (h : Q (.int (n : Int) (s.toks + 1)) { s with toks := s.toks + 1 + 1 }) : wpAny (model prog w) A (call (.builtin "len") [.ref l]) Q E s := by
  have e : vs.toArray.size = n := by rw [List.size_toArray, hn]
  refine len_list hl ?_ (by rw [e]; exact h)
  rw [e]
  have : (2 : Int) ^ 63 = 9223372036854775808 := by decide
  omega
end
theorem rep_e {k n : Nat} {v : Value} (h : k = n) : (List.replicate k [v]).flatten = List.replicate n v := by
  subst h; exact lm_rep_flat_one v k
theorem rep_ints (t : Tok) : ∀ n : Nat, IntsAre (List.replicate n (Value.int 0 t)) (List.replicate n 0)
  | 0 => .nil
  | n + 1 => .cons 0 t (rep_ints t n)
theorem reorderA {h₀ h : Heap} {L : Addr} {a b c d e f g : Addr × Obj} {r : List (Addr × Obj)} (N : News h₀ L h (a :: b :: c :: d :: e :: f :: g :: r)) : News h₀ L h (c :: a :: b :: g :: e :: f :: d :: r) :=
  cb_drop N fun p hp => by simp only [List.mem_cons] at hp ⊢; grind
theorem reorderB {h₀ h : Heap} {L : Addr} {a b c d e f g i : Addr × Obj} {r : List (Addr × Obj)} (N : News h₀ L h (a :: c :: d :: e :: f :: g :: i :: b :: r)) : News h₀ L h (c :: a :: b :: g :: e :: f :: d :: i :: r) :=
  cb_drop N fun p hp => by simp only [List.mem_cons] at hp ⊢; grind
theorem finishI {h₀ h : Heap} {L D c P : Addr} {o oc : Obj} {f cN cI cA l : Addr × Obj} {ln col : Nat} {qual : Str} {vs : Array Value} {t : Tok} {news : List (Addr × Obj)}
    (N : News h₀ L h ((D, o) :: f :: (c, oc) :: cN :: cI :: cA :: l :: (P, tabObj #[rawInt (ln : Int), rawInt (col : Int), .ref c]) :: news)) (h1 : oc.data = .fields vs) (h2 : vs[1]? = some (.str qual t)) (h3 : @LT.lt Nat _ 142 c) :
    ∃ tb', Tab1 P ln col qual tb' ∧ News h₀ L h ((D, o) :: (tb' ++ news)) :=
  ⟨[(P, tabObj #[rawInt (ln : Int), rawInt (col : Int), .ref c]), (c, oc)], Or.inr ⟨c, oc, vs, t, rfl, h1, h2, h3⟩, cb_drop N fun p hp => by simp only [List.mem_cons, List.cons_append, List.nil_append] at hp ⊢; grind⟩
theorem allLt_mem {d : Nat} : ∀ {l : List (Addr × Obj)}, AllLt d l → ∀ p ∈ l, p.1 < d
  | [], _, _, h => nomatch h
  | _ :: _, x, p, h => by
    rcases List.mem_cons.mp h with rfl | h
    · exact x.1
    · exact allLt_mem x.2 p h
/-- how many figures to base 128 -/
def ndig (i : Nat) : Nat := (Builtin.Int.intBits (i : Int) + 6) / 7
theorem ndig_n (i : Nat) : (Int.fdiv (((Builtin.Int.intBits (i : Int) : Nat) : Int) + 7 - 1) 7).toNat = ndig i := by
  unfold ndig
  rw [Int.fdiv_eq_ediv_of_nonneg _ (by decide)]; omega
theorem bits100 {i : Nat} (h1 : i < 2 ^ 100) : Builtin.Int.intBits (i : Int) ≤ 100 := bits_nat h1
theorem ndig_le {i : Nat} (h1 : i < 2 ^ 100) : ndig i ≤ 15 := by
  have := bits100 h1
  unfold ndig; omega
theorem ndig_b {i : Nat} (h1 : i < 2 ^ 100) : -(2 ^ 63 : Int) ≤ Int.fdiv (((Builtin.Int.intBits (i : Int) : Nat) : Int) + 7 - 1) 7 ∧ Int.fdiv (((Builtin.Int.intBits (i : Int) : Nat) : Int) + 7 - 1) 7 < 2 ^ 63 := by
  have := bits100 h1
  rw [Int.fdiv_eq_ediv_of_nonneg _ (by decide)]; omega
theorem ndig_z {i : Nat} {v : Value} (h1 : i < 2 ^ 100) : [v].length * ndig i ≤ 256 := by
  have := ndig_le h1
  simp only [List.length_cons, List.length_nil]; omega
theorem ndig_lt (i : Nat) : i < 2 ^ (7 * ndig i) := by
  have h := (intBits_le_iff (m := 7 * ndig i) (x := (i : Int))).mp (by unfold ndig; omega)
  simpa using h
theorem ndig_pos {i : Nat} (h : i ≠ 0) : 0 < ndig i := by
  rcases Nat.eq_zero_or_pos (ndig i) with e | e
  · have := ndig_lt i
    rw [e] at this
    omega
  · exact e
theorem ndig_zero : ndig 0 = 0 := by decide
theorem upd_all {i : Nat} : upd (List.replicate (ndig i) 0) 0 (ndig i) i = digs (ndig i) i := by
  unfold upd
  simp
section
variable {w : World} {p : Program} {loose : List Str} {mean : ExcName → Option Value} {mg mb : Str → Option Value} {dp un : Nat} {gd : Option (List Code)} {cn : Str} {cs : Scope} {a : Addr} {ccd : Value} {cl : List (Str × Addr)} {outer : List Env} {A₀ : Around} {base h₀ : Heap} {L : Addr} {m : Str → Option Value} {s : Shared} {Q E : Value → Shared → Prop} {news : List (Addr × Obj)}
set_option maxHeartbeats 8000000 in
theorem c_int2digits {i : Nat} {t tn : Tok} {tb : List (Addr × Obj)} (B : Below A₀ base outer h₀) (F : Fr h₀ L s.heap m) (X : (Mine.hd.heap_39 w.params).In h₀) (CH : CodeHd base 63 59) (htab : Tab1 59 89 4 (Str.ofString "_int2digits.<locals>.inner") tb) (N : News h₀ L s.heap (tb ++ news)) (T : Top p loose mean mg mb h₀) (hcs : cs.kind = .function)
    (hnw : ∀ p ∈ news, p.1 ≠ 59) (hd : dp + 40 < recursionLimit) (hu : un + 400 < cLine) (h1 : i < 2 ^ 100)
    (hret : ∀ D vs e tb' h' tk', Fr h₀ L h' m → News h₀ L h' ((D, W.listOf vs.toArray e) :: (tb' ++ news)) → Tab1 59 89 4 (Str.ofString "_int2digits.<locals>.inner") tb' → IntsAre vs (digs (ndig i) i) → (@LT.lt Nat _ 142 D) → (∀ p ∈ news, p.1 < D) → Q (.ref D) { s with heap := h', toks := tk' }) :
    wpAny (model PySem.Challenge.rw_nb0216_01.row.prog w) (ktrTop dp un gd cn cs L a ccd cl outer) (call (.ref 64) [.int (i : Int) t, .int 7 tn]) Q E s := by
  have hgt := ndig_le h1
  rcases htab with rfl | ⟨cT, ocT, vT, tT, rfl, hocT, hvT, hcT⟩
  · refine wpAny_call ?_
    simp only [List.cons_append, List.nil_append] at N
    k_dflt (first | (refine' code_defC ?k1 ?k2 ?k3 ?k4 ?k5 ?kA ?kF ?kK ?k6 ?k7 ?k8 ?k9 ?kB ?kD ?_ ?c2 ?c3 ?c4; (case kA => exact rfl); (case kF => exact rfl); (case kK => assumption); (case k1 => k_asm); (case k2 => k_asm); (case k3 => k_asm); (case k4 => k_asm); (case k5 => k_asm); (case k6 => k_is); (case k7 => k_is); (case k8 => ktr_room); (case k9 => first | exact BindsTo.of_eq rfl | exact binds_K (by k_in) rfl (by k_is) rfl rfl rfl); (case kB => exact rfl); (case kD => decide +kernel); (case c2 => exact rfl); (case c3 => exact rfl); (case c4 => exact rfl); k_whole; intro g' L' h' tk' cells' FG' F' N' Y' B' X' T' l1; (try k_lt l1); k_cells Y'; (try simp only [List.cons_append, List.nil_append] at N'); (try dsimp only); (try k_lift B'); (try k_fold)) | cell_enter)
    rename _ ∧ AllLt _ news => l9
    have hAll := l9.2
    have hL := frame_gt (by assumption) (by assumption) (by k_is)
    k_steps
    k_dflt (refine' KMa.mul (ws := List.replicate (ndig i) _) ?F ?N ?l ?lo ?hi ?z ?e ?rest)
    case F => k_asm
    case N => k_asm
    case l => is_list
    case e => exact rep_e (ndig_n i)
    case lo => exact (ndig_b h1).1
    case hi => exact (ndig_b h1).2
    case z => rw [ndig_n i]; exact ndig_z h1
    case rest =>
      intro D' h' F' N' l1
      (try k_lt l1)
      (try k_sweep)
      dsimp only
      k_steps
      · k_dflt (refine' len_as (n := ndig i) ?l ?ln ?lf ?rest)
        case l => is_list
        case ln => exact List.length_replicate
        case lf => omega
        case rest =>
          k_steps
          rename News _ _ _ _ => N9
          have N8 := reorderA N9
          simp only [Array.empty_append] at N8
          k_dflt (refine' c_innerI (lo := 0) ?hfd ?hoc ?hvC ?hoN ?hoI ?hoA ?hne ?hnews CH (ndig i) ?B ?F ?X N8 ?T ?cc ?hints ?hk ?hl ?h2 ?h3 ?hx1 ?hd ?hu ?ret)
          case hfd => rfl
          case hoc => assumption
          case hvC => assumption
          case hoN => assumption
          case hoI => assumption
          case hoA => assumption
          case hne => omega
          case hnews =>
            refine List.forall_mem_cons.mpr ⟨by k_ne, ?_⟩
            refine List.forall_mem_cons.mpr ⟨by k_ne, ?_⟩
            exact allLt_ne (by assumption) (by omega)
          case B => k_asm
          case F => k_asm
          case X => k_asm
          case T => k_asm
          case cc => exact rfl
          case hints => exact rep_ints _ _
          case hk => omega
          case hl => exact ndig_pos (by omega)
          case h2 => exact Nat.le_of_eq List.length_replicate.symm
          case h3 => rw [List.length_replicate]; omega
          case hx1 => exact ndig_lt i
          case hd => ktr_room
          case hu => ktr_units
          case ret =>
            intro vs1 e1 h9 tk9 F9 N9 I9
            (try dsimp only); (try k_sweep); (try k_fold)
            k_steps
            rename News h₀ L _ _ => N7
            obtain ⟨tb', hT, hN⟩ := finishI N7 (by assumption) (by assumption) (by omega)
            exact hret D' vs1 e1 tb' _ _ (by assumption) hN hT (by rw [← upd_all]; exact I9) (by omega) (allLt_mem l1.2.2.2.2.2)
      · rename News h₀ L _ _ => N7
        simp only [Array.empty_append] at N7
        have hi0 : i = 0 := by omega
        obtain ⟨tb', hT, hN⟩ := finishI (reorderA N7) (by assumption) (by assumption) (by omega)
        exact hret D' _ _ tb' _ _ (by assumption) hN hT (by rw [hi0, ndig_zero]; exact .nil) (by omega) (allLt_mem l1.2.2.2.2.2)
  · refine wpAny_call ?_
    simp only [List.cons_append, List.nil_append] at N
    k_dflt (first | (refine' code_defC ?k1 ?k2 ?k3 ?k4 ?k5 ?kA ?kF ?kK ?k6 ?k7 ?k8 ?k9 ?kB ?kD ?_ ?c2 ?c3 ?c4; (case kA => exact rfl); (case kF => exact rfl); (case kK => assumption); (case k1 => k_asm); (case k2 => k_asm); (case k3 => k_asm); (case k4 => k_asm); (case k5 => k_asm); (case k6 => k_is); (case k7 => k_is); (case k8 => ktr_room); (case k9 => first | exact BindsTo.of_eq rfl | exact binds_K (by k_in) rfl (by k_is) rfl rfl rfl); (case kB => exact rfl); (case kD => decide +kernel); (case c2 => exact rfl); (case c3 => exact rfl); (case c4 => exact rfl); k_whole; intro g' L' h' tk' cells' FG' F' N' Y' B' X' T' l1; (try k_lt l1); k_cells Y'; (try simp only [List.cons_append, List.nil_append] at N'); (try dsimp only); (try k_lift B'); (try k_fold)) | cell_enter)
    rename _ ∧ _ ∧ AllLt _ news => l9
    have hAll := l9.2.2
    have hL := frame_gt (by assumption) (by assumption) (by k_is)
    k_steps
    k_dflt (refine' KMa.mul (ws := List.replicate (ndig i) _) ?F ?N ?l ?lo ?hi ?z ?e ?rest)
    case F => k_asm
    case N => k_asm
    case l => is_list
    case e => exact rep_e (ndig_n i)
    case lo => exact (ndig_b h1).1
    case hi => exact (ndig_b h1).2
    case z => rw [ndig_n i]; exact ndig_z h1
    case rest =>
      intro D' h' F' N' l1
      (try k_lt l1)
      (try k_sweep)
      dsimp only
      k_steps
      · k_dflt (refine' len_as (n := ndig i) ?l ?ln ?lf ?rest)
        case l => is_list
        case ln => exact List.length_replicate
        case lf => omega
        case rest =>
          k_steps
          rename News _ _ _ _ => N9
          have N8 := reorderB N9
          k_dflt (refine' c_innerI (lo := 0) ?hfd ?hoc ?hvC ?hoN ?hoI ?hoA ?hne ?hnews CH (ndig i) ?B ?F ?X N8 ?T ?cc ?hints ?hk ?hl ?h2 ?h3 ?hx1 ?hd ?hu ?ret)
          case hfd => rfl
          case hoc => assumption
          case hvC => assumption
          case hoN => assumption
          case hoI => assumption
          case hoA => assumption
          case hne => omega
          case hnews =>
            refine List.forall_mem_cons.mpr ⟨by k_ne, ?_⟩
            refine List.forall_mem_cons.mpr ⟨by k_ne, ?_⟩
            exact allLt_ne (by assumption) (by omega)
          case B => k_asm
          case F => k_asm
          case X => k_asm
          case T => k_asm
          case cc => exact rfl
          case hints => exact rep_ints _ _
          case hk => omega
          case hl => exact ndig_pos (by omega)
          case h2 => exact Nat.le_of_eq List.length_replicate.symm
          case h3 => rw [List.length_replicate]; omega
          case hx1 => exact ndig_lt i
          case hd => ktr_room
          case hu => ktr_units
          case ret =>
            intro vs1 e1 h9 tk9 F9 N9 I9
            (try dsimp only); (try k_sweep); (try k_fold)
            k_steps
            rename News h₀ L _ _ => N7
            obtain ⟨tb', hT, hN⟩ := finishI N7 (by assumption) (by assumption) (by omega)
            exact hret D' vs1 e1 tb' _ _ (by assumption) hN hT (by rw [← upd_all]; exact I9) (by omega) (allLt_mem l1.2.2.2.2.2.2)
      · rename News h₀ L _ _ => N7
        have hi0 : i = 0 := by omega
        obtain ⟨tb', hT, hN⟩ := finishI (reorderB N7) (by assumption) (by assumption) (by omega)
        exact hret D' _ _ tb' _ _ (by assumption) hN hT (by rw [hi0, ndig_zero]; exact .nil) (by omega) (allLt_mem l1.2.2.2.2.2.2)
end
end Mine
end

section -- C11
open PySem PySem.W PyProof.Rows PySem.Calls PySem.NumText
set_option Elab.async false
set_option maxRecDepth 100000
namespace Mine
theorem fill11 : ∀ (w : World) (h : Heap), (Mine.hd.heap_39 w.params).In h → PySem.Challenge.rw_nb0216_01.row.prog = PySem.Challenge.rw_nb0216_01.row.prog := by
  k_fill; intros; rfl
section
variable {w : World} {p : Program} {loose : List Str} {mean : ExcName → Option Value} {mg mb : Str → Option Value} {dp un : Nat} {gd : Option (List Code)} {cn : Str} {cs : Scope} {a : Addr} {ccd : Value} {cl : List (Str × Addr)} {outer : List Env} {A₀ : Around} {base h₀ : Heap} {L : Addr} {m : Str → Option Value} {s : Shared} {Q E : Value → Shared → Prop} {news : List (Addr × Obj)}
local macro_rules | `(tactic| walk_at "binaryOp RShift int int") => `(tactic| (refine' rsh_as ?hn ?he ?_; (case hn => first | assumption | decide); (case he => assumption)))
local macro_rules | `(tactic| walk_at "binaryOp LShift int int") => `(tactic| (refine' lsh_as ?hn ?hz ?he ?_; (case hn => first | assumption | decide); (case he => assumption); (case hz => assumption)))
set_option maxHeartbeats 8000000 in
theorem c_innerD {nm qual : Str} {params : Arguments} {body : List Stmt} {scope : Scope} {doc pm ctv : Value} {D f c' cN cI cA : Addr} {oc oN oI oA : Obj} {vC : Array Value} {tq tn : Tok} {vs : List Value} {qs : List Nat} {e : Nat}
    (hfd : some (nm, params, body, scope) = innerOf 9 0)
    (hoc : oc.data = .fields vC) (hvC : vC[1]? = some (.str qual tq)) (hoN : oN.data = .cell (some (.int 7 tn))) (hoI : oI.data = .cell (some (.ref f))) (hoA : oA.data = .cell (some (.ref D)))
    (CH : CodeHd base 70 66) (hints : IntsAre vs (qs.map fun (q : Nat) => (q : Int))) (hq : ∀ q ∈ qs, q < 128) (h3 : qs.length ≤ 30) (k : Nat) :
    ∀ {dp un : Nat} {gd : Option (List Code)} {cn : Str} {cs : Scope} {a : Addr} {ccd : Value} {cl : List (Str × Addr)} {outer : List Env} {A₀ : Around} {h₀ : Heap} {L : Addr} {m : Str → Option Value} {s : Shared} {Q E : Value → Shared → Prop} {tl th : Tok} {lo hi : Nat}
    (B : Below A₀ base outer h₀) (F : Fr h₀ L s.heap m) (X : (Mine.hd.heap_39 w.params).In h₀)
    (N : News h₀ L s.heap ((D, W.listOf vs.toArray e) :: (f, fnMade nm qual params body scope [(Str.ofString "n", cN), (Str.ofString "inner", cI), (Str.ofString "digits", cA)] doc pm c' ctv) :: (c', oc) :: (cN, oN) :: (cI, oI) :: (cA, oA) :: news))
    (T : Top p loose mean mg mb h₀) (hcs : cs.kind = .function)
    (hk : hi - lo ≤ k) (h1 : lo < hi) (h2 : hi ≤ qs.length)
    (hd : dp + k + 1 < recursionLimit) (hu : un + 8 * (k + 1) < cLine)
    (hret : ∀ t' h' tk', Fr h₀ L h' m → News h₀ L h' ((D, W.listOf vs.toArray e) :: (f, fnMade nm qual params body scope [(Str.ofString "n", cN), (Str.ofString "inner", cI), (Str.ofString "digits", cA)] doc pm c' ctv) :: (c', oc) :: (cN, oN) :: (cI, oI) :: (cA, oA) :: news) →
      Q (.int ((valN (part qs lo hi) : Nat) : Int) t') { s with heap := h', toks := tk' }),
    wpAny (model PySem.Challenge.rw_nb0216_01.row.prog w) (ktrTop dp un gd cn cs L a ccd cl outer) (call (.ref f) [.int (lo : Int) tl, .int (hi : Int) th]) Q E s := by
  induction k with
  | zero => intros; omega
  | succ k ih =>
  intro dp un gd cn cs a ccd cl outer A₀ h₀ L m s Q E tl th lo hi B F X N T hcs hk h1 h2 hd hu hret
  obtain ⟨mid, hmid⟩ : ∃ mid : Nat, mid = (lo + hi) / 2 := ⟨_, rfl⟩
  obtain ⟨sh, hsh⟩ : ∃ sh : Nat, sh = (mid - lo) * 7 := ⟨_, rfl⟩
  obtain ⟨up, hup⟩ : ∃ up : Nat, up = valN (part qs mid hi) := ⟨_, rfl⟩
  have eM : Int.fdiv ((lo : Int) + (hi : Int)) (2 ^ (1 : Int).toNat) = (mid : Int) := by
    have := rsh_nat (lo + hi) 1
    push_cast at this
    rw [hmid]
    exact this
  have eSn : (((mid : Int) - (lo : Int)) * 7).toNat = sh := by omega
  have eS0 : 0 ≤ ((mid : Int) - (lo : Int)) * 7 := by omega
  have eL : (up : Int) * 2 ^ (((mid : Int) - (lo : Int)) * 7).toNat = ((up * 2 ^ sh : Nat) : Int) := by rw [eSn, lsh_nat]
  have eZ : (Builtin.Int.intBits (up : Int) : Int) + ((mid : Int) - (lo : Int)) * 7 ≤ 2 ^ 27 := by
    have hb : Builtin.Int.intBits (up : Int) ≤ 7 * (hi - mid) := bits_nat (by
      rw [hup]
      have := valN_lt (part qs mid hi) fun d hd => hq d (part_mem hd)
      rw [part_length qs (by omega) h2] at this
      exact this)
    have : (2 : Int) ^ 27 = 134217728 := by decide
    omega
  cases hfd
  refine wpAny_call ?_
  k_dflt (refine' code_nest ?k1 ?k2 ?k3 ?k4 ?k5 ?kA ?kF ?kK ?k6 ?k7 ?k8 ?k9 ?kB ?rest ?c2 ?c3 ?c4 ?c5)
  case kA => exact rfl
  case kF => exact rfl
  case kK => assumption
  case k1 => k_asm
  case k2 => k_asm
  case k3 => k_asm
  case k4 => k_asm
  case k5 => k_asm
  case k6 => k_mem
  case k7 => exact codeRec_news (by k_asm) (by k_mem) (by assumption) (by assumption)
  case k8 => ktr_room
  case k9 => exact BindsTo.of_eq rfl
  case c5 => decide
  case kB => exact locs rfl
  case c2 => exact rfl
  case c3 => exact rfl
  case c4 => exact rfl
  case rest =>
    intro g' L' h' FG' F' N' B' X' T'
    (try dsimp only); (try k_lift B'); (try k_fold)
    k_steps
    · have hhi : hi = lo + 1 := by omega
      have hv : (qs.map fun (q : Nat) => (q : Int)).getD (lo : Int).toNat 0 = ((valN (part qs lo hi) : Nat) : Int) := by
        rw [hhi, part_one qs (by omega), Int.toNat_natCast, List.getD_eq_getElem?_getD, List.getD_eq_getElem?_getD, List.getElem?_map, List.getElem?_eq_getElem (by omega)]
        rfl
      rw [hv]
      exact hret _ _ _ (by assumption) (by assumption)
    · have hm1 : lo < mid := by omega
      have hm2 : mid < hi := by omega
      have esh : sh = 7 * (mid - lo) := by omega
      k_dflt (refine' ih ?B ?F ?X ?N ?T ?c ?ik ?i1 ?i2 ?id ?iu ?ret)
      case B => k_asm
      case F => k_asm
      case X => k_asm
      case N => k_asm
      case T => k_asm
      case c => exact rfl
      case ik => omega
      case i1 => exact hm2
      case i2 => omega
      case id => ktr_room
      case iu => ktr_units
      case ret =>
        intro t9 h9 tk9 F9 N9
        rw [← hup]
        (try dsimp only); (try k_sweep); (try k_fold)
        k_steps
        k_dflt (refine' ih ?B ?F ?X ?N ?T ?c ?ik ?i1 ?i2 ?id ?iu ?ret)
        case B => k_asm
        case F => k_asm
        case X => k_asm
        case N => k_asm
        case T => k_asm
        case c => exact rfl
        case ik => omega
        case i1 => exact hm1
        case i2 => omega
        case id => ktr_room
        case iu => ktr_units
        case ret =>
          intro t8 h8 tk8 F8 N8
          (try dsimp only); (try k_sweep); (try k_fold)
          k_steps
          have hv : ((up * 2 ^ sh : Nat) : Int) + ((valN (part qs lo mid) : Nat) : Int) = ((valN (part qs lo hi) : Nat) : Int) := by
            rw [part_split qs (by omega : lo ≤ mid) (by omega : mid ≤ hi), valN_append, part_length qs (by omega) (by omega), ← esh, ← hup, Nat.mul_comm]
            push_cast
            omega
          rw [hv]
          exact hret _ _ _ (by assumption) (by assumption)
theorem reorderC {h₀ h : Heap} {L : Addr} {a b d e f g t : Addr × Obj} {r : List (Addr × Obj)} (N : News h₀ L h (a :: b :: e :: f :: g :: t :: d :: r)) : News h₀ L h (d :: a :: b :: f :: e :: g :: t :: r) :=
  cb_drop N fun p hp => by simp only [List.mem_cons] at hp ⊢; grind
theorem reorderD {h₀ h : Heap} {L : Addr} {a b d e f g t : Addr × Obj} {r : List (Addr × Obj)} (N : News h₀ L h (a :: e :: f :: g :: t :: b :: d :: r)) : News h₀ L h (d :: a :: b :: f :: e :: g :: t :: r) :=
  cb_drop N fun p hp => by simp only [List.mem_cons] at hp ⊢; grind
theorem finishD {h₀ h : Heap} {L D c P : Addr} {o oc : Obj} {f cN cI cA : Addr × Obj} {ln col : Nat} {qual : Str} {vs : Array Value} {t : Tok} {news : List (Addr × Obj)}
    (N : News h₀ L h ((D, o) :: f :: (c, oc) :: cN :: cI :: cA :: (P, tabObj #[rawInt (ln : Int), rawInt (col : Int), .ref c]) :: news)) (h1 : oc.data = .fields vs) (h2 : vs[1]? = some (.str qual t)) (h3 : @LT.lt Nat _ 142 c) :
    ∃ tb', Tab1 P ln col qual tb' ∧ News h₀ L h (tb' ++ (D, o) :: news) :=
  ⟨[(P, tabObj #[rawInt (ln : Int), rawInt (col : Int), .ref c]), (c, oc)], Or.inr ⟨c, oc, vs, t, rfl, h1, h2, h3⟩, cb_drop N fun p hp => by simp only [List.mem_cons, List.cons_append, List.nil_append] at hp ⊢; grind⟩
set_option maxHeartbeats 8000000 in
theorem c_digits2int {Dq : Addr} {vs : List Value} {qs : List Nat} {e : Nat} {tn : Tok} {tb : List (Addr × Obj)} (B : Below A₀ base outer h₀) (F : Fr h₀ L s.heap m) (X : (Mine.hd.heap_39 w.params).In h₀) (CH : CodeHd base 70 66) (htab : Tab1 66 104 4 (Str.ofString "_digits2int.<locals>.inner") tb) (N : News h₀ L s.heap (tb ++ (Dq, W.listOf vs.toArray e) :: news)) (T : Top p loose mean mg mb h₀) (hcs : cs.kind = .function)
    (hDq : (@LT.lt Nat _ 142 Dq)) (hnw : ∀ p ∈ news, p.1 ≠ 66) (hd : dp + 40 < recursionLimit) (hu : un + 400 < cLine) (hI : IntsAre vs (qs.map fun (q : Nat) => (q : Int))) (hq : ∀ q ∈ qs, q < 128) (hl : qs.length ≤ 30)
    (hret : ∀ t tb' h' tk', Fr h₀ L h' m → News h₀ L h' (tb' ++ (Dq, W.listOf vs.toArray e) :: news) → Tab1 66 104 4 (Str.ofString "_digits2int.<locals>.inner") tb' → Q (.int ((valN qs : Nat) : Int) t) { s with heap := h', toks := tk' }) :
    wpAny (model PySem.Challenge.rw_nb0216_01.row.prog w) (ktrTop dp un gd cn cs L a ccd cl outer) (call (.ref 71) [.ref Dq, .int 7 tn]) Q E s := by
  rcases htab with rfl | ⟨cT, ocT, vT, tT, rfl, hocT, hvT, hcT⟩
  · refine wpAny_call ?_
    simp only [List.cons_append, List.nil_append] at N
    k_dflt (first | (refine' code_defC ?k1 ?k2 ?k3 ?k4 ?k5 ?kA ?kF ?kK ?k6 ?k7 ?k8 ?k9 ?kB ?kD ?_ ?c2 ?c3 ?c4; (case kA => exact rfl); (case kF => exact rfl); (case kK => assumption); (case k1 => k_asm); (case k2 => k_asm); (case k3 => k_asm); (case k4 => k_asm); (case k5 => k_asm); (case k6 => k_is); (case k7 => k_is); (case k8 => ktr_room); (case k9 => first | exact BindsTo.of_eq rfl | exact binds_K (by k_in) rfl (by k_is) rfl rfl rfl); (case kB => exact rfl); (case kD => decide +kernel); (case c2 => exact rfl); (case c3 => exact rfl); (case c4 => exact rfl); k_whole; intro g' L' h' tk' cells' FG' F' N' Y' B' X' T' l1; (try k_lt l1); k_cells Y'; (try simp only [List.cons_append, List.nil_append] at N'); (try dsimp only); (try k_lift B'); (try k_fold)) | cell_enter)
    rename _ ∧ _ ∧ AllLt _ news => l9
    have hAll := l9.2.2
    have hL := frame_gt (by assumption) (by assumption) (by k_is)
    k_steps
    · rename News _ _ _ _ => N9
      have N8 := reorderC N9
      simp only [Array.empty_append] at N8
      simp only [List.length_map]
      k_dflt (refine' c_innerD (lo := 0) (hi := qs.length) ?hfd ?hoc ?hvC ?hoN ?hoI ?hoA CH hI hq hl qs.length ?B ?F ?X N8 ?T ?cc ?hk ?hl ?h2 ?hd ?hu ?ret)
      case hfd => rfl
      case hoc => assumption
      case hvC => assumption
      case hoN => assumption
      case hoI => assumption
      case hoA => assumption
      case B => k_asm
      case F => k_asm
      case X => k_asm
      case T => k_asm
      case cc => exact rfl
      case hk => omega
      case hl => rename 0 < _ => h9; simpa using h9
      case h2 => exact Nat.le_refl _
      case hd => ktr_room
      case hu => ktr_units
      case ret =>
        intro t9 h9 tk9 F9 N9
        (try dsimp only); (try k_sweep); (try k_fold)
        k_steps
        rename News h₀ L _ _ => N7
        obtain ⟨tb', hT, hN⟩ := finishD N7 (by assumption) (by assumption) (by omega)
        rw [part_all]
        exact hret _ tb' _ _ (by assumption) hN hT
    · rename News h₀ L _ _ => N7
      simp only [Array.empty_append] at N7
      have hq0 : qs = [] := by
        cases qs with
        | nil => rfl
        | cons q r => exfalso; simp at *
      obtain ⟨tb', hT, hN⟩ := finishD (reorderC N7) (by assumption) (by assumption) (by omega)
      subst hq0
      exact hret _ tb' _ _ (by assumption) hN hT
  · refine wpAny_call ?_
    simp only [List.cons_append, List.nil_append] at N
    k_dflt (first | (refine' code_defC ?k1 ?k2 ?k3 ?k4 ?k5 ?kA ?kF ?kK ?k6 ?k7 ?k8 ?k9 ?kB ?kD ?_ ?c2 ?c3 ?c4; (case kA => exact rfl); (case kF => exact rfl); (case kK => assumption); (case k1 => k_asm); (case k2 => k_asm); (case k3 => k_asm); (case k4 => k_asm); (case k5 => k_asm); (case k6 => k_is); (case k7 => k_is); (case k8 => ktr_room); (case k9 => first | exact BindsTo.of_eq rfl | exact binds_K (by k_in) rfl (by k_is) rfl rfl rfl); (case kB => exact rfl); (case kD => decide +kernel); (case c2 => exact rfl); (case c3 => exact rfl); (case c4 => exact rfl); k_whole; intro g' L' h' tk' cells' FG' F' N' Y' B' X' T' l1; (try k_lt l1); k_cells Y'; (try simp only [List.cons_append, List.nil_append] at N'); (try dsimp only); (try k_lift B'); (try k_fold)) | cell_enter)
    rename _ ∧ _ ∧ _ ∧ AllLt _ news => l9
    have hAll := l9.2.2.2
    have hL := frame_gt (by assumption) (by assumption) (by k_is)
    k_steps
    · rename News _ _ _ _ => N9
      have N8 := reorderD N9
      simp only [List.length_map]
      k_dflt (refine' c_innerD (lo := 0) (hi := qs.length) ?hfd ?hoc ?hvC ?hoN ?hoI ?hoA CH hI hq hl qs.length ?B ?F ?X N8 ?T ?cc ?hk ?hl ?h2 ?hd ?hu ?ret)
      case hfd => rfl
      case hoc => assumption
      case hvC => assumption
      case hoN => assumption
      case hoI => assumption
      case hoA => assumption
      case B => k_asm
      case F => k_asm
      case X => k_asm
      case T => k_asm
      case cc => exact rfl
      case hk => omega
      case hl => rename 0 < _ => h9; simpa using h9
      case h2 => exact Nat.le_refl _
      case hd => ktr_room
      case hu => ktr_units
      case ret =>
        intro t9 h9 tk9 F9 N9
        (try dsimp only); (try k_sweep); (try k_fold)
        k_steps
        rename News h₀ L _ _ => N7
        obtain ⟨tb', hT, hN⟩ := finishD N7 (by assumption) (by assumption) (by omega)
        rw [part_all]
        exact hret _ tb' _ _ (by assumption) hN hT
    · rename News h₀ L _ _ => N7
      have hq0 : qs = [] := by
        cases qs with
        | nil => rfl
        | cons q r => exfalso; simp at *
      obtain ⟨tb', hT, hN⟩ := finishD (reorderD N7) (by assumption) (by assumption) (by omega)
      subst hq0
      exact hret _ tb' _ _ (by assumption) hN hT
end
end Mine
end

section -- P5
open PySem PySem.W PyProof.Rows PySem.Calls
set_option Elab.async false
namespace Mine
/-! plain: division figure by figure in base 128 -/
def digsN : Nat → Nat → List Nat
  | 0, _ => []
  | k + 1, x => (x % 128) :: digsN k (x / 128)
theorem digs_eq : ∀ k x, digs k x = (digsN k x).map fun (q : Nat) => (q : Int)
  | 0, _ => rfl
  | k + 1, x => by rw [digs, digsN, List.map_cons, digs_eq k]
theorem digsN_length : ∀ k x, (digsN k x).length = k
  | 0, _ => rfl
  | k + 1, x => by rw [digsN, List.length_cons, digsN_length]
theorem digsN_lt : ∀ k x, ∀ d ∈ digsN k x, d < 128
  | 0, _, d, h => nomatch h
  | k + 1, x, d, h => by
    rw [digsN] at h
    rcases List.mem_cons.mp h with rfl | h
    · exact Nat.mod_lt _ (by decide)
    · exact digsN_lt k _ d h
theorem valN_digsN : ∀ k x, x < 2 ^ (7 * k) → valN (digsN k x) = x
  | 0, x, h => by
    have : x = 0 := by simpa using h
    subst this; rfl
  | k + 1, x, h => by
    rw [show 7 * (k + 1) = 7 + 7 * k by omega, Nat.pow_add] at h
    have h2 : x < 128 * 2 ^ (7 * k) := h
    rw [digsN, valN, valN_digsN k (x / 128) (by omega)]
    omega
def big (l : List Nat) : Nat := l.foldl (fun a d => a * 128 + d) 0
theorem big_snoc (l : List Nat) (d : Nat) : big (l ++ [d]) = big l * 128 + d := by
  unfold big; rw [List.foldl_append]; rfl
theorem big_reverse : ∀ l : List Nat, big l.reverse = valN l
  | [] => rfl
  | d :: r => by rw [List.reverse_cons, big_snoc, big_reverse r, valN]; omega
def Div97 (pre : List Nat) (r : Nat) (qs : List Nat) : Prop :=
  r = big pre % 97 ∧ valN qs.reverse = big pre / 97 ∧ qs.length = pre.length ∧ ∀ q ∈ qs, q < 128
theorem Div97.start : Div97 [] 0 [] := ⟨rfl, rfl, rfl, fun _ h => nomatch h⟩
theorem Div97.next {pre : List Nat} {r d : Nat} {qs : List Nat} (h : Div97 pre r qs) (hd : d < 128) : Div97 (pre ++ [d]) ((r * 128 + d) % 97) (qs ++ [(r * 128 + d) / 97]) := by
  obtain ⟨h1, h2, h3, h4⟩ := h
  have hr : r < 97 := by rw [h1]; exact Nat.mod_lt _ (by decide)
  refine ⟨?_, ?_, ?_, ?_⟩
  · rw [big_snoc, h1]; omega
  · rw [List.reverse_append, List.reverse_cons, List.reverse_nil, List.nil_append, List.cons_append, List.nil_append, valN, h2, big_snoc, h1]
    generalize big pre = b
    omega
  · rw [List.length_append, List.length_append, h3]; rfl
  · intro q hq
    rcases List.mem_append.mp hq with hq | hq
    · exact h4 q hq
    · rw [List.mem_singleton.mp hq]; omega
end Mine
end

section -- C12
open PySem PySem.W PyProof.Rows PySem.Calls PySem.NumText
set_option Elab.async false
set_option maxRecDepth 100000
namespace Mine
theorem fill12 : ∀ (w : World) (h : Heap), (Mine.hd.heap_39 w.params).In h → PySem.Challenge.rw_nb0216_01.row.prog = PySem.Challenge.rw_nb0216_01.row.prog := by
  k_fill; intros; rfl
abbrev q59 : Str := Str.ofString "_int2digits.<locals>.inner"
abbrev q66 : Str := Str.ofString "_digits2int.<locals>.inner"
theorem offI_of {I : Addr} {it : Obj} : ∀ {l : List (Addr × Obj)}, (∀ p ∈ l, p.1 ≠ I) → OffI I it l
  | [], _ => trivial
  | _ :: _, h => ⟨.inl (h _ (List.mem_cons_self ..)), offI_of fun p hp => h p (List.mem_cons_of_mem _ hp)⟩
theorem tab_ne {P : Addr} {ln col : Nat} {q : Str} {l : List (Addr × Obj)} (h : Tab1 P ln col q l) : ∀ p ∈ l, p.1 = P ∨ (@LT.lt Nat _ 142 p.1) := by
  intro p hp
  rcases h with rfl | ⟨c, oc, vs, t, rfl, _, _, hc⟩
  · exact .inl (by rw [List.mem_singleton.mp hp])
  · rcases List.mem_cons.mp hp with rfl | hp
    · exact .inl rfl
    · rw [List.mem_singleton.mp hp]; exact .inr hc
section
variable {prog : Program} {w : World} {A : Around} {E : Value → Shared → Prop} {s : Shared} {env : Env} {h₀ : Heap} {x : Str} {body : List Stmt} {Q : Flow → Shared → Prop} {news : List (Addr × Obj)} {m₀ : Str → Option Value}
theorem call_bl97 {t : Tok} {Q : Value → Shared → Prop} (h : Q (.int 7 s.toks) { s with toks := s.toks + 1 }) : wpAny (model prog w) A (call (.builtin "int.bit_length") [.int 97 t]) Q E s := by
  refine call_int_bit_length ?_
  have e : ((Builtin.Int.intBits 97 : Nat) : Int) = 7 := by decide +kernel
  rw [e]
  exact h
/-- a loop over reversed(a list of naturals in the ledger), by an invariant over the frame's map and the ledger -/
theorem rev_loop {ax I : Addr} {va : List Value} {ds : List Nat} {ea : Nat} (Inv : List Nat → (Str → Option Value) → List (Addr × Obj) → Prop)
    (hh : A.handled = none) (F : Fr h₀ env.locals s.heap m₀) (N : News h₀ env.locals s.heap ((I, revObj ax ((va.length : Int) - 1)) :: news)) (hoff : ∀ p ∈ news, p.1 ≠ I) (hva : IntsAre va (ds.map fun (q : Nat) => (q : Int)))
    (hmem : ∀ pre m n, Inv pre m n → (ax, W.listOf va.toArray ea) ∈ n) (h0 : Inv [] m₀ news)
    (turn : ∀ pre d post t m n it h tk, ds.reverse = pre ++ d :: post → Inv pre m n → Fr h₀ env.locals h (fun y => if y = x then some (.int ((d : Nat) : Int) t) else m y) → News h₀ env.locals h ((I, it) :: n) →
      wpAny (model prog w) A (execs body env) (UnrPost h₀ env.locals { s with heap := h, toks := tk } I it (fun m' n' => Inv (pre ++ [d]) m' n') Q) E { s with heap := h, toks := tk })
    (done : ∀ m n h tk, Inv ds.reverse m n → Fr h₀ env.locals h m → News h₀ env.locals h n → Q .next { s with heap := h, toks := tk }) :
    wpAny (model prog w) A (pyIter (.ref I)) (fun it s₂ => LoopAtV prog w A h₀ env x body Q E it s₂) E s := by
  refine iter_revUnr (lo := W.listOf va.toArray ea) (n := ea) hh F N (offI_of hoff) (hmem _ _ _ h0) rfl rfl ?_
  have key : ∀ (vs' : List Value) (post pre : List Nat) (m : Str → Option Value) (n : List (Addr × Obj)), IntsAre vs' (post.map fun (q : Nat) => (q : Int)) → ds.reverse = pre ++ post → Inv pre m n →
      RevRest prog w A E h₀ env x body Q s I (ax, W.listOf va.toArray ea) vs' m n := by
    intro vs'
    induction vs' with
    | nil =>
      intro post pre m n hi he hI
      have hp : post = [] := by
        cases post with
        | nil => rfl
        | cons d r => cases hi
      subst hp
      rw [List.append_nil] at he
      rw [← he] at hI
      exact RevRest.zero fun h tk F1 N1 => done m n h tk hI F1 N1
    | cons v r ih =>
      intro post pre m n hi he hI
      cases post with
      | nil => cases hi
      | cons d post =>
        rw [List.map_cons] at hi
        cases hi with
        | cons _ t hi =>
        refine RevRest.succ fun it h tk _ F1 N1 => ?_
        refine wpAny_mono (turn pre d post t m n it h tk he hI F1 N1) (fun f s₂ hp => ?_) fun _ _ e => e
        have fin : UnrEnd h₀ env.locals { s with heap := h, toks := tk } I it (fun m' n' => Inv (pre ++ [d]) m' n') s₂ →
            UnrEnd h₀ env.locals { s with heap := h, toks := tk } I it (fun m' n' => (ax, W.listOf va.toArray ea) ∈ n' ∧ RevRest prog w A E h₀ env x body Q s I (ax, W.listOf va.toArray ea) r m' n') s₂ := by
          rintro ⟨h', tk', m', n', e, F', N', ho, hI'⟩
          exact ⟨h', tk', m', n', e, F', N', ho, hmem _ _ _ hI', ih post (pre ++ [d]) m' n' hi (by rw [he]; simp) hI'⟩
        cases f with
        | ret v => exact hp
        | brk => exact hp
        | next => exact fin hp
        | cont => exact fin hp
  exact key va.reverse ds.reverse [] m₀ news (by rw [List.map_reverse]; exact IntsAre.reverse hva) rfl h0
end
theorem fr_turn {h₀ h : Heap} {L : Addr} {m m₀ : Str → Option Value} {x yq yr : Str} {v vr : Value} (h1 : m yr = some vr) (h2 : ∀ z, z ≠ x → z ≠ yq → z ≠ yr → m z = m₀ z) (F : Fr h₀ L h (fun y => if y = x then some v else m y)) :
    Fr h₀ L h (fun y => if y = x then some v else if y = yr then some vr else if y = yq then m y else m₀ y) := by
  have e : (fun y => if y = x then some v else if y = yr then some vr else if y = yq then m y else m₀ y) = fun y => if y = x then some v else m y := by
    funext y
    by_cases a : y = x
    · simp only [if_pos a]
    · by_cases b : y = yr
      · simp only [if_neg a, if_pos b]; rw [b, h1]
      · by_cases c : y = yq
        · simp only [if_neg a, if_neg b, if_pos c]
        · simp only [if_neg a, if_neg b, if_neg c]; exact (h2 y a c b).symm
  rw [e]; exact F
theorem fr_done {h₀ h : Heap} {L : Addr} {m m₀ : Str → Option Value} {x yq yr : Str} {vr : Value} (h1 : m yr = some vr) (h2 : ∀ z, z ≠ x → z ≠ yq → z ≠ yr → m z = m₀ z) (F : Fr h₀ L h m) :
    Fr h₀ L h (fun y => if y = x then m y else if y = yr then some vr else if y = yq then m y else m₀ y) := by
  have e : (fun y => if y = x then m y else if y = yr then some vr else if y = yq then m y else m₀ y) = m := by
    funext y
    by_cases a : y = x
    · simp only [if_pos a]
    · by_cases b : y = yr
      · simp only [if_neg a, if_pos b]; rw [b, h1]
      · by_cases c : y = yq
        · simp only [if_neg a, if_neg b, if_pos c]
        · simp only [if_neg a, if_neg b, if_neg c]; exact (h2 y a c b).symm
  rw [e]; exact F
/-- what the division's loop keeps -/
def DivInv (m₀ : Str → Option Value) (l : Addr) (rest : List (Addr × Obj)) (pre : List Nat) (m : Str → Option Value) (n : List (Addr × Obj)) : Prop :=
  ∃ r qs vq e t, m (Str.ofString "r") = some (.int ((r : Nat) : Int) t) ∧ (∀ z, z ≠ Str.ofString "a_digit" → z ≠ Str.ofString "q_digit" → z ≠ Str.ofString "r" → m z = m₀ z) ∧
    n = (l, W.listOf (List.toArray vq) e) :: rest ∧ IntsAre vq (qs.map fun (q : Nat) => (q : Int)) ∧ Div97 pre r qs
section
variable {prog : Program} {w : World} {A : Around} {E : Value → Shared → Prop} {s : Shared} {env : Env} {h₀ : Heap} {body : List Stmt} {Q : Flow → Shared → Prop} {rest : List (Addr × Obj)} {m₀ : Str → Option Value}
theorem div_loop {ax I l : Addr} {va : List Value} {ds : List Nat} {ea e0 : Nat}
    (hh : A.handled = none) (F : Fr h₀ env.locals s.heap m₀) (N : News h₀ env.locals s.heap ((I, revObj ax ((va.length : Int) - 1)) :: (l, W.listOf #[] e0) :: (ax, W.listOf va.toArray ea) :: rest)) (hoff : ∀ p ∈ (l, W.listOf #[] e0) :: (ax, W.listOf va.toArray ea) :: rest, p.1 ≠ I)
    (hva : IntsAre va (ds.map fun (q : Nat) => (q : Int))) (hr : ∃ t, m₀ (Str.ofString "r") = some (.int 0 t))
    (turn : ∀ pre d post t t' (u : Str → Option Value) r qs vq e it h tk, ds.reverse = pre ++ d :: post → IntsAre vq (qs.map fun (q : Nat) => (q : Int)) → Div97 pre r qs →
      Fr h₀ env.locals h (fun y => if y = Str.ofString "a_digit" then some (.int ((d : Nat) : Int) t) else if y = Str.ofString "r" then some (.int ((r : Nat) : Int) t') else if y = Str.ofString "q_digit" then u y else m₀ y) →
      News h₀ env.locals h ((I, it) :: (l, W.listOf (List.toArray vq) e) :: (ax, W.listOf va.toArray ea) :: rest) →
      wpAny (model prog w) A (execs body env) (UnrPost h₀ env.locals { s with heap := h, toks := tk } I it (fun m' n' => DivInv m₀ l ((ax, W.listOf va.toArray ea) :: rest) (pre ++ [d]) m' n') Q) E { s with heap := h, toks := tk })
    (done : ∀ (u : Str → Option Value) r qs vq e t' h tk, IntsAre vq (qs.map fun (q : Nat) => (q : Int)) → Div97 ds.reverse r qs →
      Fr h₀ env.locals h (fun y => if y = Str.ofString "a_digit" then u y else if y = Str.ofString "r" then some (.int ((r : Nat) : Int) t') else if y = Str.ofString "q_digit" then u y else m₀ y) →
      News h₀ env.locals h ((l, W.listOf (List.toArray vq) e) :: (ax, W.listOf va.toArray ea) :: rest) → Q .next { s with heap := h, toks := tk }) :
    wpAny (model prog w) A (pyIter (.ref I)) (fun it s₂ => LoopAtV prog w A h₀ env (Str.ofString "a_digit") body Q E it s₂) E s := by
  refine rev_loop (ea := ea) (DivInv m₀ l ((ax, W.listOf va.toArray ea) :: rest)) hh F N hoff hva ?_ ?_ ?_ ?_
  · rintro pre m n ⟨r, qs, vq, e, t, h1, h2, rfl, h4, h5⟩
    exact List.mem_cons_of_mem _ (List.mem_cons_self ..)
  · obtain ⟨t, ht⟩ := hr
    exact ⟨0, [], [], e0, t, ht, fun _ _ _ _ => rfl, rfl, .nil, Div97.start⟩
  · rintro pre d post t m n it h tk hc ⟨r, qs, vq, e, t', h1, h2, rfl, h4, h5⟩ F1 N1
    exact turn pre d post t t' m r qs vq e it h tk hc h4 h5 (fr_turn h1 h2 F1) N1
  · rintro m n h tk ⟨r, qs, vq, e, t', h1, h2, rfl, h4, h5⟩ F1 N1
    exact done m r qs vq e t' h tk h4 h5 (fr_done h1 h2 F1) N1
theorem div_end {h' : Heap} {L l I : Addr} {m m₀ : Str → Option Value} {it : Obj} {pre qs : List Nat} {r e tk : Nat} {vq : List Value} {all : List (Addr × Obj)} {s₁ : Shared}
    (F : Fr h₀ L h' m) (N : News h₀ L h' all) (hs : ∀ p ∈ (I, it) :: (l, W.listOf vq.toArray e) :: rest, p ∈ all) (hoff : ∀ p ∈ (l, W.listOf vq.toArray e) :: rest, p.1 ≠ I)
    (h1 : ∃ t, m (Str.ofString "r") = some (.int ((r : Nat) : Int) t)) (h2 : ∀ z, z ≠ Str.ofString "a_digit" → z ≠ Str.ofString "q_digit" → z ≠ Str.ofString "r" → m z = m₀ z)
    (h4 : IntsAre vq (qs.map fun (q : Nat) => (q : Int))) (h5 : Div97 pre r qs) : UnrEnd h₀ L s₁ I it (fun m' n' => DivInv m₀ l rest pre m' n') { s₁ with heap := h', toks := tk } := by
  obtain ⟨t, h1⟩ := h1
  exact UnrEnd.intro F N _ hs hoff ⟨r, qs, vq, e, t, h1, h2, rfl, h4, h5⟩
end
section
variable {w : World} {p : Program} {loose : List Str} {mean : ExcName → Option Value} {mg mb : Str → Option Value} {dp un : Nat} {gd : Option (List Code)} {cn : Str} {cs : Scope} {a : Addr} {ccd : Value} {cl : List (Str × Addr)} {outer : List Env} {A₀ : Around} {base h₀ : Heap} {L : Addr} {m : Str → Option Value} {s : Shared} {Q E : Value → Shared → Prop} {news : List (Addr × Obj)}
local macro_rules | `(tactic| walk_at "call builtin:int.bit_length") => `(tactic| (refine call_bl97 ?_))
theorem c_div2n1nN {j : Int} {i : Nat} {t tb tn : Tok} (B : Below A₀ base outer h₀) (F : Fr h₀ L s.heap m) (X : (Mine.hd.heap_39 w.params).In h₀) (N : News h₀ L s.heap news) (T : Top p loose mean mg mb h₀) (hcs : cs.kind = .function)
    (hd : dp + 4 < recursionLimit) (hu : un + 40 < cLine) (hj : j = (i : Int)) (h1 : i < 2 ^ 30)
    (hret : ∀ D t1 t2 h' tk', Fr h₀ L h' m → News h₀ L h' ((D, tup2 ((i / 97 : Nat) : Int) ((i % 97 : Nat) : Int) t1 t2 0) :: news) → (∀ p ∈ news, p.1 < D) → Q (.ref D) { s with heap := h', toks := tk' }) :
    wpAny (model PySem.Challenge.rw_nb0216_01.row.prog w) (ktrTop dp un gd cn cs L a ccd cl outer) (call (.ref 50) [.int j t, .int 97 tb, .int 7 tn]) Q E s := by
  subst hj
  refine c_div2n1n B F X N T hcs hd hu (by omega) (by omega) ?_
  have e1 : Int.fdiv (i : Int) 97 = ((i / 97 : Nat) : Int) := by rw [Int.fdiv_eq_ediv_of_nonneg _ (by decide)]; rfl
  have e2 : Int.fmod (i : Int) 97 = ((i % 97 : Nat) : Int) := by rw [Int.fmod_eq_emod_of_nonneg _ (by decide)]; rfl
  rw [e1, e2]
  exact hret
local macro_rules | `(tactic| walk_at "binaryOp LShift int int") => `(tactic| (refine' lsh_as ?hn ?hz ?he ?_; (case hn => first | assumption | decide); (case he => assumption); (case hz => assumption)))
local macro_rules | `(tactic| walk_at "call ref") => `(tactic| ((with_reducible show wpAny _ _ (call (Value.ref 50) _) _ _ _); k_dflt (refine' c_div2n1nN ?B ?F ?X ?N ?T ?c ?d ?u ?j ?i ?_; (case B => k_asm); (case F => k_asm); (case X => k_asm); (case N => k_asm); (case T => k_asm); (case c => first | exact rfl | assumption); (case d => ktr_room); (case u => ktr_units); (case j => assumption); (case i => assumption); k_whole); intro D9 t8 t9 h9 tk9 F9 N9 l9; (try k_lt l9); (try dsimp only); (try k_sweep); (try k_fold)))
theorem reorderE {h₀ h : Heap} {L : Addr} {a b : Addr × Obj} {ta tc r : List (Addr × Obj)} (N : News h₀ L h (a :: b :: (ta ++ (tc ++ r)))) : News h₀ L h (tc ++ a :: (ta ++ r)) :=
  cb_drop N fun p hp => by simp only [List.mem_cons, List.mem_append] at hp ⊢; grind
theorem reorderF {h₀ h : Heap} {L : Addr} {a b : Addr × Obj} {ta tc r : List (Addr × Obj)} (N : News h₀ L h (a :: (tc ++ b :: (ta ++ r)))) : News h₀ L h (a :: (ta ++ (tc ++ r))) :=
  cb_drop N fun p hp => by simp only [List.mem_cons, List.mem_append] at hp ⊢; grind
set_option maxHeartbeats 8000000 in
theorem c_divmod_pos {i : Nat} {t tb : Tok} {ta tc : List (Addr × Obj)} (B : Below A₀ base outer h₀) (F : Fr h₀ L s.heap m) (X : (Mine.hd.heap_39 w.params).In h₀) (CA : CodeHd base 63 59) (CB : CodeHd base 70 66) (hta : Tab1 59 89 4 q59 ta) (htc : Tab1 66 104 4 q66 tc) (N : News h₀ L s.heap (ta ++ (tc ++ news))) (T : Top p loose mean mg mb h₀) (hcs : cs.kind = .function)
    (hnw : ∀ p ∈ news, p.1 ≠ 59 ∧ p.1 ≠ 66) (hd : dp + 80 < recursionLimit) (hu : un + 800 < cLine) (h1 : i < 2 ^ 100)
    (hret : ∀ D t1 t2 ta' tc' h' tk', Fr h₀ L h' m → News h₀ L h' ((D, tup2 ((i / 97 : Nat) : Int) ((i % 97 : Nat) : Int) t1 t2 0) :: (ta' ++ (tc' ++ news))) → Tab1 59 89 4 q59 ta' → Tab1 66 104 4 q66 tc' → (@LT.lt Nat _ 142 D) → Q (.ref D) { s with heap := h', toks := tk' }) :
    wpAny (model PySem.Challenge.rw_nb0216_01.row.prog w) (ktrTop dp un gd cn cs L a ccd cl outer) (call (.ref 78) [.int (i : Int) t, .int 97 tb]) Q E s := by
  refine wpAny_call ?_
  k_dflt cell_enter
  have hL := frame_gt (by assumption) (by assumption) (by k_is)
  k_steps
  k_dflt (refine' c_int2digits (tb := ta) (news := tc ++ news) ?B ?F ?X CA hta ?N ?T ?c ?nw ?d ?u h1 ?ret)
  case B => k_asm
  case F => k_asm
  case X => k_asm
  case N => k_asm
  case T => k_asm
  case c => exact rfl
  case nw =>
    intro p hp
    rcases List.mem_append.mp hp with hp | hp
    · rcases tab_ne htc p hp with e | e
      · rw [e]; decide
      · exact neN (by omega)
    · exact (hnw p hp).1
  case d => ktr_room
  case u => ktr_units
  case ret =>
    intro D vs e ta' h9 tk9 F9 N9 hta' I9 hD hDl
    (try dsimp only); (try k_sweep); (try k_fold)
    k_steps
    (rename Fr _ _ _ _ => lF'); (rename News _ _ _ _ => lN'); rename _ ∧ _ ∧ AllLt _ _ => lA; rename _ ∧ AllLt _ _ => lB
    have I8 := I9
    rw [digs_eq] at I8
    with_unfolding_all refine' div_loop (ds := digsN (ndig i) i) (by rfl) lF' lN' ?hoff I8 ⟨_, rfl⟩ (fun pre d post t t' u r qs vq e it h tk hcod hq hP F1 N1 => ?turn) (fun u r qs vq e t' h tk hq hP F1 N1 => ?done)
    case hoff =>
      refine List.forall_mem_cons.mpr ⟨by k_ne, ?_⟩
      refine List.forall_mem_cons.mpr ⟨by k_ne, ?_⟩
      exact allLt_ne lA.2.2 (Nat.le_refl _)
    case turn =>
      have hA2 := lB.2
      have hd128 : d < 128 := digsN_lt (ndig i) i d (by rw [← List.mem_reverse, hcod]; simp)
      have hr97 : r < 97 := by rw [hP.1]; exact Nat.mod_lt _ (by decide)
      have eL : ((r : Nat) : Int) * 2 ^ (7 : Int).toNat = ((r * 128 : Nat) : Int) := lsh_nat r 7
      have eZ : (Builtin.Int.intBits ((r : Nat) : Int) : Int) + 7 ≤ 2 ^ 27 := by
        have hb : Builtin.Int.intBits (r : Int) ≤ 7 := bits_nat (by omega)
        have : (2 : Int) ^ 27 = 134217728 := by decide
        omega
      have eJ : ((r * 128 : Nat) : Int) + (d : Int) = ((r * 128 + d : Nat) : Int) := by omega
      have eI : r * 128 + d < 2 ^ 30 := by omega
      k_steps
      have hlq : vq.length ≤ 30 := by
        have e1 := IntsAre.length hq
        have e2 := congrArg List.length hcod
        rw [List.length_map] at e1
        rw [List.length_reverse, digsN_length, List.length_append, List.length_cons] at e2
        have e3 := hP.2.2.1
        have e4 := ndig_le h1
        omega
      k_dflt (refine' append_K ?k1 ?k2 ?k3 ?_ (hsz := ?z); (case k1 => k_asm); (case k2 => k_asm); (case k3 => k_upd); (case z => (rw [sizeLine_eq, List.size_toArray]; omega)); k_whole)
      intro h7 F7 N7
      (try dsimp only); (try k_sweep)
      k_steps
      simp only [List.push_toArray] at N7
      with_unfolding_all refine div_end (vq := vq ++ [_]) (qs := qs ++ [(r * 128 + d) / 97]) F7 N7 (fun p hp => List.mem_cons_of_mem _ hp) ?o ⟨_, if_pos rfl⟩ (fun z a b c => by simp only [if_neg a, if_neg b, if_neg c]) ?i (hP.next hd128)
      case o =>
        refine List.forall_mem_cons.mpr ⟨by k_ne, ?_⟩
        refine List.forall_mem_cons.mpr ⟨by k_ne, ?_⟩
        exact allLt_ne lA.2.2 (Nat.le_refl _)
      case i =>
        rw [List.map_append]
        exact IntsAre.append hq (.cons _ _ .nil)
    case done =>
      have hA2 := lB.2
      have hlq : vq.length ≤ 30 := by
        have e1 := IntsAre.length hq
        rw [List.length_map] at e1
        have e3 := hP.2.2.1
        rw [List.length_reverse, digsN_length] at e3
        have e4 := ndig_le h1
        omega
      k_steps
      k_dflt (refine' kl_reverse (l := vq.reverse) ?k1 ?k2 ?e ?k3 ?z ?_; (case k1 => k_asm); (case k2 => k_asm); (case e => rfl); (case k3 => k_upd); (case z => (rw [sizeLine_eq]; show vq.length ≤ _; omega)); k_whole)
      intro h7 F7 N7
      (try dsimp only); (try k_sweep)
      k_steps
      have hl142 : (@LT.lt Nat _ 142 _) := Nat.lt_trans hD lB.1
      k_dflt (refine' c_digits2int (tb := tc) (news := ta' ++ news) (qs := qs.reverse) ?B ?F ?X CB htc ?N ?T ?c hl142 ?nw ?d ?u ?I ?q ?l ?ret)
      case B => k_asm
      case F => k_asm
      case X => k_asm
      case N => exact reorderE N7
      case T => k_asm
      case c => exact rfl
      case nw =>
        intro p hp
        rcases List.mem_append.mp hp with hp | hp
        · rcases tab_ne hta' p hp with e | e
          · rw [e]; decide
          · exact neN (by omega)
        · exact (hnw p hp).2
      case d => ktr_room
      case u => ktr_units
      case I =>
        rw [List.map_reverse]
        exact IntsAre.reverse hq
      case q =>
        intro q hm
        exact hP.2.2.2 q (List.mem_reverse.mp hm)
      case l =>
        have e1 := IntsAre.length hq
        rw [List.length_map] at e1
        rw [List.length_reverse]; omega
      case ret =>
        intro t6 tc' h6 tk6 F6 N6 htc'
        (try dsimp only); (try k_sweep); (try k_fold)
        k_steps
        rename News _ _ _ _ => N5
        have hv : valN qs.reverse = i / 97 := by rw [hP.2.1, big_reverse, valN_digsN _ _ (ndig_lt i)]
        have hw : r = i % 97 := by rw [hP.1, big_reverse, valN_digsN _ _ (ndig_lt i)]
        rw [hv, hw] at N5
        rename (∀ p ∈ tc' ++ _, p.1 < _) => lZ
        exact hret _ _ _ ta' tc' _ _ (by assumption) (reorderF N5) hta' htc' (Nat.lt_trans hl142 (lZ _ (List.mem_append_right _ (List.mem_cons_self ..))))
end
end Mine
end

section -- C13
open PySem PySem.W PyProof.Rows PySem.Calls PySem.NumText
set_option Elab.async false
set_option maxRecDepth 100000
namespace Mine
theorem fill13 : ∀ (w : World) (h : Heap), (Mine.hd.heap_39 w.params).In h → PySem.Challenge.rw_nb0216_01.row.prog = PySem.Challenge.rw_nb0216_01.row.prog := by
  k_fill; intros; rfl
section
variable {w : World} {p : Program} {loose : List Str} {mean : ExcName → Option Value} {mg mb : Str → Option Value} {dp un : Nat} {gd : Option (List Code)} {cn : Str} {cs : Scope} {a : Addr} {ccd : Value} {cl : List (Str × Addr)} {outer : List Env} {A₀ : Around} {base h₀ : Heap} {L : Addr} {m : Str → Option Value} {s : Shared} {Q E : Value → Shared → Prop} {news : List (Addr × Obj)}
set_option maxHeartbeats 8000000 in
theorem c_int_divmod {j : Int} {i : Nat} {t tb : Tok} {ta tc : List (Addr × Obj)} (B : Below A₀ base outer h₀) (F : Fr h₀ L s.heap m) (X : (Mine.hd.heap_39 w.params).In h₀) (CA : CodeHd base 63 59) (CB : CodeHd base 70 66) (hta : Tab1 59 89 4 q59 ta) (htc : Tab1 66 104 4 q66 tc) (N : News h₀ L s.heap (ta ++ (tc ++ news))) (T : Top p loose mean mg mb h₀) (hcs : cs.kind = .function)
    (hnw : ∀ p ∈ news, p.1 ≠ 59 ∧ p.1 ≠ 66) (hd : dp + 84 < recursionLimit) (hu : un + 900 < cLine) (hj : j = (i : Int)) (h1 : i < 2 ^ 100)
    (hret : ∀ D t1 t2 ta' tc' h' tk', Fr h₀ L h' m → News h₀ L h' ((D, tup2 ((i / 97 : Nat) : Int) ((i % 97 : Nat) : Int) t1 t2 0) :: (ta' ++ (tc' ++ news))) → Tab1 59 89 4 q59 ta' → Tab1 66 104 4 q66 tc' → (@LT.lt Nat _ 142 D) → Q (.ref D) { s with heap := h', toks := tk' }) :
    wpAny (model PySem.Challenge.rw_nb0216_01.row.prog w) (ktrTop dp un gd cn cs L a ccd cl outer) (call (.ref 85) [.int j t, .int 97 tb]) Q E s := by
  subst hj
  refine wpAny_call ?_
  k_dflt cell_enter
  k_steps
  k_dflt (refine' c_divmod_pos (ta := ta) (tc := tc) (news := news) ?B ?F ?X CA CB hta htc ?N ?T ?c hnw ?d ?u h1 ?ret)
  case B => k_asm
  case F => k_asm
  case X => k_asm
  case N => k_asm
  case T => k_asm
  case c => exact rfl
  case d => ktr_room
  case u => ktr_units
  case ret =>
    intro D t1 t2 ta' tc' h9 tk9 F9 N9 hta' htc' hD
    (try dsimp only); (try k_sweep); (try k_fold)
    k_steps
    all_goals exact hret _ _ _ ta' tc' _ _ (by assumption) (by assumption) hta' htc' hD
end
end Mine
end

section -- S0
open PySem PySem.W PyProof.Rows PySem.Calls PySem.NumText
set_option Elab.async false
set_option maxRecDepth 100000
namespace Mine
theorem noBool_set : typeLookup (.type "set") "__bool__" = pure none := by rw [typeLookup_type, builtinLookup_eq_fast]; kernel_rfl
theorem wpAny_choose {M : Model} {A : Around} {src : Source} {n : Nat} {Q : Nat → Shared → Prop} {E : Value → Shared → Prop} {s : Shared} (hn : n ≠ 0)
    (h : Q (M.w.draws src (s.drawn.get src) % n) { s with drawn := s.drawn.bump src }) : wpAny M A (choose src n) Q E s := fun _ _ _ => ⟨hn, h⟩
section
variable {prog : Program} {w : World} {A : Around} {E : Value → Shared → Prop} {s : Shared} {a : Addr}
theorem truthy_set {o : Obj} {es : Array (Int × Value)} {ep : Nat} {t : SetTable} {Q : Bool → Shared → Prop}
    (ho : s.heap.get? a = some o) (hex : o.ExactSet) (hd : o.data = .set es ep t) (hf : t.fits es.size = true) (hfit : (es.size : Int) < 2 ^ 63)
    (h : Q ((es.size : Int) != 0) { s with toks := s.toks + 1 + 1 }) : wpAny (model prog w) A (truthy (.ref a)) Q E s := by
  have hT : s.TypeIs (.ref a) "set" := ⟨o, ho, hex.1⟩
  have key : wpAny (model prog w) A (runValue (.builtin "len" ⟨[.ref a], []⟩)) (fun r s' => r = .int es.size (s.toks + 1) ∧ Q ((es.size : Int) != 0) s') E s := by
    refine wpAny_runValue (codeAny_builtin entry_len ?_)
    rw [Around.under_plainId plain_len _]
    exact wpAny_mono (wpAny_len_body_set (Q := fun r s' => r = .int es.size (s.toks + 1) ∧ Q ((es.size : Int) != 0) s') ho hex hd hf hfit ⟨rfl, h⟩)
      (fun fin s' h' => by obtain ⟨r, rfl, hq⟩ := h'; exact hq) fun _ _ e => e
  unfold truthy
  first
    | refine wpAny_bind (wpAny_callSpecial?_none (name := Str.ofString "__bool__") hT noBool_set ?_)
    | refine wpAny_bind (wpAny_pure (wpAny_bind (wpAny_callSpecial?_none (name := Str.ofString "__bool__") hT noBool_set ?_)))
  first
    | refine wpAny_bind (wpAny_specialOf (name := Str.ofString "__len__") hT F.slot_set_len.lookup ?_)
    | refine wpAny_bind (wpAny_pure (wpAny_bind (wpAny_specialOf (name := Str.ofString "__len__") hT F.slot_set_len.lookup ?_)))
  first
    | exact wpAny_bind (wpAny_mono key (fun r s' h' => by obtain ⟨rfl, hq⟩ := h'; exact wpAny_pure hq) fun _ _ e => e)
    | exact wpAny_bind (wpAny_pure (wpAny_bind (wpAny_mono key (fun r s' h' => by obtain ⟨rfl, hq⟩ := h'; exact wpAny_pure hq) fun _ _ e => e)))
variable {h₀ : Heap} {L sa : Addr} {m : Str → Option Value} {news : List (Addr × Obj)} {g : Obj → List (Addr × Obj)} {so : Obj} {S : Int → Bool} {n : Nat} {k : Int}
theorem truthy_setK {b : Bool} {Q : Bool → Shared → Prop} (N : News h₀ L s.heap news) (U : UpdF sa so news g) (hso : so.SetObjOf (PySem.intKind prog w) S n) (hb : n < scanBound) (e : ((n : Int) != 0) = b) (h : Q b { s with toks := s.toks + 1 + 1 }) :
    wpAny (model prog w) A (truthy (.ref sa)) Q E s := by
  obtain ⟨pre, post, rfl, _, _, _⟩ := U.split
  obtain ⟨hex, es, ep, t, hd, _, _, hn, hf⟩ := hso
  subst hn e
  unfold scanBound at hb
  exact truthy_set (N _ (List.mem_append_right _ (.head _))).1 hex hd hf (by omega) h
theorem method_pop {pl : Sem Bool} {Q : Value × List Value → Shared → Prop} (N : News h₀ L s.heap news) (U : UpdF sa so news g) (hso : so.SetObjOf (PySem.intKind prog w) S n) (hb : n < scanBound) (h : Q (.builtin "set.pop", [.ref sa]) s) :
    wpAny (model prog w) A (getMethod (.ref sa) "pop" pl) Q E s := by
  obtain ⟨pre, post, rfl, _, _, _⟩ := U.split
  have hS := hso.setOf (N _ (List.mem_append_right _ (.head _))).1 hb
  exact getMethod_builtin hS.typeIs F.plainAttrs_set F.slot_set_pop F.type_set_pop hS.noDict h
theorem one_size {α : Type} {es : Array α} (h : es.size = 1) : ∃ x, es = #[x] := by
  rcases es with ⟨l⟩
  match l, h with
  | [x], _ => exact ⟨x, rfl⟩
theorem pop_one {Q : Value → Shared → Prop} (F : Fr h₀ L s.heap m) (N : News h₀ L s.heap news) (U : UpdF sa so news g) (hso : so.SetObjOf (PySem.intKind prog w) S 1) (hk : S k = true)
    (h : ∀ h' so' dr t, Fr h₀ L h' m → News h₀ L h' (g so') → so'.SetObjOf (PySem.intKind prog w) (fun _ => false) 0 → Q (.int k t) { s with heap := h', drawn := dr }) :
    wpAny (model prog w) A (call (.builtin "set.pop") [.ref sa]) Q E s := by
  obtain ⟨pre, post, rfl, hg, ha, hb⟩ := U.split
  have z := N (sa, so) (List.mem_append_right _ (.head _))
  obtain ⟨hex, es, ep, t, hd, hel, hmem, hn, hf⟩ := hso
  obtain ⟨⟨hh, x⟩, rfl⟩ := one_size hn
  obtain ⟨e, he, hx⟩ := (hmem k).mp hk
  have he : e = (hh, x) := by simpa using he
  subst he
  obtain ⟨tx, rfl⟩ := Value.isInt_shape hx
  have hT : s.TypeIs (.ref sa) "set" := ⟨so, z.1, hex.1⟩
  have hf1 : t.place.size = 1 ∧ t.fill ≤ t.mask := by
    simp only [SetTable.fits, Bool.and_eq_true, beq_iff_eq, decide_eq_true_eq] at hf
    exact hf
  obtain ⟨j, hj⟩ := one_size hf1.1
  have hpop : t.popPlace = some 0 := by
    unfold SetTable.popPlace
    rw [hj]
    simp only [Array.isEmpty, List.size_toArray, List.length_cons, List.length_nil]
    generalize SetTable.below #[j] (t.finger % (t.mask + 1)) = i
    by_cases h0 : i < 1
    · have : i = 0 := by omega
      subst this; rfl
    · simp [h0]
  have hf' : (t.popped 0).fits (#[] : Array (Int × Value)).size = true := by
    have e1 : t.place[0]? = some j := by rw [hj]; rfl
    unfold SetTable.popped SetTable.drop
    rw [e1]
    have hfl := hf1.2
    simp only [SetTable.fill, hj] at hfl
    simp only [SetTable.fits, SetTable.fill, hj, SetTable.eraseAt, SetTable.insertAt, Bool.and_eq_true, beq_iff_eq, decide_eq_true_eq]
    simp
    simp at hfl
    omega
  refine wpAny_call (codeAny_call_builtin PySem.F.slot_set_pop.plain PySem.F.entry_set_pop (PySem.F.slot_set_pop.check _ _ _ _ _ _ _ _ hT (PySem.F.args_set_pop_1 _) ?_))
  have hSt := SetOf_store (knd := PySem.intKind prog w) (S' := fun _ => false) z.1 hex hd (es' := #[]) (t' := t.popped 0) (fun e he => nomatch he) (fun k => by simp) (by decide) hf'
  obtain ⟨so', ho', hso'⟩ := hSt.2.objOf
  have hsb := Heap.SameBut.update s.heap sa (Obj.putSet #[] (t.popped 0))
  have hQ : ∀ dr, Q (.int k tx) { s with heap := s.heap.update sa (Obj.putSet #[] (t.popped 0)), drawn := dr } := fun dr => h _ so' dr tx (F.change hsb z.2.1 z.2.2) (hg so' ▸ N.setIn ha hb hsb ho') hso'
  have key : wpAny (model prog w) A.in1 (setPop sa) (fun r s' => r = some (Value.int k tx) ∧ Q (.int k tx) s') (fun e s' => E e s') s := by
    unfold setPop
    refine wpAny_bind (wpAny_setState_of z.1 hd hf ?_)
    dsimp only
    rw [hpop]
    dsimp only
    unfold setsByText
    refine wpAny_bind (wpAny_bind (wpAny_askSetting (wpAny_pure ?_)))
    have rest : ∀ dr, wpAny (model prog w) A.in1 (do
        let some (_, x) := (#[(hh, Value.int k tx)] : Array (Int × Value))[0]? | unsupported "internal:set.pop"
        storeSet sa (SetTable.eraseAt #[(hh, Value.int k tx)] 0) (t.popped 0)
        return some x) (fun r s' => r = some (Value.int k tx) ∧ Q (.int k tx) s') (fun e s' => E e s') { s with drawn := dr } := by
      intro dr
      have e0 : SetTable.eraseAt #[(hh, Value.int k tx)] 0 = #[] := by rfl
      rw [e0]
      refine wpAny_bind (wpAny_storeSet_of (s := { s with drawn := dr }) z.1 hd ?_)
      exact wpAny_pure ⟨rfl, hQ dr⟩
    split
    · refine wpAny_bind (wpAny_choose (by simp) ?_)
      have e1 : (model prog w).w.draws .order (s.drawn.get .order) % (#[(hh, Value.int k tx)] : Array (Int × Value)).size = 0 := Nat.mod_one _
      rw [e1]
      exact rest _
    · refine wpAny_bind ?_
      have e2 : ∀ (Q' : Unit → Shared → Prop) (E' : Value → Shared → Prop) (s' : Shared), Q' () s' → wpAny (model prog w) A.in1 (if (!t.led && decide ((#[(hh, Value.int k tx)] : Array (Int × Value)).size > 1)) = true then unsupported "set:maker-not-led" else pure ()) Q' E' s' := by
        intro Q' E' s' h'
        cases t.led <;> exact wpAny_pure h'
      refine e2 _ _ _ ?_
      exact wpAny_bind (wpAny_pure (rest _))
  unfold Builtin.«set.pop» Builtin.Frozenset.noArgs Builtin.Frozenset.addrOf
  refine wpAny_bind (wpAny_pure ?_)
  refine wpAny_bind (wpAny_mono key (fun r s' h' => ?_) fun _ _ e => e)
  obtain ⟨rfl, hq⟩ := h'
  exact wpAny_pure hq
end
end Mine
end

section -- C14
open PySem PySem.W PyProof.Rows PySem.Calls PySem.NumText
set_option Elab.async false
set_option maxRecDepth 100000
namespace Mine
theorem fill14 : ∀ (w : World) (h : Heap), (Mine.hd.heap_39 w.params).In h → PySem.Challenge.rw_nb0216_01.row.prog = PySem.Challenge.rw_nb0216_01.row.prog := by
  k_fill; intros; rfl
section
variable {w : World} {p : Program} {loose : List Str} {mean : ExcName → Option Value} {mg mb : Str → Option Value} {dp un : Nat} {gd : Option (List Code)} {cn : Str} {cs : Scope} {a : Addr} {ccd : Value} {cl : List (Str × Addr)} {outer : List Env} {A₀ : Around} {base h₀ : Heap} {L : Addr} {m : Str → Option Value} {s : Shared} {Q E : Value → Shared → Prop} {news : List (Addr × Obj)}
theorem reorderP {h₀ h : Heap} {L : Addr} {a b c d : Addr × Obj} {r : List (Addr × Obj)} (N : News h₀ L h (a :: b :: c :: d :: r)) : News h₀ L h (a :: r) :=
  cb_drop N fun p hp => by simp only [List.mem_cons] at hp ⊢; grind
local macro_rules | `(tactic| walk_at "truthy ref") => `(tactic| (k_here; kse_here; (with_reducible show wpAny _ _ (truthy (Value.ref _)) _ _ _); k_dflt (refine' truthy_setK ?N ?U ?d ?z ?e ?_; (case N => k_asm); (case U => k_updF); (case d => k_asm); (case z => kse_small); (case e => rfl)); (try dsimp only)))
local macro_rules | `(tactic| walk_at "getMethod ref") => `(tactic| (k_here; kse_here; (with_reducible show wpAny _ _ (getMethod (Value.ref _) (Str.ofString "pop") _) _ _ _); k_dflt (refine' method_pop ?N ?U ?d ?z ?_; (case N => k_asm); (case U => k_updF); (case d => k_asm); (case z => kse_small))))
local macro_rules | `(tactic| walk_at "call builtin:set.pop") => `(tactic| (k_here; kse_here; (try dsimp only); k_dflt (refine' pop_one ?F ?N ?U ?d ?z ?_; (case F => k_asm); (case N => k_asm); (case U => k_updF); (case d => k_asm); (case z => exact decide_eq_true rfl)); intro h' o' dr' t' F' N' hs'; (try dsimp only at N')))
set_option maxHeartbeats 8000000 in
theorem c_powers {n : Int} {t tb tn : Tok} (B : Below A₀ base outer h₀) (F : Fr h₀ L s.heap m) (X : (Mine.hd.heap_39 w.params).In h₀) (N : News h₀ L s.heap news) (T : Top p loose mean mg mb h₀) (hcs : cs.kind = .function)
    (hd : dp + 4 < recursionLimit) (hu : un + 40 < cLine) (h1 : 0 ≤ n) (h2 : n ≤ 2048)
    (hret : ∀ D o dr h' tk', Fr h₀ L h' m → News h₀ L h' ((D, o) :: news) → (∀ p ∈ news, p.1 < D) → Q (.ref D) { s with heap := h', toks := tk', drawn := dr }) :
    wpAny (model PySem.Challenge.rw_nb0216_01.row.prog w) (ktrTop dp un gd cn cs L a ccd cl outer) (call (.ref 29) [.int n t, .int 5 tb, .int 2048 tn]) Q E s := by
  refine wpAny_call ?_
  k_dflt (first | (refine' code_def ?k1 ?k2 ?k3 ?k4 ?k5 ?kA ?kF ?kK ?k6 ?k7 ?k8 ?k9 ?kB ?_ ?c2 ?c3 ?c4 ?c5; (case kA => exact rfl); (case kF => exact rfl); (case kK => assumption); (case k1 => k_asm); (case k2 => k_asm); (case k3 => k_asm); (case k4 => k_asm); (case k5 => k_asm); (case k6 => k_is); (case k7 => k_is); (case k8 => ktr_room); (case k9 => exact binds_K (by k_in) rfl (by k_is) rfl rfl rfl); (case c5 => decide); (case kB => exact locs rfl); (case c2 => exact rfl); (case c3 => exact rfl); (case c4 => exact rfl); k_whole; intro g' L' h' FG' F' N' B' X' T'; (try dsimp only); (try k_lift B'); (try k_fold)) | cell_enter)
  k_steps
  rename News _ _ _ _ => N9
  rename _ ∧ _ ∧ _ ∧ AllLt _ _ => l9
  exact hret _ _ _ _ _ (by assumption) (reorderP N9) (fun p hp => allLt_mem l9.2.2.2 p hp)
end
end Mine
end

section -- C15
open PySem PySem.W PyProof.Rows PySem.Calls PySem.NumText
set_option Elab.async false
set_option maxRecDepth 100000
namespace Mine
theorem fill15 : ∀ (w : World) (h : Heap), (Mine.hd.heap_39 w.params).In h → PySem.Challenge.rw_nb0216_01.row.prog = PySem.Challenge.rw_nb0216_01.row.prog := by
  k_fill; intros; rfl
abbrev q31 : Str := Str.ofString "_str_to_int_inner.<locals>.inner"
theorem slice_full (x : Str) : Txt.slice x (some 0) (some (x.length : Int)) = x := by
  refine str_ext ?_
  have e := slice_list x (a := 0) (b := x.length) (Nat.zero_le _)
  refine Eq.trans e ?_
  rw [List.drop_zero, Nat.sub_zero]
  exact List.take_of_length_le (Nat.le_of_eq Array.length_toList)
section
variable {w : World} {p : Program} {loose : List Str} {mean : ExcName → Option Value} {mg mb : Str → Option Value} {dp un : Nat} {gd : Option (List Code)} {cn : Str} {cs : Scope} {a : Addr} {ccd : Value} {cl : List (Str × Addr)} {outer : List Env} {A₀ : Around} {base h₀ : Heap} {L : Addr} {m : Str → Option Value} {s : Shared} {Q E : Value → Shared → Prop} {news : List (Addr × Obj)}
local macro_rules | `(tactic| walk_at "call ref") => `(tactic| ((with_reducible show wpAny _ _ (call (Value.ref 29) _) _ _ _); k_dflt (refine' c_powers ?B ?F ?X ?N ?T ?c ?d ?u ?i ?j ?_; (case B => k_asm); (case F => k_asm); (case X => k_asm); (case N => k_asm); (case T => k_asm); (case c => first | exact rfl | assumption); (case d => ktr_room); (case u => ktr_units); (case i => omega); (case j => omega); k_whole); intro D9 o9 dr9 h9 tk9 F9 N9 l9; (try k_lt l9); (try dsimp only); (try k_sweep); (try k_fold)))
set_option maxHeartbeats 8000000 in
theorem c_innerS {nm qual : Str} {params : Arguments} {body : List Stmt} {scope : Scope} {doc pm ctv : Value} {f c' cW cI cD cS : Addr} {oc oW oI oD oS : Obj} {vC : Array Value} {tq tn ts ta tb : Tok} {vW : Value} {x : Str} {v : Int} {e9 : Addr × Obj}
    (hfd : some (nm, params, body, scope) = innerOf 3 1)
    (hoc : oc.data = .fields vC) (hvC : vC[1]? = some (.str qual tq)) (hoW : oW.data = .cell (some vW)) (hoI : oI.data = .cell (some (.ref f))) (hoD : oD.data = .cell (some (.int 2048 tn))) (hoS : oS.data = .cell (some (.str x ts)))
    (CH : CodeHd base 35 31) (B : Below A₀ base outer h₀) (F : Fr h₀ L s.heap m) (X : (Mine.hd.heap_39 w.params).In h₀)
    (N : News h₀ L s.heap (e9 :: (f, fnMade nm qual params body scope [(Str.ofString "w5pow", cW), (Str.ofString "s", cS), (Str.ofString "inner", cI), (Str.ofString "DIGLIM", cD)] doc pm c' ctv) :: (c', oc) :: (cW, oW) :: (cI, oI) :: (cD, oD) :: (cS, oS) :: news))
    (T : Top p loose mean mg mb h₀) (hcs : cs.kind = .function)
    (hd : dp + 1 < recursionLimit) (hu : un + 8 < cLine) (h1 : x.length ≤ 600) (hv : PySem.intText? x = some v)
    (hret : ∀ t' h' tk', Fr h₀ L h' m → News h₀ L h' (e9 :: (f, fnMade nm qual params body scope [(Str.ofString "w5pow", cW), (Str.ofString "s", cS), (Str.ofString "inner", cI), (Str.ofString "DIGLIM", cD)] doc pm c' ctv) :: (c', oc) :: (cW, oW) :: (cI, oI) :: (cD, oD) :: (cS, oS) :: news) →
      Q (.int v t') { s with heap := h', toks := tk' }) :
    wpAny (model PySem.Challenge.rw_nb0216_01.row.prog w) (ktrTop dp un gd cn cs L a ccd cl outer) (call (.ref f) [.int 0 ta, .int (x.length : Int) tb]) Q E s := by
  cases hfd
  refine wpAny_call ?_
  k_dflt (refine' code_nest ?k1 ?k2 ?k3 ?k4 ?k5 ?kA ?kF ?kK ?k6 ?k7 ?k8 ?k9 ?kB ?rest ?c2 ?c3 ?c4 ?c5)
  case kA => exact rfl
  case kF => exact rfl
  case kK => assumption
  case k1 => k_asm
  case k2 => k_asm
  case k3 => k_asm
  case k4 => k_asm
  case k5 => k_asm
  case k6 => k_mem
  case k7 => exact codeRec_news (by k_asm) (by k_mem) (by assumption) (by assumption)
  case k8 => ktr_room
  case k9 => exact BindsTo.of_eq rfl
  case c5 => decide
  case kB => exact locs rfl
  case c2 => exact rfl
  case c3 => exact rfl
  case c4 => exact rfl
  case rest =>
    intro g' L' h' FG' F' N' B' X' T'
    (try dsimp only); (try k_lift B'); (try k_fold)
    k_steps
    rw [slice_full]
    refine KIN.call_text hv (by omega) ?_
    k_steps
    exact hret _ _ _ (by assumption) (by assumption)
theorem finishS {h₀ h : Heap} {L c P : Addr} {oc : Obj} {e9 f cW cI cD cS : Addr × Obj} {ln col : Nat} {qual : Str} {vs : Array Value} {t : Tok} {news : List (Addr × Obj)}
    (N : News h₀ L h (e9 :: f :: (c, oc) :: cW :: cI :: cD :: cS :: (P, tabObj #[rawInt (ln : Int), rawInt (col : Int), .ref c]) :: news)) (h1 : oc.data = .fields vs) (h2 : vs[1]? = some (.str qual t)) (h3 : @LT.lt Nat _ 142 c) :
    ∃ tb', Tab1 P ln col qual tb' ∧ News h₀ L h (tb' ++ news) :=
  ⟨[(P, tabObj #[rawInt (ln : Int), rawInt (col : Int), .ref c]), (c, oc)], Or.inr ⟨c, oc, vs, t, rfl, h1, h2, h3⟩, cb_drop N fun p hp => by simp only [List.mem_cons, List.cons_append, List.nil_append] at hp ⊢; grind⟩
theorem reorderS {h₀ h : Heap} {L : Addr} {e9 f c cW cI cD cS t : Addr × Obj} {news : List (Addr × Obj)}
    (N : News h₀ L h (e9 :: f :: cW :: cI :: cD :: cS :: t :: c :: news)) : News h₀ L h (e9 :: f :: c :: cW :: cI :: cD :: cS :: t :: news) :=
  cb_drop N fun p hp => by simp only [List.mem_cons] at hp ⊢; grind
set_option maxHeartbeats 8000000 in
theorem c_strInner {x : Str} {v : Int} {t : Tok} {tb : List (Addr × Obj)} (B : Below A₀ base outer h₀) (F : Fr h₀ L s.heap m) (X : (Mine.hd.heap_39 w.params).In h₀) (CH : CodeHd base 35 31) (htab : Tab1 31 49 4 q31 tb) (N : News h₀ L s.heap (tb ++ news)) (T : Top p loose mean mg mb h₀) (hcs : cs.kind = .function)
    (hnw : ∀ p ∈ news, p.1 ≠ 31) (hd : dp + 10 < recursionLimit) (hu : un + 100 < cLine) (h1 : x.length ≤ 600) (hv : PySem.intText? x = some v)
    (hret : ∀ t' dr tb' h' tk', Fr h₀ L h' m → News h₀ L h' (tb' ++ news) → Tab1 31 49 4 q31 tb' → Q (.int v t') { s with heap := h', toks := tk', drawn := dr }) :
    wpAny (model PySem.Challenge.rw_nb0216_01.row.prog w) (ktrTop dp un gd cn cs L a ccd cl outer) (call (.ref 36) [.str x t]) Q E s := by
  rcases htab with rfl | ⟨cT, ocT, vT, tT, rfl, hocT, hvT, hcT⟩
  · refine wpAny_call ?_
    simp only [List.cons_append, List.nil_append] at N
    k_dflt (first | (refine' code_defC ?k1 ?k2 ?k3 ?k4 ?k5 ?kA ?kF ?kK ?k6 ?k7 ?k8 ?k9 ?kB ?kD ?_ ?c2 ?c3 ?c4; (case kA => exact rfl); (case kF => exact rfl); (case kK => assumption); (case k1 => k_asm); (case k2 => k_asm); (case k3 => k_asm); (case k4 => k_asm); (case k5 => k_asm); (case k6 => k_is); (case k7 => k_is); (case k8 => ktr_room); (case k9 => first | exact BindsTo.of_eq rfl | exact binds_K (by k_in) rfl (by k_is) rfl rfl rfl); (case kB => exact rfl); (case kD => decide +kernel); (case c2 => exact rfl); (case c3 => exact rfl); (case c4 => exact rfl); k_whole; intro g' L' h' tk' cells' FG' F' N' Y' B' X' T' l1; (try k_lt l1); k_cells Y'; (try simp only [List.cons_append, List.nil_append] at N'); (try dsimp only); (try k_lift B'); (try k_fold)) | cell_enter)
    rename _ ∧ AllLt _ news => l9
    have hAll := l9.2
    have hL := frame_gt (by assumption) (by assumption) (by k_is)
    k_steps
    rename News _ _ _ _ => N9
    k_dflt (refine' c_innerS ?hfd ?hoc ?hvC ?hoW ?hoI ?hoD ?hoS CH ?B ?F ?X N9 ?T ?c ?d ?u h1 hv ?ret)
    case hfd => rfl
    case hoc => assumption
    case hvC => assumption
    case hoW => assumption
    case hoI => assumption
    case hoD => assumption
    case hoS => assumption
    case B => k_asm
    case F => k_asm
    case X => k_asm
    case T => k_asm
    case c => exact rfl
    case d => ktr_room
    case u => ktr_units
    case ret =>
      intro t9 h9 tk9 F9 N9
      (try dsimp only); (try k_sweep); (try k_fold)
      k_steps
      rename News h₀ L _ _ => N7
      obtain ⟨tb', hT, hN⟩ := finishS N7 (by assumption) (by assumption) (by omega)
      exact hret _ _ tb' _ _ (by assumption) hN hT
  · refine wpAny_call ?_
    simp only [List.cons_append, List.nil_append] at N
    k_dflt (first | (refine' code_defC ?k1 ?k2 ?k3 ?k4 ?k5 ?kA ?kF ?kK ?k6 ?k7 ?k8 ?k9 ?kB ?kD ?_ ?c2 ?c3 ?c4; (case kA => exact rfl); (case kF => exact rfl); (case kK => assumption); (case k1 => k_asm); (case k2 => k_asm); (case k3 => k_asm); (case k4 => k_asm); (case k5 => k_asm); (case k6 => k_is); (case k7 => k_is); (case k8 => ktr_room); (case k9 => first | exact BindsTo.of_eq rfl | exact binds_K (by k_in) rfl (by k_is) rfl rfl rfl); (case kB => exact rfl); (case kD => decide +kernel); (case c2 => exact rfl); (case c3 => exact rfl); (case c4 => exact rfl); k_whole; intro g' L' h' tk' cells' FG' F' N' Y' B' X' T' l1; (try k_lt l1); k_cells Y'; (try simp only [List.cons_append, List.nil_append] at N'); (try dsimp only); (try k_lift B'); (try k_fold)) | cell_enter)
    rename _ ∧ _ ∧ AllLt _ news => l9
    have hAll := l9.2.2
    have hL := frame_gt (by assumption) (by assumption) (by k_is)
    k_steps
    rename News _ _ _ _ => N9
    have N8 := reorderS N9
    k_dflt (refine' c_innerS ?hfd ?hoc ?hvC ?hoW ?hoI ?hoD ?hoS CH ?B ?F ?X N8 ?T ?c ?d ?u h1 hv ?ret)
    case hfd => rfl
    case hoc => assumption
    case hvC => assumption
    case hoW => assumption
    case hoI => assumption
    case hoD => assumption
    case hoS => assumption
    case B => k_asm
    case F => k_asm
    case X => k_asm
    case T => k_asm
    case c => exact rfl
    case d => ktr_room
    case u => ktr_units
    case ret =>
      intro t9 h9 tk9 F9 N9
      (try dsimp only); (try k_sweep); (try k_fold)
      k_steps
      rename News h₀ L _ _ => N7
      obtain ⟨tb', hT, hN⟩ := finishS N7 (by assumption) (by assumption) (by omega)
      exact hret _ _ tb' _ _ (by assumption) hN hT
end
end Mine
end

section -- T0
open PySem PySem.W PyProof.Rows
set_option Elab.async false
namespace Mine
theorem setGen_toks (s : Shared) (g : Nat) (x : GenState) : (s.setGen g x).toks = s.toks := rfl
theorem runs_toks {M : Model} {Γ : Ctx} {p : Pos} {t : Sem Fin} {fs : List Frame} {s s' : Shared} {e : End} (h : Runs M Γ p t fs s e s') : s.toks ≤ s'.toks := by
  induction h <;> first | exact Nat.le_refl _ | assumption | ((try simp only [setGen_toks] at *); (try dsimp only at *); omega)
theorem wakes_toks {M : Model} {Γ : Ctx} {p : Pos} {g : Nat} {r : Resume} {s s' : Shared} {res : GenResult} (h : Wakes M Γ p g r s res s') : s.toks ≤ s'.toks := by
  unfold Wakes at h
  split at h
  · exact h.elim
  · split at h
    · obtain ⟨e, s₁, h1, _, _, rfl⟩ := h
      exact (show s.toks ≤ s₁.toks from runs_toks (s := s.setGen g _) h1)
    · rw [h.2]; exact Nat.le_refl _
    · rw [h.2]; exact Nat.le_refl _
  · obtain ⟨e, s₁, h1, _, _, rfl⟩ := h
    exact (show s.toks ≤ s₁.toks from runs_toks (s := s.setGen g _) h1)
  · rw [h.2]; exact Nat.le_refl _
  · rw [h.2]; exact Nat.le_refl _
theorem wp_toks {α : Type} {M : Model} {Γ : Ctx} {Q : α → Pos → Shared → Prop} {E : Value → Pos → Shared → Prop} (n : Nat) (t : Sem α) : ∀ {p : Pos} {s : Shared}, n ≤ s.toks → Sem.wp M Γ t Q E p s →
    Sem.wp M Γ t (fun a p' s' => Q a p' s' ∧ n ≤ s'.toks) (fun e p' s' => E e p' s' ∧ n ≤ s'.toks) p s := by
  induction t with
  | pure a => exact fun hn h => ⟨h, hn⟩
  | raise e => exact fun hn h => ⟨h, hn⟩
  | unsupported | finish | yield | fork | await | register => exact fun _ h => h
  | rule tag k ih => exact fun hn h => ih _ hn h
  | «at» p' k ih => exact fun hn h => ih _ hn h
  | load a part k ih => exact fun hn ⟨o, ho, h⟩ => ⟨o, ho, ih _ hn h⟩
  | loadIfAlive a k ih => exact fun hn h => ih _ hn h
  | point l k ih => exact fun hn h => ih _ hn h
  | update a part f k ih => exact fun hn ⟨ha, h⟩ => ⟨ha, ih _ hn h⟩
  | alloc o k ih => exact fun hn h => ih _ hn h
  | fresh k ih => exact fun hn h => ih _ (Nat.le_succ_of_le hn) h
  | ask k ih => exact fun hn h => ih _ hn h
  | choose src m k ih => exact fun hn ⟨ha, h⟩ => ⟨ha, ih _ hn h⟩
  | os q l k ih => exact fun hn h => ih _ hn h
  | call c h g l k ih => exact fun hn ⟨r, s', h1, h2⟩ => ⟨r, s', h1, ih _ (Nat.le_trans hn (runs_toks h1)) h2⟩
  | handled own k ih => exact fun hn h => ih _ hn h
  | genState g k ih => exact fun hn ⟨st, hs, h⟩ => ⟨st, hs, ih _ hn h⟩
  | newGen c k ih => exact fun hn h => ih _ hn h
  | resume g r l k ih => exact fun hn ⟨res, s', h1, h2⟩ => ⟨res, s', h1, ih _ (Nat.le_trans hn (wakes_toks h1)) h2⟩
  | stack k ih => exact fun hn h => ih _ hn h
  | thread k ih => exact fun hn h => ih _ hn h
/-- what follows may count on the tokens given out so far -/
theorem tokd {α : Type} {M : Model} {A : Around} {t : Sem α} {Q : α → Shared → Prop} {E : Value → Shared → Prop} {s : Shared} (n : Nat) (hn : n ≤ s.toks)
    (h : wpAny M A t (fun a s' => n ≤ s'.toks → Q a s') (fun e s' => n ≤ s'.toks → E e s') s) : wpAny M A t Q E s :=
  wpAny_mono (M := M) (Q := fun a s' => (n ≤ s'.toks → Q a s') ∧ n ≤ s'.toks) (E := fun e s' => (n ≤ s'.toks → E e s') ∧ n ≤ s'.toks) (fun Γ p hΓ => wp_toks n t hn (h Γ p hΓ)) (fun _ _ x => x.1 x.2) fun _ _ x => x.1 x.2
end Mine
end

section -- C16
open PySem PySem.W PyProof.Rows PySem.Calls PySem.NumText
set_option Elab.async false
set_option maxRecDepth 100000
namespace Mine
theorem fill16 : ∀ (w : World) (h : Heap), (Mine.hd.heap_39 w.params).In h → PySem.Challenge.rw_nb0216_01.row.prog = PySem.Challenge.rw_nb0216_01.row.prog := by
  k_fill; intros; rfl
section
variable {w : World} {p : Program} {loose : List Str} {mean : ExcName → Option Value} {mg mb : Str → Option Value} {dp un : Nat} {gd : Option (List Code)} {cn : Str} {cs : Scope} {a : Addr} {ccd : Value} {cl : List (Str × Addr)} {outer : List Env} {A₀ : Around} {base h₀ : Heap} {L : Addr} {m : Str → Option Value} {s : Shared} {Q E : Value → Shared → Prop} {news : List (Addr × Obj)}
local macro_rules | `(tactic| walk_at "execs cons") => `(tactic| ((with_reducible refine wpAny_execs_cons ?_); (try dsimp only)))
local macro_rules | `(tactic| walk_at "call builtin:str.rstrip") => `(tactic| ((with_unfolding_all refine tokd 1 (Nat.le_add_left 1 _) ?_); (refine SCL.rstrip (hsz := ?hsz) ?_); (case hsz => size_fits); intro t9 k9 hl9 htk9; (dsimp only at htk9)))
local macro_rules | `(tactic| walk_at "call builtin:str.replace") => `(tactic| ((refine SC.replaceW (by show @Ne Nat _ _; omega) (by show @Ne Nat _ _; omega) (by show @Ne Nat _ _; omega) (by decide +kernel) (by omega) (by decide +kernel) ?_); intro t8 k8))
set_option maxHeartbeats 8000000 in
theorem c_ifs {y x : Str} {v : Int} {t : Tok} {tb : List (Addr × Obj)} (B : Below A₀ base outer h₀) (F : Fr h₀ L s.heap m) (X : (Mine.hd.heap_39 w.params).In h₀) (CH : CodeHd base 35 31) (htab : Tab1 31 49 4 q31 tb) (N : News h₀ L s.heap (tb ++ news)) (T : Top p loose mean mg mb h₀) (hcs : cs.kind = .function)
    (hnw : ∀ p ∈ news, p.1 ≠ 31) (hd : dp + 20 < recursionLimit) (hu : un + 200 < cLine) (hy : y.length ≤ 2000) (hc : cleaned y = x) (h1 : x.length ≤ 600) (hv : PySem.intText? x = some v)
    (hret : ∀ t' dr tb' h' tk', Fr h₀ L h' m → News h₀ L h' (tb' ++ news) → Tab1 31 49 4 q31 tb' → Q (.int v t') { s with heap := h', toks := tk', drawn := dr }) :
    wpAny (model PySem.Challenge.rw_nb0216_01.row.prog w) (ktrTop dp un gd cn cs L a ccd cl outer) (call (.ref 43) [.str y t]) Q E s := by
  refine wpAny_call ?_
  k_dflt cell_enter
  k_steps
  have eC : Txt.replace (Txt.rstrip y) (Str.ofString "_") (Str.ofString "") = x := hc
  rw [eC]
  k_dflt (refine' c_strInner (tb := tb) (x := x) (v := v) ?B ?F ?X CH htab ?N ?T ?c hnw ?d ?u h1 hv ?ret)
  case B => k_asm
  case F => k_asm
  case X => k_asm
  case N => k_asm
  case T => k_asm
  case c => exact rfl
  case d => ktr_room
  case u => ktr_units
  case ret =>
    intro t7 dr7 tb7 h7 tk7 F7 N7 hT7
    (try dsimp only); (try k_sweep); (try k_fold)
    k_steps
    exact hret _ _ tb7 _ _ (by assumption) (by assumption) hT7
end
end Mine
end

section -- W1
open PySem PySem.W PyProof.Rows PySem.NumText
set_option Elab.async false
set_option maxRecDepth 100000
namespace Mine
section
variable {prog : Program} {w : World} {A : Around} {E : Value → Shared → Prop} {s : Shared}
theorem takeWhile_all {α : Type} {p : α → Bool} : ∀ {l : List α}, (∀ c ∈ l, p c = true) → l.takeWhile p = l
  | [], _ => rfl
  | c :: l, h => by rw [List.takeWhile_cons, h c (List.mem_cons_self ..), if_pos rfl, takeWhile_all fun d hd => h d (List.mem_cons_of_mem _ hd)]
theorem wpC_ite_true {α : Type} {M : Model} {c : Prop} [Decidable c] {a b : Sem α} {Q : α → Shared → Prop} (hc : c) (h : wpC M A a Q E s) : wpC M A (if c then a else b) Q E s := by rw [if_pos hc]; exact h
theorem wpC_ite_false {α : Type} {M : Model} {c : Prop} [Decidable c] {a b : Sem α} {Q : α → Shared → Prop} (hc : ¬ c) (h : wpC M A b Q E s) : wpC M A (if c then a else b) Q E s := by rw [if_neg hc]; exact h
theorem wpC_mark {own : List String} {e : Value} {Q : Unit → Shared → Prop} (h : Q () s) : wpC (model prog w) A (markTheRefusal own e) Q E s := by
  unfold markTheRefusal
  refine wpC_bind (wpC_stack fun st hst => ?_)
  have e1 : pythonCodeMadeTheCall own (st.map (·.1)) = false := by
    unfold pythonCodeMadeTheCall
    have key : ∀ a b c : Bool, a = true → ((!a && b) && c) = false := by decide
    exact key _ _ _ hst
  rw [e1]
  exact wpC_pure h
theorem codeC_builtin {R : Result → Shared → Prop} {id : String} {args : Args} {b : Builtin} (hb : entryFor table id = some b)
    (h : wpC (model prog w) (A.under (.builtin id args)) (b args)
      (fun fin s' => match fin with | .done f => R (.ok f) s' | .again c' => c'.quiet = true ∧ codeC (model prog w) A c' R s') (fun e s' => R (.error e) s') s) :
    codeC (model prog w) A (.builtin id args) R s := by
  refine codeC_of_tree ?_
  show wpC _ _ (match entryFor table id with | some b => b args | none => unsupported ((withoutEnding? id "#data").getD id)) _ _ s
  rw [hb]; exact h
theorem codeC_call_builtin {R : Result → Shared → Prop} {id : String} {args : Args} {b : Builtin} (hq : plainId id = true) (hb : entryFor table id = some b) (hc : checkBuiltinCall id args = pure ())
    (h : wpC (model prog w) A.in1 (b args) (fun fin s' => match fin with | .done f => R (.ok f) s' | .again c' => c'.quiet = true ∧ codeC (model prog w) A c' R s') (fun e s' => R (.error e) s') s) :
    codeC (model prog w) A (.call (.builtin id) args) R s := by
  refine codeC_of_tree ?_
  show wpC _ A.in1 (do checkBuiltinCall id args; again (.builtin id args)) _ _ s
  rw [hc]
  exact wpC_seq (wpAny_pure (wpC_pure ⟨plainId_quiet hq args, codeC_builtin hb (by rw [Around.under_plainId hq args]; exact h)⟩))
set_option maxHeartbeats 1000000 in
theorem text_refuses {x : Str} {t : Tok} {Q : Value → Shared → Prop} (hs : (numSeenOf x).length ≤ 640) (hr : (int_private% "readNumeral") 0 10 (numSeenOf x) = int_private% "Numeral.invalid") (hh : A.handled = none) (hz : (reprText x).length ≤ 10000)
    (h : ∀ h' e args tk, Heap.MadeExc s.heap h' e "ValueError" args → E (.ref e) { s with heap := h', toks := tk }) : wpC (model prog w) A ((int_private% "intFromText") (.str x t) (numTextOf x) 10) Q E s := by
  with_unfolding_all refine wpC_ite_true (c := (numSeenOf x).length ≤ 640) hs ?_
  refine wpC_seq (wpAny_pure ?_)
  dsimp only
  have hr' : (int_private% "readNumeral") 0 10 (List.takeWhile (fun x => x != 0) (numTextOf x)) = int_private% "Numeral.invalid" := hr
  rw [hr']
  dsimp only
  with_unfolding_all refine wpC_seq (wpAny_pure ?_)
  simp only [Option.isSome_none, Bool.false_and, Bool.false_eq_true, if_false]
  refine wpC_seq (wpAny_rule ?_)
  with_unfolding_all refine wpC_seq (wpAny_pure ?_)
  refine wpC_seq (wpAny_pyRepr_str ?_ (by rw [sizeLine_eq]; omega))
  refine wpC_seq (wpAny_mkStr ?_ (hx := ?_))
  · refine wpC_seq (wpAny_newExc_plain plainExc_ValueError ?_)
    intro h' e he
    refine wpC_bind (wpC_mark ?_)
    exact wpC_of (wpAny_raiseNew_none hh (h _ _ _ _ he))
  · have e1 : ∀ a b : Str, (a ++ b).length = a.length + b.length := fun a b => Array.size_append
    rw [e1, sizeLine_eq]
    have e2 : (Str.ofString (toString "invalid literal for int() with base " ++ toString 10 ++ toString ": ")).length ≤ 100 := by decide +kernel
    have e3 : (⟨(reprText x).cps.extract 0 200⟩ : Str).length ≤ 200 := by
      show ((reprText x).cps.extract 0 200).size ≤ 200
      rw [Array.size_extract]; omega
    omega
set_option maxHeartbeats 1000000 in
theorem new_refuses {x : Str} {t : Tok} {Q : Fin → Shared → Prop} (hs : (numSeenOf x).length ≤ 640) (hr : (int_private% "readNumeral") 0 10 (numSeenOf x) = int_private% "Numeral.invalid") (hh : A.handled = none) (hz : (reprText x).length ≤ 10000)
    (h : ∀ h' e args tk, Heap.MadeExc s.heap h' e "ValueError" args → E (.ref e) { s with heap := h', toks := tk }) : wpC (model prog w) A (Builtin.«int.__new__» ⟨[.type "int", .str x t], []⟩) Q E s := by
  have f1 := F.conv_sub_int
  have f2 := F.madeHere_int
  have f3 := KIN.str_int
  have f4 := KIN.str_idx
  have f5 := KIN.str_trunc
  have f6 : typeOf (.str x t) = pure (.type "str") := rfl
  unfold Builtin.«int.__new__»
  have f0 : isType (.type "int") = pure true := rfl
  simp only [f0, f1, f2, pure_bind, Bool.not_true, Bool.false_eq_true, if_false]
  refine wpC_ite_false (by simp) (wpC_ite_false (by simp) ?_)
  simp only [List.forIn_nil, pure_bind]
  show wpC _ _ ((int_private% "intFromObject") (.str x t) >>= _) _ _ _
  refine wpC_bind ?_
  with_unfolding_all refine wpC_seq (m := callSpecial? (.str x t) (Str.ofString "__int__") [] []) (wpAny_callSpecial?_none (T := "str") (typeIs_str _ _ _) f3 ?_)
  dsimp only
  refine wpC_seq (wpAny_specialOf_val f6 f4 ?_)
  dsimp only [Option.isSome_none]
  simp only [Bool.false_eq_true, if_false]
  refine wpC_seq (wpAny_specialOf_val f6 f5 ?_)
  dsimp only
  refine wpC_seq ?_
  with_unfolding_all refine wpAny_pure (a := some (numTextOf x)) ?_
  dsimp only
  exact text_refuses hs hr hh hz h
/-- int(text) of a text that is no number, with the claim's caller on the stack -/
theorem call_refuses {x : Str} {t : Tok} {Q : Value → Shared → Prop} (hl : x.length ≤ 640) (hx : PySem.intText? x = none) (h0 : ∀ c ∈ x.cps.toList, c ≠ 0 ∧ c < 128) (hh : A.handled = none) (hz : (reprText x).length ≤ 10000)
    (h : ∀ h' e args tk, Heap.MadeExc s.heap h' e "ValueError" args → E (.ref e) { s with heap := h', toks := tk }) : wpC (model prog w) A (call (.type "int") [.str x t]) Q E s := by
  have hs : (numSeenOf x).length ≤ 640 := Nat.le_trans (seen_length x) hl
  have hr : (int_private% "readNumeral") 0 10 (numSeenOf x) = int_private% "Numeral.invalid" := by
    rcases read0 x hs with ⟨m, h1, _⟩ | ⟨_, h1 | ⟨i, _, h2⟩⟩
    · rw [hx] at h1; cases h1
    · exact h1
    · refine absurd ?_ h2
      have e1 : numTextOf x = x.cps.toList := by
        unfold numTextOf
        rw [if_pos]
        rw [Array.all_eq_true']
        intro c hc
        exact decide_eq_true (h0 c (Array.mem_toList_iff.mpr hc)).2
      have e2 : numSeenOf x = x.cps.toList := by
        unfold numSeenOf
        rw [e1]
        exact takeWhile_all fun c hc => by simpa using (h0 c hc).1
      rw [e1, e2]
      exact beq_self_eq_true _
  refine wpC_call (codeC_of_tree (wpC_of ?_))
  show wpAny _ _ (callAny (.type "int") _) _ _ _
  refine wpAny_pure ⟨Code.quiet_builtin _ (by decide +kernel), codeC_builtin F.entry_type_call ?_⟩
  rw [Around.under_plain (weight_type_call_type "int" _ []) (units_type_call_type "int" _ [])]
  obtain ⟨c, tl, hmro⟩ := F.called_int.mro
  have hmade := F.called_int.made
  have h1 := F.called_int.notType
  have h2 := F.called_int.canCreate
  have hct := F.typeCall_int_1 (.str x t)
  unfold Builtin.«type.__call__»
  simp only [h1, h2, hct, hmro, hmade, pure_bind, List.isEmpty_cons, Bool.false_eq_true, if_false]
  refine wpC_bind (wpC_holding (wpC_call (codeC_call_builtin F.called_int.plain F.entry_int_new (F.newCall_int_1 _) ?_)))
  exact new_refuses hs hr hh hz h
end
end Mine
end

section -- W2
open PySem PySem.W PyProof.Rows PySem.Calls PySem.NumText PySem.Spec
set_option Elab.async false
set_option maxRecDepth 100000
namespace Mine
section
variable {M : Model} {A : Around} {E : Value → Shared → Prop} {s' : Shared} {base g g₂ h : Heap} {outer : List Env} {L e t : Addr} {m : Str → Option Value} {env : Env} {Q : Unit → Shared → Prop} {news : List (Addr × Obj)}
/-- a new exception leaves a frame of any kind -/
theorem leaveX_raise {cls : Value} {vs : List Value} (K : Below A base outer g) (hx : Heap.MadeExcOf h s'.heap e cls vs) (F : Fr g L h m) (N : News g L h news) (hf : env.frame = some L) (hk : env.scope.kind = .function)
    (hQ : ∀ h' t, RaisedK base outer e cls t vs news h' → g.UpToSlots h' → Q () { s' with heap := h' }) : wpAny M (A.deeper env) (leaving env (.ref e)) Q E s' := by
  have K' := pushX (env := env) K F hf hk
  have hin : ∀ env' ∈ (env :: outer), ∀ b, env'.frame = some b → b ∈ (env :: outer).filterMap (·.frame) := fun env' he b hb => List.mem_filterMap.mpr ⟨env', he, hb⟩
  have st : base.StaysIn (hideAll h ((env :: outer).filterMap (·.frame))) := fun b o q => hideAll_get _ (K'.stays b o q) fun hm => by
    rw [(K'.frames.mem hm).1] at q; cases q
  have hl : ∀ q ∈ news, (hideAll h ((env :: outer).filterMap (·.frame))).get? q.1 = some q.2 ∧ base.get? q.1 = none := fun q hq => by
    refine ⟨hideAll_get _ (N q hq).1 fun hm => ?_, fresh_of_stays K.stays (N q hq).2.2⟩
    obtain ⟨env', he, hf'⟩ := List.mem_filterMap.mp hm
    rcases List.mem_cons.mp he with rfl | he
    · exact (N q hq).2.1 (Option.some.inj (hf.symm.trans hf')).symm
    · obtain ⟨o, ho, _⟩ := (K.frames.mem (List.mem_filterMap.mpr ⟨env', he, hf'⟩)).2
      rw [(N q hq).2.2] at ho; cases ho
  exact wpAny_leaves_madeW K'.stack hf (fun b o q => of_hideAll _ q) (funFrames_hide K'.frames hin) hx fun h' t x1 x2 x3 x4 =>
    hQ h' t ⟨⟨_, st, hl, x1, x3⟩, x2⟩ (((Heap.UpToSlots.of_keeps F.keep).trans (Heap.UpToSlots.of_keeps hx.keeps)).trans x4)
theorem leaveX_on {cls : Value} {vs : List Value} (K : Below A base outer g) (F : Fr g L g₂ m) (R : RaisedK base (env :: outer) e cls t vs news s'.heap) (hsm : g₂.UpToSlots s'.heap) (hf : env.frame = some L)
    (hQ : ∀ h', RaisedK base outer e cls t vs news h' → g.UpToSlots h' → Q () { s' with heap := h' }) : wpAny M (A.deeper env) (leaving env (.ref e)) Q E s' := by
  obtain ⟨⟨B, hB, hl, hfl, hnew⟩, htup⟩ := R
  exact wpAny_leaves_onW (Around.frames_deeper K.stack) hf hfl fun h' x1 x2 => hQ h' ⟨⟨B, hB, hl, x1, hnew⟩, htup.of_slots x2⟩ ((Heap.UpToSlots.of_keeps F.keep).trans (hsm.trans x2))
theorem raisedK_drop {l : List Env} {cls : Value} {vs : List Value} {news' : List (Addr × Obj)} {h : Heap} (R : RaisedK base l e cls t vs news h) (hs : ∀ q ∈ news', q ∈ news) : RaisedK base l e cls t vs news' h := by
  obtain ⟨⟨B, hB, hl, hfl, hnew⟩, htup⟩ := R
  exact ⟨⟨B, hB, fun q hq => hl q (hs q hq), hfl, hnew⟩, htup⟩
end
section
variable {prog : Program} {w : World} {A₀ A : Around} {s : Shared} {base h₀ : Heap} {outer : List Env} {L : Addr} {m : Str → Option Value} {env : Env} {news : List (Addr × Obj)}
  {R : Result → Shared → Prop} {name qual : Str} {params : Arguments} {body : List Stmt} {scope : Scope} {cl : List (Str × Addr)} {dV kV doc pm cdv ct : Value} {an : Option Addr} {fo : Obj} {f : Addr} {args : Args} {binds : List (Str × Value)}
theorem callXC_plain (B : Below A₀ base outer h₀) (F : Fr h₀ L s.heap m) (N : News h₀ L s.heap news) (hlim : h₀.NoLimit) (hA : A.frames = some (env :: outer)) (hf : env.frame = some L) (hke : env.scope.kind = .function)
    (ho : s.heap.get? f = some fo) (hd : fo.data = .func (fnX name qual params body scope cl dV kV doc pm an cdv ct)) (hcd : s.heap.CodeRec cdv qual) (hroom : A.depth < recursionLimit)
    (hbind : BindsTo s (fnX name qual params body scope cl dV kV doc pm an cdv ct) args binds) (hloc : ∀ y ∈ binds, scope.names.lookup y.1 = some .local)
    (h : ∀ g L' h₁, Fr h₀ L g m → Fr g L' h₁ (fun y => binds.reverse.lookup y) → News g L' h₁ news → Below A base (env :: outer) g → h₀.StaysIn g → (∀ p ∈ news, p.1 < L') →
      wpC (model prog w) (A.deeper (envX qual scope L' f cdv cl)) (execs body (envX qual scope L' f cdv cl))
        (fun fl s' => LeaveK h₀ L m g R (match fl with | .ret v => v | _ => .none) s')
        (fun e s' => wpAny (model prog w) (A.deeper (envX qual scope L' f cdv cl)) (leaving (envX qual scope L' f cdv cl) e) (fun _ s'' => R (.error e) s'') (fun e' s'' => R (.error e') s'') s')
        { s with heap := h₁, toks := s.toks + binds.length })
    (hcell : ∀ x ∈ scope.names, x.2 ≠ .cell) (hco : scope.isCoroutine = false := by rfl) (hgen : scope.isGenerator = false := by rfl) (hk : scope.kind = .function := by rfl) : codeC (model prog w) A (.call (.ref f) args) R s := by
  obtain ⟨FG, BG, st, lv⟩ := groundX (R := R) B F N hA hf hke
  refine codeC_call_function hroom ho hd hco hgen rfl hcd (hbind _ _ _ _ ?_)
  refine wpAny_newFunctionEnv hcell hloc (fun h₁ hns hsb => ⟨(hlim.keeps F.keep).fresh _ hsb, codeC_func ?_⟩) hk
  have hk₁ : ∀ b o, s.heap.get? b = some o → h₁.get? b = some o := fun b o e => hsb.extBut b o (Nat.ne_of_lt (Heap.lt_size e)) (Heap.get?_push_of_some _ e)
  exact wpC_mono (h _ s.heap.objs.size h₁ FG ⟨hns, fun b o e => hk₁ b o (of_hideAll _ e), Nat.le_of_eq (hideAll_size _ _)⟩
    (fun p hp => ⟨hk₁ _ _ (N p hp).1, Nat.ne_of_lt (Heap.lt_size (N p hp).1), hideAll_none _ (List.mem_map_of_mem hp)⟩) BG st (fun p hp => Heap.lt_size (N p hp).1)) (fun fl s' hl => lv _ _ hl) fun _ _ y => y
theorem callXC_cells (B : Below A₀ base outer h₀) (F : Fr h₀ L s.heap m) (N : News h₀ L s.heap news) (hlim : h₀.NoLimit) (hA : A.frames = some (env :: outer)) (hf : env.frame = some L) (hke : env.scope.kind = .function)
    (ho : s.heap.get? f = some fo) (hd : fo.data = .func (fnX name qual params body scope [] dV kV doc pm an cdv ct)) (hcd : s.heap.CodeRec cdv qual) (hroom : A.depth < recursionLimit)
    (hbind : BindsTo s (fnX name qual params body scope [] dV kV doc pm an cdv ct) args binds)
    (hkind : ∀ n, ∀ x ∈ binds, scope.names.lookup x.1 = some .local ∨ (scope.names.lookup x.1 = some .cell ∧ ((cellsFrom n scope.names []).lookup x.1).isSome = true))
    (hnd : ((cellsFrom 0 scope.names []).map (·.1)).Nodup)
    (h : ∀ g L' h₁ tk cells, Fr h₀ L g m → Fr g L' h₁ (bindL (envOfC qual scope L' f cdv).kindOf binds fun _ => none) → News g L' h₁ (cells ++ news) →
      CellsAre (bindC (envOfC qual scope L' f cdv).kindOf binds fun _ => none) (cellsFrom (L' + 1) scope.names []) cells → Below A base (env :: outer) g → h₀.StaysIn g → (∀ p ∈ news, p.1 < L') →
      wpC (model prog w) (A.deeper (envOfC qual scope L' f cdv)) (execs body (envOfC qual scope L' f cdv))
        (fun fl s' => LeaveK h₀ L m g R (match fl with | .ret v => v | _ => .none) s')
        (fun e s' => wpAny (model prog w) (A.deeper (envOfC qual scope L' f cdv)) (leaving (envOfC qual scope L' f cdv) e) (fun _ s'' => R (.error e) s'') (fun e' s'' => R (.error e') s'') s')
        { s with heap := h₁, toks := tk })
    (hco : scope.isCoroutine = false := by rfl) (hgen : scope.isGenerator = false := by rfl) (hk : scope.kind = .function := by rfl) : codeC (model prog w) A (.call (.ref f) args) R s := by
  obtain ⟨FG, BG, st, lv⟩ := groundX (R := R) B F N hA hf hke
  refine codeC_call_function hroom ho hd hco hgen rfl hcd (hbind _ _ _ _ ?_)
  refine wpAny_newFunctionEnv_cells hk (hkind _) fun env' he s' x => ?_
  subst he
  refine ⟨(hlim.keeps F.keep).keeps x.toInCall.keep, codeC_func ?_⟩
  obtain ⟨h₁, tk, rfl, _⟩ := x.done
  have hk₁ := x.toInCall.keep
  obtain ⟨cells, NC, Y⟩ := Cl.news (h₀ := s.heap) (Nat.le_refl _) fun n c hm => ⟨x.cell n c (lookup_of_mem_nodup (cellsFrom_names scope.names 0 (s.heap.objs.size + 1) [] [] rfl ▸ hnd) hm), x.above n c hm⟩
  refine wpC_mono (h _ s.heap.objs.size h₁ tk cells FG ⟨x.toInCall.ns, fun b o e => hk₁ b o (of_hideAll _ e), Nat.le_of_eq (hideAll_size _ _)⟩ (fun p hp => ?_) Y BG st (fun p hp => Heap.lt_size (N p hp).1)) (fun fl s' hl => lv _ _ hl) fun _ _ y => y
  rcases List.mem_append.mp hp with hp | hp
  · refine ⟨(NC p hp).1, (NC p hp).2.1, ?_⟩
    cases q : (hideAll s.heap (news.map (·.1))).get? p.1 with
    | none => rfl
    | some o => have := of_hideAll _ q; rw [(NC p hp).2.2] at this; cases this
  · exact ⟨hk₁ _ _ (N p hp).1, Nat.ne_of_lt (Heap.lt_size (N p hp).1), hideAll_none _ (List.mem_map_of_mem hp)⟩
end
end Mine
end

section -- W3
open PySem PySem.W PyProof.Rows PySem.Calls PySem.NumText PySem.Spec
set_option Elab.async false
set_option maxRecDepth 100000
namespace Mine
theorem fillW3 : ∀ (w : World) (h : Heap), (Mine.hd.heap_39 w.params).In h → PySem.Challenge.rw_nb0216_01.row.prog = PySem.Challenge.rw_nb0216_01.row.prog := by
  k_fill; intros; rfl
section
variable {M : Model} {A : Around} {E : Value → Shared → Prop} {s : Shared} {env : Env} {pos : Pos} {f : Value} {first : List Value} {Q : Value → Shared → Prop} {e : PySem.Expr} {rest : List PySem.Expr} {K : Frag}
theorem callWith_KC (hk : keepIn K f = true) (h : wpAny M A (spliced (backTo pos (starEach (e :: rest) env))) (fun vs s₁ => K.In s₁.heap ∧ wpC M A (call f (first ++ vs)) Q E s₁) E s)
    (he : starEach (e :: rest) env = (false, eval e env) :: starEach rest env := by rfl) (hplain : (backTo pos (starEach rest env)).any (·.1) = false := by rfl) :
    wpC M A (callWith pos f first (backTo pos (starEach (e :: rest) env)) []) Q E s := by
  rw [he] at h ⊢
  exact callWith_C (by show ((false || (backTo pos (starEach rest env)).any (·.1)) || false) = false; rw [hplain]; rfl) (keeps_K hk) (evalArgs_plain h)
theorem callWith_TC {T : String} (h : wpAny M A (spliced (backTo pos (starEach (e :: rest) env))) (fun vs s₁ => wpC M A (call (.type T) (first ++ vs)) Q E s₁) E s)
    (he : starEach (e :: rest) env = (false, eval e env) :: starEach rest env := by rfl) (hplain : (backTo pos (starEach rest env)).any (·.1) = false := by rfl) :
    wpC M A (callWith pos (.type T) first (backTo pos (starEach (e :: rest) env)) []) Q E s := by
  rw [he] at h ⊢
  unfold callWith
  refine wpC_seq (wpAny_holding (wpAny_mono (evalArgs_plain (Q := fun a s₁ => wpC M A (call (.type T) (first ++ a.pos) a.kw) Q E s₁) h) (fun a s₁ h₁ => wpC_seq (wpAny_standAt ?_)) fun _ _ x => x))
  have hp : ((backTo pos ((false, eval e env) :: starEach rest env)).any (·.1) || ([] : List (Option Str × Sem Value)).any (·.1.isNone)) = false := by
    show ((false || (backTo pos (starEach rest env)).any (·.1)) || false) = false
    rw [hplain]; rfl
  simp only [hp]
  refine wpC_seq (wpAny_pure ?_)
  exact wpC_bind (wpC_mono h₁ (fun r s₂ hr => wpC_seq (wpAny_holding (wpAny_point (wpC_pure hr)))) fun _ _ x => x)
end
section
variable {w : World} {p : Program} {loose : List Str} {mean : ExcName → Option Value} {mg mb : Str → Option Value} {dp un : Nat} {gd : Option (List Code)} {cn : Str} {cs : Scope} {a : Addr} {ccd : Value} {cl : List (Str × Addr)} {outer : List Env} {A₀ : Around} {base h₀ : Heap} {L : Addr} {m : Str → Option Value} {s : Shared} {Q E : Value → Shared → Prop} {news : List (Addr × Obj)}
set_option maxHeartbeats 8000000 in
theorem x_innerS {nm qual : Str} {params : Arguments} {body : List Stmt} {scope : Scope} {doc pm ctv : Value} {f c' cW cI cD cS : Addr} {oc oW oI oD oS : Obj} {vC : Array Value} {tq tn ts ta tb : Tok} {vW : Value} {x : Str} {e9 : Addr × Obj}
    (hfd : some (nm, params, body, scope) = innerOf 3 1)
    (hoc : oc.data = .fields vC) (hvC : vC[1]? = some (.str qual tq)) (hoW : oW.data = .cell (some vW)) (hoI : oI.data = .cell (some (.ref f))) (hoD : oD.data = .cell (some (.int 2048 tn))) (hoS : oS.data = .cell (some (.str x ts)))
    (CH : CodeHd base 35 31) (B : Below A₀ base outer h₀) (F : Fr h₀ L s.heap m) (X : (Mine.hd.heap_39 w.params).In h₀)
    (N : News h₀ L s.heap (e9 :: (f, fnMade nm qual params body scope [(Str.ofString "w5pow", cW), (Str.ofString "s", cS), (Str.ofString "inner", cI), (Str.ofString "DIGLIM", cD)] doc pm c' ctv) :: (c', oc) :: (cW, oW) :: (cI, oI) :: (cD, oD) :: (cS, oS) :: news))
    (T : Top p loose mean mg mb h₀) (hcs : cs.kind = .function)
    (hd : dp + 1 < recursionLimit) (hu : un + 8 < cLine) (h1 : x.length ≤ 600) (hx : PySem.intText? x = none) (h0 : ∀ c ∈ x.cps.toList, c ≠ 0 ∧ c < 128) (hz : (reprText x).length ≤ 10000)
    (hraise : ∀ e t vs g h' tk', Fr h₀ L g m → RaisedK base (envX cn cs L a ccd cl :: outer) e (.type "ValueError") t vs (e9 :: (f, fnMade nm qual params body scope [(Str.ofString "w5pow", cW), (Str.ofString "s", cS), (Str.ofString "inner", cI), (Str.ofString "DIGLIM", cD)] doc pm c' ctv) :: (c', oc) :: (cW, oW) :: (cI, oI) :: (cD, oD) :: (cS, oS) :: news) h' →
      g.UpToSlots h' → E (.ref e) { s with heap := h', toks := tk' }) :
    wpC (model PySem.Challenge.rw_nb0216_01.row.prog w) (ktrTop dp un gd cn cs L a ccd cl outer) (call (.ref f) [.int 0 ta, .int (x.length : Int) tb]) Q E s := by
  cases hfd
  refine wpC_call ?_
  refine callXC_plain (env := envX cn cs L a ccd cl) B F N T.nolimit rfl rfl hcs (N _ (List.mem_cons_of_mem _ (List.mem_cons_self ..))).1 rfl (codeRec_news N (List.mem_cons_of_mem _ (List.mem_cons_of_mem _ (List.mem_cons_self ..))) hoc hvC) (by ktr_room) (BindsTo.of_eq rfl) (locs rfl) ?_ (by decide) rfl rfl rfl
  intro g' L' h' FG' F' N' B' st' lt'
  have X' := X.keeps st'
  have T' := T.keeps st'
  (try dsimp only); (try k_lift B'); (try k_fold)
  refine wpC_execs_cons (wpC_If ?_)
  k_steps
  refine wpC_execs_cons (wpC_Return (wpC_Call ?_))
  k_steps
  refine callWith_TC ?_
  k_steps
  rw [slice_full]
  refine call_refuses (by omega) hx h0 rfl hz ?_
  intro h9 e args tk hm
  refine leaveX_raise B' (Heap.MadeExc.of hm) (by assumption) (by assumption) rfl rfl ?_
  intro h8 t R8 U8
  exact hraise _ _ _ _ _ _ FG' R8 U8
end
end Mine
end

section -- W4
open PySem PySem.W PyProof.Rows PySem.Calls PySem.NumText PySem.Spec
set_option Elab.async false
set_option maxRecDepth 100000
namespace Mine
theorem fillW4 : ∀ (w : World) (h : Heap), (Mine.hd.heap_39 w.params).In h → PySem.Challenge.rw_nb0216_01.row.prog = PySem.Challenge.rw_nb0216_01.row.prog := by
  k_fill; intros; rfl
section
variable {M : Model} {A : Around} {E : Value → Shared → Prop} {s : Shared} {env : Env} {pos : Pos} {first : List Value} {Q : Value → Shared → Prop} {e : PySem.Expr} {rest : List PySem.Expr} {q : Addr}
theorem callWith_FC (h : wpAny M A (spliced (backTo pos (starEach (e :: rest) env))) (fun vs s₁ => FnAt q s₁.heap ∧ wpC M A (call (.ref q) (first ++ vs)) Q E s₁) E s)
    (he : starEach (e :: rest) env = (false, eval e env) :: starEach rest env := by rfl) (hplain : (backTo pos (starEach rest env)).any (·.1) = false := by rfl) :
    wpC M A (callWith pos (.ref q) first (backTo pos (starEach (e :: rest) env)) []) Q E s := by
  rw [he] at h ⊢
  exact callWith_C (by show ((false || (backTo pos (starEach rest env)).any (·.1)) || false) = false; rw [hplain]; rfl) keeps_F (evalArgs_plain h)
end
section
variable {prog : Program} {w : World} {A₀ A : Around} {s : Shared} {base h₀ : Heap} {L : Addr} {m : Str → Option Value} {news : List (Addr × Obj)} {K : Frag} {p : Program} {loose : List Str} {mean : ExcName → Option Value} {mg mb : Str → Option Value}
theorem defX {env : Env} {outer : List Env} {R : Result → Shared → Prop} {name qual : Str} {params : Arguments} {body : List Stmt} {scope : Scope} {dV kV doc pm cdv ct oc : Value} {an od : Option Addr} {osl : Array (Option Value)} {f : Addr} {args : Args} {binds : List (Str × Value)}
    (B : Below A₀ base outer h₀) (F : Fr h₀ L s.heap m) (X₀ : K.In h₀) (N : News h₀ L s.heap news) (T : Top p loose mean mg mb h₀) (hA : A.frames = some (env :: outer)) (hf : env.frame = some L) (hke : env.scope.kind = .function)
    (ho : K.lookup f = some ⟨oc, od, .func (fnOf name qual params body scope dV kV doc pm an cdv ct), osl⟩) (hcd : codeIn K cdv qual = true) (hroom : A.depth < recursionLimit)
    (hbind : BindsTo s (fnOf name qual params body scope dV kV doc pm an cdv ct) args binds) (hloc : ∀ y ∈ binds, scope.names.lookup y.1 = some .local)
    (h : ∀ g L' h₁, Fr h₀ L g m → Fr g L' h₁ (fun y => binds.reverse.lookup y) → News g L' h₁ news → Below A base (env :: outer) g → K.In g → Top p loose mean mg mb g →
      wpC (model prog w) (A.deeper (envOf qual scope L' f cdv)) (execs body (envOf qual scope L' f cdv))
        (fun fl s' => LeaveK h₀ L m g R (match fl with | .ret v => v | _ => .none) s')
        (fun e s' => wpAny (model prog w) (A.deeper (envOf qual scope L' f cdv)) (leaving (envOf qual scope L' f cdv) e) (fun _ s'' => R (.error e) s'') (fun e' s'' => R (.error e') s'') s')
        { s with heap := h₁, toks := s.toks + binds.length })
    (hco : scope.isCoroutine = false) (hgen : scope.isGenerator = false) (hk : scope.kind = .function) (hcell : ∀ x ∈ scope.names, x.2 ≠ .cell) : codeC (model prog w) A (.call (.ref f) args) R s :=
  callXC_plain (cl := []) B F N T.nolimit hA hf hke ((X₀.keeps F.keep) _ _ ho) rfl (codeRec_of (X₀.keeps F.keep) hcd) hroom hbind hloc (fun g L' h₁ FG F' N' B' st _ => h g L' h₁ FG F' N' B' (X₀.keeps st) (T.keeps st)) hcell hco hgen hk
theorem defXC {env : Env} {outer : List Env} {R : Result → Shared → Prop} {name qual : Str} {params : Arguments} {body : List Stmt} {scope : Scope} {dV kV doc pm cdv ct oc : Value} {an od : Option Addr} {osl : Array (Option Value)} {f : Addr} {args : Args} {binds : List (Str × Value)}
    (B : Below A₀ base outer h₀) (F : Fr h₀ L s.heap m) (X₀ : K.In h₀) (N : News h₀ L s.heap news) (T : Top p loose mean mg mb h₀) (hA : A.frames = some (env :: outer)) (hf : env.frame = some L) (hke : env.scope.kind = .function)
    (ho : K.lookup f = some ⟨oc, od, .func (fnOf name qual params body scope dV kV doc pm an cdv ct), osl⟩) (hcd : codeIn K cdv qual = true) (hroom : A.depth < recursionLimit)
    (hbind : BindsTo s (fnOf name qual params body scope dV kV doc pm an cdv ct) args binds) (hkind : (binds.all fun y => scope.names.lookup y.1 == some .local || scope.names.lookup y.1 == some .cell) = true)
    (hnd : ((cellsFrom 0 scope.names []).map (·.1)).Nodup)
    (h : ∀ g L' h₁ tk cells, Fr h₀ L g m → Fr g L' h₁ (bindL (envOfC qual scope L' f cdv).kindOf binds fun _ => none) → News g L' h₁ (cells ++ news) →
      CellsAre (bindC (envOfC qual scope L' f cdv).kindOf binds fun _ => none) (cellsFrom (L' + 1) scope.names []) cells → Below A base (env :: outer) g → K.In g → Top p loose mean mg mb g → (∀ p ∈ news, p.1 < L') →
      wpC (model prog w) (A.deeper (envOfC qual scope L' f cdv)) (execs body (envOfC qual scope L' f cdv))
        (fun fl s' => LeaveK h₀ L m g R (match fl with | .ret v => v | _ => .none) s')
        (fun e s' => wpAny (model prog w) (A.deeper (envOfC qual scope L' f cdv)) (leaving (envOfC qual scope L' f cdv) e) (fun _ s'' => R (.error e) s'') (fun e' s'' => R (.error e') s'') s')
        { s with heap := h₁, toks := tk })
    (hco : scope.isCoroutine = false) (hgen : scope.isGenerator = false) (hk : scope.kind = .function) : codeC (model prog w) A (.call (.ref f) args) R s :=
  callXC_cells B F N T.nolimit hA hf hke ((X₀.keeps F.keep) _ _ ho) rfl (codeRec_of (X₀.keeps F.keep) hcd) hroom hbind (kindsX hkind) hnd (fun g L' h₁ tk cells FG F' N' Y B' st l => h g L' h₁ tk cells FG F' N' Y B' (X₀.keeps st) (T.keeps st) l) hco hgen hk
end
section
variable {w : World} {p : Program} {loose : List Str} {mean : ExcName → Option Value} {mg mb : Str → Option Value} {dp un : Nat} {gd : Option (List Code)} {cn : Str} {cs : Scope} {a : Addr} {ccd : Value} {cl : List (Str × Addr)} {outer : List Env} {A₀ : Around} {base h₀ : Heap} {L : Addr} {m : Str → Option Value} {s : Shared} {Q E : Value → Shared → Prop} {news : List (Addr × Obj)}
local macro_rules | `(tactic| walk_at "call ref") => `(tactic| ((with_reducible show wpAny _ _ (call (Value.ref 29) _) _ _ _); k_dflt (refine' c_powers ?B ?F ?X ?N ?T ?c ?d ?u ?i ?j ?_; (case B => k_asm); (case F => k_asm); (case X => k_asm); (case N => k_asm); (case T => k_asm); (case c => first | exact rfl | assumption); (case d => ktr_room); (case u => ktr_units); (case i => omega); (case j => omega); k_whole); intro D9 o9 dr9 h9 tk9 F9 N9 l9; (try k_lt l9); (try dsimp only); (try k_sweep); (try k_fold)))
theorem finishSR {base h : Heap} {l : List Env} {e t c P : Addr} {cls : Value} {ws : List Value} {oc : Obj} {e9 f cW cI cD cS : Addr × Obj} {ln col : Nat} {qual : Str} {vs : Array Value} {tk : Tok} {news : List (Addr × Obj)}
    (R : RaisedK base l e cls t ws (e9 :: f :: (c, oc) :: cW :: cI :: cD :: cS :: (P, tabObj #[rawInt (ln : Int), rawInt (col : Int), .ref c]) :: news) h) (h1 : oc.data = .fields vs) (h2 : vs[1]? = some (.str qual tk)) (h3 : @LT.lt Nat _ 142 c) :
    ∃ tb', Tab1 P ln col qual tb' ∧ RaisedK base l e cls t ws (tb' ++ news) h :=
  ⟨[(P, tabObj #[rawInt (ln : Int), rawInt (col : Int), .ref c]), (c, oc)], Or.inr ⟨c, oc, vs, tk, rfl, h1, h2, h3⟩, raisedK_drop R fun p hp => by simp only [List.mem_cons, List.cons_append, List.nil_append] at hp ⊢; grind⟩
set_option maxHeartbeats 8000000 in
theorem x_strInner {x : Str} {t : Tok} {tb : List (Addr × Obj)} (B : Below A₀ base outer h₀) (F : Fr h₀ L s.heap m) (X : (Mine.hd.heap_39 w.params).In h₀) (CH : CodeHd base 35 31) (htab : Tab1 31 49 4 q31 tb) (N : News h₀ L s.heap (tb ++ news)) (T : Top p loose mean mg mb h₀) (hcs : cs.kind = .function)
    (hnw : ∀ p ∈ news, p.1 ≠ 31) (hd : dp + 10 < recursionLimit) (hu : un + 100 < cLine) (h1 : x.length ≤ 600) (hx : PySem.intText? x = none) (h0 : ∀ c ∈ x.cps.toList, c ≠ 0 ∧ c < 128) (hz : (reprText x).length ≤ 10000)
    (hraise : ∀ e t vs tb' g h' tk' dr, Fr h₀ L g m → RaisedK base (envX cn cs L a ccd cl :: outer) e (.type "ValueError") t vs (tb' ++ news) h' → Tab1 31 49 4 q31 tb' → g.UpToSlots h' → E (.ref e) { s with heap := h', toks := tk', drawn := dr }) :
    wpC (model PySem.Challenge.rw_nb0216_01.row.prog w) (ktrTop dp un gd cn cs L a ccd cl outer) (call (.ref 36) [.str x t]) Q E s := by
  rcases htab with rfl | ⟨cT, ocT, vT, tT, rfl, hocT, hvT, hcT⟩
  · refine wpC_call ?_
    simp only [List.cons_append, List.nil_append] at N
    k_dflt (first | (refine' defXC ?k1 ?k2 ?k3 ?k4 ?k5 ?kA ?kF ?kK ?k6 ?k7 ?k8 ?k9 ?kB ?kD ?_ ?c2 ?c3 ?c4; (case kA => exact rfl); (case kF => exact rfl); (case kK => assumption); (case k1 => k_asm); (case k2 => k_asm); (case k3 => k_asm); (case k4 => k_asm); (case k5 => k_asm); (case k6 => k_is); (case k7 => k_is); (case k8 => ktr_room); (case k9 => first | exact BindsTo.of_eq rfl | exact binds_K (by k_in) rfl (by k_is) rfl rfl rfl); (case kB => exact rfl); (case kD => decide +kernel); (case c2 => exact rfl); (case c3 => exact rfl); (case c4 => exact rfl); k_whole; intro g' L' h' tk' cells' FG' F' N' Y' B' X' T' l1; (try k_lt l1); k_cells Y'; (try simp only [List.cons_append, List.nil_append] at N'); (try dsimp only); (try k_lift B'); (try k_fold)) | cell_enter)
    rename _ ∧ AllLt _ news => l9
    have hAll := l9.2
    have hL := frame_gt (by assumption) (by assumption) (by k_is)
    refine wpC_execs_pre (pre := [_, _, _]) (post := [_]) ?_
    k_steps
    refine wpC_execs_cons (wpC_Return (wpC_Call ?_))
    k_steps
    refine callWith_FC ?_
    k_steps
    rename News _ _ _ _ => N9
    k_dflt (refine' x_innerS ?hfd ?hoc ?hvC ?hoW ?hoI ?hoD ?hoS CH ?B ?F ?X N9 ?T ?c ?d ?u h1 hx h0 hz ?raise)
    case hfd => rfl
    case hoc => assumption
    case hvC => assumption
    case hoW => assumption
    case hoI => assumption
    case hoD => assumption
    case hoS => assumption
    case B => k_asm
    case F => k_asm
    case X => k_asm
    case T => k_asm
    case c => exact rfl
    case d => ktr_room
    case u => ktr_units
    case raise =>
      intro e t vs g h8 tk8 Fg R8 U8
      (try dsimp only)
      with_unfolding_all refine leaveX_on (by assumption) Fg R8 U8 rfl ?_
      intro h7 R7 U7
      obtain ⟨tb', hT, hR⟩ := finishSR R7 (by assumption) (by assumption) (by omega)
      exact hraise _ _ _ tb' _ _ _ _ (by assumption) hR hT U7
  · refine wpC_call ?_
    simp only [List.cons_append, List.nil_append] at N
    k_dflt (first | (refine' defXC ?k1 ?k2 ?k3 ?k4 ?k5 ?kA ?kF ?kK ?k6 ?k7 ?k8 ?k9 ?kB ?kD ?_ ?c2 ?c3 ?c4; (case kA => exact rfl); (case kF => exact rfl); (case kK => assumption); (case k1 => k_asm); (case k2 => k_asm); (case k3 => k_asm); (case k4 => k_asm); (case k5 => k_asm); (case k6 => k_is); (case k7 => k_is); (case k8 => ktr_room); (case k9 => first | exact BindsTo.of_eq rfl | exact binds_K (by k_in) rfl (by k_is) rfl rfl rfl); (case kB => exact rfl); (case kD => decide +kernel); (case c2 => exact rfl); (case c3 => exact rfl); (case c4 => exact rfl); k_whole; intro g' L' h' tk' cells' FG' F' N' Y' B' X' T' l1; (try k_lt l1); k_cells Y'; (try simp only [List.cons_append, List.nil_append] at N'); (try dsimp only); (try k_lift B'); (try k_fold)) | cell_enter)
    rename _ ∧ _ ∧ AllLt _ news => l9
    have hAll := l9.2.2
    have hL := frame_gt (by assumption) (by assumption) (by k_is)
    refine wpC_execs_pre (pre := [_, _, _]) (post := [_]) ?_
    k_steps
    refine wpC_execs_cons (wpC_Return (wpC_Call ?_))
    k_steps
    refine callWith_FC ?_
    k_steps
    rename News _ _ _ _ => N9
    have N8 := reorderS N9
    k_dflt (refine' x_innerS ?hfd ?hoc ?hvC ?hoW ?hoI ?hoD ?hoS CH ?B ?F ?X N8 ?T ?c ?d ?u h1 hx h0 hz ?raise)
    case hfd => rfl
    case hoc => assumption
    case hvC => assumption
    case hoW => assumption
    case hoI => assumption
    case hoD => assumption
    case hoS => assumption
    case B => k_asm
    case F => k_asm
    case X => k_asm
    case T => k_asm
    case c => exact rfl
    case d => ktr_room
    case u => ktr_units
    case raise =>
      intro e t vs g h8 tk8 Fg R8 U8
      (try dsimp only)
      with_unfolding_all refine leaveX_on (by assumption) Fg R8 U8 rfl ?_
      intro h7 R7 U7
      obtain ⟨tb', hT, hR⟩ := finishSR R7 (by assumption) (by assumption) (by omega)
      exact hraise _ _ _ tb' _ _ _ _ (by assumption) hR hT U7
end
end Mine
end

section -- W5
open PySem PySem.W PyProof.Rows PySem.Calls PySem.NumText PySem.Spec
set_option Elab.async false
set_option maxRecDepth 100000
namespace Mine
theorem fillW5 : ∀ (w : World) (h : Heap), (Mine.hd.heap_39 w.params).In h → PySem.Challenge.rw_nb0216_01.row.prog = PySem.Challenge.rw_nb0216_01.row.prog := by
  k_fill; intros; rfl
section
variable {w : World} {p : Program} {loose : List Str} {mean : ExcName → Option Value} {mg mb : Str → Option Value} {dp un : Nat} {gd : Option (List Code)} {cn : Str} {cs : Scope} {a : Addr} {ccd : Value} {cl : List (Str × Addr)} {outer : List Env} {A₀ : Around} {base h₀ : Heap} {L : Addr} {m : Str → Option Value} {s : Shared} {Q E : Value → Shared → Prop} {news : List (Addr × Obj)}
local macro_rules | `(tactic| walk_at "execs cons") => `(tactic| ((with_reducible refine wpAny_execs_cons ?_); (try dsimp only)))
local macro_rules | `(tactic| walk_at "call builtin:str.rstrip") => `(tactic| ((with_unfolding_all refine tokd 1 (Nat.le_add_left 1 _) ?_); (refine SCL.rstrip (hsz := ?hsz) ?_); (case hsz => size_fits); intro t9 k9 hl9 htk9; (dsimp only at htk9)))
local macro_rules | `(tactic| walk_at "call builtin:str.replace") => `(tactic| ((refine SC.replaceW (by show @Ne Nat _ _; omega) (by show @Ne Nat _ _; omega) (by show @Ne Nat _ _; omega) (by decide +kernel) (by omega) (by decide +kernel) ?_); intro t8 k8))
set_option maxHeartbeats 8000000 in
theorem x_ifs {y x : Str} {t : Tok} {tb : List (Addr × Obj)} (B : Below A₀ base outer h₀) (F : Fr h₀ L s.heap m) (X : (Mine.hd.heap_39 w.params).In h₀) (CH : CodeHd base 35 31) (htab : Tab1 31 49 4 q31 tb) (N : News h₀ L s.heap (tb ++ news)) (T : Top p loose mean mg mb h₀) (hcs : cs.kind = .function)
    (hnw : ∀ p ∈ news, p.1 ≠ 31) (hd : dp + 20 < recursionLimit) (hu : un + 200 < cLine) (hy : y.length ≤ 2000) (hc : cleaned y = x) (h1 : x.length ≤ 600) (hx : PySem.intText? x = none) (h0 : ∀ c ∈ x.cps.toList, c ≠ 0 ∧ c < 128) (hz : (reprText x).length ≤ 10000)
    (hraise : ∀ e t vs tb' g h' tk' dr, Fr h₀ L g m → RaisedK base (envX cn cs L a ccd cl :: outer) e (.type "ValueError") t vs (tb' ++ news) h' → Tab1 31 49 4 q31 tb' → g.UpToSlots h' → E (.ref e) { s with heap := h', toks := tk', drawn := dr }) :
    wpC (model PySem.Challenge.rw_nb0216_01.row.prog w) (ktrTop dp un gd cn cs L a ccd cl outer) (call (.ref 43) [.str y t]) Q E s := by
  refine wpC_call ?_
  k_dflt (first | (refine' defX ?k1 ?k2 ?k3 ?k4 ?k5 ?kA ?kF ?kK ?k6 ?k7 ?k8 ?k9 ?kB ?_ ?c2 ?c3 ?c4 ?c5; (case kA => exact rfl); (case kF => exact rfl); (case kK => assumption); (case k1 => k_asm); (case k2 => k_asm); (case k3 => k_asm); (case k4 => k_asm); (case k5 => k_asm); (case k6 => k_is); (case k7 => k_is); (case k8 => ktr_room); (case k9 => exact BindsTo.of_eq rfl); (case c5 => decide); (case kB => exact locs rfl); (case c2 => exact rfl); (case c3 => exact rfl); (case c4 => exact rfl); k_whole; intro g' L' h' FG' F' N' B' X' T'; (try dsimp only); (try k_lift B'); (try k_fold)) | cell_enter)
  refine wpC_execs_pre (pre := [_]) (post := [_]) ?_
  k_steps
  have eC : Txt.replace (Txt.rstrip y) (Str.ofString "_") (Str.ofString "") = x := hc
  refine wpC_execs_cons (wpC_Return (wpC_Call ?_))
  k_steps
  refine callWith_KC (K := Mine.hd.heap_39 w.params) (by k_is) ?_
  k_steps
  rw [eC]
  k_dflt (refine' x_strInner (tb := tb) (x := x) ?B ?F ?X CH htab ?N ?T ?c hnw ?d ?u h1 hx h0 hz ?raise)
  case B => k_asm
  case F => k_asm
  case X => k_asm
  case N => k_asm
  case T => k_asm
  case c => exact rfl
  case d => ktr_room
  case u => ktr_units
  case raise =>
    intro e t vs tb' g h8 tk8 dr8 Fg R8 hT U8
    (try dsimp only)
    with_unfolding_all refine leaveX_on (by assumption) Fg R8 U8 rfl ?_
    intro h7 R7 U7
    exact hraise _ _ _ tb' _ _ _ _ (by assumption) R7 hT U7
end
end Mine
end

section -- C17
open PySem PySem.W PyProof.Rows PySem.Calls PySem.NumText
set_option Elab.async false
set_option maxRecDepth 100000
namespace Mine
theorem fill17 : ∀ (w : World) (h : Heap), (Mine.hd.heap_39 w.params).In h → PySem.Challenge.rw_nb0216_01.row.prog = PySem.Challenge.rw_nb0216_01.row.prog := by
  k_fill; intros; rfl
section
variable {w : World} {p : Program} {loose : List Str} {mean : ExcName → Option Value} {mg mb : Str → Option Value} {dp un : Nat} {gd : Option (List Code)} {cn : Str} {cs : Scope} {a : Addr} {ccd : Value} {cl : List (Str × Addr)} {outer : List Env} {A₀ : Around} {base h₀ : Heap} {L : Addr} {m : Str → Option Value} {s : Shared} {Q E : Value → Shared → Prop} {news : List (Addr × Obj)}
theorem reorderQ {h₀ h : Heap} {L : Addr} {a b c d e f : Addr × Obj} {r : List (Addr × Obj)} (N : News h₀ L h (a :: b :: c :: d :: e :: f :: r)) : News h₀ L h (a :: f :: r) :=
  cb_drop N fun p hp => by simp only [List.mem_cons] at hp ⊢; grind
/-- the wrong place that the law writes in -/
def wrongOf (d way : Int) : Int := if d < 10 then Int.fmod (d + 1 + Int.fmod way 9) 10 else 10 + Int.fmod (d - 9 + Int.fmod way 5) 6
local macro_rules | `(tactic| kmk_nums) => `(tactic| first | exact kmk_upto (by assumption) (by omega) | exact kmk_from (by assumption) (by omega))
set_option maxHeartbeats 8000000 in
theorem c_changed {D : Addr} {vs : List Value} {ds : List Int} {e at' : Nat} {way : Int} {ta tw : Tok} (B : Below A₀ base outer h₀) (F : Fr h₀ L s.heap m) (X : (Mine.hd.heap_39 w.params).In h₀) (N : News h₀ L s.heap ((D, W.listOf vs.toArray e) :: news)) (T : Top p loose mean mg mb h₀) (hcs : cs.kind = .function)
    (hd : dp + 4 < recursionLimit) (hu : un + 40 < cLine) (hI : IntsAre vs ds) (hl : ds.length ≤ 12) (ha : at' < ds.length)
    (hret : ∀ D' vs' e' h' tk', Fr h₀ L h' m → News h₀ L h' ((D', W.listOf (List.toArray vs') e') :: (D, W.listOf vs.toArray e) :: news) → IntsAre vs' (ds.take at' ++ [wrongOf (ds.getD at' 0) way] ++ ds.drop (at' + 1)) → D < D' → (∀ p ∈ news, p.1 < D') → Q (.ref D') { s with heap := h', toks := tk' }) :
    wpAny (model PySem.Challenge.rw_nb0216_01.row.prog w) (ktrTop dp un gd cn cs L a ccd cl outer) (call (.ref 132) [.ref D, .int (at' : Int) ta, .int way tw]) Q E s := by
  refine wpAny_call ?_
  k_dflt cell_enter
  k_steps
  · rename News h₀ L _ _ => N9
    rename IntsAre _ (_ ++ _ ++ _) => I9
    rename _ ∧ _ ∧ _ ∧ _ ∧ _ ∧ AllLt _ _ => l9
    rename ds.getD _ 0 < 10 => hlt
    have e1 : (at' : Int).toNat = at' := Int.toNat_natCast _
    have e2 : ((at' : Int) + 1).toNat = at' + 1 := by omega
    rw [e1, e2] at I9
    rw [e1] at hlt
    refine hret _ _ _ _ _ (by assumption) (reorderQ N9) ?_ l9.2.2.2.2.1 (fun p hp => allLt_mem l9.2.2.2.2.2 p hp)
    unfold wrongOf
    rw [if_pos hlt]
    exact I9
  · rename News h₀ L _ _ => N9
    rename IntsAre _ (_ ++ _ ++ _) => I9
    rename _ ∧ _ ∧ _ ∧ _ ∧ _ ∧ AllLt _ _ => l9
    rename ¬ ds.getD _ 0 < 10 => hlt
    have e1 : (at' : Int).toNat = at' := Int.toNat_natCast _
    have e2 : ((at' : Int) + 1).toNat = at' + 1 := by omega
    rw [e1, e2] at I9
    rw [e1] at hlt
    refine hret _ _ _ _ _ (by assumption) (reorderQ N9) ?_ l9.2.2.2.2.1 (fun p hp => allLt_mem l9.2.2.2.2.2 p hp)
    unfold wrongOf
    rw [if_neg hlt]
    exact I9
end
end Mine
end

section -- P2
open PySem PySem.W PyProof.Rows PySem.NumText
set_option Elab.async false
set_option maxRecDepth 100000
namespace Mine
theorem snocInd {α : Type} {P : List α → Prop} (h0 : P []) (h1 : ∀ l c, P l → P (l ++ [c])) (l : List α) : P l := by
  have key : ∀ r : List α, P r.reverse := by
    intro r
    induction r with
    | nil => exact h0
    | cons c r ih => rw [List.reverse_cons]; exact h1 _ _ ih
  have := key l.reverse
  rwa [List.reverse_reverse] at this
/-- the decimal signs of a place -/
def sgn (n : Nat) : List Nat := if n < 10 then [48 + n] else [49, 38 + n]
def sgns (ns : List Nat) : List Nat := ns.flatMap sgn
theorem sgns_append (a b : List Nat) : sgns (a ++ b) = sgns a ++ sgns b := List.flatMap_append
theorem sgn_digits {n : Nat} (h : n < 16) : AllDigits (sgn n) := by
  intro c hc
  unfold sgn at hc
  split at hc
  · rw [List.mem_singleton.mp hc]; omega
  · rcases List.mem_cons.mp hc with rfl | hc
    · omega
    · rw [List.mem_singleton.mp hc]; omega
theorem sgns_digits {ns : List Nat} (h : ∀ n ∈ ns, n < 16) : AllDigits (sgns ns) := by
  intro c hc
  obtain ⟨n, hn, hc⟩ := List.mem_flatMap.mp hc
  exact sgn_digits (h n hn) c hc
theorem sgn_len (n : Nat) : (sgn n).length ≤ 2 := by unfold sgn; split <;> simp
theorem sgns_len : ∀ ns : List Nat, (sgns ns).length ≤ 2 * ns.length
  | [] => Nat.le_refl _
  | n :: ns => by
    have h1 := sgn_len n
    have h2 := sgns_len ns
    show (sgn n ++ sgns ns).length ≤ _
    rw [List.length_append, List.length_cons]; omega
theorem dv_go (a b : List Nat) : digitsVal (a ++ b) = digitsVal a * 10 ^ b.length + digitsVal b := by
  induction b using snocInd with
  | h0 => simp [digitsVal]
  | h1 b c ih =>
    rw [← List.append_assoc, digitsVal_snoc, ih, digitsVal_snoc, List.length_append]
    simp only [List.length_cons, List.length_nil, Nat.zero_add, Nat.pow_succ]
    rw [Nat.add_mul, Nat.mul_assoc]
    omega
theorem dv_lt {cs : List Nat} (h : AllDigits cs) : digitsVal cs < 10 ^ cs.length := by
  induction cs using snocInd with
  | h0 => simp [digitsVal]
  | h1 b c ih =>
    have h1 := ih fun d hd => h d (List.mem_append_left _ hd)
    have h2 := h c (List.mem_append_right _ (List.mem_singleton.mpr rfl))
    rw [digitsVal_snoc, List.length_append]
    simp only [List.length_cons, List.length_nil, Nat.zero_add, Nat.pow_succ]
    omega
/-- the paper way of dividing -/
theorem paper_val : ∀ {cs : List Nat}, AllDigits cs → paper (cs.map fun (c : Nat) => (c : Int)) = (((digitsVal cs / 97 : Nat) : Int), ((digitsVal cs % 97 : Nat) : Int)) := by
  intro cs h
  induction cs using snocInd with
  | h0 => rfl
  | h1 b c ih =>
    have h1 := ih fun d hd => h d (List.mem_append_left _ hd)
    have h2 := h c (List.mem_append_right _ (List.mem_singleton.mpr rfl))
    rw [List.map_append, List.map_cons, List.map_nil, paper_snoc, h1, digitsVal_snoc]
    unfold paperStep
    have e : ((digitsVal b % 97 : Nat) : Int) * 10 + ((c : Int) - 48) = ((digitsVal b % 97 * 10 + (c - 48) : Nat) : Int) := by omega
    dsimp only
    rw [e, Int.fdiv_eq_ediv_of_nonneg _ (by decide), Int.fmod_eq_emod_of_nonneg _ (by decide)]
    refine Prod.ext ?_ ?_
    · show ((digitsVal b / 97 : Nat) : Int) * 10 + ((digitsVal b % 97 * 10 + (c - 48) : Nat) : Int) / 97 = _
      generalize digitsVal b = v
      generalize c - 48 = d
      omega
    · show ((digitsVal b % 97 * 10 + (c - 48) : Nat) : Int) % 97 = _
      generalize digitsVal b = v
      generalize c - 48 = d
      omega
/-- ten is invertible modulo 97 -/
theorem ten_pow (d : Int) : ∀ k : Nat, (97 : Int) ∣ d * 10 ^ k → (97 : Int) ∣ d
  | 0, h => by simpa using h
  | k + 1, h => by
    refine ten_pow d k ?_
    rw [Int.pow_succ, ← Int.mul_assoc] at h
    generalize d * 10 ^ k = x at *
    omega
/-- one place written wrong -/
theorem sub_wrong {u v : List Nat} {a b : Nat} (ha : a < 16) (hb : b < 16) (hc : (a < 10 ∧ b < 10) ∨ (10 ≤ a ∧ 10 ≤ b)) (hne : a ≠ b) (h : digitsVal (u ++ sgn a ++ v) % 97 = 1) : digitsVal (u ++ sgn b ++ v) % 97 ≠ 1 := by
  intro h'
  rw [dv_go, dv_go u] at h h'
  have e : ∃ L : Nat, (sgn a).length = L ∧ (sgn b).length = L ∧ ((digitsVal (sgn b) : Int) - (digitsVal (sgn a) : Int) = (b : Int) - (a : Int)) := by
    unfold sgn
    rcases hc with ⟨h1, h2⟩ | ⟨h1, h2⟩
    · rw [if_pos h1, if_pos h2]
      refine ⟨1, rfl, rfl, ?_⟩
      show (((0 * 10 + (48 + b - 48) : Nat) : Int)) - ((0 * 10 + (48 + a - 48) : Nat) : Int) = _
      omega
    · rw [if_neg (by omega), if_neg (by omega)]
      refine ⟨2, rfl, rfl, ?_⟩
      show ((((0 * 10 + (49 - 48)) * 10 + (38 + b - 48) : Nat) : Int)) - (((0 * 10 + (49 - 48)) * 10 + (38 + a - 48) : Nat) : Int) = _
      omega
  obtain ⟨L, e1, e2, e3⟩ := e
  rw [e1] at h
  rw [e2] at h'
  have key : (97 : Int) ∣ ((b : Int) - (a : Int)) * 10 ^ v.length := by
    rw [← e3]
    generalize digitsVal u * 10 ^ L = U at h h'
    generalize digitsVal (sgn a) = x at *
    generalize digitsVal (sgn b) = y at *
    generalize digitsVal v = V at *
    have p : ((10 ^ v.length : Nat) : Int) = (10 : Int) ^ v.length := by push_cast; rfl
    rw [← p]
    generalize 10 ^ v.length = T at *
    have z : ((U + y) * T + V : Nat) = ((U + x) * T + V : Nat) + 0 ∨ True := .inr trivial
    have h1 : (((U + x) * T + V : Nat) : Int) % 97 = 1 := by omega
    have h2 : (((U + y) * T + V : Nat) : Int) % 97 = 1 := by omega
    have h3 : ((y : Int) - (x : Int)) * (T : Int) = (((U + y) * T + V : Nat) : Int) - (((U + x) * T + V : Nat) : Int) := by
      push_cast
      rw [Int.add_mul, Int.add_mul, Int.sub_mul]
      omega
    rw [h3]
    omega
  have := ten_pow _ _ key
  omega
/-- two neighbours turned about -/
theorem sub_turn {u v : List Nat} {a b : Nat} (ha : a < 16) (hb : b < 16) (hc : (a < 10 ∧ b < 10) ∨ (10 ≤ a ∧ 10 ≤ b)) (hne : a ≠ b) (h : digitsVal (u ++ (sgn a ++ sgn b) ++ v) % 97 = 1) : digitsVal (u ++ (sgn b ++ sgn a) ++ v) % 97 ≠ 1 := by
  intro h'
  rw [dv_go, dv_go u] at h h'
  have e : ∃ L c : Nat, (sgn a ++ sgn b).length = L ∧ (sgn b ++ sgn a).length = L ∧ (c = 9 ∨ c = 99) ∧ ((digitsVal (sgn b ++ sgn a) : Int) - (digitsVal (sgn a ++ sgn b) : Int) = ((b : Int) - (a : Int)) * (c : Int)) := by
    unfold sgn
    rcases hc with ⟨h1, h2⟩ | ⟨h1, h2⟩
    · rw [if_pos h1, if_pos h2]
      refine ⟨2, 9, rfl, rfl, .inl rfl, ?_⟩
      show ((((0 * 10 + (48 + b - 48)) * 10 + (48 + a - 48) : Nat) : Int)) - (((0 * 10 + (48 + a - 48)) * 10 + (48 + b - 48) : Nat) : Int) = _
      omega
    · rw [if_neg (by omega), if_neg (by omega)]
      refine ⟨4, 99, rfl, rfl, .inr rfl, ?_⟩
      show (((((((0 * 10 + (49 - 48)) * 10 + (38 + b - 48)) * 10 + (49 - 48)) * 10 + (38 + a - 48) : Nat) : Int))) - (((((0 * 10 + (49 - 48)) * 10 + (38 + a - 48)) * 10 + (49 - 48)) * 10 + (38 + b - 48) : Nat) : Int) = _
      omega
  obtain ⟨L, c, e1, e2, e4, e3⟩ := e
  rw [e1] at h
  rw [e2] at h'
  have key : (97 : Int) ∣ (((b : Int) - (a : Int)) * (c : Int)) * 10 ^ v.length := by
    rw [← e3]
    generalize digitsVal u * 10 ^ L = U at h h'
    generalize digitsVal (sgn a ++ sgn b) = x at *
    generalize digitsVal (sgn b ++ sgn a) = y at *
    generalize digitsVal v = V at *
    have p : ((10 ^ v.length : Nat) : Int) = (10 : Int) ^ v.length := by push_cast; rfl
    rw [← p]
    generalize 10 ^ v.length = T at *
    have h1 : (((U + x) * T + V : Nat) : Int) % 97 = 1 := by omega
    have h2 : (((U + y) * T + V : Nat) : Int) % 97 = 1 := by omega
    have h3 : ((y : Int) - (x : Int)) * (T : Int) = (((U + y) * T + V : Nat) : Int) - (((U + x) * T + V : Nat) : Int) := by
      push_cast
      rw [Int.add_mul, Int.add_mul, Int.sub_mul]
      omega
    rw [h3]
    omega
  have := ten_pow _ _ key
  rcases e4 with rfl | rfl <;> omega
/-- the check signs -/
theorem check_val (u : List Nat) {r : Nat} (hr : digitsVal (u ++ [48, 48]) % 97 = r) :
    digitsVal (u ++ [48 + (98 - r) / 10, 48 + (98 - r) % 10]) = 97 * (digitsVal (u ++ [48, 48]) / 97 + 1) + 1 := by
  have h97 : r < 97 := by rw [← hr]; exact Nat.mod_lt _ (by decide)
  rw [dv_go] at hr ⊢
  rw [dv_go u [48, 48]]
  have e1 : digitsVal [48, 48] = 0 := rfl
  have e2 : digitsVal [48 + (98 - r) / 10, 48 + (98 - r) % 10] = 98 - r := by
    show (0 * 10 + (48 + (98 - r) / 10 - 48)) * 10 + (48 + (98 - r) % 10 - 48) = 98 - r
    omega
  rw [e1] at hr ⊢
  rw [e2]
  simp only [List.length_cons, List.length_nil] at hr ⊢
  omega
end Mine
end

section -- P3
open PySem PySem.W PyProof.Rows PySem.NumText
set_option Elab.async false
set_option maxRecDepth 100000
namespace Mine
theorem join0 : ∀ ps : List Str, (Txt.join (Str.ofString "") ps).cps.toList = ps.flatMap (·.cps.toList) := by
  intro ps
  show (Builtin.Str.glued (Str.ofString "") ps).cps.toList = _
  rw [StrLaws.glued_eq_join]
  have e : Str.ofString "" = ⟨#[]⟩ := by rfl
  rw [e]
  induction ps with
  | nil => rfl
  | cons p r ih =>
    rw [PyProof.Rows.join_nil_cons]
    show (p.cps ++ (Str.join ⟨#[]⟩ r).cps).toList = _
    rw [Array.toList_append, ih, List.flatMap_cons]
theorem spell_hx : ∀ n, n < 16 → (spell1 ((hx n).toNat : Int)).cps.toList = sgn n := by decide +kernel
theorem hx_range : ∀ n, n < 16 → 48 ≤ ((hx n).toNat : Int) ∧ ((hx n).toNat : Int) ≤ 70 := by decide +kernel
theorem bInts_wr (b : Array UInt8) : KBw.bInts (wr b) = (places b).map fun n => ((hx n).toNat : Int) := by
  unfold KBw.bInts wr
  rw [List.map_map]; rfl
theorem wr_range (b : Array UInt8) : ∀ k ∈ KBw.bInts (wr b), 48 ≤ k ∧ k ≤ 70 := by
  intro k hk
  rw [bInts_wr] at hk
  obtain ⟨n, hn, rfl⟩ := List.mem_map.mp hk
  exact hx_range n (places_lt hn)
theorem spellB_list (b : Array UInt8) : (spellB (wr b)).cps.toList = sgns (places b) := by
  unfold spellB
  rw [join0, bInts_wr, List.map_map]
  have h : ∀ n ∈ places b, n < 16 := fun n hn => places_lt hn
  generalize places b = ns at h
  induction ns with
  | nil => rfl
  | cons n ns ih =>
    rw [List.map_cons, List.flatMap_cons, ih fun m hm => h m (List.mem_cons_of_mem _ hm)]
    show (spell1 ((hx n).toNat : Int)).cps.toList ++ _ = sgn n ++ sgns ns
    rw [spell_hx n (h n (List.mem_cons_self ..))]
theorem wr_size (b : Array UInt8) : (wr b).size = 2 * b.size := by
  unfold wr
  rw [List.size_toArray, List.length_map, places_length]
/-- two places make an octet -/
def pairUp : List Nat → List Nat
  | a :: b :: r => (a * 16 + b) :: pairUp r
  | _ => []
def ks2 (n : Nat) : List Int := (List.range n).map fun (i : Nat) => ((i : Int) * 2)
theorem ks2_get {n i : Nat} (h : i < n) : (ks2 n)[i]? = some ((0 : Int) + (i : Int) * 2) := by simp [ks2, h]
theorem ks2_length (n : Nat) : (ks2 n).length = n := by simp [ks2]
def octAt (ds : List Int) (k : Int) : Int := ds.getD k.toNat 0 * 16 + ds.getD (k + 1).toNat 0
theorem ks2_oct : ∀ (m : Nat) (ns : List Nat), ns.length = 2 * m → (ks2 m).map (octAt (ns.map fun (n : Nat) => (n : Int))) = (pairUp ns).map fun (n : Nat) => (n : Int)
  | 0, ns, h => by
    have : ns = [] := List.eq_nil_of_length_eq_zero (by omega)
    subst this; rfl
  | m + 1, [], h => by simp at h
  | m + 1, [_], h => by simp at h; omega
  | m + 1, a :: b :: r, h => by
    have ih := ks2_oct m r (by simp at h; omega)
    unfold ks2 at ih ⊢
    rw [List.map_map] at ih
    rw [List.range_succ_eq_map, List.map_map, List.map_cons, List.map_map]
    show _ :: _ = ((a * 16 + b : Nat) : Int) :: (pairUp r).map _
    rw [← ih]
    refine congr (congrArg List.cons ?_) (List.map_congr_left fun i hi => ?_)
    · show octAt ((a : Int) :: (b : Int) :: r.map _) 0 = _
      show (a : Int) * 16 + (b : Int) = _
      omega
    · show octAt ((a : Int) :: (b : Int) :: r.map _) (((i + 1 : Nat) : Int) * 2) = octAt (r.map _) ((i : Int) * 2)
      unfold octAt
      rw [show (((i + 1 : Nat) : Int) * 2).toNat = (2 * i) + 1 + 1 by omega, show (((i + 1 : Nat) : Int) * 2 + 1).toNat = (2 * i + 1) + 1 + 1 by omega, show ((i : Int) * 2).toNat = 2 * i by omega, show ((i : Int) * 2 + 1).toNat = 2 * i + 1 by omega]
      rfl
theorem pairUp_lt : ∀ (ns : List Nat), (∀ n ∈ ns, n < 16) → ∀ o ∈ pairUp ns, o < 256
  | a :: b :: r, h, o, ho => by
    rcases List.mem_cons.mp ho with rfl | ho
    · have := h a (List.mem_cons_self ..)
      have := h b (List.mem_cons_of_mem _ (List.mem_cons_self ..))
      omega
    · exact pairUp_lt r (fun n hn => h n (List.mem_cons_of_mem _ (List.mem_cons_of_mem _ hn))) o ho
  | [_], _, _, ho => nomatch ho
  | [], _, _, ho => nomatch ho
theorem pairUp_length : ∀ (ns : List Nat) (m : Nat), ns.length = 2 * m → (pairUp ns).length = m
  | [], m, h => by
    have : m = 0 := by simp at h; omega
    subst this; rfl
  | [_], m, h => by simp at h; omega
  | a :: b :: r, m, h => by
    have := pairUp_length r (m - 1) (by simp at h; omega)
    show (pairUp r).length + 1 = m
    simp at h
    omega
/-- the octets' places are the places -/
theorem places_pair : ∀ (ns : List Nat) (m : Nat), ns.length = 2 * m → (∀ n ∈ ns, n < 16) → (pairUp ns).flatMap (fun o => [o / 16, o % 16]) = ns
  | [], _, _, _ => rfl
  | [_], m, h, _ => by simp at h; omega
  | a :: b :: r, m, h, hl => by
    have ih := places_pair r (m - 1) (by simp at h; omega) fun n hn => hl n (List.mem_cons_of_mem _ (List.mem_cons_of_mem _ hn))
    have ha := hl a (List.mem_cons_self ..)
    have hb := hl b (List.mem_cons_of_mem _ (List.mem_cons_self ..))
    show [(a * 16 + b) / 16, (a * 16 + b) % 16] ++ (pairUp r).flatMap _ = _
    rw [ih]
    have e1 : (a * 16 + b) / 16 = a := by omega
    have e2 : (a * 16 + b) % 16 = b := by omega
    rw [e1, e2]; rfl
theorem places_of {b : Array UInt8} {os : List Nat} (h : KBw.bInts b = os.map fun (n : Nat) => (n : Int)) : places b = os.flatMap fun o => [o / 16, o % 16] := by
  unfold places
  have e : b.toList.map (·.toNat) = os := by
    unfold KBw.bInts at h
    have h2 := congrArg (List.map Int.toNat) h
    rw [List.map_map, List.map_map] at h2
    have e1 : (Int.toNat ∘ fun (c : UInt8) => (c.toNat : Int)) = UInt8.toNat := by funext c; exact Int.toNat_natCast _
    have e2 : (Int.toNat ∘ fun (n : Nat) => (n : Int)) = id := by funext c; exact Int.toNat_natCast _
    rw [e1, e2, List.map_id] at h2
    exact h2
  rw [← e, List.flatMap_map]
theorem bsize_of {b : Array UInt8} {os : List Nat} (h : KBw.bInts b = os.map fun (n : Nat) => (n : Int)) : b.size = os.length := by
  have := congrArg List.length h
  rwa [KBw.ints_length, List.length_map] at this
end Mine
end

section -- C18
open PySem PySem.W PyProof.Rows PySem.Calls PySem.NumText
set_option Elab.async false
set_option maxRecDepth 100000
namespace Mine
theorem fill18 : ∀ (w : World) (h : Heap), (Mine.hd.heap_39 w.params).In h → PySem.Challenge.rw_nb0216_01.row.prog = PySem.Challenge.rw_nb0216_01.row.prog := by
  k_fill; intros; rfl
theorem range2 (n : Nat) (hn : n ≤ 1000) : Builtin.Range.rangeSize 0 ((2 * n : Nat) : Int) 2 = ((n : Nat) : Int) := by
  unfold Builtin.Range.rangeSize
  rw [if_pos (by decide)]
  split <;> omega
theorem small2 (n : Nat) (hn : n ≤ 600) : Builtin.Range.small 0 ((2 * n : Nat) : Int) 2 = true := by
  unfold Builtin.Range.small
  rw [range2 n (by omega), fitsL (by decide) (by decide), fitsL (x := ((2 * n : Nat) : Int)) (by omega) (by omega), fitsL (x := (2 : Int)) (by decide) (by decide), fitsL (x := ((n : Nat) : Int)) (by omega) (by omega), if_pos (by decide), fitsL (by omega) (by omega), Bool.or_true]
  rfl
section
variable {w : World} {p : Program} {loose : List Str} {mean : ExcName → Option Value} {mg mb : Str → Option Value} {dp un : Nat} {gd : Option (List Code)} {cn : Str} {cs : Scope} {a : Addr} {ccd : Value} {cl : List (Str × Addr)} {outer : List Env} {A₀ : Around} {base h₀ : Heap} {L : Addr} {m : Str → Option Value} {s : Shared} {Q E : Value → Shared → Prop} {news : List (Addr × Obj)}
local macro_rules | `(tactic| walk_at "eval ListComp") => `(tactic| (k_dflt (refine ListComp_W (by k_asm) (by with_unfolding_all rfl) (by decide) (by rfl) (by decide) (by rfl) ?_)))
local macro_rules | `(tactic| walk_at "pyIter ref") => `(tactic| ((with_reducible show wpAny _ _ _ (SrcW _ _ _ _ _ _ _ _ _ _ _ _) _ _); fail "here"))
local macro_rules | `(tactic| walk_at "call ref") => `(tactic| ((with_reducible show wpAny _ _ (call (Value.ref 108) _) _ _ _); k_dflt (refine' c_b16 ?B ?F ?X ?N ?T ?c ?d ?u ?z ?_; (case B => k_asm); (case F => k_asm); (case X => k_asm); (case N => k_asm); (case T => k_asm); (case c => first | exact rfl | assumption); (case d => ktr_room); (case u => ktr_units); (case z => assumption); k_whole); intro t9 h9 tk9 F9 N9; (try dsimp only); (try k_sweep); (try k_fold)))
local macro_rules | `(tactic| walk_at "call ref") => `(tactic| ((with_reducible show wpAny _ _ (call (Value.ref 113) _) _ _ _); k_dflt (refine' c_spelled ?B ?F ?X ?N ?T ?c ?d ?u ?z ?r ?_; (case B => k_asm); (case F => k_asm); (case X => k_asm); (case N => k_asm); (case T => k_asm); (case c => first | exact rfl | assumption); (case d => ktr_room); (case u => ktr_units); (case z => assumption); (case r => assumption); k_whole); intro t9 h9 tk9 F9 N9; (try dsimp only); (try k_sweep); (try k_fold)))
local macro_rules | `(tactic| walk_at "call ref") => `(tactic| ((with_reducible show wpAny _ _ (call (Value.ref 125) _) _ _ _); k_dflt (refine' c_paper ?B ?F ?X ?N ?T ?c ?d ?u ?z ?r ?_; (case B => k_asm); (case F => k_asm); (case X => k_asm); (case N => k_asm); (case T => k_asm); (case c => first | exact rfl | assumption); (case d => ktr_room); (case u => ktr_units); (case z => assumption); (case r => assumption); k_whole); intro D9 t8 t9 h9 tk9 F9 N9 l9; (try k_lt l9); (try dsimp only); (try k_sweep); (try k_fold)))
local macro_rules | `(tactic| walk_at "call ref") => `(tactic| ((with_reducible show wpAny _ _ (call (Value.ref 118) _) _ _ _); k_dflt (refine' c_grouped ?B ?F ?X ?N ?T ?c ?d ?u ?z ?_; (case B => k_asm); (case F => k_asm); (case X => k_asm); (case N => k_asm); (case T => k_asm); (case c => first | exact rfl | assumption); (case d => ktr_room); (case u => ktr_units); (case z => assumption); k_whole); intro t9 h9 tk9 F9 N9; (try dsimp only); (try k_sweep); (try k_fold)))
local macro_rules | `(tactic| walk_at "binaryOp Add str str") => `(tactic| (refine add_str ?_ (by rw [sizeLine_eq]; omega); intro t7 k7))
theorem reorderN1 {h₀ h : Heap} {L : Addr} {x y c d : Addr × Obj} {ta tc td r : List (Addr × Obj)} (N : News h₀ L h (x :: y :: c :: d :: (ta ++ (tc ++ (td ++ r))))) : News h₀ L h (td ++ (c :: d :: (ta ++ (tc ++ r)))) :=
  cb_drop N fun p hp => by simp only [List.mem_cons, List.mem_append] at hp ⊢; grind
theorem reorderN2 {h₀ h : Heap} {L : Addr} {c d : Addr × Obj} {ta tc td r : List (Addr × Obj)} (N : News h₀ L h (td ++ (c :: d :: (ta ++ (tc ++ r))))) : News h₀ L h (ta ++ (tc ++ (c :: d :: (td ++ r)))) :=
  cb_drop N fun p hp => by simp only [List.mem_cons, List.mem_append] at hp ⊢; grind
theorem reorderN3 {h₀ h : Heap} {L : Addr} {x y c d : Addr × Obj} {ta tc td r : List (Addr × Obj)} (N : News h₀ L h (x :: y :: (ta ++ (tc ++ (c :: d :: (td ++ r)))))) : News h₀ L h (d :: (ta ++ (tc ++ (td ++ r)))) :=
  cb_drop N fun p hp => by simp only [List.mem_cons, List.mem_append] at hp ⊢; grind
theorem plain_digits {cs : List Nat} (h : AllDigits cs) : Plain cs := by
  intro c hc
  have := h c hc
  refine ⟨?_, ?_, ?_⟩ <;> omega
set_option maxHeartbeats 8000000 in
theorem c_noticed {D : Addr} {vs : List Value} {ns : List Nat} {e n : Nat} {ck : Str} {t : Tok} {ta tc td : List (Addr × Obj)} (B : Below A₀ base outer h₀) (F : Fr h₀ L s.heap m) (X : (Mine.hd.heap_39 w.params).In h₀) (CA : CodeHd base 63 59) (CB : CodeHd base 70 66) (CS : CodeHd base 35 31) (hta : Tab1 59 89 4 q59 ta) (htc : Tab1 66 104 4 q66 tc) (htd : Tab1 31 49 4 q31 td)
    (N : News h₀ L s.heap ((D, W.listOf vs.toArray e) :: (ta ++ (tc ++ (td ++ news))))) (T : Top p loose mean mg mb h₀) (hcs : cs.kind = .function) (hD : (@LT.lt Nat _ 142 D))
    (hnw : ∀ p ∈ news, p.1 ≠ 59 ∧ p.1 ≠ 66 ∧ p.1 ≠ 31) (hd : dp + 100 < recursionLimit) (hu : un + 1000 < cLine) (hI : IntsAre vs (ns.map fun (q : Nat) => (q : Int))) (hl : ns.length = 2 * n) (hn : n ≤ 6) (h16 : ∀ q ∈ ns, q < 16) (hck : ck.length = 2) (hcd : AllDigits ck.cps.toList)
    (hret : ∀ ta' tc' td' dr h' tk', Fr h₀ L h' m → News h₀ L h' ((D, W.listOf vs.toArray e) :: (ta' ++ (tc' ++ (td' ++ news)))) → Tab1 59 89 4 q59 ta' → Tab1 66 104 4 q66 tc' → Tab1 31 49 4 q31 td' → Q (.bool (decide (digitsVal (sgns ns ++ ck.cps.toList) % 97 ≠ 1))) { s with heap := h', toks := tk', drawn := dr }) :
    wpAny (model PySem.Challenge.rw_nb0216_01.row.prog w) (ktrTop dp un gd cn cs L a ccd cl outer) (call (.ref 137) [.ref D, .str ck t]) Q E s := by
  refine wpAny_call ?_
  k_dflt (first | (refine' code_defC ?k1 ?k2 ?k3 ?k4 ?k5 ?kA ?kF ?kK ?k6 ?k7 ?k8 ?k9 ?kB ?kD ?_ ?c2 ?c3 ?c4; (case kA => exact rfl); (case kF => exact rfl); (case kK => assumption); (case k1 => k_asm); (case k2 => k_asm); (case k3 => k_asm); (case k4 => k_asm); (case k5 => k_asm); (case k6 => k_is); (case k7 => k_is); (case k8 => ktr_room); (case k9 => first | exact BindsTo.of_eq rfl | exact binds_K (by k_in) rfl (by k_is) rfl rfl rfl); (case kB => exact rfl); (case kD => decide +kernel); (case c2 => exact rfl); (case c3 => exact rfl); (case c4 => exact rfl); k_whole; intro g' L' h' tk' cells' FG' F' N' Y' B' X' T' l1; (try k_lt l1); k_cells Y'; (try simp only [List.cons_append, List.nil_append] at N'); (try dsimp only); (try k_lift B'); (try k_fold)) | cell_enter)
  have hL := frame_gt (by assumption) (by assumption) (by k_is)
  have hvl : vs.length = 2 * n := by have := IntsAre.length hI; rw [List.length_map] at this; omega
  k_steps
  dsimp only
  have eR : ((List.map (fun (q : Nat) => (q : Int)) ns).length : Int) = ((2 * n : Nat) : Int) := by rw [List.length_map]; omega
  k_dflt (refine' SrcW.range (n := n) rfl ?F ?N ?R ?sm ?n ?z (fun g => kcf_rest (ks := ks2 n) (octAt (ns.map fun (q : Nat) => (q : Int))) (ks2_length _) (fun i v hi hv => ?P) (fun k' t' I' oI' C' oC' D' m' ys' h' tk' E' hk' hC' hx' F' N' off' ne' hMark' => ?turn) ?fin))
  case F => k_asm
  case N => k_asm
  case R => assumption
  case sm => (rw [eR]; exact small2 _ (by omega))
  case n => (rw [eR]; exact range2 _ (by omega))
  case z => rw [sizeLine_eq]; omega
  case P =>
    obtain ⟨t, e⟩ := hv
    exact ⟨_, t, ks2_get hi, e⟩
  case turn =>
    obtain ⟨i, hi, ei⟩ := List.mem_map.mp hk'
    have hi := List.mem_range.mp hi
    have hk0 : 0 ≤ k' := by omega
    have hk1 : k' + 1 < ((List.map (fun (q : Nat) => (q : Int)) ns).length : Int) := by omega
    k_steps
    exact ⟨rfl, _, rfl⟩
  case fin =>
    unfold KPfDone
    intro ys hc
    unfold LCg.FinE
    intro D9 h9 tk9 F9 N9 o9
    dsimp only
    rw [ks2_oct n ns hl] at hc
    have hIn : KBa.In ((pairUp ns).map fun (q : Nat) => (q : Int)) := by
      intro k hk
      obtain ⟨o, ho, rfl⟩ := List.mem_map.mp hk
      have := pairUp_lt ns h16 o ho
      omega
    have hpl := pairUp_length ns n hl
    walk1
    k_dflt (refine' KBa.make_K ?F ?N rfl (News.isList N9 (by k_mem)) hc hIn ?z ?ret)
    case F => k_asm
    case N => k_asm
    case z => (rw [List.length_map]; omega)
    case ret =>
      intro h8 t8 k8 F8 N8 _
      have hB := KBa.ints_make hIn
      generalize byteArr ((pairUp ns).map fun (q : Nat) => (q : Int)) = b at hB
      have hbs := bsize_of hB
      have hz1 : b.size ≤ 1000 := by omega
      have hz2 : (wr b).size ≤ 1000 := by rw [wr_size]; omega
      have hz3 := wr_range b
      have hpl2 : places b = ns := by rw [places_of hB]; exact places_pair ns n hl h16
      have hst : (spellB (wr b) ++ ck).cps.toList = sgns ns ++ ck.cps.toList := by
        show ((spellB (wr b)).cps ++ ck.cps).toList = _
        rw [Array.toList_append, spellB_list, hpl2]
      have hsl : (spellB (wr b)).length ≤ 24 := by
        have h1 := congrArg List.length (spellB_list b)
        have h2 := sgns_len (places b)
        rw [hpl2] at h1 h2
        have h3 : (spellB (wr b)).cps.toList.length = (spellB (wr b)).length := Array.length_toList
        omega
      have hz4 : (spellB (wr b) ++ ck).length ≤ 600 := by rw [Str.length_append]; omega
      have hz5 : AllDigits (spellB (wr b) ++ ck).cps.toList := by
        rw [hst]
        intro c hc
        rcases List.mem_append.mp hc with hc | hc
        · exact sgns_digits h16 c hc
        · exact hcd c hc
      (try dsimp only); (try k_sweep); (try k_fold)
      k_steps
      obtain ⟨V, hV⟩ : ∃ V : Nat, V = digitsVal (sgns ns ++ ck.cps.toList) := ⟨_, rfl⟩
      have ePap : paper (KStt.codes (spellB (wr b) ++ ck)) = (((V / 97 : Nat) : Int), ((V % 97 : Nat) : Int)) := by
        unfold KStt.codes
        rw [paper_val hz5, hst, ← hV]
      have hVt : PySem.intText? (spellB (wr b) ++ ck) = some ((V : Nat) : Int) := by
        rw [intText_digits hz5 ?_ (by omega), hst, ← hV]
        intro e0
        have := congrArg List.length e0
        rw [Array.length_toList] at this
        have e9 : (spellB (wr b) ++ ck).length = (spellB (wr b)).length + ck.length := Str.length_append _ _
        have e8 : (spellB (wr b) ++ ck).cps.size = (spellB (wr b) ++ ck).length := rfl
        simp only [List.length_nil] at this
        omega
      have hV2 : V < 2 ^ 100 := by
        have h1 := dv_lt hz5
        rw [hst, ← hV] at h1
        have h2 : (sgns ns ++ ck.cps.toList).length ≤ 26 := by
          have h3 := sgns_len ns
          have h4 : ck.cps.toList.length = ck.length := Array.length_toList
          rw [List.length_append]; omega
        have h5 : 10 ^ (sgns ns ++ ck.cps.toList).length ≤ 10 ^ 26 := Nat.pow_le_pow_right (by decide) h2
        have h6 : 10 ^ 26 < 2 ^ 100 := by decide
        omega
      rename Fr _ _ _ _ => F7
      rename News _ _ _ _ => N7
      rw [ePap] at F7 N7
      dsimp only at F7 N7
      k_dflt (refine' c_ifs (tb := td) (x := spellB (wr b) ++ ck) (v := ((V : Nat) : Int)) ?B ?F ?X CS htd (reorderN1 N7) ?T ?c ?nw ?d ?u ?hy ?hc ?h1 hVt ?ret)
      case B => k_asm
      case F => k_asm
      case X => k_asm
      case T => k_asm
      case c => exact rfl
      case nw =>
        refine List.forall_mem_cons.mpr ⟨neN (by omega), List.forall_mem_cons.mpr ⟨neN (by omega), fun p hp => ?_⟩⟩
        rcases List.mem_append.mp hp with hp | hp
        · rcases tab_ne hta p hp with e | e
          · rw [e]; decide
          · exact neN (by omega)
        · rcases List.mem_append.mp hp with hp | hp
          · rcases tab_ne htc p hp with e | e
            · rw [e]; decide
            · exact neN (by omega)
          · exact (hnw p hp).2.2
      case d => ktr_room
      case u => ktr_units
      case hy =>
        have h1 := pieces_len (spellB (wr b) ++ ck)
        have h2 : (grouped (spellB (wr b) ++ ck)).length = (Txt.join (Str.ofString "_") (pieces (spellB (wr b) ++ ck))).length + 1 := Str.length_append _ _
        have h3 : (Txt.join (Str.ofString "_") (pieces (spellB (wr b) ++ ck))).length ≤ ((spellB (wr b) ++ ck).length + 3) / 4 * 5 := h1
        omega
      case hc => exact cleaned_grouped (plain_digits hz5)
      case h1 => exact hz4
      case ret =>
        intro t6 dr6 td' h6 tk6 F6 N6 htd'
        (try dsimp only); (try k_sweep); (try k_fold)
        k_steps
        rename News _ _ _ _ => N5
        k_dflt (refine' c_int_divmod (ta := ta) (tc := tc) (i := V) ?B ?F ?X CA CB hta htc (reorderN2 N5) ?T ?c ?nw ?d ?u rfl hV2 ?ret)
        case B => k_asm
        case F => k_asm
        case X => k_asm
        case T => k_asm
        case c => exact rfl
        case nw =>
          refine List.forall_mem_cons.mpr ⟨⟨neN (by omega), neN (by omega)⟩, List.forall_mem_cons.mpr ⟨⟨neN (by omega), neN (by omega)⟩, fun p hp => ?_⟩⟩
          rcases List.mem_append.mp hp with hp | hp
          · rcases tab_ne htd' p hp with e | e
            · rw [e]; decide
            · exact ⟨neN (by omega), neN (by omega)⟩
          · exact ⟨(hnw p hp).1, (hnw p hp).2.1⟩
        case d => ktr_room
        case u => ktr_units
        case ret =>
          intro D4 t4 t5 ta' tc' h4 tk4 F4 N4 hta' htc' hD4
          (try dsimp only); (try k_sweep); (try k_fold)
          k_steps
          rename News h₀ L _ _ => N3
          have eB : (((V % 97 : Nat) : Int) != 1) = decide (digitsVal (sgns ns ++ ck.cps.toList) % 97 ≠ 1) := by
            rw [← hV]
            by_cases h1 : V % 97 = 1
            · rw [h1]; rfl
            · rw [decide_eq_true h1]
              exact bne_iff_ne.mpr (by omega)
          rw [eB]
          exact hret ta' tc' td' _ _ _ (by assumption) (reorderN3 N3) hta' htc' htd'
end
end Mine
end

section -- P4
open PySem PySem.W PyProof.Rows PySem.NumText
set_option Elab.async false
set_option maxRecDepth 100000
namespace Mine
/-- all that the walk asks of a text of places and two check signs -/
structure TextOk (x y : Str) (V : Nat) : Prop where
  len : x.length ≤ 24
  all : (x ++ y).length ≤ 600
  dig : AllDigits (x ++ y).cps.toList
  pap : paper (KStt.codes (x ++ y)) = (((V / 97 : Nat) : Int), ((V % 97 : Nat) : Int))
  txt : PySem.intText? (x ++ y) = some ((V : Nat) : Int)
  lim : V < 2 ^ 100
  cln : cleaned (grouped (x ++ y)) = x ++ y
  grp : (grouped (x ++ y)).length ≤ 2000
theorem textOk {b : Array UInt8} {ps : List Nat} {ck : Str} {c : List Nat} (hb : places b = ps) (h16 : ∀ q ∈ ps, q < 16) (hl : ps.length ≤ 12) (hc : ck.cps.toList = c) (hck : c.length = 2) (hcd : AllDigits c) : TextOk (spellB (wr b)) ck (digitsVal (sgns ps ++ c)) := by
  have hst : (spellB (wr b) ++ ck).cps.toList = sgns ps ++ c := by
    show ((spellB (wr b)).cps ++ ck.cps).toList = _
    rw [Array.toList_append, spellB_list, hb, hc]
  have hcl : ck.length = 2 := by rw [← hck, ← hc]; exact Array.length_toList.symm
  have hsl : (spellB (wr b)).length ≤ 24 := by
    have h1 := congrArg List.length (spellB_list b)
    have h2 := sgns_len (places b)
    rw [hb] at h1 h2
    have h3 : (spellB (wr b)).cps.toList.length = (spellB (wr b)).length := Array.length_toList
    omega
  have e9 : (spellB (wr b) ++ ck).length = (spellB (wr b)).length + ck.length := Str.length_append _ _
  have hz4 : (spellB (wr b) ++ ck).length ≤ 600 := by omega
  have hz5 : AllDigits (spellB (wr b) ++ ck).cps.toList := by
    rw [hst]
    intro d hd
    rcases List.mem_append.mp hd with hd | hd
    · exact sgns_digits h16 d hd
    · exact hcd d hd
  refine ⟨hsl, hz4, hz5, ?_, ?_, ?_, cleaned_grouped (plain_digits hz5), ?_⟩
  · unfold KStt.codes
    rw [paper_val hz5, hst]
  · rw [intText_digits hz5 ?_ (by omega), hst]
    intro e0
    have := congrArg List.length e0
    rw [Array.length_toList] at this
    have e8 : (spellB (wr b) ++ ck).cps.size = (spellB (wr b) ++ ck).length := rfl
    simp only [List.length_nil] at this
    omega
  · have h1 := dv_lt hz5
    rw [hst] at h1
    have h2 : (sgns ps ++ c).length ≤ 26 := by
      have h3 := sgns_len ps
      rw [List.length_append]; omega
    have h5 : 10 ^ (sgns ps ++ c).length ≤ 10 ^ 26 := Nat.pow_le_pow_right (by decide) h2
    have h6 : 10 ^ 26 < 2 ^ 100 := by decide
    omega
  · have h1 := pieces_len (spellB (wr b) ++ ck)
    have h2 : (grouped (spellB (wr b) ++ ck)).length = (Txt.join (Str.ofString "_") (pieces (spellB (wr b) ++ ck))).length + 1 := Str.length_append _ _
    have h3 : (Txt.join (Str.ofString "_") (pieces (spellB (wr b) ++ ck))).length ≤ ((spellB (wr b) ++ ck).length + 3) / 4 * 5 := h1
    omega
end Mine
end

section -- L0
open PySem PySem.W PyProof.Rows PySem.Calls PySem.NumText PySem.Spec
set_option Elab.async false
set_option maxRecDepth 100000
namespace Mine
/-- what holds of every code holds of every end -/
theorem ends_of {R₁ R₂ : Result → Shared → Prop} (h : ∀ (M : Model) (A : Around) (cd : Code) (s : Shared), codeAny M A cd R₁ s → codeAny M A cd R₂ s) (w : World) (r : Result) (s' : Shared) (h1 : R₁ r s') : R₂ r s' := by
  let M : Model := { model PySem.Challenge.rw_nb0216_01.row.prog w with den := fun _ => match r with | .ok f => .pure (.done f) | .error e => .raise e }
  have h2 := h M callerA (.call .none ⟨[], []⟩) s' (fun Γ p hc hΓ => ⟨r, s', by
    show Runs M Γ p (match r with | .ok f => .pure (.done f) | .error e => .raise e) [] s' (.ret r) s'
    cases r with
    | ok f => exact .done
    | error e => exact .raise, h1⟩)
  obtain ⟨r', s'', hr, h3⟩ := h2 ⟨.call .none ⟨[], []⟩, none, none, [], none⟩ default rfl ⟨rfl, by decide +kernel, fun l hl => by cases hl; rfl, fun g hg => by cases hg; rfl, by decide +kernel⟩
  have hr : Runs M _ _ (match r with | .ok f => .pure (.done f) | .error e => .raise e) [] s' (.ret r') s'' := hr
  cases r with
  | ok f => cases hr; exact h3
  | error e => cases hr; exact h3
section
variable {prog : Program} {w : World} {A : Around} {s : Shared} {R : Result → Shared → Prop} {name qual : Str} {params : Arguments} {body : List Stmt} {scope : Scope} {dV kV doc pm cdv ct : Value} {an : Option Addr} {fo : Obj} {f : Addr} {args : Args} {binds : List (Str × Value)}
/-- the law itself is entered -/
theorem lawC (hlim : s.heap.NoLimit) (ho : s.heap.get? f = some fo) (hd : fo.data = .func (fnX name qual params body scope [] dV kV doc pm an cdv ct)) (hcd : s.heap.CodeRec cdv qual) (hroom : A.depth < recursionLimit)
    (hbind : BindsTo s (fnX name qual params body scope [] dV kV doc pm an cdv ct) args binds)
    (hkind : ∀ n, ∀ x ∈ binds, scope.names.lookup x.1 = some .local ∨ (scope.names.lookup x.1 = some .cell ∧ ((cellsFrom n scope.names []).lookup x.1).isSome = true))
    (hnd : ((cellsFrom 0 scope.names []).map (·.1)).Nodup)
    (h : ∀ h₁ tk cells, Fr s.heap s.heap.objs.size h₁ (bindL (envOfC qual scope s.heap.objs.size f cdv).kindOf binds fun _ => none) → News s.heap s.heap.objs.size h₁ cells →
      CellsAre (bindC (envOfC qual scope s.heap.objs.size f cdv).kindOf binds fun _ => none) (cellsFrom (s.heap.objs.size + 1) scope.names []) cells →
      wpC (model prog w) (A.deeper (envOfC qual scope s.heap.objs.size f cdv)) (execs body (envOfC qual scope s.heap.objs.size f cdv))
        (fun fl s' => R (.ok (.ret (match fl with | .ret v => v | _ => .none))) s')
        (fun e s' => wpAny (model prog w) (A.deeper (envOfC qual scope s.heap.objs.size f cdv)) (leaving (envOfC qual scope s.heap.objs.size f cdv) e) (fun _ s'' => R (.error e) s'') (fun e' s'' => R (.error e') s'') s')
        { s with heap := h₁, toks := tk })
    (hco : scope.isCoroutine = false := by rfl) (hgen : scope.isGenerator = false := by rfl) (hk : scope.kind = .function := by rfl) : codeC (model prog w) A (.call (.ref f) args) R s := by
  refine codeC_call_function hroom ho hd hco hgen rfl hcd (hbind _ _ _ _ ?_)
  refine wpAny_newFunctionEnv_cells hk (hkind _) fun env' he s' x => ?_
  subst he
  refine ⟨hlim.keeps x.toInCall.keep, codeC_func ?_⟩
  obtain ⟨h₁, tk, rfl, _⟩ := x.done
  obtain ⟨cells, NC, Y⟩ := Cl.news (h₀ := s.heap) (Nat.le_refl _) fun n c hm => ⟨x.cell n c (lookup_of_mem_nodup (cellsFrom_names scope.names 0 (s.heap.objs.size + 1) [] [] rfl ▸ hnd) hm), x.above n c hm⟩
  exact h h₁ tk cells ⟨x.toInCall.ns, fun b o e => x.toInCall.keep b o e, Nat.le_refl _⟩ NC Y
end
theorem enterC {w : World} {A : Around} {s₁ : Shared} {cw : ClaimW} {cl : Str → Option Addr} {mean : ExcName → Option Value} {args : List WData} {tabs : List (Addr × Addr)} {f : Value} {vs : List Value} (hT : TabsAt tabs s₁.heap) (hr : ∀ a x, cw.raises a x = false)
    (h : codeC (model PySem.Challenge.rw_nb0216_01.row.prog w) A (.call f ⟨vs, []⟩) (fun r s' => GoodW cw cl mean args { s₁ with heap := ghostOf s₁.heap tabs } r s' ∧ GrownAll tabs s'.heap) s₁) :
    wpC (model PySem.Challenge.rw_nb0216_01.row.prog w) A (call f vs) (fun v s' => GoodWG cw cl mean args s₁ (.ok (.ret v)) s') (fun e s' => GoodWG cw cl mean args s₁ (.error e) s') s₁ := by
  refine wpC_call (codeC_mono h ?_)
  intro r s' hx
  have z := ends_of (fun M A cd s => kn_post (s₁ := s₁) (M := M) (A := A) (cd := cd) (s := s) hT hr) w r s' hx
  cases r with
  | error e => exact z
  | ok fl =>
    rcases z.1 with ⟨v, d, as, q, _⟩ | ⟨e, ob, cls, q, _⟩
    · cases q; exact z
    · cases q
end Mine
end

section -- L1
open PySem PySem.W PyProof.Rows PySem.Calls PySem.NumText PySem.Spec
set_option Elab.async false
set_option maxRecDepth 100000
namespace Mine
theorem fillL1 : ∀ (w : World) (h : Heap), (Mine.hd.heap_39 w.params).In h → PySem.Challenge.rw_nb0216_01.row.prog = PySem.Challenge.rw_nb0216_01.row.prog := by
  k_fill; intros; rfl
/-- the law's own def -/
def lawDef : Option (Str × Arguments × List Stmt × Scope) := (PySem.Challenge.pw_nb0216_01.main.body[25]?).bind fdefOf
section
variable {prog : Program} {w : World} {A : Around} {E : Value → Shared → Prop} {s : Shared} {env : Env} {h₀ : Heap} {x : Str} {body : List Stmt} {Q : Flow → Shared → Prop} {news : List (Addr × Obj)} {m₀ : Str → Option Value}
/-- a loop over a list of naturals in the ledger, by an invariant over the frame's map and the ledger -/
theorem fwd_loop {ax : Addr} {va : List Value} {ds : List Nat} {ea : Nat} (Inv : List Nat → (Str → Option Value) → List (Addr × Obj) → Prop)
    (hh : A.handled = none) (F : Fr h₀ env.locals s.heap m₀) (N : News h₀ env.locals s.heap news) (hva : IntsAre va (ds.map fun (q : Nat) => (q : Int)))
    (hmem : ∀ pre m n, Inv pre m n → (ax, W.listOf va.toArray ea) ∈ n) (h0 : Inv [] m₀ news)
    (turn : ∀ I : Addr, (∀ p ∈ news, p.1 < I) → ∀ pre d post t m n it h tk, ds = pre ++ d :: post → Inv pre m n → Fr h₀ env.locals h (fun y => if y = x then some (.int ((d : Nat) : Int) t) else m y) → News h₀ env.locals h ((I, it) :: n) →
      wpAny (model prog w) A (execs body env) (UnrPost h₀ env.locals { s with heap := h, toks := tk } I it (fun m' n' => Inv (pre ++ [d]) m' n') Q) E { s with heap := h, toks := tk })
    (done : ∀ m n h tk, Inv ds m n → Fr h₀ env.locals h m → News h₀ env.locals h n → Q .next { s with heap := h, toks := tk }) :
    wpAny (model prog w) A (pyIter (.ref ax)) (fun it s₂ => LoopAtV prog w A h₀ env x body Q E it s₂) E s := by
  refine iter_listUnr (lo := W.listOf va.toArray ea) (n := ea) hh F N (hmem _ _ _ h0) rfl rfl fun I hI => ?_
  have key : ∀ (vs' : List Value) (post pre : List Nat) (m : Str → Option Value) (n : List (Addr × Obj)), IntsAre vs' (post.map fun (q : Nat) => (q : Int)) → ds = pre ++ post → Inv pre m n →
      ListRest prog w A E h₀ env x body Q s I (ax, W.listOf va.toArray ea) vs' m n := by
    intro vs'
    induction vs' with
    | nil =>
      intro post pre m n hi he hJ
      have hp : post = [] := by
        cases post with
        | nil => rfl
        | cons d r => cases hi
      subst hp
      rw [List.append_nil] at he
      rw [← he] at hJ
      exact ListRest.zero fun h tk F1 N1 => done m n h tk hJ F1 N1
    | cons v r ih =>
      intro post pre m n hi he hJ
      cases post with
      | nil => cases hi
      | cons d post =>
        rw [List.map_cons] at hi
        cases hi with
        | cons _ t hi =>
        refine ListRest.succ fun it h tk _ F1 N1 => ?_
        refine wpAny_mono (turn I hI pre d post t m n it h tk he hJ F1 N1) (fun f s₂ hp => ?_) fun _ _ e => e
        have fin : UnrEnd h₀ env.locals { s with heap := h, toks := tk } I it (fun m' n' => Inv (pre ++ [d]) m' n') s₂ →
            UnrEnd h₀ env.locals { s with heap := h, toks := tk } I it (fun m' n' => (ax, W.listOf va.toArray ea) ∈ n' ∧ ListRest prog w A E h₀ env x body Q s I (ax, W.listOf va.toArray ea) r m' n') s₂ := by
          rintro ⟨h', tk', m', n', e, F', N', hof, hI'⟩
          exact ⟨h', tk', m', n', e, F', N', hof, hmem _ _ _ hI', ih post (pre ++ [d]) m' n' hi (by rw [he]; simp) hI'⟩
        cases f with
        | ret v => exact hp
        | brk => exact hp
        | next => exact fin hp
        | cont => exact fin hp
  exact key va ds [] m₀ news hva rfl h0
def plc (os : List Nat) : List Nat := os.flatMap fun o => [o / 16, o % 16]
theorem plc_length : ∀ pre : List Nat, (plc pre).length = 2 * pre.length
  | [] => rfl
  | c :: r => by
    have ih := plc_length r
    show ((plc r).length + 1) + 1 = _
    rw [List.length_cons]; omega
theorem plc_snoc (pre : List Nat) (d : Nat) : plc (pre ++ [d]) = plc pre ++ [d / 16, d % 16] := by
  unfold plc; rw [List.flatMap_append]; rfl
/-- what the places' loop keeps -/
def PlInv (m₀ : Str → Option Value) (x : Str) (l : Addr) (rest : List (Addr × Obj)) (pre : List Nat) (m : Str → Option Value) (n : List (Addr × Obj)) : Prop :=
  ∃ vq e, (∀ z, z ≠ x → m z = m₀ z) ∧ n = (l, W.listOf (List.toArray vq) e) :: rest ∧ IntsAre vq ((plc pre).map fun (q : Nat) => (q : Int))
end
theorem fr_one {h₀ h : Heap} {L : Addr} {m m₀ : Str → Option Value} {x : Str} {v : Value} (h2 : ∀ z, z ≠ x → m z = m₀ z) (F : Fr h₀ L h (fun y => if y = x then some v else m y)) : Fr h₀ L h (fun y => if y = x then some v else m₀ y) := by
  have e : (fun y => if y = x then some v else m₀ y) = fun y => if y = x then some v else m y := by
    funext y
    by_cases a : y = x
    · simp only [if_pos a]
    · simp only [if_neg a]; exact (h2 y a).symm
  rw [e]; exact F
theorem fr_any {h₀ h : Heap} {L : Addr} {m m₀ : Str → Option Value} {x : Str} (h2 : ∀ z, z ≠ x → m z = m₀ z) (F : Fr h₀ L h m) : Fr h₀ L h (fun y => if y = x then m y else m₀ y) := by
  have e : (fun y => if y = x then m y else m₀ y) = m := by
    funext y
    by_cases a : y = x
    · simp only [if_pos a]
    · simp only [if_neg a]; exact (h2 y a).symm
  rw [e]; exact F
section
variable {prog : Program} {w : World} {A : Around} {E : Value → Shared → Prop} {s : Shared} {env : Env} {h₀ : Heap} {body : List Stmt} {Q : Flow → Shared → Prop} {rest : List (Addr × Obj)} {m₀ : Str → Option Value}
theorem places_loop {x : Str} {ax l : Addr} {va : List Value} {ds : List Nat} {ea e0 : Nat} (hh : A.handled = none) (F : Fr h₀ env.locals s.heap m₀) (N : News h₀ env.locals s.heap ((l, W.listOf #[] e0) :: (ax, W.listOf va.toArray ea) :: rest)) (hva : IntsAre va (ds.map fun (q : Nat) => (q : Int)))
    (turn : ∀ I : Addr, (∀ p ∈ (l, W.listOf #[] e0) :: (ax, W.listOf va.toArray ea) :: rest, p.1 < I) → ∀ pre d post t vq e it h tk, ds = pre ++ d :: post → IntsAre vq ((plc pre).map fun (q : Nat) => (q : Int)) →
      Fr h₀ env.locals h (fun y => if y = x then some (.int ((d : Nat) : Int) t) else m₀ y) → News h₀ env.locals h ((I, it) :: (l, W.listOf (List.toArray vq) e) :: (ax, W.listOf va.toArray ea) :: rest) →
      wpAny (model prog w) A (execs body env) (UnrPost h₀ env.locals { s with heap := h, toks := tk } I it (fun m' n' => PlInv m₀ x l ((ax, W.listOf va.toArray ea) :: rest) (pre ++ [d]) m' n') Q) E { s with heap := h, toks := tk })
    (done : ∀ (u : Str → Option Value) vq e h tk, IntsAre vq ((plc ds).map fun (q : Nat) => (q : Int)) → Fr h₀ env.locals h (fun y => if y = x then u y else m₀ y) → News h₀ env.locals h ((l, W.listOf (List.toArray vq) e) :: (ax, W.listOf va.toArray ea) :: rest) → Q .next { s with heap := h, toks := tk }) :
    wpAny (model prog w) A (pyIter (.ref ax)) (fun it s₂ => LoopAtV prog w A h₀ env x body Q E it s₂) E s := by
  refine fwd_loop (ea := ea) (PlInv m₀ x l ((ax, W.listOf va.toArray ea) :: rest)) hh F N hva ?_ ⟨[], e0, fun _ _ => rfl, rfl, .nil⟩ ?_ ?_
  · rintro pre m n ⟨vq, e, h2, rfl, h4⟩
    exact List.mem_cons_of_mem _ (List.mem_cons_self ..)
  · rintro I hI pre d post t m n it h tk hc ⟨vq, e, h2, rfl, h4⟩ F1 N1
    exact turn I hI pre d post t vq e it h tk hc h4 (fr_one h2 F1) N1
  · rintro m n h tk ⟨vq, e, h2, rfl, h4⟩ F1 N1
    exact done m vq e h tk h4 (fr_any h2 F1) N1
theorem places_end {h' : Heap} {L l I : Addr} {m m₀ : Str → Option Value} {x : Str} {it : Obj} {pre : List Nat} {e tk : Nat} {vq : List Value} {all : List (Addr × Obj)} {s₁ : Shared}
    (F : Fr h₀ L h' m) (N : News h₀ L h' all) (hs : ∀ p ∈ (I, it) :: (l, W.listOf vq.toArray e) :: rest, p ∈ all) (hoff : ∀ p ∈ (l, W.listOf vq.toArray e) :: rest, p.1 ≠ I)
    (h2 : ∀ z, z ≠ x → m z = m₀ z) (h4 : IntsAre vq ((plc pre).map fun (q : Nat) => (q : Int))) : UnrEnd h₀ L s₁ I it (fun m' n' => PlInv m₀ x l rest pre m' n') { s₁ with heap := h', toks := tk } :=
  UnrEnd.intro F N _ hs hoff ⟨vq, e, h2, rfl, h4⟩
end
end Mine
end

section -- LH
open PySem PySem.W PyProof.Rows PySem.Calls PySem.NumText PySem.Spec
set_option Elab.async false
set_option maxRecDepth 100000
namespace Mine
/-- what stands around the law, with the numbers left open -/
abbrev topA (dp un : Nat) (gd : Option (List Code)) : Around := { handled := none, depth := dp, frames := some [], guards := gd, units := un }
theorem ints_get : ∀ {vs : List Value} {ns : List Int}, IntsAre vs ns → ∀ {i : Nat} {v : Value}, vs[i]? = some v → ∃ k t, ns[i]? = some k ∧ v = .int k t
  | _, _, .nil, i, v, h => by simp at h
  | _, _, .cons n t hr, 0, v, h => by
    simp at h
    exact ⟨n, t, by simp, h.symm⟩
  | _, _, .cons n t hr, i + 1, v, h => by
    simp at h
    obtain ⟨k, t', h1, h2⟩ := ints_get hr h
    exact ⟨k, t', by simpa using h1, h2⟩
def hexAt (k : Int) : Int := ((([48, 49, 50, 51, 52, 53, 54, 55, 56, 57, 65, 66, 67, 68, 69, 70] : List UInt8).getD k.toNat 0).toNat : Int)
theorem hexAt_hx : ∀ q, q < 16 → (hexAt ((q : Nat) : Int)).toNat.toUInt8 = hx q := by decide +kernel
theorem hexAt_in : ∀ q, q < 16 → 0 ≤ hexAt ((q : Nat) : Int) ∧ hexAt ((q : Nat) : Int) < 256 := by decide +kernel
theorem hex_wr {b : Array UInt8} {ps : List Nat} (hb : places b = ps) (h : ∀ q ∈ ps, q < 16) : byteArr (List.map hexAt (ps.map fun (q : Nat) => (q : Int))) = wr b := by
  unfold byteArr wr
  rw [hb, List.map_map, List.map_map]
  exact congrArg List.toArray (List.map_congr_left fun q hq => hexAt_hx q (h q hq))
theorem hex_in {ps : List Nat} (h : ∀ q ∈ ps, q < 16) : KBa.In (List.map hexAt (ps.map fun (q : Nat) => (q : Int))) := by
  intro k hk
  rw [List.map_map] at hk
  obtain ⟨q, hq, rfl⟩ := List.mem_map.mp hk
  exact hexAt_in q (h q hq)
theorem plc_lt {os : List Nat} (ho : ∀ o ∈ os, o < 256) : ∀ q ∈ plc os, q < 16 := by
  intro q hq
  obtain ⟨o, hm, hq⟩ := List.mem_flatMap.mp hq
  have := ho o hm
  rcases List.mem_cons.mp hq with rfl | hq
  · omega
  · rw [List.mem_singleton.mp hq]; omega
/-- the check text -/
abbrev ckS (r : Int) : Str := Str.ofString (toString (Int.fdiv (98 - r) 10)) ++ Str.ofString (toString (Int.fmod (98 - r) 10))
theorem ck_list : ∀ r, r < 97 → (ckS ((r : Nat) : Int)).cps.toList = [48 + (98 - r) / 10, 48 + (98 - r) % 10] := by decide +kernel
theorem ck_digits {r : Nat} (h : r < 97) : AllDigits [48 + (98 - r) / 10, 48 + (98 - r) % 10] := by
  intro d hd
  simp only [List.mem_cons, List.not_mem_nil, or_false] at hd
  rcases hd with rfl | rfl <;> omega
theorem ck_len {r : Nat} (h : r < 97) : (ckS ((r : Nat) : Int)).length = 2 := by
  have := congrArg List.length (ck_list r h)
  exact Array.length_toList.symm.trans this
theorem oct_facts {os : List Nat} (hIn : KBa.In (os.map fun (q : Nat) => (q : Int))) (h6 : os.length ≤ 6) : (byteArr (os.map fun (q : Nat) => (q : Int))).size ≤ 1000 ∧ (wr (byteArr (os.map fun (q : Nat) => (q : Int)))).size ≤ 1000 ∧ (∀ k ∈ KBw.bInts (wr (byteArr (os.map fun (q : Nat) => (q : Int)))), 48 ≤ k ∧ k ≤ 70) ∧ places (byteArr (os.map fun (q : Nat) => (q : Int))) = plc os := by
  have hB := KBa.ints_make hIn
  have hbs := bsize_of hB
  refine ⟨by omega, by rw [wr_size]; omega, wr_range _, places_of hB⟩

/-- a name that the map holds may be written out -/
theorem fr_over {b h : Heap} {L : Addr} {m : Str → Option Value} {x : Str} {v : Value} (e : m x = some v) (F : Fr b L h m) : Fr b L h (fun y => if y = x then some v else m y) := by
  have e' : (fun y => if y = x then some v else m y) = m := by
    funext y
    by_cases a : y = x
    · simp only [if_pos a]; rw [a]; exact e.symm
    · simp only [if_neg a]
  rw [e']; exact F
end Mine
end

section -- LA
open PySem PySem.W PyProof.Rows PySem.Calls PySem.NumText PySem.Spec
set_option Elab.async false
set_option maxRecDepth 100000
namespace Mine
theorem fillLA : ∀ (w : World) (h : Heap), (Mine.hd.heap_39 w.params).In h → PySem.Challenge.rw_nb0216_01.row.prog = PySem.Challenge.rw_nb0216_01.row.prog := by
  k_fill; intros; rfl
section
variable {w : World} {p : Program} {loose : List Str} {mean : ExcName → Option Value} {mg mb : Str → Option Value} {dp un : Nat} {gd : Option (List Code)} {a : Addr} {ccd : Value} {base : Heap} {L : Addr} {m : Str → Option Value} {s : Shared} {Q : Flow → Shared → Prop} {E : Value → Shared → Prop} {news : List (Addr × Obj)}
local macro_rules | `(tactic| walk_at "call ref") => `(tactic| ((with_reducible show wpAny _ _ (call (Value.ref 108) _) _ _ _); k_dflt (refine' c_b16 ?B ?F ?X ?N ?T ?c ?d ?u ?z ?_; (case B => k_asm); (case F => k_asm); (case X => k_asm); (case N => k_asm); (case T => k_asm); (case c => first | exact rfl | assumption); (case d => first | ktr_room | decide); (case u => first | ktr_units | decide); (case z => assumption); k_whole); intro t9 h9 tk9 F9 N9; (try dsimp only); (try k_sweep); (try k_fold)))
local macro_rules | `(tactic| walk_at "eval ListComp") => `(tactic| (k_dflt (refine LCg.ListComp_U (by k_asm) (by with_unfolding_all rfl) (by decide) (by rfl) (by decide) (by rfl) ?_)))
local macro_rules | `(tactic| walk_at "call type:bytes") => `(tactic| ((with_reducible show wpAny _ _ (call (Value.type "bytes") [Value.ref _]) _ _ _); k_dflt (refine' KBa.make_K ?F ?N ?h ?l ?i ?r ?n ?_; (case F => k_asm); (case N => k_asm); (case h => rfl); (case l => exact News.isList (by k_asm) (by k_mem)); (case i => assumption); (case r => assumption); (case n => (rw [List.length_map]; omega))); intro h8 t8 k8 F8 N8 hIn8; (have hO8 := oct_facts hIn8 (by assumption)); (have hO81 := hO8.1); (have hO82 := hO8.2.1); (have hO83 := hO8.2.2.1); (have hO84 := hO8.2.2.2); clear hO8; (try dsimp only); (try k_sweep)))
set_option maxHeartbeats 8000000 in
/-- the writing, and that it is the table's -/
theorem seg_a {nm : Str} {params : Arguments} {body : List Stmt} {scope : Scope} {Dr l : Addr} {vs vp : List Value} {e ep : Nat} {os : List Nat} {oC : Obj} (hfd : some (nm, params, body, scope) = lawDef)
    (B : Below (topA dp un gd) base [] base) (X : (Mine.hd.heap_39 w.params).In base) (T : Top p loose mean mg mb base) (hL : (@LT.lt Nat _ 142 L)) (hd : dp + 200 < recursionLimit) (hu : un + 2000 < cLine) (hE : PassesOwn (model PySem.Challenge.rw_nb0216_01.row.prog w) ((topA dp un gd).deeper (envOfC nm scope L a ccd)) (envOfC nm scope L a ccd) E)
    (F : Fr base L s.heap (fun y => if y = Str.ofString "row" then some (.ref Dr) else m y))
    (N : News base L s.heap ((l, W.listOf vp.toArray ep) :: (Dr, W.listOf vs.toArray e) :: (L + 1, oC) :: news)) (hoC : oC.data = .cell (some (.ref l))) (hDr : @Ne Nat Dr (L + 1)) (hl : Dr < l) (hl2 : L + 1 < l)
    (hI : IntsAre vs (os.map fun (q : Nat) => (q : Int))) (hP : IntsAre vp ((plc os).map fun (q : Nat) => (q : Int))) (ho : ∀ o ∈ os, o < 256) (h1 : 1 ≤ os.length) (h6 : os.length ≤ 6)
    (hnext : ∀ b t h' tk', places b = plc os → Fr base L h' (fun y => if y = Str.ofString "writing" then some (.bytes (wr b) t) else if y = Str.ofString "row" then some (.ref Dr) else m y) → News base L h' ((l, W.listOf vp.toArray ep) :: (L + 1, oC) :: news) → b.size ≤ 6 → Q .next { s with heap := h', toks := tk' }) :
    wpAny (model PySem.Challenge.rw_nb0216_01.row.prog w) ((topA dp un gd).deeper (envOfC nm scope L a ccd)) (execs ((body.drop 5).take 2) (envOfC nm scope L a ccd)) Q E s := by
  cases hfd
  dsimp only [List.drop, List.take]
  have hIn : KBa.In (os.map fun (q : Nat) => (q : Int)) := by
    intro k hk
    obtain ⟨o, hm, rfl⟩ := List.mem_map.mp hk
    have := ho o hm
    omega
  have hpl16 := plc_lt ho
  have hl2' : @LT.lt Nat _ (L + 1) l := hl2
  have hl' : @LT.lt Nat _ Dr l := hl
  have hvp := IntsAre.length hP
  rw [List.length_map, plc_length] at hvp
  repeat' (first | (k_unfold; (try dsimp only)) | (k_end; wrow_close) | ((fail_if_success (with_reducible show LCg.CompSrc _ _ _ _ _ _ _ _ _ _ _ _ _ _)); walk1) | (dsimp only; (fail_if_success (with_reducible show LCg.CompSrc _ _ _ _ _ _ _ _ _ _ _ _ _ _)); walk1) | fail "no step")
  k_dflt (refine' LCg.CompSrc.ledger (its := vp.toArray) (k := ep) ?hh ?F ?N ?m ?z (fun g => kcf_rest (ks := (plc os).map fun (q : Nat) => (q : Int)) hexAt ?len (fun i v hi hv => ?P) (fun k' t' I' oI' C' oC' D' m' ys' h' tk' E' hk' hC' hx' F' N' off' ne' hMark' => ?turn) ?fin))
  case hh => rfl
  case F => k_asm
  case N => k_asm
  case m => k_mem
  case z => (rw [sizeLine_eq, List.size_toArray]; omega)
  case len => (rw [List.length_map, plc_length, List.size_toArray]; omega)
  case P => exact ints_get hP (by simpa using hv)
  case turn =>
    obtain ⟨q, hq, eq⟩ := List.mem_map.mp hk'
    have hq16 := hpl16 q hq
    have hk0 : 0 ≤ k' := by omega
    have hk1 : k' < 16 := by omega
    k_steps
    exact ⟨rfl, _, rfl⟩
  case fin =>
    unfold KPfDone
    intro ys hc
    unfold LCg.FinE
    intro D9 h9 tk9 F9 N9 o9
    dsimp only
    walk1
    k_dflt (refine' KBa.make_K ?F ?N ?h (News.isList N9 (by k_mem)) hc (hex_in hpl16) ?z ?ret)
    case F => k_asm
    case N => k_asm
    case h => rfl
    case z => (rw [List.length_map, List.length_map, plc_length]; omega)
    case ret =>
      intro h8 t8 k8 F8 N8 _
      rw [hex_wr (by assumption) hpl16]
      rename places _ = plc os => hpb
      have hsz := places_length (byteArr (os.map fun (q : Nat) => (q : Int)))
      rw [hpb, plc_length] at hsz
      (try dsimp only); (try k_sweep)
      k_steps
      · rename (_ != _) = true => hbad
        simp at hbad
      · rename News _ _ _ _ => N7
        exact hnext _ _ _ _ hpb (by assumption) (cb_drop N7 fun p hp => by simp only [List.mem_cons, List.cons_append, List.nil_append] at hp ⊢; grind) (by omega)
end
end Mine
end

section -- LB
open PySem PySem.W PyProof.Rows PySem.Calls PySem.NumText PySem.Spec
set_option Elab.async false
set_option maxRecDepth 100000
namespace Mine
theorem fillLB : ∀ (w : World) (h : Heap), (Mine.hd.heap_39 w.params).In h → PySem.Challenge.rw_nb0216_01.row.prog = PySem.Challenge.rw_nb0216_01.row.prog := by
  k_fill; intros; rfl
section
variable {w : World} {p : Program} {loose : List Str} {mean : ExcName → Option Value} {mg mb : Str → Option Value} {dp un : Nat} {gd : Option (List Code)} {a : Addr} {ccd : Value} {base : Heap} {L : Addr} {m : Str → Option Value} {s : Shared} {Q : Flow → Shared → Prop} {E : Value → Shared → Prop} {news : List (Addr × Obj)}
local macro_rules | `(tactic| walk_at "call ref") => `(tactic| ((with_reducible show wpAny _ _ (call (Value.ref 113) _) _ _ _); k_dflt (refine' c_spelled ?B ?F ?X ?N ?T ?c ?d ?u ?z ?r ?_; (case B => k_asm); (case F => k_asm); (case X => k_asm); (case N => k_asm); (case T => k_asm); (case c => first | exact rfl | assumption); (case d => first | ktr_room | decide); (case u => first | ktr_units | decide); (case z => assumption); (case r => assumption); k_whole); intro t9 h9 tk9 F9 N9; (try dsimp only); (try k_sweep); (try k_fold)))
local macro_rules | `(tactic| walk_at "call ref") => `(tactic| ((with_reducible show wpAny _ _ (call (Value.ref 125) _) _ _ _); k_dflt (refine' c_paper ?B ?F ?X ?N ?T ?c ?d ?u ?z ?r ?_; (case B => k_asm); (case F => k_asm); (case X => k_asm); (case N => k_asm); (case T => k_asm); (case c => first | exact rfl | assumption); (case d => first | ktr_room | decide); (case u => first | ktr_units | decide); (case z => assumption); (case r => assumption); k_whole); intro D9 t8 t9 h9 tk9 F9 N9 l9; (try k_lt l9); (try dsimp only); (try k_sweep); (try k_fold)))
local macro_rules | `(tactic| walk_at "call ref") => `(tactic| ((with_reducible show wpAny _ _ (call (Value.ref 118) _) _ _ _); k_dflt (refine' c_grouped ?B ?F ?X ?N ?T ?c ?d ?u ?z ?_; (case B => k_asm); (case F => k_asm); (case X => k_asm); (case N => k_asm); (case T => k_asm); (case c => first | exact rfl | assumption); (case d => first | ktr_room | decide); (case u => first | ktr_units | decide); (case z => assumption); k_whole); intro t9 h9 tk9 F9 N9; (try dsimp only); (try k_sweep); (try k_fold)))
local macro_rules | `(tactic| walk_at "binaryOp Add str str") => `(tactic| (refine add_str ?_ (by rw [sizeLine_eq]; omega); intro t7 k7))
set_option maxHeartbeats 8000000 in
/-- the spelling with two noughts -/
theorem seg_b {nm : Str} {params : Arguments} {body : List Stmt} {scope : Scope} {l : Addr} {vp : List Value} {ep : Nat} {ps : List Nat} {oC : Obj} {b : Array UInt8} {tw : Tok} {ta tc td : List (Addr × Obj)} (hfd : some (nm, params, body, scope) = lawDef)
    (B : Below (topA dp un gd) base [] base) (X : (Mine.hd.heap_39 w.params).In base) (T : Top p loose mean mg mb base) (hL : (@LT.lt Nat _ 142 L)) (hd : dp + 200 < recursionLimit) (hu : un + 2000 < cLine) (hE : PassesOwn (model PySem.Challenge.rw_nb0216_01.row.prog w) ((topA dp un gd).deeper (envOfC nm scope L a ccd)) (envOfC nm scope L a ccd) E)
    (CA : CodeHd base 63 59) (CB : CodeHd base 70 66) (CS : CodeHd base 35 31)
    (F : Fr base L s.heap (fun y => if y = Str.ofString "writing" then some (.bytes (wr b) tw) else m y)) (hta : Tab1 59 89 4 q59 ta) (htc : Tab1 66 104 4 q66 tc) (htd : Tab1 31 49 4 q31 td)
    (N : News base L s.heap ((l, W.listOf vp.toArray ep) :: (L + 1, oC) :: (ta ++ (tc ++ td)))) (hl : L + 1 < l)
    (hpb : places b = ps) (h16 : ∀ q ∈ ps, q < 16) (hps : ps.length ≤ 12)
    (hnext : ∀ t1 t2 t3 ta' tc' td' dr h' tk', Fr base L h' (fun y => if y = Str.ofString "rest" then some (.int ((digitsVal (sgns ps ++ [48, 48]) % 97 : Nat) : Int) t1) else if y = Str.ofString "worth" then some (.int ((digitsVal (sgns ps ++ [48, 48]) / 97 : Nat) : Int) t2) else if y = Str.ofString "spelled" then some (.str (spellB (wr b)) t3) else if y = Str.ofString "writing" then some (.bytes (wr b) tw) else m y) →
      News base L h' ((l, W.listOf vp.toArray ep) :: (L + 1, oC) :: (ta' ++ (tc' ++ td'))) → Tab1 59 89 4 q59 ta' → Tab1 66 104 4 q66 tc' → Tab1 31 49 4 q31 td' → Q .next { s with heap := h', toks := tk', drawn := dr }) :
    wpAny (model PySem.Challenge.rw_nb0216_01.row.prog w) ((topA dp un gd).deeper (envOfC nm scope L a ccd)) (execs ((body.drop 7).take 3) (envOfC nm scope L a ccd)) Q E s := by
  cases hfd
  dsimp only [List.drop, List.take]
  have hl' : @LT.lt Nat _ (L + 1) l := hl
  have hsz := places_length b
  rw [hpb] at hsz
  have hO82 : (wr b).size ≤ 1000 := by rw [wr_size]; omega
  have hO83 := wr_range b
  have c00 : (Str.ofString "00").length = 2 := by rfl
  have K0 := textOk (ck := Str.ofString "00") (c := [48, 48]) hpb h16 (by omega) (by rfl) rfl (by intro d hd; simp at hd; omega)
  have k01 := K0.len
  have k02 := K0.all
  have k03 := K0.dig
  k_steps
  rename Fr _ _ _ _ => F7
  rename News _ _ _ _ => N7
  rw [K0.pap] at F7 N7
  dsimp only at F7 N7
  obtain ⟨V, hV⟩ : ∃ V : Nat, V = digitsVal (sgns ps ++ [48, 48]) := ⟨_, rfl⟩
  rw [← hV] at K0 F7 N7 hnext
  k_dflt (refine' c_ifs (tb := td) (news := (l, W.listOf vp.toArray ep) :: (L + 1, oC) :: (ta ++ tc)) ?B ?F ?X CS htd ?N ?T ?c ?nw ?d ?u K0.grp K0.cln K0.all K0.txt ?ret)
  case B => k_asm
  case F => k_asm
  case X => k_asm
  case N => exact cb_drop N7 fun p hp => by simp only [List.mem_cons, List.mem_append, List.cons_append, List.nil_append] at hp ⊢; grind
  case T => k_asm
  case c => exact rfl
  case nw =>
    refine List.forall_mem_cons.mpr ⟨neN (by omega), List.forall_mem_cons.mpr ⟨neN (by omega), fun p hp => ?_⟩⟩
    rcases List.mem_append.mp hp with hp | hp
    · rcases tab_ne hta p hp with e | e
      · rw [e]; decide
      · exact neN (by omega)
    · rcases tab_ne htc p hp with e | e
      · rw [e]; decide
      · exact neN (by omega)
  case d => ktr_room
  case u => ktr_units
  case ret =>
    intro t6 dr6 td' h6 tk6 F6 N6 htd'
    (try dsimp only); (try k_sweep); (try k_fold)
    k_steps
    rename News _ _ _ _ => N5
    k_dflt (refine' c_int_divmod (ta := ta) (tc := tc) (i := V) (news := td' ++ ((l, W.listOf vp.toArray ep) :: (L + 1, oC) :: [])) ?B ?F ?X CA CB hta htc ?N ?T ?c ?nw ?d ?u rfl K0.lim ?ret)
    case B => k_asm
    case F => k_asm
    case X => k_asm
    case N => exact cb_drop N5 fun p hp => by simp only [List.mem_cons, List.mem_append, List.cons_append, List.nil_append] at hp ⊢; grind
    case T => k_asm
    case c => exact rfl
    case nw =>
      intro p hp
      rcases List.mem_append.mp hp with hp | hp
      · rcases tab_ne htd' p hp with e | e
        · rw [e]; decide
        · exact ⟨neN (by omega), neN (by omega)⟩
      · simp only [List.mem_cons, List.not_mem_nil, or_false] at hp
        rcases hp with rfl | rfl <;> exact ⟨neN (by omega), neN (by omega)⟩
    case d => ktr_room
    case u => ktr_units
    case ret =>
      intro D4 t4 t5 ta' tc' h4 tk4 F4 N4 hta' htc' hD4
      (try dsimp only); (try k_sweep); (try k_fold)
      k_steps
      rename News base L _ _ => N3
      exact hnext _ _ _ ta' tc' td' _ _ _ (by assumption) (cb_drop N3 fun p hp => by simp only [List.mem_cons, List.mem_append, List.cons_append, List.nil_append] at hp ⊢; grind) hta' htc' htd'
end
end Mine
end

section -- LC
open PySem PySem.W PyProof.Rows PySem.Calls PySem.NumText PySem.Spec
set_option Elab.async false
set_option maxRecDepth 100000
namespace Mine
theorem fillLC : ∀ (w : World) (h : Heap), (Mine.hd.heap_39 w.params).In h → PySem.Challenge.rw_nb0216_01.row.prog = PySem.Challenge.rw_nb0216_01.row.prog := by
  k_fill; intros; rfl
section
variable {w : World} {p : Program} {loose : List Str} {mean : ExcName → Option Value} {mg mb : Str → Option Value} {dp un : Nat} {gd : Option (List Code)} {a : Addr} {ccd : Value} {base : Heap} {L : Addr} {m : Str → Option Value} {s : Shared} {Q : Flow → Shared → Prop} {E : Value → Shared → Prop} {news : List (Addr × Obj)}
local macro_rules | `(tactic| walk_at "call ref") => `(tactic| ((with_reducible show wpAny _ _ (call (Value.ref 118) _) _ _ _); k_dflt (refine' c_grouped ?B ?F ?X ?N ?T ?c ?d ?u ?z ?_; (case B => k_asm); (case F => k_asm); (case X => k_asm); (case N => k_asm); (case T => k_asm); (case c => first | exact rfl | assumption); (case d => first | ktr_room | decide); (case u => first | ktr_units | decide); (case z => assumption); k_whole); intro t9 h9 tk9 F9 N9; (try dsimp only); (try k_sweep); (try k_fold)))
local macro_rules | `(tactic| walk_at "binaryOp Add str str") => `(tactic| (refine add_str ?_ (by rw [sizeLine_eq]; omega); intro t7 k7))
set_option maxHeartbeats 8000000 in
/-- the spelling with the check figures -/
theorem seg_c {nm : Str} {params : Arguments} {body : List Stmt} {scope : Scope} {l : Addr} {vp : List Value} {ep : Nat} {ps : List Nat} {oC : Obj} {b : Array UInt8} {t1 t2 t3 : Tok} {ta tc td : List (Addr × Obj)} (hfd : some (nm, params, body, scope) = lawDef)
    (B : Below (topA dp un gd) base [] base) (X : (Mine.hd.heap_39 w.params).In base) (T : Top p loose mean mg mb base) (hL : (@LT.lt Nat _ 142 L)) (hd : dp + 200 < recursionLimit) (hu : un + 2000 < cLine) (hE : PassesOwn (model PySem.Challenge.rw_nb0216_01.row.prog w) ((topA dp un gd).deeper (envOfC nm scope L a ccd)) (envOfC nm scope L a ccd) E)
    (CA : CodeHd base 63 59) (CB : CodeHd base 70 66) (CS : CodeHd base 35 31)
    (F : Fr base L s.heap (fun y => if y = Str.ofString "rest" then some (.int ((digitsVal (sgns ps ++ [48, 48]) % 97 : Nat) : Int) t1) else if y = Str.ofString "worth" then some (.int ((digitsVal (sgns ps ++ [48, 48]) / 97 : Nat) : Int) t2) else if y = Str.ofString "spelled" then some (.str (spellB (wr b)) t3) else m y)) (hta : Tab1 59 89 4 q59 ta) (htc : Tab1 66 104 4 q66 tc) (htd : Tab1 31 49 4 q31 td)
    (N : News base L s.heap ((l, W.listOf vp.toArray ep) :: (L + 1, oC) :: (ta ++ (tc ++ td)))) (hl : L + 1 < l)
    (hpb : places b = ps) (h16 : ∀ q ∈ ps, q < 16) (hps : ps.length ≤ 12)
    (hnext : ∀ t ta' tc' td' dr h' tk', Fr base L h' (fun y => if y = Str.ofString "check" then some (.str (ckS ((digitsVal (sgns ps ++ [48, 48]) % 97 : Nat) : Int)) t) else if y = Str.ofString "rest" then some (.int ((digitsVal (sgns ps ++ [48, 48]) % 97 : Nat) : Int) t1) else if y = Str.ofString "worth" then some (.int ((digitsVal (sgns ps ++ [48, 48]) / 97 : Nat) : Int) t2) else if y = Str.ofString "spelled" then some (.str (spellB (wr b)) t3) else m y) →
      News base L h' ((l, W.listOf vp.toArray ep) :: (L + 1, oC) :: (ta' ++ (tc' ++ td'))) → Tab1 59 89 4 q59 ta' → Tab1 66 104 4 q66 tc' → Tab1 31 49 4 q31 td' → Q .next { s with heap := h', toks := tk', drawn := dr }) :
    wpAny (model PySem.Challenge.rw_nb0216_01.row.prog w) ((topA dp un gd).deeper (envOfC nm scope L a ccd)) (execs ((body.drop 10).take 2) (envOfC nm scope L a ccd)) Q E s := by
  cases hfd
  dsimp only [List.drop, List.take]
  have hl' : @LT.lt Nat _ (L + 1) l := hl
  obtain ⟨V, hV⟩ : ∃ V : Nat, V = digitsVal (sgns ps ++ [48, 48]) := ⟨_, rfl⟩
  rw [← hV] at F hnext
  have hr97 : V % 97 < 97 := Nat.mod_lt _ (by decide)
  have K1 := textOk (ck := ckS ((V % 97 : Nat) : Int)) hpb h16 (by omega) (ck_list _ hr97) rfl (ck_digits hr97)
  have eV := check_val (sgns ps) (r := V % 97) (by rw [hV])
  rw [← hV] at eV
  obtain ⟨R, hR⟩ : ∃ R : Nat, R = V % 97 := ⟨_, rfl⟩
  obtain ⟨Wq, hW⟩ : ∃ Wq : Nat, Wq = V / 97 := ⟨_, rfl⟩
  rw [← hR, ← hW] at F hnext
  rw [← hR] at hr97 K1 eV
  rw [← hW] at eV
  have k11 := K1.all
  have k12 := ck_len hr97
  have k13 := K1.len
  obtain ⟨U, hU⟩ : ∃ U : Nat, U = digitsVal (sgns ps ++ [48 + (98 - R) / 10, 48 + (98 - R) % 10]) := ⟨_, rfl⟩
  rw [← hU] at K1 eV
  have hR0 : 0 ≤ ((R : Nat) : Int) := by omega
  have hR1 : ((R : Nat) : Int) < 97 := by omega
  k_steps
  rename Fr _ _ _ _ => F7
  rename News _ _ _ _ => N7
  k_dflt (refine' c_ifs (tb := td) (news := (l, W.listOf vp.toArray ep) :: (L + 1, oC) :: (ta ++ tc)) ?B ?F ?X CS htd ?N ?T ?c ?nw ?d ?u K1.grp K1.cln K1.all K1.txt ?ret)
  case B => k_asm
  case F => k_asm
  case X => k_asm
  case N => exact cb_drop N7 fun p hp => by simp only [List.mem_cons, List.mem_append, List.cons_append, List.nil_append] at hp ⊢; grind
  case T => k_asm
  case c => exact rfl
  case nw =>
    refine List.forall_mem_cons.mpr ⟨neN (by omega), List.forall_mem_cons.mpr ⟨neN (by omega), fun p hp => ?_⟩⟩
    rcases List.mem_append.mp hp with hp | hp
    · rcases tab_ne hta p hp with e | e
      · rw [e]; decide
      · exact neN (by omega)
    · rcases tab_ne htc p hp with e | e
      · rw [e]; decide
      · exact neN (by omega)
  case d => ktr_room
  case u => ktr_units
  case ret =>
    intro t6 dr6 td' h6 tk6 F6 N6 htd'
    (try dsimp only); (try k_sweep); (try k_fold)
    k_steps
    rename News _ _ _ _ => N5
    k_dflt (refine' c_int_divmod (ta := ta) (tc := tc) (i := U) (news := td' ++ ((l, W.listOf vp.toArray ep) :: (L + 1, oC) :: [])) ?B ?F ?X CA CB hta htc ?N ?T ?c ?nw ?d ?u rfl K1.lim ?ret)
    case B => k_asm
    case F => k_asm
    case X => k_asm
    case N => exact cb_drop N5 fun p hp => by simp only [List.mem_cons, List.mem_append, List.cons_append, List.nil_append] at hp ⊢; grind
    case T => k_asm
    case c => exact rfl
    case nw =>
      intro p hp
      rcases List.mem_append.mp hp with hp | hp
      · rcases tab_ne htd' p hp with e | e
        · rw [e]; decide
        · exact ⟨neN (by omega), neN (by omega)⟩
      · simp only [List.mem_cons, List.not_mem_nil, or_false] at hp
        rcases hp with rfl | rfl <;> exact ⟨neN (by omega), neN (by omega)⟩
    case d => ktr_room
    case u => ktr_units
    case ret =>
      intro D4 t4 t5 ta' tc' h4 tk4 F4 N4 hta' htc' hD4
      have eU1 : ((U / 97 : Nat) : Int) = ((Wq : Nat) : Int) + 1 := by omega
      have eU2 : ((U % 97 : Nat) : Int) = 1 := by omega
      rw [eU1, eU2] at N4
      (try dsimp only); (try k_sweep); (try k_fold)
      k_steps
      rename News base L _ _ => N3
      exact hnext _ ta' tc' td' _ _ _ (by assumption) (cb_drop N3 fun p hp => by simp only [List.mem_cons, List.mem_append, List.cons_append, List.nil_append] at hp ⊢; grind) hta' htc' htd'
end
end Mine
end

section -- P6
open PySem PySem.W PyProof.Rows PySem.NumText
set_option Elab.async false
set_option maxRecDepth 100000
namespace Mine
theorem wrong_ok {d : Nat} (way : Int) (hd : d < 16) : ∃ x : Nat, wrongOf ((d : Nat) : Int) way = ((x : Nat) : Int) ∧ x < 16 ∧ ((d < 10 ∧ x < 10) ∨ (10 ≤ d ∧ 10 ≤ x)) ∧ d ≠ x := by
  unfold wrongOf
  rw [Int.fmod_eq_emod_of_nonneg way (by decide : (0 : Int) ≤ 9), Int.fmod_eq_emod_of_nonneg way (by decide : (0 : Int) ≤ 5), Int.fmod_eq_emod_of_nonneg _ (by decide : (0 : Int) ≤ 10), Int.fmod_eq_emod_of_nonneg _ (by decide : (0 : Int) ≤ 6)]
  by_cases h : d < 10
  · rw [if_pos (by omega)]
    exact ⟨(((d : Int) + 1 + way % 9) % 10).toNat, by omega, by omega, .inl ⟨h, by omega⟩, by omega⟩
  · rw [if_neg (by omega)]
    exact ⟨(10 + ((d : Int) - 9 + way % 5) % 6).toNat, by omega, by omega, .inr ⟨by omega, by omega⟩, by omega⟩
theorem cast_getD : ∀ (ps : List Nat) (k : Nat), (ps.map fun (q : Nat) => (q : Int)).getD k 0 = ((ps.getD k 0 : Nat) : Int)
  | [], k => by cases k <;> rfl
  | q :: r, 0 => rfl
  | q :: r, k + 1 => cast_getD r k
theorem getD_mem : ∀ {ps : List Nat} {k : Nat}, k < ps.length → ps.getD k 0 ∈ ps
  | q :: r, 0, _ => List.mem_cons_self ..
  | q :: r, k + 1, h => List.mem_cons_of_mem _ (getD_mem (ps := r) (k := k) (by simpa using h))
theorem split1 : ∀ {ps : List Nat} {k : Nat}, k < ps.length → ps = ps.take k ++ ([ps.getD k 0] ++ ps.drop (k + 1))
  | q :: r, 0, _ => rfl
  | q :: r, k + 1, h => congrArg (q :: ·) (split1 (ps := r) (k := k) (by simpa using h))
theorem split2 : ∀ {ps : List Nat} {k : Nat}, k + 1 < ps.length → ps = ps.take k ++ ([ps.getD k 0, ps.getD (k + 1) 0] ++ ps.drop (k + 2))
  | q :: q' :: r, 0, _ => rfl
  | [q], 0, h => by simp at h
  | q :: r, k + 1, h => congrArg (q :: ·) (split2 (ps := r) (k := k) (by simpa using h))
theorem sgns_one (a : Nat) : sgns [a] = sgn a := by unfold sgns; simp
theorem sgns_two (a b : Nat) : sgns [a, b] = sgn a ++ sgn b := by unfold sgns; simp
/-- one place written wrong: the whole row -/
theorem changed_ok {ps c : List Nat} {k : Nat} (way : Int) (h16 : ∀ q ∈ ps, q < 16) (hk : k < ps.length) (h1 : digitsVal (sgns ps ++ c) % 97 = 1) :
    ∃ ns : List Nat, (ps.map fun (q : Nat) => (q : Int)).take k ++ [wrongOf ((ps.map fun (q : Nat) => (q : Int)).getD k 0) way] ++ (ps.map fun (q : Nat) => (q : Int)).drop (k + 1) = ns.map (fun (q : Nat) => (q : Int)) ∧
      ns.length = ps.length ∧ (∀ q ∈ ns, q < 16) ∧ digitsVal (sgns ns ++ c) % 97 ≠ 1 := by
  have hd := h16 _ (getD_mem hk)
  obtain ⟨x, e1, hx, hc, hne⟩ := wrong_ok way hd
  refine ⟨ps.take k ++ ([x] ++ ps.drop (k + 1)), ?_, ?_, ?_, ?_⟩
  · rw [cast_getD, e1]
    simp only [List.map_append, List.map_take, List.map_drop, List.map_cons, List.map_nil, List.append_assoc]
  · simp only [List.length_append, List.length_take, List.length_drop, List.length_cons, List.length_nil]; omega
  · intro q hq
    rcases List.mem_append.mp hq with hq | hq
    · exact h16 q (List.mem_of_mem_take hq)
    · rcases List.mem_append.mp hq with hq | hq
      · rw [List.mem_singleton.mp hq]; exact hx
      · exact h16 q (List.mem_of_mem_drop hq)
  · have e := split1 hk
    have h2 : digitsVal (sgns (ps.take k) ++ sgn (ps.getD k 0) ++ (sgns (ps.drop (k + 1)) ++ c)) % 97 = 1 := by
      refine Eq.trans ?_ h1
      conv => rhs; rw [e]
      rw [sgns_append, sgns_append, sgns_one]
      simp only [List.append_assoc]
    have h3 := sub_wrong hd hx hc hne h2
    rw [sgns_append, sgns_append, sgns_one]
    simp only [List.append_assoc] at h3 ⊢
    exact h3
/-- two neighbours turned: the whole row -/
theorem turned_ok {ps c : List Nat} {k : Nat} (h16 : ∀ q ∈ ps, q < 16) (hk : k + 1 < ps.length) (hne : ps.getD k 0 ≠ ps.getD (k + 1) 0) (hc : (ps.getD k 0 < 10 ∧ ps.getD (k + 1) 0 < 10) ∨ (10 ≤ ps.getD k 0 ∧ 10 ≤ ps.getD (k + 1) 0)) (h1 : digitsVal (sgns ps ++ c) % 97 = 1) :
    ∃ ns : List Nat, (ps.map fun (q : Nat) => (q : Int)).take k ++ [(ps.map fun (q : Nat) => (q : Int)).getD (k + 1) 0, (ps.map fun (q : Nat) => (q : Int)).getD k 0] ++ (ps.map fun (q : Nat) => (q : Int)).drop (k + 2) = ns.map (fun (q : Nat) => (q : Int)) ∧
      ns.length = ps.length ∧ (∀ q ∈ ns, q < 16) ∧ digitsVal (sgns ns ++ c) % 97 ≠ 1 := by
  have ha := h16 _ (getD_mem (show k < ps.length by omega))
  have hb := h16 _ (getD_mem hk)
  refine ⟨ps.take k ++ ([ps.getD (k + 1) 0, ps.getD k 0] ++ ps.drop (k + 2)), ?_, ?_, ?_, ?_⟩
  · rw [cast_getD, cast_getD]
    simp only [List.map_append, List.map_take, List.map_drop, List.map_cons, List.map_nil, List.append_assoc]
  · simp only [List.length_append, List.length_take, List.length_drop, List.length_cons, List.length_nil]; omega
  · intro q hq
    rcases List.mem_append.mp hq with hq | hq
    · exact h16 q (List.mem_of_mem_take hq)
    · rcases List.mem_append.mp hq with hq | hq
      · rcases List.mem_cons.mp hq with rfl | hq
        · exact hb
        · rw [List.mem_singleton.mp hq]; exact ha
      · exact h16 q (List.mem_of_mem_drop hq)
  · have e := split2 hk
    have h2 : digitsVal (sgns (ps.take k) ++ (sgn (ps.getD k 0) ++ sgn (ps.getD (k + 1) 0)) ++ (sgns (ps.drop (k + 2)) ++ c)) % 97 = 1 := by
      refine Eq.trans ?_ h1
      conv => rhs; rw [e]
      rw [sgns_append, sgns_append, sgns_two]
      simp only [List.append_assoc]
    have h3 := sub_turn ha hb hc hne h2
    rw [sgns_append, sgns_append, sgns_two]
    simp only [List.append_assoc] at h3 ⊢
    exact h3
/-- the check text answers -/
theorem check_ok (ps : List Nat) : (ckS ((digitsVal (sgns ps ++ [48, 48]) % 97 : Nat) : Int)).length = 2 ∧ AllDigits (ckS ((digitsVal (sgns ps ++ [48, 48]) % 97 : Nat) : Int)).cps.toList ∧ digitsVal (sgns ps ++ (ckS ((digitsVal (sgns ps ++ [48, 48]) % 97 : Nat) : Int)).cps.toList) % 97 = 1 := by
  have hr97 : digitsVal (sgns ps ++ [48, 48]) % 97 < 97 := Nat.mod_lt _ (by decide)
  have e := ck_list _ hr97
  refine ⟨ck_len hr97, ?_, ?_⟩
  · rw [e]; exact ck_digits hr97
  · rw [e, check_val (sgns ps) rfl]; omega
end Mine
end

section -- LD
open PySem PySem.W PyProof.Rows PySem.Calls PySem.NumText PySem.Spec
set_option Elab.async false
set_option maxRecDepth 100000
namespace Mine
theorem fillLD : ∀ (w : World) (h : Heap), (Mine.hd.heap_39 w.params).In h → PySem.Challenge.rw_nb0216_01.row.prog = PySem.Challenge.rw_nb0216_01.row.prog := by
  k_fill; intros; rfl
section
variable {w : World} {p : Program} {loose : List Str} {mean : ExcName → Option Value} {mg mb : Str → Option Value} {dp un : Nat} {gd : Option (List Code)} {a : Addr} {ccd : Value} {base : Heap} {L : Addr} {m : Str → Option Value} {s : Shared} {Q : Flow → Shared → Prop} {E : Value → Shared → Prop} {news : List (Addr × Obj)}
set_option maxHeartbeats 8000000 in
/-- one place written wrong is noticed -/
theorem seg_d {nm : Str} {params : Arguments} {body : List Stmt} {scope : Scope} {l : Addr} {vp : List Value} {ep n : Nat} {ps : List Nat} {oC : Obj} {ck : Str} {lead way : Int} {tk tw tl : Tok} {ta tc td : List (Addr × Obj)} (hfd : some (nm, params, body, scope) = lawDef)
    (B : Below (topA dp un gd) base [] base) (X : (Mine.hd.heap_39 w.params).In base) (T : Top p loose mean mg mb base) (hL : (@LT.lt Nat _ 142 L)) (hd : dp + 200 < recursionLimit) (hu : un + 2000 < cLine) (hE : PassesOwn (model PySem.Challenge.rw_nb0216_01.row.prog w) ((topA dp un gd).deeper (envOfC nm scope L a ccd)) (envOfC nm scope L a ccd) E)
    (CA : CodeHd base 63 59) (CB : CodeHd base 70 66) (CS : CodeHd base 35 31)
    (F : Fr base L s.heap (fun y => if y = Str.ofString "check" then some (.str ck tk) else if y = Str.ofString "way" then some (.int way tw) else if y = Str.ofString "lead" then some (.int lead tl) else m y)) (hta : Tab1 59 89 4 q59 ta) (htc : Tab1 66 104 4 q66 tc) (htd : Tab1 31 49 4 q31 td)
    (N : News base L s.heap ((l, W.listOf vp.toArray ep) :: (L + 1, oC) :: (ta ++ (tc ++ td)))) (hoC : oC.data = .cell (some (.ref l))) (hl : L + 1 < l)
    (hP : IntsAre vp (ps.map fun (q : Nat) => (q : Int))) (h16 : ∀ q ∈ ps, q < 16) (hps : ps.length = 2 * n) (hn1 : 1 ≤ n) (hn6 : n ≤ 6) (hck : ck.length = 2) (hcd : AllDigits ck.cps.toList) (hone : digitsVal (sgns ps ++ ck.cps.toList) % 97 = 1)
    (hnext : ∀ ta' tc' td' dr h' tk', Fr base L h' (fun y => if y = Str.ofString "check" then some (.str ck tk) else if y = Str.ofString "way" then some (.int way tw) else if y = Str.ofString "lead" then some (.int lead tl) else m y) →
      News base L h' ((l, W.listOf vp.toArray ep) :: (L + 1, oC) :: (ta' ++ (tc' ++ td'))) → Tab1 59 89 4 q59 ta' → Tab1 66 104 4 q66 tc' → Tab1 31 49 4 q31 td' → Q .next { s with heap := h', toks := tk', drawn := dr }) :
    wpAny (model PySem.Challenge.rw_nb0216_01.row.prog w) ((topA dp un gd).deeper (envOfC nm scope L a ccd)) (execs ((body.drop 12).take 1) (envOfC nm scope L a ccd)) Q E s := by
  cases hfd
  dsimp only [List.drop, List.take]
  have hl' : @LT.lt Nat _ (L + 1) l := hl
  have hvp := IntsAre.length hP
  rw [List.length_map] at hvp
  k_steps
  · rename ((List.map _ ps).length : Int) = 0 => h0
    rw [List.length_map] at h0
    omega
  obtain ⟨k, hk, ek⟩ : ∃ k : Nat, k < ps.length ∧ Int.fmod lead (((ps.map fun (q : Nat) => (q : Int)).length : Nat) : Int) = ((k : Nat) : Int) := by
    rw [List.length_map]
    have z1 := Int.fmod_nonneg_of_pos lead (show (0 : Int) < ((ps.length : Nat) : Int) by omega)
    have z2 := Int.fmod_lt_of_pos lead (show (0 : Int) < ((ps.length : Nat) : Int) by omega)
    exact ⟨(Int.fmod lead ((ps.length : Nat) : Int)).toNat, by omega, by omega⟩
  rw [ek]
  obtain ⟨ns, e1, e2, e3, e4⟩ := changed_ok way h16 hk hone
  k_dflt (refine' c_changed (D := l) (news := (L + 1, oC) :: (ta ++ (tc ++ td))) (e := ep) (at' := k) ?B ?F ?X ?N ?T ?c ?d ?u hP ?l ?a ?ret)
  case B => k_asm
  case F => k_asm
  case X => k_asm
  case N => k_asm
  case T => k_asm
  case c => exact rfl
  case d => ktr_room
  case u => ktr_units
  case l => (rw [List.length_map]; omega)
  case a => (rw [List.length_map]; exact hk)
  case ret =>
    intro D5 vs5 e5 h5 tk5 F5 N5 I5 hD5 hnD5
    rw [e1] at I5
    (try dsimp only); (try k_sweep); (try k_fold)
    k_steps
    k_dflt (refine' c_noticed (ta := ta) (tc := tc) (td := td) (D := D5) (news := (l, W.listOf vp.toArray ep) :: (L + 1, oC) :: []) (n := n) (ns := ns) (e := e5) (vs := vs5) ?B ?F ?X CA CB CS hta htc htd ?N ?T ?c ?D ?nw ?d ?u I5 (by omega) hn6 e3 hck hcd ?ret)
    case B => k_asm
    case F => k_asm
    case X => k_asm
    case N => exact cb_drop N5 fun p hp => by simp only [List.mem_cons, List.mem_append, List.cons_append, List.nil_append, List.not_mem_nil, or_false] at hp ⊢; grind
    case T => k_asm
    case c => exact rfl
    case D =>
      have z : @LT.lt Nat _ l D5 := hD5
      exact show @LT.lt Nat _ 142 D5 by omega
    case nw =>
      intro p hp
      simp only [List.mem_cons, List.not_mem_nil, or_false] at hp
      rcases hp with rfl | rfl <;> exact ⟨neN (by omega), neN (by omega), neN (by omega)⟩
    case d => ktr_room
    case u => ktr_units
    case ret =>
      intro ta' tc' td' dr4 h4 tk4 F4 N4 hta' htc' htd'
      rw [decide_eq_true e4]
      (try dsimp only); (try k_sweep); (try k_fold)
      k_steps
      rename News base L _ _ => N3
      exact hnext ta' tc' td' _ _ _ (by assumption) (cb_drop N3 fun p hp => by simp only [List.mem_cons, List.mem_append, List.cons_append, List.nil_append, List.not_mem_nil, or_false] at hp ⊢; grind) hta' htc' htd'
end
end Mine
end

section -- LE
open PySem PySem.W PyProof.Rows PySem.Calls PySem.NumText PySem.Spec
set_option Elab.async false
set_option maxRecDepth 100000
namespace Mine
theorem fillLE : ∀ (w : World) (h : Heap), (Mine.hd.heap_39 w.params).In h → PySem.Challenge.rw_nb0216_01.row.prog = PySem.Challenge.rw_nb0216_01.row.prog := by
  k_fill; intros; rfl
section
variable {w : World} {p : Program} {loose : List Str} {mean : ExcName → Option Value} {mg mb : Str → Option Value} {dp un : Nat} {gd : Option (List Code)} {a : Addr} {ccd : Value} {base : Heap} {L : Addr} {m : Str → Option Value} {s : Shared} {Q : Flow → Shared → Prop} {E : Value → Shared → Prop} {news : List (Addr × Obj)}
local macro_rules | `(tactic| walk_at "exec Assign cons ListComp") => `(tactic| (k_here; k_dflt (refine LCt.Assign_ListComp_T (F₀ := by k_asm) (by rfl) (by with_unfolding_all rfl) (by with_unfolding_all rfl) (by decide) (by rfl) (by decide) (by rfl) (by rfl) (by rfl) ?_)))
/-- where two unlike neighbours of one kind stand -/
def spotB (ds : List Int) (k : Int) : Bool := decide (ds.getD k.toNat 0 ≠ ds.getD (k + 1).toNat 0) && (decide (ds.getD k.toNat 0 < 10) == decide (ds.getD (k + 1).toNat 0 < 10))
def takeIf (f : Int → Bool) (l : List Int) (k : Int) : List Int := if f k = true then l ++ [k] else l
theorem takeIf_fold (f : Int → Bool) : ∀ (ks l : List Int), ks.foldl (takeIf f) l = l ++ ks.filter f
  | [], l => by simp
  | k :: ks, l => by
    rw [List.foldl_cons, takeIf_fold f ks]
    unfold takeIf
    by_cases h : f k = true
    · rw [if_pos h, List.filter_cons_of_pos h, List.append_assoc]; rfl
    · rw [if_neg h, List.filter_cons_of_neg h]
theorem takeIf_grows (f : Int → Bool) : KPfGrows (takeIf f) := by
  intro l k
  unfold takeIf
  split
  · rw [List.length_append]; exact Nat.le_refl _
  · omega
theorem rangeN1 (n : Nat) (hn : n ≤ 1000) (h1 : 1 ≤ n) : Builtin.Range.rangeSize 0 (((n : Nat) : Int) - 1) 1 = (((n - 1) : Nat) : Int) := by
  unfold Builtin.Range.rangeSize
  rw [if_pos (by decide)]
  split <;> omega
theorem smallN1 (n : Nat) (hn : n ≤ 600) (h1 : 1 ≤ n) : Builtin.Range.small 0 (((n : Nat) : Int) - 1) 1 = true := by
  unfold Builtin.Range.small
  rw [rangeN1 n (by omega) h1, fitsL (by decide) (by decide), fitsL (x := ((n : Nat) : Int) - 1) (by omega) (by omega), fitsL (x := (1 : Int)) (by decide) (by decide), fitsL (x := ((n - 1 : Nat) : Int)) (by omega) (by omega), if_pos (by decide), fitsL (by omega) (by omega), Bool.or_true]
  rfl
set_option maxHeartbeats 8000000 in
/-- the spots -/
theorem seg_e {nm : Str} {params : Arguments} {body : List Stmt} {scope : Scope} {l : Addr} {vp : List Value} {ep n : Nat} {ps : List Nat} {oC : Obj} {ta tc td : List (Addr × Obj)} (hfd : some (nm, params, body, scope) = lawDef)
    (B : Below (topA dp un gd) base [] base) (X : (Mine.hd.heap_39 w.params).In base) (T : Top p loose mean mg mb base) (hL : (@LT.lt Nat _ 142 L)) (hd : dp + 200 < recursionLimit) (hu : un + 2000 < cLine) (hE : PassesOwn (model PySem.Challenge.rw_nb0216_01.row.prog w) ((topA dp un gd).deeper (envOfC nm scope L a ccd)) (envOfC nm scope L a ccd) E)
    (F : Fr base L s.heap m)
    (N : News base L s.heap ((l, W.listOf vp.toArray ep) :: (L + 1, oC) :: (ta ++ (tc ++ td)))) (hoC : oC.data = .cell (some (.ref l))) (hl : L + 1 < l)
    (hP : IntsAre vp (ps.map fun (q : Nat) => (q : Int))) (h16 : ∀ q ∈ ps, q < 16) (hps : ps.length = 2 * n) (hn1 : 1 ≤ n) (hn6 : n ≤ 6)
    (hnext : ∀ D ys h' tk', Fr base L h' (fun y => if y = Str.ofString "spots" then some (.ref D) else m y) → News base L h' ((D, LCg.lst ys) :: (l, W.listOf vp.toArray ep) :: (L + 1, oC) :: (ta ++ (tc ++ td))) → IntsAre ys ((rangeKs 0 (2 * n - 1)).filter (spotB (ps.map fun (q : Nat) => (q : Int)))) → ys.length ≤ 12 → D ≠ l → D ≠ L + 1 → Q .next { s with heap := h', toks := tk' }) :
    wpAny (model PySem.Challenge.rw_nb0216_01.row.prog w) ((topA dp un gd).deeper (envOfC nm scope L a ccd)) (execs ((body.drop 13).take 1) (envOfC nm scope L a ccd)) Q E s := by
  cases hfd
  dsimp only [List.drop, List.take]
  have hl' : @LT.lt Nat _ (L + 1) l := hl
  have hvp := IntsAre.length hP
  rw [List.length_map] at hvp
  repeat' (first | (k_unfold; (try dsimp only)) | (k_end; wrow_close) | ((fail_if_success (with_reducible show LCt.CompSrcT _ _ _ _ _ _ _ _ _ _ _ _ _ _ _)); walk1) | (dsimp only; (fail_if_success (with_reducible show LCt.CompSrcT _ _ _ _ _ _ _ _ _ _ _ _ _ _ _)); walk1) | fail "no step")
  have eR : ((List.map (fun (q : Nat) => (q : Int)) ps).length : Int) - 1 = (((2 * n : Nat) : Nat) : Int) - 1 := by rw [List.length_map, hps]
  k_dflt (refine' LCt.CompSrcT.range (n := 2 * n - 1) ?hh ?F ?N ?R ?sm ?n ?z (fun g => kci_rest (ks := rangeKs 0 (2 * n - 1)) (takeIf (spotB (ps.map fun (q : Nat) => (q : Int)))) (rangeKs_length _ _) (fun i v hi hv => ?P) (fun k' t' I' oI' C' oC' D' m' ys' l' h' tk' E' hk' hI' hC' hx' F' N' off' ne' hMark' => ?turn) ?fin (takeIf_grows _)))
  case hh => rfl
  case F => k_asm
  case N => k_asm
  case R => assumption
  case sm => (rw [eR]; exact smallN1 _ (by omega) (by omega))
  case n => (rw [eR]; exact rangeN1 _ (by omega) (by omega))
  case z => (rw [sizeLine_eq]; omega)
  case P =>
    obtain ⟨t, e⟩ := hv
    exact ⟨(0 : Int) + (i : Int), t, by simp [rangeKs, hi], e⟩
  case turn =>
    have hk0 := (mem_rangeKs hk').1
    have hk1 : k' + 1 < ((List.map (fun (q : Nat) => (q : Int)) ps).length : Int) := by
      have := (mem_rangeKs hk').2
      rw [List.length_map]; omega
    k_steps
    · rename _ ≠ _ => g1
      rename (_ == _) = true => g2
      have e : spotB (ps.map fun (q : Nat) => (q : Int)) k' = true := by
        unfold spotB
        rw [decide_eq_true g1, g2]; rfl
      with_unfolding_all exact LCg.CompEnd.intro F' N' _ (fun p hp => hp) off' trivial (kci_el (by unfold takeIf; rw [if_pos e]) rfl rfl)
    · rename (_ == _) = false => g2
      have e : spotB (ps.map fun (q : Nat) => (q : Int)) k' = false := by
        unfold spotB
        rw [g2, Bool.and_false]
      with_unfolding_all exact LCg.CompEnd.intro F' N' _ (fun p hp => hp) off' trivial (kci_no (by unfold takeIf; rw [e]; rfl) rfl)
    · rename (List.map _ ps).getD _ 0 = _ => g1
      have e : spotB (ps.map fun (q : Nat) => (q : Int)) k' = false := by
        unfold spotB
        rw [decide_eq_false (by simpa using g1), Bool.false_and]
      with_unfolding_all exact LCg.CompEnd.intro F' N' _ (fun p hp => hp) off' trivial (kci_no (by unfold takeIf; rw [e]; rfl) rfl)
  case fin =>
    unfold KPfDone
    intro ys hc hyl
    rw [takeIf_fold, List.nil_append] at hc
    unfold LCg.FinA
    intro D9 h9 tk9 F9 N9 o9
    dsimp only
    k_steps
    exact hnext _ _ _ _ F9 N9 hc (by omega) (Ne.symm o9.1) (Ne.symm o9.2.1)
end
end Mine
end

section -- LF
open PySem PySem.W PyProof.Rows PySem.Calls PySem.NumText PySem.Spec
set_option Elab.async false
set_option maxRecDepth 100000
namespace Mine
theorem fillLF : ∀ (w : World) (h : Heap), (Mine.hd.heap_39 w.params).In h → PySem.Challenge.rw_nb0216_01.row.prog = PySem.Challenge.rw_nb0216_01.row.prog := by
  k_fill; intros; rfl
section
variable {w : World} {p : Program} {loose : List Str} {mean : ExcName → Option Value} {mg mb : Str → Option Value} {dp un : Nat} {gd : Option (List Code)} {a : Addr} {ccd : Value} {base : Heap} {L : Addr} {m : Str → Option Value} {s : Shared} {Q : Flow → Shared → Prop} {E : Value → Shared → Prop} {news : List (Addr × Obj)}
local macro_rules | `(tactic| kmk_nums) => `(tactic| first | exact kmk_upto (by assumption) (by omega) | exact kmk_from (by assumption) (by omega))
theorem getD_memI : ∀ {l : List Int} {k : Nat}, k < l.length → l.getD k 0 ∈ l
  | q :: r, 0, _ => List.mem_cons_self ..
  | q :: r, k + 1, h => List.mem_cons_of_mem _ (getD_memI (l := r) (k := k) (by simpa using h))
theorem spot_turned {ps c : List Nat} {v : Int} (h16 : ∀ q ∈ ps, q < 16) (hk : v + 1 < ((ps.length : Nat) : Int)) (h0 : 0 ≤ v) (hB : spotB (ps.map fun (q : Nat) => (q : Int)) v = true) (h1 : digitsVal (sgns ps ++ c) % 97 = 1) :
    ∃ ns : List Nat, (ps.map fun (q : Nat) => (q : Int)).take v.toNat ++ [(ps.map fun (q : Nat) => (q : Int)).getD (v + 1).toNat 0, (ps.map fun (q : Nat) => (q : Int)).getD v.toNat 0] ++ (ps.map fun (q : Nat) => (q : Int)).drop (v + 2).toNat = ns.map (fun (q : Nat) => (q : Int)) ∧
      ns.length = ps.length ∧ (∀ q ∈ ns, q < 16) ∧ digitsVal (sgns ns ++ c) % 97 ≠ 1 := by
  obtain ⟨k, rfl⟩ : ∃ k : Nat, v = ((k : Nat) : Int) := ⟨v.toNat, by omega⟩
  have e1 : (((k : Nat) : Int) + 1).toNat = k + 1 := by omega
  have e2 : (((k : Nat) : Int) + 2).toNat = k + 2 := by omega
  have e0 : ((k : Nat) : Int).toNat = k := by omega
  unfold spotB at hB
  rw [e0, e1, cast_getD, cast_getD, Bool.and_eq_true] at hB
  rw [e0, e1, e2]
  have g1 := of_decide_eq_true hB.1
  have g2 := hB.2
  refine turned_ok h16 (by omega) (by omega) ?_ h1
  by_cases ha : ps.getD k 0 < 10
  · rw [decide_eq_true (by omega)] at g2
    exact .inl ⟨ha, by have := of_decide_eq_true (eq_of_beq g2).symm; omega⟩
  · rw [decide_eq_false (by omega)] at g2
    exact .inr ⟨by omega, by have := of_decide_eq_false (eq_of_beq g2).symm; omega⟩
set_option maxHeartbeats 8000000 in
/-- two neighbours turned are noticed -/
theorem seg_f {nm : Str} {params : Arguments} {body : List Stmt} {scope : Scope} {l Ds : Addr} {vp ys : List Value} {ep es n : Nat} {ps : List Nat} {sp : List Int} {oC : Obj} {ck : Str} {way : Int} {tk tw : Tok} {ta tc td : List (Addr × Obj)} (hfd : some (nm, params, body, scope) = lawDef)
    (B : Below (topA dp un gd) base [] base) (X : (Mine.hd.heap_39 w.params).In base) (T : Top p loose mean mg mb base) (hL : (@LT.lt Nat _ 142 L)) (hd : dp + 200 < recursionLimit) (hu : un + 2000 < cLine) (hE : PassesOwn (model PySem.Challenge.rw_nb0216_01.row.prog w) ((topA dp un gd).deeper (envOfC nm scope L a ccd)) (envOfC nm scope L a ccd) E)
    (CA : CodeHd base 63 59) (CB : CodeHd base 70 66) (CS : CodeHd base 35 31)
    (F : Fr base L s.heap (fun y => if y = Str.ofString "spots" then some (.ref Ds) else if y = Str.ofString "check" then some (.str ck tk) else if y = Str.ofString "way" then some (.int way tw) else m y)) (hta : Tab1 59 89 4 q59 ta) (htc : Tab1 66 104 4 q66 tc) (htd : Tab1 31 49 4 q31 td)
    (N : News base L s.heap ((Ds, W.listOf ys.toArray es) :: (l, W.listOf vp.toArray ep) :: (L + 1, oC) :: (ta ++ (tc ++ td)))) (hoC : oC.data = .cell (some (.ref l))) (hl : L + 1 < l) (hDs : Ds ≠ l) (hDs' : Ds ≠ L + 1)
    (hP : IntsAre vp (ps.map fun (q : Nat) => (q : Int))) (h16 : ∀ q ∈ ps, q < 16) (hps : ps.length = 2 * n) (hn1 : 1 ≤ n) (hn6 : n ≤ 6) (hck : ck.length = 2) (hcd : AllDigits ck.cps.toList) (hone : digitsVal (sgns ps ++ ck.cps.toList) % 97 = 1)
    (hsp : IntsAre ys sp) (hsl : ys.length ≤ 12) (hsB : ∀ k ∈ sp, 0 ≤ k ∧ k + 1 < ((2 * n : Nat) : Int) ∧ spotB (ps.map fun (q : Nat) => (q : Int)) k = true)
    (hnext : ∀ m' ta' tc' td' dr h' tk', Fr base L h' m' → (∀ z, z ≠ Str.ofString "spot" → z ≠ Str.ofString "turned" → m' z = (fun y => if y = Str.ofString "spots" then some (.ref Ds) else if y = Str.ofString "check" then some (.str ck tk) else if y = Str.ofString "way" then some (.int way tw) else m y) z) →
      News base L h' ((l, W.listOf vp.toArray ep) :: (L + 1, oC) :: (ta' ++ (tc' ++ td'))) → Tab1 59 89 4 q59 ta' → Tab1 66 104 4 q66 tc' → Tab1 31 49 4 q31 td' → Q .next { s with heap := h', toks := tk', drawn := dr }) :
    wpAny (model PySem.Challenge.rw_nb0216_01.row.prog w) ((topA dp un gd).deeper (envOfC nm scope L a ccd)) (execs ((body.drop 14).take 1) (envOfC nm scope L a ccd)) Q E s := by
  cases hfd
  dsimp only [List.drop, List.take]
  have hl' : @LT.lt Nat _ (L + 1) l := hl
  have hvp := IntsAre.length hP
  rw [List.length_map] at hvp
  have hyl := IntsAre.length hsp
  have hsl2 : sp.length ≤ 12 := by omega
  by_cases hne : sp = []
  · k_steps
    · rename News base L _ _ => N3
      exact hnext _ ta tc td _ _ _ (by assumption) (fun _ _ _ => rfl) (cb_drop N3 fun p hp => by simp only [List.mem_cons, List.mem_append, List.cons_append, List.nil_append, List.not_mem_nil, or_false] at hp ⊢; grind) hta htc htd
  · have hpos : 0 < sp.length := List.length_pos_iff.mpr hne
    have hlen0 : ((sp.length : Nat) : Int) ≠ 0 := by omega
    have z1 := Int.fmod_nonneg_of_pos way (show (0 : Int) < ((sp.length : Nat) : Int) by omega)
    have z2 := Int.fmod_lt_of_pos way (show (0 : Int) < ((sp.length : Nat) : Int) by omega)
    have zm := hsB _ (getD_memI (l := sp) (k := (way.fmod ((sp.length : Nat) : Int)).toNat) (by omega))
    have hv0 := zm.1
    have hv1 : sp.getD (way.fmod ((sp.length : Nat) : Int)).toNat 0 + 1 < ((List.map (fun (q : Nat) => (q : Int)) ps).length : Int) := by
      rw [List.length_map, hps]; exact zm.2.1
    k_steps
    rename News base L _ _ => N5
    rename IntsAre _ (_ ++ _ ++ _) => I5
    rename _ ∧ _ ∧ _ ∧ _ ∧ _ ∧ _ ∧ _ ∧ _ ∧ AllLt _ _ => l9
    obtain ⟨ns, e1, e2, e3, e4⟩ := spot_turned h16 (by rw [hps]; exact zm.2.1) hv0 zm.2.2 hone
    rw [e1] at I5
    k_dflt (refine' c_noticed (ta := ta) (tc := tc) (td := td) (news := (l, W.listOf vp.toArray ep) :: (L + 1, oC) :: []) (n := n) (ns := ns) (e := 0) ?B ?F ?X CA CB CS hta htc htd ?N ?T ?c ?D ?nw ?d ?u I5 (by omega) hn6 e3 hck hcd ?ret)
    case B => k_asm
    case F => k_asm
    case X => k_asm
    case N => exact cb_drop N5 fun p hp => by simp only [List.mem_cons, List.mem_append, List.cons_append, List.nil_append, List.not_mem_nil, or_false] at hp ⊢; grind
    case T => k_asm
    case c => exact rfl
    case D => exact (show @LT.lt Nat _ 142 _ from Nat.lt_trans (show @LT.lt Nat _ 142 l by omega) l9.2.2.2.2.2.2.1)
    case nw =>
      intro p hp
      simp only [List.mem_cons, List.not_mem_nil, or_false] at hp
      rcases hp with rfl | rfl <;> exact ⟨neN (by omega), neN (by omega), neN (by omega)⟩
    case d => ktr_room
    case u => ktr_units
    case ret =>
      intro ta' tc' td' dr4 h4 tk4 F4 N4 hta' htc' htd'
      rw [decide_eq_true e4]
      (try dsimp only); (try k_sweep); (try k_fold)
      k_steps
      rename News base L _ _ => N3
      exact hnext _ ta' tc' td' _ _ _ (by assumption) (fun z z1 z2 => by simp only [if_neg z1, if_neg z2]) (cb_drop N3 fun p hp => by simp only [List.mem_cons, List.mem_append, List.cons_append, List.nil_append, List.not_mem_nil, or_false] at hp ⊢; grind) hta' htc' htd'
end
end Mine
end

section -- LG
open PySem PySem.W PyProof.Rows PySem.Calls PySem.NumText PySem.Spec
set_option Elab.async false
set_option maxRecDepth 100000
namespace Mine
theorem fillLG : ∀ (w : World) (h : Heap), (Mine.hd.heap_39 w.params).In h → PySem.Challenge.rw_nb0216_01.row.prog = PySem.Challenge.rw_nb0216_01.row.prog := by
  k_fill; intros; rfl
section
variable {w : World} {p : Program} {loose : List Str} {mean : ExcName → Option Value} {mg mb : Str → Option Value} {dp un : Nat} {gd : Option (List Code)} {a : Addr} {ccd : Value} {base : Heap} {L : Addr} {m : Str → Option Value} {s : Shared} {Q : Flow → Shared → Prop} {E : Value → Shared → Prop} {news : List (Addr × Obj)}
local macro_rules | `(tactic| walk_at "exec Assign cons ListComp") => `(tactic| (k_here; k_dflt (refine LCt.Assign_ListComp_T (F₀ := by k_asm) (by rfl) (by with_unfolding_all rfl) (by with_unfolding_all rfl) (by decide) (by rfl) (by decide) (by rfl) (by rfl) (by rfl) ?_)))
def letB (k : Int) : Bool := decide (9 < k)
set_option maxHeartbeats 8000000 in
/-- the letters -/
theorem seg_g {nm : Str} {params : Arguments} {body : List Stmt} {scope : Scope} {l : Addr} {vp : List Value} {ep n : Nat} {ps : List Nat} {oC : Obj} {ta tc td : List (Addr × Obj)} (hfd : some (nm, params, body, scope) = lawDef)
    (B : Below (topA dp un gd) base [] base) (X : (Mine.hd.heap_39 w.params).In base) (T : Top p loose mean mg mb base) (hL : (@LT.lt Nat _ 142 L)) (hd : dp + 200 < recursionLimit) (hu : un + 2000 < cLine) (hE : PassesOwn (model PySem.Challenge.rw_nb0216_01.row.prog w) ((topA dp un gd).deeper (envOfC nm scope L a ccd)) (envOfC nm scope L a ccd) E)
    (F : Fr base L s.heap m)
    (N : News base L s.heap ((l, W.listOf vp.toArray ep) :: (L + 1, oC) :: (ta ++ (tc ++ td)))) (hoC : oC.data = .cell (some (.ref l))) (hl : L + 1 < l)
    (hP : IntsAre vp (ps.map fun (q : Nat) => (q : Int))) (h16 : ∀ q ∈ ps, q < 16) (hps : ps.length = 2 * n) (hn1 : 1 ≤ n) (hn6 : n ≤ 6)
    (hnext : ∀ D ys h' tk', Fr base L h' (fun y => if y = Str.ofString "letters" then some (.ref D) else m y) → News base L h' ((D, LCg.lst ys) :: (l, W.listOf vp.toArray ep) :: (L + 1, oC) :: (ta ++ (tc ++ td))) → IntsAre ys ((ps.map fun (q : Nat) => (q : Int)).filter letB) → ys.length ≤ 12 → D ≠ l → D ≠ L + 1 → Q .next { s with heap := h', toks := tk' }) :
    wpAny (model PySem.Challenge.rw_nb0216_01.row.prog w) ((topA dp un gd).deeper (envOfC nm scope L a ccd)) (execs ((body.drop 15).take 1) (envOfC nm scope L a ccd)) Q E s := by
  cases hfd
  dsimp only [List.drop, List.take]
  have hl' : @LT.lt Nat _ (L + 1) l := hl
  have hvp := IntsAre.length hP
  rw [List.length_map] at hvp
  repeat' (first | (k_unfold; (try dsimp only)) | (k_end; wrow_close) | ((fail_if_success (with_reducible show LCt.CompSrcT _ _ _ _ _ _ _ _ _ _ _ _ _ _ _)); walk1) | (dsimp only; (fail_if_success (with_reducible show LCt.CompSrcT _ _ _ _ _ _ _ _ _ _ _ _ _ _ _)); walk1) | fail "no step")
  k_dflt (refine' LCt.CompSrcT.ledger (its := vp.toArray) (k := ep) ?hh ?F ?N ?m ?z (fun g => kci_rest (ks := ps.map fun (q : Nat) => (q : Int)) (takeIf letB) ?len (fun i v hi hv => ?P) (fun k' t' I' oI' C' oC' D' m' ys' l' h' tk' E' hk' hI' hC' hx' F' N' off' ne' hMark' => ?turn) ?fin (takeIf_grows _)))
  case hh => rfl
  case F => k_asm
  case N => k_asm
  case m => k_mem
  case z => (rw [sizeLine_eq, List.size_toArray]; omega)
  case len => (rw [List.length_map, List.size_toArray]; omega)
  case P => exact ints_get hP (by simpa using hv)
  case turn =>
    k_steps
    · rename 9 < k' => g1
      have e : letB k' = true := decide_eq_true g1
      with_unfolding_all exact LCg.CompEnd.intro F' N' _ (fun p hp => hp) off' (Or.inr ⟨_, List.mem_cons_self .., rfl, _, rfl⟩) (kci_el (by unfold takeIf; rw [if_pos e]) rfl rfl)
    · rename ¬ 9 < k' => g1
      have e : letB k' = false := decide_eq_false g1
      with_unfolding_all exact LCg.CompEnd.intro F' N' _ (fun p hp => hp) off' (Or.inr ⟨_, List.mem_cons_self .., rfl, _, rfl⟩) (kci_no (by unfold takeIf; rw [e]; rfl) rfl)
  case fin =>
    unfold KPfDone
    intro ys hc hyl
    rw [takeIf_fold, List.nil_append] at hc
    rw [List.size_toArray] at hyl
    unfold LCg.FinA
    intro D9 h9 tk9 F9 N9 o9
    dsimp only
    k_steps
    exact hnext _ _ _ _ F9 N9 hc (by omega) (Ne.symm o9.1) (Ne.symm o9.2.1)
end
end Mine
end

section -- LI
open PySem PySem.W PyProof.Rows PySem.Calls PySem.NumText PySem.Spec
set_option Elab.async false
set_option maxRecDepth 100000
namespace Mine
theorem fillLI : ∀ (w : World) (h : Heap), (Mine.hd.heap_39 w.params).In h → PySem.Challenge.rw_nb0216_01.row.prog = PySem.Challenge.rw_nb0216_01.row.prog := by
  k_fill; intros; rfl
section
variable {w : World} {p : Program} {loose : List Str} {mean : ExcName → Option Value} {mg mb : Str → Option Value} {dp un : Nat} {gd : Option (List Code)} {a : Addr} {ccd : Value} {base : Heap} {L : Addr} {m : Str → Option Value} {s : Shared} {Q : Flow → Shared → Prop} {E : Value → Shared → Prop} {news : List (Addr × Obj)}
local macro_rules | `(tactic| walk_at "exec For Name Name cons nil") => `(tactic| (k_here; (rename Fr _ _ _ _ => lF'); (with_unfolding_all refine' For_invVF lF' ?k1 ?k2 ?_; (case k1 => exact rfl); (case k2 => exact rfl); k_whole)))
/-- the decimal number of the places -/
def dueOf (l : List Nat) : Nat := l.foldl (fun a q => a * 10 + q) 0
theorem dueOf_snoc (l : List Nat) (d : Nat) : dueOf (l ++ [d]) = dueOf l * 10 + d := by
  unfold dueOf; rw [List.foldl_append]; rfl
theorem dueOf_le (l : List Nat) : (∀ q ∈ l, q < 16) → dueOf l + 2 ≤ 2 * 10 ^ l.length := by
  induction l using snocInd with
  | h0 => intro _; decide
  | h1 l d ih =>
    intro h
    have h1 := ih fun q hq => h q (List.mem_append_left _ hq)
    have h2 := h d (List.mem_append_right _ (List.mem_singleton.mpr rfl))
    rw [dueOf_snoc, List.length_append]
    simp only [List.length_cons, List.length_nil, Nat.zero_add, Nat.pow_succ]
    omega
theorem dueOf_lt {l : List Nat} (h : ∀ q ∈ l, q < 16) (hl : l.length ≤ 12) : dueOf l < 2000000000000 := by
  have h1 := dueOf_le l h
  have h2 : 10 ^ l.length ≤ 10 ^ 12 := Nat.pow_le_pow_right (by decide) hl
  have h3 : (10 : Nat) ^ 12 = 1000000000000 := by decide
  omega
def DueInv (m₀ : Str → Option Value) (rest : List (Addr × Obj)) (pre : List Nat) (m : Str → Option Value) (n : List (Addr × Obj)) : Prop :=
  (∃ t, m (Str.ofString "due") = some (.int ((dueOf pre : Nat) : Int) t)) ∧ (∀ z, z ≠ Str.ofString "place" → z ≠ Str.ofString "due" → m z = m₀ z) ∧ n = rest
theorem fr_due {b h : Heap} {L : Addr} {m m₀ : Str → Option Value} {x yd : Str} {v vd : Value} (hne : x ≠ yd) (h1 : m yd = some vd) (h2 : ∀ z, z ≠ x → z ≠ yd → m z = m₀ z) (F : Fr b L h (fun y => if y = x then some v else m y)) :
    Fr b L h (fun y => if y = x then some v else if y = yd then some vd else m₀ y) := by
  have e : (fun y => if y = x then some v else if y = yd then some vd else m₀ y) = fun y => if y = x then some v else m y := by
    funext y
    by_cases a : y = x
    · simp only [if_pos a]
    · by_cases c : y = yd
      · simp only [if_neg a, if_pos c]; rw [c]; exact h1.symm
      · simp only [if_neg a, if_neg c]; exact (h2 y a c).symm
  rw [e]; exact F
theorem due_loop {prog : Program} {A : Around} {env : Env} {h₀ : Heap} {body : List Stmt} {rest : List (Addr × Obj)} {m₀ : Str → Option Value} {ax : Addr} {va : List Value} {ds : List Nat} {ea : Nat} (hh : A.handled = none) (F : Fr h₀ env.locals s.heap m₀) (N : News h₀ env.locals s.heap rest) (hm : (ax, W.listOf va.toArray ea) ∈ rest) (hva : IntsAre va (ds.map fun (q : Nat) => (q : Int))) (h0 : ∃ t, m₀ (Str.ofString "due") = some (.int 0 t))
    (turn : ∀ I : Addr, (∀ p ∈ rest, p.1 < I) → ∀ pre d post t t' it h tk, ds = pre ++ d :: post →
      Fr h₀ env.locals h (fun y => if y = Str.ofString "place" then some (.int ((d : Nat) : Int) t) else if y = Str.ofString "due" then some (.int ((dueOf pre : Nat) : Int) t') else m₀ y) → News h₀ env.locals h ((I, it) :: rest) →
      wpAny (model prog w) A (execs body env) (UnrPost h₀ env.locals { s with heap := h, toks := tk } I it (fun m' n' => DueInv m₀ rest (pre ++ [d]) m' n') Q) E { s with heap := h, toks := tk })
    (done : ∀ (m : Str → Option Value) t h tk, m (Str.ofString "due") = some (.int ((dueOf ds : Nat) : Int) t) → (∀ z, z ≠ Str.ofString "place" → z ≠ Str.ofString "due" → m z = m₀ z) → Fr h₀ env.locals h m → News h₀ env.locals h rest → Q .next { s with heap := h, toks := tk }) :
    wpAny (model prog w) A (pyIter (.ref ax)) (fun it s₂ => LoopAtV prog w A h₀ env (Str.ofString "place") body Q E it s₂) E s := by
  refine fwd_loop (ea := ea) (DueInv m₀ rest) hh F N hva ?_ ⟨h0, fun _ _ _ => rfl, rfl⟩ ?_ ?_
  · rintro pre m n ⟨_, _, rfl⟩; exact hm
  · rintro I hI pre d post t m n it h tk hc ⟨⟨t', h1⟩, h2, rfl⟩ F1 N1
    exact turn I hI pre d post t t' it h tk hc (fr_due (by decide) h1 h2 F1) N1
  · rintro m n h tk ⟨⟨t', h1⟩, h2, rfl⟩ F1 N1
    exact done m t' h tk h1 h2 F1 N1
set_option maxHeartbeats 8000000 in
/-- the decimal number is reckoned -/
theorem seg_i {nm : Str} {params : Arguments} {body : List Stmt} {scope : Scope} {l : Addr} {vp : List Value} {ep n : Nat} {ps : List Nat} {oC : Obj} (hfd : some (nm, params, body, scope) = lawDef)
    (B : Below (topA dp un gd) base [] base) (X : (Mine.hd.heap_39 w.params).In base) (T : Top p loose mean mg mb base) (hL : (@LT.lt Nat _ 142 L)) (hd : dp + 200 < recursionLimit) (hu : un + 2000 < cLine) (hE : PassesOwn (model PySem.Challenge.rw_nb0216_01.row.prog w) ((topA dp un gd).deeper (envOfC nm scope L a ccd)) (envOfC nm scope L a ccd) E)
    (F : Fr base L s.heap m)
    (N : News base L s.heap ((l, W.listOf vp.toArray ep) :: (L + 1, oC) :: news)) (hoC : oC.data = .cell (some (.ref l))) (hl : L + 1 < l)
    (hP : IntsAre vp (ps.map fun (q : Nat) => (q : Int))) (h16 : ∀ q ∈ ps, q < 16) (hps : ps.length = 2 * n) (hn1 : 1 ≤ n) (hn6 : n ≤ 6)
    (hnext : ∀ m' t h' tk', m' (Str.ofString "due") = some (.int ((dueOf ps : Nat) : Int) t) → (∀ z, z ≠ Str.ofString "place" → z ≠ Str.ofString "due" → m' z = m z) → Fr base L h' m' → News base L h' ((l, W.listOf vp.toArray ep) :: (L + 1, oC) :: news) → Q .next { s with heap := h', toks := tk' }) :
    wpAny (model PySem.Challenge.rw_nb0216_01.row.prog w) ((topA dp un gd).deeper (envOfC nm scope L a ccd)) (execs ((body.drop 16).take 2) (envOfC nm scope L a ccd)) Q E s := by
  cases hfd
  dsimp only [List.drop, List.take]
  have hl' : @LT.lt Nat _ (L + 1) l := hl
  have hvp := IntsAre.length hP
  rw [List.length_map] at hvp
  repeat' (first | (k_unfold; (try dsimp only)) | (k_end; wrow_close) | ((fail_if_success (with_reducible show wpAny _ _ (pyIter _) _ _ _)); walk1) | (dsimp only; (fail_if_success (with_reducible show wpAny _ _ (pyIter _) _ _ _)); walk1) | fail "no step")
  rename Fr _ _ _ _ => lF
  rename News _ _ _ _ => lN
  with_unfolding_all refine' due_loop (ds := ps) (ea := ep) (va := vp) (by rfl) lF lN (List.mem_cons_self ..) hP ⟨_, rfl⟩ (fun I hI' pre d post t t' it h tk hcod F1 N1 => ?turn) (fun m' t h tk e1 e2 F1 N1 => ?done)
  case turn =>
    have hd16 : d < 16 := h16 d (by rw [hcod]; simp)
    have hb := dueOf_lt (l := pre) (fun q hq => h16 q (by rw [hcod]; exact List.mem_append_left _ hq)) (by have z2 := congrArg List.length hcod; rw [List.length_append, List.length_cons] at z2; omega)
    have hIl := allLt_of hI'
    simp only [AllLt] at hIl
    dsimp only
    k_steps
    rename Fr _ _ _ _ => F7
    rename News _ _ _ _ => N7
    have e9 : ((dueOf (pre ++ [d]) : Nat) : Int) = ((dueOf pre : Nat) : Int) * 10 + ((d : Nat) : Int) := by rw [dueOf_snoc]; omega
    with_unfolding_all exact UnrEnd.intro F7 N7 _ (fun p hp => hp) (fun p hp => Nat.ne_of_lt (hI' p hp)) ⟨⟨_, by rw [e9]; rfl⟩, fun z z1 z2 => by simp only [if_neg z1, if_neg z2], rfl⟩
  case done =>
    dsimp only
    k_steps
    exact hnext m' t h tk e1 (fun z z1 z2 => (e2 z z1 z2).trans (if_neg z2)) F1 N1
end
end Mine
end

section -- P7
open PySem PySem.W PyProof.Rows PySem.NumText
set_option Elab.async false
set_option maxRecDepth 100000
namespace Mine
/-! the writing as a text -/
def chr1 (k : Int) : Str := ⟨#[k.toNat]⟩
def hexText (b : Array UInt8) : Str := Txt.join (Str.ofString "") ((KBw.bInts (wr b)).map chr1)
def hsg (q : Nat) : Nat := if q < 10 then 48 + q else 55 + q
theorem hx_hsg : ∀ q, q < 16 → (hx q).toNat = hsg q := by decide +kernel
theorem hexText_list {b : Array UInt8} {ps : List Nat} (hb : places b = ps) (h16 : ∀ q ∈ ps, q < 16) : (hexText b).cps.toList = ps.map hsg := by
  unfold hexText
  rw [join0, bInts_wr, List.map_map, hb, List.flatMap_map]
  clear hb
  induction ps with
  | nil => rfl
  | cons q r ih =>
    rw [List.flatMap_cons, List.map_cons, ih fun m hm => h16 m (List.mem_cons_of_mem _ hm)]
    show [(((hx q).toNat : Int)).toNat] ++ _ = _
    rw [Int.toNat_natCast, hx_hsg q (h16 q (List.mem_cons_self ..))]
    rfl
theorem hexText_range {b : Array UInt8} {ps : List Nat} (hb : places b = ps) (h16 : ∀ q ∈ ps, q < 16) : ∀ c ∈ (hexText b).cps.toList, (48 ≤ c ∧ c ≤ 57) ∨ (65 ≤ c ∧ c ≤ 70) := by
  intro c hc
  rw [hexText_list hb h16] at hc
  obtain ⟨q, hq, rfl⟩ := List.mem_map.mp hc
  have := h16 q hq
  unfold hsg
  split <;> omega
theorem hexText_len {b : Array UInt8} {ps : List Nat} (hb : places b = ps) (h16 : ∀ q ∈ ps, q < 16) : (hexText b).length = ps.length := by
  have h1 := congrArg List.length (hexText_list hb h16)
  rw [List.length_map] at h1
  exact Array.length_toList.symm.trans h1
theorem hexText_clean {b : Array UInt8} {ps : List Nat} (hb : places b = ps) (h16 : ∀ q ∈ ps, q < 16) : cleaned (hexText b) = hexText b := by
  refine cleaned_plain fun c hc => ?_
  have := hexText_range hb h16 c hc
  refine ⟨?_, ?_, ?_⟩ <;> omega
theorem dv_due (ps : List Nat) : (∀ q ∈ ps, q < 10) → digitsVal (ps.map hsg) = dueOf ps := by
  induction ps using snocInd with
  | h0 => intro _; rfl
  | h1 l d ih =>
    intro h
    have h1 := h d (List.mem_append_right _ (List.mem_singleton.mpr rfl))
    rw [List.map_append, List.map_cons, List.map_nil, digitsVal_snoc, ih fun q hq => h q (List.mem_append_left _ hq), dueOf_snoc]
    unfold hsg
    rw [if_pos h1]
    omega
/-- the writing with figures alone is a decimal number -/
theorem hexText_num {b : Array UInt8} {ps : List Nat} (hb : places b = ps) (h1 : 1 ≤ ps.length) (hl : ps.length ≤ 12) (h10 : ∀ q ∈ ps, q < 10) : PySem.intText? (hexText b) = some ((dueOf ps : Nat) : Int) := by
  have h16 : ∀ q ∈ ps, q < 16 := fun q hq => by have := h10 q hq; omega
  have e := hexText_list hb h16
  rw [intText_digits ?_ ?_ (by rw [hexText_len hb h16]; omega), e, dv_due ps h10]
  · rw [e]
    intro c hc
    obtain ⟨q, hq, rfl⟩ := List.mem_map.mp hc
    have := h10 q hq
    unfold hsg
    rw [if_pos this]
    omega
  · rw [e]
    intro e0
    have := congrArg List.length e0
    rw [List.length_map] at this
    simp only [List.length_nil] at this
    omega
theorem step_letter {p : Array Nat × Bool} {c : Nat} (h : 65 ≤ c ∧ c ≤ 70) : step 10 p c = none := by
  unfold NumText.step
  rw [if_neg (by simp; omega)]
  have e : digit? c = some (c - 55) := by
    unfold digit?
    rw [if_neg (by simp; omega), if_neg (by simp; omega), if_pos (by simp; omega)]
  rw [e]
  exact if_neg (by omega)
theorem fold_letter : ∀ (cs : List Nat) (p : Array Nat × Bool), (∃ c ∈ cs, 65 ≤ c ∧ c ≤ 70) → cs.foldlM (step 10) p = none
  | [], p, h => by obtain ⟨c, hc, _⟩ := h; cases hc
  | d :: r, p, h => by
    rw [List.foldlM_cons]
    cases hs : step 10 p d with
    | none => rfl
    | some p' =>
      show r.foldlM (step 10) p' = none
      refine fold_letter r p' ?_
      obtain ⟨c, hc, h1⟩ := h
      rcases List.mem_cons.mp hc with rfl | hc
      · rw [step_letter h1] at hs; cases hs
      · exact ⟨c, hc, h1⟩
theorem dropWhile_none {p : Nat → Bool} : ∀ {l : List Nat}, (∀ c ∈ l, p c = false) → l.dropWhile p = l
  | [], _ => rfl
  | c :: r, h => by rw [List.dropWhile_cons, h c (List.mem_cons_self ..)]; rfl
theorem core_self {l : List Nat} (h : ∀ c ∈ l, (48 ≤ c ∧ c ≤ 57) ∨ (65 ≤ c ∧ c ≤ 70)) : core l = l := by
  have hb : ∀ c ∈ l, blank c = false := fun c hc => by
    have := h c hc
    unfold blank
    simp
    omega
  unfold core
  rw [dropWhile_none hb]
  have es : (sign l).2 = l := by
    unfold sign
    split
    · rename_i r
      have := h 45 (List.mem_cons_self ..); omega
    · rename_i r
      have := h 43 (List.mem_cons_self ..); omega
    · rfl
  rw [es, dropWhile_none fun c hc => hb c (List.mem_reverse.mp hc), List.reverse_reverse]
/-- the writing with a letter is no decimal number -/
theorem hexText_none {b : Array UInt8} {ps : List Nat} (hb : places b = ps) (h16 : ∀ q ∈ ps, q < 16) (hq : ∃ q ∈ ps, 10 ≤ q) : PySem.intText? (hexText b) = none := by
  have e := hexText_list hb h16
  have hr := hexText_range hb h16
  have e1 : numTextOf (hexText b) = (hexText b).cps.toList := by
    refine if_pos ?_
    rw [← Array.all_toList, List.all_eq_true]
    intro c hc
    have := hr c hc
    exact decide_eq_true (by omega)
  have e2 : numSeenOf (hexText b) = (hexText b).cps.toList := by
    show (numTextOf (hexText b)).takeWhile _ = _
    rw [e1]
    refine Mine.takeWhile_all fun c hc => ?_
    have := hr c hc
    exact bne_iff_ne.mpr (by omega)
  unfold PySem.intText?
  rw [e1, e2, core_self hr]
  have e3 : digits? 10 (hexText b).cps.toList = none := by
    unfold digits?
    rw [fold_letter]
    · rfl
    · obtain ⟨q, hq, h10⟩ := hq
      refine ⟨hsg q, by rw [e]; exact List.mem_map_of_mem hq, ?_⟩
      have := h16 q hq
      unfold hsg
      rw [if_neg (by omega)]
      omega
  rw [e3]
  split <;> rfl
theorem hexText_repr {b : Array UInt8} {ps : List Nat} (hb : places b = ps) (h16 : ∀ q ∈ ps, q < 16) (hl : ps.length ≤ 12) : (reprText (hexText b)).length ≤ 10000 := by
  have h1 := StrLaws.reprText_len (hexText b) (fun c hc => by have := hexText_range hb h16 c hc; omega)
  rw [hexText_len hb h16] at h1
  omega
theorem letters_nil {ps : List Nat} (h : ∀ q ∈ ps, q < 10) : (ps.map fun (q : Nat) => (q : Int)).filter letB = [] := by
  refine List.filter_eq_nil_iff.mpr ?_
  intro k hk
  obtain ⟨q, hq, rfl⟩ := List.mem_map.mp hk
  have := h q hq
  unfold letB
  simp; omega
theorem letters_some {ps : List Nat} (h : ∃ q ∈ ps, 10 ≤ q) : (ps.map fun (q : Nat) => (q : Int)).filter letB ≠ [] := by
  obtain ⟨q, hq, h10⟩ := h
  intro e
  have : ((q : Nat) : Int) ∈ (ps.map fun (q : Nat) => (q : Int)).filter letB := List.mem_filter.mpr ⟨List.mem_map_of_mem hq, decide_eq_true (by omega)⟩
  rw [e] at this
  cases this
end Mine
end

section -- W6
open PySem PySem.W PyProof.Rows PySem.Calls PySem.NumText PySem.Spec
set_option Elab.async false
set_option maxRecDepth 100000
namespace Mine
section
variable {prog : Program} {w : World} {A : Around} {E : Value → Shared → Prop} {s' : Shared} {h₀ h : Heap} {outer : List Env} {L e t : Addr} {m : Str → Option Value} {env : Env} {vs : List Value} {b₀ : Stmt} {suite : List Stmt} {pos : Pos} {tst : Expr} {rest : List ExceptHandler} {Q : Flow → Shared → Prop} {news : List (Addr × Obj)} {X T' : String}
/-- a built-in exception is taken by the frame's own clause; the frame may have cells -/
theorem caughtC (hfr : A.frames = some (env :: outer)) (hf : env.frame = some L) (F : Fr h₀ L h m) (hsm : h.UpToSlots s'.heap) (R : RaisedK h₀ (env :: outer) e (.type X) t vs news s'.heap)
    (hexc : isSubtype (.type T') (.type "BaseException") = pure true) (hnt : isSubtype (.type ((Manifest.find? T').elim "type" fun y => y.metatype)) (.type "tuple") = pure false) (hsub : isSubtype (.type X) (.type T') = pure true)
    (ev : ∀ (Q' : Value → Shared → Prop) (E' : Value → Shared → Prop) (s₁ : Shared), Fr h₀ L s₁.heap m → Q' (.type T') s₁ → wpAny (model prog w) (A.mark (some (.ref e))) (eval tst env) Q' E' s₁)
    (k : ∀ h', Fr h₀ L h' m → News h₀ L h' news → wpAny (model prog w) (A.mark (some (.ref e))) (execs (b₀ :: suite) env) Q (fun _ _ => False) { s' with heap := h' }) :
    wpAny (model prog w) A (noteFrame (.ref e) env) (fun _ s₂ => wpAny (model prog w) A (setFlight (.ref e) none) (fun _ s₃ =>
      wpAny (model prog w) A (handleBy (.ref e) env (.ExceptHandler (some tst) none (b₀ :: suite) pos :: rest)) Q E s₃) E s₂) E s' := by
  obtain ⟨⟨B, hB, hl, hfl, _⟩, _⟩ := R
  have hL : B.get? L = none := by
    obtain ⟨_, ⟨L', _, hf', hn', _⟩, _⟩ := hfl.2.2.1
    rw [hf] at hf'
    obtain rfl : L = L' := Option.some.inj hf'
    exact hn'
  refine wpAny_looks_onW hfr hf hfl fun h₄ hheld₄ hsm₄ => ?_
  refine wpAny_landsW hheld₄ fun h₅ hheld hsm₅ => ?_
  have up := hsm₄.trans hsm₅
  have fl := flyingW_base hB hheld
  obtain ⟨ob, hob, hobc⟩ := fl.there
  refine wpAny_handleBy_builtin (X := X) (T := T') (b := true) hexc hnt hsub (ev _ _ _ (F.of_stays fl.1 (hsm.trans up)) ⟨rfl, ⟨ob, hob, hobc⟩, ?_⟩)
  refine lands_againW hheld fun h₆ hfl₆ hsm₆ => ?_
  have F₆ := F.of_stays (flyingW_base hB hfl₆).1 ((hsm.trans up).trans hsm₆)
  exact wpAny_noRaise (k h₆ F₆ fun q hq => ⟨hfl₆.1 _ _ (hl q hq).1, (fun z => by have := (hl q hq).1; rw [z, hL] at this; cases this), (hl q hq).2⟩)
end
end Mine
end

section -- LJ
open PySem PySem.W PyProof.Rows PySem.Calls PySem.NumText PySem.Spec
set_option Elab.async false
set_option maxRecDepth 100000
namespace Mine
theorem fillLJ : ∀ (w : World) (h : Heap), (Mine.hd.heap_39 w.params).In h → PySem.Challenge.rw_nb0216_01.row.prog = PySem.Challenge.rw_nb0216_01.row.prog := by
  k_fill; intros; rfl
section
variable {w : World} {p : Program} {loose : List Str} {mean : ExcName → Option Value} {mg mb : Str → Option Value} {dp un : Nat} {gd : Option (List Code)} {a : Addr} {ccd : Value} {base : Heap} {L : Addr} {m : Str → Option Value} {s : Shared} {Q : Flow → Shared → Prop} {E : Value → Shared → Prop} {news : List (Addr × Obj)}
local macro_rules | `(tactic| walk_at "eval ListComp") => `(tactic| (k_dflt (refine ListComp_W (by k_asm) (by with_unfolding_all rfl) (by decide) (by rfl) (by decide) (by rfl) ?_)))
local macro_rules | `(tactic| walk_at "pyIter bytes") => `(tactic| ((with_reducible show wpAny _ _ _ (SrcW _ _ _ _ _ _ _ _ _ _ _ _) _ _); fail "here"))
theorem bInts_get {B : Array UInt8} {i : Nat} {c : UInt8} (h : B[i]? = some c) : (KBw.bInts B)[i]? = some (c.toNat : Int) := by
  unfold KBw.bInts
  rw [List.getElem?_map, Array.getElem?_toList, h]; rfl
theorem nw31 {ta tc : List (Addr × Obj)} {x y z : Addr × Obj} (hta : Tab1 59 89 4 q59 ta) (htc : Tab1 66 104 4 q66 tc) (hx : @Ne Nat x.1 31) (hy : (@LT.lt Nat _ 142 y.1)) (hz : (@LT.lt Nat _ 142 z.1)) : ∀ p ∈ x :: y :: z :: (ta ++ tc), p.1 ≠ 31 := by
  refine List.forall_mem_cons.mpr ⟨hx, List.forall_mem_cons.mpr ⟨neN (by omega), List.forall_mem_cons.mpr ⟨neN (by omega), fun p hp => ?_⟩⟩⟩
  rcases List.mem_append.mp hp with hp | hp
  · rcases tab_ne hta p hp with e | e
    · rw [e]; decide
    · exact neN (by omega)
  · rcases tab_ne htc p hp with e | e
    · rw [e]; decide
    · exact neN (by omega)
set_option maxHeartbeats 8000000 in
/-- the writing itself, not spelled -/
theorem seg_j {nm : Str} {params : Arguments} {body : List Stmt} {scope : Scope} {l Dl : Addr} {vp yl : List Value} {ep el n : Nat} {ps : List Nat} {oC : Obj} {b : Array UInt8} {tw tdu : Tok} {ta tc td : List (Addr × Obj)} (hfd : some (nm, params, body, scope) = lawDef)
    (B : Below (topA dp un gd) base [] base) (X : (Mine.hd.heap_39 w.params).In base) (T : Top p loose mean mg mb base) (hL : (@LT.lt Nat _ 142 L)) (hd : dp + 200 < recursionLimit) (hu : un + 2000 < cLine) (hE : PassesOwn (model PySem.Challenge.rw_nb0216_01.row.prog w) ((topA dp un gd).deeper (envOfC nm scope L a ccd)) (envOfC nm scope L a ccd) E)
    (CA : CodeHd base 63 59) (CB : CodeHd base 70 66) (CS : CodeHd base 35 31)
    (F : Fr base L s.heap (fun y => if y = Str.ofString "due" then some (.int ((dueOf ps : Nat) : Int) tdu) else if y = Str.ofString "letters" then some (.ref Dl) else if y = Str.ofString "writing" then some (.bytes (wr b) tw) else m y)) (hta : Tab1 59 89 4 q59 ta) (htc : Tab1 66 104 4 q66 tc) (htd : Tab1 31 49 4 q31 td)
    (N : News base L s.heap ((Dl, W.listOf yl.toArray el) :: (l, W.listOf vp.toArray ep) :: (L + 1, oC) :: (ta ++ (tc ++ td)))) (hoC : oC.data = .cell (some (.ref l))) (hl : L + 1 < l) (hDl : @Ne Nat Dl 31)
    (hpb : places b = ps) (h16 : ∀ q ∈ ps, q < 16) (hps : ps.length = 2 * n) (hn1 : 1 ≤ n) (hn6 : n ≤ 6) (hyl : IntsAre yl ((ps.map fun (q : Nat) => (q : Int)).filter letB)) (hyn : yl.length ≤ 12)
    (hret : ∀ m' ta' tc' td' dr h' tk', Fr base L h' m' → News base L h' (ta' ++ (tc' ++ td')) → Tab1 59 89 4 q59 ta' → Tab1 66 104 4 q66 tc' → Tab1 31 49 4 q31 td' → Q (.ret (.bool true)) { s with heap := h', toks := tk', drawn := dr }) :
    wpC (model PySem.Challenge.rw_nb0216_01.row.prog w) ((topA dp un gd).deeper (envOfC nm scope L a ccd)) (execs (body.drop 18) (envOfC nm scope L a ccd)) Q E s := by
  cases hfd
  dsimp only [List.drop]
  have hl' : @LT.lt Nat _ (L + 1) l := hl
  have hsz := places_length b
  rw [hpb] at hsz
  have hws := wr_size b
  have hyl2 := IntsAre.length hyl
  refine wpC_execs_cons (wpC_Try ?_)
  by_cases hlet : ∀ q ∈ ps, q < 10
  · refine wpC_of ?_
    have hT := hexText_num hpb (by omega) (by omega) hlet
    k_steps
    dsimp only
    k_dflt (refine' SrcW.bytes rfl ?F ?N ?z (fun g => kct_rest (ks := KBw.bInts (wr b)) chr1 (KBw.ints_length _) (fun i v hi hv => ?P) (fun k' t' I' oI' C' oC' D' m' ys' h' tk' E' hk' hC' hx' F' N' off' ne' hMark' => ?turn) ?fin))
    case F => k_asm
    case N => k_asm
    case z => rw [sizeLine_eq]; omega
    case P =>
      obtain ⟨c, u, e1, e2⟩ := hv
      exact ⟨_, u, bInts_get e1, e2⟩
    case turn =>
      have hk1 := (KBw.ints_in hk').1
      have hk2 := (KBw.ints_in hk').2
      k_steps
      exact LCg.CompEnd.intro (by assumption) (by assumption) _ (fun p hp => hp) off' trivial ⟨rfl, _, rfl⟩
    case fin =>
      unfold KPfDone
      intro ys hc hlen
      unfold LCg.FinE
      intro D9 h9 tk9 F9 N9 o9
      dsimp only
      walk1
      refine KT.join_B 1 (News.isList N9 (by k_mem)) hc (fun k hk => Nat.le_refl _) (by rw [KBw.ints_length]; omega) (by decide) ?_
      intro t8 k8
      k_steps
      k_dflt (refine' c_ifs (tb := td) (x := hexText b) (v := ((dueOf ps : Nat) : Int)) (news := (Dl, W.listOf yl.toArray el) :: (l, W.listOf vp.toArray ep) :: (L + 1, oC) :: (ta ++ tc)) ?B ?F ?X CS htd ?N ?T ?c ?nw ?d ?u ?hy ?hc ?h1 hT ?ret)
      case B => k_asm
      case F => k_asm
      case X => k_asm
      case N => exact cb_drop N9 fun p hp => by simp only [List.mem_cons, List.mem_append, List.cons_append, List.nil_append, List.not_mem_nil, or_false] at hp ⊢; grind
      case T => k_asm
      case c => exact rfl
      case nw => exact nw31 hta htc hDl (by omega) (by omega)
      case d => ktr_room
      case u => ktr_units
      case hy =>
        have := hexText_len hpb h16
        show (hexText b).length ≤ 2000
        omega
      case hc => exact hexText_clean hpb h16
      case h1 =>
        have := hexText_len hpb h16
        omega
      case ret =>
        intro t6 dr6 td' h6 tk6 F6 N6 htd'
        replace N6 : News base L h6 ((Dl, W.listOf yl.toArray el) :: (l, W.listOf vp.toArray ep) :: (L + 1, oC) :: (ta ++ (tc ++ td'))) := cb_drop N6 fun p hp => by simp only [List.mem_cons, List.mem_append, List.cons_append, List.nil_append, List.not_mem_nil, or_false] at hp ⊢; grind
        (try dsimp only); (try k_sweep); (try k_fold)
        k_steps
        refine wpC_of ?_
        rw [letters_nil hlet] at hyl
        k_steps
        rename News base L _ _ => N3
        rw [beq_self_eq_true]
        exact hret _ ta tc td' _ _ _ (by assumption) (cb_drop N3 fun p hp => by simp only [List.mem_cons, List.mem_append, List.cons_append, List.nil_append, List.not_mem_nil, or_false] at hp ⊢; grind) hta htc htd'
  · have hex : ∃ q ∈ ps, 10 ≤ q := by
      refine Classical.byContradiction fun hno => hlet fun q hq => ?_
      refine Classical.byContradiction fun h9 => hno ⟨q, hq, by omega⟩
    have hT := hexText_none hpb h16 hex
    have hne := letters_some hex
    refine wpC_execs_cons (wpC_Assign ?_)
    refine wpC_Call ?_
    k_steps
    refine callWith_KC (K := Mine.hd.heap_39 w.params) (by k_is) ?_
    k_steps
    dsimp only
    k_dflt (refine' SrcW.bytes rfl ?F ?N ?z (fun g => kct_rest (ks := KBw.bInts (wr b)) chr1 (KBw.ints_length _) (fun i v hi hv => ?P) (fun k' t' I' oI' C' oC' D' m' ys' h' tk' E' hk' hC' hx' F' N' off' ne' hMark' => ?turn) ?fin))
    case F => k_asm
    case N => k_asm
    case z => rw [sizeLine_eq]; omega
    case P =>
      obtain ⟨c, u, e1, e2⟩ := hv
      exact ⟨_, u, bInts_get e1, e2⟩
    case turn =>
      have hk1 := (KBw.ints_in hk').1
      have hk2 := (KBw.ints_in hk').2
      k_steps
      exact LCg.CompEnd.intro (by assumption) (by assumption) _ (fun p hp => hp) off' trivial ⟨rfl, _, rfl⟩
    case fin =>
      unfold KPfDone
      intro ys hc hlen
      unfold LCg.FinE
      intro D9 h9 tk9 F9 N9 o9
      dsimp only
      walk1
      refine KT.join_B 1 (News.isList N9 (by k_mem)) hc (fun k hk => Nat.le_refl _) (by rw [KBw.ints_length]; omega) (by decide) ?_
      intro t8 k8
      k_steps
      k_dflt (refine' x_ifs (tb := td) (x := hexText b) (news := (Dl, W.listOf yl.toArray el) :: (l, W.listOf vp.toArray ep) :: (L + 1, oC) :: (ta ++ tc)) ?B ?F ?X CS htd ?N ?T ?c ?nw ?d ?u ?hy ?hc ?h1 hT ?h0 (hexText_repr hpb h16 (by omega)) ?raise)
      case B => k_asm
      case F => k_asm
      case X => k_asm
      case N => exact cb_drop N9 fun p hp => by simp only [List.mem_cons, List.mem_append, List.cons_append, List.nil_append, List.not_mem_nil, or_false] at hp ⊢; grind
      case T => k_asm
      case c => exact rfl
      case nw => exact nw31 hta htc hDl (by omega) (by omega)
      case d => ktr_room
      case u => ktr_units
      case hy =>
        have := hexText_len hpb h16
        show (hexText b).length ≤ 2000
        omega
      case hc => exact hexText_clean hpb h16
      case h1 =>
        have := hexText_len hpb h16
        omega
      case h0 =>
        intro c hc
        have := hexText_range hpb h16 c hc
        omega
      case raise =>
        intro e t vs td' g h8 tk8 dr8 Fg R8 htd' U8
        (try dsimp only)
        with_unfolding_all refine caughtC (T' := "ValueError") (m := _) rfl rfl Fg U8 R8 ?exc ?nt ?sub ?ev ?k
        case exc => exact PySem.F.isExc_ValueError
        case nt => exact PySem.F.notTuple_ValueError
        case sub => (rw [isSubtype_type]; kernel_rfl)
        case ev =>
          intro Q' E' s₁ F₁ hq
          k_dflt (refine' nameG_B F₁ ?k1 ?k2 ?k3 ?kv ?kn hq ?k4 ?k4b ?k5 ?k6 ?k7)
          case k4 => rfl
          case k4b => rfl
          case k5 => rfl
          case k6 => rfl
          case k7 => decide
          case k1 => k_asm
          case k2 => k_asm
          case k3 => k_is
          case kv => boot_fast
          case kn => decide
        case k =>
          intro h7 F7 N7
          replace N7 : News base L h7 ((Dl, W.listOf yl.toArray el) :: (l, W.listOf vp.toArray ep) :: (L + 1, oC) :: (ta ++ (tc ++ td'))) := cb_drop N7 fun p hp => by simp only [List.mem_cons, List.mem_append, List.cons_append, List.nil_append, List.not_mem_nil, or_false] at hp ⊢; grind
          k_steps
          rename News base L _ _ => N3
          rw [decide_eq_false hne]
          exact hret _ ta tc td' _ _ _ (by assumption) (cb_drop N3 fun p hp => by simp only [List.mem_cons, List.mem_append, List.cons_append, List.nil_append, List.not_mem_nil, or_false] at hp ⊢; grind) hta htc htd'
end
end Mine
end

section -- LM
open PySem PySem.W PyProof.Rows PySem.Calls PySem.NumText PySem.Spec
set_option Elab.async false
set_option maxRecDepth 100000
namespace Mine
theorem fillLM : ∀ (w : World) (h : Heap), (Mine.hd.heap_39 w.params).In h → PySem.Challenge.rw_nb0216_01.row.prog = PySem.Challenge.rw_nb0216_01.row.prog := by
  k_fill; intros; rfl
section
variable {w : World} {p : Program} {loose : List Str} {mean : ExcName → Option Value} {mg mb : Str → Option Value} {dp un : Nat} {gd : Option (List Code)} {a : Addr} {ccd : Value} {base : Heap} {L : Addr} {m : Str → Option Value} {s : Shared} {Q : Flow → Shared → Prop} {E : Value → Shared → Prop} {news : List (Addr × Obj)}
theorem dropShort {h₀ h : Heap} {a x c : Addr × Obj} {r : List (Addr × Obj)} (N : News h₀ L h (a :: x :: c :: r)) : News h₀ L h (a :: c :: r) :=
  cb_drop N fun p hp => by simp only [List.mem_cons] at hp ⊢; grind
theorem dropLong {h₀ h : Heap} {a x y c : Addr × Obj} {r : List (Addr × Obj)} (N : News h₀ L h (a :: x :: y :: c :: r)) : News h₀ L h (a :: c :: r) :=
  cb_drop N fun p hp => by simp only [List.mem_cons] at hp ⊢; grind
theorem row_ok {ns : List Int} (h : 3 ≤ ns.length) : ∃ os : List Nat, List.map (fun k' : Int => k'.fmod 256) (List.take (min 8 ns.length - 2) (List.drop 2 ns)) = os.map (fun (q : Nat) => (q : Int)) ∧ (∀ o ∈ os, o < 256) ∧ 1 ≤ os.length ∧ os.length ≤ 6 := by
  refine ⟨(List.take (min 8 ns.length - 2) (List.drop 2 ns)).map fun k' => (k'.fmod 256).toNat, ?_, ?_, ?_, ?_⟩
  · rw [List.map_map]
    refine List.map_congr_left fun k _ => ?_
    have := Int.fmod_nonneg_of_pos k (show (0 : Int) < 256 by decide)
    show k.fmod 256 = (((k.fmod 256).toNat : Nat) : Int)
    omega
  · intro o ho
    obtain ⟨k, _, rfl⟩ := List.mem_map.mp ho
    have h1 := Int.fmod_nonneg_of_pos k (show (0 : Int) < 256 by decide)
    have h2 := Int.fmod_lt_of_pos k (show (0 : Int) < 256 by decide)
    omega
  · rw [List.length_map, List.length_take, List.length_drop]; omega
  · rw [List.length_map, List.length_take, List.length_drop]; omega
set_option maxHeartbeats 8000000 in
/-- what the law builds of the script -/
theorem seg_m {nm : Str} {params : Arguments} {body : List Stmt} {scope : Scope} {ax : Addr} {vs : List Value} {ns : List Int} {oC : Obj} (hfd : some (nm, params, body, scope) = lawDef)
    (B : Below (topA dp un gd) base [] base) (X : (Mine.hd.heap_39 w.params).In base) (T : Top p loose mean mg mb base) (hL : (@LT.lt Nat _ 142 L)) (hd : dp + 200 < recursionLimit) (hu : un + 2000 < cLine) (hE : PassesOwn (model PySem.Challenge.rw_nb0216_01.row.prog w) ((topA dp un gd).deeper (envOfC nm scope L a ccd)) (envOfC nm scope L a ccd) E)
    (F : Fr base L s.heap (fun y => if y = Str.ofString "script" then some (.ref ax) else m y))
    (N : News base L s.heap ((L + 1, oC) :: (66, tabObj #[]) :: (59, tabObj #[]) :: (31, tabObj #[]) :: [])) (hoC : oC.data = .cell none)
    (hS : base.IsList ax vs.toArray) (hI : IntsAre vs ns) (hn : ns.length ≤ 63) 
    (hnext : ∀ m' lead way tl tw Dr vs e (os : List Nat) h' tk', Fr base L h' m' → m' (Str.ofString "row") = some (.ref Dr) → m' (Str.ofString "way") = some (.int way tw) → m' (Str.ofString "lead") = some (.int lead tl) → News base L h' ((Dr, W.listOf (List.toArray vs) e) :: (L + 1, oC) :: (66, tabObj #[]) :: (59, tabObj #[]) :: (31, tabObj #[]) :: []) → @Ne Nat Dr (L + 1) →
      IntsAre vs (os.map fun (q : Nat) => (q : Int)) → (∀ o ∈ os, o < 256) → 1 ≤ os.length → os.length ≤ 6 → Q .next { s with heap := h', toks := tk' }) :
    wpAny (model PySem.Challenge.rw_nb0216_01.row.prog w) ((topA dp un gd).deeper (envOfC nm scope L a ccd)) (execs (body.take 3) (envOfC nm scope L a ccd)) Q E s := by
  cases hfd
  dsimp only [List.drop, List.take]
  have hcase : ns = [] ∨ (ns ≠ [] ∧ ns.length = 1) ∨ (ns ≠ [] ∧ ns.length = 2) ∨ (ns ≠ [] ∧ 3 ≤ ns.length) := by
    cases ns with
    | nil => exact .inl rfl
    | cons k r =>
      have : (k :: r).length = r.length + 1 := rfl
      by_cases h1 : r.length = 0
      · exact .inr (.inl ⟨by simp, by omega⟩)
      · by_cases h2 : r.length = 1
        · exact .inr (.inr (.inl ⟨by simp, by omega⟩))
        · exact .inr (.inr (.inr ⟨by simp, by omega⟩))
  rcases hcase with hns | ⟨hns, hlen⟩ | ⟨hns, hlen⟩ | ⟨hns, hlen⟩
  · have hlen : ns.length = 0 := by rw [hns]; rfl
    k_steps
    rename News base L _ _ => N5
    rename Fr base L _ _ => F5
    rename _ ∧ L + 1 < _ ∧ _ => l5
    exact hnext _ _ _ _ _ _ [_, _, _] _ [160, 7, 255] _ _ F5 rfl rfl rfl (dropShort N5) (Nat.ne_of_gt l5.2.1) (.cons _ _ (.cons _ _ (.cons _ _ .nil))) (by decide) (by decide) (by decide)
  · k_steps
    rename News base L _ _ => N5
    rename Fr base L _ _ => F5
    rename _ ∧ L + 1 < _ ∧ _ => l5
    exact hnext _ _ _ _ _ _ [_, _, _] _ [160, 7, 255] _ _ F5 rfl rfl rfl (dropShort N5) (Nat.ne_of_gt l5.2.1) (.cons _ _ (.cons _ _ (.cons _ _ .nil))) (by decide) (by decide) (by decide)
  · k_steps
    rename News base L _ _ => N5
    rename Fr base L _ _ => F5
    rename _ ∧ L + 1 < _ ∧ _ => l5
    exact hnext _ _ _ _ _ _ [_, _, _] _ [160, 7, 255] _ _ F5 rfl rfl rfl (dropShort N5) (Nat.ne_of_gt l5.2.1) (.cons _ _ (.cons _ _ (.cons _ _ .nil))) (by decide) (by decide) (by decide)
  · k_steps
    rename News base L _ _ => N5
    rename Fr base L _ _ => F5
    rename IntsAre _ (List.map (fun k' : Int => k'.fmod 256) _) => I5
    rename _ ∧ _ ∧ @Ne Nat (L + 1) _ ∧ _ => o5
    obtain ⟨os, e1, e2, e3, e4⟩ := row_ok (ns := ns) hlen
    rw [e1] at I5
    exact hnext _ _ _ _ _ _ _ _ os _ _ F5 rfl rfl rfl (dropLong N5) (Ne.symm o5.2.2.1) I5 e2 e3 e4
end
end Mine
end

section -- LK
open PySem PySem.W PyProof.Rows PySem.Calls PySem.NumText PySem.Spec
set_option Elab.async false
set_option maxRecDepth 100000
namespace Mine
theorem fillLK : ∀ (w : World) (h : Heap), (Mine.hd.heap_39 w.params).In h → PySem.Challenge.rw_nb0216_01.row.prog = PySem.Challenge.rw_nb0216_01.row.prog := by
  k_fill; intros; rfl
section
variable {w : World} {p : Program} {loose : List Str} {mean : ExcName → Option Value} {mg mb : Str → Option Value} {dp un : Nat} {gd : Option (List Code)} {a : Addr} {ccd : Value} {base : Heap} {L : Addr} {m : Str → Option Value} {s : Shared} {Q : Flow → Shared → Prop} {E : Value → Shared → Prop} {news : List (Addr × Obj)}
set_option maxHeartbeats 8000000 in
/-- the places -/
theorem seg_k {nm : Str} {params : Arguments} {body : List Stmt} {scope : Scope} {Dr : Addr} {vs : List Value} {e : Nat} {os : List Nat} {oC : Obj} (hfd : some (nm, params, body, scope) = lawDef)
    (B : Below (topA dp un gd) base [] base) (X : (Mine.hd.heap_39 w.params).In base) (T : Top p loose mean mg mb base) (hL : (@LT.lt Nat _ 142 L)) (hd : dp + 200 < recursionLimit) (hu : un + 2000 < cLine) (hE : PassesOwn (model PySem.Challenge.rw_nb0216_01.row.prog w) ((topA dp un gd).deeper (envOfC nm scope L a ccd)) (envOfC nm scope L a ccd) E)
    (F : Fr base L s.heap (fun y => if y = Str.ofString "row" then some (.ref Dr) else m y))
    (N : News base L s.heap ((Dr, W.listOf vs.toArray e) :: (L + 1, oC) :: (66, tabObj #[]) :: (59, tabObj #[]) :: (31, tabObj #[]) :: [])) (hoC : oC.data = .cell none) (hDr : @Ne Nat Dr (L + 1))
    (hI : IntsAre vs (os.map fun (q : Nat) => (q : Int))) (ho : ∀ o ∈ os, o < 256) (h1 : 1 ≤ os.length) (h6 : os.length ≤ 6)
    (hnext : ∀ m' l vp ep oC' h' tk', Fr base L h' m' → (∀ z, z ≠ Str.ofString "octet" → m' z = (fun y => if y = Str.ofString "row" then some (.ref Dr) else m y) z) → News base L h' ((l, W.listOf (List.toArray vp) ep) :: (Dr, W.listOf vs.toArray e) :: (L + 1, oC') :: (66, tabObj #[]) :: (59, tabObj #[]) :: (31, tabObj #[]) :: []) → oC'.data = .cell (some (.ref l)) → Dr < l → L + 1 < l → IntsAre vp ((plc os).map fun (q : Nat) => (q : Int)) → Q .next { s with heap := h', toks := tk' }) :
    wpAny (model PySem.Challenge.rw_nb0216_01.row.prog w) ((topA dp un gd).deeper (envOfC nm scope L a ccd)) (execs ((body.drop 3).take 2) (envOfC nm scope L a ccd)) Q E s := by
  cases hfd
  dsimp only [List.drop, List.take]
  k_steps
  rename Fr _ _ _ _ => lF
  rename News _ _ _ _ => lN
  (try simp only [List.cons_append, List.nil_append] at lN)
  rename _ ∧ _ ∧ _ ∧ _ ∧ _ => l1
  with_unfolding_all refine' places_loop (ds := os) (by rfl) lF lN hI (fun I hI' pre d post t vq eq it h tk hcod hq F1 N1 => ?turn) (fun u vq eq h tk hq F1 N1 => ?done)
  case turn =>
    have hd256 : d < 256 := ho d (by rw [hcod]; simp)
    have hlq : vq.length ≤ 12 := by
      have z1 := IntsAre.length hq
      have z2 := congrArg List.length hcod
      have z3 := plc_length pre
      rw [List.length_map] at z1
      rw [List.length_append, List.length_cons] at z2
      omega
    have hIl := allLt_of hI'
    simp only [AllLt, and_true] at hIl
    dsimp only
    k_steps
    rename News _ _ _ _ => N7
    simp only [List.push_toArray, List.append_assoc] at N7
    have e1 : Int.fdiv (d : Int) 16 = ((d / 16 : Nat) : Int) := by rw [Int.fdiv_eq_ediv_of_nonneg _ (by decide)]; rfl
    have e2 : Int.fmod (d : Int) 16 = ((d % 16 : Nat) : Int) := by rw [Int.fmod_eq_emod_of_nonneg _ (by decide)]; rfl
    rw [e1, e2] at N7
    with_unfolding_all refine places_end (vq := vq ++ ([_] ++ [_])) (by assumption) N7 (fun p hp => hp) ?o (fun z a => by simp only [if_neg a]) ?i
    case o =>
      refine List.forall_mem_cons.mpr ⟨by k_ne, ?_⟩
      refine List.forall_mem_cons.mpr ⟨by k_ne, ?_⟩
      refine List.forall_mem_cons.mpr ⟨by k_ne, ?_⟩
      refine List.forall_mem_cons.mpr ⟨by k_ne, ?_⟩
      refine List.forall_mem_cons.mpr ⟨by k_ne, ?_⟩
      refine List.forall_mem_cons.mpr ⟨by k_ne, fun _ h => nomatch h⟩
    case i =>
      rw [plc_snoc, List.map_append]
      exact IntsAre.append hq (.cons _ _ (.cons _ _ .nil))
  case done =>
    dsimp only
    k_steps
    exact hnext _ _ vq eq _ _ _ F1 (fun z hz => if_neg hz) N1 (by assumption) l1.1 l1.2.1 hq
end
end Mine
end

section -- LZ
open PySem PySem.W PyProof.Rows PySem.Calls PySem.NumText PySem.Spec
set_option Elab.async false
set_option maxRecDepth 100000
namespace Mine
theorem wpC_cut {M : Model} {A : Around} {E : Value → Shared → Prop} {s : Shared} {env : Env} {body : List Stmt} {Q : Flow → Shared → Prop} (i k : Nat)
    (h : wpAny M A (execs ((body.drop i).take k) env) (fun f s' => match f with | .next => wpC M A (execs (body.drop (i + k)) env) Q E s' | f => Q f s') (fun _ _ => False) s) : wpC M A (execs (body.drop i) env) Q E s := by
  have e : (body.drop i).take k ++ body.drop (i + k) = body.drop i := by
    rw [← List.drop_drop]; exact List.take_append_drop _ _
  have h2 := wpC_execs_pre (wpAny_noRaise (E := E) h)
  rw [e] at h2
  exact h2
theorem tab_mem {P : Addr} {ln col : Nat} {q : Str} {l : List (Addr × Obj)} (h : Tab1 P ln col q l) : ∃ ps, (P, tabObj ps) ∈ l := by
  rcases h with rfl | ⟨c, oc, vs, t, rfl, _⟩
  · exact ⟨_, List.mem_cons_self ..⟩
  · exact ⟨_, List.mem_cons_self ..⟩
theorem permA {h₀ h : Heap} {L : Addr} {a c x y z : Addr × Obj} (N : News h₀ L h (a :: c :: x :: y :: z :: [])) : News h₀ L h (a :: c :: ([y] ++ ([x] ++ [z]))) :=
  cb_drop N fun p hp => by simp only [List.mem_cons, List.cons_append, List.nil_append] at hp ⊢; grind
theorem permG {h₀ h : Heap} {L : Addr} {a b c : Addr × Obj} {r : List (Addr × Obj)} (N : News h₀ L h (a :: b :: c :: r)) : News h₀ L h (b :: c :: a :: r) :=
  cb_drop N fun p hp => by simp only [List.mem_cons] at hp ⊢; grind
theorem permJ {h₀ h : Heap} {L : Addr} {a b c : Addr × Obj} {r : List (Addr × Obj)} (N : News h₀ L h (b :: c :: a :: r)) : News h₀ L h (a :: b :: c :: r) :=
  cb_drop N fun p hp => by simp only [List.mem_cons] at hp ⊢; grind
theorem up_at {m : Str → Option Value} {x z : Str} {v u : Option Value} (h : z ≠ x) (e : m z = u) : (fun y => if y = x then v else m y) z = u := (if_neg h).trans e
theorem up_to {m : Str → Option Value} {x : Str} {v : Option Value} : (fun y => if y = x then v else m y) x = v := if_pos rfl
section
variable {w : World} {p : Program} {loose : List Str} {mean : ExcName → Option Value} {mg mb : Str → Option Value} {dp un : Nat} {gd : Option (List Code)} {a : Addr} {ccd : Value} {base : Heap} {L : Addr} {m : Str → Option Value} {s : Shared} {Q : Flow → Shared → Prop} {E : Value → Shared → Prop}
theorem law_body {nm : Str} {params : Arguments} {body : List Stmt} {scope : Scope} {ax : Addr} {vs : List Value} {ns : List Int} {oC : Obj} (hfd : some (nm, params, body, scope) = lawDef)
    (B : Below (topA dp un gd) base [] base) (X : (Mine.hd.heap_39 w.params).In base) (T : Top p loose mean mg mb base) (hL : (@LT.lt Nat _ 142 L)) (hd : dp + 200 < recursionLimit) (hu : un + 2000 < cLine)
    (CA : CodeHd base 63 59) (CB : CodeHd base 70 66) (CS : CodeHd base 35 31)
    (F : Fr base L s.heap m) (hm : m (Str.ofString "script") = some (.ref ax)) (N : News base L s.heap ((L + 1, oC) :: (66, tabObj #[]) :: (59, tabObj #[]) :: (31, tabObj #[]) :: [])) (hoC : oC.data = .cell none)
    (hS : base.IsList ax vs.toArray) (hI : IntsAre vs ns) (hn : ns.length ≤ 63)
    (hret : ∀ m' ta' tc' td' dr h' tk', Fr base L h' m' → News base L h' (ta' ++ (tc' ++ td')) → Tab1 59 89 4 q59 ta' → Tab1 66 104 4 q66 tc' → Tab1 31 49 4 q31 td' → Q (.ret (.bool true)) { s with heap := h', toks := tk', drawn := dr }) :
    wpC (model PySem.Challenge.rw_nb0216_01.row.prog w) ((topA dp un gd).deeper (envOfC nm scope L a ccd)) (execs body (envOfC nm scope L a ccd)) Q E s := by
  have never : PassesOwn (model PySem.Challenge.rw_nb0216_01.row.prog w) ((topA dp un gd).deeper (envOfC nm scope L a ccd)) (envOfC nm scope L a ccd) (fun _ _ => False) := PassesOwn.never
  -- the script
  show wpC _ _ (execs (body.drop 0) _) _ _ _
  refine wpC_cut 0 3 (seg_m hfd B X T hL hd hu never (fr_over hm F) N hoC hS hI hn ?_)
  intro m1 lead way tl tw Dr vr er os h1 tk1 F1 r1 w1 d1 N1 hDr I1 ho ho1 ho6
  show wpC _ _ (execs (body.drop 3) _) _ _ _
  -- the places
  refine wpC_cut 3 2 (seg_k hfd B X T hL hd hu never (fr_over r1 F1) N1 hoC hDr I1 ho ho1 ho6 ?_)
  intro m2 l vp ep oC2 h2 tk2 F2 e2 N2 hoC2 hDl hl P2
  have r2 : m2 (Str.ofString "row") = some (.ref Dr) := (e2 _ (by decide)).trans up_to
  have w2 : m2 (Str.ofString "way") = some (.int way tw) := (e2 _ (by decide)).trans (up_at (by decide) w1)
  have d2 : m2 (Str.ofString "lead") = some (.int lead tl) := (e2 _ (by decide)).trans (up_at (by decide) d1)
  show wpC _ _ (execs (body.drop 5) _) _ _ _
  -- the writing
  refine wpC_cut 5 2 (seg_a hfd B X T hL hd hu never (fr_over r2 F2) N2 hoC2 hDr hDl hl I1 P2 ho ho1 ho6 ?_)
  intro b t3 h3 tk3 hpb F3 N3 hb6
  have h16 := plc_lt ho
  have hps := plc_length os
  show wpC _ _ (execs (body.drop 7) _) _ _ _
  -- the spelling with two noughts
  refine wpC_cut 7 3 (seg_b (ta := [(59, tabObj #[])]) (tc := [(66, tabObj #[])]) (td := [(31, tabObj #[])]) hfd B X T hL hd hu never CA CB CS F3 (.inl rfl) (.inl rfl) (.inl rfl) (permA N3) hl hpb h16 (by omega) ?_)
  intro t4 t5 t6 ta4 tc4 td4 dr4 h4 tk4 F4 N4 hta4 htc4 htd4
  show wpC _ _ (execs (body.drop 10) _) _ _ _
  -- the check figures
  refine wpC_cut 10 2 (seg_c hfd B X T hL hd hu never CA CB CS F4 hta4 htc4 htd4 N4 hl hpb h16 (by omega) ?_)
  intro t7 ta5 tc5 td5 dr5 h5 tk5 F5 N5 hta5 htc5 htd5
  obtain ⟨c1, c2, c3⟩ := check_ok (plc os)
  show wpC _ _ (execs (body.drop 12) _) _ _ _
  obtain ⟨m5, G5, k5, w5, d5, b5⟩ : ∃ m5 : Str → Option Value, Fr base L h5 m5 ∧ m5 (Str.ofString "check") = some (.str (ckS ((digitsVal (sgns (plc os) ++ [48, 48]) % 97 : Nat) : Int)) t7) ∧ m5 (Str.ofString "way") = some (.int way tw) ∧ m5 (Str.ofString "lead") = some (.int lead tl) ∧ m5 (Str.ofString "writing") = some (.bytes (wr b) t3) :=
    ⟨_, F5, (by (try dsimp only); repeat (first | refine (if_neg (by decide)).trans ?_ | exact if_pos rfl)), (by (try dsimp only); repeat (first | exact w2 | refine (if_neg (by decide)).trans ?_ | exact if_pos rfl)), (by (try dsimp only); repeat (first | exact d2 | refine (if_neg (by decide)).trans ?_ | exact if_pos rfl)), (by (try dsimp only); repeat (first | refine (if_neg (by decide)).trans ?_ | exact if_pos rfl))⟩
  -- one place written wrong
  refine wpC_cut 12 1 (seg_d hfd B X T hL hd hu never CA CB CS (fr_over k5 (fr_over w5 (fr_over d5 G5))) hta5 htc5 htd5 N5 hoC2 hl P2 h16 hps ho1 ho6 c1 c2 c3 ?_)
  intro ta6 tc6 td6 dr6 h6 tk6 F6 N6 hta6 htc6 htd6
  show wpC _ _ (execs (body.drop 13) _) _ _ _
  -- the spots
  refine wpC_cut 13 1 (seg_e hfd B X T hL hd hu never F6 N6 hoC2 hl P2 h16 hps ho1 ho6 ?_)
  intro Ds ys h7 tk7 F7 N7 I7 hy7 hDs1 hDs2
  show wpC _ _ (execs (body.drop 14) _) _ _ _
  -- two neighbours turned
  refine wpC_cut 14 1 (seg_f hfd B X T hL hd hu never CA CB CS (fr_over (by (try dsimp only); repeat (first | refine (if_neg (by decide)).trans ?_ | exact if_pos rfl)) (fr_over (by (try dsimp only); repeat (first | refine (if_neg (by decide)).trans ?_ | exact if_pos rfl)) (fr_over (by (try dsimp only); repeat (first | refine (if_neg (by decide)).trans ?_ | exact if_pos rfl)) F7))) hta6 htc6 htd6 N7 hoC2 hl hDs1 hDs2 P2 h16 hps ho1 ho6 c1 c2 c3 I7 hy7 (fun k hk => ?_) ?_)
  · obtain ⟨k1, k2⟩ := List.mem_filter.mp hk
    have k3 := mem_rangeKs k1
    exact ⟨k3.1, by omega, k2⟩
  intro m8 ta8 tc8 td8 dr8 h8 tk8 F8 e8 N8 hta8 htc8 htd8
  have b8 : m8 (Str.ofString "writing") = some (.bytes (wr b) t3) := (e8 _ (by decide) (by decide)).trans (by (try dsimp only); repeat (first | exact b5 | refine (if_neg (by decide)).trans ?_ | exact if_pos rfl))
  show wpC _ _ (execs (body.drop 15) _) _ _ _
  -- the letters
  refine wpC_cut 15 1 (seg_g hfd B X T hL hd hu never F8 N8 hoC2 hl P2 h16 hps ho1 ho6 ?_)
  intro Dl yl h9 tk9 F9 N9 I9 hy9 hDl1 hDl2
  show wpC _ _ (execs (body.drop 16) _) _ _ _
  -- the decimal number
  refine wpC_cut 16 2 (seg_i (news := (Dl, LCg.lst yl) :: (ta8 ++ (tc8 ++ td8))) hfd B X T hL hd hu never F9 (permG N9) hoC2 hl P2 h16 hps ho1 ho6 ?_)
  intro m10 t10 h10 tk10 u10 e10 F10 N10
  show wpC _ _ (execs (body.drop 18) _) _ _ _
  have l10 : m10 (Str.ofString "letters") = some (.ref Dl) := (e10 _ (by decide) (by decide)).trans up_to
  have b10 : m10 (Str.ofString "writing") = some (.bytes (wr b) t3) := (e10 _ (by decide) (by decide)).trans (up_at (by decide) b8)
  -- the writing read
  refine wpC_mono (E := fun _ _ => False) (seg_j (Q := Q) hfd B X T hL hd hu never CA CB CS (fr_over u10 (fr_over l10 (fr_over b10 F10))) hta8 htc8 htd8 (permJ N10) hoC2 hl ?_ hpb h16 hps ho1 ho6 I9 hy9 ?_) (fun _ _ x => x) (fun _ _ x => x.elim)
  · obtain ⟨pt, hpt⟩ := tab_mem htd8
    intro e31
    have g1 := (N10 (Dl, LCg.lst yl) (by simp)).1
    have g2 := (N10 (31, tabObj pt) (by simp only [List.mem_cons, List.mem_append]; exact .inr (.inr (.inr (.inr (.inr hpt)))))).1
    dsimp only at g1 g2
    rw [e31, g2] at g1
    have := congrArg Obj.cls (Option.some.inj g1)
    cases this
  · intro m' ta' tc' td' dr h' tk' F' N' q1 q2 q3
    exact hret m' ta' tc' td' dr h' tk' F' N' q1 q2 q3
end
end Mine
end

section -- L9
open PySem PySem.W PyProof.Rows PySem.Calls PySem.NumText PySem.Spec
set_option Elab.async false
set_option maxRecDepth 100000
namespace Mine
set_option maxHeartbeats 8000000 in
theorem law_holds : PySem.Challenge.rw_nb0216_01.Holds := by
  refine Mine.hd ?_
  k_fill
  intro w s₀ s₁ mg mb G Y fa o pm cd doc dV kV ho hd hcd hD hmg hg args vals as hpre hlay hrd hwl hlo
  have KX := km_in_of Y
  km_tabs Y
  have X := (Ground.X G).1
  have V := (Ground.X G).2
  refine Ground.open G ?_
  intro T B D TE TW
  km_lay T hmg ho hd cd
  clear hmg
  wrow_args hpre hlay hrd hwl hlo
  show wpC _ _ (call (.ref fa) _) _ _ _
  refine enterC (tabs := [(70, 66), (63, 59), (35, 31)]) hT9 (fun _ _ => rfl) ?_
  have e1 : dV = .none := (hD.pos.resolve_right fun x => x.1 rfl).2
  have e2 : kV = .none := (hD.kw.resolve_right fun x => x.1 rfl).2
  subst e1 e2
  k_dflt (refine' lawC T.nolimit ho hd hcd (by decide) (BindsTo.of_eq rfl) (kindsX rfl) ?nd ?rest)
  case nd => (dsimp only [docDef]; decide +kernel)
  case rest =>
    intro h₁ tk cells F N Y8
    k_cells Y8
    kn_ghosts F T
    dsimp only [docDef]
    have hL : (@LT.lt Nat _ 142 s₁.heap.objs.size) := frame_gt (by assumption) (by assumption) (by k_is)
    refine' law_body (dp := callerA.depth) (un := callerA.units) (gd := callerA.guards) rfl ?B ?X ?T hL ?d ?u ?CA ?CB ?CS ?F ?hm ?N ?oC ?S ?I ?n ?ret
    case B => k_asm
    case X => k_asm
    case T => k_asm
    case d => decide
    case u => decide
    case CA => assumption
    case CB => assumption
    case CS => assumption
    case F => k_asm
    case hm => rfl
    case N => k_asm
    case oC => assumption
    case S => assumption
    case I => assumption
    case n => omega
    case ret =>
      intro m' ta' tc' td' dr h' tk' F5 N5 q1 q2 q3
      obtain ⟨g1, k1⟩ := tab_mem q1
      obtain ⟨g2, k2⟩ := tab_mem q2
      obtain ⟨g3, k3⟩ := tab_mem q3
      refine ⟨⟨.inl ⟨.bool true, .bool true, [], rfl, fun _ => rfl, .bool true, ?post, fun _ => ⟨List.nodup_nil, fun _ h => nomatch h⟩⟩, fun b o e => F5.keep b o e, rfl, hg⟩, GrownAt.of N5 (List.mem_append_right _ (List.mem_append_left _ k2)), GrownAt.of N5 (List.mem_append_left _ k1), GrownAt.of N5 (List.mem_append_right _ (List.mem_append_right _ k3)), trivial⟩
      case post => first | wrow_post | decide +kernel | fail "post"
end Mine
end

end

set_option maxRecDepth 100000 in
set_option maxHeartbeats 8000000 in
theorem PySem.Challenge.cw_nb0216_01_holds : PySem.Challenge.rw_nb0216_01.Holds := by
  exact Mine.law_holds
